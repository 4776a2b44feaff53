import PyProof.Rows.All
import Wide.All
import OpenK.AllK
import Wide.FinOn
import KE.KTryOn
import KE.KIntText
import PyProof.Draws
import KE.BitLaws
import KE.KxDecode
import PyProof.Rows.CatFin
import KE.KBits
import KE.BytesMulAny
import KE.KLam
import PyProof.Rows.ChunkEnd
import KE.KMulAny
import PyProof.Rows.RotEnd
import PyProof.Rows.ListCopyD
import PySem.Challenge.RW_iw0012_01
set_option Elab.async false
set_option rowWalk.seconds 0
set_option linter.all false
set_option maxRecDepth 100000
set_option maxHeartbeats 4000000
namespace Om
section
variable {a b c d e : Nat} {x y z u v : Int}
theorem n1 (h : a ≤ b) (k : Nat.ble b c = true) : a ≤ c :=Nat.le_trans h (Nat.le_of_ble_eq_true k)
theorem n2 (h : a < b) (k : Nat.ble b (c + 1) = true) : a ≤ c :=Nat.le_of_lt_succ (Nat.lt_of_lt_of_le h (Nat.le_of_ble_eq_true k))
theorem n3 (q : a = b) (h : b ≤ c) (k : Nat.ble c d = true) : a ≤ d :=q ▸ n1 h k
theorem n3b (q : b = a) (h : b ≤ c) (k : Nat.ble c d = true) : a ≤ d :=q ▸ n1 h k
theorem n5 (h : a ≤ b) (k : Nat.ble (b + 1) c = true) : a < c :=Nat.lt_of_le_of_lt h (Nat.le_of_ble_eq_true k)
theorem n6 (h : a < b) (k : Nat.ble b c = true) : a < c :=Nat.lt_of_lt_of_le h (Nat.le_of_ble_eq_true k)
theorem n9 (h : b ≤ a) (k : Nat.ble (c + 1) b = true) : c < a :=Nat.lt_of_lt_of_le (Nat.le_of_ble_eq_true k) h
theorem n10 (h : b ≤ a) (k : Nat.ble c b = true) : c ≤ a :=Nat.le_trans (Nat.le_of_ble_eq_true k) h
theorem n11 (h : a ≤ c) (g : c ≤ b) (k : Nat.ble b d = true) : a ≤ d :=n1 (Nat.le_trans h g) k
theorem n13 (q : a = 20 ∨ a = 32) (k : Nat.ble 32 c = true) : a ≤ c :=n1 (by rcases q with rfl | rfl <;> decide : a ≤ 32) k
theorem n15 (h : b < a) : a ≠ b :=Nat.ne_of_gt h
theorem n16 (h : a < b) : a ≠ b + 1 :=Nat.ne_of_lt (Nat.lt_succ_of_lt h)
theorem n17 (h : a < b) : a ≠ b + 1 + 1 :=Nat.ne_of_lt (Nat.lt_succ_of_lt (Nat.lt_succ_of_lt h))
theorem n18 (h : a < b) : a ≠ b + 1 + 1 + 1 :=Nat.ne_of_lt (Nat.lt_succ_of_lt (Nat.lt_succ_of_lt (Nat.lt_succ_of_lt h)))
theorem n19 (h : a < b) : b + 1 ≠ a :=(n16 h).symm
theorem n20 (h : a < b) : b + 1 + 1 ≠ a :=(n17 h).symm
theorem n21 (h : a < b) : b + 1 + 1 + 1 ≠ a :=(n18 h).symm
theorem n22 : a + 1 ≠ a + 1 + 1 :=Nat.ne_of_lt (Nat.lt_succ_self _)
theorem n23 : a + 1 + 1 ≠ a + 1 :=Nat.ne_of_gt (Nat.lt_succ_self _)
theorem n24 : a + 1 ≠ a + 1 + 1 + 1 :=n16 (Nat.lt_succ_self _)
theorem n25 : a + 1 + 1 + 1 ≠ a + 1 :=n24.symm
theorem n26 : a + 1 + 1 ≠ a + 1 + 1 + 1 :=Nat.ne_of_lt (Nat.lt_succ_self _)
theorem n27 : a + 1 + 1 + 1 ≠ a + 1 + 1 :=Nat.ne_of_gt (Nat.lt_succ_self _)
theorem n29 (h : a = b) : a ≤ b :=Nat.le_of_eq h
theorem n30 (h : b < a) : ¬ a ≤ b :=Nat.not_le_of_gt h
theorem n32 (h : ¬ a ≤ b) : b < a :=Nat.lt_of_not_ge h
theorem n34 (h : a ≤ c) (g : b ≤ d) (k : Nat.ble (c + d) e = true) : a + b ≤ e :=Nat.le_trans (Nat.add_le_add h g) (Nat.le_of_ble_eq_true k)
theorem n35 (h : a ≤ c) (g : b ≤ d) (k : Nat.ble (c + d + 1) e = true) : a + b < e :=Nat.lt_of_le_of_lt (Nat.add_le_add h g) (Nat.le_of_ble_eq_true k)
theorem n37 (h : a < c) (k : Nat.ble (c + b) e = true) : a + b < e :=Nat.lt_of_lt_of_le (Nat.add_lt_add_right h b) (Nat.le_of_ble_eq_true k)
theorem n38 (h : a < c) (g : b = 20 ∨ b = 32) (k : Nat.ble (c + 32) e = true) : a + b ≤ e :=Nat.le_trans (Nat.add_le_add (Nat.le_of_lt h) (n13 (c :=32) g rfl)) (Nat.le_of_ble_eq_true k)
theorem n39 (h : a < c) (g : b = 20 ∨ b = 32) (k : Nat.ble (c + 32) e = true) : a + b < e :=Nat.lt_of_lt_of_le (Nat.add_lt_add_of_lt_of_le h (n13 (c :=32) g rfl)) (Nat.le_of_ble_eq_true k)
theorem n40 (h : a + b < c) : a < c :=Nat.lt_of_le_of_lt (Nat.le_add_right a b) h
theorem n41 (h : a + (b + 1) < c) : a + b < c :=Nat.lt_of_succ_lt h
theorem n42 (h : a + (b + 1) < c) : a + 1 + b < c :=by rw [Nat.add_right_comm];exact h
theorem n43 (h : a + b < c) (g : d ≤ b) : a + d < c :=Nat.lt_of_le_of_lt (Nat.add_le_add_left g a) h
theorem n44 (h : a + b ≤ c) (k : Nat.ble (d + 1) b = true) : a + d < c :=Nat.lt_of_lt_of_le (Nat.add_lt_add_left (Nat.le_of_ble_eq_true k) a) h
theorem n46 (h : a + (b + 1) = c) : a + 1 + b = c :=(Nat.add_right_comm a 1 b).trans h
theorem n47 (h : a + (b + 1) = c) : a < c :=h ▸ Nat.lt_add_of_pos_right (Nat.succ_pos b)
theorem n49 (h : a ≤ b) (k : Nat.ble b c = true) : ¬ a > c :=Nat.not_lt_of_ge (n1 h k)
theorem i1 (h : x ≤ y) (k : decide (y ≤ z) = true) : x ≤ z :=Int.le_trans h (of_decide_eq_true k)
theorem i2 (h : x < y) (k : decide (y ≤ z + 1) = true) : x ≤ z :=Int.le_of_lt_add_one (Int.lt_of_lt_of_le h (of_decide_eq_true k))
theorem i3 (h : x ≤ y) (k : decide (y < z) = true) : x < z :=Int.lt_of_le_of_lt h (of_decide_eq_true k)
theorem i4 (h : x < y) (k : decide (y ≤ z) = true) : x < z :=Int.lt_of_lt_of_le h (of_decide_eq_true k)
theorem i5 (h : y ≤ x) (k : decide (z ≤ y) = true) : z ≤ x :=Int.le_trans (of_decide_eq_true k) h
theorem i7 (h : y ≤ x) (k : decide (z ≤ y) = true) : ¬ x < z :=Int.not_lt.mpr (i5 h k)
theorem i9 (h : x ≤ y) (k : decide (y < z) = true) : ¬ x ≥ z :=Int.not_le.mpr (i3 h k)
theorem i11 (h : 0 ≤ x) : 0 ≤ x + (a : Int) :=Int.add_nonneg h (Int.natCast_nonneg a)
theorem i12 (h : 0 ≤ x) (k : 0 ≤ y) : 0 ≤ x + y :=Int.add_nonneg h k
theorem i13 (h : 1 ≤ x) (k : x ≤ 61) (l : decide (y ≤ 1) = true) (m : decide (61 ≤ z) = true) : y ≤ x ∧ x ≤ z :=⟨i5 h l,i1 k m⟩
theorem i14 (h : 1 ≤ x) : x ≠ 0 :=Int.ne_of_gt h
theorem i17 (h : 0 ≤ x) (g : x ≤ y) (k : decide (y < z) = true) (m : decide (u ≤ 0) = true) : u ≤ x ∧ x < z :=⟨i5 h m,i3 g k⟩
theorem i20 (h : 0 ≤ x) : -x < 1 :=Int.lt_of_le_of_lt (Int.neg_nonpos_of_nonneg h) (by decide)
theorem c1 : (0 : Int) ≤ (a : Int) :=Int.natCast_nonneg a
theorem c2 (h : a ≤ b) (k : decide ((b : Int) ≤ z) = true) : (a : Int) ≤ z :=Int.le_trans (Int.ofNat_le.mpr h) (of_decide_eq_true k)
theorem c3 (h : a ≤ b) (k : decide ((b : Int) < z) = true) : (a : Int) < z :=Int.lt_of_le_of_lt (Int.ofNat_le.mpr h) (of_decide_eq_true k)
theorem c4 (h : (a : Int) ≤ z) (k : decide (z ≤ (b : Int)) = true) : a ≤ b :=Int.ofNat_le.mp (Int.le_trans h (of_decide_eq_true k))
theorem c6 (h : a < b) : (a : Int) < (b : Int) :=Int.ofNat_lt.mpr h
theorem c7 (h : a ≤ b) : (a : Int) ≤ (b : Int) :=Int.ofNat_le.mpr h
theorem c9 (h : a ≤ b) : ¬ (b : Int) < (a : Int) :=Int.not_lt.mpr (Int.ofNat_le.mpr h)
theorem c12 (h : a < 2 ^ 8) : (0 : Int) ≤ (a : Int) ∧ (a : Int) < 256 :=⟨c1,Int.ofNat_lt.mpr h⟩
theorem c13 (h : 0 < a) : (a : Int) ≠ 0 :=Int.ne_of_gt (Int.ofNat_lt.mpr h)
theorem c14 (h : 0 < a) : (0 : Int) < (a : Int) :=Int.ofNat_lt.mpr h
theorem c16 (h : a ≤ b) (k : decide ((b : Int) < z) = true) : ¬ (a : Int) ≥ z :=Int.not_le.mpr (c3 h k)
theorem c17 (k : decide (z ≤ 0) = true) : ¬ (a : Int) < z :=Int.not_lt.mpr (Int.le_trans (of_decide_eq_true k) c1)
theorem c19 (h : 6 ≤ (a : Int)) (g : (a : Int) ≤ 10) : 0 ≤ (a : Int) ∧ (a : Int) ≤ 1000 :=⟨c1,i1 g (by decide)⟩
theorem j2 {p : Prop} (h : p ∧ x < y) (k : decide (y ≤ z + 1) = true) : x ≤ z :=i2 h.2 k
theorem j3 {p : Prop} (h : y ≤ x ∧ p) (k : decide (z ≤ y) = true) : z ≤ x :=i5 h.1 k
theorem j4 {p : Prop} (h : 0 ≤ x ∧ p) (k : decide (0 ≤ y) = true) : 0 ≤ x + y :=i12 h.1 (of_decide_eq_true k)
theorem j7 {p : Prop} (h : a ≤ b ∧ p) (k : Nat.ble (c + 1) a = true) : b ≠ c :=Nat.ne_of_gt (n9 h.1 k)
theorem j8 {p : Prop} (h : p ∧ a ≤ b) (k : Nat.ble (b + 1) c = true) : a < c :=n5 h.2 k
theorem j10 (h : 0 ≤ x ∧ x < 16) (q : a = 20 ∨ a = 32) : x < (a : Int) :=by rcases q with rfl | rfl <;> exact Int.lt_of_lt_of_le h.2 (by decide)
theorem j11 (q : a = 20 ∨ a = 32) : 0 ≤ (a : Int) ∧ (a : Int) ≤ 32 :=by rcases q with rfl | rfl <;> decide
theorem j12 (q : a = 20 ∨ a = 32) : 0 ≤ (a : Int) - 1 :=by rcases q with rfl | rfl <;> decide
theorem j14 : (a : Int) - 1 < (a : Int) :=Int.sub_lt_self _ (by decide)
theorem j15 (h : 0 ≤ x ∧ x ≤ 1000) (k : decide (y ≤ 0) = true) : y ≤ x :=i5 h.1 k
theorem j16 {p : Prop} (h : p ∧ x ≤ y) (k : decide (y ≤ z) = true) : x ≤ z :=i1 h.2 k
theorem j17 (h : 0 ≤ x) (g : x ≤ y) (l : ¬ x < 1) : 0 < x :=Int.not_lt.mp l
theorem j18 (h : a + (b + 1) < c) : a < c :=Nat.lt_of_le_of_lt (Nat.le_add_right a (b + 1)) h
theorem j22 (h : c = a + 1) (k : Nat.ble 1 d = true) : c < a + (d + 1) :=h ▸ Nat.add_lt_add_left (Nat.lt_succ_of_le (Nat.le_of_ble_eq_true k)) a
theorem j23 (k : Nat.ble 1 b = true) : a < a + b :=Nat.lt_add_of_pos_right (Nat.le_of_ble_eq_true k)
theorem j26 (h : 1 ≤ x) : 0 ≤ x :=Int.le_trans (by decide) h
theorem j29 (h : b ≤ a) : (0 : Int) ≤ (a : Int) - (b : Int) :=Int.sub_nonneg.mpr (c7 h)
theorem j30 (h : b ≤ a) : ¬ (a : Int) - (b : Int) < 0 :=Int.not_lt.mpr (j29 h)
theorem j32 (h : a = b) (k : Nat.ble c b = true) : c ≤ a :=h ▸ Nat.le_of_ble_eq_true k
theorem t1 (h : 0 ≤ x) : ((x.toNat : Nat) : Int) = x :=Int.toNat_of_nonneg h
theorem t2 (h : 0 ≤ x) (g : x < (b : Int)) : x.toNat < b :=(Int.toNat_lt h).mpr g
theorem t3 (h : 0 ≤ x) (g : x < y) (k : decide (y ≤ (b : Int)) = true) : x.natAbs < b :=by obtain ⟨n,rfl⟩ :=Int.eq_ofNat_of_zero_le h;exact Int.ofNat_lt.mp (Int.lt_of_lt_of_le g (of_decide_eq_true k))
theorem t4 (h : 0 ≤ x) (g : x ≤ y) (k : decide (y < (b : Int)) = true) : x.natAbs < b :=by obtain ⟨n,rfl⟩ :=Int.eq_ofNat_of_zero_le h;exact Int.ofNat_lt.mp (Int.lt_of_le_of_lt g (of_decide_eq_true k))
theorem t5 (h : 0 ≤ x) (g : x ≤ y) (k : decide (y ≤ (b : Int)) = true) : x.toNat ≤ b :=Int.toNat_le.mpr (Int.le_trans g (of_decide_eq_true k))
theorem t6 (h : 0 ≤ x) (g : x ≤ y) (k : decide (y ≤ (b : Int)) = true) : ¬ x.toNat > b :=Nat.not_lt_of_ge (t5 h g k)
theorem d1 (h : b < 10) : (a * 10 + b) / 10 = a :=by rw [Nat.add_comm,Nat.add_mul_div_right _ _ (by decide),Nat.div_eq_of_lt h,Nat.zero_add]
theorem d2 (h : b < 10) : (a * 10 + b) % 10 = b :=by rw [Nat.add_comm,Nat.add_mul_mod_self_right,Nat.mod_eq_of_lt h]
theorem d3 (h : 48 ≤ a ∧ a ≤ 57) : a - 48 < 10 :=Nat.lt_of_le_of_lt (Nat.sub_le_sub_right h.2 48) (by decide)
theorem d4 : 48 ≤ 48 + a % 10 ∧ 48 + a % 10 ≤ 57 :=⟨Nat.le_add_right _ _,Nat.add_le_add_left (Nat.le_of_lt_succ (Nat.mod_lt _ (by decide))) 48⟩
theorem p1 (h : a ≤ b) : (max 0 (min (a : Int) (b : Int))).toNat = a :=by rw [Int.min_eq_left (Int.ofNat_le.mpr h),Int.max_eq_right c1];rfl
theorem p2 (r : x ≤ y) (g : y < x + ((z - x).toNat : Int)) (h : z ≤ u) : y < u :=by
  rcases Int.le_total x z with q | q
  · rw [Int.toNat_of_nonneg (Int.sub_nonneg_of_le q),Int.add_comm,Int.sub_add_cancel] at g;exact Int.lt_of_lt_of_le g h
  · rw [Int.toNat_eq_zero.mpr (Int.sub_nonpos_of_le q)] at g;exact absurd (Int.lt_of_lt_of_le g (Int.le_of_eq (Int.add_zero x))) (Int.not_lt.mpr r)
theorem p3 (h : 0 ≤ x) (g : x < 2 ^ 60) : (x + 1).natAbs < 256 ^ 8 :=by obtain ⟨n,rfl⟩ :=Int.eq_ofNat_of_zero_le h;exact Nat.lt_of_lt_of_le (Int.ofNat_lt.mp (show ((n + 1 : Nat) : Int) < ((2 ^ 60 + 1 : Nat) : Int) from Int.add_lt_add_right g 1)) (by decide)
theorem p4 (h : 0 ≤ x ∧ x < z) (g : 0 ≤ y ∧ y < 256) : 0 ≤ x * 256 + y ∧ x * 256 + y < z * 256 :=⟨Int.add_nonneg (Int.mul_nonneg h.1 (by decide)) g.1,Int.lt_of_lt_of_le (Int.add_lt_add_left g.2 _) (Int.le_trans (Int.le_of_eq (show x * 256 + 256 = (x + 1) * 256 by rw [Int.add_mul];rfl)) (Int.mul_le_mul_of_nonneg_right h.2 (by decide)))⟩
theorem p5 (h : (a : Int) ≤ 10) (k : Nat.ble 10 b = true) : ((a : Int) - 1).toNat + 1 ≤ b :=Nat.le_trans (Nat.add_le_add_right (Int.toNat_le.mpr (show (a : Int) - 1 ≤ ((9 : Nat) : Int) from Int.sub_le_sub_right h 1)) 1) (Nat.le_of_ble_eq_true k)
theorem p6 (h : (a : Int) ≤ 10) (k : Nat.ble 11 b = true) : (a : Int).toNat + 1 ≤ b :=Nat.le_trans (Nat.add_le_add_right (Int.ofNat_le.mp h) 1) (Nat.le_of_ble_eq_true k)
theorem p7 (h : a ≤ 64) (g : b ≤ 64) (k : Nat.ble 128 c = true) : b + ((a : Int) - (b : Int)).toNat ≤ c :=Nat.le_trans (by rw [Int.toNat_sub];exact Nat.add_le_add g (Nat.le_trans (Nat.sub_le _ _) h)) (Nat.le_of_ble_eq_true k)
theorem p8 (h : a ≤ b) (g : b ≤ 64) : a + ((b : Int) - (a : Int)).toNat ≤ 64 :=by rw [Int.toNat_sub,Nat.add_sub_cancel' h];exact g
theorem p9 (h : a < b) (g : b ≤ 64) (k : Nat.ble 64 c = true) : a + (b - a) ≤ c :=by rw [Nat.add_sub_cancel' (Nat.le_of_lt h)];exact n1 g k
theorem r1 (h : a + 8 * (b + 1) < c) (k : d ≤ 8) : a + d + 8 * b < c :=Nat.lt_of_le_of_lt (by rw [Nat.add_assoc];exact Nat.add_le_add_left (by rw [Nat.mul_add,Nat.add_comm];exact Nat.add_le_add_left k _) a) h
theorem r2 (h : a + 8 * b < c) (k : d ≤ b) : a + 8 * d < c :=Nat.lt_of_le_of_lt (Nat.add_le_add_left (Nat.mul_le_mul_left 8 k) a) h
theorem r3 (h : a + (b + 1) < c) (k : d ≤ 1) : a + d + b < c :=by rw [Nat.add_right_comm];exact Nat.lt_of_le_of_lt (Nat.add_le_add_left k _) h
theorem t7 (h : 1 ≤ x) (g : x ≤ 61) (k : Nat.ble 62 b = true) : x.natAbs < b :=t4 (y :=61) (Int.le_trans (by decide) h) g (decide_eq_true (Int.ofNat_lt.mpr (Nat.le_of_ble_eq_true k)))
theorem fin (P : Int → Prop) (k : Nat) (h : 0 ≤ x) (g : x < (k : Int)) (q : ∀ n : Nat,n < k → P n) : P x :=by obtain ⟨n,rfl⟩ :=Int.eq_ofNat_of_zero_le h;exact q n (Int.ofNat_lt.mp g)
theorem h1 (h : a = 20 ∧ b = 22 ∨ a = 32 ∧ b = 36) : a = 20 ∨ a = 32 :=h.imp And.left And.left
theorem h2 (h : a = 20 ∧ b = 22 ∨ a = 32 ∧ b = 36) : (a : Int) = 20 ∨ (a : Int) = 32 :=h.imp (fun (e : a = 20 ∧ b = 22)=>e.1 ▸ rfl) (fun (e : a = 32 ∧ b = 36)=>e.1 ▸ rfl)
theorem h3 (h : a = 20 ∧ b = 22 ∨ a = 32 ∧ b = 36) : 20 ≤ a ∧ b ≤ 64 ∧ a < b ∧ a ≤ b ∧ 16 ≤ (b : Int) ∧ 20 ≤ (a : Int) ∧ (a : Int) ≤ 32 :=by rcases h with ⟨rfl,rfl⟩ | ⟨rfl,rfl⟩ <;> decide
theorem h4 (h : a = 20 ∨ a = 32) : 20 ≤ a :=by rcases h with rfl | rfl <;> decide
theorem l5 (k : Nat) (h : 518 < c) (q : Nat.ble a 518 = true) : a ≠ c + k :=Nat.ne_of_lt (Nat.lt_of_le_of_lt (Nat.le_of_ble_eq_true q) (Nat.lt_of_lt_of_le h (Nat.le_add_right c k)))
theorem l5s (k : Nat) (h : 518 < c) (q : Nat.ble a 518 = true) : c + k ≠ a :=(l5 k h q).symm
theorem l6 (i j : Nat) (q : Nat.beq i j = false) : c + i ≠ c + j :=fun e=>Nat.ne_of_beq_eq_false q (Nat.add_left_cancel e)
theorem g1 (e : 6 + x = (a : Int)) (h : 0 ≤ x ∧ x < 5) : 6 ≤ a ∧ a ≤ 10 :=⟨Int.ofNat_le.mp (Int.le_trans (Int.le_add_of_nonneg_right h.1) (Int.le_of_eq e)),Int.ofNat_le.mp (Int.le_trans (Int.le_of_eq e.symm) (Int.add_le_add_left (Int.le_of_lt_add_one (show x < 4 + 1 from h.2)) 6))⟩
theorem g2 (h : 0 ≤ x ∧ x < 61) : 1 ≤ 1 + x ∧ 1 + x ≤ 61 :=⟨Int.le_add_of_nonneg_right h.1,Int.add_le_add_left (Int.le_of_lt_add_one (show x < 60 + 1 from h.2)) 1⟩
theorem g3 (e : 1 + x = (a : Int)) (h : 0 ≤ x) (g : x < 24) : 1 ≤ a ∧ a ≤ 24 :=⟨Int.ofNat_le.mp (Int.le_trans (Int.le_add_of_nonneg_right h) (Int.le_of_eq e)),Int.ofNat_le.mp (Int.le_trans (Int.le_of_eq e.symm) (Int.add_le_add_left (Int.le_of_lt_add_one (show x < 23 + 1 from g)) 1))⟩
theorem g4 (h : 0 ≤ x ∧ x < 256) : 0 ≤ x / 16 ∧ x / 16 < 16 :=⟨Int.ediv_nonneg h.1 (by decide),Int.ediv_lt_of_lt_mul (by decide) h.2⟩
theorem g5 (h1 : x ≤ 2 ^ 42) (h2 : y ≤ x) (h3 : z < 7) : max 0 (y + z - 3) ≤ 2 ^ 43 :=Int.max_le.mpr ⟨by decide,Int.le_trans (Int.sub_le_sub_right (Int.add_le_add (Int.le_trans h2 h1) (Int.le_of_lt h3)) 3) (by decide)⟩
theorem g6 (h : 6 ≤ a) : min 4 a + (0 + 1) + (a - 4) = a + 1 :=(by rw [Nat.min_eq_left (Nat.le_trans (by decide) h)];exact (Nat.add_right_comm 4 (0 + 1) (a - 4)).trans (congrArg (· + 1) (Nat.add_sub_cancel' (Nat.le_trans (by decide) h))))
theorem g7 (h : 0 ≤ x ∧ x < 6) : x = 0 ∨ x = 1 ∨ x = 2 ∨ x = 3 ∨ x = 4 ∨ x = 5 :=fin (fun x=>x = 0 ∨ x = 1 ∨ x = 2 ∨ x = 3 ∨ x = 4 ∨ x = 5) 6 h.1 h.2 (by decide)
theorem g8 (h : 0 ≤ x ∧ x < 3) : x = 0 ∨ x = 1 ∨ x = 2 :=fin (fun x=>x = 0 ∨ x = 1 ∨ x = 2) 3 h.1 h.2 (by decide)
theorem g9 (h : 0 ≤ x ∧ x < 5) : x - 2 = -2 ∨ x - 2 = -1 ∨ x - 2 = 0 ∨ x - 2 = 1 ∨ x - 2 = 2 :=fin (fun x=>x - 2 = -2 ∨ x - 2 = -1 ∨ x - 2 = 0 ∨ x - 2 = 1 ∨ x - 2 = 2) 5 h.1 h.2 (by decide)
theorem g10 (h : 0 ≤ x) (g : x ≤ 2 ^ 40 + 100 * (a : Int)) (k : x ≤ y) (l : y ≤ x + 100) : 0 ≤ y ∧ y ≤ 2 ^ 40 + 100 * ((a + 1 : Nat) : Int) :=⟨Int.le_trans h k,Int.le_trans l (Int.le_trans (Int.add_le_add_right g 100) (Int.le_of_eq (by rw [Int.natCast_add,Int.mul_add,Int.add_assoc];rfl)))⟩
theorem g11 (h : a ≤ 100) (g : x ≤ 2 ^ 40 + 100 * (a : Int)) : x ≤ 2 ^ 41 :=Int.le_trans g (Int.le_trans (Int.add_le_add_left (Int.mul_le_mul_of_nonneg_left (Int.ofNat_le.mpr h) (by decide)) _) (by decide))
theorem g13 (h : 6 ≤ x) (g : 0 ≤ y ∧ y < 5) : 0 < (x + 1 + y).toNat ∧ ((x + 1 + y).toNat : Int) ≠ x ∧ 0 < (x - 1 - y).toNat ∧ ((x - 1 - y).toNat : Int) ≠ x :=by
  have p : 0 < x :=Int.lt_of_lt_of_le (by decide) h
  have r : x < x + 1 + y :=Int.lt_of_lt_of_le (Int.lt_succ x) (Int.le_add_of_nonneg_right g.1)
  have s : 0 < x - 1 - y :=Int.sub_pos_of_lt (Int.lt_of_lt_of_le g.2 (Int.le_sub_right_of_add_le h))
  refine ⟨Int.lt_toNat.mpr (Int.lt_trans p r), ?_,Int.lt_toNat.mpr s, ?_⟩
  · rw [Int.toNat_of_nonneg (Int.le_of_lt (Int.lt_trans p r))];exact Int.ne_of_gt r
  · rw [Int.toNat_of_nonneg (Int.le_of_lt s)];exact Int.ne_of_lt (Int.lt_of_le_of_lt (Int.sub_le_self _ g.1) (Int.sub_lt_self x (by decide)))
theorem g17 (h : 6 ≤ x) (k : x ≤ 10) (g : 0 ≤ y ∧ y < 5) : (0 ≤ x + 1 + y ∧ x + 1 + y ≤ 1000) ∧ (0 ≤ x - 1 - y ∧ x - 1 - y ≤ 1000) :=⟨⟨Int.add_nonneg (Int.add_nonneg (Int.le_trans (by decide) h) (by decide)) g.1,Int.le_trans (Int.add_le_add (Int.add_le_add_right k 1) (Int.le_of_lt g.2)) (by decide)⟩,Int.le_of_lt (Int.sub_pos_of_lt (Int.lt_of_lt_of_le g.2 (Int.le_sub_right_of_add_le h))),Int.le_trans (Int.sub_le_self _ g.1) (Int.le_trans (Int.sub_le_self _ (by decide)) (Int.le_trans k (by decide)))⟩
theorem g19 (h : x + (a : Int) = y) : (y - x).toNat = a :=by rw [← h,Int.add_comm,Int.add_sub_cancel];rfl
theorem g20 (h : x ≤ y) (g : y ≤ x + 100) (k : x ≤ 2 ^ 41) : y ≤ 2 ^ 42 :=Int.le_trans g (Int.le_trans (Int.add_le_add_right k 100) (by decide))
theorem u1 (h : a ≤ 10) : 0 + 1 + a ≤ 1000 ∧ 0 + 1 + a + (0 + 1 + 1 + 1) ≤ 1000 :=⟨Nat.le_trans (Nat.add_le_add_left h _) (by decide),Nat.le_trans (Nat.add_le_add_right (Nat.add_le_add_left h _) _) (by decide)⟩
theorem u3 (h : a ≤ 10) (g : b ≤ 10) : 0 + 1 + a + (0 + 1 + 1 + 1) + b ≤ 1000 ∧ 0 + 1 + a + (0 + 1 + 1 + 1) + b + (0 + 1) ≤ 1000 ∧ a + (0 + 1) + b ≤ 1000 :=⟨Nat.le_trans (Nat.add_le_add (Nat.add_le_add_right (Nat.add_le_add_left h _) _) g) (by decide),Nat.le_trans (Nat.add_le_add_right (Nat.add_le_add (Nat.add_le_add_right (Nat.add_le_add_left h _) _) g) _) (by decide),Nat.le_trans (Nat.add_le_add (Nat.add_le_add_right h _) g) (by decide)⟩
theorem k1 (h : (y - x).toNat = a) (q : x < y) : y - x - 1 + 1 = (a : Int) :=(Int.sub_add_cancel _ 1).trans ((Int.toNat_of_nonneg (Int.sub_nonneg_of_le (Int.le_of_lt q))).symm.trans (congrArg Nat.cast h))
theorem k2 (h : (y - x).toNat = a) (q : ¬ x < y) : 0 = (a : Int) :=congrArg (Nat.cast (R :=Int)) ((Int.toNat_eq_zero.mpr (Int.sub_nonpos_of_le (Int.not_lt.mp q))).symm.trans h)
theorem k3 (h : z ≤ 2 ^ 60) (g : (z - x).toNat = a) (k : b < a) : x + (b : Int) < 2 ^ 60 :=Int.lt_of_lt_of_le (Int.add_lt_of_lt_sub_left (Int.lt_toNat.mp (Nat.lt_of_lt_of_eq k g.symm))) h
theorem k5 (h : ¬ y ≤ x) : x + ((y - x).toNat : Int) = y :=by rw [Int.toNat_of_nonneg (Int.sub_nonneg_of_le (Int.le_of_lt (Int.not_le.mp h))),Int.add_comm,Int.sub_add_cancel]
theorem k7 (h : y < x + 1 + (a : Int)) : y < x + ((a + 1 : Nat) : Int) :=Int.lt_of_lt_of_le h (Int.le_of_eq (by rw [Int.add_assoc,Int.add_comm 1];rfl))
theorem k8 (h : x + ((a + 1 : Nat) : Int) = y) : x < y :=Int.lt_of_lt_of_le (Int.lt_add_of_pos_right x (Int.ofNat_lt.mpr (Nat.succ_pos a))) (Int.le_of_eq h)
theorem k9 (h : x + ((a + 1 : Nat) : Int) = y) : x + 1 + (a : Int) = y :=by rw [Int.add_assoc,Int.add_comm 1];exact h
theorem k10 (h : x ≤ 2 ^ 41) (g : y ≤ 200) (k : z ≤ 200) : x + y + z ≤ 2 ^ 41 + 400 :=Int.le_trans (Int.add_le_add (Int.add_le_add h g) k) (by decide)
theorem k11 (h : 0 ≤ x) (g : -200 ≤ y) (k : 0 ≤ z) : -400 ≤ x + y + z :=Int.le_trans (by decide) (Int.add_le_add (Int.add_le_add h g) k)
theorem k12 (h : x ≤ 2 ^ 41) (g : y ≤ 200) (k : 0 ≤ z) : x + y - z ≤ 2 ^ 41 + 400 :=Int.le_trans (Int.sub_le_self _ k) (Int.le_trans (Int.add_le_add h g) (by decide))
theorem k13 (h : -100 ≤ x) (g : x ≤ 100) : x.natAbs < 256 ^ 1 :=by omega
theorem k14 (h : 0 ≤ x ∧ x < 2) : x = 0 ∨ x = 1 :=fin (fun x=>x = 0 ∨ x = 1) 2 h.1 h.2 (by decide)
theorem k15 (h : 0 ≤ x ∧ x < 5) : -100 ≤ x - 2 ∧ x - 2 ≤ 100 :=fin (fun x=>-100 ≤ x - 2 ∧ x - 2 ≤ 100) 5 h.1 h.2 (by decide)
theorem k16 (e : x = 0 ∨ x = 1 ∨ x = 2) (h : 0 ≤ y ∧ y < 2) (g : 1 ≤ z) (k : z ≤ 61) : 0 ≤ x * z + y ∧ x * z + y ≤ 200 :=by have p : 0 ≤ x ∧ x ≤ 2 :=by { rcases e with rfl | rfl | rfl <;> decide };exact ⟨Int.add_nonneg (Int.mul_nonneg p.1 (Int.le_trans (by decide) g)) h.1,Int.le_trans (Int.add_le_add (Int.mul_le_mul p.2 k (Int.le_trans (by decide) g) (by decide)) (Int.le_of_lt h.2)) (by decide)⟩
theorem k17 (e : x = -2 ∨ x = -1 ∨ x = 0 ∨ x = 1 ∨ x = 2) (g : 1 ≤ z) (k : z ≤ 61) : -200 ≤ x * z ∧ x * z ≤ 200 :=by rcases e with rfl | rfl | rfl | rfl | rfl <;> exact fin (fun z=>-200 ≤ _ * z ∧ _ * z ≤ 200) 62 (Int.le_trans (by decide) g) (Int.lt_add_one_of_le k) (by decide)
theorem k18 (h : 0 ≤ x ∧ x ≤ 2147483647) : x.natAbs < 2 ^ 32 :=Nat.lt_of_le_of_lt (show x.natAbs ≤ 2147483647 by obtain ⟨n,rfl⟩ :=Int.eq_ofNat_of_zero_le h.1;exact Int.ofNat_le.mp h.2) (by decide)
theorem k20 (h : 0 ≤ x ∧ x ≤ 2 ^ 50) (g : y < z) (k : z ≤ 61) : x + y < 2 ^ 60 :=Int.lt_of_le_of_lt (Int.add_le_add h.2 (Int.le_of_lt (Int.lt_of_lt_of_le g k))) (by decide)
theorem k21 (h : a < 8 * b) (g : b ≤ 2 ^ 21) (e : c = 134217728) : ¬ a ≥ c :=Nat.not_le.mpr (Nat.lt_of_lt_of_le h (Nat.le_trans (Nat.mul_le_mul_left 8 g) (Nat.le_trans (by decide) (Nat.le_of_eq e.symm))))
theorem k22 (h : a + b ≤ 2 ^ 22) (g : c ≤ 8 * a) (k : d ≤ 8 * b) : ¬ (c : Int) + (d : Int) > ((134217728 : Nat) : Int) :=fun q=>absurd (Int.ofNat_lt.mp (show ((134217728 : Nat) : Int) < ((c + d : Nat) : Int) from q)) (Nat.not_lt.mpr (Nat.le_trans (Nat.add_le_add g k) (Nat.le_trans (Nat.le_of_eq (Nat.mul_add 8 a b).symm) (Nat.le_trans (Nat.mul_le_mul_left 8 h) (by decide)))))
theorem k23 (e : 4 + x = (a : Int)) (h : 0 ≤ x ∧ x < 16) : (0 ≤ (a : Int) ∧ (a : Int) ≤ 64) ∧ ¬ (a : Int) < 4 ∧ a ≤ 64 ∧ (a : Int) < 20 :=by have p : 4 ≤ (a : Int) :=Int.le_trans (Int.le_add_of_nonneg_right h.1) (Int.le_of_eq e);have q : (a : Int) ≤ 19 :=Int.le_trans (Int.le_of_eq e.symm) (Int.add_le_add_left (Int.le_of_lt_add_one (show x < 15 + 1 from h.2)) 4);exact ⟨⟨c1,Int.le_trans q (by decide)⟩,Int.not_lt.mpr p,Int.ofNat_le.mp (Int.le_trans q (by decide)),Int.lt_of_le_of_lt q (by decide)⟩
end
end Om
open PySem PySem.W PyProof.Rows
open PySem.Str (ofString)
namespace Hd
abbrev Led :=List (Addr × Obj)
abbrev VP :=Value → Shared → Prop
abbrev FP :=Flow → Shared → Prop
abbrev MP :=Str → Option Value
theorem ap (a : True :=by rfl) (b : ∀ _ : Nat,True :=by intro _;rfl) (c : True :=by with_unfolding_all rfl) (d : ∀ _ : Nat,True :=by intro _;with_unfolding_all rfl) (e : ∀ _ _ : Nat,True :=by intro _ _;with_unfolding_all rfl) (f : True :=by decide) : True :=trivial
noncomputable section
noncomputable abbrev pw : Program :=PySem.Challenge.pw_iw0012_01
noncomputable def tp (i : Nat) : Stmt :=pw.main.body.getD i (.Pass ⟨0, 0, 0, 0⟩)
noncomputable def cB : Stmt → List Stmt
  | .ClassDef _ _ _ b _ _ _ _ _ _ _=>b
  | _=>[]
noncomputable def mt (i j : Nat) : Stmt :=(cB (tp i)).getD j (.Pass ⟨0, 0, 0, 0⟩)
noncomputable def fP : Stmt → Arguments
  | .FunctionDef _ a _ _ _ _ _ _ _ _=>a
  | _=>default
noncomputable def fB : Stmt → FuncBody
  | .FunctionDef _ _ b _ _ _ _ _ _ _=>.stmts b
  | _=>.stmts []
noncomputable def fS : Stmt → Scope
  | .FunctionDef _ _ _ _ _ _ s _ _ _=>s
  | _=>default
noncomputable abbrev dS (x : String) (t : Nat) : Value :=.str (ofString x) t
noncomputable abbrev dE (P : Params) (x : String) (t : Nat) (v : Value) : DictEntry :=⟨PyData.keyHash P (ofString x), .str (ofString x) t,v⟩
noncomputable abbrev tu (x : List Value) : Obj :=⟨.type "tuple",none, .seq x.toArray 0, [].toArray⟩
noncomputable abbrev nf (x : List Value) : Obj :=⟨.none,none, .fields x.toArray, [].toArray⟩
noncomputable abbrev tf (c : String) (x : List Value) : Obj :=⟨.type c,none, .fields x.toArray, [].toArray⟩
noncomputable abbrev dc (x : List DictEntry) (n : Nat) : Obj :=⟨.type "dict",none, .dict x.toArray n, [].toArray⟩
noncomputable abbrev ll (x : List Value) (n : Nat) : Obj :=⟨.type "list",none, .seq x.toArray n, [].toArray⟩
noncomputable abbrev by1 (x : Array UInt8) : Obj :=⟨.type "bytearray",none, .bytearray x 0, [].toArray⟩
noncomputable abbrev cd (a : String) (a1 : Nat) (b : String) (b1 c1 : Nat) (i j k l m : Int) (r : Nat) (f : Bool) (s : Nat) (v w x y : Value) (n o : Int) (d1 : Nat) : Obj :=⟨.type "code",none, .fields [dS a a1,dS b b1,dS "/claim/cut.py" c1, .int i 0, .int j 0, .int k 0, .int l 0, .int m 0, .ref r, .bool f, .int 181 0, .ref s,v,w,x,y, .int n 0, .int o 0,dS "/claim/cut.py" d1].toArray, [].toArray⟩
noncomputable abbrev f0 (a b : String) (s : Stmt) : Obj :=⟨.none,none, .func { name :=ofString a,qualname :=ofString b,params :=fP s,body :=fB s,scope :=fS s,globals :=0,closure :=[],defaults :=.none,kwdefaults :=.none,doc :=.none,pyModule :=.none,annotations :=none,code :=.none,closureTuple :=.none,builtins :=0 }, [].toArray⟩
noncomputable abbrev fn (a b : String) (s : Stmt) (c : List (Str × Addr)) (d e f : Value) (g : String) (g1 : Nat) (h : Option Addr) (i : Nat) (j : Value) : Obj :=⟨.type "function",none, .func { name :=ofString a,qualname :=ofString b,params :=fP s,body :=fB s,scope :=fS s,globals :=3,closure :=c,defaults :=d,kwdefaults :=e,doc :=f,pyModule :=dS g g1,annotations :=h,code :=.ref i,closureTuple :=j,builtins :=0 }, [].toArray⟩
noncomputable abbrev lf (x : Obj) : BT :=.node x .nil .nil
noncomputable abbrev i8 (n : Nat) (a b c d e f g h : Obj) (T : BT) : BT :=T |>.ins n a |>.ins (n + 1) b |>.ins (n + 2) c |>.ins (n + 3) d |>.ins (n + 4) e |>.ins (n + 5) f |>.ins (n + 6) g |>.ins (n + 7) h
def o11 (P : Params) :=tu []
def o12 (P : Params) :=nf []
def o13 (P : Params) :=cd "<module>" 182 "<module>" 183 184 1 0 0 0 0 11 false 12 .none .none .none .none 185 1 186
noncomputable def o14 (P : Params) : Obj :=⟨(.type "frame"),none, .plain, [(some (.ref 13)),(some (.ref 3)),(some (.ref 3)),none,(some (dS "__main__" 164)),none,(some (.ref 0))].toArray⟩
noncomputable def T0 (P : Params) : BT :=(.node (boot_o_0 P) (.node (boot_o_1 P) (.node (boot_o_3 P) (lf (boot_o_7 P)) (lf (o11 P))) (.node (boot_o_5 P) (lf (boot_o_9 P)) (lf (o13 P)))) (.node (boot_o_2 P) (.node (boot_o_4 P) (lf (boot_o_8 P)) (lf (o12 P))) (.node (boot_o_6 P) (lf (boot_o_10 P)) (lf (o14 P)))))
noncomputable def e3_1 (P : Params) :=[dE P "__doc__" 166 .none,dE P "__package__" 167 .none,dE P "__loader__" 168 (.builtin "__main__.__loader__#opaque"),dE P "__spec__" 169 .none,dE P "__annotations__" 170 (.ref 6),dE P "__builtins__" 171 (.ref 4),dE P "__file__" 173 (dS "/claim/cut.py" 172),dE P "__cached__" 174 .none,dE P "_wall" 193 (.ref 21),dE P "TokenError" 227 (.ref 41),dE P "MalformedTokenError" 245 (.ref 54),dE P "InvalidTokenError" 263 (.ref 66),dE P "UsedTokenError" 294 (.ref 87),dE P "ExpectedTypeError" 303 (.ref 96),dE P "ExpectedStringError" 311 (.ref 103),dE P "SequenceMixin" 380 (.ref 155),dE P "consteq" 394 (.ref 166),dE P "to_bytes" 405 (.ref 174),dE P "to_unicode" 416 (.ref 182)]
def o3_1 (P : Params) :=dc (dE P "__name__" 165 (dS "passlib.crypto.digest" 417) :: e3_1 P) 20
def o12_1 (P : Params) :=nf [(.int 1 0),(.int 0 0),(.ref 20),(.int 5 0),(.int 0 0),(.ref 28),(.int 12 0),(.int 0 0),(.ref 50),(.int 14 0),(.int 0 0),(.ref 62),(.int 16 0),(.int 0 0),(.ref 75),(.int 23 0),(.int 0 0),(.ref 95),(.int 25 0),(.int 0 0),(.ref 102),(.int 28 0),(.int 0 0),(.ref 109),(.int 48 0),(.int 0 0),(.ref 165),(.int 73 0),(.int 0 0),(.ref 173),(.int 83 0),(.int 0 0),(.ref 181)]
def o15 (P : Params) :=tu []
def o16 (P : Params) :=nf []
def o17 (P : Params) :=tu [(dS "k" 190)]
def o18 (P : Params) :=tu []
def o19 (P : Params) :=f0 "_wall" "_wall" (tp 0)
def o20 (P : Params) :=cd "_wall" 187 "_wall" 188 189 1 1 0 0 3 15 true 16 .none (.ref 17) (.ref 18) (.ref 19) 191 1 192
def o21 (P : Params) :=fn "_wall" "_wall" (tp 0) [] .none .none .none "__main__" 164 none 20 .none
def o22 (P : Params) :=tu [(.type "ValueError")]
def o23 (P : Params) :=tf "builtin_function_or_method" [(.builtin "type.__prepare__"),(.type "type")]
def o24 (P : Params) :=dc [dE P "__module__" 203 (dS "passlib.exc" 194),dE P "__qualname__" 205 (dS "TokenError" 204),dE P "__firstlineno__" 207 (.int (5) 206),dE P "_default_message" 209 (dS "Token not acceptable" 208),dE P "__init__" 220 (.ref 38),dE P "__static_attributes__" 221 (.ref 39),dE P "__classcell__" 222 (.ref 25)] 7
noncomputable def o25 (P : Params) : Obj :=⟨(.type "cell"),none,(.cell (some (.ref 41))), [].toArray⟩
def o26 (P : Params) :=tu []
def o27 (P : Params) :=nf [(.int 8 0),(.int 4 0),(.ref 37)]
def o28 (P : Params) :=cd "TokenError" 198 "TokenError" 199 200 5 0 0 0 0 26 false 27 .none .none .none .none 201 5 202
noncomputable def o29 (P : Params) : Obj :=⟨(.type "frame"),none, .plain, [(some (.ref 28)),(some (.ref 3)),(some (.ref 24)),none,(some (dS "passlib.exc" 194)),none,(some (.ref 0))].toArray⟩
def o30 (P : Params) :=tu [.none]
def o31 (P : Params) :=tu [(.ref 25)]
def o32 (P : Params) :=tu [(dS "__class__" 213)]
def o33 (P : Params) :=nf []
def o34 (P : Params) :=tu [(dS "self" 214),(dS "msg" 215),(dS "args" 216),(dS "kwds" 217)]
def o35 (P : Params) :=tu []
def o36 (P : Params) :=f0 "__init__" "TokenError.__init__" (mt 2 1)
def o37 (P : Params) :=cd "__init__" 210 "TokenError.__init__" 211 212 8 2 0 0 15 32 true 33 .none (.ref 34) (.ref 35) (.ref 36) 218 8 219
def o38 (P : Params) :=fn "__init__" "TokenError.__init__" (mt 2 1) [((ofString "__class__"), 25)] (.ref 30) .none .none "passlib.exc" 194 none 37 (.ref 31)
def o39 (P : Params) :=tu []
def o40 (P : Params) :=dc [dE P "__module__" 203 (dS "passlib.exc" 194),dE P "__firstlineno__" 207 (.int (5) 206),dE P "_default_message" 209 (dS "Token not acceptable" 208),dE P "__init__" 220 (.ref 38),dE P "__static_attributes__" 221 (.ref 39),dE P "__weakref__" 224 (.ref 42),dE P "__doc__" 225 .none] 4
noncomputable def o41 (P : Params) : Obj :=⟨(.type "type"),none,(.cls { name :=(ofString "TokenError"),bases :=[(.type "ValueError")],mro :=[(.ref 41),(.type "ValueError"),(.type "Exception"),(.type "BaseException"),(.type "object")],ns :=40,qualname :=(ofString "TokenError"),hasDict :=true,slotNames :=[],subclasses :=[(.ref 54),(.ref 66),(.ref 87)],abstract :=false,collection :=none,hasDel :=false }), [(some (.ref 22)),none,(some (dS "TokenError" 196)),(some (dS "TokenError" 204)),(some (.builtin "ValueError.__new__")),(some (.bool true))].toArray⟩
def o42 (P : Params) :=tf "getset_descriptor" [(dS "__weakref__" 223),(.ref 41),(.builtin "ExceptionGroup.__weakref__"), .none]
def o43 (P : Params) :=tf "super" [(.ref 41),(.ref 41),(.ref 41)]
def o44 (P : Params) :=tf "builtin_function_or_method" [(.builtin "object.__init_subclass__"),(.ref 41)]
def o45 (P : Params) :=tu [(.ref 41)]
def o46 (P : Params) :=tf "builtin_function_or_method" [(.builtin "type.__prepare__"),(.type "type")]
def o47 (P : Params) :=dc [dE P "__module__" 235 (dS "passlib.exc" 194),dE P "__qualname__" 237 (dS "MalformedTokenError" 236),dE P "__firstlineno__" 239 (.int (12) 238),dE P "_default_message" 241 (dS "Unrecognized token" 240),dE P "__static_attributes__" 242 (.ref 52)] 5
def o48 (P : Params) :=tu []
def o49 (P : Params) :=nf []
def o50 (P : Params) :=cd "MalformedTokenError" 230 "MalformedTokenError" 231 232 12 0 0 0 0 48 false 49 .none .none .none .none 233 12 234
noncomputable def o51 (P : Params) : Obj :=⟨(.type "frame"),none, .plain, [(some (.ref 50)),(some (.ref 3)),(some (.ref 47)),none,(some (dS "passlib.exc" 194)),none,(some (.ref 0))].toArray⟩
def o52 (P : Params) :=tu []
def o53 (P : Params) :=dc [dE P "__module__" 235 (dS "passlib.exc" 194),dE P "__firstlineno__" 239 (.int (12) 238),dE P "_default_message" 241 (dS "Unrecognized token" 240),dE P "__static_attributes__" 242 (.ref 52),dE P "__doc__" 243 .none] 2
noncomputable def o54 (P : Params) : Obj :=⟨(.type "type"),none,(.cls { name :=(ofString "MalformedTokenError"),bases :=[(.ref 41)],mro :=[(.ref 54),(.ref 41),(.type "ValueError"),(.type "Exception"),(.type "BaseException"),(.type "object")],ns :=53,qualname :=(ofString "MalformedTokenError"),hasDict :=true,slotNames :=[],subclasses :=[],abstract :=false,collection :=none,hasDel :=false }), [(some (.ref 45)),none,(some (dS "MalformedTokenError" 228)),(some (dS "MalformedTokenError" 236)),(some (.builtin "ValueError.__new__")),(some (.bool true))].toArray⟩
def o55 (P : Params) :=tf "super" [(.ref 54),(.ref 54),(.ref 54)]
def o56 (P : Params) :=tf "builtin_function_or_method" [(.builtin "object.__init_subclass__"),(.ref 54)]
def o57 (P : Params) :=tu [(.ref 41)]
def o58 (P : Params) :=tf "builtin_function_or_method" [(.builtin "type.__prepare__"),(.type "type")]
def o59 (P : Params) :=dc [dE P "__module__" 253 (dS "passlib.exc" 194),dE P "__qualname__" 255 (dS "InvalidTokenError" 254),dE P "__firstlineno__" 257 (.int (14) 256),dE P "_default_message" 259 (dS "Token did not match" 258),dE P "__static_attributes__" 260 (.ref 64)] 5
def o60 (P : Params) :=tu []
def o61 (P : Params) :=nf []
def o62 (P : Params) :=cd "InvalidTokenError" 248 "InvalidTokenError" 249 250 14 0 0 0 0 60 false 61 .none .none .none .none 251 14 252
noncomputable def o63 (P : Params) : Obj :=⟨(.type "frame"),none, .plain, [(some (.ref 62)),(some (.ref 3)),(some (.ref 59)),none,(some (dS "passlib.exc" 194)),none,(some (.ref 0))].toArray⟩
def o64 (P : Params) :=tu []
def o65 (P : Params) :=dc [dE P "__module__" 253 (dS "passlib.exc" 194),dE P "__firstlineno__" 257 (.int (14) 256),dE P "_default_message" 259 (dS "Token did not match" 258),dE P "__static_attributes__" 260 (.ref 64),dE P "__doc__" 261 .none] 2
noncomputable def o66 (P : Params) : Obj :=⟨(.type "type"),none,(.cls { name :=(ofString "InvalidTokenError"),bases :=[(.ref 41)],mro :=[(.ref 66),(.ref 41),(.type "ValueError"),(.type "Exception"),(.type "BaseException"),(.type "object")],ns :=65,qualname :=(ofString "InvalidTokenError"),hasDict :=true,slotNames :=[],subclasses :=[],abstract :=false,collection :=none,hasDel :=false }), [(some (.ref 57)),none,(some (dS "InvalidTokenError" 246)),(some (dS "InvalidTokenError" 254)),(some (.builtin "ValueError.__new__")),(some (.bool true))].toArray⟩
def o67 (P : Params) :=tf "super" [(.ref 66),(.ref 66),(.ref 66)]
def o68 (P : Params) :=tf "builtin_function_or_method" [(.builtin "object.__init_subclass__"),(.ref 66)]
def o69 (P : Params) :=tu [(.ref 41)]
def o70 (P : Params) :=tf "builtin_function_or_method" [(.builtin "type.__prepare__"),(.type "type")]
def o71 (P : Params) :=dc [dE P "__module__" 271 (dS "passlib.exc" 194),dE P "__qualname__" 273 (dS "UsedTokenError" 272),dE P "__firstlineno__" 275 (.int (16) 274),dE P "_default_message" 277 (dS "Token has already been used, please wait for another." 276),dE P "expire_time" 278 .none,dE P "__init__" 288 (.ref 84),dE P "__static_attributes__" 290 (.ref 85),dE P "__classcell__" 291 (.ref 72)] 8
noncomputable def o72 (P : Params) : Obj :=⟨(.type "cell"),none,(.cell (some (.ref 87))), [].toArray⟩
def o73 (P : Params) :=tu []
def o74 (P : Params) :=nf [(.int 20 0),(.int 4 0),(.ref 83)]
def o75 (P : Params) :=cd "UsedTokenError" 266 "UsedTokenError" 267 268 16 0 0 0 0 73 false 74 .none .none .none .none 269 16 270
noncomputable def o76 (P : Params) : Obj :=⟨(.type "frame"),none, .plain, [(some (.ref 75)),(some (.ref 3)),(some (.ref 71)),none,(some (dS "passlib.exc" 194)),none,(some (.ref 0))].toArray⟩
def o77 (P : Params) :=tu [(.ref 72)]
def o78 (P : Params) :=tu [(dS "__class__" 282)]
def o79 (P : Params) :=nf []
def o80 (P : Params) :=tu [(dS "self" 283),(dS "args" 284),(dS "kwds" 285)]
def o81 (P : Params) :=tu []
def o82 (P : Params) :=f0 "__init__" "UsedTokenError.__init__" (mt 5 2)
def o83 (P : Params) :=cd "__init__" 279 "UsedTokenError.__init__" 280 281 20 1 0 0 15 78 true 79 .none (.ref 80) (.ref 81) (.ref 82) 286 20 287
def o84 (P : Params) :=fn "__init__" "UsedTokenError.__init__" (mt 5 2) [((ofString "__class__"), 72)] .none .none .none "passlib.exc" 194 none 83 (.ref 77)
def o85 (P : Params) :=tu [(dS "expire_time" 289)]
def o86 (P : Params) :=dc [dE P "__module__" 271 (dS "passlib.exc" 194),dE P "__firstlineno__" 275 (.int (16) 274),dE P "_default_message" 277 (dS "Token has already been used, please wait for another." 276),dE P "expire_time" 278 .none,dE P "__init__" 288 (.ref 84),dE P "__static_attributes__" 290 (.ref 85),dE P "__doc__" 292 .none] 3
noncomputable def o87 (P : Params) : Obj :=⟨(.type "type"),none,(.cls { name :=(ofString "UsedTokenError"),bases :=[(.ref 41)],mro :=[(.ref 87),(.ref 41),(.type "ValueError"),(.type "Exception"),(.type "BaseException"),(.type "object")],ns :=86,qualname :=(ofString "UsedTokenError"),hasDict :=true,slotNames :=[],subclasses :=[],abstract :=false,collection :=none,hasDel :=false }), [(some (.ref 69)),none,(some (dS "UsedTokenError" 264)),(some (dS "UsedTokenError" 272)),(some (.builtin "ValueError.__new__")),(some (.bool true))].toArray⟩
def o88 (P : Params) :=tf "super" [(.ref 87),(.ref 87),(.ref 87)]
def o89 (P : Params) :=tf "builtin_function_or_method" [(.builtin "object.__init_subclass__"),(.ref 87)]
def o90 (P : Params) :=tu []
def o91 (P : Params) :=nf []
def o92 (P : Params) :=tu [(dS "value" 298),(dS "expected" 299),(dS "param" 300)]
def o93 (P : Params) :=tu []
def o94 (P : Params) :=f0 "ExpectedTypeError" "ExpectedTypeError" (tp 6)
def o95 (P : Params) :=cd "ExpectedTypeError" 295 "ExpectedTypeError" 296 297 23 3 0 0 3 90 true 91 .none (.ref 92) (.ref 93) (.ref 94) 301 23 302
def o96 (P : Params) :=fn "ExpectedTypeError" "ExpectedTypeError" (tp 6) [] .none .none .none "passlib.exc" 194 none 95 .none
def o97 (P : Params) :=tu []
def o98 (P : Params) :=nf []
def o99 (P : Params) :=tu [(dS "value" 307),(dS "param" 308)]
def o100 (P : Params) :=tu []
def o101 (P : Params) :=f0 "ExpectedStringError" "ExpectedStringError" (tp 7)
def o102 (P : Params) :=cd "ExpectedStringError" 304 "ExpectedStringError" 305 306 25 2 0 0 3 97 true 98 .none (.ref 99) (.ref 100) (.ref 101) 309 25 310
def o103 (P : Params) :=fn "ExpectedStringError" "ExpectedStringError" (tp 7) [] .none .none .none "passlib.exc" 194 none 102 .none
def o104 (P : Params) :=tu [(.type "object")]
def o105 (P : Params) :=tf "builtin_function_or_method" [(.builtin "type.__prepare__"),(.type "type")]
def o106 (P : Params) :=dc [dE P "__module__" 321 (dS "passlib.utils" 312),dE P "__qualname__" 323 (dS "SequenceMixin" 322),dE P "__firstlineno__" 325 (.int (28) 324),dE P "_as_tuple" 332 (.ref 117),dE P "__getitem__" 340 (.ref 124),dE P "__iter__" 348 (.ref 131),dE P "__len__" 355 (.ref 138),dE P "__eq__" 363 (.ref 145),dE P "__ne__" 371 (.ref 152),dE P "__static_attributes__" 372 (.ref 153)] 10
def o107 (P : Params) :=tu []
def o108 (P : Params) :=nf [(.int 30 0),(.int 4 0),(.ref 116),(.int 33 0),(.int 4 0),(.ref 123),(.int 36 0),(.int 4 0),(.ref 130),(.int 40 0),(.int 4 0),(.ref 137),(.int 43 0),(.int 4 0),(.ref 144),(.int 46 0),(.int 4 0),(.ref 151)]
def o109 (P : Params) :=cd "SequenceMixin" 316 "SequenceMixin" 317 318 28 0 0 0 0 107 false 108 .none .none .none .none 319 28 320
noncomputable def o110 (P : Params) : Obj :=⟨(.type "frame"),none, .plain, [(some (.ref 109)),(some (.ref 3)),(some (.ref 106)),none,(some (dS "passlib.utils" 312)),none,(some (.ref 0))].toArray⟩
def o111 (P : Params) :=tu []
def o112 (P : Params) :=nf []
def o113 (P : Params) :=tu [(dS "self" 329)]
def o114 (P : Params) :=tu []
def o115 (P : Params) :=f0 "_as_tuple" "SequenceMixin._as_tuple" (mt 9 0)
def o116 (P : Params) :=cd "_as_tuple" 326 "SequenceMixin._as_tuple" 327 328 30 1 0 0 3 111 true 112 .none (.ref 113) (.ref 114) (.ref 115) 330 30 331
def o117 (P : Params) :=fn "_as_tuple" "SequenceMixin._as_tuple" (mt 9 0) [] .none .none .none "passlib.utils" 312 none 116 .none
def o118 (P : Params) :=tu []
def o119 (P : Params) :=nf []
def o120 (P : Params) :=tu [(dS "self" 336),(dS "idx" 337)]
def o121 (P : Params) :=tu []
def o122 (P : Params) :=f0 "__getitem__" "SequenceMixin.__getitem__" (mt 9 1)
def o123 (P : Params) :=cd "__getitem__" 333 "SequenceMixin.__getitem__" 334 335 33 2 0 0 3 118 true 119 .none (.ref 120) (.ref 121) (.ref 122) 338 33 339
def o124 (P : Params) :=fn "__getitem__" "SequenceMixin.__getitem__" (mt 9 1) [] .none .none .none "passlib.utils" 312 none 123 .none
def o125 (P : Params) :=tu []
def o126 (P : Params) :=nf []
def o127 (P : Params) :=tu [(dS "self" 344),(dS "one" 345)]
def o128 (P : Params) :=tu []
def o129 (P : Params) :=f0 "__iter__" "SequenceMixin.__iter__" (mt 9 2)
def o130 (P : Params) :=cd "__iter__" 341 "SequenceMixin.__iter__" 342 343 36 1 0 0 35 125 true 126 .none (.ref 127) (.ref 128) (.ref 129) 346 36 347
def o131 (P : Params) :=fn "__iter__" "SequenceMixin.__iter__" (mt 9 2) [] .none .none .none "passlib.utils" 312 none 130 .none
def o132 (P : Params) :=tu []
def o133 (P : Params) :=nf []
def o134 (P : Params) :=tu [(dS "self" 352)]
def o135 (P : Params) :=tu []
def o136 (P : Params) :=f0 "__len__" "SequenceMixin.__len__" (mt 9 3)
def o137 (P : Params) :=cd "__len__" 349 "SequenceMixin.__len__" 350 351 40 1 0 0 3 132 true 133 .none (.ref 134) (.ref 135) (.ref 136) 353 40 354
def o138 (P : Params) :=fn "__len__" "SequenceMixin.__len__" (mt 9 3) [] .none .none .none "passlib.utils" 312 none 137 .none
def o139 (P : Params) :=tu []
def o140 (P : Params) :=nf []
def o141 (P : Params) :=tu [(dS "self" 359),(dS "other" 360)]
def o142 (P : Params) :=tu []
def o143 (P : Params) :=f0 "__eq__" "SequenceMixin.__eq__" (mt 9 4)
def o144 (P : Params) :=cd "__eq__" 356 "SequenceMixin.__eq__" 357 358 43 2 0 0 3 139 true 140 .none (.ref 141) (.ref 142) (.ref 143) 361 43 362
def o145 (P : Params) :=fn "__eq__" "SequenceMixin.__eq__" (mt 9 4) [] .none .none .none "passlib.utils" 312 none 144 .none
def o146 (P : Params) :=tu []
def o147 (P : Params) :=nf []
def o148 (P : Params) :=tu [(dS "self" 367),(dS "other" 368)]
def o149 (P : Params) :=tu []
def o150 (P : Params) :=f0 "__ne__" "SequenceMixin.__ne__" (mt 9 5)
def o151 (P : Params) :=cd "__ne__" 364 "SequenceMixin.__ne__" 365 366 46 2 0 0 3 146 true 147 .none (.ref 148) (.ref 149) (.ref 150) 369 46 370
def o152 (P : Params) :=fn "__ne__" "SequenceMixin.__ne__" (mt 9 5) [] .none .none .none "passlib.utils" 312 none 151 .none
def o153 (P : Params) :=tu []
def o154 (P : Params) :=dc [dE P "__module__" 321 (dS "passlib.utils" 312),dE P "__firstlineno__" 325 (.int (28) 324),dE P "_as_tuple" 332 (.ref 117),dE P "__getitem__" 340 (.ref 124),dE P "__iter__" 348 (.ref 131),dE P "__len__" 355 (.ref 138),dE P "__eq__" 363 (.ref 145),dE P "__ne__" 371 (.ref 152),dE P "__static_attributes__" 372 (.ref 153),dE P "__dict__" 374 (.ref 156),dE P "__weakref__" 376 (.ref 157),dE P "__doc__" 377 .none,dE P "__hash__" 378 .none] 5
noncomputable def o155 (P : Params) : Obj :=⟨(.type "type"),none,(.cls { name :=(ofString "SequenceMixin"),bases :=[(.type "object")],mro :=[(.ref 155),(.type "object")],ns :=154,qualname :=(ofString "SequenceMixin"),hasDict :=true,slotNames :=[],subclasses :=[],abstract :=false,collection :=none,hasDel :=false }), [(some (.ref 104)),none,(some (dS "SequenceMixin" 314)),(some (dS "SequenceMixin" 322)),(some (.builtin "object.__new__")),(some (.bool true))].toArray⟩
def o156 (P : Params) :=tf "getset_descriptor" [(dS "__dict__" 373),(.ref 155),(.builtin "function.__dict__"),(.builtin "function.__dict__#set")]
def o157 (P : Params) :=tf "getset_descriptor" [(dS "__weakref__" 375),(.ref 155),(.builtin "ExceptionGroup.__weakref__"), .none]
def o158 (P : Params) :=tf "super" [(.ref 155),(.ref 155),(.ref 155)]
def o159 (P : Params) :=tf "builtin_function_or_method" [(.builtin "object.__init_subclass__"),(.ref 155)]
def o160 (P : Params) :=tu []
def o161 (P : Params) :=nf []
def o162 (P : Params) :=tu [(dS "left" 384),(dS "right" 385),(dS "is_py3_bytes" 386),(dS "same_size" 387),(dS "tmp" 388),(dS "result" 389),(dS "l" 390),(dS "r" 391)]
def o163 (P : Params) :=tu []
def o164 (P : Params) :=f0 "consteq" "consteq" (tp 10)
def o165 (P : Params) :=cd "consteq" 381 "consteq" 382 383 48 2 0 0 3 160 true 161 .none (.ref 162) (.ref 163) (.ref 164) 392 48 393
def o166 (P : Params) :=fn "consteq" "consteq" (tp 10) [] .none .none .none "passlib.utils" 312 none 165 .none
def o167 (P : Params) :=tu [(dS "utf-8" 395),(dS "value" 396)]
def o168 (P : Params) :=tu []
def o169 (P : Params) :=nf []
def o170 (P : Params) :=tu [(dS "source" 400),(dS "encoding" 401),(dS "param" 402)]
def o171 (P : Params) :=tu []
def o172 (P : Params) :=f0 "to_bytes" "to_bytes" (tp 11)
def o173 (P : Params) :=cd "to_bytes" 397 "to_bytes" 398 399 73 3 0 0 3 168 true 169 .none (.ref 170) (.ref 171) (.ref 172) 403 73 404
def o174 (P : Params) :=fn "to_bytes" "to_bytes" (tp 11) [] (.ref 167) .none .none "passlib.utils" 312 none 173 .none
def o175 (P : Params) :=tu [(dS "utf-8" 406),(dS "value" 407)]
def o176 (P : Params) :=tu []
def o177 (P : Params) :=nf []
def o178 (P : Params) :=tu [(dS "source" 411),(dS "encoding" 412),(dS "param" 413)]
def o179 (P : Params) :=tu []
def o180 (P : Params) :=f0 "to_unicode" "to_unicode" (tp 12)
def o181 (P : Params) :=cd "to_unicode" 408 "to_unicode" 409 410 83 3 0 0 3 176 true 177 .none (.ref 178) (.ref 179) (.ref 180) 414 83 415
def o182 (P : Params) :=fn "to_unicode" "to_unicode" (tp 12) [] (.ref 175) .none .none "passlib.utils" 312 none 181 .none
noncomputable def T1 (P : Params) : BT :=(T0 P) |>.set 3 (fun _=>o3_1 P) |>.set 12 (fun _=>o12_1 P) |> i8 15 (o15 P) (o16 P) (o17 P) (o18 P) (o19 P) (o20 P) (o21 P) (o22 P) |> i8 23 (o23 P) (o24 P) (o25 P) (o26 P) (o27 P) (o28 P) (o29 P) (o30 P) |> i8 31 (o31 P) (o32 P) (o33 P) (o34 P) (o35 P) (o36 P) (o37 P) (o38 P) |> i8 39 (o39 P) (o40 P) (o41 P) (o42 P) (o43 P) (o44 P) (o45 P) (o46 P) |> i8 47 (o47 P) (o48 P) (o49 P) (o50 P) (o51 P) (o52 P) (o53 P) (o54 P) |> i8 55 (o55 P) (o56 P) (o57 P) (o58 P) (o59 P) (o60 P) (o61 P) (o62 P) |> i8 63 (o63 P) (o64 P) (o65 P) (o66 P) (o67 P) (o68 P) (o69 P) (o70 P) |> i8 71 (o71 P) (o72 P) (o73 P) (o74 P) (o75 P) (o76 P) (o77 P) (o78 P) |> i8 79 (o79 P) (o80 P) (o81 P) (o82 P) (o83 P) (o84 P) (o85 P) (o86 P) |> i8 87 (o87 P) (o88 P) (o89 P) (o90 P) (o91 P) (o92 P) (o93 P) (o94 P) |> i8 95 (o95 P) (o96 P) (o97 P) (o98 P) (o99 P) (o100 P) (o101 P) (o102 P) |> i8 103 (o103 P) (o104 P) (o105 P) (o106 P) (o107 P) (o108 P) (o109 P) (o110 P) |> i8 111 (o111 P) (o112 P) (o113 P) (o114 P) (o115 P) (o116 P) (o117 P) (o118 P) |> i8 119 (o119 P) (o120 P) (o121 P) (o122 P) (o123 P) (o124 P) (o125 P) (o126 P) |> i8 127 (o127 P) (o128 P) (o129 P) (o130 P) (o131 P) (o132 P) (o133 P) (o134 P) |> i8 135 (o135 P) (o136 P) (o137 P) (o138 P) (o139 P) (o140 P) (o141 P) (o142 P) |> i8 143 (o143 P) (o144 P) (o145 P) (o146 P) (o147 P) (o148 P) (o149 P) (o150 P) |> i8 151 (o151 P) (o152 P) (o153 P) (o154 P) (o155 P) (o156 P) (o157 P) (o158 P) |> i8 159 (o159 P) (o160 P) (o161 P) (o162 P) (o163 P) (o164 P) (o165 P) (o166 P) |> i8 167 (o167 P) (o168 P) (o169 P) (o170 P) (o171 P) (o172 P) (o173 P) (o174 P) |> i8 175 (o175 P) (o176 P) (o177 P) (o178 P) (o179 P) (o180 P) (o181 P) (o182 P)
noncomputable def e3_2 (P : Params) :=e3_1 P ++ [dE P "_TRANS_5C" 1447 (.bytes (Array.mk [92, 93, 94, 95, 88, 89, 90, 91, 84, 85, 86, 87, 80, 81, 82, 83, 76, 77, 78, 79, 72, 73, 74, 75, 68, 69, 70, 71, 64, 65, 66, 67, 124, 125, 126, 127, 120, 121, 122, 123, 116, 117, 118, 119, 112, 113, 114, 115, 108, 109, 110, 111, 104, 105, 106, 107, 100, 101, 102, 103, 96, 97, 98, 99, 28, 29, 30, 31, 24, 25, 26, 27, 20, 21, 22, 23, 16, 17, 18, 19, 12, 13, 14, 15, 8, 9, 10, 11, 4, 5, 6, 7, 0, 1, 2, 3, 60, 61, 62, 63, 56, 57, 58, 59, 52, 53, 54, 55, 48, 49, 50, 51, 44, 45, 46, 47, 40, 41, 42, 43, 36, 37, 38, 39, 32, 33, 34, 35, 220, 221, 222, 223, 216, 217, 218, 219, 212, 213, 214, 215, 208, 209, 210, 211, 204, 205, 206, 207, 200, 201, 202, 203, 196, 197, 198, 199, 192, 193, 194, 195, 252, 253, 254, 255, 248, 249, 250, 251, 244, 245, 246, 247, 240, 241, 242, 243, 236, 237, 238, 239, 232, 233, 234, 235, 228, 229, 230, 231, 224, 225, 226, 227, 156, 157, 158, 159, 152, 153, 154, 155, 148, 149, 150, 151, 144, 145, 146, 147, 140, 141, 142, 143, 136, 137, 138, 139, 132, 133, 134, 135, 128, 129, 130, 131, 188, 189, 190, 191, 184, 185, 186, 187, 180, 181, 182, 183, 176, 177, 178, 179, 172, 173, 174, 175, 168, 169, 170, 171, 164, 165, 166, 167, 160, 161, 162, 163]) 1446)]
def o3_2 (P : Params) :=dc (dE P "__name__" 165 (dS "passlib.crypto.digest" 417) :: e3_2 P) 21
def o183 (P : Params) :=tf "range" [(.int (0) 420),(.int (256) 419),(.int (1) 421)]
def o184 (P : Params) :=tf "range_iterator" [(.int (256) 0),(.int (0) 0),(.int (1) 0)]
noncomputable def l185 : List Value :=(List.range 256).map fun k=>.int (Int.ofNat (k ^^^ 92)) (425 + 4 * k)
def o185 (P : Params) :=ll l185 256
def o186 (P : Params) :=dc [] 2
def o187 (P : Params) :=tu []
def o188 (P : Params) :=tf "StopIteration" [(.ref 187), .none, .none, .none,(.bool false), .none]
def o189 (P : Params) :=tf "list_iterator" [.none,(.int (256) 0)]
noncomputable def b190 : Array UInt8 :=Array.mk ((List.range 256).map fun k=>(k ^^^ 92).toUInt8)
def o190 (P : Params) :=by1 b190
def o191 (P : Params) :=tu []
def o192 (P : Params) :=tf "StopIteration" [(.ref 191), .none, .none, .none,(.bool false), .none]
noncomputable def T2 (P : Params) : BT :=(T1 P) |>.set 3 (fun _=>o3_2 P) |> i8 183 (o183 P) (o184 P) (o185 P) (o186 P) (o187 P) (o188 P) (o189 P) (o190 P) |>.ins 191 (o191 P) |>.ins 192 (o192 P)
noncomputable def e3_3 (P : Params) :=e3_2 P ++ [dE P "_TRANS_36" 2476 (.bytes (Array.mk [54, 55, 52, 53, 50, 51, 48, 49, 62, 63, 60, 61, 58, 59, 56, 57, 38, 39, 36, 37, 34, 35, 32, 33, 46, 47, 44, 45, 42, 43, 40, 41, 22, 23, 20, 21, 18, 19, 16, 17, 30, 31, 28, 29, 26, 27, 24, 25, 6, 7, 4, 5, 2, 3, 0, 1, 14, 15, 12, 13, 10, 11, 8, 9, 118, 119, 116, 117, 114, 115, 112, 113, 126, 127, 124, 125, 122, 123, 120, 121, 102, 103, 100, 101, 98, 99, 96, 97, 110, 111, 108, 109, 106, 107, 104, 105, 86, 87, 84, 85, 82, 83, 80, 81, 94, 95, 92, 93, 90, 91, 88, 89, 70, 71, 68, 69, 66, 67, 64, 65, 78, 79, 76, 77, 74, 75, 72, 73, 182, 183, 180, 181, 178, 179, 176, 177, 190, 191, 188, 189, 186, 187, 184, 185, 166, 167, 164, 165, 162, 163, 160, 161, 174, 175, 172, 173, 170, 171, 168, 169, 150, 151, 148, 149, 146, 147, 144, 145, 158, 159, 156, 157, 154, 155, 152, 153, 134, 135, 132, 133, 130, 131, 128, 129, 142, 143, 140, 141, 138, 139, 136, 137, 246, 247, 244, 245, 242, 243, 240, 241, 254, 255, 252, 253, 250, 251, 248, 249, 230, 231, 228, 229, 226, 227, 224, 225, 238, 239, 236, 237, 234, 235, 232, 233, 214, 215, 212, 213, 210, 211, 208, 209, 222, 223, 220, 221, 218, 219, 216, 217, 198, 199, 196, 197, 194, 195, 192, 193, 206, 207, 204, 205, 202, 203, 200, 201]) 2475)]
def o3_3 (P : Params) :=dc (dE P "__name__" 165 (dS "passlib.crypto.digest" 417) :: e3_3 P) 22
def o193 (P : Params) :=tf "range" [(.int (0) 1449),(.int (256) 1448),(.int (1) 1450)]
def o194 (P : Params) :=tf "range_iterator" [(.int (256) 0),(.int (0) 0),(.int (1) 0)]
noncomputable def l195 : List Value :=(List.range 256).map fun k=>.int (Int.ofNat (k ^^^ 54)) (1454 + 4 * k)
def o195 (P : Params) :=ll l195 256
def o196 (P : Params) :=dc [] 2
def o197 (P : Params) :=tu []
def o198 (P : Params) :=tf "StopIteration" [(.ref 197), .none, .none, .none,(.bool false), .none]
def o199 (P : Params) :=tf "list_iterator" [.none,(.int (256) 0)]
noncomputable def b200 : Array UInt8 :=Array.mk ((List.range 256).map fun k=>(k ^^^ 54).toUInt8)
def o200 (P : Params) :=by1 b200
def o201 (P : Params) :=tu []
def o202 (P : Params) :=tf "StopIteration" [(.ref 201), .none, .none, .none,(.bool false), .none]
noncomputable def T3 (P : Params) : BT :=(T2 P) |>.set 3 (fun _=>o3_3 P) |> i8 193 (o193 P) (o194 P) (o195 P) (o196 P) (o197 P) (o198 P) (o199 P) (o200 P) |>.ins 201 (o201 P) |>.ins 202 (o202 P)
noncomputable def e3_4 (P : Params) :=e3_3 P ++ [dE P "compile_hmac" 2482 (.ref 207),dE P "_clean_signs" 2486 (dS "\t\n\x0b\x0c\x0d\x1c\x1d\x1e\x1f                  　-=" 2485),dE P "_pack_uint64" 2493 (.ref 214),dE P "_unpack_uint32" 2500 (.ref 221)]
def o3_4 (P : Params) :=dc (dE P "__name__" 165 (dS "passlib.totp" 2483) :: e3_4 P) 26
def o12_4 (P : Params) :=nf [(.int 1 0),(.int 0 0),(.ref 20),(.int 5 0),(.int 0 0),(.ref 28),(.int 12 0),(.int 0 0),(.ref 50),(.int 14 0),(.int 0 0),(.ref 62),(.int 16 0),(.int 0 0),(.ref 75),(.int 23 0),(.int 0 0),(.ref 95),(.int 25 0),(.int 0 0),(.ref 102),(.int 28 0),(.int 0 0),(.ref 109),(.int 48 0),(.int 0 0),(.ref 165),(.int 73 0),(.int 0 0),(.ref 173),(.int 83 0),(.int 0 0),(.ref 181),(.int 96 0),(.int 0 0),(.ref 206),(.int 115 0),(.int 0 0),(.ref 213),(.int 117 0),(.int 0 0),(.ref 220)]
def o203 (P : Params) :=tu []
def o204 (P : Params) :=nf []
def o205 (P : Params) :=f0 "compile_hmac" "compile_hmac" (tp 16)
def o206 (P : Params) :=cd "compile_hmac" 2477 "compile_hmac" 2478 2479 96 2 0 0 3 203 true 204 .none .none .none (.ref 205) 2480 96 2481
def o207 (P : Params) :=fn "compile_hmac" "compile_hmac" (tp 16) [] .none .none .none "passlib.crypto.digest" 417 none 206 .none
def o208 (P : Params) :=tu []
def o209 (P : Params) :=nf []
def o210 (P : Params) :=tu [(dS "value" 2490)]
def o211 (P : Params) :=tu []
def o212 (P : Params) :=f0 "_pack_uint64" "_pack_uint64" (tp 19)
def o213 (P : Params) :=cd "_pack_uint64" 2487 "_pack_uint64" 2488 2489 115 1 0 0 3 208 true 209 .none (.ref 210) (.ref 211) (.ref 212) 2491 115 2492
def o214 (P : Params) :=fn "_pack_uint64" "_pack_uint64" (tp 19) [] .none .none .none "passlib.totp" 2483 none 213 .none
def o215 (P : Params) :=tu []
def o216 (P : Params) :=nf []
def o217 (P : Params) :=tu [(dS "value" 2497)]
def o218 (P : Params) :=tu []
def o219 (P : Params) :=f0 "_unpack_uint32" "_unpack_uint32" (tp 20)
def o220 (P : Params) :=cd "_unpack_uint32" 2494 "_unpack_uint32" 2495 2496 117 1 0 0 3 215 true 216 .none (.ref 217) (.ref 218) (.ref 219) 2498 117 2499
def o221 (P : Params) :=fn "_unpack_uint32" "_unpack_uint32" (tp 20) [] .none .none .none "passlib.totp" 2483 none 220 .none
noncomputable def T4 (P : Params) : BT :=(T3 P) |>.set 3 (fun _=>o3_4 P) |>.set 12 (fun _=>o12_4 P) |> i8 203 (o203 P) (o204 P) (o205 P) (o206 P) (o207 P) (o208 P) (o209 P) (o210 P) |> i8 211 (o211 P) (o212 P) (o213 P) (o214 P) (o215 P) (o216 P) (o217 P) (o218 P) |>.ins 219 (o219 P) |>.ins 220 (o220 P) |>.ins 221 (o221 P)
noncomputable def e3_5 (P : Params) :=e3_4 P ++ [dE P "TOTP" 2747 (.ref 360)]
def o3_5 (P : Params) :=dc (dE P "__name__" 165 (dS "passlib.totp" 2483) :: e3_5 P) 27
def o12_5 (P : Params) :=nf [(.int 1 0),(.int 0 0),(.ref 20),(.int 5 0),(.int 0 0),(.ref 28),(.int 12 0),(.int 0 0),(.ref 50),(.int 14 0),(.int 0 0),(.ref 62),(.int 16 0),(.int 0 0),(.ref 75),(.int 23 0),(.int 0 0),(.ref 95),(.int 25 0),(.int 0 0),(.ref 102),(.int 28 0),(.int 0 0),(.ref 109),(.int 48 0),(.int 0 0),(.ref 165),(.int 73 0),(.int 0 0),(.ref 173),(.int 83 0),(.int 0 0),(.ref 181),(.int 96 0),(.int 0 0),(.ref 206),(.int 115 0),(.int 0 0),(.ref 213),(.int 117 0),(.int 0 0),(.ref 220),(.int 119 0),(.int 0 0),(.ref 227)]
def o222 (P : Params) :=tu [(.type "object")]
def o223 (P : Params) :=tf "builtin_function_or_method" [(.builtin "type.__prepare__"),(.type "type")]
def o224 (P : Params) :=dc [dE P "__module__" 2508 (dS "passlib.totp" 2483),dE P "__qualname__" 2510 (dS "TOTP" 2509),dE P "__firstlineno__" 2512 (.int (119) 2511),dE P "_key" 2513 .none,dE P "_encrypted_key" 2514 .none,dE P "_keyed_hmac" 2515 .none,dE P "digits" 2517 (.int (6) 2516),dE P "alg" 2518 .none,dE P "label" 2519 .none,dE P "issuer" 2520 .none,dE P "period" 2522 (.int (30) 2521),dE P "__init__" 2536 (.ref 236),dE P "_check_serial" 2558 (.ref 246),dE P "_check_label" 2577 (.ref 256),dE P "_check_issuer" 2596 (.ref 266),dE P "key" 2604 (.ref 284),dE P "hex_key" 2621 (.ref 290),dE P "pretty_key" 2632 (.ref 298),dE P "normalize_time" 2652 (.ref 307),dE P "_time_to_counter" 2660 (.ref 315),dE P "_counter_to_time" 2668 (.ref 322),dE P "normalize_token" 2674 (.ref 327),dE P "generate" 2684 (.ref 334),dE P "_generate" 2698 (.ref 341),dE P "match" 2716 (.ref 349),dE P "_find_match" 2730 (.ref 357),dE P "__static_attributes__" 2740 (.ref 358)] 27
def o225 (P : Params) :=tu []
def o226 (P : Params) :=nf [(.int 129 0),(.int 4 0),(.ref 235),(.int 155 0),(.int 4 0),(.ref 243),(.int 162 0),(.int 4 0),(.ref 253),(.int 167 0),(.int 4 0),(.ref 263),(.int 172 0),(.int 4 0),(.ref 273),(.int 176 0),(.int 4 0),(.ref 282),(.int 183 0),(.int 4 0),(.ref 288),(.int 186 0),(.int 4 0),(.ref 297),(.int 190 0),(.int 4 0),(.ref 304),(.int 196 0),(.int 4 0),(.ref 314),(.int 199 0),(.int 4 0),(.ref 321),(.int 202 0),(.int 4 0),(.ref 326),(.int 215 0),(.int 4 0),(.ref 333),(.int 223 0),(.int 4 0),(.ref 340),(.int 239 0),(.int 4 0),(.ref 348),(.int 253 0),(.int 4 0),(.ref 356)]
def o227 (P : Params) :=cd "TOTP" 2503 "TOTP" 2504 2505 119 0 0 0 0 225 false 226 .none .none .none .none 2506 119 2507
noncomputable def o228 (P : Params) : Obj :=⟨(.type "frame"),none, .plain, [(some (.ref 227)),(some (.ref 3)),(some (.ref 224)),none,(some (dS "passlib.totp" 2483)),none,(some (.ref 0))].toArray⟩
def o229 (P : Params) :=tu [.none, .none, .none, .none]
def o230 (P : Params) :=tu []
def o231 (P : Params) :=nf []
def o232 (P : Params) :=tu [(dS "self" 2526),(dS "key" 2527),(dS "alg" 2528),(dS "digits" 2529),(dS "period" 2530),(dS "label" 2531),(dS "issuer" 2532),(dS "digest_size" 2533)]
def o233 (P : Params) :=tu []
def o234 (P : Params) :=f0 "__init__" "TOTP.__init__" (mt 21 8)
def o235 (P : Params) :=cd "__init__" 2523 "TOTP.__init__" 2524 2525 129 7 0 0 3 230 true 231 .none (.ref 232) (.ref 233) (.ref 234) 2534 129 2535
def o236 (P : Params) :=fn "__init__" "TOTP.__init__" (mt 21 8) [] (.ref 229) .none .none "passlib.totp" 2483 none 235 .none
def o237 (P : Params) :=tu [(.int (0) 2537)]
def o238 (P : Params) :=tu []
def o239 (P : Params) :=nf []
def o240 (P : Params) :=tu [(dS "value" 2541),(dS "param" 2542),(dS "minval" 2543)]
def o241 (P : Params) :=tu []
def o242 (P : Params) :=f0 "_check_serial" "TOTP._check_serial" (mt 21 9)
def o243 (P : Params) :=cd "_check_serial" 2538 "TOTP._check_serial" 2539 2540 154 3 0 0 3 238 true 239 .none (.ref 240) (.ref 241) (.ref 242) 2544 154 2545
def o244 (P : Params) :=fn "_check_serial" "TOTP._check_serial" (mt 21 9) [] (.ref 237) .none .none "passlib.totp" 2483 (some 247) 243 .none
def o245 (P : Params) :=dc [dE P "__module__" 2547 (dS "passlib.totp" 2483),dE P "__name__" 2550 (dS "_check_serial" 2549),dE P "__qualname__" 2553 (dS "TOTP._check_serial" 2552),dE P "__doc__" 2555 .none,dE P "__annotations__" 2557 (.ref 247)] 5
noncomputable def o246 (P : Params) : Obj :=⟨(.type "staticmethod"),(some 245),(.fields [(.ref 244),(.bool false)].toArray), [].toArray⟩
def o247 (P : Params) :=dc [] 0
def o248 (P : Params) :=tu []
def o249 (P : Params) :=nf []
def o250 (P : Params) :=tu [(dS "label" 2562)]
def o251 (P : Params) :=tu []
def o252 (P : Params) :=f0 "_check_label" "TOTP._check_label" (mt 21 10)
def o253 (P : Params) :=cd "_check_label" 2559 "TOTP._check_label" 2560 2561 161 1 0 0 3 248 true 249 .none (.ref 250) (.ref 251) (.ref 252) 2563 161 2564
def o254 (P : Params) :=fn "_check_label" "TOTP._check_label" (mt 21 10) [] .none .none .none "passlib.totp" 2483 (some 257) 253 .none
def o255 (P : Params) :=dc [dE P "__module__" 2566 (dS "passlib.totp" 2483),dE P "__name__" 2569 (dS "_check_label" 2568),dE P "__qualname__" 2572 (dS "TOTP._check_label" 2571),dE P "__doc__" 2574 .none,dE P "__annotations__" 2576 (.ref 257)] 5
noncomputable def o256 (P : Params) : Obj :=⟨(.type "staticmethod"),(some 255),(.fields [(.ref 254),(.bool false)].toArray), [].toArray⟩
def o257 (P : Params) :=dc [] 0
def o258 (P : Params) :=tu []
def o259 (P : Params) :=nf []
def o260 (P : Params) :=tu [(dS "issuer" 2581)]
def o261 (P : Params) :=tu []
def o262 (P : Params) :=f0 "_check_issuer" "TOTP._check_issuer" (mt 21 11)
def o263 (P : Params) :=cd "_check_issuer" 2578 "TOTP._check_issuer" 2579 2580 166 1 0 0 3 258 true 259 .none (.ref 260) (.ref 261) (.ref 262) 2582 166 2583
def o264 (P : Params) :=fn "_check_issuer" "TOTP._check_issuer" (mt 21 11) [] .none .none .none "passlib.totp" 2483 (some 267) 263 .none
def o265 (P : Params) :=dc [dE P "__module__" 2585 (dS "passlib.totp" 2483),dE P "__name__" 2588 (dS "_check_issuer" 2587),dE P "__qualname__" 2591 (dS "TOTP._check_issuer" 2590),dE P "__doc__" 2593 .none,dE P "__annotations__" 2595 (.ref 267)] 5
noncomputable def o266 (P : Params) : Obj :=⟨(.type "staticmethod"),(some 265),(.fields [(.ref 264),(.bool false)].toArray), [].toArray⟩
def o267 (P : Params) :=dc [] 0
def o268 (P : Params) :=tu []
def o269 (P : Params) :=nf []
def o270 (P : Params) :=tu [(dS "self" 2600)]
def o271 (P : Params) :=tu []
def o272 (P : Params) :=f0 "key" "TOTP.key" (mt 21 12)
def o273 (P : Params) :=cd "key" 2597 "TOTP.key" 2598 2599 171 1 0 0 3 268 true 269 .none (.ref 270) (.ref 271) (.ref 272) 2601 171 2602
def o274 (P : Params) :=fn "key" "TOTP.key" (mt 21 12) [] .none .none .none "passlib.totp" 2483 none 273 .none
def o275 (P : Params) :=tf "property" [(.ref 274), .none, .none, .none,(.int (0) 0),(.bool false)]
def o276 (P : Params) :=tf "builtin_function_or_method" [(.builtin "property.setter"),(.ref 275)]
def o277 (P : Params) :=tu []
def o278 (P : Params) :=nf []
def o279 (P : Params) :=tu [(dS "self" 2609),(dS "value" 2610)]
def o280 (P : Params) :=tu []
def o281 (P : Params) :=f0 "key" "TOTP.key" (mt 21 13)
def o282 (P : Params) :=cd "key" 2606 "TOTP.key" 2607 2608 175 2 0 0 3 277 true 278 .none (.ref 279) (.ref 280) (.ref 281) 2611 175 2612
def o283 (P : Params) :=fn "key" "TOTP.key" (mt 21 13) [] .none .none .none "passlib.totp" 2483 none 282 .none
def o284 (P : Params) :=tf "property" [(.ref 274),(.ref 283), .none, .none,(dS "key" 2604),(.bool false)]
def o285 (P : Params) :=tu []
def o286 (P : Params) :=nf []
def o287 (P : Params) :=f0 "hex_key" "TOTP.hex_key" (mt 21 14)
def o288 (P : Params) :=cd "hex_key" 2615 "TOTP.hex_key" 2616 2617 182 1 0 0 3 285 true 286 .none .none .none (.ref 287) 2618 182 2619
def o289 (P : Params) :=fn "hex_key" "TOTP.hex_key" (mt 21 14) [] .none .none .none "passlib.totp" 2483 none 288 .none
def o290 (P : Params) :=tf "property" [(.ref 289), .none, .none, .none,(dS "hex_key" 2621),(.bool false)]
def o291 (P : Params) :=tu [(dS "hex" 2622),(dS "-" 2623)]
def o292 (P : Params) :=tu []
def o293 (P : Params) :=nf []
def o294 (P : Params) :=tu [(dS "self" 2627),(dS "format" 2628),(dS "sep" 2629)]
def o295 (P : Params) :=tu []
def o296 (P : Params) :=f0 "pretty_key" "TOTP.pretty_key" (mt 21 15)
def o297 (P : Params) :=cd "pretty_key" 2624 "TOTP.pretty_key" 2625 2626 186 3 0 0 3 292 true 293 .none (.ref 294) (.ref 295) (.ref 296) 2630 186 2631
def o298 (P : Params) :=fn "pretty_key" "TOTP.pretty_key" (mt 21 15) [] (.ref 291) .none .none "passlib.totp" 2483 none 297 .none
def o299 (P : Params) :=tu []
def o300 (P : Params) :=nf []
def o301 (P : Params) :=tu [(dS "cls" 2636),(dS "time" 2637)]
def o302 (P : Params) :=tu []
def o303 (P : Params) :=f0 "normalize_time" "TOTP.normalize_time" (mt 21 16)
def o304 (P : Params) :=cd "normalize_time" 2633 "TOTP.normalize_time" 2634 2635 189 2 0 0 3 299 true 300 .none (.ref 301) (.ref 302) (.ref 303) 2638 189 2639
def o305 (P : Params) :=fn "normalize_time" "TOTP.normalize_time" (mt 21 16) [] .none .none .none "passlib.totp" 2483 (some 308) 304 .none
def o306 (P : Params) :=dc [dE P "__module__" 2641 (dS "passlib.totp" 2483),dE P "__name__" 2644 (dS "normalize_time" 2643),dE P "__qualname__" 2647 (dS "TOTP.normalize_time" 2646),dE P "__doc__" 2649 .none,dE P "__annotations__" 2651 (.ref 308)] 5
noncomputable def o307 (P : Params) : Obj :=⟨(.type "classmethod"),(some 306),(.fields [(.ref 305),(.bool false)].toArray), [].toArray⟩
def o308 (P : Params) :=dc [] 0
def o309 (P : Params) :=tu []
def o310 (P : Params) :=nf []
def o311 (P : Params) :=tu [(dS "self" 2656),(dS "time" 2657)]
def o312 (P : Params) :=tu []
def o313 (P : Params) :=f0 "_time_to_counter" "TOTP._time_to_counter" (mt 21 17)
def o314 (P : Params) :=cd "_time_to_counter" 2653 "TOTP._time_to_counter" 2654 2655 196 2 0 0 3 309 true 310 .none (.ref 311) (.ref 312) (.ref 313) 2658 196 2659
def o315 (P : Params) :=fn "_time_to_counter" "TOTP._time_to_counter" (mt 21 17) [] .none .none .none "passlib.totp" 2483 none 314 .none
def o316 (P : Params) :=tu []
def o317 (P : Params) :=nf []
def o318 (P : Params) :=tu [(dS "self" 2664),(dS "counter" 2665)]
def o319 (P : Params) :=tu []
def o320 (P : Params) :=f0 "_counter_to_time" "TOTP._counter_to_time" (mt 21 18)
def o321 (P : Params) :=cd "_counter_to_time" 2661 "TOTP._counter_to_time" 2662 2663 199 2 0 0 3 316 true 317 .none (.ref 318) (.ref 319) (.ref 320) 2666 199 2667
def o322 (P : Params) :=fn "_counter_to_time" "TOTP._counter_to_time" (mt 21 18) [] .none .none .none "passlib.totp" 2483 none 321 .none
def o323 (P : Params) :=tu []
def o324 (P : Params) :=nf []
def o325 (P : Params) :=f0 "normalize_token" "TOTP.normalize_token" (mt 21 19)
def o326 (P : Params) :=cd "normalize_token" 2669 "TOTP.normalize_token" 2670 2671 202 2 0 0 3 323 true 324 .none .none .none (.ref 325) 2672 202 2673
def o327 (P : Params) :=fn "normalize_token" "TOTP.normalize_token" (mt 21 19) [] .none .none .none "passlib.totp" 2483 none 326 .none
def o328 (P : Params) :=tu []
def o329 (P : Params) :=nf []
def o330 (P : Params) :=tu [(dS "self" 2678),(dS "time" 2679),(dS "counter" 2680),(dS "token" 2681)]
def o331 (P : Params) :=tu []
def o332 (P : Params) :=f0 "generate" "TOTP.generate" (mt 21 20)
def o333 (P : Params) :=cd "generate" 2675 "TOTP.generate" 2676 2677 215 2 0 0 3 328 true 329 .none (.ref 330) (.ref 331) (.ref 332) 2682 215 2683
def o334 (P : Params) :=fn "generate" "TOTP.generate" (mt 21 20) [] .none .none .none "passlib.totp" 2483 none 333 .none
def o335 (P : Params) :=tu []
def o336 (P : Params) :=nf []
def o337 (P : Params) :=tu [(dS "self" 2688),(dS "counter" 2689),(dS "keyed_hmac" 2690),(dS "digest" 2691),(dS "digest_size" 2692),(dS "offset" 2693),(dS "value" 2694),(dS "digits" 2695)]
def o338 (P : Params) :=tu []
def o339 (P : Params) :=f0 "_generate" "TOTP._generate" (mt 21 21)
def o340 (P : Params) :=cd "_generate" 2685 "TOTP._generate" 2686 2687 223 2 0 0 3 335 true 336 .none (.ref 337) (.ref 338) (.ref 339) 2696 223 2697
def o341 (P : Params) :=fn "_generate" "TOTP._generate" (mt 21 21) [] .none .none .none "passlib.totp" 2483 none 340 .none
def o342 (P : Params) :=tu [(.int (30) 2699),(.int (0) 2700), .none]
def o343 (P : Params) :=tu []
def o344 (P : Params) :=nf []
def o345 (P : Params) :=tu [(dS "self" 2704),(dS "token" 2705),(dS "time" 2706),(dS "window" 2707),(dS "skew" 2708),(dS "last_counter" 2709),(dS "client_time" 2710),(dS "start" 2711),(dS "end" 2712),(dS "counter" 2713)]
def o346 (P : Params) :=tu []
def o347 (P : Params) :=f0 "match" "TOTP.match" (mt 21 22)
def o348 (P : Params) :=cd "match" 2701 "TOTP.match" 2702 2703 239 6 0 0 3 343 true 344 .none (.ref 345) (.ref 346) (.ref 347) 2714 239 2715
def o349 (P : Params) :=fn "match" "TOTP.match" (mt 21 22) [] (.ref 342) .none .none "passlib.totp" 2483 none 348 .none
def o350 (P : Params) :=tu [.none]
def o351 (P : Params) :=tu []
def o352 (P : Params) :=nf []
def o353 (P : Params) :=tu [(dS "self" 2720),(dS "token" 2721),(dS "start" 2722),(dS "end" 2723),(dS "expected" 2724),(dS "generate" 2725),(dS "counter" 2726)]
def o354 (P : Params) :=tu [(dS "self" 2727)]
def o355 (P : Params) :=f0 "_find_match" "TOTP._find_match" (mt 21 23)
def o356 (P : Params) :=cd "_find_match" 2717 "TOTP._find_match" 2718 2719 253 5 0 0 3 351 true 352 .none (.ref 353) (.ref 354) (.ref 355) 2728 253 2729
def o357 (P : Params) :=fn "_find_match" "TOTP._find_match" (mt 21 23) [] (.ref 350) .none .none "passlib.totp" 2483 none 356 .none
def o358 (P : Params) :=tu [(dS "_encrypted_key" 2731),(dS "_key" 2732),(dS "_keyed_hmac" 2733),(dS "alg" 2734),(dS "digits" 2735),(dS "issuer" 2736),(dS "key" 2737),(dS "label" 2738),(dS "period" 2739)]
def o359 (P : Params) :=dc [dE P "__module__" 2508 (dS "passlib.totp" 2483),dE P "__firstlineno__" 2512 (.int (119) 2511),dE P "_key" 2513 .none,dE P "_encrypted_key" 2514 .none,dE P "_keyed_hmac" 2515 .none,dE P "digits" 2517 (.int (6) 2516),dE P "alg" 2518 .none,dE P "label" 2519 .none,dE P "issuer" 2520 .none,dE P "period" 2522 (.int (30) 2521),dE P "__init__" 2536 (.ref 236),dE P "_check_serial" 2558 (.ref 246),dE P "_check_label" 2577 (.ref 256),dE P "_check_issuer" 2596 (.ref 266),dE P "key" 2604 (.ref 284),dE P "hex_key" 2621 (.ref 290),dE P "pretty_key" 2632 (.ref 298),dE P "normalize_time" 2652 (.ref 307),dE P "_time_to_counter" 2660 (.ref 315),dE P "_counter_to_time" 2668 (.ref 322),dE P "normalize_token" 2674 (.ref 327),dE P "generate" 2684 (.ref 334),dE P "_generate" 2698 (.ref 341),dE P "match" 2716 (.ref 349),dE P "_find_match" 2730 (.ref 357),dE P "__static_attributes__" 2740 (.ref 358),dE P "__dict__" 2742 (.ref 361),dE P "__weakref__" 2744 (.ref 362),dE P "__doc__" 2745 .none] 4
noncomputable def o360 (P : Params) : Obj :=⟨(.type "type"),none,(.cls { name :=(ofString "TOTP"),bases :=[(.type "object")],mro :=[(.ref 360),(.type "object")],ns :=359,qualname :=(ofString "TOTP"),hasDict :=true,slotNames :=[],subclasses :=[],abstract :=false,collection :=none,hasDel :=false }), [(some (.ref 222)),none,(some (dS "TOTP" 2501)),(some (dS "TOTP" 2509)),(some (.builtin "object.__new__")),(some (.bool true))].toArray⟩
def o361 (P : Params) :=tf "getset_descriptor" [(dS "__dict__" 2741),(.ref 360),(.builtin "function.__dict__"),(.builtin "function.__dict__#set")]
def o362 (P : Params) :=tf "getset_descriptor" [(dS "__weakref__" 2743),(.ref 360),(.builtin "ExceptionGroup.__weakref__"), .none]
def o363 (P : Params) :=tf "super" [(.ref 360),(.ref 360),(.ref 360)]
def o364 (P : Params) :=tf "builtin_function_or_method" [(.builtin "object.__init_subclass__"),(.ref 360)]
noncomputable def T5 (P : Params) : BT :=(T4 P) |>.set 3 (fun _=>o3_5 P) |>.set 12 (fun _=>o12_5 P) |> i8 222 (o222 P) (o223 P) (o224 P) (o225 P) (o226 P) (o227 P) (o228 P) (o229 P) |> i8 230 (o230 P) (o231 P) (o232 P) (o233 P) (o234 P) (o235 P) (o236 P) (o237 P) |> i8 238 (o238 P) (o239 P) (o240 P) (o241 P) (o242 P) (o243 P) (o244 P) (o245 P) |> i8 246 (o246 P) (o247 P) (o248 P) (o249 P) (o250 P) (o251 P) (o252 P) (o253 P) |> i8 254 (o254 P) (o255 P) (o256 P) (o257 P) (o258 P) (o259 P) (o260 P) (o261 P) |> i8 262 (o262 P) (o263 P) (o264 P) (o265 P) (o266 P) (o267 P) (o268 P) (o269 P) |> i8 270 (o270 P) (o271 P) (o272 P) (o273 P) (o274 P) (o275 P) (o276 P) (o277 P) |> i8 278 (o278 P) (o279 P) (o280 P) (o281 P) (o282 P) (o283 P) (o284 P) (o285 P) |> i8 286 (o286 P) (o287 P) (o288 P) (o289 P) (o290 P) (o291 P) (o292 P) (o293 P) |> i8 294 (o294 P) (o295 P) (o296 P) (o297 P) (o298 P) (o299 P) (o300 P) (o301 P) |> i8 302 (o302 P) (o303 P) (o304 P) (o305 P) (o306 P) (o307 P) (o308 P) (o309 P) |> i8 310 (o310 P) (o311 P) (o312 P) (o313 P) (o314 P) (o315 P) (o316 P) (o317 P) |> i8 318 (o318 P) (o319 P) (o320 P) (o321 P) (o322 P) (o323 P) (o324 P) (o325 P) |> i8 326 (o326 P) (o327 P) (o328 P) (o329 P) (o330 P) (o331 P) (o332 P) (o333 P) |> i8 334 (o334 P) (o335 P) (o336 P) (o337 P) (o338 P) (o339 P) (o340 P) (o341 P) |> i8 342 (o342 P) (o343 P) (o344 P) (o345 P) (o346 P) (o347 P) (o348 P) (o349 P) |> i8 350 (o350 P) (o351 P) (o352 P) (o353 P) (o354 P) (o355 P) (o356 P) (o357 P) |>.ins 358 (o358 P) |>.ins 359 (o359 P) |>.ins 360 (o360 P) |>.ins 361 (o361 P) |>.ins 362 (o362 P) |>.ins 363 (o363 P) |>.ins 364 (o364 P)
noncomputable def e3_6 (P : Params) :=e3_5 P ++ [dE P "TotpToken" 2802 (.ref 404)]
def o3_6 (P : Params) :=dc (dE P "__name__" 165 (dS "passlib.totp" 2483) :: e3_6 P) 28
def o12_6 (P : Params) :=nf [(.int 1 0),(.int 0 0),(.ref 20),(.int 5 0),(.int 0 0),(.ref 28),(.int 12 0),(.int 0 0),(.ref 50),(.int 14 0),(.int 0 0),(.ref 62),(.int 16 0),(.int 0 0),(.ref 75),(.int 23 0),(.int 0 0),(.ref 95),(.int 25 0),(.int 0 0),(.ref 102),(.int 28 0),(.int 0 0),(.ref 109),(.int 48 0),(.int 0 0),(.ref 165),(.int 73 0),(.int 0 0),(.ref 173),(.int 83 0),(.int 0 0),(.ref 181),(.int 96 0),(.int 0 0),(.ref 206),(.int 115 0),(.int 0 0),(.ref 213),(.int 117 0),(.int 0 0),(.ref 220),(.int 119 0),(.int 0 0),(.ref 227),(.int 270 0),(.int 0 0),(.ref 370)]
noncomputable def o155_6 (P : Params) : Obj :=⟨(.type "type"),none,(.cls { name :=(ofString "SequenceMixin"),bases :=[(.type "object")],mro :=[(.ref 155),(.type "object")],ns :=154,qualname :=(ofString "SequenceMixin"),hasDict :=true,slotNames :=[],subclasses :=[(.ref 404)],abstract :=false,collection :=none,hasDel :=false }), [(some (.ref 104)),none,(some (dS "SequenceMixin" 314)),(some (dS "SequenceMixin" 322)),(some (.builtin "object.__new__")),(some (.bool true))].toArray⟩
def o365 (P : Params) :=tu [(.ref 155)]
def o366 (P : Params) :=tf "builtin_function_or_method" [(.builtin "type.__prepare__"),(.type "type")]
def o367 (P : Params) :=dc [dE P "__module__" 2755 (dS "passlib.totp" 2483),dE P "__qualname__" 2757 (dS "TotpToken" 2756),dE P "__firstlineno__" 2759 (.int (270) 2758),dE P "totp" 2760 .none,dE P "token" 2761 .none,dE P "counter" 2762 .none,dE P "__init__" 2772 (.ref 378),dE P "start_time" 2780 (.ref 386),dE P "expire_time" 2788 (.ref 394),dE P "_as_tuple" 2795 (.ref 401),dE P "__static_attributes__" 2799 (.ref 402)] 11
def o368 (P : Params) :=tu []
def o369 (P : Params) :=nf [(.int 275 0),(.int 4 0),(.ref 377),(.int 281 0),(.int 4 0),(.ref 384),(.int 285 0),(.int 4 0),(.ref 392),(.int 288 0),(.int 4 0),(.ref 400)]
def o370 (P : Params) :=cd "TotpToken" 2750 "TotpToken" 2751 2752 270 0 0 0 0 368 false 369 .none .none .none .none 2753 270 2754
noncomputable def o371 (P : Params) : Obj :=⟨(.type "frame"),none, .plain, [(some (.ref 370)),(some (.ref 3)),(some (.ref 367)),none,(some (dS "passlib.totp" 2483)),none,(some (.ref 0))].toArray⟩
def o372 (P : Params) :=tu []
def o373 (P : Params) :=nf []
def o374 (P : Params) :=tu [(dS "self" 2766),(dS "totp" 2767),(dS "token" 2768),(dS "counter" 2769)]
def o375 (P : Params) :=tu []
def o376 (P : Params) :=f0 "__init__" "TotpToken.__init__" (mt 22 3)
def o377 (P : Params) :=cd "__init__" 2763 "TotpToken.__init__" 2764 2765 275 4 0 0 3 372 true 373 .none (.ref 374) (.ref 375) (.ref 376) 2770 275 2771
def o378 (P : Params) :=fn "__init__" "TotpToken.__init__" (mt 22 3) [] .none .none .none "passlib.totp" 2483 none 377 .none
def o379 (P : Params) :=tu []
def o380 (P : Params) :=nf []
def o381 (P : Params) :=tu [(dS "self" 2776)]
def o382 (P : Params) :=tu []
def o383 (P : Params) :=f0 "start_time" "TotpToken.start_time" (mt 22 4)
def o384 (P : Params) :=cd "start_time" 2773 "TotpToken.start_time" 2774 2775 280 1 0 0 3 379 true 380 .none (.ref 381) (.ref 382) (.ref 383) 2777 280 2778
def o385 (P : Params) :=fn "start_time" "TotpToken.start_time" (mt 22 4) [] .none .none .none "passlib.totp" 2483 none 384 .none
def o386 (P : Params) :=tf "property" [(.ref 385), .none, .none, .none,(dS "start_time" 2780),(.bool false)]
def o387 (P : Params) :=tu []
def o388 (P : Params) :=nf []
def o389 (P : Params) :=tu [(dS "self" 2784)]
def o390 (P : Params) :=tu []
def o391 (P : Params) :=f0 "expire_time" "TotpToken.expire_time" (mt 22 5)
def o392 (P : Params) :=cd "expire_time" 2781 "TotpToken.expire_time" 2782 2783 284 1 0 0 3 387 true 388 .none (.ref 389) (.ref 390) (.ref 391) 2785 284 2786
def o393 (P : Params) :=fn "expire_time" "TotpToken.expire_time" (mt 22 5) [] .none .none .none "passlib.totp" 2483 none 392 .none
def o394 (P : Params) :=tf "property" [(.ref 393), .none, .none, .none,(dS "expire_time" 2788),(.bool false)]
def o395 (P : Params) :=tu []
def o396 (P : Params) :=nf []
def o397 (P : Params) :=tu [(dS "self" 2792)]
def o398 (P : Params) :=tu []
def o399 (P : Params) :=f0 "_as_tuple" "TotpToken._as_tuple" (mt 22 6)
def o400 (P : Params) :=cd "_as_tuple" 2789 "TotpToken._as_tuple" 2790 2791 288 1 0 0 3 395 true 396 .none (.ref 397) (.ref 398) (.ref 399) 2793 288 2794
def o401 (P : Params) :=fn "_as_tuple" "TotpToken._as_tuple" (mt 22 6) [] .none .none .none "passlib.totp" 2483 none 400 .none
def o402 (P : Params) :=tu [(dS "counter" 2796),(dS "token" 2797),(dS "totp" 2798)]
def o403 (P : Params) :=dc [dE P "__module__" 2755 (dS "passlib.totp" 2483),dE P "__firstlineno__" 2759 (.int (270) 2758),dE P "totp" 2760 .none,dE P "token" 2761 .none,dE P "counter" 2762 .none,dE P "__init__" 2772 (.ref 378),dE P "start_time" 2780 (.ref 386),dE P "expire_time" 2788 (.ref 394),dE P "_as_tuple" 2795 (.ref 401),dE P "__static_attributes__" 2799 (.ref 402),dE P "__doc__" 2800 .none] 2
noncomputable def o404 (P : Params) : Obj :=⟨(.type "type"),none,(.cls { name :=(ofString "TotpToken"),bases :=[(.ref 155)],mro :=[(.ref 404),(.ref 155),(.type "object")],ns :=403,qualname :=(ofString "TotpToken"),hasDict :=true,slotNames :=[],subclasses :=[],abstract :=false,collection :=none,hasDel :=false }), [(some (.ref 365)),none,(some (dS "TotpToken" 2748)),(some (dS "TotpToken" 2756)),(some (.builtin "object.__new__")),(some (.bool true))].toArray⟩
def o405 (P : Params) :=tf "super" [(.ref 404),(.ref 404),(.ref 404)]
def o406 (P : Params) :=tf "builtin_function_or_method" [(.builtin "object.__init_subclass__"),(.ref 404)]
noncomputable def T6 (P : Params) : BT :=(T5 P) |>.set 3 (fun _=>o3_6 P) |>.set 12 (fun _=>o12_6 P) |>.set 155 (fun _=>o155_6 P) |> i8 365 (o365 P) (o366 P) (o367 P) (o368 P) (o369 P) (o370 P) (o371 P) (o372 P) |> i8 373 (o373 P) (o374 P) (o375 P) (o376 P) (o377 P) (o378 P) (o379 P) (o380 P) |> i8 381 (o381 P) (o382 P) (o383 P) (o384 P) (o385 P) (o386 P) (o387 P) (o388 P) |> i8 389 (o389 P) (o390 P) (o391 P) (o392 P) (o393 P) (o394 P) (o395 P) (o396 P) |> i8 397 (o397 P) (o398 P) (o399 P) (o400 P) (o401 P) (o402 P) (o403 P) (o404 P) |>.ins 405 (o405 P) |>.ins 406 (o406 P)
noncomputable def e3_7 (P : Params) :=e3_6 P ++ [dE P "TotpMatch" 2888 (.ref 471)]
def o3_7 (P : Params) :=dc (dE P "__name__" 165 (dS "passlib.totp" 2483) :: e3_7 P) 29
def o12_7 (P : Params) :=nf [(.int 1 0),(.int 0 0),(.ref 20),(.int 5 0),(.int 0 0),(.ref 28),(.int 12 0),(.int 0 0),(.ref 50),(.int 14 0),(.int 0 0),(.ref 62),(.int 16 0),(.int 0 0),(.ref 75),(.int 23 0),(.int 0 0),(.ref 95),(.int 25 0),(.int 0 0),(.ref 102),(.int 28 0),(.int 0 0),(.ref 109),(.int 48 0),(.int 0 0),(.ref 165),(.int 73 0),(.int 0 0),(.ref 173),(.int 83 0),(.int 0 0),(.ref 181),(.int 96 0),(.int 0 0),(.ref 206),(.int 115 0),(.int 0 0),(.ref 213),(.int 117 0),(.int 0 0),(.ref 220),(.int 119 0),(.int 0 0),(.ref 227),(.int 270 0),(.int 0 0),(.ref 370),(.int 290 0),(.int 0 0),(.ref 412)]
noncomputable def o155_7 (P : Params) : Obj :=⟨(.type "type"),none,(.cls { name :=(ofString "SequenceMixin"),bases :=[(.type "object")],mro :=[(.ref 155),(.type "object")],ns :=154,qualname :=(ofString "SequenceMixin"),hasDict :=true,slotNames :=[],subclasses :=[(.ref 404),(.ref 471)],abstract :=false,collection :=none,hasDel :=false }), [(some (.ref 104)),none,(some (dS "SequenceMixin" 314)),(some (dS "SequenceMixin" 322)),(some (.builtin "object.__new__")),(some (.bool true))].toArray⟩
def o407 (P : Params) :=tu [(.ref 155)]
def o408 (P : Params) :=tf "builtin_function_or_method" [(.builtin "type.__prepare__"),(.type "type")]
def o409 (P : Params) :=dc [dE P "__module__" 2810 (dS "passlib.totp" 2483),dE P "__qualname__" 2812 (dS "TotpMatch" 2811),dE P "__firstlineno__" 2814 (.int (290) 2813),dE P "totp" 2815 .none,dE P "counter" 2817 (.int (0) 2816),dE P "time" 2819 (.int (0) 2818),dE P "window" 2821 (.int (30) 2820),dE P "__init__" 2833 (.ref 421),dE P "expected_counter" 2841 (.ref 429),dE P "skipped" 2849 (.ref 437),dE P "expire_time" 2857 (.ref 445),dE P "cache_seconds" 2865 (.ref 453),dE P "cache_time" 2873 (.ref 461),dE P "_as_tuple" 2880 (.ref 468),dE P "__static_attributes__" 2885 (.ref 469)] 15
def o410 (P : Params) :=tu []
def o411 (P : Params) :=nf [(.int 296 0),(.int 4 0),(.ref 420),(.int 303 0),(.int 4 0),(.ref 427),(.int 307 0),(.int 4 0),(.ref 435),(.int 311 0),(.int 4 0),(.ref 443),(.int 315 0),(.int 4 0),(.ref 451),(.int 319 0),(.int 4 0),(.ref 459),(.int 322 0),(.int 4 0),(.ref 467)]
def o412 (P : Params) :=cd "TotpMatch" 2805 "TotpMatch" 2806 2807 290 0 0 0 0 410 false 411 .none .none .none .none 2808 290 2809
noncomputable def o413 (P : Params) : Obj :=⟨(.type "frame"),none, .plain, [(some (.ref 412)),(some (.ref 3)),(some (.ref 409)),none,(some (dS "passlib.totp" 2483)),none,(some (.ref 0))].toArray⟩
def o414 (P : Params) :=tu [(.int (30) 2822)]
def o415 (P : Params) :=tu []
def o416 (P : Params) :=nf []
def o417 (P : Params) :=tu [(dS "self" 2826),(dS "totp" 2827),(dS "counter" 2828),(dS "time" 2829),(dS "window" 2830)]
def o418 (P : Params) :=tu []
def o419 (P : Params) :=f0 "__init__" "TotpMatch.__init__" (mt 23 4)
def o420 (P : Params) :=cd "__init__" 2823 "TotpMatch.__init__" 2824 2825 296 5 0 0 3 415 true 416 .none (.ref 417) (.ref 418) (.ref 419) 2831 296 2832
def o421 (P : Params) :=fn "__init__" "TotpMatch.__init__" (mt 23 4) [] (.ref 414) .none .none "passlib.totp" 2483 none 420 .none
def o422 (P : Params) :=tu []
def o423 (P : Params) :=nf []
def o424 (P : Params) :=tu [(dS "self" 2837)]
def o425 (P : Params) :=tu []
def o426 (P : Params) :=f0 "expected_counter" "TotpMatch.expected_counter" (mt 23 5)
def o427 (P : Params) :=cd "expected_counter" 2834 "TotpMatch.expected_counter" 2835 2836 302 1 0 0 3 422 true 423 .none (.ref 424) (.ref 425) (.ref 426) 2838 302 2839
def o428 (P : Params) :=fn "expected_counter" "TotpMatch.expected_counter" (mt 23 5) [] .none .none .none "passlib.totp" 2483 none 427 .none
def o429 (P : Params) :=tf "property" [(.ref 428), .none, .none, .none,(dS "expected_counter" 2841),(.bool false)]
def o430 (P : Params) :=tu []
def o431 (P : Params) :=nf []
def o432 (P : Params) :=tu [(dS "self" 2845)]
def o433 (P : Params) :=tu []
def o434 (P : Params) :=f0 "skipped" "TotpMatch.skipped" (mt 23 6)
def o435 (P : Params) :=cd "skipped" 2842 "TotpMatch.skipped" 2843 2844 306 1 0 0 3 430 true 431 .none (.ref 432) (.ref 433) (.ref 434) 2846 306 2847
def o436 (P : Params) :=fn "skipped" "TotpMatch.skipped" (mt 23 6) [] .none .none .none "passlib.totp" 2483 none 435 .none
def o437 (P : Params) :=tf "property" [(.ref 436), .none, .none, .none,(dS "skipped" 2849),(.bool false)]
def o438 (P : Params) :=tu []
def o439 (P : Params) :=nf []
def o440 (P : Params) :=tu [(dS "self" 2853)]
def o441 (P : Params) :=tu []
def o442 (P : Params) :=f0 "expire_time" "TotpMatch.expire_time" (mt 23 7)
def o443 (P : Params) :=cd "expire_time" 2850 "TotpMatch.expire_time" 2851 2852 310 1 0 0 3 438 true 439 .none (.ref 440) (.ref 441) (.ref 442) 2854 310 2855
def o444 (P : Params) :=fn "expire_time" "TotpMatch.expire_time" (mt 23 7) [] .none .none .none "passlib.totp" 2483 none 443 .none
def o445 (P : Params) :=tf "property" [(.ref 444), .none, .none, .none,(dS "expire_time" 2857),(.bool false)]
def o446 (P : Params) :=tu []
def o447 (P : Params) :=nf []
def o448 (P : Params) :=tu [(dS "self" 2861)]
def o449 (P : Params) :=tu []
def o450 (P : Params) :=f0 "cache_seconds" "TotpMatch.cache_seconds" (mt 23 8)
def o451 (P : Params) :=cd "cache_seconds" 2858 "TotpMatch.cache_seconds" 2859 2860 314 1 0 0 3 446 true 447 .none (.ref 448) (.ref 449) (.ref 450) 2862 314 2863
def o452 (P : Params) :=fn "cache_seconds" "TotpMatch.cache_seconds" (mt 23 8) [] .none .none .none "passlib.totp" 2483 none 451 .none
def o453 (P : Params) :=tf "property" [(.ref 452), .none, .none, .none,(dS "cache_seconds" 2865),(.bool false)]
def o454 (P : Params) :=tu []
def o455 (P : Params) :=nf []
def o456 (P : Params) :=tu [(dS "self" 2869)]
def o457 (P : Params) :=tu []
def o458 (P : Params) :=f0 "cache_time" "TotpMatch.cache_time" (mt 23 9)
def o459 (P : Params) :=cd "cache_time" 2866 "TotpMatch.cache_time" 2867 2868 318 1 0 0 3 454 true 455 .none (.ref 456) (.ref 457) (.ref 458) 2870 318 2871
def o460 (P : Params) :=fn "cache_time" "TotpMatch.cache_time" (mt 23 9) [] .none .none .none "passlib.totp" 2483 none 459 .none
def o461 (P : Params) :=tf "property" [(.ref 460), .none, .none, .none,(dS "cache_time" 2873),(.bool false)]
def o462 (P : Params) :=tu []
def o463 (P : Params) :=nf []
def o464 (P : Params) :=tu [(dS "self" 2877)]
def o465 (P : Params) :=tu []
def o466 (P : Params) :=f0 "_as_tuple" "TotpMatch._as_tuple" (mt 23 10)
def o467 (P : Params) :=cd "_as_tuple" 2874 "TotpMatch._as_tuple" 2875 2876 322 1 0 0 3 462 true 463 .none (.ref 464) (.ref 465) (.ref 466) 2878 322 2879
def o468 (P : Params) :=fn "_as_tuple" "TotpMatch._as_tuple" (mt 23 10) [] .none .none .none "passlib.totp" 2483 none 467 .none
def o469 (P : Params) :=tu [(dS "counter" 2881),(dS "time" 2882),(dS "totp" 2883),(dS "window" 2884)]
def o470 (P : Params) :=dc [dE P "__module__" 2810 (dS "passlib.totp" 2483),dE P "__firstlineno__" 2814 (.int (290) 2813),dE P "totp" 2815 .none,dE P "counter" 2817 (.int (0) 2816),dE P "time" 2819 (.int (0) 2818),dE P "window" 2821 (.int (30) 2820),dE P "__init__" 2833 (.ref 421),dE P "expected_counter" 2841 (.ref 429),dE P "skipped" 2849 (.ref 437),dE P "expire_time" 2857 (.ref 445),dE P "cache_seconds" 2865 (.ref 453),dE P "cache_time" 2873 (.ref 461),dE P "_as_tuple" 2880 (.ref 468),dE P "__static_attributes__" 2885 (.ref 469),dE P "__doc__" 2886 .none] 2
noncomputable def o471 (P : Params) : Obj :=⟨(.type "type"),none,(.cls { name :=(ofString "TotpMatch"),bases :=[(.ref 155)],mro :=[(.ref 471),(.ref 155),(.type "object")],ns :=470,qualname :=(ofString "TotpMatch"),hasDict :=true,slotNames :=[],subclasses :=[],abstract :=false,collection :=none,hasDel :=false }), [(some (.ref 407)),none,(some (dS "TotpMatch" 2803)),(some (dS "TotpMatch" 2811)),(some (.builtin "object.__new__")),(some (.bool true))].toArray⟩
def o472 (P : Params) :=tf "super" [(.ref 471),(.ref 471),(.ref 471)]
def o473 (P : Params) :=tf "builtin_function_or_method" [(.builtin "object.__init_subclass__"),(.ref 471)]
noncomputable def T7 (P : Params) : BT :=(T6 P) |>.set 3 (fun _=>o3_7 P) |>.set 12 (fun _=>o12_7 P) |>.set 155 (fun _=>o155_7 P) |> i8 407 (o407 P) (o408 P) (o409 P) (o410 P) (o411 P) (o412 P) (o413 P) (o414 P) |> i8 415 (o415 P) (o416 P) (o417 P) (o418 P) (o419 P) (o420 P) (o421 P) (o422 P) |> i8 423 (o423 P) (o424 P) (o425 P) (o426 P) (o427 P) (o428 P) (o429 P) (o430 P) |> i8 431 (o431 P) (o432 P) (o433 P) (o434 P) (o435 P) (o436 P) (o437 P) (o438 P) |> i8 439 (o439 P) (o440 P) (o441 P) (o442 P) (o443 P) (o444 P) (o445 P) (o446 P) |> i8 447 (o447 P) (o448 P) (o449 P) (o450 P) (o451 P) (o452 P) (o453 P) (o454 P) |> i8 455 (o455 P) (o456 P) (o457 P) (o458 P) (o459 P) (o460 P) (o461 P) (o462 P) |> i8 463 (o463 P) (o464 P) (o465 P) (o466 P) (o467 P) (o468 P) (o469 P) (o470 P) |>.ins 471 (o471 P) |>.ins 472 (o472 P) |>.ins 473 (o473 P)
def o3_8 (P : Params) :=dc [dE P "__name__" 165 (dS "law_iw0012_01" 2889),dE P "__doc__" 166 .none,dE P "__package__" 167 .none,dE P "__loader__" 168 (.builtin "__main__.__loader__#opaque"),dE P "__spec__" 169 .none,dE P "__annotations__" 170 (.ref 6),dE P "__builtins__" 171 (.ref 4),dE P "__file__" 173 (dS "/claim/cut.py" 172),dE P "__cached__" 174 .none,dE P "_wall" 193 (.ref 21),dE P "TokenError" 227 (.ref 41),dE P "MalformedTokenError" 245 (.ref 54),dE P "InvalidTokenError" 263 (.ref 66),dE P "UsedTokenError" 294 (.ref 87),dE P "ExpectedTypeError" 303 (.ref 96),dE P "ExpectedStringError" 311 (.ref 103),dE P "SequenceMixin" 380 (.ref 155),dE P "consteq" 394 (.ref 166),dE P "to_bytes" 405 (.ref 174),dE P "to_unicode" 416 (.ref 182),dE P "_TRANS_5C" 1447 (.bytes (Array.mk [92, 93, 94, 95, 88, 89, 90, 91, 84, 85, 86, 87, 80, 81, 82, 83, 76, 77, 78, 79, 72, 73, 74, 75, 68, 69, 70, 71, 64, 65, 66, 67, 124, 125, 126, 127, 120, 121, 122, 123, 116, 117, 118, 119, 112, 113, 114, 115, 108, 109, 110, 111, 104, 105, 106, 107, 100, 101, 102, 103, 96, 97, 98, 99, 28, 29, 30, 31, 24, 25, 26, 27, 20, 21, 22, 23, 16, 17, 18, 19, 12, 13, 14, 15, 8, 9, 10, 11, 4, 5, 6, 7, 0, 1, 2, 3, 60, 61, 62, 63, 56, 57, 58, 59, 52, 53, 54, 55, 48, 49, 50, 51, 44, 45, 46, 47, 40, 41, 42, 43, 36, 37, 38, 39, 32, 33, 34, 35, 220, 221, 222, 223, 216, 217, 218, 219, 212, 213, 214, 215, 208, 209, 210, 211, 204, 205, 206, 207, 200, 201, 202, 203, 196, 197, 198, 199, 192, 193, 194, 195, 252, 253, 254, 255, 248, 249, 250, 251, 244, 245, 246, 247, 240, 241, 242, 243, 236, 237, 238, 239, 232, 233, 234, 235, 228, 229, 230, 231, 224, 225, 226, 227, 156, 157, 158, 159, 152, 153, 154, 155, 148, 149, 150, 151, 144, 145, 146, 147, 140, 141, 142, 143, 136, 137, 138, 139, 132, 133, 134, 135, 128, 129, 130, 131, 188, 189, 190, 191, 184, 185, 186, 187, 180, 181, 182, 183, 176, 177, 178, 179, 172, 173, 174, 175, 168, 169, 170, 171, 164, 165, 166, 167, 160, 161, 162, 163]) 1446),dE P "_TRANS_36" 2476 (.bytes (Array.mk [54, 55, 52, 53, 50, 51, 48, 49, 62, 63, 60, 61, 58, 59, 56, 57, 38, 39, 36, 37, 34, 35, 32, 33, 46, 47, 44, 45, 42, 43, 40, 41, 22, 23, 20, 21, 18, 19, 16, 17, 30, 31, 28, 29, 26, 27, 24, 25, 6, 7, 4, 5, 2, 3, 0, 1, 14, 15, 12, 13, 10, 11, 8, 9, 118, 119, 116, 117, 114, 115, 112, 113, 126, 127, 124, 125, 122, 123, 120, 121, 102, 103, 100, 101, 98, 99, 96, 97, 110, 111, 108, 109, 106, 107, 104, 105, 86, 87, 84, 85, 82, 83, 80, 81, 94, 95, 92, 93, 90, 91, 88, 89, 70, 71, 68, 69, 66, 67, 64, 65, 78, 79, 76, 77, 74, 75, 72, 73, 182, 183, 180, 181, 178, 179, 176, 177, 190, 191, 188, 189, 186, 187, 184, 185, 166, 167, 164, 165, 162, 163, 160, 161, 174, 175, 172, 173, 170, 171, 168, 169, 150, 151, 148, 149, 146, 147, 144, 145, 158, 159, 156, 157, 154, 155, 152, 153, 134, 135, 132, 133, 130, 131, 128, 129, 142, 143, 140, 141, 138, 139, 136, 137, 246, 247, 244, 245, 242, 243, 240, 241, 254, 255, 252, 253, 250, 251, 248, 249, 230, 231, 228, 229, 226, 227, 224, 225, 238, 239, 236, 237, 234, 235, 232, 233, 214, 215, 212, 213, 210, 211, 208, 209, 222, 223, 220, 221, 218, 219, 216, 217, 198, 199, 196, 197, 194, 195, 192, 193, 206, 207, 204, 205, 202, 203, 200, 201]) 2475),dE P "compile_hmac" 2482 (.ref 207),dE P "_clean_signs" 2486 (dS "\t\n\x0b\x0c\x0d\x1c\x1d\x1e\x1f                  　-=" 2485),dE P "_pack_uint64" 2493 (.ref 214),dE P "_unpack_uint32" 2500 (.ref 221),dE P "TOTP" 2747 (.ref 360),dE P "TotpToken" 2802 (.ref 404),dE P "TotpMatch" 2888 (.ref 471),dE P "_law_blanks" 2892 (dS " \t\n\x0d\x0c\x1f  " 2891),dE P "_law_hash" 2901 (.ref 480),dE P "_law_token" 2907 (.ref 485),dE P "_law_pads" 2913 (.ref 490),dE P "_law_due" 2932 (.ref 497),dE P "_law_told" 2938 (.ref 502),dE P "_law_wrong" 2949 (.ref 509),dE P "_law_answer" 2959 (.ref 516),dE P "law" 2965 (.ref 521)] 38
def o12_8 (P : Params) :=nf [(.int 1 0),(.int 0 0),(.ref 20),(.int 5 0),(.int 0 0),(.ref 28),(.int 12 0),(.int 0 0),(.ref 50),(.int 14 0),(.int 0 0),(.ref 62),(.int 16 0),(.int 0 0),(.ref 75),(.int 23 0),(.int 0 0),(.ref 95),(.int 25 0),(.int 0 0),(.ref 102),(.int 28 0),(.int 0 0),(.ref 109),(.int 48 0),(.int 0 0),(.ref 165),(.int 73 0),(.int 0 0),(.ref 173),(.int 83 0),(.int 0 0),(.ref 181),(.int 96 0),(.int 0 0),(.ref 206),(.int 115 0),(.int 0 0),(.ref 213),(.int 117 0),(.int 0 0),(.ref 220),(.int 119 0),(.int 0 0),(.ref 227),(.int 270 0),(.int 0 0),(.ref 370),(.int 290 0),(.int 0 0),(.ref 412),(.int 326 0),(.int 0 0),(.ref 479),(.int 329 0),(.int 0 0),(.ref 484),(.int 334 0),(.int 0 0),(.ref 489),(.int 339 0),(.int 0 0),(.ref 496),(.int 351 0),(.int 0 0),(.ref 501),(.int 364 0),(.int 0 0),(.ref 508),(.int 413 0),(.int 0 0),(.ref 515),(.int 431 0),(.int 0 0),(.ref 520)]
def o474 (P : Params) :=tu []
def o475 (P : Params) :=nf []
def o476 (P : Params) :=tu [(dS "octets" 2896),(dS "size" 2897),(dS "number" 2898)]
def o477 (P : Params) :=tu []
def o478 (P : Params) :=f0 "_law_hash" "_law_hash" (tp 26)
def o479 (P : Params) :=cd "_law_hash" 2893 "_law_hash" 2894 2895 326 2 0 0 3 474 true 475 .none (.ref 476) (.ref 477) (.ref 478) 2899 326 2900
def o480 (P : Params) :=fn "_law_hash" "_law_hash" (tp 26) [] .none .none .none "law_iw0012_01" 2889 none 479 .none
def o481 (P : Params) :=tu []
def o482 (P : Params) :=nf []
def o483 (P : Params) :=f0 "_law_token" "_law_token" (tp 27)
def o484 (P : Params) :=cd "_law_token" 2902 "_law_token" 2903 2904 329 4 0 0 3 481 true 482 .none .none .none (.ref 483) 2905 329 2906
def o485 (P : Params) :=fn "_law_token" "_law_token" (tp 27) [] .none .none .none "law_iw0012_01" 2889 none 484 .none
def o486 (P : Params) :=tu []
def o487 (P : Params) :=nf []
def o488 (P : Params) :=f0 "_law_pads" "_law_pads" (tp 28)
def o489 (P : Params) :=cd "_law_pads" 2908 "_law_pads" 2909 2910 334 3 0 0 3 486 true 487 .none .none .none (.ref 488) 2911 334 2912
def o490 (P : Params) :=fn "_law_pads" "_law_pads" (tp 28) [] .none .none .none "law_iw0012_01" 2889 none 489 .none
def o491 (P : Params) :=tu []
def o492 (P : Params) :=nf []
def o493 (P : Params) :=tu [(dS "pads" 2917),(dS "shown" 2918),(dS "moment" 2919),(dS "window" 2920),(dS "skew" 2921),(dS "last" 2922),(dS "device" 2923),(dS "digits" 2924),(dS "period" 2925),(dS "size" 2926),(dS "first" 2927),(dS "counter" 2928),(dS "ends" 2929)]
def o494 (P : Params) :=tu []
def o495 (P : Params) :=f0 "_law_due" "_law_due" (tp 29)
def o496 (P : Params) :=cd "_law_due" 2914 "_law_due" 2915 2916 339 7 0 0 3 491 true 492 .none (.ref 493) (.ref 494) (.ref 495) 2930 339 2931
def o497 (P : Params) :=fn "_law_due" "_law_due" (tp 29) [] .none .none .none "law_iw0012_01" 2889 none 496 .none
def o498 (P : Params) :=tu []
def o499 (P : Params) :=nf []
def o500 (P : Params) :=f0 "_law_told" "_law_told" (tp 30)
def o501 (P : Params) :=cd "_law_told" 2933 "_law_told" 2934 2935 351 6 0 0 3 498 true 499 .none .none .none (.ref 500) 2936 351 2937
def o502 (P : Params) :=fn "_law_told" "_law_told" (tp 30) [] .none .none .none "law_iw0012_01" 2889 none 501 .none
def o503 (P : Params) :=tu []
def o504 (P : Params) :=nf []
def o505 (P : Params) :=tu [(dS "kind" 2942),(dS "device" 2943),(dS "row" 2944),(dS "far" 2945)]
def o506 (P : Params) :=tu [(dS "small" 2946)]
def o507 (P : Params) :=f0 "_law_wrong" "_law_wrong" (tp 31)
def o508 (P : Params) :=cd "_law_wrong" 2939 "_law_wrong" 2940 2941 364 4 0 0 3 503 true 504 .none (.ref 505) (.ref 506) (.ref 507) 2947 364 2948
def o509 (P : Params) :=fn "_law_wrong" "_law_wrong" (tp 31) [] .none .none .none "law_iw0012_01" 2889 none 508 .none
def o510 (P : Params) :=tu []
def o511 (P : Params) :=nf []
def o512 (P : Params) :=tu [(dS "kind" 2953),(dS "device" 2954),(dS "row" 2955),(dS "far" 2956)]
def o513 (P : Params) :=tu []
def o514 (P : Params) :=f0 "_law_answer" "_law_answer" (tp 32)
def o515 (P : Params) :=cd "_law_answer" 2950 "_law_answer" 2951 2952 413 4 0 0 3 510 true 511 .none (.ref 512) (.ref 513) (.ref 514) 2957 413 2958
def o516 (P : Params) :=fn "_law_answer" "_law_answer" (tp 32) [] .none .none .none "law_iw0012_01" 2889 none 515 .none
def o517 (P : Params) :=tu []
def o518 (P : Params) :=nf []
def o519 (P : Params) :=f0 "law" "law" (tp 33)
def o520 (P : Params) :=cd "law" 2960 "law" 2961 2962 431 1 0 0 3 517 true 518 .none .none .none (.ref 519) 2963 431 2964
def o521 (P : Params) :=fn "law" "law" (tp 33) [] .none .none .none "law_iw0012_01" 2889 none 520 .none
noncomputable def T8 (P : Params) : BT :=(T7 P) |>.set 3 (fun _=>o3_8 P) |>.set 12 (fun _=>o12_8 P) |> i8 474 (o474 P) (o475 P) (o476 P) (o477 P) (o478 P) (o479 P) (o480 P) (o481 P) |> i8 482 (o482 P) (o483 P) (o484 P) (o485 P) (o486 P) (o487 P) (o488 P) (o489 P) |> i8 490 (o490 P) (o491 P) (o492 P) (o493 P) (o494 P) (o495 P) (o496 P) (o497 P) |> i8 498 (o498 P) (o499 P) (o500 P) (o501 P) (o502 P) (o503 P) (o504 P) (o505 P) |> i8 506 (o506 P) (o507 P) (o508 P) (o509 P) (o510 P) (o511 P) (o512 P) (o513 P) |> i8 514 (o514 P) (o515 P) (o516 P) (o517 P) (o518 P) (o519 P) (o520 P) (o521 P)
noncomputable def K (P : Params) : Frag :=(nat_lit 0,boot_o_0 P) :: (nat_lit 1,boot_o_1 P) :: (nat_lit 2,boot_o_2 P) :: (nat_lit 3,o3_8 P) :: (nat_lit 15,o15 P) :: (nat_lit 17,o17 P) :: (nat_lit 18,o18 P) :: (nat_lit 20,o20 P) :: (nat_lit 21,o21 P) :: (nat_lit 22,o22 P) :: (nat_lit 25,o25 P) :: (nat_lit 30,o30 P) :: (nat_lit 31,o31 P) :: (nat_lit 32,o32 P) :: (nat_lit 34,o34 P) :: (nat_lit 35,o35 P) :: (nat_lit 37,o37 P) :: (nat_lit 38,o38 P) :: (nat_lit 39,o39 P) :: (nat_lit 40,o40 P) :: (nat_lit 41,o41 P) :: (nat_lit 42,o42 P) :: (nat_lit 45,o45 P) :: (nat_lit 52,o52 P) :: (nat_lit 53,o53 P) :: (nat_lit 54,o54 P) :: (nat_lit 57,o57 P) :: (nat_lit 64,o64 P) :: (nat_lit 65,o65 P) :: (nat_lit 66,o66 P) :: (nat_lit 69,o69 P) :: (nat_lit 72,o72 P) :: (nat_lit 77,o77 P) :: (nat_lit 78,o78 P) :: (nat_lit 80,o80 P) :: (nat_lit 81,o81 P) :: (nat_lit 83,o83 P) :: (nat_lit 84,o84 P) :: (nat_lit 85,o85 P) :: (nat_lit 86,o86 P) :: (nat_lit 87,o87 P) :: (nat_lit 90,o90 P) :: (nat_lit 92,o92 P) :: (nat_lit 93,o93 P) :: (nat_lit 95,o95 P) :: (nat_lit 96,o96 P) :: (nat_lit 97,o97 P) :: (nat_lit 99,o99 P) :: (nat_lit 100,o100 P) :: (nat_lit 102,o102 P) :: (nat_lit 103,o103 P) :: (nat_lit 104,o104 P) :: (nat_lit 111,o111 P) :: (nat_lit 113,o113 P) :: (nat_lit 114,o114 P) :: (nat_lit 116,o116 P) :: (nat_lit 117,o117 P) :: (nat_lit 118,o118 P) :: (nat_lit 120,o120 P) :: (nat_lit 121,o121 P) :: (nat_lit 123,o123 P) :: (nat_lit 124,o124 P) :: (nat_lit 125,o125 P) :: (nat_lit 127,o127 P) :: (nat_lit 128,o128 P) :: (nat_lit 130,o130 P) :: (nat_lit 131,o131 P) :: (nat_lit 132,o132 P) :: (nat_lit 134,o134 P) :: (nat_lit 135,o135 P) :: (nat_lit 137,o137 P) :: (nat_lit 138,o138 P) :: (nat_lit 139,o139 P) :: (nat_lit 141,o141 P) :: (nat_lit 142,o142 P) :: (nat_lit 144,o144 P) :: (nat_lit 145,o145 P) :: (nat_lit 146,o146 P) :: (nat_lit 148,o148 P) :: (nat_lit 149,o149 P) :: (nat_lit 151,o151 P) :: (nat_lit 152,o152 P) :: (nat_lit 153,o153 P) :: (nat_lit 154,o154 P) :: (nat_lit 155,o155_7 P) :: (nat_lit 156,o156 P) :: (nat_lit 157,o157 P) :: (nat_lit 160,o160 P) :: (nat_lit 162,o162 P) :: (nat_lit 163,o163 P) :: (nat_lit 165,o165 P) :: (nat_lit 166,o166 P) :: (nat_lit 167,o167 P) :: (nat_lit 168,o168 P) :: (nat_lit 170,o170 P) :: (nat_lit 171,o171 P) :: (nat_lit 173,o173 P) :: (nat_lit 174,o174 P) :: (nat_lit 175,o175 P) :: (nat_lit 176,o176 P) :: (nat_lit 178,o178 P) :: (nat_lit 179,o179 P) :: (nat_lit 181,o181 P) :: (nat_lit 182,o182 P) :: (nat_lit 203,o203 P) :: (nat_lit 206,o206 P) :: (nat_lit 207,o207 P) :: (nat_lit 208,o208 P) :: (nat_lit 210,o210 P) :: (nat_lit 211,o211 P) :: (nat_lit 213,o213 P) :: (nat_lit 214,o214 P) :: (nat_lit 215,o215 P) :: (nat_lit 217,o217 P) :: (nat_lit 218,o218 P) :: (nat_lit 220,o220 P) :: (nat_lit 221,o221 P) :: (nat_lit 222,o222 P) :: (nat_lit 229,o229 P) :: (nat_lit 230,o230 P) :: (nat_lit 232,o232 P) :: (nat_lit 233,o233 P) :: (nat_lit 235,o235 P) :: (nat_lit 236,o236 P) :: (nat_lit 237,o237 P) :: (nat_lit 238,o238 P) :: (nat_lit 240,o240 P) :: (nat_lit 241,o241 P) :: (nat_lit 243,o243 P) :: (nat_lit 244,o244 P) :: (nat_lit 245,o245 P) :: (nat_lit 246,o246 P) :: (nat_lit 247,o247 P) :: (nat_lit 248,o248 P) :: (nat_lit 250,o250 P) :: (nat_lit 251,o251 P) :: (nat_lit 253,o253 P) :: (nat_lit 254,o254 P) :: (nat_lit 255,o255 P) :: (nat_lit 256,o256 P) :: (nat_lit 257,o257 P) :: (nat_lit 258,o258 P) :: (nat_lit 260,o260 P) :: (nat_lit 261,o261 P) :: (nat_lit 263,o263 P) :: (nat_lit 264,o264 P) :: (nat_lit 265,o265 P) :: (nat_lit 266,o266 P) :: (nat_lit 267,o267 P) :: (nat_lit 268,o268 P) :: (nat_lit 270,o270 P) :: (nat_lit 271,o271 P) :: (nat_lit 273,o273 P) :: (nat_lit 274,o274 P) :: (nat_lit 277,o277 P) :: (nat_lit 279,o279 P) :: (nat_lit 280,o280 P) :: (nat_lit 282,o282 P) :: (nat_lit 283,o283 P) :: (nat_lit 284,o284 P) :: (nat_lit 285,o285 P) :: (nat_lit 288,o288 P) :: (nat_lit 289,o289 P) :: (nat_lit 290,o290 P) :: (nat_lit 291,o291 P) :: (nat_lit 292,o292 P) :: (nat_lit 294,o294 P) :: (nat_lit 295,o295 P) :: (nat_lit 297,o297 P) :: (nat_lit 298,o298 P) :: (nat_lit 299,o299 P) :: (nat_lit 301,o301 P) :: (nat_lit 302,o302 P) :: (nat_lit 304,o304 P) :: (nat_lit 305,o305 P) :: (nat_lit 306,o306 P) :: (nat_lit 307,o307 P) :: (nat_lit 308,o308 P) :: (nat_lit 309,o309 P) :: (nat_lit 311,o311 P) :: (nat_lit 312,o312 P) :: (nat_lit 314,o314 P) :: (nat_lit 315,o315 P) :: (nat_lit 316,o316 P) :: (nat_lit 318,o318 P) :: (nat_lit 319,o319 P) :: (nat_lit 321,o321 P) :: (nat_lit 322,o322 P) :: (nat_lit 323,o323 P) :: (nat_lit 326,o326 P) :: (nat_lit 327,o327 P) :: (nat_lit 328,o328 P) :: (nat_lit 330,o330 P) :: (nat_lit 331,o331 P) :: (nat_lit 333,o333 P) :: (nat_lit 334,o334 P) :: (nat_lit 335,o335 P) :: (nat_lit 337,o337 P) :: (nat_lit 338,o338 P) :: (nat_lit 340,o340 P) :: (nat_lit 341,o341 P) :: (nat_lit 342,o342 P) :: (nat_lit 343,o343 P) :: (nat_lit 345,o345 P) :: (nat_lit 346,o346 P) :: (nat_lit 348,o348 P) :: (nat_lit 349,o349 P) :: (nat_lit 350,o350 P) :: (nat_lit 351,o351 P) :: (nat_lit 353,o353 P) :: (nat_lit 354,o354 P) :: (nat_lit 356,o356 P) :: (nat_lit 357,o357 P) :: (nat_lit 358,o358 P) :: (nat_lit 359,o359 P) :: (nat_lit 360,o360 P) :: (nat_lit 361,o361 P) :: (nat_lit 362,o362 P) :: (nat_lit 365,o365 P) :: (nat_lit 372,o372 P) :: (nat_lit 374,o374 P) :: (nat_lit 375,o375 P) :: (nat_lit 377,o377 P) :: (nat_lit 378,o378 P) :: (nat_lit 379,o379 P) :: (nat_lit 381,o381 P) :: (nat_lit 382,o382 P) :: (nat_lit 384,o384 P) :: (nat_lit 385,o385 P) :: (nat_lit 386,o386 P) :: (nat_lit 387,o387 P) :: (nat_lit 389,o389 P) :: (nat_lit 390,o390 P) :: (nat_lit 392,o392 P) :: (nat_lit 393,o393 P) :: (nat_lit 394,o394 P) :: (nat_lit 395,o395 P) :: (nat_lit 397,o397 P) :: (nat_lit 398,o398 P) :: (nat_lit 400,o400 P) :: (nat_lit 401,o401 P) :: (nat_lit 402,o402 P) :: (nat_lit 403,o403 P) :: (nat_lit 404,o404 P) :: (nat_lit 407,o407 P) :: (nat_lit 414,o414 P) :: (nat_lit 415,o415 P) :: (nat_lit 417,o417 P) :: (nat_lit 418,o418 P) :: (nat_lit 420,o420 P) :: (nat_lit 421,o421 P) :: (nat_lit 422,o422 P) :: (nat_lit 424,o424 P) :: (nat_lit 425,o425 P) :: (nat_lit 427,o427 P) :: (nat_lit 428,o428 P) :: (nat_lit 429,o429 P) :: (nat_lit 430,o430 P) :: (nat_lit 432,o432 P) :: (nat_lit 433,o433 P) :: (nat_lit 435,o435 P) :: (nat_lit 436,o436 P) :: (nat_lit 437,o437 P) :: (nat_lit 438,o438 P) :: (nat_lit 440,o440 P) :: (nat_lit 441,o441 P) :: (nat_lit 443,o443 P) :: (nat_lit 444,o444 P) :: (nat_lit 445,o445 P) :: (nat_lit 446,o446 P) :: (nat_lit 448,o448 P) :: (nat_lit 449,o449 P) :: (nat_lit 451,o451 P) :: (nat_lit 452,o452 P) :: (nat_lit 453,o453 P) :: (nat_lit 454,o454 P) :: (nat_lit 456,o456 P) :: (nat_lit 457,o457 P) :: (nat_lit 459,o459 P) :: (nat_lit 460,o460 P) :: (nat_lit 461,o461 P) :: (nat_lit 462,o462 P) :: (nat_lit 464,o464 P) :: (nat_lit 465,o465 P) :: (nat_lit 467,o467 P) :: (nat_lit 468,o468 P) :: (nat_lit 469,o469 P) :: (nat_lit 470,o470 P) :: (nat_lit 471,o471 P) :: (nat_lit 474,o474 P) :: (nat_lit 476,o476 P) :: (nat_lit 477,o477 P) :: (nat_lit 479,o479 P) :: (nat_lit 480,o480 P) :: (nat_lit 481,o481 P) :: (nat_lit 484,o484 P) :: (nat_lit 485,o485 P) :: (nat_lit 486,o486 P) :: (nat_lit 489,o489 P) :: (nat_lit 490,o490 P) :: (nat_lit 491,o491 P) :: (nat_lit 493,o493 P) :: (nat_lit 494,o494 P) :: (nat_lit 496,o496 P) :: (nat_lit 497,o497 P) :: (nat_lit 498,o498 P) :: (nat_lit 501,o501 P) :: (nat_lit 502,o502 P) :: (nat_lit 503,o503 P) :: (nat_lit 505,o505 P) :: (nat_lit 506,o506 P) :: (nat_lit 508,o508 P) :: (nat_lit 509,o509 P) :: (nat_lit 510,o510 P) :: (nat_lit 512,o512 P) :: (nat_lit 513,o513 P) :: (nat_lit 515,o515 P) :: (nat_lit 516,o516 P) :: (nat_lit 517,o517 P) :: (nat_lit 520,o520 P) :: (nat_lit 521,o521 P) :: []
noncomputable abbrev l0 : List Stmt :=behindTheImports pw
noncomputable abbrev env : Env :={ scope :=pw.main.scope,locals :=mainNs,globals :=mainNs,cells :=[],code :=.ref 13,frame :=some 14 }
noncomputable abbrev cE : Code :=.body l0 env
noncomputable abbrev ann : Option Value :=some (.ref 6)
noncomputable abbrev z : Pos :=⟨0, 0, 0, 0⟩
noncomputable abbrev B : List Frame :=[topFrame z]
noncomputable abbrev S (T : Params → BT) (n tk : Nat) (w : World) (os : OsState) : SharedT :=⟨T w.params,n, {}, #[], {},tk,os⟩
end
noncomputable section
noncomputable abbrev r1 : String :="special-get-raises"
noncomputable abbrev r2 : String :="comprehension-iter-twice"
noncomputable abbrev wv (w : World) (b1 b2 : Bool) : World :=(w.withFollow r1 b1).withFollow r2 b2
noncomputable abbrev go (n : Nat) (w : World) (s : SharedT) (t : Thread) :=Fast.tw10295753902157049106 Fast.tw14364793385576792824 pw w 11 ann 1 n s t
noncomputable def thOf (x : Option (SharedT × Thread)) : Thread :=match x with | some (_,t)=>t | none=>⟨.raise .none,cE,z, []⟩
theorem go_segGoT (n : Nat) (w : World) (s : SharedT) (t : Thread) : segGoT treeTable pw w 11 ann 1 n s t = go n w s t :=by
  rw [PySem.W.Fast.te10295753902157049106,PySem.W.Fast.te14364793385576792824]
theorem segGoT_add {tb : String → Option Builtin} {p : Program} {w : World} {n₀ : Nat} {ann : Option Value} {b : Nat} {a c : Nat} {s s' : SharedT} {t t' : Thread} {r : SharedT × Thread} (h : segGoT tb p w n₀ ann b a s t = some (s',t')) (k : segGoT tb p w n₀ ann b c s' t' = some r) : segGoT tb p w n₀ ann b (a + c) s t = some r :=by
  induction a generalizing s t with
  | zero =>
    obtain ⟨rfl,rfl⟩ : s = s' ∧ t = t' :=by simpa [segGoT] using h
    rw [Nat.zero_add];exact k
  | succ a ih =>
    rw [Nat.add_right_comm]
    unfold segGoT at h ⊢
    cases he : endAt b t with
    | some f=>rw [he] at h;cases h
    | none =>
      rw [he] at h
      cases hk : stepOk n₀ ann t with
      | false=>rw [hk] at h;cases h
      | true =>
        rw [hk] at h
        cases hs : stepT (denote tb) p w s t with
        | none=>rw [hs] at h;cases h
        | some q=>obtain ⟨s₂,t₂⟩ :=q;rw [hs] at h;exact ih h
theorem go_add {w : World} {a c : Nat} {s s' : SharedT} {t t' : Thread} {r : SharedT × Thread} (h : go a w s t = some (s',t')) (k : go c w s' t' = some r) : go (a + c) w s t = some r :=by
  rw [← go_segGoT] at h k ⊢
  exact segGoT_add h k
theorem segRunT_add {tb : String → Option Builtin} {p : Program} {w : World} {n₀ : Nat} {ann : Option Value} {b : Nat} {a c : Nat} {s s' : SharedT} {t t' : Thread} {r : Flow × SharedT × Code × Pos} (h : segGoT tb p w n₀ ann b a s t = some (s',t')) (k : segRunT tb p w n₀ ann b c s' t' = some r) : segRunT tb p w n₀ ann b (a + c) s t = some r :=by
  induction a generalizing s t with
  | zero =>
    obtain ⟨rfl,rfl⟩ : s = s' ∧ t = t' :=by simpa [segGoT] using h
    rw [Nat.zero_add];exact k
  | succ a ih =>
    rw [Nat.add_right_comm]
    unfold segGoT at h
    unfold segRunT
    cases he : endAt b t with
    | some f=>rw [he] at h;cases h
    | none =>
      rw [he] at h
      cases hk : stepOk n₀ ann t with
      | false=>rw [hk] at h;cases h
      | true =>
        rw [hk] at h
        cases hs : stepT (denote tb) p w s t with
        | none=>rw [hs] at h;cases h
        | some q=>obtain ⟨s₂,t₂⟩ :=q;rw [hs] at h;exact ih h
theorem segRun_mono {tb : String → Option Builtin} {p : Program} {w : World} {n₀ : Nat} {ann : Option Value} {b : Nat} (k : Nat) {n : Nat} {s : Shared} {t : Thread} {r : Flow × Shared × Code × Pos} (h : segRun tb p w n₀ ann b n s t = some r) : segRun tb p w n₀ ann b (n + k) s t = some r :=by
  induction n generalizing s t with
  | zero=>simp [segRun] at h
  | succ n ih =>
    rw [Nat.add_right_comm]
    unfold segRun at h ⊢
    cases he : endAt b t with
    | some f=>rw [he] at h;exact h
    | none =>
      rw [he] at h
      cases hk : stepOk n₀ ann t with
      | false=>rw [hk] at h;cases h
      | true =>
        rw [hk] at h
        cases hs : step (denote tb) p w s t with
        | halt o s₂=>rw [hs] at h;cases h
        | go s₂ t₂=>rw [hs] at h;exact ih h
noncomputable def rit (v left : Int) : Obj :=⟨.type "range_iterator",none, .fields #[.int v 0, .int left 0, .int 1 0], #[]⟩
noncomputable def lst (xs : Array Value) (n : Nat) : Obj :=⟨.type "list",none, .seq xs n, #[]⟩
noncomputable abbrev chkd (d : Option String) : Sem Fin :=R.bindR (match d with | some w=>unsupported w | _=>pure ()) (fun _=>ret .none)
noncomputable abbrev push1 (c j tk : Nat) : Obj → Obj :=Obj.mapSeq (fun a=>Fast.tw2398297429280069960 a (.int (Builtin.bitXor (Int.ofNat j) (Int.ofNat c)) (tk + 3)))
noncomputable def vals (c t : Nat) : Nat → Array Value
  | 0=>#[]
  | k + 1=>(vals c t k).push (.int (Builtin.bitXor (Int.ofNat k) (Int.ofNat c)) (t + 4 * k))
theorem vals_size (c t : Nat) : ∀ k,(vals c t k).size = k
  | 0=>rfl
  | k + 1=>by unfold vals;rw [Array.size_push,vals_size c t k]
theorem push_lst (c t k tk : Nat) (h : tk + 3 = t + 4 * k) : push1 c k tk (lst (vals c t k) k) = lst (vals c t (k + 1)) (k + 1) :=by
  unfold push1 lst Obj.mapSeq
  dsimp only
  rw [← PySem.W.Fast.te2398297429280069960,h]
  have e : ((vals c t k).push (.int (Builtin.bitXor (Int.ofNat k) (Int.ofNat c)) (t + 4 * k))).size = (vals c t k).size + 1 :=Array.size_push ..
  rw [e]
  have : ((vals c t k).size + 1 == (vals c t k).size) = false :=by simp
  rw [this]
  rfl
theorem push_line (c j tk n : Nat) {xs : Array Value} (h : xs.size < 256) : (push1 c j tk (lst xs n)).data.pastItsLine = none :=by
  unfold push1 lst Obj.mapSeq
  dsimp only
  rw [← PySem.W.Fast.te2398297429280069960]
  unfold Data.pastItsLine
  dsimp only
  rw [Array.size_push,if_neg (by rw [show sizeLine = 16777216 from rfl];omega)]
noncomputable def aitems : Array Value :=l185.toArray
noncomputable def abytes : Array UInt8 :=b190
noncomputable def at0 : Thread :=piecesOf [tp 14] env cE ⟨93, 0, 93, 8⟩ B
noncomputable def at0' : Thread :=⟨(Fast.tw12563942051412417395 [tp 14] env).wrap doneF deadEnd id id,cE,⟨93, 0, 93, 8⟩,B⟩
theorem at0_eq : at0 = at0' :=by
  unfold at0 at0' piecesOf
  rw [PySem.W.Fast.te12563942051412417395]
noncomputable abbrev aq : Pos :=⟨94, 19, 94, 25⟩
noncomputable def aloc (P : Params) (v : Int) (t : Nat) : Obj :=⟨.type "dict",none, .dict #[⟨PyData.keyHash P (ofString "x"), .str (ofString "x") 423, .int v t⟩] 1, #[]⟩
noncomputable def aA0 (P : Params) : BT :=T1 P |>.ins 183 (o183 P) |>.ins 184 (rit 0 256) |>.ins 185 (lst #[] 0) |>.ins 186 ⟨.type "dict",none, .dict #[] 0, #[]⟩
noncomputable def aA1 (v left : Int) (l : Obj) (y : Int) (t : Nat) (P : Params) : BT :=T1 P |>.ins 183 (o183 P) |>.ins 184 (rit v left) |>.ins 185 l |>.ins 186 (aloc P y t)
noncomputable def aM (i : Int) (b : Array UInt8) (P : Params) : BT :=T1 P |>.ins 183 (o183 P) |>.ins 184 (rit 256 0) |>.ins 185 (o185 P) |>.ins 186 (o186 P) |>.ins 187 (o187 P) |>.ins 188 (o188 P) |>.ins 189 ⟨.type "list_iterator",none, .fields #[.ref 185, .int i 0], #[]⟩ |>.ins 190 ⟨.type "bytearray",none, .bytearray b 0, #[]⟩
noncomputable def atA (w : World) (os : OsState) : Thread :=thOf (go 45 (wv w true true) (S T1 183 419 (wv w true true) os) at0')
noncomputable def atB (w : World) (os : OsState) (p : Pos) : Thread :={ atA w os with pos :=p }
theorem apre (w : World) (os : OsState) (b1 b2 : Bool) : go (cond b2 45 55) (wv w b1 b2) (S T1 183 419 (wv w b1 b2) os) at0' = some (S aA0 187 422 (wv w b1 b2) os,atA w os) :=by
  cases b1 <;> cases b2 <;> kernel_rfl
theorem afirst (w u : World) (os : OsState) : go 37 u (S aA0 187 422 u os) (atA w os) = some (S (aA1 1 255 (lst (vals 92 425 1) 1) 0 422) 187 (422 + 4) u os,atB w os aq) :=by kernel_rfl
noncomputable def aT35 (p : Pos) (w u : World) (os : OsState) (j m : Nat) (y : Int) (t tk n : Nat) : Thread :=thOf (go 35 u (S (aA1 (Int.ofNat j) (Int.ofNat (m+1)) (lst #[] n) y t) 187 tk u os) (atB w os p))
theorem aturnA (p : Pos) (w u : World) (os : OsState) (j m : Nat) (y : Int) (t tk n : Nat) (xs : Array Value) :
    go 35 u (S (aA1 (Int.ofNat j) (Int.ofNat (m+1)) (lst xs n) y t) 187 tk u os) (atB w os p) =
     some (S (aA1 (Int.ofNat j + 1) (Int.ofNat (m+1) - 1) (push1 92 j tk (lst xs n)) (Int.ofNat j) tk) 187 (tk+4) u os, { aT35 p w u os j m y t tk n with cur :=chkd (push1 92 j tk (lst xs n)).data.pastItsLine }) :=by kernel_rfl
theorem aturnB (p : Pos) (w u : World) (os : OsState) (j m : Nat) (y : Int) (t tk n : Nat) (xs : Array Value) :
    go 2 u (S (aA1 (Int.ofNat j + 1) (Int.ofNat (m+1) - 1) (push1 92 j tk (lst xs n)) (Int.ofNat j) tk) 187 (tk+4) u os) { aT35 p w u os j m y t tk n with cur :=chkd none } =
     some (S (aA1 (Int.ofNat j + 1) (Int.ofNat (m+1) - 1) (push1 92 j tk (lst xs n)) (Int.ofNat j) tk) 187 (tk+4) u os,atB w os aq) :=by kernel_rfl
noncomputable abbrev aSt (k : Nat) (u : World) (os : OsState) : SharedT :=S (aA1 (Int.ofNat k) (Int.ofNat (256 - k)) (lst (vals 92 425 k) k) (Int.ofNat (k - 1)) (422 + 4 * (k - 1))) 187 (422 + 4 * k) u os
theorem aturn (w u : World) (os : OsState) (k : Nat) (h1 : 1 ≤ k) (h2 : k < 256) : go 37 u (aSt k u os) (atB w os aq) = some (aSt (k + 1) u os,atB w os aq) :=by
  have hA :=aturnA aq w u os k (255 - k) (Int.ofNat (k - 1)) (422 + 4 * (k - 1)) (422 + 4 * k) k (vals 92 425 k)
  have hB :=aturnB aq w u os k (255 - k) (Int.ofNat (k - 1)) (422 + 4 * (k - 1)) (422 + 4 * k) k (vals 92 425 k)
  rw [push_line _ _ _ _ (by rw [vals_size];omega)] at hA
  have h :=go_add hA hB
  have e1 : (255 - k + 1 : Nat) = 256 - k :=(Nat.sub_add_comm (Nat.le_of_lt_succ h2)).symm
  have e2 : Int.ofNat (256 - k) - 1 = Int.ofNat (256 - (k + 1)) :=by
    rw [Nat.sub_add_eq];exact (Int.ofNat_sub (Nat.sub_pos_of_lt h2)).symm
  have e3 : (Int.ofNat k + 1 : Int) = Int.ofNat (k + 1) :=rfl
  rw [e1,e2,e3,push_lst _ _ _ _ (by omega)] at h
  exact h
theorem aturns (w u : World) (os : OsState) : ∀ d k, 1 ≤ k → k + d = 256 → go (37 * d) u (aSt k u os) (atB w os aq) = some (aSt 256 u os,atB w os aq)
  | 0,k,_,h=>by rw [show k = 256 by omega];rfl
  | d + 1,k,h1,h=>by
    rw [show 37 * (d + 1) = 37 + 37 * d by omega]
    exact go_add (aturn w u os k h1 (by omega)) (aturns w u os d (k + 1) (by omega) (by omega))
theorem alit : vals 92 425 256 = (aitems : Array Value) :=by kernel_rfl
noncomputable def atC (w : World) (os : OsState) : Thread :=thOf (go 43 (wv w true true) (S (aA1 256 0 (lst aitems 256) 255 (422 + 4 * 255)) 187 1446 (wv w true true) os) (atB w os aq))
theorem amid (w : World) (os : OsState) (b1 b2 : Bool) : go 43 (wv w b1 b2) (S (aA1 256 0 (lst aitems 256) 255 (422 + 4 * 255)) 187 1446 (wv w b1 b2) os) (atB w os aq) = some (S (aM 0 #[]) 191 1446 (wv w b1 b2) os,atC w os) :=by
  cases b1 <;> cases b2 <;> kernel_rfl
theorem afill (w u : World) (os : OsState) : go (15 * 256) u (S (aM 0 #[]) 191 1446 u os) (atC w os) = some (S (aM 256 abytes) 191 1446 u os,atC w os) :=by kernel_rfl
theorem alast (w u : World) (os : OsState) : Fast.tw10110043849684766642 Fast.tw14364793385576792824 pw u 11 ann 1 31 (S (aM 256 abytes) 191 1446 u os) (atC w os) = some (.next,S T2 193 1448 u os,cE,⟨94, 0, 94, 9⟩) :=by kernel_rfl
theorem aruns (w : World) (os : OsState) (b1 b2 : Bool) : segRunT treeTable pw (wv w b1 b2) 11 ann 1 (cond b2 13431 13441) (S T1 183 419 (wv w b1 b2) os) at0 = some (.next,S T2 193 1448 (wv w b1 b2) os,cE,⟨94, 0, 94, 9⟩) :=by
  rw [at0_eq]
  have a :=go_add (go_add (apre w os b1 b2) (afirst w _ os)) (aturns w (wv w b1 b2) os 255 1 (by omega) rfl)
  unfold aSt at a
  rw [alit] at a
  have a2 :=go_add (go_add a (amid w os b1 b2)) (afill w _ os)
  rw [← go_segGoT] at a2
  have l :=alast w (wv w b1 b2) os
  rw [← PySem.W.Fast.te10110043849684766642, ← PySem.W.Fast.te14364793385576792824] at l
  have e :=segRunT_add a2 l
  cases b2 <;> exact e
theorem arun (w : World) (os : OsState) : segRun treeTable pw w 11 ann 1 13441 (S T1 183 419 w os).abs at0 = some (.next,(S T2 193 1448 w os).abs,cE,⟨94, 0, 94, 9⟩) :=by
  have e : wv w (w.params.followText r1) (w.params.followText r2) = w :=by unfold wv;rw [World.withFollow_self,World.withFollow_self]
  have h :=aruns w os (w.params.followText r1) (w.params.followText r2)
  rw [e] at h
  have h :=segRun_of h
  cases hb : w.params.followText r2 with
  | true=>rw [hb] at h;exact segRun_mono 10 h
  | false=>rw [hb] at h;exact h
noncomputable def bitems : Array Value :=l195.toArray
noncomputable def bbytes : Array UInt8 :=b200
noncomputable def bt0 : Thread :=piecesOf [tp 15] env cE ⟨94, 0, 94, 9⟩ B
noncomputable def bt0' : Thread :=⟨(Fast.tw12563942051412417395 [tp 15] env).wrap doneF deadEnd id id,cE,⟨94, 0, 94, 9⟩,B⟩
theorem bt0_eq : bt0 = bt0' :=by
  unfold bt0 bt0' piecesOf
  rw [PySem.W.Fast.te12563942051412417395]
noncomputable abbrev bq : Pos :=⟨95, 19, 95, 25⟩
noncomputable def bloc (P : Params) (v : Int) (t : Nat) : Obj :=⟨.type "dict",none, .dict #[⟨PyData.keyHash P (ofString "x"), .str (ofString "x") 1452, .int v t⟩] 1, #[]⟩
noncomputable def bA0 (P : Params) : BT :=T2 P |>.ins 193 (o193 P) |>.ins 194 (rit 0 256) |>.ins 195 (lst #[] 0) |>.ins 196 ⟨.type "dict",none, .dict #[] 0, #[]⟩
noncomputable def bA1 (v left : Int) (l : Obj) (y : Int) (t : Nat) (P : Params) : BT :=T2 P |>.ins 193 (o193 P) |>.ins 194 (rit v left) |>.ins 195 l |>.ins 196 (bloc P y t)
noncomputable def bM (i : Int) (b : Array UInt8) (P : Params) : BT :=T2 P |>.ins 193 (o193 P) |>.ins 194 (rit 256 0) |>.ins 195 (o195 P) |>.ins 196 (o196 P) |>.ins 197 (o197 P) |>.ins 198 (o198 P) |>.ins 199 ⟨.type "list_iterator",none, .fields #[.ref 195, .int i 0], #[]⟩ |>.ins 200 ⟨.type "bytearray",none, .bytearray b 0, #[]⟩
noncomputable def btA (w : World) (os : OsState) : Thread :=thOf (go 45 (wv w true true) (S T2 193 1448 (wv w true true) os) bt0')
noncomputable def btB (w : World) (os : OsState) (p : Pos) : Thread :={ btA w os with pos :=p }
theorem bpre (w : World) (os : OsState) (b1 b2 : Bool) : go (cond b2 45 55) (wv w b1 b2) (S T2 193 1448 (wv w b1 b2) os) bt0' = some (S bA0 197 1451 (wv w b1 b2) os,btA w os) :=by
  cases b1 <;> cases b2 <;> kernel_rfl
theorem bfirst (w u : World) (os : OsState) : go 37 u (S bA0 197 1451 u os) (btA w os) = some (S (bA1 1 255 (lst (vals 54 1454 1) 1) 0 1451) 197 (1451 + 4) u os,btB w os bq) :=by kernel_rfl
noncomputable def bT35 (p : Pos) (w u : World) (os : OsState) (j m : Nat) (y : Int) (t tk n : Nat) : Thread :=thOf (go 35 u (S (bA1 (Int.ofNat j) (Int.ofNat (m+1)) (lst #[] n) y t) 197 tk u os) (btB w os p))
theorem bturnA (p : Pos) (w u : World) (os : OsState) (j m : Nat) (y : Int) (t tk n : Nat) (xs : Array Value) :
    go 35 u (S (bA1 (Int.ofNat j) (Int.ofNat (m+1)) (lst xs n) y t) 197 tk u os) (btB w os p) =
     some (S (bA1 (Int.ofNat j + 1) (Int.ofNat (m+1) - 1) (push1 54 j tk (lst xs n)) (Int.ofNat j) tk) 197 (tk+4) u os, { bT35 p w u os j m y t tk n with cur :=chkd (push1 54 j tk (lst xs n)).data.pastItsLine }) :=by kernel_rfl
theorem bturnB (p : Pos) (w u : World) (os : OsState) (j m : Nat) (y : Int) (t tk n : Nat) (xs : Array Value) :
    go 2 u (S (bA1 (Int.ofNat j + 1) (Int.ofNat (m+1) - 1) (push1 54 j tk (lst xs n)) (Int.ofNat j) tk) 197 (tk+4) u os) { bT35 p w u os j m y t tk n with cur :=chkd none } =
     some (S (bA1 (Int.ofNat j + 1) (Int.ofNat (m+1) - 1) (push1 54 j tk (lst xs n)) (Int.ofNat j) tk) 197 (tk+4) u os,btB w os bq) :=by kernel_rfl
noncomputable abbrev bSt (k : Nat) (u : World) (os : OsState) : SharedT :=S (bA1 (Int.ofNat k) (Int.ofNat (256 - k)) (lst (vals 54 1454 k) k) (Int.ofNat (k - 1)) (1451 + 4 * (k - 1))) 197 (1451 + 4 * k) u os
theorem bturn (w u : World) (os : OsState) (k : Nat) (h1 : 1 ≤ k) (h2 : k < 256) : go 37 u (bSt k u os) (btB w os bq) = some (bSt (k + 1) u os,btB w os bq) :=by
  have hA :=bturnA bq w u os k (255 - k) (Int.ofNat (k - 1)) (1451 + 4 * (k - 1)) (1451 + 4 * k) k (vals 54 1454 k)
  have hB :=bturnB bq w u os k (255 - k) (Int.ofNat (k - 1)) (1451 + 4 * (k - 1)) (1451 + 4 * k) k (vals 54 1454 k)
  rw [push_line _ _ _ _ (by rw [vals_size];omega)] at hA
  have h :=go_add hA hB
  have e1 : (255 - k + 1 : Nat) = 256 - k :=(Nat.sub_add_comm (Nat.le_of_lt_succ h2)).symm
  have e2 : Int.ofNat (256 - k) - 1 = Int.ofNat (256 - (k + 1)) :=by
    rw [Nat.sub_add_eq];exact (Int.ofNat_sub (Nat.sub_pos_of_lt h2)).symm
  have e3 : (Int.ofNat k + 1 : Int) = Int.ofNat (k + 1) :=rfl
  rw [e1,e2,e3,push_lst _ _ _ _ (by omega)] at h
  exact h
theorem bturns (w u : World) (os : OsState) : ∀ d k, 1 ≤ k → k + d = 256 → go (37 * d) u (bSt k u os) (btB w os bq) = some (bSt 256 u os,btB w os bq)
  | 0,k,_,h=>by rw [show k = 256 by omega];rfl
  | d + 1,k,h1,h=>by
    rw [show 37 * (d + 1) = 37 + 37 * d by omega]
    exact go_add (bturn w u os k h1 (by omega)) (bturns w u os d (k + 1) (by omega) (by omega))
theorem blit : vals 54 1454 256 = (bitems : Array Value) :=by kernel_rfl
noncomputable def btC (w : World) (os : OsState) : Thread :=thOf (go 43 (wv w true true) (S (bA1 256 0 (lst bitems 256) 255 (1451 + 4 * 255)) 197 2475 (wv w true true) os) (btB w os bq))
theorem bmid (w : World) (os : OsState) (b1 b2 : Bool) : go 43 (wv w b1 b2) (S (bA1 256 0 (lst bitems 256) 255 (1451 + 4 * 255)) 197 2475 (wv w b1 b2) os) (btB w os bq) = some (S (bM 0 #[]) 201 2475 (wv w b1 b2) os,btC w os) :=by
  cases b1 <;> cases b2 <;> kernel_rfl
theorem bfill (w u : World) (os : OsState) : go (15 * 256) u (S (bM 0 #[]) 201 2475 u os) (btC w os) = some (S (bM 256 bbytes) 201 2475 u os,btC w os) :=by kernel_rfl
theorem blast (w u : World) (os : OsState) : Fast.tw10110043849684766642 Fast.tw14364793385576792824 pw u 11 ann 1 31 (S (bM 256 bbytes) 201 2475 u os) (btC w os) = some (.next,S T3 203 2477 u os,cE,⟨95, 0, 95, 9⟩) :=by kernel_rfl
theorem bruns (w : World) (os : OsState) (b1 b2 : Bool) : segRunT treeTable pw (wv w b1 b2) 11 ann 1 (cond b2 13431 13441) (S T2 193 1448 (wv w b1 b2) os) bt0 = some (.next,S T3 203 2477 (wv w b1 b2) os,cE,⟨95, 0, 95, 9⟩) :=by
  rw [bt0_eq]
  have a :=go_add (go_add (bpre w os b1 b2) (bfirst w _ os)) (bturns w (wv w b1 b2) os 255 1 (by omega) rfl)
  unfold bSt at a
  rw [blit] at a
  have a2 :=go_add (go_add a (bmid w os b1 b2)) (bfill w _ os)
  rw [← go_segGoT] at a2
  have l :=blast w (wv w b1 b2) os
  rw [← PySem.W.Fast.te10110043849684766642, ← PySem.W.Fast.te14364793385576792824] at l
  have e :=segRunT_add a2 l
  cases b2 <;> exact e
theorem brun (w : World) (os : OsState) : segRun treeTable pw w 11 ann 1 13441 (S T2 193 1448 w os).abs bt0 = some (.next,(S T3 203 2477 w os).abs,cE,⟨95, 0, 95, 9⟩) :=by
  have e : wv w (w.params.followText r1) (w.params.followText r2) = w :=by unfold wv;rw [World.withFollow_self,World.withFollow_self]
  have h :=bruns w os (w.params.followText r1) (w.params.followText r2)
  rw [e] at h
  have h :=segRun_of h
  cases hb : w.params.followText r2 with
  | true=>rw [hb] at h;exact segRun_mono 10 h
  | false=>rw [hb] at h;exact h
end
noncomputable section
noncomputable def L1 : List Stmt :=(List.range 14).map tp
noncomputable def L2 : List Stmt :=[tp 14]
noncomputable def L3 : List Stmt :=[tp 15]
noncomputable def L4 : List Stmt :=(List.range 5).map fun i=>tp (16 + i)
noncomputable def L5 : List Stmt :=[tp 21]
noncomputable def L6 : List Stmt :=[tp 22]
noncomputable def L7 : List Stmt :=[tp 23]
noncomputable def L8 : List Stmt :=(List.range 10).map fun i=>tp (24 + i)
theorem l0_eq : l0 = L1 ++ (L2 ++ (L3 ++ (L4 ++ (L5 ++ (L6 ++ (L7 ++ (L8 ++ []))))))) :=by kernel_rfl
theorem seg_of {n : Nat} {w : World} {s s' : SharedT} {l : List Stmt} {p p' : Pos}
    (h : Fast.tw10110043849684766642 Fast.tw14364793385576792824 pw w 11 ann 1 n s ⟨(Fast.tw12563942051412417395 l env).wrap doneF deadEnd id id,cE,p,B⟩ = some (.next,s',cE,p')) :
    segRun treeTable pw w 11 ann 1 n s.abs (piecesOf l env cE p B) = some (.next,s'.abs,cE,p') :=by
  rw [← PySem.W.Fast.te10110043849684766642, ← PySem.W.Fast.te14364793385576792824, ← PySem.W.Fast.te12563942051412417395] at h
  exact segRun_of h
theorem g1 (w : World) (os : OsState) : segRun treeTable pw w 11 ann 1 1582 (S T0 15 187 w os).abs (piecesOf L1 env cE z B) = some (.next,(S T1 183 419 w os).abs,cE,⟨93, 0, 93, 8⟩) :=seg_of (by kernel_rfl)
theorem g4 (w : World) (os : OsState) : segRun treeTable pw w 11 ann 1 103 (S T3 203 2477 w os).abs (piecesOf L4 env cE ⟨95, 0, 95, 9⟩ B) = some (.next,(S T4 222 2501 w os).abs,cE,⟨117, 0, 118, 42⟩) :=seg_of (by kernel_rfl)
theorem g5 (w : World) (os : OsState) : segRun treeTable pw w 11 ann 1 1543 (S T4 222 2501 w os).abs (piecesOf L5 env cE ⟨117, 0, 118, 42⟩ B) = some (.next,(S T5 365 2748 w os).abs,cE,⟨119, 0, 269, 33⟩) :=seg_of (by kernel_rfl)
theorem g6 (w : World) (os : OsState) : segRun treeTable pw w 11 ann 1 486 (S T5 365 2748 w os).abs (piecesOf L6 env cE ⟨119, 0, 269, 33⟩ B) = some (.next,(S T6 407 2803 w os).abs,cE,⟨270, 0, 289, 45⟩) :=seg_of (by kernel_rfl)
theorem g7 (w : World) (os : OsState) : segRun treeTable pw w 11 ann 1 769 (S T6 407 2803 w os).abs (piecesOf L7 env cE ⟨270, 0, 289, 45⟩ B) = some (.next,(S T7 474 2889 w os).abs,cE,⟨290, 0, 323, 40⟩) :=seg_of (by kernel_rfl)
theorem g8 (w : World) (os : OsState) : segRun treeTable pw w 11 ann 1 260 (S T7 474 2889 w os).abs (piecesOf L8 env cE ⟨290, 0, 323, 40⟩ B) = some (.next,(S T8 522 2966 w os).abs,cE,⟨431, 0, 483, 117⟩) :=seg_of (by kernel_rfl)
theorem pre (w : World) (os : OsState) : topGo treeTable pw w 11 ann 12 ⟨boot_heap w.params,Array.mk [],boot_drawn,boot_toks,os⟩ (topStub pw) = some ((S T0 15 187 w os).abs,⟨denote treeTable cE,cE,z,B⟩) :=by
  rw [PySem.W.Fast.te15667345088766844465,PySem.W.Fast.te11892475500146522536,PySem.W.Fast.te14364793385576792824]
  kernel_rfl
theorem blk (w : World) (os : OsState) : segRun treeTable pw w 11 ann 1 1 (S T0 15 187 w os).abs (blockOf l0 env cE z B) = some (.next,(S T0 15 187 w os).abs,cE,z) :=by
  rw [PySem.W.Fast.te14374325043358763698,PySem.W.Fast.te14364793385576792824]
  kernel_rfl
noncomputable abbrev H1 (P : Params) : Heap :=absHeap (T8 P) 522 {}
theorem fin (w : World) (os : OsState) : topRun treeTable pw w 11 ann 2 (S T8 522 2966 w os).abs (restOf [] env cE ⟨431, 0, 483, 117⟩ B) = some ⟨H1 w.params, #[], {}, 2966,os⟩ :=by
  rw [PySem.W.Fast.te14082659384304107361,PySem.W.Fast.te14364793385576792824]
  kernel_rfl
noncomputable abbrev M : Nat :=12 + (1 + (1582 + (13441 + (13441 + (103 + (1543 + (486 + (769 + (260 + 2)))))))))
theorem run (w : World) (os : OsState) : topRun treeTable pw w 11 ann M ⟨boot_heap w.params,Array.mk [],boot_drawn,boot_toks,os⟩ (topStub pw) = some ⟨H1 w.params, #[], {}, 2966,os⟩ :=by
  refine go_top (pre w os) (piece_block (blk w os) ?_)
  rw [show restOf l0 env cE z [topFrame z] = restOf (L1 ++ (L2 ++ (L3 ++ (L4 ++ (L5 ++ (L6 ++ (L7 ++ (L8 ++ [])))))))) env cE z [topFrame z] from congrArg (fun l=>restOf l env cE z [topFrame z]) l0_eq]
  exact piece_app (g1 w os) (piece_app (arun w os) (piece_app (brun w os) (piece_app (g4 w os) (piece_app (g5 w os) (piece_app (g6 w os) (piece_app (g7 w os) (piece_app (g8 w os) (fin w os))))))))
end
noncomputable section
noncomputable def vq : Program :=view pw [33]
noncomputable def loose : List Str :=[ofString "_wall",ofString "TokenError",ofString "MalformedTokenError",ofString "InvalidTokenError",ofString "UsedTokenError",ofString "ExpectedTypeError",ofString "ExpectedStringError",ofString "SequenceMixin",ofString "consteq",ofString "to_bytes",ofString "to_unicode",ofString "_TRANS_5C",ofString "_TRANS_36",ofString "compile_hmac",ofString "_clean_signs",ofString "_pack_uint64",ofString "_unpack_uint32",ofString "TOTP",ofString "TotpToken",ofString "TotpMatch",ofString "_law_blanks",ofString "_law_hash",ofString "_law_token",ofString "_law_pads",ofString "_law_due",ofString "_law_told",ofString "_law_wrong",ofString "_law_answer"]
noncomputable def KA : List Addr :=[0, 1, 2, 3, 15, 17, 18, 20, 21, 22, 25, 30, 31, 32, 34, 35, 37, 38, 39, 40, 41, 42, 45, 52, 53, 54, 57, 64, 65, 66, 69, 72, 77, 78, 80, 81, 83, 84, 85, 86, 87, 90, 92, 93, 95, 96, 97, 99, 100, 102, 103, 104, 111, 113, 114, 116, 117, 118, 120, 121, 123, 124, 125, 127, 128, 130, 131, 132, 134, 135, 137, 138, 139, 141, 142, 144, 145, 146, 148, 149, 151, 152, 153, 154, 155, 156, 157, 160, 162, 163, 165, 166, 167, 168, 170, 171, 173, 174, 175, 176, 178, 179, 181, 182, 203, 206, 207, 208, 210, 211, 213, 214, 215, 217, 218, 220, 221, 222, 229, 230, 232, 233, 235, 236, 237, 238, 240, 241, 243, 244, 245, 246, 247, 248, 250, 251, 253, 254, 255, 256, 257, 258, 260, 261, 263, 264, 265, 266, 267, 268, 270, 271, 273, 274, 277, 279, 280, 282, 283, 284, 285, 288, 289, 290, 291, 292, 294, 295, 297, 298, 299, 301, 302, 304, 305, 306, 307, 308, 309, 311, 312, 314, 315, 316, 318, 319, 321, 322, 323, 326, 327, 328, 330, 331, 333, 334, 335, 337, 338, 340, 341, 342, 343, 345, 346, 348, 349, 350, 351, 353, 354, 356, 357, 358, 359, 360, 361, 362, 365, 372, 374, 375, 377, 378, 379, 381, 382, 384, 385, 386, 387, 389, 390, 392, 393, 394, 395, 397, 398, 400, 401, 402, 403, 404, 407, 414, 415, 417, 418, 420, 421, 422, 424, 425, 427, 428, 429, 430, 432, 433, 435, 436, 437, 438, 440, 441, 443, 444, 445, 446, 448, 449, 451, 452, 453, 454, 456, 457, 459, 460, 461, 462, 464, 465, 467, 468, 469, 470, 471, 474, 476, 477, 479, 480, 481, 484, 485, 486, 489, 490, 491, 493, 494, 496, 497, 498, 501, 502, 503, 505, 506, 508, 509, 510, 512, 513, 515, 516, 517, 520, 521]
theorem KA_eq : ∀ P,KA = (K P).map (·.1) :=fun P=>by kernel_rfl
noncomputable abbrev Hk : Hook :=kmHook K KA KA_eq [504, 352, 204, 518]
noncomputable abbrev rr : OpenRow :=PySem.Challenge.rw_iw0012_01.row
theorem op : ∀ w : World,(fencedOpening treeTable pw w 70000).map (fun s=>(s.heap,s.gens,s.drawn,s.toks)) = some (boot_heap w.params,Array.mk [],boot_drawn,boot_toks) :=fun w=>by
  unfold fencedOpening
  rw [PySem.W.Fast.te10274390034422433532,PySem.W.Fast.te14364793385576792824,PySem.W.Fast.te14289696077712309145]
  kernel_rfl
theorem siz : ∀ w : World,((boot_heap w.params).isNs mainGlobals && (Array.mk [] : Array GenState).size == 0,(boot_heap w.params).objs.size,(boot_heap w.params).nsMap mainGlobals "__annotations__") = (true, 11,ann) :=fun w=>by kernel_rfl
noncomputable abbrev XtH : Shared → Bool :=fun s=>xlAt vq [] s && recOk (RowW.records rr.toRowW) s
theorem lk1 : ∀ (w : World) (os : OsState),(staticsOk (importedModules pw.main.body) (boot_heap w.params) (H1 w.params) && namesBound pw (H1 w.params) && gensDone ⟨H1 w.params, #[], {}, 2966,os⟩ && laidKept (boot_heap w.params) (H1 w.params)) = true :=fun w os=>by kernel_rfl
theorem lk2 : ∀ (w : World) (os : OsState),openSeen vq loose (importedModules pw.main.body) XtH true ⟨H1 w.params, #[], {}, 2966,os⟩ = openGood vq loose :=fun w os=>by
  rw [PySem.W.Fast.te4187177175401517315]
  kernel_rfl
theorem lk3 : ∀ (w : World) (os : OsState),Hk.obs ⟨H1 w.params, #[], {}, 2966,os⟩ = Hk.val w :=fun w os=>by kernel_rfl
theorem left : LeftO pw vq loose XtH Hk.obs Hk.val 70000 true :=
  LeftO.of_pieces (H₀ :=boot_heap) (gs₀ :=Array.mk []) (d₀ :=boot_drawn) (k₀ :=boot_toks) (m₀ :=11) (ann :=ann) (H₁ :=H1) (gs₁ :=#[]) (d₁ :={}) (k₁ :=2966) (M :=M) op siz run (by kernel_rfl) fun w=>funext fun os=>looks_pair (lk1 w os) (looks_pair (lk2 w os) (lk3 w os))
end
theorem ws : PySem.Challenge.rw_iw0012_01.wellSaid = true :=by
  rw [PySem.W.Fast.te9446332074065402090]
  kernel_rfl
noncomputable def natOf (b : Array UInt8) : Nat :=b.toList.foldl (fun acc c=>acc * 256 + c.toNat) 0
theorem natOf_lt (b : Array UInt8) : natOf b < 256 ^ b.size :=by
  have h1 :=KFB.fold_lt b.toList 0
  rw [Nat.zero_add,Nat.one_mul,Array.length_toList] at h1
  exact h1
section
variable {prog : Program} {w : World} {M : Model} {A : Around} {E : VP} {s : Shared} {h₀ : Heap} {L : Addr} {m : MP} {news : Led}
theorem grownB {n k : Nat} {Q : VP} (hn : n < 256 ^ k) (hk : k ≤ 2 ^ 21) (h : Q (.int (n : Int) s.toks) { s with toks :=s.toks + 1 }) : wpAny M A (mkIntGrown (n : Int)) Q E s :=by
  unfold mkIntGrown
  have hl : ¬ ((n : Int).natAbs.log2 ≥ bitsLine) :=by
    rw [Int.natAbs_natCast]
    have hb : bitsLine = 134217728 :=rfl
    by_cases hz : n = 0
    · subst hz
      rw [hb]
      decide
    · have e : (256 : Nat) ^ k = 2 ^ (8 * k) :=by rw [Nat.pow_mul]
      rw [e] at hn
      have h1 :=(Nat.log2_lt hz).mpr hn
      exact Om.k21 h1 hk hb
  rw [if_neg hl]
  exact wpAny_mkInt h
theorem tree_bigB {b : Array UInt8} {t u : Tok} {P : Fin → Shared → Prop} (hl : b.size ≤ 2 ^ 21) (h : P (.done (.ret (.int (natOf b : Nat) s.toks))) { s with toks :=s.toks + 1 }) :
    wpAny M A (Builtin.«int.from_bytes» ⟨[.type "int", .bytes b t, .str (ofString "big") u], []⟩) P E s :=by
  unfold Builtin.«int.from_bytes»
  refine wpAny_bind (wpAny_of_eq (a :=true) KFB.type_int ?_)
  refine KFB.if_not rfl ?_
  refine wpAny_bind (wpAny_of_eq (a :=true) F.conv_sub_int ?_)
  refine KFB.if_not rfl ?_
  refine wpAny_bind (wpAny_of_eq (a :=[some (.bytes b t),some (.str (ofString "big") u),none]) (by kernel_rfl) ?_)
  refine wpAny_bind (wpAny_of_eq (a :=ofString "big") (by kernel_rfl) ?_)
  refine wpAny_bind (wpAny_of_eq (a :=false) rfl ?_)
  refine wpAny_bind (wpAny_of_eq (a :=false) (by kernel_rfl) ?_)
  refine wpAny_bind (wpAny_of_eq (a :=b) rfl ?_)
  show wpAny _ _ (mkIntGrown (b.toList.foldl (fun (acc : Int) (b : UInt8)=>acc * 256 + (b.toNat : Int)) ((0 : Nat) : Int)) >>= fun v=>_) _ _ _
  rw [KFB.foldI_eq]
  refine wpAny_bind (grownB (natOf_lt b) hl ?_)
  refine KFB.if_so (by decide +kernel) ?_
  exact wpAny_bind (wpAny_pure (wpAny_pure h))
theorem call_bigB {x : Addr} {b : Array UInt8} {t u : Tok} {Q : VP} (N : News h₀ L s.heap news) (hm : (x,KFB.bound) ∈ news) (hl : b.size ≤ 2 ^ 21)
    (h : ∀ t' k,Q (.int (natOf b : Nat) t') { s with toks :=k }) : wpAny (model prog w) A (call (.ref x) [.bytes b t, .str (ofString "big") u]) Q E s :=
  KFB.call_of (KFB.at_of N hm) (fun z=>tree_bigB hl z) (h _ _)
theorem mulOkB {a b : Int} (k l : Nat) (ha : a.natAbs < 256 ^ k) (hb : b.natAbs < 256 ^ l) (h : k + l ≤ 2 ^ 22) : IntMulOk a b :=by
  have e : ∀ k : Nat,(256 : Nat) ^ k = 2 ^ (8 * k) :=fun k=>by rw [Nat.pow_mul]
  have ha' : Builtin.Int.intBits a ≤ 8 * k :=intBits_le_iff.mpr (by rw [← e];exact ha)
  have hb' : Builtin.Int.intBits b ≤ 8 * l :=intBits_le_iff.mpr (by rw [← e];exact hb)
  unfold IntMulOk
  have : Builtin.Int.intTooBig (Builtin.Int.intBits a + Builtin.Int.intBits b) = false :=by
    unfold Builtin.Int.intTooBig
    have hb2 : bitsLine = 134217728 :=rfl
    rw [hb2]
    exact decide_eq_false (Om.k22 h ha' hb')
  rw [this,Bool.and_false]
  exact Bool.false_ne_true
noncomputable def octets (x : Int) (k : Nat) : Array UInt8 :=(KTBy.low x k).reverse.toArray
theorem octets_size (x : Int) (k : Nat) : (octets x k).size = k :=by
  unfold octets
  rw [List.size_toArray,List.length_reverse,KTBy.low_length]
noncomputable def bigC : Nat :=71563446777022297856526126342750658392501306254664949883333486863006233104021
theorem bigC_cast : ((bigC : Nat) : Int) = 71563446777022297856526126342750658392501306254664949883333486863006233104021 :=rfl
noncomputable def numN (o : Array UInt8) : Nat :=natOf (#[1] ++ o) * bigC + o.size
theorem numN_lt (o : Array UInt8) (ho : o.size < 2 ^ 20) : numN o < 256 ^ (o.size + 40) :=by
  have h :=natOf_lt (#[1] ++ o)
  have e : (#[1] ++ o).size = o.size + 1 :=by simp;exact Nat.add_comm _ _
  rw [e] at h
  have h2 : natOf (#[1] ++ o) * bigC < 256 ^ (o.size + 1) * 256 ^ 38 :=Nat.mul_lt_mul_of_lt_of_le h (by decide) (by decide)
  rw [← Nat.pow_add] at h2
  have h3 : 256 ^ (o.size + 40) = 256 ^ (o.size + 1 + 38) * 256 :=by rw [← Nat.pow_succ]
  have h4 : 1 ≤ 256 ^ (o.size + 1 + 38) :=Nat.one_le_pow _ _ (by decide)
  have h5 : o.size < 256 ^ (o.size + 1 + 38) :=Nat.lt_of_lt_of_le (Nat.lt_pow_self (by decide)) (Nat.pow_le_pow_right (by decide) (by omega))
  unfold numN
  rw [h3]
  generalize natOf (#[1] ++ o) * bigC = X at h2 ⊢
  generalize 256 ^ (o.size + 1 + 38) = Y at h2 h4 h5 ⊢
  omega
noncomputable def hashB (o : Array UInt8) (n : Nat) : Array UInt8 :=octets (Int.fmod ((numN o : Int) * numN o) (256 ^ n - 189)) n
theorem pow_gt {n : Nat} (hn : n = 20 ∨ n = 32) : (189 : Int) < 256 ^ n :=by rcases hn with rfl | rfl <;> decide
theorem hash_ne {n : Nat} (hn : n = 20 ∨ n = 32) : (256 : Int) ^ n - 189 ≠ 0 :=by
  have h :=pow_gt hn
  generalize (256 : Int) ^ n = P at h ⊢
  omega
theorem hash_range {n : Nat} (hn : n = 20 ∨ n = 32) (X : Int) : 0 ≤ Int.fmod X (256 ^ n - 189) ∧ Int.fmod X (256 ^ n - 189) < 256 ^ n :=by
  have h :=pow_gt hn
  generalize (256 : Int) ^ n = P at h ⊢
  have a :=Int.fmod_nonneg_of_pos X (b :=P - 189) (by omega)
  have b :=Int.fmod_lt_of_pos X (b :=P - 189) (by omega)
  exact ⟨a,by omega⟩
theorem size1 (o : Array UInt8) : (#[1] ++ o).size = o.size + 1 :=by rw [Array.size_append];exact Nat.add_comm ..
theorem hash_e (o : Array UInt8) : ((natOf (#[1] ++ o) : Nat) : Int) * 71563446777022297856526126342750658392501306254664949883333486863006233104021 + (o.size : Int) = (numN o : Int) :=by unfold numN;rw [Int.natCast_add,Int.natCast_mul,bigC_cast]
theorem hash_s1 {o : Array UInt8} (h : o.size < 2 ^ 20) : #[1].size + o.size ≤ 16777216 :=by show 1 + o.size ≤ _;omega
theorem hash_s2 {o : Array UInt8} (h : o.size < 2 ^ 20) : (#[1] ++ o).size ≤ 2 ^ 21 :=by rw [size1];exact Om.n6 ‹_› (by kernel_rfl!)
theorem hash_m1 {o : Array UInt8} (h : o.size < 2 ^ 20) : IntMulOk ((natOf (#[1] ++ o) : Nat) : Int) 71563446777022297856526126342750658392501306254664949883333486863006233104021 :=mulOkB (o.size + 1) 32 (by have :=natOf_lt (#[1] ++ o);rw [size1] at this;exact this) (by decide) (by exact Om.n37 ‹_› (by kernel_rfl!))
theorem hash_m2 {o : Array UInt8} (h : o.size < 2 ^ 20) : IntMulOk (((natOf (#[1] ++ o) : Nat) : Int) * 71563446777022297856526126342750658392501306254664949883333486863006233104021 + (o.size : Int)) (((natOf (#[1] ++ o) : Nat) : Int) * 71563446777022297856526126342750658392501306254664949883333486863006233104021 + (o.size : Int)) :=by rw [hash_e];exact mulOkB (o.size + 40) (o.size + 40) (numN_lt o h) (numN_lt o h) (by omega)
theorem hash_n {n : Nat} (hn : n = 20 ∨ n = 32) : (0 : Int) ≤ n ∧ (n : Int) ≤ 32 :=Om.j11 ‹_›
theorem hash_k {n : Nat} (hn : n = 20 ∨ n = 32) : n ≤ 1024 :=Om.n13 ‹_› (by kernel_rfl!)
theorem hash_p {n : Nat} (hn : n = 20 ∨ n = 32) : (256 : Int) ^ ((n : Int)).toNat - 189 ≠ 0 :=by rw [Int.toNat_natCast];exact hash_ne hn
theorem hashB_size (o : Array UInt8) (n : Nat) : (hashB o n).size = n :=octets_size _ _
theorem to_bigB {x B : Int} {k : Nat} {t u v : Tok} {Q : VP} (hk : k ≤ 1024) (hB : (256 : Int) ^ k = B) (h0 : 0 ≤ x) (h1 : x < B) (h : ∀ t' k',Q (.bytes (octets x k) t') { s with toks :=k' }) :
    wpAny (model prog w) A (call (.builtin "int.to_bytes") [.int x t, .int (k : Int) u, .str (ofString "big") v]) Q E s :=by
  refine wpAny_call_entry KTBy.slot (typeIs_int s x t) KTBy.entry ?_ (KTBy.args _ _ _)
  have hb :=KTBy.bits_le hB h0 h1
  have h1' : x < 256 ^ k :=by rw [hB];exact h1
  show wpAny _ _ (Builtin.Int.intOfSelf (.int x t) >>= fun y=>_) _ _ s
  refine wpAny_bind (wpAny_of_eq (a :=x) rfl ?_)
  show wpAny _ _ (Builtin.Int.intBindNamed "to_bytes" ["length", "byteorder", "signed"] 0 2 [.int (k : Int) u, .str (ofString "big") v] [] >>= fun l=>_) _ _ s
  refine wpAny_bind (wpAny_of_eq (a :=[some (.int (k : Int) u),some (.str (ofString "big") v),none]) (by kernel_rfl) ?_)
  show wpAny _ _ (Builtin.Int.intIndex "int.to_bytes" (.int (k : Int) u) >>= fun n=>_) _ _ s
  refine wpAny_bind (wpAny_of_eq (a :=(k : Int)) rfl ?_)
  refine KTBy.if_not (by show (decide ((k : Int) < -(2 ^ 63 : Int)) || decide ((k : Int) ≥ 2 ^ 63)) = false;rw [decide_eq_false (show ¬ ((k : Int) < -(2 ^ 63 : Int)) by exact Om.c17 (by kernel_rfl!)),decide_eq_false (show ¬ ((k : Int) ≥ 2 ^ 63) by omega)];rfl) ?_
  refine wpAny_bind (wpAny_of_eq (a :=ofString "big") (by kernel_rfl) ?_)
  refine wpAny_bind (wpAny_of_eq (a :=false) rfl ?_)
  refine wpAny_bind (wpAny_of_eq (a :=false) (by kernel_rfl) ?_)
  refine wpAny_ite_false (decide_eq_false (show ¬ ((k : Int) < 0) by exact Om.c17 (by kernel_rfl!))) ?_
  refine wpAny_ite_false (decide_eq_false (show ¬ ((k : Int) > 2 ^ 63 - 1 - 33) by omega)) ?_
  refine wpAny_ite_false (decide_eq_false (show ¬ ((k : Int) > (sizeLine : Int)) by rw [sizeLine_eq];omega)) ?_
  refine KTBy.if_not (by show (decide (x < 0) && !false) = false;rw [decide_eq_false (show ¬ x < 0 by exact Int.not_lt.mpr ‹_›)];rfl) ?_
  refine KTBy.if_not (by show (_ && decide ((Builtin.Int.intBits x : Int) > 8 * (k : Int))) = false;rw [decide_eq_false (show ¬ ((Builtin.Int.intBits x : Int) > 8 * (k : Int)) by exact Om.c9 ‹_›),Bool.and_false]) ?_
  refine wpAny_bind (wpAny_mkBytes (wpAny_pure ⟨_,rfl, ?_⟩) (by show (List.reverse (KTBy.low x (Int.toNat (k : Int)))).length ≤ sizeLine;rw [List.length_reverse,KTBy.low_length,Int.toNat_natCast,sizeLine_eq];exact Om.n1 ‹_› (by kernel_rfl!)))
  show Q (.bytes (List.reverse (KTBy.low x (Int.toNat (k : Int)))).toArray _) _
  rw [Int.toNat_natCast]
  exact h _ _
end
section
open PySem.Calls
section
variable {prog : Program} {w : World} {A : Around} {E : VP} {s : Shared} {env : Env} {h₀ : Heap} {L : Addr} {m : MP} {α : Type}
structure PureOn (prog : Program) (w : World) (A : Around) (env : Env) (scope : Scope) (cl : List (Str × Addr)) (x : Str) (ifs : List PySem.Expr) (elt : PySem.Expr) (mk : α → Tok → Value) (items : List α) (pz : α → Bool) (G : α → Value → Prop) (s₁ : Shared) : Prop where
  tests : ∀ C a t s₃ m₃ E',a ∈ items → s₃.heap.Ns C m₃ → m₃ x = some (mk a t) → (∀ b o,s₁.heap.get? b = some o → s₃.heap.get? b = some o) →
    wpAny (model prog w) A (forIn ifs true fun c r=>if r = true then do let ok ← isTrue c (compEnvC scope cl C env) (eval c (compEnvC scope cl C env));pure (ForInStep.yield ok) else pure (ForInStep.yield r))
      (fun ok s₄=>ok = pz a ∧ Keeps s₃ s₄) E' s₃
  elt : ∀ C a t s₃ m₃ E',a ∈ items → pz a = true → s₃.heap.Ns C m₃ → m₃ x = some (mk a t) → (∀ b o,s₁.heap.get? b = some o → s₃.heap.get? b = some o) →
    wpAny (model prog w) A (eval elt (compEnvC scope cl C env)) (fun y s₄=>G a y ∧ Keeps s₃ s₄) E' s₃
theorem paired_of {mk : α → Tok → Value} {dec : Value → Option α} (hdec : ∀ a t,dec (mk a t) = some a) {pz : α → Bool} {G : α → Value → Prop} : ∀ (items : List α) (vs ys : List Value),vs.length = items.length →
    (∀ (j : Nat) (v : Value),vs[j]? = some v → ∃ a t,items[j]? = some a ∧ v = mk a t) → Paired (fun v y=>∃ a,dec v = some a ∧ G a y) (vs.filter fun v=>(dec v).elim false pz) ys → Paired G (items.filter pz) ys
  :=fun items=>by
  induction items with
  | nil =>
    intro vs ys hl _ h
    cases vs with
    | nil=>cases h;exact .nil
    | cons _ _=>simp at hl
  | cons a items ih =>
    intro vs ys hl hP h
    cases vs with
    | nil=>simp at hl
    | cons v vs =>
        obtain ⟨a',t,e,rfl⟩ :=hP 0 v rfl
        obtain rfl : a = a' :=by simpa using e
        have hP' : ∀ j v,vs[j]? = some v → ∃ a t,items[j]? = some a ∧ v = mk a t :=fun j v hv=>by
          refine (let GG : Prop :=_;(?_ : GG))
          obtain ⟨a,t,e1,e2⟩ :=hP (j + 1) v (by simpa using hv)
          k_unfold
          exact ⟨a,t,by simpa using e1,e2⟩
        have hl' : vs.length = items.length :=by simpa using hl
        rw [List.filter_cons] at h ⊢
        rw [hdec] at h
        cases hp : pz a with
        | false =>
          simp only [Option.elim_some,hp,Bool.false_eq_true,if_false] at h ⊢
          exact ih vs ys hl' hP' h
        | true =>
          simp only [Option.elim_some,hp,if_true] at h ⊢
          cases h with
          | cons h1 h2 =>
            refine (let GG : Prop :=_;(?_ : GG))
            obtain ⟨a'',e2,g⟩ :=h1
            k_unfold
            rw [hdec] at e2
            cases e2
            exact .cons g (ih vs _ hl' hP' h2)
noncomputable def Hands (prog : Program) (w : World) (A : Around) (mk : α → Tok → Value) (items : List α) (xv : Value) (s₁ : Shared) : Prop :=
  ∀ (Q' E' : VP),(∀ I R h₂ tk St,(∀ b ∈ R,b < h₂.objs.size) → s₁.heap.get? I = none → I < h₂.objs.size → s₁.heap.objs.size ≤ I → (∀ b o,s₁.heap.get? b = some o → h₂.get? b = some o) →
      Walks prog w A I R [I] items.length (fun i v=>∃ a t,items[i]? = some a ∧ v = mk a t) St → St 0 h₂ → Q' (.ref I) { s₁ with heap :=h₂,toks :=tk }) → wpAny (model prog w) A (pyIter xv) Q' E' s₁
noncomputable def LcSrc (prog : Program) (w : World) (A : Around) (h₀ : Heap) (L : Addr) (m : MP) (env : Env) (scope : Scope) (cl : List (Str × Addr)) (x : Str) (ifs : List PySem.Expr) (elt : PySem.Expr) (mk : α → Tok → Value) (pz : α → Bool) (G : α → Value → Prop)
    (Q : VP) (xv : Value) (s₁ : Shared) : Prop :=
  ∃ items news,Fr h₀ L s₁.heap m ∧ News h₀ L s₁.heap news ∧ items.length ≤ sizeLine ∧ Hands prog w A mk items xv s₁ ∧ PureOn prog w A env scope cl x ifs elt mk items pz G s₁ ∧
    ∀ D h' tk n (ys : List Value),Fr h₀ L h' m → News h₀ L h' ((D, { cls :=.type "list",data :=.seq ys.toArray n }) :: news) → LCg.Off1 D news → Paired G (items.filter pz) ys → Q (.ref D) { s₁ with heap :=h',toks :=tk }
theorem ListComp_K {elt iter : PySem.Expr} {x : Str} {px : Pos} {ifs : List PySem.Expr} {scope : Scope} {cl : List (Str × Addr)} {pos : Pos} {Q : VP} (mk : α → Tok → Value) (dec : Value → Option α) (hdec : ∀ a t,dec (mk a t) = some a) (pz : α → Bool) (G : α → Value → Prop)
    (hclos : closureFor scope env = pure cl) (hcell : ∀ y ∈ scope.names,y.2 ≠ .cell) (hkind : scope.kind = .function)
    (hnames : ∀ y ∈ scope.names,y.2 = .local → scope.names.lookup y.1 = some .local) (hx : scope.names.lookup x = some .local)
    (h : wpAny (model prog w) A (eval iter env) (LcSrc prog w A h₀ L m env scope cl x ifs elt mk pz G Q) E s)
    (hs : autoParam (∀ x,foldedSetIterable iter env x = pure x) ap._auto_2) :
    wpAny (model prog w) A (eval (.ListComp elt [⟨.Name x px,iter,ifs, 0⟩] scope pos) env) Q E s :=by
  refine wpAny_ListComp_free (fun v=>(dec v).elim false pz) (fun v y=>∃ a,dec v = some a ∧ G a y) hclos hcell hkind hnames hx (wpAny_mono h (fun xv s₁ h₁=>?_) fun _ _ e=>e) hs
  refine (let GG : Prop :=_;(?_ : GG))
  obtain ⟨items,news,F,N,hsz,hands,hp,hQ⟩ :=h₁
  k_unfold
  refine hands _ _ fun I R h₂ tk St hR hI hlt hge keep W hst=>⟨I,R, [I],items.length,_,St,rfl,W,hsz,hst,hR,⟨?_, ?_⟩, ?_⟩
  · rintro C i v s₃ m₃ E' _ ⟨a,t,ha,rfl⟩ hn hm hk _
    have r :=hp.tests C a t s₃ m₃ E' (List.mem_of_getElem? ha) hn hm fun b o e=>hk b o (fun hb=>by rw [List.mem_singleton.mp hb,hI] at e;cases e) (keep b o e)
    refine wpAny_mono r (fun ok s₄ h₄=>⟨?_,h₄.2⟩) fun _ _ e=>e
    rw [hdec];exact h₄.1
  · rintro C i v s₃ m₃ E' _ ⟨a,t,ha,rfl⟩ hpv hn hm hk _
    rw [hdec] at hpv
    have r :=hp.elt C a t s₃ m₃ E' (List.mem_of_getElem? ha) hpv hn hm fun b o e=>hk b o (fun hb=>by rw [List.mem_singleton.mp hb,hI] at e;cases e) (keep b o e)
    exact wpAny_mono r (fun y s₄ h₄=>⟨⟨a,hdec a t,h₄.1⟩,h₄.2⟩) fun _ _ e=>e
  · intro D h' tk' ys vs hD hl hpl hlen hP hF hk
    have old : ∀ b o,s₁.heap.get? b = some o → h'.get? b = some o :=fun b o e=>hk b o (fun hb=>by rw [List.mem_singleton.mp hb,hI] at e;cases e) (keep b o e)
    refine (let GG : Prop :=_;(?_ : GG))
    obtain ⟨n,en⟩ :=hpl
    k_unfold
    have hDn : s₁.heap.get? D = none :=by
      cases e : s₁.heap.get? D with
      | none=>rfl
      | some o=>have :=keep D o e;rw [show h₂.get? D = none from hD] at this;cases this
    have hDL : D ≠ L :=fun q=>by obtain ⟨o,_,_,e,_⟩ :=F.ns;rw [← q,hDn] at e;cases e
    have hD₀ : h₀.get? D = none :=by
      cases e : h₀.get? D with
      | none=>rfl
      | some o=>have :=F.keep D o e;rw [hDn] at this;cases this
    refine hQ D h' tk' n ys.toList (F.keeps old) (fun p hp=>?_) ?_ (paired_of hdec items vs _ hlen hP hF)
    · rcases List.mem_cons.mp hp with rfl | hp
      · exact ⟨by rw [show ys.toList.toArray = ys from rfl];exact en,hDL,hD₀⟩
      · exact ⟨old _ _ (N p hp).1,(N p hp).2⟩
    · have : ∀ l : Led,(∀ p ∈ l,p.1 ≠ D) → LCg.Off1 D l :=fun l=>by
        induction l with
        | nil=>intro _;trivial
        | cons p r ih=>intro hl;exact ⟨hl p List.mem_cons_self,ih fun q hq=>hl q (List.mem_cons_of_mem _ hq)⟩
      refine this news fun p hp e=>?_
      have :=(N p hp).1
      rw [e,hDn] at this
      cases this
theorem hands_range (hh : A.handled = none) {r : Addr} {a b c : Int} {t u v : Tok} {items : List Int} {s₁ : Shared} (hr : IsRange s₁.heap r a b c t u v) (hsm : Builtin.Range.small a b c = true) (hn : Builtin.Range.rangeSize a b c = ((items.length : Nat) : Int))
    (he : ∀ i,i < items.length → items[i]? = some (a + (i : Int) * c)) : Hands prog w A (fun k t=>.int k t) items (.ref r) s₁ :=fun Q' E' hQ=>by
  refine wpAny_pyIter_range hr hsm ?_
  have W :=Walks.range (prog :=prog) (w :=w) hh s₁.heap.objs.size a c items.length
  refine hQ s₁.heap.objs.size [s₁.heap.objs.size] _ s₁.toks (fun i h=>IsRangeIter h s₁.heap.objs.size (a + (i : Nat) * c) ((items.length : Int) - (i : Nat)) c) (fun b hb=>by rw [List.mem_singleton.mp hb,Heap.size_push];exact Nat.lt_succ_self _) (Heap.get?_none_of_le (Nat.le_refl _)) (by rw [Heap.size_push];exact Nat.lt_succ_self _) (Nat.le_refl _) (fun _ _ e=>Heap.get?_push_of_some _ e) ⟨W.sub,W.frame,fun i s Q E hi st hq=>?_,W.done,W.self⟩ ?_
  · exact W.item i s Q E hi st fun v' h' tk ⟨t',e'⟩=>hq v' h' tk ⟨a + i * c,t',he i hi,e'⟩
  · show IsRangeIter _ _ _ _ _
    rw [hn]
    simpa using Heap.get?_push_size _ rfl
theorem hands_bytes (hh : A.handled = none) {b : Array UInt8} {t : Tok} {s₁ : Shared} : Hands prog w A (fun k t=>.int k t) (KBw.bInts b) (.bytes b t) s₁ :=fun Q' E' hQ=>by
  refine KBw.pyIter_bytes ?_
  have W :=KBw.walks (prog :=prog) (w :=w) hh s₁.heap.objs.size b t
  have hl : (KBw.bInts b).length = b.size :=KBw.ints_length b
  refine hQ s₁.heap.objs.size [s₁.heap.objs.size] _ s₁.toks (fun i h=>KBw.IsBytesIter h s₁.heap.objs.size b t i) (fun b hb=>by rw [List.mem_singleton.mp hb,Heap.size_push];exact Nat.lt_succ_self _) (Heap.get?_none_of_le (Nat.le_refl _)) (by rw [Heap.size_push];exact Nat.lt_succ_self _) (Nat.le_refl _) (fun _ _ e=>Heap.get?_push_of_some _ e) ⟨W.sub,W.frame,fun i s Q E hi st hq=>?_,fun s Q E st hq=>W.done s Q E (hl ▸ st) hq,W.self⟩ ⟨_,Heap.get?_push_size _ rfl,rfl,rfl⟩
  exact W.item i s Q E (hl ▸ hi) st fun v' h' tk ⟨c,u,ec,ev⟩=>hq v' h' tk ⟨c.toNat,u,KBw.ints_get ec,ev⟩
theorem ints_at : ∀ {vs : List Value} {ns : List Int},IntsAre vs ns → ∀ (i : Nat) (v : Value),vs[i]? = some v → ∃ a t,ns[i]? = some a ∧ v = .int a t
  :=fun q=>by
  induction q with
  | nil=>intro i v h;simp at h
  | cons n t _ ih =>
    intro i v h
    cases i with
    | zero=>exact ⟨n,t,rfl,(Option.some.inj h).symm⟩
    | succ i=>exact ih i v h
theorem hands_list (hh : A.handled = none) {l : Addr} {vs : List Value} {ns : List Int} {s₁ : Shared} (hl : s₁.heap.IsList l vs.toArray) (hi : IntsAre vs ns) : Hands prog w A (fun k t=>.int k t) ns (.ref l) s₁ :=fun Q' E' hQ=>by
  have hlt : l < s₁.heap.objs.size :=by obtain ⟨_,e,_⟩ :=hl;exact Heap.lt_size e
  have W :=Walks.list (prog :=prog) (w :=w) hh s₁.heap.objs.size l (Nat.ne_of_lt hlt) vs.toArray
  have hlen : vs.toArray.size = ns.length :=by rw [List.size_toArray,hi.length]
  refine wpAny_pyIter_list hl (hQ s₁.heap.objs.size [s₁.heap.objs.size,l] _ s₁.toks (fun i h=>h.IsListIter s₁.heap.objs.size l i ∧ h.IsList l vs.toArray) (fun b hb=>?_) (Heap.get?_none_of_le (Nat.le_refl _)) (by rw [Heap.size_push];exact Nat.lt_succ_self _) (Nat.le_refl _) (fun _ _ e=>Heap.get?_push_of_some _ e) ⟨W.sub,W.frame,fun i s Q E h st hq=>?_,fun s Q E st hq=>W.done s Q E (hlen ▸ st) hq,W.self⟩ ⟨⟨_,Heap.get?_push_size _ rfl,rfl,rfl⟩,hl.push _⟩)
  · rw [Heap.size_push]
    rcases List.mem_cons.mp hb with rfl | hb
    · exact Nat.lt_succ_self _
    · rw [List.mem_singleton.mp hb];exact Nat.lt_succ_of_lt hlt
  · exact W.item i s Q E (hlen ▸ h) st fun v' h' tk hv=>hq v' h' tk (ints_at hi i v' (by simpa using hv))
end
end
section
open PySem.Calls
noncomputable abbrev lt : List Str :=loose ++ (recsOf vq).map (·.name) ++ (litsOf vq).map (·.1) ++ (clssOf vq loose).map (·.name)
structure SD where
  A₀ : Around
  base : Heap
  env : Env
  outer : List Env
structure Site (w : World) (A : Around) (D : SD) (h₀ : Heap) (L : Addr) : Prop where
  B : Below D.A₀ D.base D.outer h₀
  fr : A.frames = some (D.env :: D.outer)
  ef : D.env.frame = some L
  ek : D.env.scope.kind = .function
  X : Frag.In (K w.params) h₀
  T : ∃ mean mg mb,Top topProg lt mean mg mb h₀
  XB : Frag.In (K w.params) D.base
  TB : ∃ mean mg mb,Top topProg lt mean mg mb D.base
  DK : KtsDicts (D.outer.filterMap (·.frame)) h₀
theorem old_of {w : World} {A : Around} {D : SD} {h₀ h : Heap} {L : Addr} {m : MP} (F : Fr h₀ L h m) (S : Site w A D h₀ L) : Frag.In (K w.params) h :=S.X.keeps F.keep
structure Room (A : Around) (k : Nat) : Prop where
  d : A.depth + k < recursionLimit
  u : A.units + 8 * k < cLine
  h : A.handled = none
theorem Room.le {A : Around} {k j : Nat} (r : Room A k) (h : j ≤ k) : Room A j :=⟨by have :=r.d;exact Om.n43 ‹_› ‹_›,Om.r2 r.u h,r.h⟩
section
variable {w : World} {A : Around} {D : SD} {h h₀ : Heap} {gs : Array GenState} {dr : Drawn} {t : Nat} {os : OsState} {L : Addr} {m : MP} {news : Led} {k : Nat} {E Q : VP} {R : Result → Shared → Prop}
theorem Site.push {g : Heap} {L' : Addr} {e : Env} (S : Site w A D h₀ L) (F : Fr h₀ L g m) (B : Below A D.base (D.env :: D.outer) g) (st : h₀.StaysIn g) (hf : e.frame = some L') (hk : e.scope.kind = .function) : Site w (A.deeper e) ⟨A,D.base,e,D.env :: D.outer⟩ g L' where
  B :=B
  fr :=by unfold Around.deeper;rw [S.fr];rfl
  ef :=hf
  ek :=hk
  X :=S.X.keeps st
  T :=let ⟨a,b,c,t⟩ :=S.T;⟨a,b,c,t.keeps st⟩
  XB :=S.XB
  TB :=S.TB
  DK :=fun b hb=>by
    obtain ⟨env,he,hf⟩ :=List.mem_filterMap.mp hb
    rcases List.mem_cons.mp he with rfl | he
    · have e2 :=S.ef
      rw [hf] at e2
      cases e2
      obtain ⟨o,es,n,e,hd,_⟩ :=F.ns
      exact ⟨o,es,n,e,hd⟩
    · obtain ⟨o,es,n,e,hd⟩ :=S.DK b (List.mem_filterMap.mpr ⟨env,he,hf⟩)
      exact ⟨o,es,n,st _ _ e,hd⟩
theorem Room.push {e : Env} (r : Room A (k + 1)) : Room (A.deeper e) k :=⟨by have :=r.d;show A.depth + 1 + k < _;exact Om.n42 ‹_›,Om.r1 (d :=3) r.u (by decide),r.h⟩
theorem Site.under {c : Code} (S : Site w A D h₀ L) (h : c.envs = []) : Site w (A.under c) D h₀ L :=
  ⟨S.B,by unfold Around.under;rw [h];exact S.fr,S.ef,S.ek,S.X,S.T,S.XB,S.TB,S.DK⟩
theorem Room.under {c : Code} (r : Room A (k + 1)) (h : c.weight ≤ 1) (h2 : c.cUnits ≤ 8) : Room (A.under c) k :=⟨Om.r3 r.d h,Om.r1 r.u h2,r.h⟩
theorem Site.in1 (S : Site w A D h₀ L) : Site w A.in1 D h₀ L :=⟨S.B,S.fr,S.ef,S.ek,S.X,S.T,S.XB,S.TB,S.DK⟩
theorem Room.in1 (r : Room A (k + 1)) : Room A.in1 k :=⟨by have :=r.d;show A.depth + k < _;exact Om.n41 ‹_›,Om.r1 (d :=1) r.u (by decide),r.h⟩
theorem Room.in2 (r : Room A (k + 1)) : Room A.in1.in1 k :=⟨by have :=r.d;show A.depth + k < _;exact Om.n41 ‹_›,Om.r1 (d :=2) r.u (by decide),r.h⟩
noncomputable def BodyP (w : World) (A : Around) (D : SD) (h₀ : Heap) (L : Addr) (m : MP) (news : Led) (gs : Array GenState) (dr : Drawn) (os : OsState) (k : Nat) (R : Result → Shared → Prop) (env1 : Addr → Env) (body : List Stmt) (loc : MP) : Prop :=
  ∀ A1 D1 g L' h₁ tk Q1 E1 mean mg mb,A1 = A.deeper (env1 L') → D1 = ⟨A,D.base,env1 L',D.env :: D.outer⟩ → Top topProg lt mean mg mb g → Site w A1 D1 g L' → Room A1 k → Frag.In (K w.params) g → Fr h₀ L g m → let mm :=loc;Fr g L' h₁ mm → News g L' h₁ news → (∀ p ∈ news,p.1 < L') → let RR :=R
      (∀ v s' m' news',Fr g L' s'.heap m' → News g L' s'.heap news' → (Fr h₀ L s'.heap m → News h₀ L s'.heap news' → RR (.ok (.ret v)) s') → Q1 (.ret v) s') →
      (∀ s' m' news',Fr g L' s'.heap m' → News g L' s'.heap news' → (Fr h₀ L s'.heap m → News h₀ L s'.heap news' → RR (.ok (.ret .none)) s') → Q1 .next s') →
      (∀ e s',wpAny (model pw w) A1 (leaving (env1 L') e) (fun _ s''=>RR (.error e) s'') (fun e' s''=>RR (.error e') s'') s' → E1 e s') →
      wpAny (model pw w) A1 (execs body (env1 L')) Q1 E1 ⟨h₁,gs,dr,tk,os⟩
noncomputable def BodyO (w : World) (A : Around) (D : SD) (h₀ : Heap) (L : Addr) (m : MP) (news : Led) (gs : Array GenState) (dr : Drawn) (os : OsState) (k : Nat) (R : Result → Shared → Prop) (env1 : Addr → Env) (body : List Stmt) (loc : MP) : Prop :=
  ∀ A1 D1 g L' h₁ tk Q1 E1 mean mg mb,Top topProg lt mean mg mb g → Site w A1 D1 g L' → Room A1 k → Frag.In (K w.params) g → let mm :=loc;Fr g L' h₁ mm → News g L' h₁ news → (∀ p ∈ news,p.1 < L') → let RR :=R
      (∀ v s' m' news',Fr g L' s'.heap m' → News g L' s'.heap news' → (Fr h₀ L s'.heap m → News h₀ L s'.heap news' → RR (.ok (.ret v)) s') → Q1 (.ret v) s') →
      (∀ s' m' news',Fr g L' s'.heap m' → News g L' s'.heap news' → (Fr h₀ L s'.heap m → News h₀ L s'.heap news' → RR (.ok (.ret .none)) s') → Q1 .next s') →
      wpAny (model pw w) A1 (execs body (env1 L')) Q1 E1 ⟨h₁,gs,dr,tk,os⟩
noncomputable def BodyC (w : World) (A : Around) (D : SD) (h₀ : Heap) (L : Addr) (m : MP) (news : Led) (gs : Array GenState) (dr : Drawn) (os : OsState) (k : Nat) (R : Result → Shared → Prop) (env1 : Addr → Env) (body : List Stmt) (loc : Addr → Str → Option Value) (cellsOf : Addr → List (Addr × Obj) → Prop) : Prop :=
  ∀ A1 D1 g L' h₁ tk cells Q1 E1 mean mg mb,A1 = A.deeper (env1 L') → D1 = ⟨A,D.base,env1 L',D.env :: D.outer⟩ → Top topProg lt mean mg mb g → Site w A1 D1 g L' → Room A1 k → Frag.In (K w.params) g → Fr h₀ L g m → let mm :=loc L';Fr g L' h₁ mm → News g L' h₁ (cells ++ news) → cellsOf L' cells → (∀ p ∈ news,p.1 < L') → let RR :=R
      (∀ v s' m' news',Fr g L' s'.heap m' → News g L' s'.heap news' → (Fr h₀ L s'.heap m → News h₀ L s'.heap news' → RR (.ok (.ret v)) s') → Q1 (.ret v) s') →
      (∀ s' m' news',Fr g L' s'.heap m' → News g L' s'.heap news' → (Fr h₀ L s'.heap m → News h₀ L s'.heap news' → RR (.ok (.ret .none)) s') → Q1 .next s') →
      (∀ e s',wpAny (model pw w) A1 (leaving (env1 L') e) (fun _ s''=>RR (.error e) s'') (fun e' s''=>RR (.error e') s'') s' → E1 e s') →
      wpAny (model pw w) A1 (execs body (env1 L')) Q1 E1 ⟨h₁,gs,dr,tk,os⟩
noncomputable def BodyD (w : World) (A : Around) (D : SD) (h₀ : Heap) (L : Addr) (m : MP) (news : Led) (gs : Array GenState) (dr : Drawn) (os : OsState) (k : Nat) (R : Result → Shared → Prop) (env1 : Addr → Env) (body : List Stmt) (loc : Addr → Str → Option Value) (cellsOf : Addr → List (Addr × Obj) → Prop) : Prop :=
  ∀ A1 D1 g L' h₁ tk cells Q1 E1 mean mg mb,Top topProg lt mean mg mb g → Site w A1 D1 g L' → Room A1 k → Frag.In (K w.params) g → let mm :=loc L';Fr g L' h₁ mm → News g L' h₁ (cells ++ news) → cellsOf L' cells → (∀ p ∈ news,p.1 < L') → let RR :=R
      (∀ v s' m' news',Fr g L' s'.heap m' → News g L' s'.heap news' → (Fr h₀ L s'.heap m → News h₀ L s'.heap news' → RR (.ok (.ret v)) s') → Q1 (.ret v) s') →
      (∀ s' m' news',Fr g L' s'.heap m' → News g L' s'.heap news' → (Fr h₀ L s'.heap m → News h₀ L s'.heap news' → RR (.ok (.ret .none)) s') → Q1 .next s') →
      wpAny (model pw w) A1 (execs body (env1 L')) Q1 E1 ⟨h₁,gs,dr,tk,os⟩
theorem BodyP.of {env1 : Addr → Env} {body : List Stmt} {loc : MP} (h : BodyO w A D h₀ L m news gs dr os k R env1 body loc) : BodyP w A D h₀ L m news gs dr os k R env1 body loc :=fun A1 D1 g L' h₁ tk Q1 E1 mean mg mb _ _ T S R X _ F N l q qn _=>h A1 D1 g L' h₁ tk Q1 E1 mean mg mb T S R X F N l q qn
theorem BodyC.of {env1 : Addr → Env} {body : List Stmt} {loc : Addr → Str → Option Value} {co : Addr → List (Addr × Obj) → Prop} (h : BodyD w A D h₀ L m news gs dr os k R env1 body loc co) : BodyC w A D h₀ L m news gs dr os k R env1 body loc co :=fun A1 D1 g L' h₁ tk c Q1 E1 mean mg mb _ _ T S R X _ F N Y l q qn _=>h A1 D1 g L' h₁ tk c Q1 E1 mean mg mb T S R X F N Y l q qn
theorem enterP {name qual : Str} {params : Arguments} {body : List Stmt} {scope : Scope} {cl : List (Str × Addr)} {dV kV doc pm cdv ct oc : Value} {an od : Option Addr} {osl : Array (Option Value)} {f : Addr} {args : Args} {binds : List (Str × Value)}
    (S : Site w A D h₀ L) (F : Fr h₀ L h m) (N : News h₀ L h news) (r : Room A (k + 1))
    (ho : h.get? f = some ⟨oc,od, .func (fnX name qual params body scope cl dV kV doc pm an cdv ct),osl⟩) (hcd : h.CodeRec cdv qual)
    (hbind : BindsTo ⟨h,gs,dr,t,os⟩ (fnX name qual params body scope cl dV kV doc pm an cdv ct) args binds) (hloc : ∀ y ∈ binds,scope.names.lookup y.1 = some .local)
    (hb : BodyP w A D h₀ L m news gs dr os k R (fun L'=>envX qual scope L' f cdv cl) body (fun y=>binds.reverse.lookup y))
    (hco : scope.isCoroutine = false) (hgen : scope.isGenerator = false) (hk : scope.kind = .function)
    (hcell : ∀ x ∈ scope.names,x.2 ≠ .cell) : codeAny (model pw w) A (.call (.ref f) args) R ⟨h,gs,dr,t,os⟩ :=by
  obtain ⟨mean,mg,mb,T⟩ :=S.T
  refine callX_plain (cl :=cl) S.B F N T.nolimit S.fr S.ef S.ek ho rfl hcd (by have :=r.d;exact Om.j18 ‹_›) hbind hloc (fun g L' h₁ FG F' N' B' st l=>?_) hcell hco hgen hk
  exact hb _ _ g L' h₁ _ _ _ _ _ _ rfl rfl (T.keeps st) (S.push FG B' st rfl hk) r.push (S.X.keeps st) FG F' N' l (fun v s' m' news' F1 N1 hq=>⟨L',m',news',F1,N1,fun a b=>hq a b⟩) (fun s' m' news' F1 N1 hq=>⟨L',m',news',F1,N1,fun a b=>hq a b⟩) fun e s' h=>h
theorem enterC {name qual : Str} {params : Arguments} {body : List Stmt} {scope : Scope} {dV kV doc pm cdv ct oc : Value} {an od : Option Addr} {osl : Array (Option Value)} {f : Addr} {args : Args} {binds : List (Str × Value)}
    (S : Site w A D h₀ L) (F : Fr h₀ L h m) (N : News h₀ L h news) (r : Room A (k + 1))
    (ho : h.get? f = some ⟨oc,od, .func (fnX name qual params body scope [] dV kV doc pm an cdv ct),osl⟩) (hcd : h.CodeRec cdv qual)
    (hbind : BindsTo ⟨h,gs,dr,t,os⟩ (fnX name qual params body scope [] dV kV doc pm an cdv ct) args binds) (hkind : (binds.all fun y=>scope.names.lookup y.1 == some .local || scope.names.lookup y.1 == some .cell) = true)
    (hnd : ((cellsFrom 0 scope.names []).map (·.1)).Nodup)
    (hb : BodyC w A D h₀ L m news gs dr os k R (fun L'=>envOfC qual scope L' f cdv) body (fun L'=>bindL (envOfC qual scope L' f cdv).kindOf binds fun _=>none) (fun L' cells=>CellsAre (bindC (envOfC qual scope L' f cdv).kindOf binds fun _=>none) (cellsFrom (L' + 1) scope.names []) cells))
    (hco : scope.isCoroutine = false) (hgen : scope.isGenerator = false) (hk : scope.kind = .function) : codeAny (model pw w) A (.call (.ref f) args) R ⟨h,gs,dr,t,os⟩ :=by
  obtain ⟨mean,mg,mb,T⟩ :=S.T
  refine callX_cells S.B F N T.nolimit S.fr S.ef S.ek ho rfl hcd (by have :=r.d;exact Om.j18 ‹_›) hbind (kindsX hkind) hnd (fun g L' h₁ tk cells FG F' N' Y B' st l=>?_) hco hgen hk
  exact hb _ _ g L' h₁ tk cells _ _ _ _ _ rfl rfl (T.keeps st) (S.push FG B' st rfl hk) r.push (S.X.keeps st) FG F' N' Y l (fun v s' m' news' F1 N1 hq=>⟨L',m',news',F1,N1,fun a b=>hq a b⟩) (fun s' m' news' F1 N1 hq=>⟨L',m',news',F1,N1,fun a b=>hq a b⟩) fun e s' h=>h
end
noncomputable def upd (P : Addr) (o : Obj) (news : Led) : List (Addr × Obj) :=news.map fun p=>if p.1 = P then (P,o) else p
theorem mem_upd_ne {P b : Addr} {o o' : Obj} {news : Led} (h : (b,o') ∈ news) (hn : b ≠ P) : (b,o') ∈ upd P o news :=List.mem_map.mpr ⟨_,h,if_neg hn⟩
theorem mem_upd_self {P : Addr} {o o' : Obj} {news : Led} (h : (P,o') ∈ news) : (P,o) ∈ upd P o news :=List.mem_map.mpr ⟨_,h,if_pos rfl⟩
theorem News.upd {h₀ h h' : Heap} {L P : Addr} {o o' : Obj} {news : Led} (N : News h₀ L h news) (hm : (P,o') ∈ news) (hs : Heap.SameBut P h h') (hp : h'.get? P = some o) : News h₀ L h' (upd P o news) :=fun p hp'=>by
  obtain ⟨q,hq,rfl⟩ :=List.mem_map.mp hp'
  by_cases e : q.1 = P
  · rw [if_pos e]
    exact ⟨hp,(N _ hm).2⟩
  · rw [if_neg e]
    exact ⟨(hs.2 _ e).trans (N _ hq).1,(N _ hq).2⟩
theorem News.ne {h₀ h : Heap} {L a b : Addr} {o o' : Obj} {news : Led} (N : News h₀ L h news) (h1 : (a,o) ∈ news) (h2 : (b,o') ∈ news) (hn : o ≠ o') : a ≠ b :=fun e=>by
  subst e
  have e1 :=(N _ h1).1
  have e2 :=(N _ h2).1
  rw [e1] at e2
  exact hn (Option.some.inj e2)
end
section
open PySem.Calls
noncomputable def bodyS (s : Stmt) : List Stmt :=match fB s with | .stmts b=>b | _=>[]
noncomputable abbrev fnO (s : Stmt) (a b : String) (dV kV doc : Value) (g : String) (g1 : Nat) (an : Option Addr) (c : Addr) (ct : Value) : FuncData :=fnX (ofString a) (ofString b) (fP s) (bodyS s) (fS s) [] dV kV doc (.str (ofString g) g1) an (.ref c) ct
noncomputable abbrev eX (b : String) (s : Stmt) (f c : Addr) : Addr → Env :=fun L'=>envX (ofString b) (fS s) L' f (.ref c) []
noncomputable abbrev lc (b : List (Str × Value)) : Str → Option Value :=fun y=>b.reverse.lookup y
noncomputable def okS (s : Scope) (l : List Str) : Bool :=!s.isCoroutine && !s.isGenerator && decide (s.kind = .function) && (s.names.all fun x=>decide (x.2 ≠ .cell)) && l.all fun y=>decide (s.names.lookup y = some .local)
section
variable {w : World} {A : Around} {D : SD} {hp h₀ : Heap} {gs : Array GenState} {dr : Drawn} {t : Nat} {os : OsState} {L : Addr} {m : MP} {news : Led} {k : Nat} {R : Result → Shared → Prop} (S : Site w A D h₀ L) (F : Fr h₀ L hp m) (N : News h₀ L hp news) (r : Room A (k + 1))
include S F N r
theorem enK (s : Stmt) (a b : String) (f c : Addr) (dV kV doc : Value) (g : String) (g1 : Nat) (an : Option Addr) (ct : Value) (binds : List (Str × Value)) {args : Args} (hk : (K w.params).lookup f = some ⟨.type "function",none, .func (fnO s a b dV kV doc g g1 an c ct), [].toArray⟩) (hc : codeIn (K w.params) (.ref c) (ofString b) = true)
    (hb : BindsTo ⟨hp,gs,dr,t,os⟩ (fnO s a b dV kV doc g g1 an c ct) args binds) (ho : okS (fS s) (binds.map (·.1)) = true) (h : BodyP w A D h₀ L m news gs dr os k R (fun L'=>envX (ofString b) (fS s) L' f (.ref c) []) (bodyS s) (fun y=>binds.reverse.lookup y)) : codeAny (model pw w) A (.call (.ref f) args) R ⟨hp,gs,dr,t,os⟩ :=by
  unfold okS at ho
  simp only [Bool.and_eq_true,Bool.not_eq_true',decide_eq_true_eq,List.all_eq_true] at ho
  obtain ⟨⟨⟨⟨h1,h2⟩,h3⟩,h4⟩,h5⟩ :=ho
  exact enterP (binds :=binds) S F N r (show _ = some _ from old_of F S f _ hk) (codeRec_of (old_of F S) hc) hb (fun y hy=>h5 _ (List.mem_map_of_mem hy)) h h1 h2 h3 h4
theorem en_96 {v1 v2 v3 : Value} (h : BodyP w A D h₀ L m news gs dr os k R (eX "ExpectedTypeError" (tp 6) 96 95) (bodyS (tp 6)) (lc [(ofString "value",v1),(ofString "expected",v2),(ofString "param",v3)])) : codeAny (model pw w) A (.call (.ref 96) ⟨[v1,v2,v3], []⟩) R ⟨hp,gs,dr,t,os⟩ :=
  enK S F N r (tp 6) "ExpectedTypeError" "ExpectedTypeError" 96 95 .none .none .none "passlib.exc" 194 none .none _ (by kernel_rfl) (by kernel_rfl) (BindsTo.of_eq (by kernel_rfl)) (by kernel_rfl) h
theorem en_103 {v1 v2 : Value} (h : BodyP w A D h₀ L m news gs dr os k R (eX "ExpectedStringError" (tp 7) 103 102) (bodyS (tp 7)) (lc [(ofString "value",v1),(ofString "param",v2)])) : codeAny (model pw w) A (.call (.ref 103) ⟨[v1,v2], []⟩) R ⟨hp,gs,dr,t,os⟩ :=
  enK S F N r (tp 7) "ExpectedStringError" "ExpectedStringError" 103 102 .none .none .none "passlib.exc" 194 none .none _ (by kernel_rfl) (by kernel_rfl) (BindsTo.of_eq (by kernel_rfl)) (by kernel_rfl) h
theorem en_124 {v1 v2 : Value} (h : BodyP w A D h₀ L m news gs dr os k R (eX "SequenceMixin.__getitem__" (mt 9 1) 124 123) (bodyS (mt 9 1)) (lc [(ofString "self",v1),(ofString "idx",v2)])) : codeAny (model pw w) A (.call (.ref 124) ⟨[v1,v2], []⟩) R ⟨hp,gs,dr,t,os⟩ :=
  enK S F N r (mt 9 1) "__getitem__" "SequenceMixin.__getitem__" 124 123 .none .none .none "passlib.utils" 312 none .none _ (by kernel_rfl) (by kernel_rfl) (BindsTo.of_eq (by kernel_rfl)) (by kernel_rfl) h
theorem en_138 {v1 : Value} (h : BodyP w A D h₀ L m news gs dr os k R (eX "SequenceMixin.__len__" (mt 9 3) 138 137) (bodyS (mt 9 3)) (lc [(ofString "self",v1)])) : codeAny (model pw w) A (.call (.ref 138) ⟨[v1], []⟩) R ⟨hp,gs,dr,t,os⟩ :=
  enK S F N r (mt 9 3) "__len__" "SequenceMixin.__len__" 138 137 .none .none .none "passlib.utils" 312 none .none _ (by kernel_rfl) (by kernel_rfl) (BindsTo.of_eq (by kernel_rfl)) (by kernel_rfl) h
theorem en_145 {v1 v2 : Value} (h : BodyP w A D h₀ L m news gs dr os k R (eX "SequenceMixin.__eq__" (mt 9 4) 145 144) (bodyS (mt 9 4)) (lc [(ofString "self",v1),(ofString "other",v2)])) : codeAny (model pw w) A (.call (.ref 145) ⟨[v1,v2], []⟩) R ⟨hp,gs,dr,t,os⟩ :=
  enK S F N r (mt 9 4) "__eq__" "SequenceMixin.__eq__" 145 144 .none .none .none "passlib.utils" 312 none .none _ (by kernel_rfl) (by kernel_rfl) (BindsTo.of_eq (by kernel_rfl)) (by kernel_rfl) h
theorem en_152 {v1 v2 : Value} (h : BodyP w A D h₀ L m news gs dr os k R (eX "SequenceMixin.__ne__" (mt 9 5) 152 151) (bodyS (mt 9 5)) (lc [(ofString "self",v1),(ofString "other",v2)])) : codeAny (model pw w) A (.call (.ref 152) ⟨[v1,v2], []⟩) R ⟨hp,gs,dr,t,os⟩ :=
  enK S F N r (mt 9 5) "__ne__" "SequenceMixin.__ne__" 152 151 .none .none .none "passlib.utils" 312 none .none _ (by kernel_rfl) (by kernel_rfl) (BindsTo.of_eq (by kernel_rfl)) (by kernel_rfl) h
theorem en_166 {v1 v2 : Value} (h : BodyP w A D h₀ L m news gs dr os k R (eX "consteq" (tp 10) 166 165) (bodyS (tp 10)) (lc [(ofString "left",v1),(ofString "right",v2)])) : codeAny (model pw w) A (.call (.ref 166) ⟨[v1,v2], []⟩) R ⟨hp,gs,dr,t,os⟩ :=
  enK S F N r (tp 10) "consteq" "consteq" 166 165 .none .none .none "passlib.utils" 312 none .none _ (by kernel_rfl) (by kernel_rfl) (BindsTo.of_eq (by kernel_rfl)) (by kernel_rfl) h
theorem en_182 {v1 k1 : Value} (h : BodyP w A D h₀ L m news gs dr os k R (eX "to_unicode" (tp 12) 182 181) (bodyS (tp 12)) (lc [(ofString "source",v1),(ofString "encoding",((.str (ofString "utf-8") 406) : Value)),(ofString "param",k1)])) : codeAny (model pw w) A (.call (.ref 182) ⟨[v1], [(ofString "param",k1)]⟩) R ⟨hp,gs,dr,t,os⟩ :=
  enK S F N r (tp 12) "to_unicode" "to_unicode" 182 181 (.ref 175) .none .none "passlib.utils" 312 none .none _ (by kernel_rfl) (by kernel_rfl) (binds_K (K :=K w.params) (T :=175) (o :=o175 w.params) (items :=[((.str (ofString "utf-8") 406) : Value),((.str (ofString "value") 407) : Value)].toArray) (old_of F S) rfl (by kernel_rfl) rfl rfl (by kernel_rfl)) (by kernel_rfl) h
theorem en_207 {v1 v2 : Value} (h : BodyC w A D h₀ L m news gs dr os k R (fun L'=>envOfC (ofString "compile_hmac") (fS (tp 16)) L' 207 (.ref 206)) (bodyS (tp 16)) (fun L'=>bindL (envOfC (ofString "compile_hmac") (fS (tp 16)) L' 207 (.ref 206)).kindOf [(ofString "digest",v1),(ofString "key",v2)] fun _=>none) (fun L' cells=>CellsAre (bindC (envOfC (ofString "compile_hmac") (fS (tp 16)) L' 207 (.ref 206)).kindOf [(ofString "digest",v1),(ofString "key",v2)] fun _=>none) (cellsFrom (L' + 1) (fS (tp 16)).names []) cells)) : codeAny (model pw w) A (.call (.ref 207) ⟨[v1,v2], []⟩) R ⟨hp,gs,dr,t,os⟩ :=
  enterC (binds :=[(ofString "digest",v1),(ofString "key",v2)]) S F N r (show _ = some _ from old_of F S 207 ⟨.type "function",none, .func (fnX (ofString "compile_hmac") (ofString "compile_hmac") (fP (tp 16)) (bodyS (tp 16)) (fS (tp 16)) [] .none .none .none (.str (ofString "passlib.crypto.digest") 417) none (.ref 206) .none), [].toArray⟩ (by kernel_rfl)) (codeRec_of (old_of F S) (by kernel_rfl)) (BindsTo.of_eq (by kernel_rfl)) (by kernel_rfl) (by decide +kernel) h (by kernel_rfl) (by kernel_rfl) (by kernel_rfl)
theorem en_214 {v1 : Value} (h : BodyP w A D h₀ L m news gs dr os k R (eX "_pack_uint64" (tp 19) 214 213) (bodyS (tp 19)) (lc [(ofString "value",v1)])) : codeAny (model pw w) A (.call (.ref 214) ⟨[v1], []⟩) R ⟨hp,gs,dr,t,os⟩ :=
  enK S F N r (tp 19) "_pack_uint64" "_pack_uint64" 214 213 .none .none .none "passlib.totp" 2483 none .none _ (by kernel_rfl) (by kernel_rfl) (BindsTo.of_eq (by kernel_rfl)) (by kernel_rfl) h
theorem en_221 {v1 : Value} (h : BodyP w A D h₀ L m news gs dr os k R (eX "_unpack_uint32" (tp 20) 221 220) (bodyS (tp 20)) (lc [(ofString "value",v1)])) : codeAny (model pw w) A (.call (.ref 221) ⟨[v1], []⟩) R ⟨hp,gs,dr,t,os⟩ :=
  enK S F N r (tp 20) "_unpack_uint32" "_unpack_uint32" 221 220 .none .none .none "passlib.totp" 2483 none .none _ (by kernel_rfl) (by kernel_rfl) (BindsTo.of_eq (by kernel_rfl)) (by kernel_rfl) h
theorem en_236 {v1 v2 v3 k1 k2 k3 k4 : Value} (h : BodyP w A D h₀ L m news gs dr os k R (eX "TOTP.__init__" (mt 21 8) 236 235) (bodyS (mt 21 8)) (lc [(ofString "self",v1),(ofString "key",v2),(ofString "alg",v3),(ofString "digits",k1),(ofString "period",k2),(ofString "label",k3),(ofString "issuer",k4)])) : codeAny (model pw w) A (.call (.ref 236) ⟨[v1,v2,v3], [(ofString "digits",k1),(ofString "period",k2),(ofString "label",k3),(ofString "issuer",k4)]⟩) R ⟨hp,gs,dr,t,os⟩ :=
  enK S F N r (mt 21 8) "__init__" "TOTP.__init__" 236 235 (.ref 229) .none .none "passlib.totp" 2483 none .none _ (by kernel_rfl) (by kernel_rfl) (binds_K (K :=K w.params) (T :=229) (o :=o229 w.params) (items :=[(.none : Value),(.none : Value),(.none : Value),(.none : Value)].toArray) (old_of F S) rfl (by kernel_rfl) rfl rfl (by kernel_rfl)) (by kernel_rfl) h
theorem en_236_1 {v1 v2 v3 v4 : Value} (h : BodyP w A D h₀ L m news gs dr os k R (eX "TOTP.__init__" (mt 21 8) 236 235) (bodyS (mt 21 8)) (lc [(ofString "self",v1),(ofString "key",v2),(ofString "alg",v3),(ofString "digits",v4),(ofString "period",(.none : Value)),(ofString "label",(.none : Value)),(ofString "issuer",(.none : Value))])) : codeAny (model pw w) A (.call (.ref 236) ⟨[v1,v2,v3,v4], []⟩) R ⟨hp,gs,dr,t,os⟩ :=
  enK S F N r (mt 21 8) "__init__" "TOTP.__init__" 236 235 (.ref 229) .none .none "passlib.totp" 2483 none .none _ (by kernel_rfl) (by kernel_rfl) (binds_K (K :=K w.params) (T :=229) (o :=o229 w.params) (items :=[(.none : Value),(.none : Value),(.none : Value),(.none : Value)].toArray) (old_of F S) rfl (by kernel_rfl) rfl rfl (by kernel_rfl)) (by kernel_rfl) h
theorem en_236_2 {v1 v2 v3 k1 : Value} (h : BodyP w A D h₀ L m news gs dr os k R (eX "TOTP.__init__" (mt 21 8) 236 235) (bodyS (mt 21 8)) (lc [(ofString "self",v1),(ofString "key",v2),(ofString "alg",v3),(ofString "digits",k1),(ofString "period",(.none : Value)),(ofString "label",(.none : Value)),(ofString "issuer",(.none : Value))])) : codeAny (model pw w) A (.call (.ref 236) ⟨[v1,v2,v3], [(ofString "digits",k1)]⟩) R ⟨hp,gs,dr,t,os⟩ :=
  enK S F N r (mt 21 8) "__init__" "TOTP.__init__" 236 235 (.ref 229) .none .none "passlib.totp" 2483 none .none _ (by kernel_rfl) (by kernel_rfl) (binds_K (K :=K w.params) (T :=229) (o :=o229 w.params) (items :=[(.none : Value),(.none : Value),(.none : Value),(.none : Value)].toArray) (old_of F S) rfl (by kernel_rfl) rfl rfl (by kernel_rfl)) (by kernel_rfl) h
theorem en_236_3 {v1 v2 v3 k1 : Value} (h : BodyP w A D h₀ L m news gs dr os k R (eX "TOTP.__init__" (mt 21 8) 236 235) (bodyS (mt 21 8)) (lc [(ofString "self",v1),(ofString "key",v2),(ofString "alg",v3),(ofString "digits",(.none : Value)),(ofString "period",k1),(ofString "label",(.none : Value)),(ofString "issuer",(.none : Value))])) : codeAny (model pw w) A (.call (.ref 236) ⟨[v1,v2,v3], [(ofString "period",k1)]⟩) R ⟨hp,gs,dr,t,os⟩ :=
  enK S F N r (mt 21 8) "__init__" "TOTP.__init__" 236 235 (.ref 229) .none .none "passlib.totp" 2483 none .none _ (by kernel_rfl) (by kernel_rfl) (binds_K (K :=K w.params) (T :=229) (o :=o229 w.params) (items :=[(.none : Value),(.none : Value),(.none : Value),(.none : Value)].toArray) (old_of F S) rfl (by kernel_rfl) rfl rfl (by kernel_rfl)) (by kernel_rfl) h
theorem en_236_4 {v1 v2 v3 k1 : Value} (h : BodyP w A D h₀ L m news gs dr os k R (eX "TOTP.__init__" (mt 21 8) 236 235) (bodyS (mt 21 8)) (lc [(ofString "self",v1),(ofString "key",v2),(ofString "alg",v3),(ofString "digits",(.none : Value)),(ofString "period",(.none : Value)),(ofString "label",k1),(ofString "issuer",(.none : Value))])) : codeAny (model pw w) A (.call (.ref 236) ⟨[v1,v2,v3], [(ofString "label",k1)]⟩) R ⟨hp,gs,dr,t,os⟩ :=
  enK S F N r (mt 21 8) "__init__" "TOTP.__init__" 236 235 (.ref 229) .none .none "passlib.totp" 2483 none .none _ (by kernel_rfl) (by kernel_rfl) (binds_K (K :=K w.params) (T :=229) (o :=o229 w.params) (items :=[(.none : Value),(.none : Value),(.none : Value),(.none : Value)].toArray) (old_of F S) rfl (by kernel_rfl) rfl rfl (by kernel_rfl)) (by kernel_rfl) h
theorem en_236_5 {v1 v2 v3 k1 : Value} (h : BodyP w A D h₀ L m news gs dr os k R (eX "TOTP.__init__" (mt 21 8) 236 235) (bodyS (mt 21 8)) (lc [(ofString "self",v1),(ofString "key",v2),(ofString "alg",v3),(ofString "digits",(.none : Value)),(ofString "period",(.none : Value)),(ofString "label",(.none : Value)),(ofString "issuer",k1)])) : codeAny (model pw w) A (.call (.ref 236) ⟨[v1,v2,v3], [(ofString "issuer",k1)]⟩) R ⟨hp,gs,dr,t,os⟩ :=
  enK S F N r (mt 21 8) "__init__" "TOTP.__init__" 236 235 (.ref 229) .none .none "passlib.totp" 2483 none .none _ (by kernel_rfl) (by kernel_rfl) (binds_K (K :=K w.params) (T :=229) (o :=o229 w.params) (items :=[(.none : Value),(.none : Value),(.none : Value),(.none : Value)].toArray) (old_of F S) rfl (by kernel_rfl) rfl rfl (by kernel_rfl)) (by kernel_rfl) h
theorem en_236_6 {v1 v2 v3 : Value} (h : BodyP w A D h₀ L m news gs dr os k R (eX "TOTP.__init__" (mt 21 8) 236 235) (bodyS (mt 21 8)) (lc [(ofString "self",v1),(ofString "key",v2),(ofString "alg",v3),(ofString "digits",(.none : Value)),(ofString "period",(.none : Value)),(ofString "label",(.none : Value)),(ofString "issuer",(.none : Value))])) : codeAny (model pw w) A (.call (.ref 236) ⟨[v1,v2,v3], []⟩) R ⟨hp,gs,dr,t,os⟩ :=
  enK S F N r (mt 21 8) "__init__" "TOTP.__init__" 236 235 (.ref 229) .none .none "passlib.totp" 2483 none .none _ (by kernel_rfl) (by kernel_rfl) (binds_K (K :=K w.params) (T :=229) (o :=o229 w.params) (items :=[(.none : Value),(.none : Value),(.none : Value),(.none : Value)].toArray) (old_of F S) rfl (by kernel_rfl) rfl rfl (by kernel_rfl)) (by kernel_rfl) h
theorem en_244 {v1 v2 : Value} (h : BodyP w A D h₀ L m news gs dr os k R (eX "TOTP._check_serial" (mt 21 9) 244 243) (bodyS (mt 21 9)) (lc [(ofString "value",v1),(ofString "param",v2),(ofString "minval",((.int (0) 2537) : Value))])) : codeAny (model pw w) A (.call (.ref 244) ⟨[v1,v2], []⟩) R ⟨hp,gs,dr,t,os⟩ :=
  enK S F N r (mt 21 9) "_check_serial" "TOTP._check_serial" 244 243 (.ref 237) .none .none "passlib.totp" 2483 (some 247) .none _ (by kernel_rfl) (by kernel_rfl) (binds_K (K :=K w.params) (T :=237) (o :=o237 w.params) (items :=[((.int (0) 2537) : Value)].toArray) (old_of F S) rfl (by kernel_rfl) rfl rfl (by kernel_rfl)) (by kernel_rfl) h
theorem en_244_1 {v1 v2 k1 : Value} (h : BodyP w A D h₀ L m news gs dr os k R (eX "TOTP._check_serial" (mt 21 9) 244 243) (bodyS (mt 21 9)) (lc [(ofString "value",v1),(ofString "param",v2),(ofString "minval",k1)])) : codeAny (model pw w) A (.call (.ref 244) ⟨[v1,v2], [(ofString "minval",k1)]⟩) R ⟨hp,gs,dr,t,os⟩ :=
  enK S F N r (mt 21 9) "_check_serial" "TOTP._check_serial" 244 243 (.ref 237) .none .none "passlib.totp" 2483 (some 247) .none _ (by kernel_rfl) (by kernel_rfl) (binds_K (K :=K w.params) (T :=237) (o :=o237 w.params) (items :=[((.int (0) 2537) : Value)].toArray) (old_of F S) rfl (by kernel_rfl) rfl rfl (by kernel_rfl)) (by kernel_rfl) h
theorem en_254 {v1 : Value} (h : BodyP w A D h₀ L m news gs dr os k R (eX "TOTP._check_label" (mt 21 10) 254 253) (bodyS (mt 21 10)) (lc [(ofString "label",v1)])) : codeAny (model pw w) A (.call (.ref 254) ⟨[v1], []⟩) R ⟨hp,gs,dr,t,os⟩ :=
  enK S F N r (mt 21 10) "_check_label" "TOTP._check_label" 254 253 .none .none .none "passlib.totp" 2483 (some 257) .none _ (by kernel_rfl) (by kernel_rfl) (BindsTo.of_eq (by kernel_rfl)) (by kernel_rfl) h
theorem en_264 {v1 : Value} (h : BodyP w A D h₀ L m news gs dr os k R (eX "TOTP._check_issuer" (mt 21 11) 264 263) (bodyS (mt 21 11)) (lc [(ofString "issuer",v1)])) : codeAny (model pw w) A (.call (.ref 264) ⟨[v1], []⟩) R ⟨hp,gs,dr,t,os⟩ :=
  enK S F N r (mt 21 11) "_check_issuer" "TOTP._check_issuer" 264 263 .none .none .none "passlib.totp" 2483 (some 267) .none _ (by kernel_rfl) (by kernel_rfl) (BindsTo.of_eq (by kernel_rfl)) (by kernel_rfl) h
theorem en_274 {v1 : Value} (h : BodyP w A D h₀ L m news gs dr os k R (eX "TOTP.key" (mt 21 12) 274 273) (bodyS (mt 21 12)) (lc [(ofString "self",v1)])) : codeAny (model pw w) A (.call (.ref 274) ⟨[v1], []⟩) R ⟨hp,gs,dr,t,os⟩ :=
  enK S F N r (mt 21 12) "key" "TOTP.key" 274 273 .none .none .none "passlib.totp" 2483 none .none _ (by kernel_rfl) (by kernel_rfl) (BindsTo.of_eq (by kernel_rfl)) (by kernel_rfl) h
theorem en_283 {v1 v2 : Value} (h : BodyP w A D h₀ L m news gs dr os k R (eX "TOTP.key" (mt 21 13) 283 282) (bodyS (mt 21 13)) (lc [(ofString "self",v1),(ofString "value",v2)])) : codeAny (model pw w) A (.call (.ref 283) ⟨[v1,v2], []⟩) R ⟨hp,gs,dr,t,os⟩ :=
  enK S F N r (mt 21 13) "key" "TOTP.key" 283 282 .none .none .none "passlib.totp" 2483 none .none _ (by kernel_rfl) (by kernel_rfl) (BindsTo.of_eq (by kernel_rfl)) (by kernel_rfl) h
theorem en_289 {v1 : Value} (h : BodyP w A D h₀ L m news gs dr os k R (eX "TOTP.hex_key" (mt 21 14) 289 288) (bodyS (mt 21 14)) (lc [(ofString "self",v1)])) : codeAny (model pw w) A (.call (.ref 289) ⟨[v1], []⟩) R ⟨hp,gs,dr,t,os⟩ :=
  enK S F N r (mt 21 14) "hex_key" "TOTP.hex_key" 289 288 .none .none .none "passlib.totp" 2483 none .none _ (by kernel_rfl) (by kernel_rfl) (BindsTo.of_eq (by kernel_rfl)) (by kernel_rfl) h
theorem en_305 {v1 v2 : Value} (h : BodyP w A D h₀ L m news gs dr os k R (eX "TOTP.normalize_time" (mt 21 16) 305 304) (bodyS (mt 21 16)) (lc [(ofString "cls",v1),(ofString "time",v2)])) : codeAny (model pw w) A (.call (.ref 305) ⟨[v1,v2], []⟩) R ⟨hp,gs,dr,t,os⟩ :=
  enK S F N r (mt 21 16) "normalize_time" "TOTP.normalize_time" 305 304 .none .none .none "passlib.totp" 2483 (some 308) .none _ (by kernel_rfl) (by kernel_rfl) (BindsTo.of_eq (by kernel_rfl)) (by kernel_rfl) h
theorem en_315 {v1 v2 : Value} (h : BodyP w A D h₀ L m news gs dr os k R (eX "TOTP._time_to_counter" (mt 21 17) 315 314) (bodyS (mt 21 17)) (lc [(ofString "self",v1),(ofString "time",v2)])) : codeAny (model pw w) A (.call (.ref 315) ⟨[v1,v2], []⟩) R ⟨hp,gs,dr,t,os⟩ :=
  enK S F N r (mt 21 17) "_time_to_counter" "TOTP._time_to_counter" 315 314 .none .none .none "passlib.totp" 2483 none .none _ (by kernel_rfl) (by kernel_rfl) (BindsTo.of_eq (by kernel_rfl)) (by kernel_rfl) h
theorem en_322 {v1 v2 : Value} (h : BodyP w A D h₀ L m news gs dr os k R (eX "TOTP._counter_to_time" (mt 21 18) 322 321) (bodyS (mt 21 18)) (lc [(ofString "self",v1),(ofString "counter",v2)])) : codeAny (model pw w) A (.call (.ref 322) ⟨[v1,v2], []⟩) R ⟨hp,gs,dr,t,os⟩ :=
  enK S F N r (mt 21 18) "_counter_to_time" "TOTP._counter_to_time" 322 321 .none .none .none "passlib.totp" 2483 none .none _ (by kernel_rfl) (by kernel_rfl) (BindsTo.of_eq (by kernel_rfl)) (by kernel_rfl) h
theorem en_327 {v1 v2 : Value} (h : BodyP w A D h₀ L m news gs dr os k R (eX "TOTP.normalize_token" (mt 21 19) 327 326) (bodyS (mt 21 19)) (lc [(ofString "self_or_cls",v1),(ofString "token",v2)])) : codeAny (model pw w) A (.call (.ref 327) ⟨[v1,v2], []⟩) R ⟨hp,gs,dr,t,os⟩ :=
  enK S F N r (mt 21 19) "normalize_token" "TOTP.normalize_token" 327 326 .none .none .none "passlib.totp" 2483 none .none _ (by kernel_rfl) (by kernel_rfl) (BindsTo.of_eq (by kernel_rfl)) (by kernel_rfl) h
theorem en_334 {v1 v2 : Value} (h : BodyP w A D h₀ L m news gs dr os k R (eX "TOTP.generate" (mt 21 20) 334 333) (bodyS (mt 21 20)) (lc [(ofString "self",v1),(ofString "time",v2)])) : codeAny (model pw w) A (.call (.ref 334) ⟨[v1,v2], []⟩) R ⟨hp,gs,dr,t,os⟩ :=
  enK S F N r (mt 21 20) "generate" "TOTP.generate" 334 333 .none .none .none "passlib.totp" 2483 none .none _ (by kernel_rfl) (by kernel_rfl) (BindsTo.of_eq (by kernel_rfl)) (by kernel_rfl) h
theorem en_341 {v1 v2 : Value} (h : BodyP w A D h₀ L m news gs dr os k R (eX "TOTP._generate" (mt 21 21) 341 340) (bodyS (mt 21 21)) (lc [(ofString "self",v1),(ofString "counter",v2)])) : codeAny (model pw w) A (.call (.ref 341) ⟨[v1,v2], []⟩) R ⟨hp,gs,dr,t,os⟩ :=
  enK S F N r (mt 21 21) "_generate" "TOTP._generate" 341 340 .none .none .none "passlib.totp" 2483 none .none _ (by kernel_rfl) (by kernel_rfl) (BindsTo.of_eq (by kernel_rfl)) (by kernel_rfl) h
theorem en_349 {v1 v2 v3 v4 v5 v6 : Value} (h : BodyP w A D h₀ L m news gs dr os k R (eX "TOTP.match" (mt 21 22) 349 348) (bodyS (mt 21 22)) (lc [(ofString "self",v1),(ofString "token",v2),(ofString "time",v3),(ofString "window",v4),(ofString "skew",v5),(ofString "last_counter",v6)])) : codeAny (model pw w) A (.call (.ref 349) ⟨[v1,v2,v3,v4,v5,v6], []⟩) R ⟨hp,gs,dr,t,os⟩ :=
  enK S F N r (mt 21 22) "match" "TOTP.match" 349 348 (.ref 342) .none .none "passlib.totp" 2483 none .none _ (by kernel_rfl) (by kernel_rfl) (binds_K (K :=K w.params) (T :=342) (o :=o342 w.params) (items :=[((.int (30) 2699) : Value),((.int (0) 2700) : Value),(.none : Value)].toArray) (old_of F S) rfl (by kernel_rfl) rfl rfl (by kernel_rfl)) (by kernel_rfl) h
theorem en_349_1 {v1 v2 v3 : Value} (h : BodyP w A D h₀ L m news gs dr os k R (eX "TOTP.match" (mt 21 22) 349 348) (bodyS (mt 21 22)) (lc [(ofString "self",v1),(ofString "token",v2),(ofString "time",v3),(ofString "window",((.int (30) 2699) : Value)),(ofString "skew",((.int (0) 2700) : Value)),(ofString "last_counter",(.none : Value))])) : codeAny (model pw w) A (.call (.ref 349) ⟨[v1,v2,v3], []⟩) R ⟨hp,gs,dr,t,os⟩ :=
  enK S F N r (mt 21 22) "match" "TOTP.match" 349 348 (.ref 342) .none .none "passlib.totp" 2483 none .none _ (by kernel_rfl) (by kernel_rfl) (binds_K (K :=K w.params) (T :=342) (o :=o342 w.params) (items :=[((.int (30) 2699) : Value),((.int (0) 2700) : Value),(.none : Value)].toArray) (old_of F S) rfl (by kernel_rfl) rfl rfl (by kernel_rfl)) (by kernel_rfl) h
theorem en_349_2 {v1 v2 v3 v4 : Value} (h : BodyP w A D h₀ L m news gs dr os k R (eX "TOTP.match" (mt 21 22) 349 348) (bodyS (mt 21 22)) (lc [(ofString "self",v1),(ofString "token",v2),(ofString "time",v3),(ofString "window",v4),(ofString "skew",((.int (0) 2700) : Value)),(ofString "last_counter",(.none : Value))])) : codeAny (model pw w) A (.call (.ref 349) ⟨[v1,v2,v3,v4], []⟩) R ⟨hp,gs,dr,t,os⟩ :=
  enK S F N r (mt 21 22) "match" "TOTP.match" 349 348 (.ref 342) .none .none "passlib.totp" 2483 none .none _ (by kernel_rfl) (by kernel_rfl) (binds_K (K :=K w.params) (T :=342) (o :=o342 w.params) (items :=[((.int (30) 2699) : Value),((.int (0) 2700) : Value),(.none : Value)].toArray) (old_of F S) rfl (by kernel_rfl) rfl rfl (by kernel_rfl)) (by kernel_rfl) h
theorem en_357 {v1 v2 v3 v4 : Value} (h : BodyC w A D h₀ L m news gs dr os k R (fun L'=>envOfC (ofString "TOTP._find_match") (fS (mt 21 23)) L' 357 (.ref 356)) (bodyS (mt 21 23)) (fun L'=>bindL (envOfC (ofString "TOTP._find_match") (fS (mt 21 23)) L' 357 (.ref 356)).kindOf [(ofString "self",v1),(ofString "token",v2),(ofString "start",v3),(ofString "end",v4),(ofString "expected",(.none : Value))] fun _=>none) (fun L' cells=>CellsAre (bindC (envOfC (ofString "TOTP._find_match") (fS (mt 21 23)) L' 357 (.ref 356)).kindOf [(ofString "self",v1),(ofString "token",v2),(ofString "start",v3),(ofString "end",v4),(ofString "expected",(.none : Value))] fun _=>none) (cellsFrom (L' + 1) (fS (mt 21 23)).names []) cells)) : codeAny (model pw w) A (.call (.ref 357) ⟨[v1,v2,v3,v4], []⟩) R ⟨hp,gs,dr,t,os⟩ :=
  enterC (binds :=[(ofString "self",v1),(ofString "token",v2),(ofString "start",v3),(ofString "end",v4),(ofString "expected",(.none : Value))]) S F N r (show _ = some _ from old_of F S 357 ⟨.type "function",none, .func (fnX (ofString "_find_match") (ofString "TOTP._find_match") (fP (mt 21 23)) (bodyS (mt 21 23)) (fS (mt 21 23)) [] (.ref 350) .none .none (.str (ofString "passlib.totp") 2483) none (.ref 356) .none), [].toArray⟩ (by kernel_rfl)) (codeRec_of (old_of F S) (by kernel_rfl)) (binds_K (K :=K w.params) (T :=350) (o :=o350 w.params) (items :=[(.none : Value)].toArray) (old_of F S) rfl (by kernel_rfl) rfl rfl (by kernel_rfl)) (by kernel_rfl) (by decide +kernel) h (by kernel_rfl) (by kernel_rfl) (by kernel_rfl)
theorem en_378 {v1 v2 v3 v4 : Value} (h : BodyP w A D h₀ L m news gs dr os k R (eX "TotpToken.__init__" (mt 22 3) 378 377) (bodyS (mt 22 3)) (lc [(ofString "self",v1),(ofString "totp",v2),(ofString "token",v3),(ofString "counter",v4)])) : codeAny (model pw w) A (.call (.ref 378) ⟨[v1,v2,v3,v4], []⟩) R ⟨hp,gs,dr,t,os⟩ :=
  enK S F N r (mt 22 3) "__init__" "TotpToken.__init__" 378 377 .none .none .none "passlib.totp" 2483 none .none _ (by kernel_rfl) (by kernel_rfl) (BindsTo.of_eq (by kernel_rfl)) (by kernel_rfl) h
theorem en_385 {v1 : Value} (h : BodyP w A D h₀ L m news gs dr os k R (eX "TotpToken.start_time" (mt 22 4) 385 384) (bodyS (mt 22 4)) (lc [(ofString "self",v1)])) : codeAny (model pw w) A (.call (.ref 385) ⟨[v1], []⟩) R ⟨hp,gs,dr,t,os⟩ :=
  enK S F N r (mt 22 4) "start_time" "TotpToken.start_time" 385 384 .none .none .none "passlib.totp" 2483 none .none _ (by kernel_rfl) (by kernel_rfl) (BindsTo.of_eq (by kernel_rfl)) (by kernel_rfl) h
theorem en_393 {v1 : Value} (h : BodyP w A D h₀ L m news gs dr os k R (eX "TotpToken.expire_time" (mt 22 5) 393 392) (bodyS (mt 22 5)) (lc [(ofString "self",v1)])) : codeAny (model pw w) A (.call (.ref 393) ⟨[v1], []⟩) R ⟨hp,gs,dr,t,os⟩ :=
  enK S F N r (mt 22 5) "expire_time" "TotpToken.expire_time" 393 392 .none .none .none "passlib.totp" 2483 none .none _ (by kernel_rfl) (by kernel_rfl) (BindsTo.of_eq (by kernel_rfl)) (by kernel_rfl) h
theorem en_401 {v1 : Value} (h : BodyP w A D h₀ L m news gs dr os k R (eX "TotpToken._as_tuple" (mt 22 6) 401 400) (bodyS (mt 22 6)) (lc [(ofString "self",v1)])) : codeAny (model pw w) A (.call (.ref 401) ⟨[v1], []⟩) R ⟨hp,gs,dr,t,os⟩ :=
  enK S F N r (mt 22 6) "_as_tuple" "TotpToken._as_tuple" 401 400 .none .none .none "passlib.totp" 2483 none .none _ (by kernel_rfl) (by kernel_rfl) (BindsTo.of_eq (by kernel_rfl)) (by kernel_rfl) h
theorem en_421 {v1 v2 v3 v4 v5 : Value} (h : BodyP w A D h₀ L m news gs dr os k R (eX "TotpMatch.__init__" (mt 23 4) 421 420) (bodyS (mt 23 4)) (lc [(ofString "self",v1),(ofString "totp",v2),(ofString "counter",v3),(ofString "time",v4),(ofString "window",v5)])) : codeAny (model pw w) A (.call (.ref 421) ⟨[v1,v2,v3,v4,v5], []⟩) R ⟨hp,gs,dr,t,os⟩ :=
  enK S F N r (mt 23 4) "__init__" "TotpMatch.__init__" 421 420 (.ref 414) .none .none "passlib.totp" 2483 none .none _ (by kernel_rfl) (by kernel_rfl) (binds_K (K :=K w.params) (T :=414) (o :=o414 w.params) (items :=[((.int (30) 2822) : Value)].toArray) (old_of F S) rfl (by kernel_rfl) rfl rfl (by kernel_rfl)) (by kernel_rfl) h
theorem en_428 {v1 : Value} (h : BodyP w A D h₀ L m news gs dr os k R (eX "TotpMatch.expected_counter" (mt 23 5) 428 427) (bodyS (mt 23 5)) (lc [(ofString "self",v1)])) : codeAny (model pw w) A (.call (.ref 428) ⟨[v1], []⟩) R ⟨hp,gs,dr,t,os⟩ :=
  enK S F N r (mt 23 5) "expected_counter" "TotpMatch.expected_counter" 428 427 .none .none .none "passlib.totp" 2483 none .none _ (by kernel_rfl) (by kernel_rfl) (BindsTo.of_eq (by kernel_rfl)) (by kernel_rfl) h
theorem en_436 {v1 : Value} (h : BodyP w A D h₀ L m news gs dr os k R (eX "TotpMatch.skipped" (mt 23 6) 436 435) (bodyS (mt 23 6)) (lc [(ofString "self",v1)])) : codeAny (model pw w) A (.call (.ref 436) ⟨[v1], []⟩) R ⟨hp,gs,dr,t,os⟩ :=
  enK S F N r (mt 23 6) "skipped" "TotpMatch.skipped" 436 435 .none .none .none "passlib.totp" 2483 none .none _ (by kernel_rfl) (by kernel_rfl) (BindsTo.of_eq (by kernel_rfl)) (by kernel_rfl) h
theorem en_444 {v1 : Value} (h : BodyP w A D h₀ L m news gs dr os k R (eX "TotpMatch.expire_time" (mt 23 7) 444 443) (bodyS (mt 23 7)) (lc [(ofString "self",v1)])) : codeAny (model pw w) A (.call (.ref 444) ⟨[v1], []⟩) R ⟨hp,gs,dr,t,os⟩ :=
  enK S F N r (mt 23 7) "expire_time" "TotpMatch.expire_time" 444 443 .none .none .none "passlib.totp" 2483 none .none _ (by kernel_rfl) (by kernel_rfl) (BindsTo.of_eq (by kernel_rfl)) (by kernel_rfl) h
theorem en_452 {v1 : Value} (h : BodyP w A D h₀ L m news gs dr os k R (eX "TotpMatch.cache_seconds" (mt 23 8) 452 451) (bodyS (mt 23 8)) (lc [(ofString "self",v1)])) : codeAny (model pw w) A (.call (.ref 452) ⟨[v1], []⟩) R ⟨hp,gs,dr,t,os⟩ :=
  enK S F N r (mt 23 8) "cache_seconds" "TotpMatch.cache_seconds" 452 451 .none .none .none "passlib.totp" 2483 none .none _ (by kernel_rfl) (by kernel_rfl) (BindsTo.of_eq (by kernel_rfl)) (by kernel_rfl) h
theorem en_460 {v1 : Value} (h : BodyP w A D h₀ L m news gs dr os k R (eX "TotpMatch.cache_time" (mt 23 9) 460 459) (bodyS (mt 23 9)) (lc [(ofString "self",v1)])) : codeAny (model pw w) A (.call (.ref 460) ⟨[v1], []⟩) R ⟨hp,gs,dr,t,os⟩ :=
  enK S F N r (mt 23 9) "cache_time" "TotpMatch.cache_time" 460 459 .none .none .none "passlib.totp" 2483 none .none _ (by kernel_rfl) (by kernel_rfl) (BindsTo.of_eq (by kernel_rfl)) (by kernel_rfl) h
theorem en_468 {v1 : Value} (h : BodyP w A D h₀ L m news gs dr os k R (eX "TotpMatch._as_tuple" (mt 23 10) 468 467) (bodyS (mt 23 10)) (lc [(ofString "self",v1)])) : codeAny (model pw w) A (.call (.ref 468) ⟨[v1], []⟩) R ⟨hp,gs,dr,t,os⟩ :=
  enK S F N r (mt 23 10) "_as_tuple" "TotpMatch._as_tuple" 468 467 .none .none .none "passlib.totp" 2483 none .none _ (by kernel_rfl) (by kernel_rfl) (BindsTo.of_eq (by kernel_rfl)) (by kernel_rfl) h
theorem en_480 {v1 v2 : Value} (h : BodyP w A D h₀ L m news gs dr os k R (eX "_law_hash" (tp 26) 480 479) (bodyS (tp 26)) (lc [(ofString "octets",v1),(ofString "size",v2)])) : codeAny (model pw w) A (.call (.ref 480) ⟨[v1,v2], []⟩) R ⟨hp,gs,dr,t,os⟩ :=
  enK S F N r (tp 26) "_law_hash" "_law_hash" 480 479 .none .none .none "law_iw0012_01" 2889 none .none _ (by kernel_rfl) (by kernel_rfl) (BindsTo.of_eq (by kernel_rfl)) (by kernel_rfl) h
theorem en_485 {v1 v2 v3 v4 : Value} (h : BodyC w A D h₀ L m news gs dr os k R (fun L'=>envOfC (ofString "_law_token") (fS (tp 27)) L' 485 (.ref 484)) (bodyS (tp 27)) (fun L'=>bindL (envOfC (ofString "_law_token") (fS (tp 27)) L' 485 (.ref 484)).kindOf [(ofString "pads",v1),(ofString "counter",v2),(ofString "digits",v3),(ofString "size",v4)] fun _=>none) (fun L' cells=>CellsAre (bindC (envOfC (ofString "_law_token") (fS (tp 27)) L' 485 (.ref 484)).kindOf [(ofString "pads",v1),(ofString "counter",v2),(ofString "digits",v3),(ofString "size",v4)] fun _=>none) (cellsFrom (L' + 1) (fS (tp 27)).names []) cells)) : codeAny (model pw w) A (.call (.ref 485) ⟨[v1,v2,v3,v4], []⟩) R ⟨hp,gs,dr,t,os⟩ :=
  enterC (binds :=[(ofString "pads",v1),(ofString "counter",v2),(ofString "digits",v3),(ofString "size",v4)]) S F N r (show _ = some _ from old_of F S 485 ⟨.type "function",none, .func (fnX (ofString "_law_token") (ofString "_law_token") (fP (tp 27)) (bodyS (tp 27)) (fS (tp 27)) [] .none .none .none (.str (ofString "law_iw0012_01") 2889) none (.ref 484) .none), [].toArray⟩ (by kernel_rfl)) (codeRec_of (old_of F S) (by kernel_rfl)) (BindsTo.of_eq (by kernel_rfl)) (by kernel_rfl) (by decide +kernel) h (by kernel_rfl) (by kernel_rfl) (by kernel_rfl)
theorem en_490 {v1 v2 v3 : Value} (h : BodyP w A D h₀ L m news gs dr os k R (eX "_law_pads" (tp 28) 490 489) (bodyS (tp 28)) (lc [(ofString "key",v1),(ofString "size",v2),(ofString "block",v3)])) : codeAny (model pw w) A (.call (.ref 490) ⟨[v1,v2,v3], []⟩) R ⟨hp,gs,dr,t,os⟩ :=
  enK S F N r (tp 28) "_law_pads" "_law_pads" 490 489 .none .none .none "law_iw0012_01" 2889 none .none _ (by kernel_rfl) (by kernel_rfl) (BindsTo.of_eq (by kernel_rfl)) (by kernel_rfl) h
theorem en_497 {v1 v2 v3 v4 v5 v6 v7 : Value} (h : BodyP w A D h₀ L m news gs dr os k R (eX "_law_due" (tp 29) 497 496) (bodyS (tp 29)) (lc [(ofString "pads",v1),(ofString "shown",v2),(ofString "moment",v3),(ofString "window",v4),(ofString "skew",v5),(ofString "last",v6),(ofString "device",v7)])) : codeAny (model pw w) A (.call (.ref 497) ⟨[v1,v2,v3,v4,v5,v6,v7], []⟩) R ⟨hp,gs,dr,t,os⟩ :=
  enK S F N r (tp 29) "_law_due" "_law_due" 497 496 .none .none .none "law_iw0012_01" 2889 none .none _ (by kernel_rfl) (by kernel_rfl) (BindsTo.of_eq (by kernel_rfl)) (by kernel_rfl) h
theorem en_509 {v1 v2 v3 v4 : Value} (h : BodyC w A D h₀ L m news gs dr os k R (fun L'=>envOfC (ofString "_law_wrong") (fS (tp 31)) L' 509 (.ref 508)) (bodyS (tp 31)) (fun L'=>bindL (envOfC (ofString "_law_wrong") (fS (tp 31)) L' 509 (.ref 508)).kindOf [(ofString "kind",v1),(ofString "device",v2),(ofString "row",v3),(ofString "far",v4)] fun _=>none) (fun L' cells=>CellsAre (bindC (envOfC (ofString "_law_wrong") (fS (tp 31)) L' 509 (.ref 508)).kindOf [(ofString "kind",v1),(ofString "device",v2),(ofString "row",v3),(ofString "far",v4)] fun _=>none) (cellsFrom (L' + 1) (fS (tp 31)).names []) cells)) : codeAny (model pw w) A (.call (.ref 509) ⟨[v1,v2,v3,v4], []⟩) R ⟨hp,gs,dr,t,os⟩ :=
  enterC (binds :=[(ofString "kind",v1),(ofString "device",v2),(ofString "row",v3),(ofString "far",v4)]) S F N r (show _ = some _ from old_of F S 509 ⟨.type "function",none, .func (fnX (ofString "_law_wrong") (ofString "_law_wrong") (fP (tp 31)) (bodyS (tp 31)) (fS (tp 31)) [] .none .none .none (.str (ofString "law_iw0012_01") 2889) none (.ref 508) .none), [].toArray⟩ (by kernel_rfl)) (codeRec_of (old_of F S) (by kernel_rfl)) (BindsTo.of_eq (by kernel_rfl)) (by kernel_rfl) (by decide +kernel) h (by kernel_rfl) (by kernel_rfl) (by kernel_rfl)
end
end
section
open PySem.Calls
section
variable {w : World} {prog : Program} {A : Around} {E : VP} {s s₁ : Shared} {env : Env} {h₀ : Heap} {L : Addr} {m : MP} {news : Led}
theorem Keeps.self (s : Shared) : Keeps s s :=⟨s.heap,s.toks,rfl,fun _ _ e=>e⟩
theorem Keeps.tok (s : Shared) (k : Nat) : Keeps s { s with toks :=k } :=⟨s.heap,k,rfl,fun _ _ e=>e⟩
noncomputable def decI : Value → Option Int | .int k _=>some k | _=>none
theorem decI_mk (a : Int) (t : Tok) : decI (.int a t) = some a :=rfl
noncomputable def zipI (f : Int → Int) (items : List Int) (ts : List Tok) : List Value :=List.zipWith (fun k t=>Value.int (f k) t) items ts
theorem paired_ints {f : Int → Int} : ∀ {items : List Int} {ys : List Value},Paired (fun k y=>∃ t,y = .int (f k) t) items ys → ∃ ts : List Tok,ts.length = items.length ∧ ys = zipI f items ts
  :=fun h=>by
  induction h with
  | nil=>exact ⟨[],rfl,rfl⟩
  | cons h1 _ ih =>
    obtain ⟨t,rfl⟩ :=h1
    obtain ⟨ts,hl,rfl⟩ :=ih
    exact ⟨t :: ts,by simp [hl],rfl⟩
noncomputable def LcFun (_ : Int → Int) : Prop :=True
theorem ListComp_KI {f : Int → Int} (_ : LcFun f) {elt iter : PySem.Expr} {x : Str} {px : Pos} {scope : Scope} {cl : List (Str × Addr)} {pos : Pos} {Q : VP}
    (_F : Fr h₀ L s.heap m) (hclos : closureFor scope env = pure cl) (hcell : ∀ y ∈ scope.names,y.2 ≠ .cell) (hkind : scope.kind = .function)
    (hnames : ∀ y ∈ scope.names,y.2 = .local → scope.names.lookup y.1 = some .local) (hx : scope.names.lookup x = some .local)
    (h : wpAny (model prog w) A (eval iter env) (LcSrc prog w A h₀ L m env scope cl x [] elt (fun (k : Int) t=>.int k t) (fun _=>true) (fun k y=>∃ t,y = .int (f k) t) Q) E s)
    (hs : autoParam (∀ x,foldedSetIterable iter env x = pure x) ap._auto_2) :
    wpAny (model prog w) A (eval (.ListComp elt [⟨.Name x px,iter, [], 0⟩] scope pos) env) Q E s :=
  ListComp_K (fun (k : Int) t=>.int k t) decI decI_mk (fun _=>true) (fun k y=>∃ t,y = .int (f k) t) hclos hcell hkind hnames hx h hs
noncomputable def EltI (prog : Program) (w : World) (A : Around) (env : Env) (scope : Scope) (cl : List (Str × Addr)) (x : Str) (elt : PySem.Expr) (f : Int → Int) (items : List Int) (s₁ : Shared) : Prop :=
  ∀ C a t s₃ m₃ (Q' E' : VP),a ∈ items → s₃.heap.Ns C m₃ → m₃ x = some (.int a t) → (∀ b o,s₁.heap.get? b = some o → s₃.heap.get? b = some o) → (∀ t k,Q' (.int (f a) t) { s₃ with toks :=k }) →
    wpAny (model prog w) A (eval elt (compEnvC scope cl C env)) Q' E' s₃
theorem src_of {f : Int → Int} {elt : PySem.Expr} {x : Str} {scope : Scope} {cl : List (Str × Addr)} {Q : VP} {xv : Value} {items : List Int} (hh : Hands prog w A (fun (k : Int) t=>.int k t) items xv s₁)
    (F : Fr h₀ L s₁.heap m) (N : News h₀ L s₁.heap news) (hsz : items.length ≤ sizeLine) (he : EltI prog w A env scope cl x elt f items s₁)
    (hQ : ∀ D h' tk n ts,ts.length = items.length → Fr h₀ L h' m → News h₀ L h' ((D, { cls :=.type "list",data :=.seq (zipI f items ts).toArray n }) :: news) → LCg.Off1 D news → Q (.ref D) { s₁ with heap :=h',toks :=tk }) :
    LcSrc prog w A h₀ L m env scope cl x [] elt (fun (k : Int) t=>.int k t) (fun _=>true) (fun k y=>∃ t,y = .int (f k) t) Q xv s₁ :=by
  refine ⟨items,news,F,N,hsz,hh,⟨fun C a t s₃ m₃ E' _ _ _ _=>?_,fun C a t s₃ m₃ E' hi _ hn hm keep=>?_⟩,fun D h' tk n ys F' N' O' P'=>?_⟩
  · exact wpAny_pure ⟨rfl,Keeps.self _⟩
  · exact he C a t s₃ m₃ _ _ hi hn hm keep fun t k=>⟨⟨t,rfl⟩,Keeps.tok _ _⟩
  · rw [List.filter_eq_self.mpr (fun _ _=>rfl)] at P'
    obtain ⟨ts,hl,rfl⟩ :=paired_ints P'
    exact hQ D h' tk n ts hl F' N' O'
theorem elt_token {c : Int} {t0 : Tok} {cl : List (Str × Addr)} {scope : Scope} {p1 p2 p3 p4 p5 : Pos} {cn kn : Str} {ca : Addr} {items : List Int}
    (hc : cl.lookup cn = some ca) (hv : s₁.heap.IsCell ca (some (.int c t0))) (hi : ∀ a ∈ items, 0 ≤ a)
    (hk : ∀ C,(compEnvC scope cl C env).scope.kind = .function) (hl : ∀ C,(compEnvC scope cl C env).kindOf cn = some .cell) (hl2 : ∀ C,(compEnvC scope cl C env).kindOf kn = some .local)
    (hd : (cn == ("__debug__" : Str)) = false) (hd2 : (kn == ("__debug__" : Str)) = false) :
    EltI prog w A env scope cl kn (.BinOp (.BinOp (.Name cn p1) .RShift (.Name kn p2) p3) .Mod (.Constant (.int 256) 0 p4) p5) (fun k=>(Int.fdiv c (2 ^ k.toNat)).fmod 256) items s₁ :=by
  intro C a t s₃ m₃ Q' E' ha hn hm keep hq
  have hv' : s₃.heap.IsCell ca (some (.int c t0)) :=by
    obtain ⟨o,e1,e2⟩ :=hv
    exact ⟨o,keep _ _ e1,e2⟩
  exact wpAny_BinOp (wpAny_BinOp (ldCellK hc hv' (ldVarK hn hm (rshift_int (hi a ha) (wpAny_Constant_int (mod_int' (by decide) (hq _ _)))) (hk C) (hl2 C) hd2) (hk C) (hl C) hd))
end
section
variable {w : World} {prog : Program} {A : Around} {E : VP} {s : Shared} {h₀ : Heap} {L : Addr} {m : MP} {news : Led}
theorem intsAre_zip {f : Int → Int} : ∀ {items : List Int} {ts : List Tok},ts.length = items.length → IntsAre (zipI f items ts) (items.map f)
  | [], [],_=>.nil
  | _ :: _, [],h=>by simp at h
  | [],_ :: _,h=>by simp at h
  | _ :: _,_ :: _,h=>.cons _ _ (intsAre_zip (by simpa using h))
theorem zipI_length {f : Int → Int} {items : List Int} {ts : List Tok} (h : ts.length = items.length) : (zipI f items ts).length = items.length :=by
  unfold zipI;rw [List.length_zipWith,h,Nat.min_self]
theorem bytes_KI {D : Addr} {n : Nat} {f : Int → Int} {items : List Int} {ts : List Tok} {Q : VP} (F : Fr h₀ L s.heap m) (N : News h₀ L s.heap news)
    (hm : (D,({ cls :=.type "list",data :=.seq (zipI f items ts).toArray n } : Obj)) ∈ news) (ht : ts.length = items.length) (hr : ∀ k ∈ items, 0 ≤ f k ∧ f k < 256) (hz : items.length ≤ sizeLine) (hh : A.handled = none)
    (h : ∀ h' t k,Fr h₀ L h' m → News h₀ L h' news → Q (.bytes (byteArr (items.map f)) t) { s with heap :=h',toks :=k }) : wpAny (model prog w) A (call (.type "bytes") [.ref D]) Q E s :=
  bytes_K F N (News.isList N hm) (intsAre_zip ht) (fun n hn=>by obtain ⟨k,hk,rfl⟩ :=List.mem_map.mp hn;exact hr k hk) (by rw [zipI_length ht];exact hz) hh (fun h' t k F' N' _=>h h' t k F' N')
end
noncomputable def k8 : List Int :=[56, 48, 40, 32, 24, 16, 8, 0]
noncomputable def f8 (c : Int) (k : Int) : Int :=(Int.fdiv c (2 ^ k.toNat)).fmod 256
theorem f8_range (c k : Int) : 0 ≤ f8 c k ∧ f8 c k < 256 :=⟨Int.fmod_nonneg_of_pos _ (by decide),Int.fmod_lt_of_pos _ (by decide)⟩
theorem k8_nonneg : ∀ a ∈ k8,(0 : Int) ≤ a :=by decide
theorem k8_at : ∀ i,i < k8.length → k8[i]? = some ((56 : Int) + (i : Int) * (-8)) :=by decide
noncomputable abbrev oct8 (c : Int) : Array UInt8 :=byteArr (k8.map (f8 c))
theorem oct8_size (c : Int) : (oct8 c).size = 8 :=by unfold oct8;rw [byteArr_size,List.length_map];rfl
noncomputable def byteAt (b : Array UInt8) (i : Int) : Int :=((b.toList.getD i.toNat 0).toNat : Int)
noncomputable def InB (b : Array UInt8) (i : Int) : Prop :=b.size ≤ 1099511627776 ∧ 0 ≤ i ∧ i < (b.size : Int)
theorem byteAt_range (b : Array UInt8) (i : Int) : 0 ≤ byteAt b i ∧ byteAt b i < 256 :=by
  unfold byteAt
  have :=UInt8.toNat_lt (b.toList.getD i.toNat 0)
  exact Om.c12 ‹_›
noncomputable abbrev placeB (g : Array UInt8) (n : Nat) : Int :=Int.fmod (byteAt g ((n : Int) - 1)) 16
theorem placeB_range (g : Array UInt8) (n : Nat) : 0 ≤ placeB g n ∧ placeB g n < 16 :=⟨Int.fmod_nonneg_of_pos _ (by decide),Int.fmod_lt_of_pos _ (by decide)⟩
noncomputable abbrev num1 (g : Array UInt8) (p : Int) : Int :=Int.fmod (byteAt g p) 128
noncomputable abbrev num2 (g : Array UInt8) (p : Int) : Int :=num1 g p * 256 + byteAt g (p + 1)
noncomputable abbrev num3 (g : Array UInt8) (p : Int) : Int :=num2 g p * 256 + byteAt g (p + 2)
noncomputable abbrev num4 (g : Array UInt8) (p : Int) : Int :=num3 g p * 256 + byteAt g (p + 3)
theorem num1_range (g : Array UInt8) (p : Int) : 0 ≤ num1 g p ∧ num1 g p < 128 :=⟨Int.fmod_nonneg_of_pos _ (by decide),Int.fmod_lt_of_pos _ (by decide)⟩
theorem num2_range (g : Array UInt8) (p : Int) : 0 ≤ num2 g p ∧ num2 g p < 32768 :=Om.p4 (num1_range g p) (byteAt_range g (p + 1))
theorem num3_range (g : Array UInt8) (p : Int) : 0 ≤ num3 g p ∧ num3 g p < 8388608 :=Om.p4 (num2_range g p) (byteAt_range g (p + 2))
theorem num4_range (g : Array UInt8) (p : Int) : 0 ≤ num4 g p ∧ num4 g p < 2147483648 :=Om.p4 (num3_range g p) (byteAt_range g (p + 3))
theorem mulOk4 {a b : Int} (h : 0 ≤ a) (h2 : a < 4294967296) (h3 : 0 ≤ b) (h4 : b < 4294967296) : IntMulOk a b :=mulOkB 4 4 (by exact Om.t3 ‹_› ‹_› (by kernel_rfl!)) (by exact Om.t3 ‹_› ‹_› (by kernel_rfl!)) (by decide)
theorem nums_ok (g : Array UInt8) (p : Int) : IntMulOk (num1 g p) 256 ∧ IntMulOk (num2 g p) 256 ∧ IntMulOk (num3 g p) 256 :=by
  have h1 :=num1_range g p;have h2 :=num2_range g p;have h3 :=num3_range g p
  exact ⟨mulOk4 h1.1 (by exact Om.j16 ‹_› (by kernel_rfl!)) (by decide) (by decide),mulOk4 h2.1 (by exact Om.j16 ‹_› (by kernel_rfl!)) (by decide) (by decide),mulOk4 h3.1 (by exact Om.j16 ‹_› (by kernel_rfl!)) (by decide) (by decide)⟩
theorem places_in {g : Array UInt8} {n : Nat} (hg : g.size = n) (hn : n = 20 ∨ n = 32) : InB g ((n : Int) - 1) ∧ InB g (placeB g n) ∧ InB g (placeB g n + 1) ∧ InB g (placeB g n + 2) ∧ InB g (placeB g n + 3) :=by
  have h :=placeB_range g n
  unfold InB
  rw [hg]
  refine ⟨⟨?_, ?_, ?_⟩,⟨?_, ?_, ?_⟩,⟨?_, ?_, ?_⟩,⟨?_, ?_, ?_⟩,⟨?_, ?_, ?_⟩⟩ <;> (first | exact Om.n13 ‹_› (by kernel_rfl!) | exact Om.j12 ‹_› | exact Om.j14 | exact Om.j3 ‹_› (by kernel_rfl!) | exact Om.j10 ‹_› ‹_› | exact Om.j4 ‹_› (by kernel_rfl!) | omega)
section
variable {w : World} {prog : Program} {A : Around} {E : VP} {s : Shared}
theorem item_A {b : Array UInt8} {i : Int} {t ui : Tok} {value slice : PySem.Expr} {Q : VP} (hi : InB b i) (h : ∀ t k,Q (.int (byteAt b i) t) { s with toks :=k })
    (hs : autoParam (subscripted slice false (.bytes b t) (.int i ui) = operate [.bytes b t, .int i ui] (getItem (.bytes b t) (.int i ui))) ap._auto_3)
    (ht : autoParam (∀ r,letTemporaryGo value (.bytes b t) r = pure ()) ap._auto_4) : wpAny (model prog w) A (subscriptTail value slice (.bytes b t) (.int i ui)) Q E s :=
  KBy.item_N (x :=b.toList) (by rw [Array.length_toList];exact hi.1) hi.2.1 (by rw [Array.length_toList];exact hi.2.2) (h _ _) hs ht
theorem pow_ten {d : Nat} {t u : Tok} {Q : VP} (hd : d ≤ 10) (h : ∀ t k,Q (.int ((10 ^ d : Nat) : Int) t) { s with toks :=k }) : wpAny (model prog w) A (binaryOp .Pow (.int 10 t) (.int (d : Int) u)) Q E s :=
  pow_int_small (by exact Om.c1) (by exact Om.c2 ‹_› (by kernel_rfl!)) (by decide) (by rw [Int.toNat_natCast];have h' :=h s.toks (s.toks + 1);rw [Int.natCast_pow] at h';exact h')
end
noncomputable abbrev codeB (p0 p1 : Array UInt8) (c : Int) (n : Nat) : Array UInt8 :=hashB (p1 ++ hashB (p0 ++ byteArr (k8.map (f8 c))) n) n
theorem codeB_size (p0 p1 : Array UInt8) (c : Int) (n : Nat) : (codeB p0 p1 c n).size = n :=hashB_size _ _
theorem tok_ne (d : Nat) : ((10 ^ d : Nat) : Int) ≠ 0 :=by have : 0 < 10 ^ d :=Nat.pow_pos (by decide);exact Om.c13 ‹_›
noncomputable abbrev tokI (x : Int) (d : Nat) : Int :=((10 ^ d : Nat) : Int) + Int.fmod x ((10 ^ d : Nat) : Int)
theorem tokI_range (x : Int) {d : Nat} (hd : d ≤ 10) : 0 ≤ tokI x d ∧ tokI x d < 2 * 10 ^ 10 :=by
  have h0 : 0 < 10 ^ d :=Nat.pow_pos (by decide)
  have h1 : 10 ^ d ≤ 10 ^ 10 :=Nat.pow_le_pow_right (by decide) hd
  have a :=Int.fmod_nonneg_of_pos x (b :=((10 ^ d : Nat) : Int)) (by exact Om.c14 ‹_›)
  have b :=Int.fmod_lt_of_pos x (b :=((10 ^ d : Nat) : Int)) (by exact Om.c14 ‹_›)
  unfold tokI
  generalize (10 ^ d : Nat) = P at *
  omega
theorem tok_shown (x : Int) {d : Nat} (hd : d ≤ 10) : (tokI x d).natAbs.log2 < 1920 :=by
  have h :=tokI_range x hd
  exact shown (N :=2 ^ 1920) (by exact Om.j3 ‹_› (by kernel_rfl!)) (Int.lt_trans h.2 (by decide +kernel)) (Int.le_refl _)
theorem tok_fits (x : Int) {d : Nat} (hd : d ≤ 10) : (ofString (toString (tokI x d))).length ≤ sizeLine :=by
  have h :=tokI_range x hd
  refine int_text_fits10 (Nat.lt_of_lt_of_le (m :=10 ^ 11) ?_ (Nat.pow_le_pow_right (by decide) (by decide)))
  omega
noncomputable abbrev tokS (x : Int) (d : Nat) : Str :=Txt.slice (ofString (toString (tokI x d))) (some 1) none
noncomputable abbrev tokB (p0 p1 : Array UInt8) (c : Int) (d n : Nat) : Str :=tokS (num4 (codeB p0 p1 c n) (placeB (codeB p0 p1 c n) n)) d
section
variable {w : World} {prog : Program} {A : Around} {E : VP} {s : Shared} {a b : Int} {t u : Tok} {Q : VP}
theorem strF (ha : a.natAbs.log2 < 1920) (h : ∀ t k,Q (.str (toString a) t) { s with toks :=k }) : wpAny (model prog w) A (call (.type "str") [.int a t]) Q E s :=P.str_of_int ha (h _ _)
end
section
variable {w : World} {prog : Program} {A : Around} {env : Env} {s₁ : Shared} {cl : List (Str × Addr)} {scope : Scope} {p1 p2 p3 : Pos} {kn : Str} {items : List Int}
theorem elt_same (hk : ∀ C,(compEnvC scope cl C env).scope.kind = .function) (hl2 : ∀ C,(compEnvC scope cl C env).kindOf kn = some .local) (hd2 : (kn == ("__debug__" : Str)) = false) :
    EltI prog w A env scope cl kn (.Name kn p1) (fun k=>k) items s₁ :=by
  intro C a t s₃ m₃ Q' E' ha hn hm keep hq
  exact ldVarK hn hm (hq _ _) (hk C) (hl2 C) hd2
theorem elt_xor {x : Int} (hk : ∀ C,(compEnvC scope cl C env).scope.kind = .function) (hl2 : ∀ C,(compEnvC scope cl C env).kindOf kn = some .local) (hd2 : (kn == ("__debug__" : Str)) = false) :
    EltI prog w A env scope cl kn (.BinOp (.Name kn p1) .BitXor (.Constant (.int x) 0 p2) p3) (fun k=>Builtin.bitXor k x) items s₁ :=by
  intro C a t s₃ m₃ Q' E' ha hn hm keep hq
  exact wpAny_BinOp (ldVarK hn hm (wpAny_Constant_int (xor_int (hq _ _))) (hk C) (hl2 C) hd2)
end
theorem intsAre_rep (t : Tok) : ∀ k : Nat,IntsAre (List.replicate k [Value.int 0 t]).flatten (List.replicate k 0)
  | 0=>.nil
  | k + 1=>by
    rw [List.replicate_succ,List.replicate_succ,List.flatten_cons]
    exact .cons _ _ (intsAre_rep t k)
section
variable {w : World} {prog : Program} {A : Around} {E : VP} {s : Shared} {env : Env} {h₀ : Heap} {L : Addr} {m : MP} {news : Led}
theorem ListComp_same {x : Str} {px : Pos} {scope : Scope} {cl : List (Str × Addr)} {pos p1 : Pos} {iter : PySem.Expr} {Q : VP}
    (F : Fr h₀ L s.heap m) (hclos : closureFor scope env = pure cl) (hcell : ∀ y ∈ scope.names,y.2 ≠ .cell) (hkind : scope.kind = .function)
    (hnames : ∀ y ∈ scope.names,y.2 = .local → scope.names.lookup y.1 = some .local) (hx : scope.names.lookup x = some .local)
    (h : wpAny (model prog w) A (eval iter env) (LcSrc prog w A h₀ L m env scope cl x [] (.Name x p1) (fun (k : Int) t=>.int k t) (fun _=>true) (fun k y=>∃ t,y = .int ((fun k=>k) k) t) Q) E s)
    (hs : autoParam (∀ x,foldedSetIterable iter env x = pure x) ap._auto_2) :
    wpAny (model prog w) A (eval (.ListComp (.Name x p1) [⟨.Name x px,iter, [], 0⟩] scope pos) env) Q E s :=ListComp_KI (f :=(fun k=>k)) trivial F hclos hcell hkind hnames hx h hs
theorem ListComp_xor {z : Int} {x : Str} {px : Pos} {scope : Scope} {cl : List (Str × Addr)} {pos p1 p2 p3 : Pos} {iter : PySem.Expr} {Q : VP}
    (F : Fr h₀ L s.heap m) (hclos : closureFor scope env = pure cl) (hcell : ∀ y ∈ scope.names,y.2 ≠ .cell) (hkind : scope.kind = .function)
    (hnames : ∀ y ∈ scope.names,y.2 = .local → scope.names.lookup y.1 = some .local) (hx : scope.names.lookup x = some .local)
    (h : wpAny (model prog w) A (eval iter env) (LcSrc prog w A h₀ L m env scope cl x [] (.BinOp (.Name x p1) .BitXor (.Constant (.int z) 0 p2) p3) (fun (k : Int) t=>.int k t) (fun _=>true) (fun k y=>∃ t,y = .int ((fun k=>Builtin.bitXor k z) k) t) Q) E s)
    (hs : autoParam (∀ x,foldedSetIterable iter env x = pure x) ap._auto_2) :
    wpAny (model prog w) A (eval (.ListComp (.BinOp (.Name x p1) .BitXor (.Constant (.int z) 0 p2) p3) [⟨.Name x px,iter, [], 0⟩] scope pos) env) Q E s :=ListComp_KI (f :=(fun k=>Builtin.bitXor k z)) trivial F hclos hcell hkind hnames hx h hs
theorem add_pad {D D2 : Addr} {n n2 k : Nat} {f : Int → Int} {items : List Int} {ts : List Tok} {t : Tok} {Q : VP} (F : Fr h₀ L s.heap m) (N : News h₀ L s.heap news)
    (hm : (D,({ cls :=.type "list",data :=.seq (zipI f items ts).toArray n } : Obj)) ∈ news) (ht : ts.length = items.length)
    (hm2 : (D2,({ cls :=.type "list",data :=.seq (List.replicate k [Value.int 0 t]).flatten.toArray n2 } : Obj)) ∈ news) (hz : items.length + k ≤ sizeLine)
    (h : ∀ D us h',Fr h₀ L h' m → News h₀ L h' ((D,W.listOf (List.toArray us) 0) :: news) → IntsAre us (items.map f ++ List.replicate k 0) → Q (.ref D) { s with heap :=h' }) : wpAny (model prog w) A (binaryOp .Add (.ref D) (.ref D2)) Q E s :=
  kmk_add_ints F N (News.isList N hm) (News.isList N hm2) (intsAre_zip ht) (intsAre_rep t k) (fun D us h' F' N' _ hI=>h D us h' F' N' hI) (by rw [List.length_map,List.length_replicate];exact hz)
end
end
section
open PySem.Calls
section
variable {w : World} {prog : Program} {A : Around} {E : VP} {h h₀ : Heap} {g : Array GenState} {d : Drawn} {t : Nat} {os : OsState} {env : Env} {L : Addr} {m : MP} {news : Led} {Q : VP}
theorem cI {n : Int} {k : Nat} {pos : Pos} (hq : ∀ u t',Q (.int n u) ⟨h,g,d,t',os⟩) : wpAny (model prog w) A (eval (.Constant (.int n) k pos) env) Q E ⟨h,g,d,t,os⟩ :=wpAny_Constant_int (hq _ _)
theorem cS {x : Str} {k : Nat} {pos : Pos} (hq : ∀ u t',Q (.str x u) ⟨h,g,d,t',os⟩) : wpAny (model prog w) A (eval (.Constant (.str x) k pos) env) Q E ⟨h,g,d,t,os⟩ :=Calls.Constant_str (hq _ _)
theorem cBy {x : List UInt8} {k : Nat} {pos : Pos} (hq : ∀ u t',Q (.bytes x.toArray u) ⟨h,g,d,t',os⟩) : wpAny (model prog w) A (eval (.Constant (.bytes x) k pos) env) Q E ⟨h,g,d,t,os⟩ :=Constant_bytes (hq _ _)
theorem stL {a : Addr} {cn : Str} {cs : Scope} {ccd : Value} {cl : List (Str × Addr)} {x : Str} {v : Value} {Q : Unit → Shared → Prop} (F : Fr h₀ L h m) (N : News h₀ L h news)
    (hq : ∀ h' t',Fr h₀ L h' (fun y=>if y = x then some v else m y) → News h₀ L h' news → Q () ⟨h',g,d,t',os⟩)
    (hk : autoParam (cs.kind = .function) ap._auto_1) (hx : autoParam ((envX cn cs L a ccd cl).kindOf x = some .local) ap._auto_1) : wpAny (model prog w) A (storeName (envX cn cs L a ccd cl) x v) Q E ⟨h,g,d,t,os⟩ :=
  storeX_L F N (fun h' F' N'=>hq h' _ F' N') hk hx
noncomputable def Nx (M : Model) (A : Around) (rest : List Stmt) (env : Env) (Q : FP) (E : VP) : Flow → Shared → Prop :=fun f s'=>match f with
  | .next=>wpAny M A (execs rest env) Q E s'
  | f=>Q f s'
theorem execs_nx {M : Model} {s : Shared} {st : Stmt} {rest : List Stmt} {Q : FP} (hq : wpAny M A (exec st env) (Nx M A rest env Q E) E s) : wpAny M A (execs (st :: rest) env) Q E s :=wpAny_execs_cons hq
theorem nx_ret {M : Model} {s : Shared} {rest : List Stmt} {Q : FP} {v : Value} (hq : Q (.ret v) s) : Nx M A rest env Q E (.ret v) s :=hq
theorem nx_brk {M : Model} {s : Shared} {rest : List Stmt} {Q : FP} (hq : Q .brk s) : Nx M A rest env Q E .brk s :=hq
theorem nx_cont {M : Model} {s : Shared} {rest : List Stmt} {Q : FP} (hq : Q .cont s) : Nx M A rest env Q E .cont s :=hq
noncomputable def locN (cs : Scope) (x : Str) : Bool :=decide (cs.kind = .function) && decide ((envX x cs 0 0 .none []).kindOf x = some .local) && !(x == ofString "__debug__")
theorem nmL {s : Shared} {a : Addr} {cn : Str} {cs : Scope} {ccd : Value} {cl : List (Str × Addr)} {x : Str} {pos : Pos} {v : Value} (F : Fr h₀ L s.heap m) (hv : m x = some v) (hq : Q v s) (hc : locN cs x = true) :
    wpAny (model prog w) A (eval (.Name x pos) (envX cn cs L a ccd cl)) Q E s :=by
  unfold locN at hc
  rw [Bool.and_eq_true,Bool.and_eq_true] at hc
  exact nameX_L F hv hq (of_decide_eq_true hc.1.1) (of_decide_eq_true hc.1.2) (by have :=hc.2;revert this;cases (x == ofString "__debug__") <;> simp)
theorem stLm {a : Addr} {cn : Str} {cs : Scope} {ccd : Value} {cl : List (Str × Addr)} {x : Str} {v : Value} {Q : Unit → Shared → Prop} (F : Fr h₀ L h m) (N : News h₀ L h news)
    (hq : ∀ h' t',let mm : Str → Option Value :=fun y=>if y = x then some v else m y;Fr h₀ L h' mm → News h₀ L h' news → Q () ⟨h',g,d,t',os⟩)
    (hk : autoParam (cs.kind = .function) ap._auto_1) (hx : autoParam ((envX cn cs L a ccd cl).kindOf x = some .local) ap._auto_1) : wpAny (model prog w) A (storeName (envX cn cs L a ccd cl) x v) Q E ⟨h,g,d,t,os⟩ :=stL F N hq hk hx
theorem stC {a : Addr} {cn : Str} {cs : Scope} {ccd : Value} {cl : List (Str × Addr)} {x : Str} {v : Value} {Q : Unit → Shared → Prop} {gg : Obj → List (Addr × Obj)} {c : Addr} {o : Obj} {v₀ : Option Value} (F : Fr h₀ L h m) (N : News h₀ L h news) (hc : cl.lookup x = some c) (U : UpdF c o news gg) (hd : o.data = .cell v₀)
    (hq : ∀ h' o' t',Fr h₀ L h' m → News h₀ L h' (gg o') → o'.data = .cell (some v) → Q () ⟨h',g,d,t',os⟩)
    (hk : autoParam (cs.kind = .function) ap._auto_1) (hx : autoParam ((envX cn cs L a ccd cl).kindOf x = some .cell) ap._auto_1) : wpAny (model prog w) A (storeName (envX cn cs L a ccd cl) x v) Q E ⟨h,g,d,t,os⟩ :=
  storeX_C F N hc U hd (fun h' o' F' N' d'=>hq h' o' _ F' N' d') hk hx
theorem addI {a b : Int} {u v : Tok} (hq : ∀ u t',Q (.int (a + b) u) ⟨h,g,d,t',os⟩) : wpAny (model prog w) A (binaryOp .Add (.int a u) (.int b v)) Q E ⟨h,g,d,t,os⟩ :=P.add_int (hq _ _)
theorem subI {a b : Int} {u v : Tok} (hq : ∀ u t',Q (.int (a - b) u) ⟨h,g,d,t',os⟩) : wpAny (model prog w) A (binaryOp .Sub (.int a u) (.int b v)) Q E ⟨h,g,d,t,os⟩ :=P.sub_int (hq _ _)
theorem mulI {a b : Int} {u v : Tok} (hb : IntMulOk a b) (hq : ∀ u t',Q (.int (a * b) u) ⟨h,g,d,t',os⟩) : wpAny (model prog w) A (binaryOp .Mult (.int a u) (.int b v)) Q E ⟨h,g,d,t,os⟩ :=P.mul_int (hq _ _) hb
theorem noPyl {a b : Int} (h : -1000000 ≤ b ∧ b ≤ 1000000) : Builtin.divisionGoesByPylong a b = false :=by
  unfold Builtin.divisionGoesByPylong
  by_cases hb : b = 0
  · subst hb;rfl
  · have h1 : b.natAbs.log2 < 20 :=(Nat.log2_lt (by omega)).mpr (by omega)
    have h2 : decide ((if (b == 0) = true then 0 else b.natAbs.log2 / 30 + 1) > 300) = false :=decide_eq_false (by split <;> (first | decide | omega))
    simp only [h2,Bool.false_and]
theorem divI {a b : Int} {u v : Tok} (hb : b ≠ 0) (h2 : -1000000 ≤ b ∧ b ≤ 1000000) (hq : ∀ u t',Q (.int (a.fdiv b) u) ⟨h,g,d,t',os⟩) : wpAny (model prog w) A (binaryOp .FloorDiv (.int a u) (.int b v)) Q E ⟨h,g,d,t,os⟩ :=floordiv_int hb (hq _ _) (.inl (noPyl h2))
theorem modI {a b : Int} {u v : Tok} (hb : b ≠ 0) (hq : ∀ u t',Q (.int (a.fmod b) u) ⟨h,g,d,t',os⟩) : wpAny (model prog w) A (binaryOp .Mod (.int a u) (.int b v)) Q E ⟨h,g,d,t,os⟩ :=mod_int' hb (hq _ _)
theorem negI {a : Int} {u : Tok} (hq : ∀ u t',Q (.int (-a) u) ⟨h,g,d,t',os⟩) : wpAny (model prog w) A (unaryOp .USub (.int a u)) Q E ⟨h,g,d,t,os⟩ :=P.neg_int (hq _ _)
theorem addBy {a b : Array UInt8} {u v : Tok} (hb : a.size + b.size ≤ 16777216) (hq : ∀ u t',Q (.bytes (a ++ b) u) ⟨h,g,d,t',os⟩) : wpAny (model prog w) A (binaryOp .Add (.bytes a u) (.bytes b v)) Q E ⟨h,g,d,t,os⟩ :=KBy.add_bytes hb (fun _ _=>hq _ _)
theorem truthyB {b : Array UInt8} {u : Tok} {Q : Bool → Shared → Prop} (h0 : 0 < b.size) (hb : b.size ≤ 2 ^ 21) (hq : ∀ t',Q true ⟨h,g,d,t',os⟩) : wpAny (model prog w) A (truthy (.bytes b u)) Q E ⟨h,g,d,t,os⟩ :=
  truthy_bytes (by exact Om.n1 ‹_› (by kernel_rfl!)) (by rw [show ((b.size : Int) != 0) = true from bne_iff_ne.mpr (by exact Om.c13 ‹_›)];exact hq _)
theorem getO {K : Frag} {x C : Addr} {ox : Obj} {es : List DictEntry} {n : Nat} {name : Str} {v : Value} {expr : Bool} {attr : Option Value} (F : Fr h₀ L h m) (X : K.In h₀) (I : W.InstAt h x ox C (some (dictOf es n))) (h1 : plainGet K C name = true) (h2 : hasDictIn K C = true)
    (h3 : findIn K (.ref C) name = some attr) (h4 : noGet K attr = true) (h5 : getL name es = some (some v)) (h6 : handedIn v = true) (hq : ∀ t',Q v ⟨h,g,d,t',os⟩) : wpAny (model prog w) A (getAttr (.ref x) name expr) Q E ⟨h,g,d,t,os⟩ :=
  get_own F X I h1 h2 h3 h4 h5 h6 (hq _)
theorem setD {K : Frag} {x C dx : Addr} {ox : Obj} {es : List DictEntry} {n : Nat} {name : Str} {v : Value} {Q : Unit → Shared → Prop} (F : Fr h₀ L h m) (X : K.In h₀) (N : News h₀ L h news) (I : W.InstAt h x ox C (some (dictOf es n))) (hd : ox.dict = some dx)
    (h1 : findIn K (.ref C) (ofString "__setattr__") = some (some (.builtin "object.__setattr__"))) (h2 : plainOver K C = true) (h3 : takerIn K C name = some none) (h4 : hasDictIn K C = true) (h5 : (getL name es).isSome = true)
    {es' : Tok → List DictEntry} {n' : Nat} {news' : Tok → List (Addr × Obj)} (e1 : ∀ u,(putL name (PyData.keyHash w.params name) (.str name u) v es,putN name es n) = (es' u,n')) (e2 : ∀ u,Upd dx (dictOf es n) (dictOf (es' u) n') news (news' u)) (e3 : ∀ u,(es' u).length ≤ 1000)
    (hq : ∀ u h' t',Fr h₀ L h' m → News h₀ L h' (news' u) → Q () ⟨h',g,d,t',os⟩) :
    wpAny (model prog w) A (setAttr (.ref x) name v) Q E ⟨h,g,d,t,os⟩ :=
  set_dict F X N I hd h1 h2 h3 h4 h5 (e1 (t + 1)) (e2 (t + 1)) (e3 (t + 1)) fun h' F' N'=>hq (t + 1) h' _ F' N'
theorem smI {K : Frag} {x C p : Addr} {ox : Obj} {es : List DictEntry} {n : Nat} {name : Str} {pl : Sem Bool} {Q : Value × List Value → Shared → Prop} {fv : Value} {rest : List Value} (F : Fr h₀ L h m) (X : K.In h₀) (I : W.InstAt h x ox C (some (dictOf es n))) (h1 : plainGet K C name = true) (h2 : hasDictIn K C = true)
    (h3 : findIn K (.ref C) name = some (some (.ref p))) (h4 : typeIn K (.ref p) = some (.type "staticmethod")) (h5 : specialIn K (.ref p) (ofString "__get__") = some (some (.builtin "staticmethod.__get__"))) (h6 : takesIn K (.ref p) = some false) (h7 : copiedNames.contains name = false) (h8 : getL name es = some none) (h9 : recIn K p "staticmethod" = some (fv :: rest)) (h10 : handedIn fv = true)
    (hq : ∀ t',Q (fv, []) ⟨h,g,d,t',os⟩) : wpAny (model prog w) A (getMethod (.ref x) name pl) Q E ⟨h,g,d,t,os⟩ :=kmu_sm F X I h1 h2 h3 h4 h5 h6 h7 h8 h9 h10 (hq _)
theorem cmI {K : Frag} {x C p : Addr} {ox : Obj} {es : List DictEntry} {n : Nat} {name : Str} {pl : Sem Bool} {Q : Value × List Value → Shared → Prop} {fv : Value} {rest : List Value} (F : Fr h₀ L h m) (X : K.In h₀) (N : News h₀ L h news) (I : W.InstAt h x ox C (some (dictOf es n))) (h1 : plainGet K C name = true) (h2 : hasDictIn K C = true)
    (h3 : findIn K (.ref C) name = some (some (.ref p))) (h4 : typeIn K (.ref p) = some (.type "classmethod")) (h5 : specialIn K (.ref p) (ofString "__get__") = some (some (.builtin "classmethod.__get__"))) (h6 : takesIn K (.ref p) = some false) (h7 : copiedNames.contains name = false) (h8 : getL name es = some none) (h9 : recIn K p "classmethod" = some (fv :: rest))
    (hq : ∀ q h' t',Fr h₀ L h' m → News h₀ L h' ((q,methodObj fv (.ref C)) :: news) → (∀ r ∈ news,r.1 < q) → Q (.ref q, []) ⟨h',g,d,t',os⟩) : wpAny (model prog w) A (getMethod (.ref x) name pl) Q E ⟨h,g,d,t,os⟩ :=kmu_cm F X N I h1 h2 h3 h4 h5 h6 h7 h8 h9 fun q h' F' N' l=>hq q h' _ F' N' l
theorem propI {K : Frag} {x C : Addr} {ox : Obj} {name : Str} {expr : Bool} {p fget : Addr} {rest : List Value} {od : Obj} (F : Fr h₀ L h m) (X : K.In h₀) (I : W.InstAt h x ox C (some od)) (h1 : plainGet K C name = true) (h2 : hasDictIn K C = true)
    (h3 : findIn K (.ref C) name = some (some (.ref p))) (h4 : specialIn K (.ref p) (ofString "__get__") = some (some (.builtin "property.__get__"))) (h5 : takesIn K (.ref p) = some true) (h6 : recIn K p "property" = some (.ref fget :: rest))
    (hq : ∀ t' u,codeAny (model prog w) A.in1 (.call (.ref fget) ⟨[.ref x], []⟩) (fun r s'=>match r with | .ok (.ret v)=>wpAny (model prog w) A (handedOut v) Q E s' | .ok _=>False | .error e=>wpAny (model prog w) A (noteIf true (.ref x) (.str name u) e) (fun _ s''=>E e s'') E s') ⟨h,g,d,t',os⟩) :
    wpAny (model prog w) A (getAttr (.ref x) name expr) Q E ⟨h,g,d,t,os⟩ :=get_prop F X I h1 h2 h3 h4 h5 h6 (hq _ _)
theorem clsI {K : Frag} {x C : Addr} {ox : Obj} {es : List DictEntry} {n : Nat} {name : Str} {expr : Bool} {a : Value} (F : Fr h₀ L h m) (X : K.In h₀) (I : W.InstAt h x ox C (some (dictOf es n))) (h1 : plainGet K C name = true) (h2 : hasDictIn K C = true)
    (h3 : findIn K (.ref C) name = some (some a)) (h4 : specialIn K a (ofString "__get__") = some none) (h5 : handedIn a = true) (h6 : copiedNames.contains name = false) (h7 : getL name es = some none) (hq : ∀ t',Q a ⟨h,g,d,t',os⟩) :
    wpAny (model prog w) A (getAttr (.ref x) name expr) Q E ⟨h,g,d,t,os⟩ :=get_cls F X I h1 h2 h3 h4 h5 h6 h7 (hq _)
theorem setP {K : Frag} {x C p : Addr} {ox od : Obj} {name : Str} {v : Value} {Q : Unit → Shared → Prop} {fset : Addr} {a : Value} {rest : List Value} (F : Fr h₀ L h m) (X : K.In h₀) (I : W.InstAt h x ox C (some od))
    (h1 : findIn K (.ref C) (ofString "__setattr__") = some (some (.builtin "object.__setattr__"))) (h2 : plainOver K C = true) (h3 : takerIn K C name = some (some (.ref p))) (h4 : typeIn K (.ref p) = some (.type "property")) (h5 : recIn K p "property" = some (a :: .ref fset :: rest))
    (hq : ∀ t',codeAny (model prog w) A.in1.in1 (.call (.ref fset) ⟨[.ref x,v], []⟩) (fun r s'=>match r with | .ok (.ret _)=>Q () s' | .ok _=>False | .error e=>E e s') ⟨h,g,d,t',os⟩) : wpAny (model prog w) A (setAttr (.ref x) name v) Q E ⟨h,g,d,t,os⟩ :=set_prop F X I h1 h2 h3 h4 h5 (hq _)
theorem clsNew {K : Frag} {C : Addr} {pos : List Value} {kw : List (Str × Value)} {fI : Addr} (F : Fr h₀ L h m) (X : K.In h₀) (N : News h₀ L h news) (h1 : makesIn K C = true) (h2 : findIn K (.ref C) (ofString "__init__") = some (some (.ref fI))) (h3 : isFn K (.ref fI) = true)
    (hq : ∀ x dx h',Fr h₀ L h' m → News h₀ L h' ((x,instObj C dx) :: (dx,dictOf [] 0) :: news) → (∀ p ∈ news,p.1 < dx) → dx < x →
      codeAny (model prog w) (A.under (.builtin "type.__call__" ⟨.ref C :: pos,kw⟩)) (.call (.ref fI) ⟨.ref x :: pos,kw⟩) (InitBack x fun r s'=>match r with | .ok (.ret v)=>Q v s' | .ok _=>False | .error e=>E e s') ⟨h',g,d,t,os⟩) : wpAny (model prog w) A (call (.ref C) pos kw) Q E ⟨h,g,d,t,os⟩ :=call_cls F X N h1 h2 h3 hq
theorem newL {vs : List Value} (F : Fr h₀ L h m) (N : News h₀ L h news) (hz : vs.length ≤ sizeLine) (hq : ∀ l h',Fr h₀ L h' m → News h₀ L h' ((l,W.listOf vs.toArray 0) :: news) → (∀ p ∈ news,p.1 < l) → Q (.ref l) ⟨h',g,d,t,os⟩) : wpAny (model prog w) A (newList vs) Q E ⟨h,g,d,t,os⟩ :=newList_K F N hq hz
theorem fromB {x : Addr} {b : Array UInt8} {u v : Tok} (N : News h₀ L h news) (hm : (x,KFB.bound) ∈ news) (hl : b.size ≤ 2 ^ 21) (hq : ∀ u t',Q (.int (natOf b : Nat) u) ⟨h,g,d,t',os⟩) : wpAny (model prog w) A (call (.ref x) [.bytes b u, .str (ofString "big") v]) Q E ⟨h,g,d,t,os⟩ :=call_bigB N hm hl hq
theorem toB {x B : Int} {k : Nat} {u v z : Tok} (hk : k ≤ 1024) (hB : (256 : Int) ^ k = B) (h0 : 0 ≤ x) (h1 : x < B) (hq : ∀ u t',Q (.bytes (octets x k) u) ⟨h,g,d,t',os⟩) :
    wpAny (model prog w) A (call (.builtin "int.to_bytes") [.int x u, .int (k : Int) v, .str (ofString "big") z]) Q E ⟨h,g,d,t,os⟩ :=to_bigB hk hB h0 h1 hq
theorem bytesM {D : Addr} {n : Nat} {f : Int → Int} {items : List Int} {ts : List Tok} (F : Fr h₀ L h m) (N : News h₀ L h news)
    (hm : (D,({ cls :=.type "list",data :=.seq (zipI f items ts).toArray n } : Obj)) ∈ news) (ht : ts.length = items.length) (hr : ∀ k ∈ items, 0 ≤ f k ∧ f k < 256) (hz : items.length ≤ sizeLine) (hh : A.handled = none)
    (hq : ∀ h' u t',Fr h₀ L h' m → News h₀ L h' news → Q (.bytes (byteArr (items.map f)) u) ⟨h',g,d,t',os⟩) : wpAny (model prog w) A (call (.type "bytes") [.ref D]) Q E ⟨h,g,d,t,os⟩ :=bytes_KI F N hm ht hr hz hh hq
theorem bytesD {D : Addr} {n : Nat} {f : Int → Int} {items : List Int} {ts : List Tok} (F : Fr h₀ L h m) (N : News h₀ L h ((D,({ cls :=.type "list",data :=.seq (zipI f items ts).toArray n } : Obj)) :: news))
    (ht : ts.length = items.length) (hr : ∀ k ∈ items, 0 ≤ f k ∧ f k < 256) (hz : items.length ≤ sizeLine) (hh : A.handled = none)
    (hq : ∀ h' u t',Fr h₀ L h' m → News h₀ L h' news → Q (.bytes (byteArr (items.map f)) u) ⟨h',g,d,t',os⟩) : wpAny (model prog w) A (call (.type "bytes") [.ref D]) Q E ⟨h,g,d,t,os⟩ :=
  bytesM F N (.head _) ht hr hz hh fun h' u t' F' N'=>hq h' u t' F' fun p hp=>N' p (.tail _ hp)
theorem itemM {b : Array UInt8} {i : Int} {u ui : Tok} {value slice : PySem.Expr} (hi : InB b i) (hq : ∀ u t',Q (.int (byteAt b i) u) ⟨h,g,d,t',os⟩)
    (hs : autoParam (subscripted slice false (.bytes b u) (.int i ui) = operate [.bytes b u, .int i ui] (getItem (.bytes b u) (.int i ui))) ap._auto_3)
    (ht : autoParam (∀ r,letTemporaryGo value (.bytes b u) r = pure ()) ap._auto_4) : wpAny (model prog w) A (subscriptTail value slice (.bytes b u) (.int i ui)) Q E ⟨h,g,d,t,os⟩ :=item_A hi hq hs ht
theorem powM {e : Nat} {u v : Tok} (he : e ≤ 10) (hq : ∀ u t',Q (.int ((10 ^ e : Nat) : Int) u) ⟨h,g,d,t',os⟩) : wpAny (model prog w) A (binaryOp .Pow (.int 10 u) (.int (e : Int) v)) Q E ⟨h,g,d,t,os⟩ :=pow_ten he hq
theorem strM {a : Int} {u : Tok} (ha : a.natAbs.log2 < 1920) (hq : ∀ u t',Q (.str (toString a) u) ⟨h,g,d,t',os⟩) : wpAny (model prog w) A (call (.type "str") [.int a u]) Q E ⟨h,g,d,t,os⟩ :=strF ha hq
theorem srcM {f : Int → Int} {elt : PySem.Expr} {x : Str} {scope : Scope} {cl : List (Str × Addr)} {xv : Value} {items : List Int} (hh : Hands prog w A (fun (k : Int) t=>.int k t) items xv ⟨h,g,d,t,os⟩)
    (F : Fr h₀ L h m) (N : News h₀ L h news) (hsz : items.length ≤ sizeLine) (he : EltI prog w A env scope cl x elt f items ⟨h,g,d,t,os⟩)
    (hQ : ∀ D h' tk n ts,ts.length = items.length → Fr h₀ L h' m → News h₀ L h' ((D, { cls :=.type "list",data :=.seq (zipI f items ts).toArray n }) :: news) → LCg.Off1 D news → Q (.ref D) ⟨h',g,d,tk,os⟩) :
    LcSrc prog w A h₀ L m env scope cl x [] elt (fun (k : Int) t=>.int k t) (fun _=>true) (fun k y=>∃ t,y = .int (f k) t) Q xv ⟨h,g,d,t,os⟩ :=src_of hh F N hsz he hQ
theorem padM {D D2 : Addr} {n n2 k : Nat} {f : Int → Int} {items : List Int} {ts : List Tok} {u : Tok} (F : Fr h₀ L h m) (N : News h₀ L h news)
    (hm : (D,({ cls :=.type "list",data :=.seq (zipI f items ts).toArray n } : Obj)) ∈ news) (ht : ts.length = items.length)
    (hm2 : (D2,({ cls :=.type "list",data :=.seq (List.replicate k [Value.int 0 u]).flatten.toArray n2 } : Obj)) ∈ news) (hz : items.length + k ≤ sizeLine)
    (hq : ∀ D us h',Fr h₀ L h' m → News h₀ L h' ((D,W.listOf (List.toArray us) 0) :: news) → IntsAre us (items.map f ++ List.replicate k 0) → Q (.ref D) ⟨h',g,d,t,os⟩) : wpAny (model prog w) A (binaryOp .Add (.ref D) (.ref D2)) Q E ⟨h,g,d,t,os⟩ :=add_pad F N hm ht hm2 hz hq
end
noncomputable abbrev devObjE (P : Params) (u0 u1 u2 u3 u4 u5 u6 u7 : Tok) (tr : Addr) (ky : Array UInt8) (t3 : Tok) (kh : Value) (d : Nat) (t4 : Tok) (p : Int) (t5 t6 t7 : Tok) : Obj :=dictOf [
  ⟨PyData.keyHash P (ofString "alg"), .str (ofString "alg") u0, .ref tr⟩,
  ⟨PyData.keyHash P (ofString "_key"), .str (ofString "_key") u1, .bytes ky t3⟩,
  ⟨PyData.keyHash P (ofString "_encrypted_key"), .str (ofString "_encrypted_key") u2, .none⟩,
  ⟨PyData.keyHash P (ofString "_keyed_hmac"), .str (ofString "_keyed_hmac") u3,kh⟩,
  ⟨PyData.keyHash P (ofString "digits"), .str (ofString "digits") u4, .int (d : Int) t4⟩,
  ⟨PyData.keyHash P (ofString "label"), .str (ofString "label") u5, .str (ofString "a b") t6⟩,
  ⟨PyData.keyHash P (ofString "issuer"), .str (ofString "issuer") u6, .str (ofString "c") t7⟩,
  ⟨PyData.keyHash P (ofString "period"), .str (ofString "period") u7, .int p t5⟩] 8
noncomputable abbrev devObj (P : Params) (u : Nat → Tok) (tr : Addr) (ky : Array UInt8) (kh : Value) (d : Nat) (p : Int) : Obj :=devObjE P (u 0) (u 1) (u 2) (u 3) (u 4) (u 5) (u 6) (u 7) tr ky (u 8) kh d (u 9) p (u 10) (u 11) (u 12)
end
section
open PySem.Calls
theorem xor_rangeF (x : Int) (hx : x = 54 ∨ x = 92) : ∀ k : Fin 256, 0 ≤ Builtin.bitXor ((k.val : Nat) : Int) x ∧ Builtin.bitXor ((k.val : Nat) : Int) x < 256 :=by
  rcases hx with rfl | rfl <;> decide +kernel
theorem xor_range {x : Int} (hx : x = 54 ∨ x = 92) {k : Int} (h0 : 0 ≤ k) (h1 : k < 256) : 0 ≤ Builtin.bitXor k x ∧ Builtin.bitXor k x < 256 :=by
  have h :=xor_rangeF x hx ⟨k.toNat,by exact Om.t2 ‹_› ‹_›⟩
  rw [show ((k.toNat : Nat) : Int) = k by exact Om.t1 ‹_›] at h
  exact h
theorem bInts_range {b : Array UInt8} : ∀ k ∈ KBw.bInts b, 0 ≤ k ∧ k < 256 :=by
  intro k hk
  unfold KBw.bInts at hk
  obtain ⟨c,_,rfl⟩ :=List.mem_map.mp hk
  have :=UInt8.toNat_lt c
  omega
theorem pad_range {x : Int} (hx : x = 54 ∨ x = 92) (b : Array UInt8) (j : Nat) : ∀ k ∈ (KBw.bInts b).map (fun k=>k) ++ List.replicate j 0, 0 ≤ Builtin.bitXor k x ∧ Builtin.bitXor k x < 256 :=by
  intro k hk
  rcases List.mem_append.mp hk with h | h
  · rw [List.map_id'] at h
    have :=bInts_range k h
    exact xor_range hx this.1 this.2
  · rw [(List.mem_replicate.mp h).2]
    exact xor_range hx (by decide) (by decide)
theorem xor_bInts {x : Int} (hx : x = 54 ∨ x = 92) (b : Array UInt8) : ∀ k ∈ KBw.bInts b, 0 ≤ Builtin.bitXor k x ∧ Builtin.bitXor k x < 256 :=fun k hk=>by
  have :=bInts_range k hk
  exact xor_range hx this.1 this.2
noncomputable abbrev padB (ky : Array UInt8) (bk : Nat) (x : Int) : Array UInt8 :=byteArr (((KBw.bInts ky).map (fun k=>k) ++ List.replicate ((bk : Int) - (ky.size : Int)).toNat 0).map (fun k=>Builtin.bitXor k x))
theorem bInts_append (a b : Array UInt8) : KBw.bInts (a ++ b) = KBw.bInts a ++ KBw.bInts b :=by unfold KBw.bInts;rw [Array.toList_append,List.map_append]
theorem bInts_zeros : ∀ n : Nat,KBw.bInts (List.replicate n [(0 : UInt8)]).flatten.toArray = List.replicate n 0
  | 0=>rfl
  | n + 1=>by
    have h :=bInts_zeros n
    unfold KBw.bInts at h ⊢
    rw [List.replicate_succ,List.replicate_succ,List.flatten_cons]
    simpa using h
theorem pad_eq (ky : Array UInt8) (bk : Nat) (x : Int) : byteArr ((KBw.bInts (ky ++ (List.replicate ((bk : Int) - (ky.size : Int)).toNat [(0 : UInt8)]).flatten.toArray)).map fun k=>Builtin.bitXor k x) = padB ky bk x :=by
  rw [bInts_append,bInts_zeros]
  unfold padB
  rw [List.map_id']
theorem pad_full (ky : Array UInt8) (x : Int) : byteArr ((KBw.bInts ky).map fun k=>Builtin.bitXor k x) = padB ky ky.size x :=by
  unfold padB
  rw [List.map_id',show ((ky.size : Int) - (ky.size : Int)).toNat = 0 by rw [Int.sub_self];rfl,List.replicate_zero,List.append_nil]
end
local macro_rules | `(tactic| omega)=>`(tactic| k_extra "omega")
local macro_rules | `(tactic| walk_at $s:str)=>`(tactic| k_extra $s)
local macro_rules | `(tactic| k_enter)=>`(tactic| k_extra "enter")
local macro_rules | `(tactic| k_mem)=>`(tactic| k_extra "mem")
local macro_rules | `(tactic| is_list)=>`(tactic| k_extra "isl")
local macro_rules | `(tactic| k_all)=>`(tactic| k_extra "all")
theorem words : PySem.Challenge.rw_iw0012_01 = PySem.Challenge.rw_iw0012_01 ∧ K = K :=by
  k_fill
  (k_with "omega"=>first | (k_whole;with_reducible first | decide | exact Om.n22 | exact Om.n23 | exact Om.n24 | exact Om.n25 | exact Om.n26 | exact Om.n27 | exact Om.c1 | exact Om.n15 ‹_› | exact Om.n16 ‹_› | exact Om.n17 ‹_› | exact Om.n18 ‹_› | exact Om.j26 ‹_› | exact Om.c6 ‹_› | exact Om.c7 ‹_› | exact Om.n1 ‹_› (by kernel_rfl!) | exact Om.n3 ‹_› ‹_› (by kernel_rfl!) | exact Om.n3b ‹_› ‹_› (by kernel_rfl!) | exact Om.n11 ‹_› ‹_› (by kernel_rfl!)) | omega (config :={}))
  (k_with "mem"=>first | assumption | exact List.Mem.head _ | (refine' List.Mem.tail _ ?_;k_mem))
  (k_with "all"=>first | exact List.forall_mem_nil _ | (intro p' hp';have hl' :=ltN (lN p' hp');exact neN (by omega)) | (refine' List.forall_mem_cons.mpr ⟨?a, ?b⟩;(case a=>k_ne);(case b=>k_all)))
  (k_with "site"=>first | assumption | exact Site.under ‹_› rfl | exact Site.in1 (Site.in1 ‹_›) | exact Site.in1 ‹_› | exact Site.under (Site.under ‹_› rfl) rfl)
  (k_with "room"=>first | assumption | exact Room.in2 ‹_› | exact Room.in1 ‹_› | exact Room.under ‹_› (Nat.le_of_ble_eq_true rfl) (Nat.le_of_ble_eq_true rfl) | exact Room.le ‹_› (by decide))
  (k_with "roomle"=>first | assumption | exact Room.le ‹_› (by decide))
  (k_with "old"=>exact (old_of ‹_› ‹_›) _ _ rfl)
  (k_with "open0"=>((first | ((with_reducible show BodyP _ _ _ _ _ _ _ _ _ _ _ _ _ _ _);intro A1 D1 g L' h₁ tk1 Q1 E1 mean mg mb hA1 hD1 T1 S1 R1 X1 G1 mm F1 N1 lN RR hQ1 hQn hE1) | (intro A1 D1 g L' h₁ tk1 cells1 Q1 E1 mean mg mb hA1 hD1 T1 S1 R1 X1 G1 mm F1 N1 Y1 lN RR hQ1 hQn hE1;k_cells Y1;(try simp only [List.cons_append,List.nil_append] at N1)));(try dsimp only)))
  (k_with "open"=>((first | ((with_reducible show BodyP _ _ _ _ _ _ _ _ _ _ _ _ _ _ _);refine BodyP.of ?_;intro A1 D1 g L' h₁ tk1 Q1 E1 mean mg mb T1 S1 R1 X1 mm F1 N1 lN RR hQ1 hQn) | (refine BodyC.of ?_;intro A1 D1 g L' h₁ tk1 cells1 Q1 E1 mean mg mb T1 S1 R1 X1 mm F1 N1 Y1 lN RR hQ1 hQn;k_cells Y1;(try simp only [List.cons_append,List.nil_append] at N1)));(try dsimp only)))
  (k_with "en0"=>((first | refine' en_96 ?k1 ?k2 ?k3 ?k4 ?_ | refine' en_103 ?k1 ?k2 ?k3 ?k4 ?_ | refine' en_124 ?k1 ?k2 ?k3 ?k4 ?_ | refine' en_138 ?k1 ?k2 ?k3 ?k4 ?_ | refine' en_145 ?k1 ?k2 ?k3 ?k4 ?_ | refine' en_152 ?k1 ?k2 ?k3 ?k4 ?_ | refine' en_166 ?k1 ?k2 ?k3 ?k4 ?_ | refine' en_182 ?k1 ?k2 ?k3 ?k4 ?_ | refine' en_207 ?k1 ?k2 ?k3 ?k4 ?_ | refine' en_214 ?k1 ?k2 ?k3 ?k4 ?_ | refine' en_221 ?k1 ?k2 ?k3 ?k4 ?_ | refine' en_236 ?k1 ?k2 ?k3 ?k4 ?_ | refine' en_236_1 ?k1 ?k2 ?k3 ?k4 ?_ | refine' en_236_2 ?k1 ?k2 ?k3 ?k4 ?_ | refine' en_236_3 ?k1 ?k2 ?k3 ?k4 ?_ | refine' en_236_4 ?k1 ?k2 ?k3 ?k4 ?_ | refine' en_236_5 ?k1 ?k2 ?k3 ?k4 ?_ | refine' en_236_6 ?k1 ?k2 ?k3 ?k4 ?_ | refine' en_244 ?k1 ?k2 ?k3 ?k4 ?_ | refine' en_244_1 ?k1 ?k2 ?k3 ?k4 ?_ | refine' en_254 ?k1 ?k2 ?k3 ?k4 ?_ | refine' en_264 ?k1 ?k2 ?k3 ?k4 ?_ | refine' en_274 ?k1 ?k2 ?k3 ?k4 ?_ | refine' en_283 ?k1 ?k2 ?k3 ?k4 ?_ | refine' en_289 ?k1 ?k2 ?k3 ?k4 ?_ | refine' en_305 ?k1 ?k2 ?k3 ?k4 ?_ | refine' en_315 ?k1 ?k2 ?k3 ?k4 ?_ | refine' en_322 ?k1 ?k2 ?k3 ?k4 ?_ | refine' en_327 ?k1 ?k2 ?k3 ?k4 ?_ | refine' en_334 ?k1 ?k2 ?k3 ?k4 ?_ | refine' en_341 ?k1 ?k2 ?k3 ?k4 ?_ | refine' en_349 ?k1 ?k2 ?k3 ?k4 ?_ | refine' en_349_1 ?k1 ?k2 ?k3 ?k4 ?_ | refine' en_349_2 ?k1 ?k2 ?k3 ?k4 ?_ | refine' en_357 ?k1 ?k2 ?k3 ?k4 ?_ | refine' en_378 ?k1 ?k2 ?k3 ?k4 ?_ | refine' en_385 ?k1 ?k2 ?k3 ?k4 ?_ | refine' en_393 ?k1 ?k2 ?k3 ?k4 ?_ | refine' en_401 ?k1 ?k2 ?k3 ?k4 ?_ | refine' en_421 ?k1 ?k2 ?k3 ?k4 ?_ | refine' en_428 ?k1 ?k2 ?k3 ?k4 ?_ | refine' en_436 ?k1 ?k2 ?k3 ?k4 ?_ | refine' en_444 ?k1 ?k2 ?k3 ?k4 ?_ | refine' en_452 ?k1 ?k2 ?k3 ?k4 ?_ | refine' en_460 ?k1 ?k2 ?k3 ?k4 ?_ | refine' en_468 ?k1 ?k2 ?k3 ?k4 ?_ | refine' en_480 ?k1 ?k2 ?k3 ?k4 ?_ | refine' en_485 ?k1 ?k2 ?k3 ?k4 ?_ | refine' en_490 ?k1 ?k2 ?k3 ?k4 ?_ | refine' en_497 ?k1 ?k2 ?k3 ?k4 ?_ | refine' en_509 ?k1 ?k2 ?k3 ?k4 ?_);(case k2=>assumption);(case k3=>assumption);(case k1=>k_extra "site");(case k4=>k_extra "room");k_whole))
  (k_with "enter"=>(k_extra "en0";k_extra "open"))
  (k_with "enterE"=>(k_extra "en0";k_extra "open0"))
  (k_with "leave"=>((with_reducible first | (refine hQ1 _ _ _ _ ‹_› ‹_› (fun F0 N0=>?_)) | (refine hQn _ _ _ ‹_› ‹_› (fun F0 N0=>?_)));clear hQ1;(try clear hQn);(try clear S1);(try clear R1);(try clear X1);(try clear T1);(try clear lN);(try k_unfold);(try dsimp only [InitBack,CmpBack,LenBack,StrBack,BoolBack]);(try refine ⟨rfl, ?_⟩);(try (refine handed_on rfl ?_;try dsimp only))))
  (k_with "hide"=>(((with_reducible show wpAny _ _ (eval _ _) _ _ _);(fail_if_success (with_reducible show wpAny _ _ (eval (PySem.Expr.Name _ _) _) _ _ _));(fail_if_success (with_reducible show wpAny _ _ (eval (PySem.Expr.Constant _ _ _) _) _ _ _))));(fail_if_success (fail_if_success k_fold));refine (let QQ :=_;(?_ : wpAny _ _ _ QQ _ _)))
  (k_with "locN"=>kernel_rfl!)
  (k_with "unhide"=>first | ((with_reducible show Nx _ _ _ _ _ _ _ _);first | refine (?_ : wpAny _ _ _ _ _ _) | refine nx_ret ?_ | refine nx_brk ?_ | refine nx_cont ?_) | ((fail_if_success (fail_if_success k_unfold));first | refine (?_ : wpAny _ _ _ _ _ _) | (k_unfold;(try dsimp only))))
  (k_with "execs"=>refine execs_nx ?_)
  (k_with "in"=>(refine wpAny_call ?_;k_dflt k_extra "enterE"))
  (k_with "wn"=>(k_dflt (refine' clsNew ?k1 ?k2 ?k3 ?k4 ?k5 ?k6 ?_;(case k1=>k_asm);(case k2=>k_asm);(case k3=>k_asm);(case k4=>k_is);(case k5=>k_is);(case k6=>k_is);k_whole);intro x' d' h' F' N' l1 l2;(try k_lt l1);(try k_lt2 l2);(try k_sweep);k_dflt k_extra "enterE"))
  (k_with "wi"=>intro A D hp h₀ gs dr tk os L m Q E nw t1 t2 hS hR hF hN hk hexc)
  (k_with "po"=>(intro G e' h' t' news' F' fl' K';k_extra "passed";exact hexc _ _ _ _ _ ‹_› fl' K'))
  (k_with "mx"=>(refine (let GG : Prop :=_;(?_ : GG));obtain ⟨mean,mg,mb,T1⟩ :=hS.T;k_unfold;have X1 :=hS.X))
  (k_with "an"=>(refine wpAny_call ?_;refine en_answer hS hDo hF hN hR ?_;intro A1 D1 g L' h₁ tk1 Q1 E1 hA1 hD1 T1 S1 R1 X1 G1 F1 N1 lN hQT;obtain ⟨mean,mg,mb,T1⟩ :=T1;(repeat' ((fail_if_success (with_reducible show wpAny _ _ (exec (PySem.Stmt.Try _ _ _ _ _) _) _ _ _));k_extra "step"));refine PySem.wpAny_Try_except ?_;(repeat' ((fail_if_success (with_reducible show wpAny _ _ (call (Value.ref 509) _) _ _ _));k_extra "step"));refine hW _ _ _ _ _ _ _ _ _ _ _ _ _ _ _ (by k_extra "site") (by k_extra "roomle") ‹_› ‹_› (fun _ h=>h) ?_;intro G e' h' t' news' F' fl' rl';subst hD1 hA1;have XB :=S1.XB;obtain ⟨mean',mg',mb',TB⟩ :=S1.TB;refine fly_look S1.fr S1.ef fl' ?_;clear fl';intro h2 fl2))
  (k_with "G"=>refine (let GG : Prop :=_;(?_ : GG)))
  (k_with "isl"=>exact News.isList ‹_› (by k_mem))
  (k_with "step"=>first | k_extra "leave" | k_extra "unhide" | (k_extra "hide";walk1) | walk1 | (dsimp only;walk1))
  (k_with "go"=>repeat' (first | k_extra "leave" | k_extra "unhide" | (k_extra "hide";walk1) | walk1 | (dsimp only;walk1)))
  (k_with "ite"=>(k_here;first | refine W.ite_pos ‹_› ?_ | refine W.ite_neg ‹_› ?_ | refine W.ite_pos (by decide +kernel) ?_ | refine W.ite_neg (by decide +kernel) ?_))
  (k_with "binaryOp Add bytes bytes"=>(k_here;refine addBy ‹_› ?_;intro zu zt))
  (k_with "eval Name"=>(k_here;k_dflt (first
    | (refine' nmL ?F ?v ?_ ?a;(case F=>k_asm);(case a=>k_extra "locN");(case v=>rfl);k_whole)
    | (refine' nameX_K ?F ?X ?T ?e ?_ ?a ?b;(case F=>k_asm);(case X=>k_asm);(case T=>k_asm);(case a=>rfl);(case b=>rfl);(case e=>k_is);k_whole)
    | (refine' nameX_B ?F ?X ?T ?e ?v ?n ?_ ?a ?b;(case F=>k_asm);(case X=>k_asm);(case T=>k_asm);(case a=>rfl);(case b=>rfl);(case e=>k_is);(case v=>boot_fast);(case n=>decide);k_whole)
    | (refine' nameX_C ?N ?c ?m ?d ?_ ?a ?b;(case a=>rfl);(case b=>rfl);(case N=>k_asm);(case c=>rfl);(case m=>k_mem);(case d=>k_asm);k_whole)
    | (refine' nameX_F ?N ?c ?m ?d ?_ ?a ?b;(case a=>rfl);(case b=>rfl);(case N=>k_asm);(case c=>rfl);(case m=>k_mem);(case d=>k_asm);k_whole))))
  (k_with "eval Constant int"=>(refine cI ?_;intro zu zt))
  (k_with "eval Constant str"=>(refine cS ?_;intro zu zt))
  (k_with "eval Constant bytes"=>(refine cBy ?_;intro zu zt))
  (k_with "storeName"=>(k_here;k_dflt (refine' stC ?F ?N ?c ?U ?d ?_ ?a ?b;(case a=>rfl);(case b=>rfl);(case F=>k_asm);(case N=>k_asm);(case c=>rfl);(case U=>k_updF);(case d=>k_asm);k_whole);intro h' o' t' F' N' d';(try dsimp only at N');(try k_sweep)))
  (k_with "storeName"=>(k_here;k_dflt (refine' stLm ?F ?N ?_ ?a ?b;(case F=>k_asm);(case N=>k_asm);(case a=>rfl);(case b=>rfl));intro h' t' mm F' N';(try k_sweep)))
  (k_with "binaryOp Mult int int"=>(k_here;refine mulI ‹_› ?_;intro zu zt))
  (k_with "binaryOp Add int int"=>(k_here;refine addI ?_;intro zu zt))
  (k_with "binaryOp Sub int int"=>(k_here;refine subI ?_;intro zu zt))
  (k_with "unaryOp USub int"=>(k_here;refine negI ?_;intro zu zt))
  (k_with "binaryOp FloorDiv int int"=>(k_here;refine divI (by first | assumption | decide | exact Om.i14 ‹_› | omega) (by first | decide | exact Om.i13 ‹_› ‹_› (by decide) (by decide) | omega) ?_;intro zu zt))
  (k_with "binaryOp Mod int int"=>(k_here;(first | refine modI ‹_› ?_ | refine modI (tok_ne _) ?_ | refine modI (by decide) ?_);intro zu zt))
  (k_with "setAttr ref"=>(k_here;k_dflt (refine' setDU ?k1 ?k2 ?k3 ?k4 ?k5 ?k6 ?k7 ?k8 ?k9 ?k10 ?k11 ?k13 ?_;(case k1=>k_asm);(case k2=>k_asm);(case k3=>k_asm);(case k4=>assumption);(case k5=>assumption);(case k6=>k_is);(case k7=>k_is);(case k8=>k_is);(case k9=>k_is);(case k10=>k_get);(case k11=>intro u;k_put);(case k13=>intro u;exact Nat.le_of_ble_eq_true rfl);k_whole);intro u' h' t' news' F' N' KU' MU';(try k_sweep)))
  (k_with "setAttr ref"=>(k_here;k_dflt (refine' setD ?k1 ?k2 ?k3 ?k4 ?k5 ?k6 ?k7 ?k8 ?k9 ?k10 ?k11 ?k12 ?k13 ?_;(case k1=>k_asm);(case k2=>k_asm);(case k3=>k_asm);(case k4=>k_inst);(case k5=>exact rfl);(case k6=>k_is);(case k7=>k_is);(case k8=>k_is);(case k9=>k_is);(case k10=>k_get);(case k11=>intro u;k_put);(case k12=>intro u;k_upd);(case k13=>intro u;exact Nat.le_of_ble_eq_true rfl);k_whole);intro u' h' t' F' N';(try k_sweep)))
  (k_with "getAttr ref"=>(k_here;k_dflt (refine' clsI ?k1 ?k2 ?k3 ?k4 ?k5 ?k6 ?k7 ?k8 ?k9 ?k10 ?_;(case k1=>k_asm);(case k2=>k_asm);(case k3=>k_inst);(case k4=>k_is);(case k5=>k_is);(case k6=>k_is);(case k7=>k_is);(case k8=>k_handed);(case k9=>decide +kernel);(case k10=>k_get);k_whole);intro zt))
  (k_with "getAttr ref"=>(k_here;k_dflt (refine' propI ?k1 ?k2 ?k3 ?k4 ?k5 ?k6 ?k7 ?k8 ?k9 ?_;(case k1=>k_asm);(case k2=>k_asm);(case k3=>k_inst);(case k4=>k_is);(case k5=>k_is);(case k6=>k_is);(case k7=>k_is);(case k8=>k_is);(case k9=>k_is);k_whole);intro zu zt;k_dflt k_extra "enter"))
  (k_with "getAttr ref"=>(k_here;k_dflt (refine' getO ?k1 ?k2 ?k3 ?k4 ?k5 ?k6 ?k7 ?k8 ?k9 ?_;(case k1=>k_asm);(case k2=>k_asm);(case k3=>k_inst);(case k4=>k_is);(case k5=>k_is);(case k6=>k_is);(case k7=>k_is);(case k8=>k_get);(case k9=>k_handed);k_whole);intro zt))
  (k_with "setAttr ref"=>(k_here;k_dflt (refine' setP ?k1 ?k2 ?k3 ?k4 ?k5 ?k6 ?k7 ?k8 ?_;(case k1=>k_asm);(case k2=>k_asm);(case k3=>k_inst);(case k4=>k_is);(case k5=>k_is);(case k6=>k_is);(case k7=>k_is);(case k8=>k_is);k_whole);intro zt;k_dflt k_extra "enter"))
  (k_with "getMethod ref"=>(k_here;k_dflt (first
    | (refine' method_inst ?k1 ?k2 ?k3 ?k4 ?k5 ?k6 ?k7 ?_;(case k1=>k_asm);(case k2=>k_asm);(case k3=>k_inst);(case k4=>k_is);(case k5=>k_is);(case k6=>k_is);(case k7=>k_get);k_whole)
    | (refine' smI ?k1 ?k2 ?k4 ?k5 ?k6 ?k7 ?k8 ?k9 ?k10 ?k11 ?k12 ?k13 ?k14 ?_;(case k1=>k_asm);(case k2=>k_asm);(case k4=>k_inst);(case k5=>k_is);(case k6=>k_is);(case k7=>k_is);(case k8=>k_is);(case k9=>k_is);(case k10=>k_is);(case k11=>decide +kernel);(case k12=>k_get);(case k13=>k_is);(case k14=>k_handed);k_whole;intro zt)
    | (refine' cmI ?k1 ?k2 ?k3 ?k4 ?k5 ?k6 ?k7 ?k8 ?k9 ?k10 ?k11 ?k12 ?k13 ?_;(case k1=>k_asm);(case k2=>k_asm);(case k3=>k_asm);(case k4=>k_inst);(case k5=>k_is);(case k6=>k_is);(case k7=>k_is);(case k8=>k_is);(case k9=>k_is);(case k10=>k_is);(case k11=>decide +kernel);(case k12=>k_get);(case k13=>k_is);k_whole;intro q' h' t' F' N' l1;(try k_lt l1);(try k_sweep)))))
  (k_with "call ref"=>(k_here;k_dflt (refine' clsNew ?k1 ?k2 ?k3 ?k4 ?k5 ?k6 ?_;(case k1=>k_asm);(case k2=>k_asm);(case k3=>k_asm);(case k4=>k_is);(case k5=>k_is);(case k6=>k_is);k_whole);intro x' d' h' F' N' l1 l2;(try k_lt l1);(try k_lt2 l2);(try k_sweep);k_dflt k_extra "enter"))
  (k_with "call ref"=>(k_here;k_dflt (refine wpAny_call ?_;k_extra "enter")))
  (k_with "newList"=>(k_here;k_dflt (refine' newL ?k1 ?k2 ?z ?_;(case k1=>k_asm);(case k2=>k_asm);(case z=>size_fits);k_whole);intro l' h' F' N' l1;(try k_lt l1);(try k_sweep)))
  (k_with "eval ListComp"=>(k_here;k_dflt (first
    | (with_reducible show wpAny _ _ (eval (PySem.Expr.ListComp (PySem.Expr.Name _ _) [⟨_,_, [_],_⟩] _ _) _) _ _ _);refine ListComp_C ‹_› (by with_unfolding_all rfl) (by decide) (by rfl) (by decide) (by rfl) ?_
    | (with_reducible show wpAny _ _ (eval (PySem.Expr.ListComp (PySem.Expr.Name _ _) _ _ _) _) _ _ _);refine ListComp_same ‹_› (by with_unfolding_all rfl) (by decide) (by rfl) (by decide) (by rfl) ?_
    | (with_reducible show wpAny _ _ (eval (PySem.Expr.ListComp (PySem.Expr.BinOp _ Operator.BitXor _ _) _ _ _) _) _ _ _);refine ListComp_xor ‹_› (by with_unfolding_all rfl) (by decide) (by rfl) (by decide) (by rfl) ?_
    | (with_reducible show wpAny _ _ (eval (PySem.Expr.ListComp (PySem.Expr.Subscript (PySem.Expr.Name "_TRANS_36" _) _ _) _ _ _) _) _ _ _);refine ListComp_tab (f :=fun k=>Builtin.bitXor k 54) trivial ‹_› (by with_unfolding_all rfl) (by decide) (by rfl) (by decide) (by rfl) ?_
    | (with_reducible show wpAny _ _ (eval (PySem.Expr.ListComp (PySem.Expr.Subscript (PySem.Expr.Name "_TRANS_5C" _) _ _) _ _ _) _) _ _ _);refine ListComp_tab (f :=fun k=>Builtin.bitXor k 92) trivial ‹_› (by with_unfolding_all rfl) (by decide) (by rfl) (by decide) (by rfl) ?_
    | refine ListComp_KI ‹_› ‹_› (by with_unfolding_all rfl) (by decide) (by rfl) (by decide) (by rfl) ?_)))
  (k_with "call type:bytes"=>(k_here;k_dflt (refine bytesM ‹_› ‹_› (by k_mem) ‹_› ‹_› (by first | assumption | decide) (Room.h ‹_›) ?_);intro h' u' t' F' N';(try k_sweep)))
  (k_with "call type:bytes"=>(k_here;k_dflt (refine bytesD ‹_› ‹_› ‹_› ‹_› (by first | assumption | decide) (Room.h ‹_›) ?_);intro h' u' t' F' N';(try k_sweep)))
  (k_with "subscriptTail"=>(k_here;(with_reducible show wpAny _ _ (subscriptTail _ (PySem.Expr.Slice _ _ _ _) (Value.str _ _) (Value.ref _)) _ _ _);k_dflt (refine slice_strN_sn_len (s :=⟨_,_,_,_,_⟩) ‹_› ‹_› ?_ (hsz :=by assumption));intro zq zs zv zT zu zt))
  (k_with "subscriptTail"=>(k_here;(with_reducible show wpAny _ _ (subscriptTail _ (PySem.Expr.Slice _ _ _ _) (Value.str _ _) (Value.ref _)) _ _ _);k_dflt (refine sliceS ‹_› ‹_› ‹_› ?_);intro h' u' t' F' N';(try k_sweep)))
  (k_with "last subscriptTail"=>(k_here;(with_reducible show wpAny _ _ (subscriptTail _ (PySem.Expr.Slice _ _ _ _) (Value.str _ _) (Value.ref _)) _ _ _);k_dflt (refine sliceS ‹_› ‹_› ‹_› ?_);intro h' u' t' F' N';(try k_sweep)))
  (k_with "subscriptTail"=>(k_here;(with_reducible show wpAny _ _ (subscriptTail _ _ (Value.bytes _ _) (Value.int _ _)) _ _ _);k_dflt (refine itemM ‹_› ?_);intro zu zt))
  (k_with "assign Tuple"=>(k_here;k_dflt (refine' unpM ?k1 ?k2 ?k3 ?k4 ?k5 ?k6 ?_;(case k1=>k_asm);(case k2=>k_asm);(case k3=>exact Room.h ‹_›);(case k4=>exact News.isTup (by k_asm) (by k_mem));(case k5=>exact rfl);(case k6=>exact rfl));intro h' F' N';(try k_sweep)))
  (k_with "inplaceOp Add bytes bytes"=>(k_here;refine iaddB ‹_› ?_;intro zu zt))
  (k_with "callWith ref"=>(k_here;k_dflt (first
    | (refine' callWith_K ?k1 ?k2 ?_;(case k1=>k_asm);(case k2=>k_is);k_whole)
    | (refine' callWith_K0 ?k1 ?k2 ?_;(case k1=>k_in);(case k2=>k_is);k_whole)
    | (refine' callWith_F ?k1 ?_;(case k1=>first | exact FnIn.at ‹_› ‹_› | exact FnIn.at ‹_› (FnIn.mono' ‹_› (fun p hp=>by k_mem)));k_whole)
    | (refine' callWith_F0 ?k1 ?_;(case k1=>first | exact FnIn.at ‹_› ‹_› | exact FnIn.at ‹_› (FnIn.mono' ‹_› (fun p hp=>by k_mem)));k_whole;try dsimp only [List.nil_append,List.cons_append]))))
  (k_with "FnAt"=>first | exact FnIn.at ‹_› ‹_› | exact FnIn.at ‹_› (FnIn.mono' ‹_› (fun p hp=>by k_mem)))
  (k_with "call builtin:int.to_bytes"=>(k_here;k_dflt (refine toB (k :=8) (B :=18446744073709551616) (by decide) (by decide) ‹_› ‹_› ?_);intro zu zt))
  (k_with "call builtin:bytes.decode"=>(k_here;k_dflt (refine decI8 ‹_› ‹_› ‹_› ?_);intro zu zt))
  (k_with "call builtin:str.encode"=>(k_here;k_dflt (refine encI ‹_› ‹_› ‹_› ?_);intro zu zt))
  (k_with "call builtin:str.join"=>(k_here;k_dflt (refine joinC ‹_› (by k_mem) ‹_› ‹_› ?_);intro zu zt))
  (k_with "call builtin:str.isdigit"=>(k_here;k_dflt (refine isdigitI ‹_› ?_);intro zt))
  (k_with "LcSrc"=>(k_here;(with_reducible show LcSrc _ _ _ _ _ _ _ _ _ _ [_] _ _ _ _ _ _ _);k_dflt (refine srcC (Room.h ‹_›) ‹_› ‹_› ‹_› ‹_› ‹_› (fun _=>rfl) (fun _=>rfl) (fun _=>rfl) (fun _=>rfl) rfl ?_);intro D' h' tk' n' ys' ht' F' N' O';(try k_sweep)))
  (k_with "compareOp NotEq int int"=>(k_here;first | refine neSame ?_ | refine neT ‹_› ?_;intro zt))
  (k_with "compareOp Eq int int"=>(k_here;first | refine eqSame ?_ | refine eqT ‹_› ?_ | refine eqF ‹_› ?_ | refine eqD ‹_› ?_;intro zt))
  (k_with "inplaceOp BitOr int int"=>(k_here;refine orI ?_;intro zu zt))
  (k_with "binaryOp BitXor int int"=>(k_here;refine xorI ?_;intro zu zt))
  (k_with "call builtin:ord"=>(k_here;refine ordI ?_;intro zu zt))
  (k_with "call builtin:len"=>(k_here;(with_reducible show wpAny _ _ (call (Value.builtin "len") [Value.str _ _]) _ _ _);k_dflt (refine lenS ‹_› (by omega) ?_);intro zu zt))
  (k_with "call builtin:len"=>(k_here;(with_reducible show wpAny _ _ (call (Value.builtin "len") [Value.bytes _ _]) _ _ _);k_dflt (refine lenB ‹_› (by omega) ?_);intro zu zt))
  (k_with "binaryOp BitAnd int int"=>(k_here;refine andI ?_;intro zu zt))
  (k_with "subscriptTail"=>(k_here;(with_reducible show wpAny _ _ (subscriptTail _ _ (Value.bytes _ _) (Value.int _ _)) _ _ _);k_dflt (refine itemR ‹_› (by omega) (by omega) (by decide) ?_);intro zu zt))
  (k_with "subscriptTail"=>(k_here;(with_reducible show wpAny _ _ (subscriptTail _ (PySem.Expr.Slice _ _ _ _) (Value.bytes _ _) (Value.ref _)) _ _ _);k_dflt (refine sliceB ‹_› ‹_› (by constructor) (by constructor) ‹_› ?_);intro h' u' t' F' N';(try k_sweep)))
  (k_with "binaryOp Mod str ref"=>(k_here;(with_reducible show wpAny _ _ (binaryOp _ (Value.str "%0*d" _) _) _ _ _);k_dflt (refine starM ‹_› (by k_mem) (by omega) (by omega) ‹_› ‹_› ‹_› ?_);intro zu zt))
  (k_with "getMethod type:int"=>(k_here;k_dflt (refine getFB ‹_› ‹_› ‹_› ?_);intro x' h' t' F' N' l1;(try k_lt l1);(try k_sweep)))
  (k_with "subscriptTail"=>(k_here;(with_reducible show wpAny _ _ (subscriptTail _ _ (Value.ref _) (Value.int _ _)) _ _ _);k_dflt (refine' item_tupleT ?t ?a ?b ?c ?d ?_;(case t=>exact News.isTup (by k_asm) (by k_mem));(case a=>decide);(case b=>decide);(case c=>rfl);(case d=>rfl);k_whole)))
  (k_with "truthy bytes"=>(k_here;refine truthyB ‹_› ‹_› ?_;intro zt))
  (k_with "binaryOp Pow int int"=>(k_here;refine powM ‹_› ?_;intro zu zt))
  (k_with "call type:str"=>(k_here;(with_reducible show wpAny _ _ (call (Value.type "str") [Value.int _ _]) _ _ _);refine strM ‹_› ?_;intro zu zt))
  (k_with "binaryOp Add ref ref"=>(k_here;k_dflt (refine padM ‹_› ‹_› (by k_mem) ‹_› (by k_mem) ‹_› ?_);intro D' us' h' F' N' i';(try k_sweep)))
  (k_with "call ref"=>(k_here;(with_reducible show wpAny _ _ (call (Value.ref _) [Value.bytes _ _]) _ _ _);k_dflt (refine (by assumption : CallsC _ _ _ _) _ _ _ _ _ _ _ _ _ _ _ _ _ _ _ (by k_extra "site") (by k_extra "roomle") ‹_› ‹_› (by first | exact (fun _ h=>h) | (intro p hp;k_mem)) ‹_› ?_);intro t' h' tk' F' N';(try k_sweep)))
  (k_with "call ref"=>(k_here;(with_reducible show wpAny _ _ (call (Value.ref _) [Value.bytes _ _]) _ _ _);k_dflt (refine hmac_call _ _ _ _ _ _ _ ‹_› ‹_› ‹_› ‹_› ‹_› ‹_› ‹_› (by k_extra "site") (by k_extra "roomle") ‹_› ‹_› ?_);intro t' h' tk' F' N';(try k_sweep)))
  (k_with "call ref"=>(k_here;(with_reducible show wpAny _ _ (call (Value.ref 480) _) _ _ _);k_dflt (refine law_hash_spec _ _ _ _ ‹_› ‹_› (by k_extra "site") (by k_extra "roomle") ‹_› ‹_› ?_);intro t' h' tk' F' N';(try k_sweep)))
  (k_with "call ref"=>(k_here;(with_reducible show wpAny _ _ (call (Value.ref _) [Value.bytes _ _,Value.str _ _]) _ _ _);refine fromB (by k_asm) (by k_mem) ‹_› ?_;intro zu zt))
  (k_with "call ref"=>(k_here;(with_reducible show wpAny _ _ (call (Value.ref 207) _) _ _ _);k_dflt (refine compile_any _ _ _ _ _ _ _ _ _ _ ‹_› ‹_› ‹_› ‹_› ‹_› ‹_› ‹_› ‹_› ‹_› (by k_extra "site") (by k_extra "roomle") ‹_› ‹_› ?_);intro hf' news' h' tk' F' N' KC' HI' HT';(try k_sweep)))
  (k_with "call ref"=>(k_here;(with_reducible show wpAny _ _ (call (Value.ref 341) _) _ _ _);k_dflt (refine gen_at _ _ (by k_extra "site") (by k_extra "roomle") ‹_› ‹_› ‹_› (fun q hq=>by k_mem) ‹_› ‹_› ‹_› ?_);intro news' u' h' tk' F' N' KT' DV';(try k_sweep)))
  (k_with "LcSrc"=>(k_here;k_dflt (refine srcM (items :=k8) (hands_range (Room.h ‹_›) ‹_› rfl rfl k8_at) ‹_› ‹_› (by decide) (elt_token (by rfl) ⟨_,News.get ‹_› (by k_mem),by assumption⟩ k8_nonneg (fun _=>rfl) (fun _=>rfl) (fun _=>rfl) rfl rfl) ?_);intro D' h' tk' n' ts' ht' F' N' O';(try k_sweep)))
  (k_with "LcSrc"=>(k_here;k_dflt (refine srcM (hands_bytes (Room.h ‹_›)) ‹_› ‹_› (by (rw [KBw.ints_length,sizeLine_eq];omega)) (elt_same (fun _=>rfl) (fun _=>rfl) rfl) ?_);intro D' h' tk' n' ts' ht' F' N' O';(try k_sweep)))
  (k_with "LcSrc"=>(k_here;k_dflt (refine srcM (hands_list (Room.h ‹_›) (News.isList ‹_› (by k_mem)) ‹_›) ‹_› ‹_› ‹_› (elt_xor (fun _=>rfl) (fun _=>rfl) rfl) ?_);intro D' h' tk' n' ts' ht' F' N' O';(try k_sweep)))
  (k_with "LcSrc"=>(k_here;k_dflt (refine srcM (hands_bytes (Room.h ‹_›)) ‹_› ‹_› (by (rw [KBw.ints_length,sizeLine_eq];omega)) (elt_trans (x :=54) ‹_› ‹_› ‹_› (tab36 _) (Or.inl rfl) bInts_range (fun _=>rfl) (fun _=>rfl) (fun _=>rfl) (fun _=>rfl) rfl rfl) ?_);intro D' h' tk' n' ts' ht' F' N' O';(try k_sweep)))
  (k_with "LcSrc"=>(k_here;k_dflt (refine srcM (hands_bytes (Room.h ‹_›)) ‹_› ‹_› (by (rw [KBw.ints_length,sizeLine_eq];omega)) (elt_trans (x :=92) ‹_› ‹_› ‹_› (tab5C _) (Or.inr rfl) bInts_range (fun _=>rfl) (fun _=>rfl) (fun _=>rfl) (fun _=>rfl) rfl rfl) ?_);intro D' h' tk' n' ts' ht' F' N' O';(try k_sweep)))
  (k_with "call type:ValueError"=>(k_here;k_dflt (refine bexc_new (K :=K w.params) PySem.F.excBase_ValueError.toExcCallFacts PySem.F.isExc_ValueError (by decide +kernel) ‹_› ‹_› (Nat.le_of_ble_eq_true rfl) ?_);intro e' oe' h' F' N' K' ne' hd' ho';(try k_sweep)))
  (k_with "call type:TypeError"=>(k_here;k_dflt (refine bexc_new (K :=K w.params) PySem.F.excBase_TypeError.toExcCallFacts PySem.F.isExc_TypeError (by decide +kernel) ‹_› ‹_› (Nat.le_of_ble_eq_true rfl) ?_);intro e' oe' h' F' N' K' ne' hd' ho';(try k_sweep)))
  (k_with "call type:RuntimeError"=>(k_here;k_dflt (refine bexc_new (K :=K w.params) PySem.F.excBase_RuntimeError.toExcCallFacts PySem.F.isExc_RuntimeError (by decide +kernel) ‹_› ‹_› (Nat.le_of_ble_eq_true rfl) ?_);intro e' oe' h' F' N' K' ne' hd' ho';(try k_sweep)))
  (k_with "exec Raise some none"=>(k_here;refine raise_made (K :=K w.params) (Room.h ‹_›) ?_))
  (k_with "raised"=>(refine ⟨_,_,_,rfl,News.get ‹_› (by k_mem), ‹_›,old_of ‹_› ‹_›, ?_⟩;refine hE1 _ _ ?_;subst hD1;refine raise_out ‹_› rfl ‹_› ‹_› (by k_mem) ‹_› ?_;intro h'' fl';(try dsimp only)))
  (k_with "thrown"=>(rw [hd'] at fl';dsimp only at fl';refine hexc _ _ _ _ _ ‹_› fl' (fun q hq=>kept_on K' ne' (by k_mem))))
  (k_with "passed"=>(refine hE1 _ _ ?_;subst hD1;refine pass_out ‹_› rfl ‹_› ‹_› ?_;intro h'' fl';(try dsimp only)))
  (k_with "call ref"=>(k_here;(with_reducible show wpAny _ _ (call (Value.ref 54) [Value.str _ _]) _ _ _);k_dflt (refine mal_new _ _ (by k_extra "site") (by k_extra "roomle") ‹_› ‹_› ?_);intro e' oe' h' t' news' F' N' K' ne' m' hd' ho';(try k_sweep)))
  (k_with "call ref"=>(k_here;(show wpAny _ _ (call (Value.ref 66) []) _ _ _);k_dflt (refine inv_new (by k_extra "site") (by k_extra "roomle") ‹_› ‹_› ?_);intro e' oe' h' t' news' F' N' K' ne' m' hd' ho';(try k_sweep)))
  (k_with "call ref"=>(k_here;(show wpAny _ _ (call (Value.ref 87) [] _) _ _ _);k_dflt (refine used_new _ _ (by k_extra "site") (by k_extra "roomle") ‹_› ‹_› ?_);intro e' oe' dx' u' h' t' news' F' N' K' ne' m' hd' mx' ho';(try k_sweep)))
  (k_with "call builtin:isinstance"=>(k_here;refine (by assumption : IsiC _ _ _) _ _ _ _ _ _ _ _ (by k_in) ?_;intro zt))
  (k_with "call ref"=>(k_here;(with_reducible show wpAny _ _ (call (Value.ref 182) _ _) _ _ _);k_dflt (refine (by assumption : UniC _ _ _) _ _ _ _ _ _ _ _ _ _ _ _ _ _ (by k_extra "site") (by k_extra "roomle") ‹_› ‹_› ?_);intro u' h' t' F' N';(try k_sweep)))
  (k_with "call ref"=>(k_here;(with_reducible show wpAny _ _ (call (Value.ref 327) _) _ _ _);k_dflt (refine (by assumption : NormC _ _ _ _ _) _ _ _ _ _ _ _ _ _ _ _ _ _ (by k_extra "site") (by k_extra "roomle") ‹_› ‹_› (fun q hq=>by k_mem) ?_);intro u' h' t' F' N';(try k_sweep)))
  (k_with "call ref"=>(k_here;(with_reducible show wpAny _ _ (call (Value.ref 166) _) _ _ _);k_dflt (refine consteq_spec _ _ _ _ ‹_› ‹_› ‹_› ‹_› ‹_› (by k_extra "site") (by k_extra "roomle") ‹_› ‹_› ?_);intro h' t' F' N';(try k_sweep)))
  (k_with "call ref"=>(k_here;(with_reducible show wpAny _ _ (call (Value.ref _) [Value.int _ _]) _ _ _);k_dflt (refine gn_call ‹_› ‹_› ‹_› _ _ ‹_› ‹_› (by k_extra "site") (by k_extra "roomle") ‹_› ‹_› ?_);intro news' u' h' t' F' N' KT' DV';(try k_sweep)))
  (k_with "call builtin:max"=>(k_here;k_dflt (refine maxI (Room.h ‹_›) ‹_› ‹_› ?_);intro u' h' t' F' N';(try k_sweep)))
  (k_with "compareOp NotEq ref ref"=>(k_here;(with_reducible show wpAny _ _ (compareOp CmpOp.NotEq (Value.ref _) _) _ _ _);(refine cmp_ofNotEq ?_);k_dflt (refine' cmp_K ?k1 ?k2 ?k3 ?k4 ?k5 ?k6 ?k7 ?k8 ?_;(case k4=>k_inst);(case k2=>k_asm);(case k3=>k_asm);(case k1=>exact Room.lt ‹_›);(case k5=>k_typeOf);(case k6=>k_is);(case k7=>k_is);(case k8=>k_is);k_whole)))
  (k_with "compareOp Eq ref ref"=>(k_here;(with_reducible show wpAny _ _ (compareOp CmpOp.Eq (Value.ref _) _) _ _ _);(refine cmp_ofEq ?_);k_dflt (refine' cmp_K ?k1 ?k2 ?k3 ?k4 ?k5 ?k6 ?k7 ?k8 ?_;(case k4=>k_inst);(case k2=>k_asm);(case k3=>k_asm);(case k1=>exact Room.lt ‹_›);(case k5=>k_typeOf);(case k6=>k_is);(case k7=>k_is);(case k8=>k_is);k_whole)))
  (k_with "call ref"=>(k_here;(with_reducible show wpAny _ _ (call (Value.ref 485) _) _ _ _);k_dflt (refine' law_token_spec _ _ _ _ _ _ _ _ _ _ _ _ ?an ?ad ?ac ?ao ?ap ?aP ?aS ?aR ?aF ?aN ?_;(case aF=>assumption);(case aN=>assumption);(case aP=>k_mem);(case an=>assumption);(case ad=>assumption);(case ac=>assumption);(case ao=>assumption);(case ap=>assumption);(case aS=>k_extra "site");(case aR=>k_extra "roomle"));intro u' h' t' F' N';(try k_sweep)))
  (k_with "assign Tuple"=>(k_here;k_dflt (refine' unpL ?k1 ?k2 ?k3 ?k4 ?k5 ?k6 ?_;(case k1=>k_asm);(case k2=>k_asm);(case k3=>exact Room.h ‹_›);(case k4=>exact News.isList (by k_asm) (by k_mem));(case k5=>exact rfl);(case k6=>exact rfl));intro h' t' F' N';(try k_sweep)))
  (k_with "binaryOp Mult str int"=>(k_here;refine mulZ (by first | assumption | omega) ?_;intro zu zt))
  (k_with "binaryOp Mult bytes int"=>(k_here;refine mulZB (by first | assumption | omega) ?_;intro zu zt))
  (k_with "truthy bytes"=>(k_here;refine truthyB0 ?_;intro zt))
  (k_with "call type:bytes"=>(k_here;(with_reducible show wpAny _ _ (call (Value.type "bytes") [Value.int _ _]) _ _ _);k_dflt (refine bytesN ‹_› ?_);intro zu zt))
  (k_with "eval Name"=>(k_here;k_dflt (refine' nmL ?F ?v ?_ ?a;(case a=>k_extra "locN");(case F=>k_asm);(case v=>first | with_reducible assumption | rfl | assumption);k_whole)))
  (k_with "eval Name"=>(k_here;(with_reducible show wpAny _ _ (eval _ (compEnvC _ _ _ _)) _ _ _);k_dflt (first
    | (refine ldVarK ‹_› (by with_reducible assumption) ?_)
    | (refine ldCellK (by rfl) (by with_reducible assumption) ?_)
    | (refine ldBK ‹_› ‹_› ‹_› ‹_› (by k_is) (by boot_fast) (by decide) ?_)
    | (refine ldGK ‹_› ‹_› ‹_› ‹_› (by k_is) ?_))))
  (k_with "exec Assign cons ListComp"=>first
    | ((with_reducible show wpAny _ _ (exec (PySem.Stmt.Assign [PySem.Expr.Tuple _ _ _] _ _) _) _ _ _);refine Assign_Tuple ?_)
    | ((with_reducible show wpAny _ _ (exec (PySem.Stmt.Assign [PySem.Expr.Name _ _] _ _) _) _ _ _);refine wpAny_Assign_Name ?_))
  (k_with "binaryOp Mod str int"=>(k_here;(with_reducible show wpAny _ _ (binaryOp _ (Value.str "Token must have exactly %d digits" _) _) _ _ _);refine modTok (by omega) (by omega) ?_;intro zT zu zt))
  (k_with "binaryOp Mod str ref"=>(k_here;(with_reducible show wpAny _ _ (binaryOp _ (Value.str "%s must be >= %d" _) _) _ _ _);k_dflt (refine modLow ‹_› (by k_mem) (by decide +kernel) (by decide) (by decide) ?_);intro zT zu zt))
  (k_with "steps"=>repeat' (first | k_extra "unhide" | (k_end;wrow_close) | (k_extra "hide";walk1) | walk1 | (dsimp only;walk1) | (leave1;walk_say "STEP leave1";try dsimp only)))
  (k_with "loadName"=>(k_here;k_dflt (refine ldL (by k_asm) (by first | with_reducible assumption | rfl | assumption) ?_)))
  (k_with "callWith ref"=>(k_here;(with_reducible show wpAny _ _ (callWith _ _ _ _ (backToKw _ _)) _ _ _);k_dflt (first
    | (refine' callWith_KW ?k1 ?k2 ?k3 ?_;(case k1=>k_asm);(case k2=>k_is);(case k3=>exact rfl);k_whole)
    | (refine' callWith_KW0 ?k1 ?k2 ?k3 ?_;(case k1=>k_asm);(case k2=>k_is);(case k3=>exact rfl);k_whole))))
  (k_with "s0"=>repeat' ((fail_if_success (with_reducible show wpAny _ _ (execs (Stmt.Assign [PySem.Expr.Name (ofString "digest") _] _ _ :: _) _) _ _ _));k_extra "step"))
  (k_with "s1"=>repeat' ((fail_if_success (with_reducible show wpAny _ _ (call (Value.ref 182) _ _) _ _ _));k_extra "step"))
  (k_with "s2"=>repeat' ((fail_if_success (with_reducible show wpAny _ _ (exec (Stmt.While _ _ _ _) _) _ _ _));k_extra "step"))
  (k_with "s3"=>repeat' ((fail_if_success (with_reducible show wpAny _ _ (execs (Stmt.If (PySem.Expr.Compare _ [CmpOp.LtE] _ _) _ _ _ :: _) _) _ _ _));k_extra "step"))
  (k_with "s4"=>repeat' ((fail_if_success (with_reducible show wpAny _ _ (call (Value.ref 357) _) _ _ _));k_extra "step"))
  (k_with "s5"=>repeat' ((fail_if_success (with_reducible show wpAny _ _ (execs (Stmt.Assign [PySem.Expr.Name (ofString "start") _] _ _ :: _) _) _ _ _));k_extra "step"))
  (k_with "s6"=>repeat' ((fail_if_success (with_reducible show wpAny _ _ (call (Value.ref 327) _) _ _ _));k_extra "step"))
  (k_with "s7"=>repeat' ((fail_if_success (with_reducible show wpAny _ _ (exec (Stmt.Try _ _ _ _ _) _) _ _ _));k_extra "step"))
  (k_with "s8"=>repeat' ((fail_if_success (with_reducible show wpAny _ _ (call (Value.ref 349) _) _ _ _));k_extra "step"))
  (k_with "s9"=>repeat' ((fail_if_success (with_reducible show wpAny _ _ (compareOp CmpOp.Eq _ _) _ _ _));k_extra "step"))
  (k_with "s10"=>repeat' ((fail_if_success (with_reducible show wpAny _ _ (eval (PySem.Expr.ListComp _ _ _ _) _) _ _ _));k_extra "step"))
  (k_with "s11"=>repeat' ((fail_if_success (with_reducible show wpAny _ _ (compareOp CmpOp.NotEq _ _) _ _ _));k_extra "step"))
  (k_with "s12"=>repeat' ((fail_if_success (with_reducible show wpAny _ _ (call (Value.builtin "len") _) _ _ _));k_extra "step"))
  (k_with "s13"=>repeat' ((fail_if_success (with_reducible show wpAny _ _ (execs (Stmt.Assign [PySem.Expr.Name (ofString "row") _] _ _ :: _) _) _ _ _));k_extra "step"))
  (k_with "s14"=>repeat' ((fail_if_success (with_reducible show wpAny _ _ (getAttr _ _ _) _ _ _));k_extra "step"))
  (k_with "s15"=>repeat' ((fail_if_success (with_reducible show wpAny _ _ (PySem.bindName _ _ _ >>= _) _ _ _));k_extra "step"))
  (k_with "s16"=>repeat' ((fail_if_success (with_reducible show wpAny _ _ (exec (Stmt.For _ _ _ _ _) _) _ _ _));k_extra "step"))
  (k_with "s17"=>repeat' ((fail_if_success (with_reducible show wpAny _ _ (pyIter _) _ _ _));k_extra "step"))
  (k_with "s18"=>repeat' ((fail_if_success (with_reducible show wpAny _ _ (execs (Stmt.For _ _ _ _ _ :: _) _) _ _ _));k_extra "step"))
  (k_with "s19"=>repeat' ((fail_if_success (with_reducible show wpAny _ _ (call (Value.ref 334) _) _ _ _));k_extra "step"))
  (k_with "s20"=>repeat' ((fail_if_success (with_reducible show wpAny _ _ (call (Value.ref 244) _) _ _ _));k_extra "step"))
  (k_with "s21"=>repeat' ((fail_if_success (with_reducible show wpAny _ _ (call (Value.ref 360) _ _) _ _ _));k_extra "step"))
  (k_with "s22"=>repeat' ((fail_if_success (with_reducible show wpAny _ _ (call (Value.ref 254) _) _ _ _));k_extra "step"))
  (k_with "s23"=>repeat' ((fail_if_success (with_reducible show wpAny _ _ (call (Value.ref 264) _ ) _ _ _));k_extra "step"))
  (k_with "s24"=>repeat' ((fail_if_success (with_reducible show wpAny _ _ (call (Value.ref 244) _ _) _ _ _));k_extra "step"))
  (k_with "s25"=>repeat' ((fail_if_success (with_reducible show wpAny _ _ (setAttr (Value.ref _) (ofString "key") _) _ _ _));k_extra "step"))
  (k_with "s26"=>repeat' ((fail_if_success (with_reducible show wpAny _ _ (call (Value.ref 207) _) _ _ _));k_extra "step"))
  (k_with "s27"=>repeat' ((fail_if_success (with_reducible show wpAny _ _ (exec (Stmt.Assert _ _ _) _) _ _ _));k_extra "step"))
  (k_with "s28"=>repeat' ((fail_if_success (with_reducible show wpAny _ _ (call (Value.ref 341) _) _ _ _));k_extra "step"))
  (k_with "s29"=>repeat' ((fail_if_success (with_reducible show wpAny _ _ (eval (PySem.Expr.Lambda _ _ _ _) _) _ _ _));k_extra "step"))
  (k_with "s30"=>repeat' ((fail_if_success (with_reducible show wpAny _ _ (call (Value.ref 360) _) _ _ _));k_extra "step"))
  (k_with "s31"=>repeat' ((fail_if_success (with_reducible show wpAny _ _ (subscriptTail _ _ _ _) _ _ _));k_extra "step"))
  (k_with "s32"=>repeat' ((fail_if_success (with_reducible show wpAny _ _ (eval (PySem.Expr.Constant _ _ _) _) _ _ _));k_extra "step"))
  (k_with "s33"=>repeat' ((fail_if_success (with_reducible show wpAny _ _ (execs (Stmt.Assign [PySem.Expr.Name (ofString "size") _] _ _ :: _) _) _ _ _));k_extra "step"))
  (k_with "s34"=>repeat' ((fail_if_success (with_reducible show wpAny _ _ (execs (Stmt.Assign [PySem.Expr.Name (ofString "key") _] _ _ :: _) _) _ _ _));k_extra "step"))
  (k_with "s35"=>repeat' ((fail_if_success (with_reducible show wpAny _ _ (binaryOp Operator.Mod _ _) _ _ _));k_extra "step"))
  (k_with "s36"=>repeat' ((fail_if_success (with_reducible show wpAny _ _ (storeName _ _ _) _ _ _));k_extra "step"))
  (k_with "s37"=>repeat' ((fail_if_success (with_reducible show wpAny _ _ (call (Value.builtin "str.join") _) _ _ _));k_extra "step"))
  (k_with "s38"=>repeat' ((fail_if_success (with_reducible show wpAny _ _ (call (Value.ref 490) _) _ _ _));k_extra "step"))
  (k_with "s39"=>repeat' ((fail_if_success (with_reducible show wpAny _ _ (compareOp CmpOp.NotEq (Value.bytes _ _) _) _ _ _));k_extra "step"))
  (k_with "s40"=>repeat' ((fail_if_success (with_reducible show wpAny _ _ (getAttr (Value.ref _) (ofString "hex_key") _) _ _ _));k_extra "step"))
  (k_with "s41"=>repeat' ((fail_if_success (with_reducible show wpAny _ _ (execs (Stmt.Assign [PySem.Expr.Name (ofString "moment") _] _ _ :: _) _) _ _ _));k_extra "step"))
  (k_with "s42"=>repeat' ((fail_if_success (with_reducible show wpAny _ _ (execs (Stmt.Assign [PySem.Expr.Name (ofString "counter") _] _ _ :: _) _) _ _ _));k_extra "step"))
  (k_with "s43"=>repeat' ((fail_if_success (with_reducible show wpAny _ _ (execs (Stmt.Assign [PySem.Expr.Name (ofString "made") _] _ _ :: _) _) _ _ _));k_extra "step"))
  (k_with "s44"=>repeat' ((fail_if_success (with_reducible show wpAny _ _ (execs (Stmt.Assign [PySem.Expr.Name (ofString "token") _] _ _ :: _) _) _ _ _));k_extra "step"))
  (k_with "s45"=>repeat' ((fail_if_success (with_reducible show wpAny _ _ (call (Value.ref 485) _) _ _ _));k_extra "step"))
  (k_with "s46"=>repeat' ((fail_if_success (with_reducible show wpAny _ _ (compareOp CmpOp.NotEq (Value.str _ _) _) _ _ _));k_extra "step"))
  (k_with "s47"=>repeat' ((fail_if_success (with_reducible show wpAny _ _ (compareOp CmpOp.NotEq (Value.ref _) (Value.ref _)) _ _ _));k_extra "step"))
  (k_with "s48"=>repeat' ((fail_if_success (with_reducible show wpAny _ _ (execs (Stmt.If _ _ _ _ :: _) _) _ _ _));k_extra "step"))
  (k_with "s49"=>repeat' ((fail_if_success (with_reducible show wpAny _ _ (call (Value.type "int") _) _ _ _));k_extra "step"))
  (k_with "s50"=>repeat' ((fail_if_success (with_reducible show wpAny _ _ (call (Value.type "str") _) _ _ _));k_extra "step"))
  (k_with "s51"=>repeat' ((fail_if_success (with_reducible show wpAny _ _ (execs (Stmt.Assign [PySem.Expr.Name (ofString "window") _] _ _ :: _) _) _ _ _));k_extra "step"))
  (k_with "s52"=>repeat' ((fail_if_success (with_reducible show wpAny _ _ (execs (Stmt.Assign [PySem.Expr.Name (ofString "way") _] _ _ :: _) _) _ _ _));k_extra "step"))
  (k_with "s53"=>repeat' ((fail_if_success (with_reducible show wpAny _ _ (getMethod (Value.str _ _) _ _) _ _ _));k_extra "step"))
  (k_with "s54"=>repeat' ((fail_if_success (with_reducible show wpAny _ _ (execs (Stmt.If (PySem.Expr.Compare _ _ [PySem.Expr.Constant (PySem.Const.int 2) _ _] _) _ _ _ :: _) _) _ _ _));k_extra "step"))
  (k_with "s55"=>repeat' ((fail_if_success (with_reducible show wpAny _ _ (execs (Stmt.If (PySem.Expr.Compare _ _ [PySem.Expr.Constant (PySem.Const.int 3) _ _] _) _ _ _ :: _) _) _ _ _));k_extra "step"))
  (k_with "s56"=>repeat' ((fail_if_success (with_reducible show wpAny _ _ (subscriptTail _ _ (Value.str _ _) _) _ _ _));k_extra "step"))
  (k_with "s57"=>repeat' ((fail_if_success (with_reducible show wpAny _ _ (binaryOp Operator.Add (Value.str _ _) (Value.str _ _)) _ _ _));k_extra "step"))
  (k_with "s58"=>repeat' ((fail_if_success (with_reducible show wpAny _ _ (execs (Stmt.If (PySem.Expr.Compare _ _ [PySem.Expr.Constant (PySem.Const.int 4) _ _] _) _ _ _ :: _) _) _ _ _));k_extra "step"))
  (k_with "s59"=>repeat' ((fail_if_success (with_reducible show wpAny _ _ (execs (Stmt.If (PySem.Expr.Compare _ _ [PySem.Expr.Constant (PySem.Const.int 5) _ _] _) _ _ _ :: _) _) _ _ _));k_extra "step"))
  (k_with "s60"=>repeat' ((fail_if_success (with_reducible show wpAny _ _ (execs (Stmt.Assign [PySem.Expr.Name (ofString "before") _] _ _ :: _) _) _ _ _));k_extra "step"))
  (k_with "s61"=>repeat' ((fail_if_success (with_reducible show wpAny _ _ (execs (Stmt.Assign [PySem.Expr.Name (ofString "due") _] _ _ :: _) _) _ _ _));k_extra "step"))
  (k_with "s62"=>repeat' ((fail_if_success (with_reducible show wpAny _ _ (subscriptTail _ _ (Value.ref _) _) _ _ _));k_extra "step"))
  (k_with "s63"=>repeat' ((fail_if_success (with_reducible show wpAny _ _ (call (Value.ref 502) _) _ _ _));k_extra "step"))
  (k_with "s64"=>repeat' ((fail_if_success (with_reducible show wpAny _ _ (call (Value.ref 497) _) _ _ _));k_extra "step"))
  (k_with "s65"=>repeat' ((fail_if_success (with_reducible show wpAny _ _ (binaryOp Operator.Pow _ _) _ _ _));k_extra "step"))
  (k_with "s66"=>repeat' ((fail_if_success (with_reducible show wpAny _ _ (execs (Stmt.AugAssign _ _ _ _ :: _) _) _ _ _));k_extra "step"))
  (k_with "s67"=>repeat' ((fail_if_success (with_reducible show wpAny _ _ (exec (Stmt.Assign _ _ _) _) _ _ _));k_extra "step"))
  (k_with "s68"=>repeat' ((fail_if_success (with_reducible show wpAny _ _ (call (Value.ref 516) _) _ _ _));k_extra "step"))
  (k_with "s69"=>repeat' ((fail_if_success (with_reducible show wpAny _ _ (binaryOp Operator.Mult _ _) _ _ _));k_extra "step"))
  (k_with "s70"=>repeat' ((fail_if_success (with_reducible show wpAny _ _ (binaryOp Operator.Add _ _) _ _ _));k_extra "step"))
  (k_with "s71"=>repeat' ((fail_if_success (with_reducible show wpAny _ _ (execs (Stmt.Assign _ _ _ :: _) _) _ _ _));k_extra "step"))
  (k_with "s72"=>repeat' ((fail_if_success (with_reducible show wpAny _ _ (setAttr (Value.ref _) (ofString "_encrypted_key") _) _ _ _));k_extra "step"))
  (k_with "s73"=>repeat' ((fail_if_success (with_reducible show wpAny _ _ (setAttr (Value.ref _) (ofString "_keyed_hmac") _) _ _ _));k_extra "step"))
  (k_with "s74"=>repeat' ((fail_if_success (with_reducible show wpAny _ _ (setAttr _ _ _) _ _ _));k_extra "step"))
  (k_with "s75"=>repeat' ((fail_if_success (with_reducible show wpAny _ _ (execs (Stmt.Return _ _ :: _) _) _ _ _));k_extra "step"))
  (k_with "s76"=>repeat' ((fail_if_success (with_reducible show wpAny _ _ (compareOp CmpOp.Eq (Value.str _ _) _) _ _ _));k_extra "step"))
  exact ⟨rfl,rfl⟩
section
variable {w : World} {A : Around} {D : SD} {hp h₀ : Heap} {gs : Array GenState} {dr : Drawn} {tk : Nat} {os : OsState} {L : Addr} {m : MP} {news : Led} {Q E : VP}
theorem law_hash_spec (o : Array UInt8) (n : Nat) (t1 t2 : Tok) (hn : n = 20 ∨ n = 32) (ho : o.size < 2 ^ 20)
   (hS : Site w A D h₀ L) (hR : Room A 1) (hF : Fr h₀ L hp m) (hN : News h₀ L hp news)
   (hret : ∀ (t : Tok) (h' : Heap) (tk' : Nat),Fr h₀ L h' m → News h₀ L h' news → Q (.bytes (hashB o n) t) ⟨h',gs,dr,tk',os⟩) :
      wpAny (model pw w) A (call (.ref 480) [.bytes o t1, .int (n : Int) t2]) Q E ⟨hp,gs,dr,tk,os⟩ :=by
  have hs1 :=hash_s1 ho
  have hs2 :=hash_s2 ho
  have hm1 :=hash_m1 ho
  have hm2 :=hash_m2 ho
  have hn0 :=hash_n hn
  have hne :=hash_p hn
  refine wpAny_call ?_
  k_dflt k_extra "enter"
  k_extra "steps"
  rw [hash_e,Int.toNat_natCast]
  have hr :=hash_range hn ((numN o : Int) * numN o)
  refine toB (B :=256 ^ n) (hash_k hn) rfl hr.1 hr.2 ?_
  intro t5 k5
  k_extra "steps"
  exact hQ1 _ _ _ _ ‹_› ‹_› fun F N=>hret t5 _ _ F (cb_drop N (by kcj_in))
theorem law_token_spec (p0 p1 : Array UInt8) (u0 u1 : Tok) (lp : Addr) (ne : Nat) (c : Int) (d n : Nat) (t1 t2 t3 : Tok) (hn : n = 20 ∨ n = 32) (hd6 : 6 ≤ d ∧ d ≤ 10) (hc : 0 ≤ c) (ho : p0.size < 2 ^ 10) (ho1 : p1.size < 2 ^ 10)
   (hP : (lp,(⟨.type "list",none, .seq #[.bytes p0 u0, .bytes p1 u1] ne, #[]⟩ : Obj)) ∈ news)
   (hS : Site w A D h₀ L) (hR : Room A 2) (hF : Fr h₀ L hp m) (hN : News h₀ L hp news)
   (hret : ∀ (t : Tok) (h' : Heap) (tk' : Nat),Fr h₀ L h' m → News h₀ L h' news → Q (.str (tokB p0 p1 c d n) t) ⟨h',gs,dr,tk',os⟩) :
      wpAny (model pw w) A (call (.ref 485) [.ref lp, .int c t1, .int (d : Int) t2, .int (n : Int) t3]) Q E ⟨hp,gs,dr,tk,os⟩ :=by
  refine wpAny_call ?_
  k_dflt k_extra "enter"
  have hf1 : LcFun (f8 c) :=trivial
  have hr1 : ∀ k ∈ k8, 0 ≤ f8 c k ∧ f8 c k < 256 :=fun k _=>f8_range c k
  have hz1 : p0.size + (byteArr (k8.map (f8 c))).size ≤ 16777216 :=by rw [show (byteArr (k8.map (f8 c))).size = 8 from oct8_size c];exact Om.n37 ‹_› (by kernel_rfl!)
  have ho1' : (p0 ++ byteArr (k8.map (f8 c))).size < 2 ^ 20 :=by rw [Array.size_append,show (byteArr (k8.map (f8 c))).size = 8 from oct8_size c];exact Om.n37 ‹_› (by kernel_rfl!)
  have hz2 : p1.size + (hashB (p0 ++ byteArr (k8.map (f8 c))) n).size ≤ 16777216 :=by rw [hashB_size];exact Om.n38 ‹_› ‹_› (by kernel_rfl!)
  have ho2' : (p1 ++ hashB (p0 ++ byteArr (k8.map (f8 c))) n).size < 2 ^ 20 :=by rw [Array.size_append,hashB_size];exact Om.n39 ‹_› ‹_› (by kernel_rfl!)
  obtain ⟨hi0,hi1,hi2,hi3,hi4⟩ :=places_in (codeB_size p0 p1 c n) hn
  obtain ⟨hm1,hm2,hm3⟩ :=nums_ok (codeB p0 p1 c n) (placeB (codeB p0 p1 c n) n)
  have hsh :=tok_shown (num4 (codeB p0 p1 c n) (placeB (codeB p0 p1 c n) n)) hd6.2
  have hd1 : d ≤ 10 :=hd6.2
  have hft :=tok_fits (num4 (codeB p0 p1 c n) (placeB (codeB p0 p1 c n) n)) hd6.2
  k_extra "steps"
  exact hQ1 _ _ _ _ ‹_› ‹_› fun F N=>hret _ _ _ F (cb_drop N (by kcj_in))
theorem pads_arith {ks bk : Nat} (hb : bk ≤ 64) (hk : ks ≤ 64) : ks + ((bk : Int) - (ks : Int)).toNat ≤ sizeLine :=by rw [sizeLine_eq];exact Om.p7 hb hk rfl
theorem law_pads_spec (ky : Array UInt8) (n bk : Nat) (t1 t2 t3 : Tok) (hbk : bk ≤ 64) (hks : ky.size ≤ bk)
   (hS : Site w A D h₀ L) (hR : Room A 2) (hF : Fr h₀ L hp m) (hN : News h₀ L hp news)
   (hret : ∀ (D : Addr) (ua ub : Tok) (ne : Nat) (h' : Heap) (tk' : Nat),Fr h₀ L h' m → News h₀ L h' ((D,(⟨.type "list",none, .seq #[Value.bytes (padB ky bk 54) ua,Value.bytes (padB ky bk 92) ub] ne, #[]⟩ : Obj)) :: news) → Q (.ref D) ⟨h',gs,dr,tk',os⟩) :
      wpAny (model pw w) A (call (.ref 490) [.bytes ky t1, .int (n : Int) t2, .int (bk : Int) t3]) Q E ⟨hp,gs,dr,tk,os⟩ :=by
  refine wpAny_call ?_
  k_dflt k_extra "enter"
  have hz1 : (KBw.bInts ky).length + ((bk : Int) - (ky.size : Int)).toNat ≤ sizeLine :=by rw [KBw.ints_length];exact pads_arith hbk (by exact Nat.le_trans ‹_› ‹_›)
  have hz2 : ((KBw.bInts ky).map (fun k=>k) ++ List.replicate ((bk : Int) - (ky.size : Int)).toNat 0).length ≤ sizeLine :=by rw [List.length_append,List.length_map,List.length_replicate];exact hz1
  have hc1 : decide ((ky.size : Int) > (bk : Int)) = false :=decide_eq_false (by exact Om.c9 ‹_›)
  have hc2 : decide ((bk : Int) < (ky.size : Int)) = false :=decide_eq_false (by exact Om.c9 ‹_›)
  have hr1 :=pad_range (Or.inl rfl : (54 : Int) = 54 ∨ (54 : Int) = 92) ky ((bk : Int) - (ky.size : Int)).toNat
  have hr2 :=pad_range (Or.inr rfl : (92 : Int) = 54 ∨ (92 : Int) = 92) ky ((bk : Int) - (ky.size : Int)).toNat
  k_extra "steps"
  exact hQ1 _ _ _ _ ‹_› ‹_› fun F N=>hret _ _ _ _ _ _ F (cb_drop N (by kcj_in))
theorem law_pads_long (ky : Array UInt8) (n bk : Nat) (t1 t2 t3 : Tok) (hn : n = 20 ∨ n = 32) (hbk : bk ≤ 64) (hnb : n ≤ bk) (hks : bk < ky.size) (hk2 : ky.size < 2 ^ 10)
   (hS : Site w A D h₀ L) (hR : Room A 2) (hF : Fr h₀ L hp m) (hN : News h₀ L hp news)
   (hret : ∀ (D : Addr) (ua ub : Tok) (ne : Nat) (h' : Heap) (tk' : Nat),Fr h₀ L h' m → News h₀ L h' ((D,(⟨.type "list",none, .seq #[Value.bytes (padB (hashB ky n) bk 54) ua,Value.bytes (padB (hashB ky n) bk 92) ub] ne, #[]⟩ : Obj)) :: news) → Q (.ref D) ⟨h',gs,dr,tk',os⟩) :
      wpAny (model pw w) A (call (.ref 490) [.bytes ky t1, .int (n : Int) t2, .int (bk : Int) t3]) Q E ⟨hp,gs,dr,tk,os⟩ :=by
  refine wpAny_call ?_
  k_dflt k_extra "enter"
  have hhs :=hashB_size ky n
  have hsz : (hashB ky n).size ≤ 64 :=by rw [hhs];exact Nat.le_trans hnb hbk
  have hk3 : ky.size < 2 ^ 20 :=Om.n1 ‹_› (by kernel_rfl!)
  have hc0 : decide ((ky.size : Int) > (bk : Int)) = true :=decide_eq_true (by omega)
  have hz1 : (KBw.bInts (hashB ky n)).length + ((bk : Int) - ((hashB ky n).size : Int)).toNat ≤ sizeLine :=by rw [KBw.ints_length];exact pads_arith hbk hsz
  have hz2 : ((KBw.bInts (hashB ky n)).map (fun k=>k) ++ List.replicate ((bk : Int) - ((hashB ky n).size : Int)).toNat 0).length ≤ sizeLine :=by rw [List.length_append,List.length_map,List.length_replicate];exact hz1
  have hr1 :=pad_range (Or.inl rfl : (54 : Int) = 54 ∨ (54 : Int) = 92) (hashB ky n) ((bk : Int) - ((hashB ky n).size : Int)).toNat
  have hr2 :=pad_range (Or.inr rfl : (92 : Int) = 54 ∨ (92 : Int) = 92) (hashB ky n) ((bk : Int) - ((hashB ky n).size : Int)).toNat
  k_extra "steps"
  exact hQ1 _ _ _ _ ‹_› ‹_› fun F N=>hret _ _ _ _ _ _ F (cb_drop N (by kcj_in))
theorem totp_newE (ky : Array UInt8) (lf tr : Addr) (n bk : Int) (d : Nat) (p : Int) (t1 t2 t3 t4 t5 t6 t7 : Tok) (nt : Nat) (hk : 0 < ky.size) (hk2 : ky.size ≤ 2 ^ 21) (hn : n = 20 ∨ n = 32) (hd6 : 6 ≤ (d : Int)) (hd10 : (d : Int) ≤ 10) (hp1 : 1 ≤ p)
   (hT : (tr,(⟨.type "tuple",none, .seq #[.ref lf, .int n t1, .int bk t2] nt, #[]⟩ : Obj)) ∈ news)
   (hS : Site w A D h₀ L) (hR : Room A 6) (hF : Fr h₀ L hp m) (hX : Frag.In (K w.params) h₀) (hN : News h₀ L hp news)
   (hret : ∀ (x dx : Addr) (u0 u1 u2 u3 u4 u5 u6 u7 : Tok) (h' : Heap) (tk' : Nat),Fr h₀ L h' m → News h₀ L h' ((x,instObj 360 dx) :: (dx,devObjE w.params u0 u1 u2 u3 u4 u5 u6 u7 tr ky t3 .none d t4 p t5 t6 t7) :: news) → (∀ q ∈ news,q.1 < dx) → dx < x → Q (.ref x) ⟨h',gs,dr,tk',os⟩) :
      wpAny (model pw w) A (call (.ref 360) [.bytes ky t3, .ref tr] [(ofString "digits", .int (d : Int) t4),(ofString "period", .int p t5),(ofString "label", .str (ofString "a b") t6),(ofString "issuer", .str (ofString "c") t7)]) Q E ⟨hp,gs,dr,tk,os⟩ :=by
  k_extra "go"
  dsimp only at F0 N0
  exact hret _ _ _ _ _ _ _ _ _ _ _ _ F0 N0 ‹_› ‹_›
theorem totp_new (ky : Array UInt8) (lf tr : Addr) (n bk : Int) (d : Nat) (p : Int) (t1 t2 t3 t4 t5 t6 t7 : Tok) (nt : Nat) (hk : 0 < ky.size) (hk2 : ky.size ≤ 2 ^ 21) (hn : n = 20 ∨ n = 32) (hd6 : 6 ≤ (d : Int)) (hd10 : (d : Int) ≤ 10) (hp1 : 1 ≤ p)
   (hT : (tr,(⟨.type "tuple",none, .seq #[.ref lf, .int n t1, .int bk t2] nt, #[]⟩ : Obj)) ∈ news)
   (hS : Site w A D h₀ L) (hR : Room A 6) (hF : Fr h₀ L hp m) (hX : Frag.In (K w.params) h₀) (hN : News h₀ L hp news)
   (hret : ∀ (x dx : Addr) (u : Nat → Tok) (h' : Heap) (tk' : Nat),Fr h₀ L h' m → News h₀ L h' ((x,instObj 360 dx) :: (dx,devObj w.params u tr ky .none d p) :: news) → (∀ q ∈ news,q.1 < dx) → dx < x → Q (.ref x) ⟨h',gs,dr,tk',os⟩) :
      wpAny (model pw w) A (call (.ref 360) [.bytes ky t3, .ref tr] [(ofString "digits", .int (d : Int) t4),(ofString "period", .int p t5),(ofString "label", .str (ofString "a b") t6),(ofString "issuer", .str (ofString "c") t7)]) Q E ⟨hp,gs,dr,tk,os⟩ :=
  totp_newE ky lf tr n bk d p t1 t2 t3 t4 t5 t6 t7 nt hk hk2 hn hd6 hd10 hp1 hT hS hR hF hX hN fun x dx u0 u1 u2 u3 u4 u5 u6 u7 h' tk' F N=>hret x dx (fun i=>[u0,u1,u2,u3,u4,u5,u6,u7,t3,t4,t5,t6,t7].getD i 0) h' tk' F N
end
section
open PySem.Calls
noncomputable def turned (o : Obj) : Bool :=match o.data with
  | .dict _ _=>true
  | .fields vs=>(match vs.toList with
    | []=>true
    | _ :: .int _ _ :: _=>true
    | _=>false)
  | _=>false
theorem turned_code {o : Obj} {vs : Array Value} {q : Str} {t : Tok} (hd : o.data = .fields vs) (hv : vs[1]? = some (.str q t)) : turned o = false :=by
  unfold turned
  rw [hd]
  obtain ⟨l⟩ :=vs
  match l with
  | []=>simp at hv
  | [_]=>simp at hv
  | _ :: x :: _ =>
    have e : x = .str q t :=by simpa using hv
    subst e
    rfl
noncomputable def Keep (news news' : Led) : Prop :=∀ p ∈ news,turned p.2 = false → p ∈ news'
theorem Keep.refl (l : Led) : Keep l l :=fun _ h _=>h
theorem Keep.trans {a b c : Led} (x : Keep a b) (y : Keep b c) : Keep a c :=fun p h hs=>y p (x p h hs) hs
theorem Keep.of_sub {a b : Led} (x : ∀ p ∈ a,p ∈ b) : Keep a b :=fun p h _=>x p h
theorem Keep.upd {P : Addr} {o o' : Obj} {news : Led} {h₀ h : Heap} {L : Addr} (N : News h₀ L h news) (hm : (P,o') ∈ news) (hs : turned o' = true) : Keep news (upd P o news) :=fun p hp h=>by
  refine mem_upd_ne (b :=p.1) (o' :=p.2) hp fun e=>?_
  have e1 :=(N _ hp).1
  have e2 :=(N _ hm).1
  rw [e,e2] at e1
  cases e1
  rw [hs] at h
  cases h
noncomputable def TabSt (news : Led) (P : Addr) (pos : Pos) (qual : Str) : Prop :=
  (P,tabObj #[]) ∈ news ∨ ∃ c' oc vs t,(P,tabObj #[rawInt pos.line,rawInt pos.col, .ref c']) ∈ news ∧ (c',oc) ∈ news ∧ oc.data = .fields vs ∧ vs[1]? = some (.str qual t)
section
variable {M : Model} {A : Around} {E : VP} {h h₀ : Heap} {g : Array GenState} {d : Drawn} {t : Nat} {os : OsState} {L a c P : Addr} {m mg mb : MP} {cn : Str} {cs : Scope} {ccd : Value} {cl : List (Str × Addr)} {news : Led}
  {p : Program} {loose : List Str} {mean : ExcName → Option Value} {name qual : Str} {params : Arguments} {body : List Stmt} {scope : Scope} {pos : Pos} {firstLine : Nat} {clos : List (Str × Addr)}
theorem bmain_of (T : Top p loose mean mg mb h₀) (F : Fr h₀ L h m) {o : Obj} (hP : h.get? P = some o) (ho : o.cls = .none) (ho2 : ∀ es n,o.data ≠ .dict es n) : mainGlobals ≠ P ∧ h.BuiltinsAt mg P :=by
  have hgs :=T.g.keeps F.keep
  obtain ⟨bm,ob,b1,b2,b3,b4,b5,b6⟩ :=T.bmain
  refine ⟨fun q=>?_,bm,ob,b1,b2,fun q=>?_,fun q=>?_,F.keep _ _ b3,b4,b5,b6⟩
  · obtain ⟨o,es,ep,e,hd,_⟩ :=hgs
    rw [q,hP] at e;cases e;exact ho2 _ _ hd
  · obtain ⟨o,es,ep,e,hd,_⟩ :=T.g
    rw [q,e] at b3;cases b3;rw [hd] at b6;cases b6
  · have e :=F.keep _ _ b3
    rw [q,hP] at e;cases e;rw [ho] at b4;cases b4
theorem nestU {Q : VP} (F : Fr h₀ L h m) (N : News h₀ L h news) (T : Top p loose mean mg mb h₀) (C : CodeHd h₀ c P) (hcd : ccd = .ref c) (hT : TabSt news P pos qual)
    (hcl : closureFor scope (envX cn cs L a ccd cl) = pure clos)
    (hq : ∀ f c' oc vs tt ctv doc pm h' t' news',Fr h₀ L h' m → News h₀ L h' news' → (∀ q ∈ news,q.1 ≠ P → q ∈ news') → (f,fnMade name qual params body scope clos doc pm c' ctv) ∈ news' → (c',oc) ∈ news' → oc.data = .fields vs → vs[1]? = some (.str qual tt) →
      (P,tabObj #[rawInt pos.line,rawInt pos.col, .ref c']) ∈ news' → (∀ q ∈ news,q.1 < f) → Q (.ref f) ⟨h',g,d,t',os⟩) :
    wpAny M A (makeFunction name qual params (.stmts body) scope (envX cn cs L a ccd cl) [] [] [] pos firstLine) Q E ⟨h,g,d,t,os⟩ :=by
  have hgs :=T.g.keeps F.keep
  have hLs : L < h.objs.size :=F.ns.lt
  have fresh : ∀ b,L < b → h₀.get? b = none :=fun b hb=>Heap.get?_none_of_le (Nat.le_trans F.above (Nat.le_of_lt hb))
  rcases hT with hm | ⟨c',oc,vs,tq,hm,hco,hd,hv⟩
  · have hm' :=N _ hm
    obtain ⟨hgP,hb⟩ :=bmain_of T F hm'.1 rfl (fun _ _ e=>by cases e)
    refine makeFunction_K (s :=⟨h,g,d,t,os⟩) (mg :=mg) (ps :=#[]) hcl rfl hgs hcd (C.keeps F.keep) hm'.1 trivial rfl hgP hb fun c' ctv doc h' tk hx hge hlt hrec htb=>?_
    obtain ⟨c₂,oc,vs,t2,e2,hoc,hd,hv⟩ :=hrec
    cases e2
    have hLc : L < c' :=Nat.lt_of_lt_of_le hLs hge
    have old : ∀ b o,h₀.get? b = some o → h'.get? b = some o :=fun b o e=>hx b o (fun q=>by rw [q,hm'.2.2] at e;cases e) (F.keep b o e)
    have hne : ∀ q : Addr × Obj,q ∈ news → q.1 ≠ P → (h'.push (fnMade name qual params body scope clos doc ((mg "__name__").getD .none) c' ctv)).get? q.1 = some q.2 :=fun q hq hn=>Heap.get?_push_of_some _ (hx _ _ hn (N q hq).1)
    refine hq h'.objs.size c' oc vs t2 ctv doc _ _ tk ((h'.objs.size,fnMade name qual params body scope clos doc ((mg "__name__").getD .none) c' ctv) :: (c',oc) :: upd P (tabObj #[rawInt pos.line,rawInt pos.col, .ref c']) news)
      ⟨(F.ns.extBut hx hm'.2.1.symm).push _,fun b o e=>Heap.get?_push_of_some _ (old b o e),F.above⟩ (fun q hq=>?_) (fun q hq hn=>.tail _ (.tail _ (mem_upd_ne hq hn))) (.head _) (.tail _ (.head _)) hd hv (.tail _ (.tail _ (mem_upd_self hm))) (fun q hq=>Nat.lt_of_lt_of_le (Heap.lt_size (N q hq).1) (Nat.le_of_lt (Nat.lt_of_le_of_lt hge hlt)))
    rcases List.mem_cons.mp hq with rfl | hq
    · exact ⟨Heap.get?_push_size _ rfl,Nat.ne_of_gt (Nat.lt_trans hLc hlt),fresh _ (Nat.lt_trans hLc hlt)⟩
    · rcases List.mem_cons.mp hq with rfl | hq
      · exact ⟨Heap.get?_push_of_some _ hoc,Nat.ne_of_gt hLc,fresh _ hLc⟩
      · obtain ⟨q',hq',e⟩ :=List.mem_map.mp hq
        by_cases hP : q'.1 = P
        · rw [if_pos hP] at e
          subst e
          exact ⟨Heap.get?_push_of_some _ htb,hm'.2⟩
        · rw [if_neg hP] at e
          subst e
          exact ⟨hne _ hq' hP,(N _ hq').2⟩
  · have hm' :=N _ hm
    obtain ⟨hgP,hb⟩ :=bmain_of T F hm'.1 rfl (fun _ _ e=>by cases e)
    refine makeFunction_hit (s :=⟨h,g,d,t,os⟩) (mg :=mg) (ps :=#[rawInt pos.line,rawInt pos.col, .ref c']) (cv :=.ref c') hcl rfl hgs hcd (C.keeps F.keep) hm'.1 trivial (by simp [codeAmong,rawInt]) hb fun ctv doc h' tk hk hsz=>?_
    have hLs' : L < h'.objs.size :=Nat.lt_of_lt_of_le hLs hsz
    refine hq h'.objs.size c' oc vs tq ctv doc _ _ tk ((h'.objs.size,fnMade name qual params body scope clos doc ((mg "__name__").getD .none) c' ctv) :: news)
      ⟨(F.ns.keeps hk).push _,fun b o e=>Heap.get?_push_of_some _ (hk b o (F.keep b o e)),F.above⟩ (fun q hq=>?_) (fun q hq _=>.tail _ hq) (.head _) (.tail _ hco) hd hv (.tail _ hm) (fun q hq=>Nat.lt_of_lt_of_le (Heap.lt_size (N q hq).1) hsz)
    rcases List.mem_cons.mp hq with rfl | hq
    · exact ⟨Heap.get?_push_size _ rfl,Nat.ne_of_gt hLs',fresh _ hLs'⟩
    · exact ⟨Heap.get?_push_of_some _ (hk _ _ (N q hq).1),(N q hq).2⟩
end
section
variable {prog : Program} {w : World} {A : Around} {E : VP} {h h₀ : Heap} {g : Array GenState} {d : Drawn} {t : Nat} {os : OsState} {L : Addr} {m : MP} {news : Led} {env : Env}
theorem unpM {elts : List PySem.Expr} {k : Nat} {pos : Pos} {tr : Addr} {items : Array Value} {Q : Unit → Shared → Prop} (F : Fr h₀ L h m) (N : News h₀ L h news) (hh : A.handled = none) (ht : IsTup h tr items) (hn : (assignEach elts env).length = items.size) (hstar : (assignEach elts env).findIdx? (·.1) = none)
    (hq : ∀ h',Fr h₀ L h' m → News h₀ L h' news → wpAny (model prog w) A (assignInOrder ((assignEach elts env).map (·.2)) items.toList) Q E ⟨h',g,d,t,os⟩) : wpAny (model prog w) A (assign (.Tuple elts k pos) env (.ref tr)) Q E ⟨h,g,d,t,os⟩ :=
  assign_Tuple_tuple (s :=⟨h,g,d,t,os⟩) hh ht hn hstar fun h' he=>hq h' (F.extBut he (Nat.le_refl _)) (fun p hp=>⟨he _ _ (Nat.ne_of_lt (Heap.lt_size (N p hp).1)) (N p hp).1,(N p hp).2⟩)
end
theorem TabSt.mono {a b : Led} {P : Addr} {pos : Pos} {q : Str} (k : ∀ p ∈ a,p ∈ b) (h : TabSt a P pos q) : TabSt b P pos q :=by
  rcases h with h | ⟨c',oc,vs,t,h1,h2,h3,h4⟩
  · exact .inl (k _ h)
  · exact .inr ⟨c',oc,vs,t,k _ h1,k _ h2,h3,h4⟩
theorem keep_of {h₀ h : Heap} {L P : Addr} {o : Obj} {news news' : Led} (N : News h₀ L h news) (hm : (P,o) ∈ news) (ho : turned o = true) (k : ∀ q ∈ news,q.1 ≠ P → q ∈ news') : Keep news news' :=fun p hp ht=>by
  refine k p hp fun e=>?_
  have e1 :=(N _ hp).1
  have e2 :=(N _ hm).1
  rw [e,e2] at e1
  cases e1
  rw [ho] at ht
  cases ht
theorem keepTab {h₀ h : Heap} {L P : Addr} {pos : Pos} {q : Str} {news news' : Led} (N : News h₀ L h news) (hT : TabSt news P pos q) (k : ∀ q ∈ news,q.1 ≠ P → q ∈ news') : Keep news news' :=by
  rcases hT with h | ⟨c',oc,vs,t,h1,_⟩
  · exact keep_of N h rfl k
  · exact keep_of N h1 rfl k
theorem TabSt.lt {P : Addr} {pos : Pos} {q : Str} {news : Led} {L' : Addr} (hT : TabSt news P pos q) (l : ∀ p ∈ news,p.1 < L') : @LT.lt Nat _ P L' :=by
  rcases hT with h | ⟨c',oc,vs,t,h1,_⟩
  · exact l _ h
  · exact l _ h1
theorem cell_turned {o : Obj} {v : Option Value} (h : o.data = .cell v) : turned o = false :=by unfold turned;rw [h]
noncomputable def hmS : Stmt :=(bodyS (tp 16)).getD 8 (.Pass ⟨0, 0, 0, 0⟩)
noncomputable def posOf : Stmt → Pos
  | .FunctionDef _ _ _ _ _ _ _ _ _ p=>p
  | _=>⟨0, 0, 0, 0⟩
noncomputable abbrev hmQ : Str :=ofString "compile_hmac.<locals>.hmac"
noncomputable abbrev hmFn (c1 c2 c3 : Addr) (doc pm : Value) (c' : Addr) (ctv : Value) : Obj :=fnMade (ofString "hmac") hmQ (fP hmS) (bodyS hmS) (fS hmS) [(ofString "outer_key",c3),(ofString "inner_key",c2),(ofString "const",c1)] doc pm c' ctv
inductive HmacIs (news : Led) (hf : Addr) (lf : Value) (p0 p1 : Array UInt8) : Prop
  | mk (c1 c2 c3 o1 o2 o3 doc pm c' ctv oc vs t u2 u3) (h1 : (hf,hmFn c1 c2 c3 doc pm c' ctv) ∈ news) (h2 : (c1,o1) ∈ news) (h3 : o1.data = .cell (some lf)) (h4 : (c2,o2) ∈ news) (h5 : o2.data = .cell (some (.bytes p0 u2))) (h6 : (c3,o3) ∈ news) (h7 : o3.data = .cell (some (.bytes p1 u3))) (h8 : (c',oc) ∈ news) (h9 : oc.data = .fields vs) (h10 : vs[1]? = some (.str hmQ t)) : HmacIs news hf lf p0 p1
theorem HmacIs.mono {a b : Led} {hf : Addr} {lf : Value} {p0 p1 : Array UInt8} (k : Keep a b) (h : HmacIs a hf lf p0 p1) : HmacIs b hf lf p0 p1 :=by
  obtain ⟨c1,c2,c3,o1,o2,o3,doc,pm,c',ctv,oc,vs,t,u2,u3,h1,h2,h3,h4,h5,h6,h7,h8,h9,h10⟩ :=h
  exact ⟨c1,c2,c3,o1,o2,o3,doc,pm,c',ctv,oc,vs,t,u2,u3,k _ h1 rfl,k _ h2 (cell_turned h3),h3,k _ h4 (cell_turned h5),h5,k _ h6 (cell_turned h7),h7,k _ h8 (turned_code h9 h10),h9,h10⟩
theorem News.pull {h₀ h : Heap} {L P : Addr} {o : Obj} {news : Led} (N : News h₀ L h news) (hm : (P,o) ∈ news) : News h₀ L h ((P,o) :: news.filter fun p=>decide (p.1 ≠ P)) :=fun p hp=>by
  rcases List.mem_cons.mp hp with rfl | hp
  · exact N _ hm
  · exact N _ (List.mem_filter.mp hp).1
theorem mem_pull {P : Addr} {news : Led} {q : Addr × Obj} (h : q ∈ news) (hn : q.1 ≠ P) : q ∈ news.filter fun p=>decide (p.1 ≠ P) :=List.mem_filter.mpr ⟨h,decide_eq_true hn⟩
theorem TabSt.ne {h₀ h : Heap} {L P b : Addr} {pos : Pos} {q : Str} {o : Obj} {news : Led} (hT : TabSt news P pos q) (N : News h₀ L h news) (hm : (b,o) ∈ news) (ho : ∀ vs,o.data = .fields vs → o.cls ≠ .none) : b ≠ P :=by
  rcases hT with h | ⟨c',oc,vs,t,h1,_⟩
  · exact News.ne N hm h fun e=>by subst e;exact ho _ rfl rfl
  · exact News.ne N hm h1 fun e=>by subst e;exact ho _ rfl rfl
section
variable {w : World} {prog : Program} {A : Around} {E : VP} {h h₀ : Heap} {g : Array GenState} {d : Drawn} {t : Nat} {os : OsState} {L : Addr} {m : MP} {news : Led}
theorem setDU {K : Frag} {x C dx : Addr} {es : List DictEntry} {n : Nat} {name : Str} {v : Value} {Q : Unit → Shared → Prop} (F : Fr h₀ L h m) (X : K.In h₀) (N : News h₀ L h news) (hx : (x,instObj C dx) ∈ news) (hdx : (dx,dictOf es n) ∈ news)
    (h1 : findIn K (.ref C) (ofString "__setattr__") = some (some (.builtin "object.__setattr__"))) (h2 : plainOver K C = true) (h3 : takerIn K C name = some none) (h4 : hasDictIn K C = true) (h5 : (getL name es).isSome = true)
    {es' : Tok → List DictEntry} {n' : Nat} (e1 : ∀ u,(putL name (PyData.keyHash w.params name) (.str name u) v es,putN name es n) = (es' u,n')) (e3 : ∀ u,(es' u).length ≤ 1000)
    (hq : ∀ u h' t' news',Fr h₀ L h' m → News h₀ L h' news' → (∀ q ∈ news,q.1 ≠ dx → q ∈ news') → (dx,dictOf (es' u) n') ∈ news' → Q () ⟨h',g,d,t',os⟩) :
    wpAny (model prog w) A (setAttr (.ref x) name v) Q E ⟨h,g,d,t,os⟩ :=by
  have hne : x ≠ dx :=News.ne N hx hdx (fun e=>by cases e)
  have N' :=News.pull N hdx
  refine setD F X N' (InstAt.of_news N' (.tail _ (mem_pull hx hne)) (.head _)) rfl h1 h2 h3 h4 h5 e1 (fun u=>Upd.head fun p hp=>of_decide_eq_true (List.mem_filter.mp hp).2) e3 fun u h' t' F1 N1=>hq u h' t' _ F1 N1 (fun q hq hn=>.tail _ (mem_pull hq hn)) (.head _)
end
noncomputable def lP : PySem.Expr → Arguments
  | .Lambda p _ _ _=>p
  | _=>default
noncomputable def lB : PySem.Expr → PySem.Expr
  | .Lambda _ b _ _=>b
  | e=>e
noncomputable def lS : PySem.Expr → Scope
  | .Lambda _ _ s _=>s
  | _=>default
noncomputable def lPos : PySem.Expr → Pos
  | .Lambda _ _ _ p=>p
  | _=>⟨0, 0, 0, 0⟩
noncomputable def lamOf : Stmt → PySem.Expr
  | .Assign _ (.Tuple (e :: _) _ _) _=>e
  | _=>.Constant .none 0 ⟨0, 0, 0, 0⟩
section
variable {w : World} {A : Around} {D : SD} {h h₀ : Heap} {gs : Array GenState} {dr : Drawn} {t : Nat} {os : OsState} {L : Addr} {m : MP} {news : Led} {k : Nat} {E Q : VP} {R : Result → Shared → Prop}
theorem enterL {name qual : Str} {params : Arguments} {body : PySem.Expr} {scope : Scope} {cl : List (Str × Addr)} {pm ctv : Value} {c' f : Addr} {args : Args} {binds : List (Str × Value)}
    (S : Site w A D h₀ L) (F : Fr h₀ L h m) (N : News h₀ L h news) (r : Room A (k + 1)) (ho : (f,kla_obj name qual params body scope cl pm c' ctv) ∈ news) (hcd : h.CodeRec (.ref c') qual)
    (hbind : bindArgs (kla_fn name qual params body scope cl pm (.ref c') ctv) args = pure binds) (hloc : ∀ y ∈ binds,scope.names.lookup y.1 = some .local)
    (hb : ∀ A1 D1 g L' h₁ tk Q1 E1,A1 = A.deeper (envX qual scope L' f (.ref c') cl) → D1 = ⟨A,D.base,envX qual scope L' f (.ref c') cl,D.env :: D.outer⟩ → (∃ mean mg mb,Top topProg lt mean mg mb g) → Site w A1 D1 g L' → Room A1 k → Frag.In (K w.params) g → Fr h₀ L g m → Fr g L' h₁ (fun y=>binds.reverse.lookup y) → News g L' h₁ news →
      (∀ v s' m' news',Fr g L' s'.heap m' → News g L' s'.heap news' → (Fr h₀ L s'.heap m → News h₀ L s'.heap news' → R (.ok (.ret v)) s') → Q1 v s') →
      (∀ e s',wpAny (model pw w) A1 (leaving (envX qual scope L' f (.ref c') cl) e) (fun _ s''=>R (.error e) s'') (fun e' s''=>R (.error e') s'') s' → E1 e s') →
      wpAny (model pw w) A1 (eval body (envX qual scope L' f (.ref c') cl)) Q1 E1 ⟨h₁,gs,dr,tk,os⟩)
    (hco : scope.isCoroutine = false) (hgen : scope.isGenerator = false) (hk : scope.kind = .function) (hcell : ∀ x ∈ scope.names,x.2 ≠ .cell) : codeAny (model pw w) A (.call (.ref f) args) R ⟨h,gs,dr,t,os⟩ :=by
  obtain ⟨mean,mg,mb,T⟩ :=S.T
  refine kla_code (s :=⟨h,gs,dr,t,os⟩) S.B F S.X N T S.fr S.ef S.ek ho hcd (by have :=r.d;exact Om.j18 ‹_›) hbind hloc (fun g L' h₁ FG F' N' B' X' T'=>?_) hco hgen hk hcell
  exact hb _ _ g L' h₁ _ _ _ rfl rfl ⟨mean,mg,mb,T'⟩ (S.push FG B' (fun b o e=>FG.keep b o e) rfl hk) r.push X' FG F' N' (fun v s' m' news' F1 N1 hq=>⟨L',m',news',F1,N1,fun a b=>hq a b⟩) fun e s' h=>h
end
noncomputable def lamE : PySem.Expr :=lamOf ((bodyS (tp 33)).getD 6 (.Pass ⟨0, 0, 0, 0⟩))
noncomputable abbrev lamQ : Str :=ofString "law.<locals>.<lambda>"
noncomputable abbrev lamFn (ce : Addr) (pm : Value) (c' : Addr) (ctv : Value) : Obj :=kla_obj (ofString "<lambda>") lamQ (lP lamE) (lB lamE) (lS lamE) [(ofString "size",ce)] pm c' ctv
inductive LamIs (news : Led) (lf : Addr) (n : Nat) : Prop
  | mk (ce oe pm c' ctv oc vs t u) (h1 : (lf,lamFn ce pm c' ctv) ∈ news) (h2 : (ce,oe) ∈ news) (h3 : oe.data = .cell (some (.int (n : Int) u))) (h4 : (c',oc) ∈ news) (h5 : oc.data = .fields vs) (h6 : vs[1]? = some (.str lamQ t)) : LamIs news lf n
theorem LamIs.mono {a b : Led} {lf : Addr} {n : Nat} (k : Keep a b) (h : LamIs a lf n) : LamIs b lf n :=by
  obtain ⟨ce,oe,pm,c',ctv,oc,vs,t,u,h1,h2,h3,h4,h5,h6⟩ :=h
  exact ⟨ce,oe,pm,c',ctv,oc,vs,t,u,k _ h1 rfl,k _ h2 (cell_turned h3),h3,k _ h4 (turned_code h5 h6),h5,h6⟩
noncomputable def FnIn (q : Addr) (news : Led) : Prop :=∃ oc od fd sl,(q,(⟨oc,od, .func fd,sl⟩ : Obj)) ∈ news
theorem FnIn.mono {q : Addr} {a b : Led} (k : Keep a b) (h : FnIn q a) : FnIn q b :=let ⟨oc,od,fd,sl,hm⟩ :=h;⟨oc,od,fd,sl,k _ hm rfl⟩
theorem FnIn.mono' {q : Addr} {a b : Led} (h : FnIn q a) (k : ∀ p ∈ a,p ∈ b) : FnIn q b :=h.mono (Keep.of_sub k)
theorem FnIn.at {h₀ h : Heap} {L q : Addr} {news : Led} (N : News h₀ L h news) (x : FnIn q news) : FnAt q h :=let ⟨_,_,_,_,hm⟩ :=x;FnAt.of N hm
theorem HmacIs.fn {news : Led} {hf : Addr} {lf : Value} {p0 p1 : Array UInt8} (h : HmacIs news hf lf p0 p1) : FnIn hf news :=by
  obtain ⟨_,_,_,_,_,_,_,_,_,_,_,_,_,_,_,h,_⟩ :=h
  exact ⟨_,_,_,_,h⟩
noncomputable def CallsC (w : World) (lf : Addr) (F : Array UInt8 → Array UInt8) (news : Led) : Prop :=
  ∀ (A : Around) (D : SD) (hp h₀ : Heap) (gs : Array GenState) (dr : Drawn) (tk : Nat) (os : OsState) (L : Addr) (m : MP) (Q E : VP) (nw : Led) (o : Array UInt8) (t1 : Tok),Site w A D h₀ L → Room A 2 → Fr h₀ L hp m → News h₀ L hp nw → (∀ p ∈ news,p ∈ nw) → o.size < 2 ^ 20 → (∀ (t : Tok) (h' : Heap) (tk' : Nat),Fr h₀ L h' m → News h₀ L h' nw → Q (.bytes (F o) t) ⟨h',gs,dr,tk',os⟩) → wpAny (model pw w) A (call (.ref lf) [.bytes o t1]) Q E ⟨hp,gs,dr,tk,os⟩
theorem CallsC.mono {w : World} {lf : Addr} {F : Array UInt8 → Array UInt8} {a b : Led} (k : ∀ p ∈ a,p ∈ b) (h : CallsC w lf F a) : CallsC w lf F b :=
  fun A D hp h₀ gs dr tk os L m Q E nw o t1 a b c d hk=>h A D hp h₀ gs dr tk os L m Q E nw o t1 a b c d fun p hp=>hk p (k p hp)
theorem noI_bytes_add : typeLookup (.type "bytes") (dunderI "add") = pure none :=by rw [typeLookup_type,builtinLookup_eq_fast];kernel_rfl
section
variable {prog : Program} {w : World} {A : Around} {E : VP} {h : Heap} {g : Array GenState} {d : Drawn} {t : Nat} {os : OsState} {Q : VP}
theorem iaddB {b c : Array UInt8} {u v : Tok} (hsz : b.size + c.size ≤ 16777216) (hq : ∀ u t',Q (.bytes (b ++ c) u) ⟨h,g,d,t',os⟩) : wpAny (model prog w) A (inplaceOp .Add (.bytes b u) (.bytes c v)) Q E ⟨h,g,d,t,os⟩ :=by
  refine iconcat_gives (typeIs_bytes _ b u) (typeIs_bytes _ c v) noI_bytes_add KBy.noFill_bytes_add KBy.seq_bytes_add FB.slot_bytes_add FB.entry_bytes_add (FB.args_bytes_add_2 _ _) (KBy.gives_bytes_add (KBy.tooLong_not hsz)) ?_
  by_cases hb : b.isEmpty = true
  · rw [if_pos hb]
    have e : b = #[] :=Array.isEmpty_iff.1 hb
    have h' :=hq v t
    rw [e,Array.empty_append] at h'
    exact h'
  · rw [if_neg hb]
    by_cases hc : c.isEmpty = true
    · rw [if_pos hc]
      have e : c = #[] :=Array.isEmpty_iff.1 hc
      have h' :=hq u t
      rw [e,Array.append_empty] at h'
      exact h'
    · rw [if_neg hc]
      exact ⟨by rw [Array.size_append,sizeLine_eq];exact hsz,hq _ _⟩
end
section
variable {prog : Program} {w : World} {A : Around} {E : VP} {s : Shared} {env : Env} {h₀ : Heap} {L : Addr} {m : MP}
theorem ListComp_tab {f : Int → Int} {x : Str} {px : Pos} {scope : Scope} {cl : List (Str × Addr)} {pos p1 p2 p3 : Pos} {tn : Str} {iter : PySem.Expr} {Q : VP} (_ : LcFun f)
    (F : Fr h₀ L s.heap m) (hclos : closureFor scope env = pure cl) (hcell : ∀ y ∈ scope.names,y.2 ≠ .cell) (hkind : scope.kind = .function)
    (hnames : ∀ y ∈ scope.names,y.2 = .local → scope.names.lookup y.1 = some .local) (hx : scope.names.lookup x = some .local)
    (h : wpAny (model prog w) A (eval iter env) (LcSrc prog w A h₀ L m env scope cl x [] (.Subscript (.Name tn p1) (.Name x p2) p3) (fun (k : Int) t=>.int k t) (fun _=>true) (fun k y=>∃ t,y = .int (f k) t) Q) E s)
    (hs : autoParam (∀ x,foldedSetIterable iter env x = pure x) ap._auto_2) :
    wpAny (model prog w) A (eval (.ListComp (.Subscript (.Name tn p1) (.Name x p2) p3) [⟨.Name x px,iter, [], 0⟩] scope pos) env) Q E s :=ListComp_KI (f :=f) trivial F hclos hcell hkind hnames hx h hs
end
noncomputable def xorT (x : Nat) : Array UInt8 :=((List.range 256).map fun k=>UInt8.ofNat (k ^^^ x)).toArray
theorem tab36 (P : Params) : nsIn (K P) mainGlobals (ofString "_TRANS_36") = some (some (.bytes (xorT 54) 2475)) :=by kernel_rfl
theorem tab5C (P : Params) : nsIn (K P) mainGlobals (ofString "_TRANS_5C") = some (some (.bytes (xorT 92) 1446)) :=by kernel_rfl
theorem xorT_size (x : Nat) : (xorT x).size = 256 :=by unfold xorT;rw [List.size_toArray,List.length_map,List.length_range]
theorem xorT_at {x : Nat} (hx : x = 54 ∨ x = 92) {k : Int} (h0 : 0 ≤ k) (h1 : k < 256) : byteAt (xorT x) k = Builtin.bitXor k (x : Int) :=by
  have h : ∀ k : Fin 256,byteAt (xorT x) ((k.val : Nat) : Int) = Builtin.bitXor ((k.val : Nat) : Int) (x : Int) :=by rcases hx with rfl | rfl <;> decide +kernel
  have h2 :=h ⟨k.toNat,by exact Om.t2 ‹_› ‹_›⟩
  rw [show ((k.toNat : Nat) : Int) = k by exact Om.t1 ‹_›] at h2
  exact h2
section
variable {prog : Program} {w : World} {A : Around} {env : Env} {h₀ : Heap} {L : Addr} {m mg mb : MP} {s₁ : Shared} {cl : List (Str × Addr)} {scope : Scope} {p1 p2 p3 : Pos} {kn tn : Str} {items : List Int} {p : Program} {loose : List Str} {mean : ExcName → Option Value} {u : Tok} {x : Nat}
theorem elt_trans (F : Fr h₀ L s₁.heap m) (T : Top p loose mean mg mb h₀) (X : Frag.In (K w.params) h₀) (hn : nsIn (K w.params) mainGlobals tn = some (some (.bytes (xorT x) u))) (hx : x = 54 ∨ x = 92) (hi : ∀ a ∈ items, 0 ≤ a ∧ a < 256)
    (hg : ∀ C,(compEnvC scope cl C env).globals = mainGlobals) (hk : ∀ C,(compEnvC scope cl C env).scope.kind = .function) (hl : ∀ C,(compEnvC scope cl C env).kindOf tn = some .globalImplicit) (hl2 : ∀ C,(compEnvC scope cl C env).kindOf kn = some .local)
    (hd : (tn == ("__debug__" : Str)) = false) (hd2 : (kn == ("__debug__" : Str)) = false)
    (hs : autoParam (∀ (i : Int) (ui : Tok),subscripted (.Name kn p2) false (.bytes (xorT x) u) (.int i ui) = operate [.bytes (xorT x) u, .int i ui] (getItem (.bytes (xorT x) u) (.int i ui))) ap._auto_5)
    (ht : autoParam (∀ r,letTemporaryGo (.Name tn p1) (.bytes (xorT x) u) r = pure ()) ap._auto_4) :
    EltI prog w A env scope cl kn (.Subscript (.Name tn p1) (.Name kn p2) p3) (fun k=>Builtin.bitXor k (x : Int)) items s₁ :=by
  intro C a t s₃ m₃ Q' E' ha hns hm keep hq
  have e :=hi a ha
  refine Subscript_ (Name_function_global (hk C) (hl C) (loadGlobal_global (mg :=mg) (v :=.bytes (xorT x) u) ?_ (mg_of X T.g hn) ?_) hd)
  · rw [hg C];exact (T.g.keeps F.keep).keeps keep
  · refine ldVarK hns hm ?_ (hk C) (hl2 C) hd2
    refine item_A ⟨by rw [xorT_size];decide,e.1,by rw [xorT_size];exact e.2⟩ (fun t k=>?_) (hs _ _) ht
    rw [xorT_at hx e.1 e.2]
    exact hq t k
end
end
section
variable {w : World} {A : Around} {D : SD} {hp h₀ : Heap} {gs : Array GenState} {dr : Drawn} {tk : Nat} {os : OsState} {L : Addr} {m : MP} {news : Led} {Q E : VP}
theorem compile_short (ky : Array UInt8) (lf : Value) (tr : Addr) (n bk : Nat) (t1 t2 t3 : Tok) (nt : Nat) (hn : 16 ≤ (bk : Int)) (hbk : bk ≤ 64) (hks : ky.size < bk)
   (hT : (tr,(⟨.type "tuple",none, .seq #[lf, .int (n : Int) t1, .int (bk : Int) t2] nt, #[]⟩ : Obj)) ∈ news)
   (hS : Site w A D h₀ L) (hR : Room A 3) (hF : Fr h₀ L hp m) (hN : News h₀ L hp news)
   (hTab : TabSt news 204 (posOf hmS) hmQ)
   (hret : ∀ (hf : Addr) (news' : Led) (h' : Heap) (tk' : Nat),Fr h₀ L h' m → News h₀ L h' news' → (∀ q ∈ news,q.1 ≠ 204 → q ∈ news') → HmacIs news' hf lf (padB ky bk 54) (padB ky bk 92) → TabSt news' 204 (posOf hmS) hmQ → Q (.ref hf) ⟨h',gs,dr,tk',os⟩) :
      wpAny (model pw w) A (call (.ref 207) [.ref tr, .bytes ky t3]) Q E ⟨hp,gs,dr,tk,os⟩ :=by
  refine wpAny_call ?_
  k_dflt k_extra "enter"
  have hz0 : ky.size + ((List.replicate ((bk : Int) - (ky.size : Int)).toNat [(0 : UInt8)]).flatten.toArray).size ≤ 16777216 :=by simp;exact Om.p9 ‹_› ‹_› rfl
  have hz1 : (ky ++ (List.replicate ((bk : Int) - (ky.size : Int)).toNat [(0 : UInt8)]).flatten.toArray).size = bk :=by simp;exact Nat.add_sub_cancel' (Nat.le_of_lt hks)
  have hr1 :=xor_bInts (Or.inl rfl : (54 : Int) = 54 ∨ (54 : Int) = 92) (ky ++ (List.replicate ((bk : Int) - (ky.size : Int)).toNat [(0 : UInt8)]).flatten.toArray)
  have hr2 :=xor_bInts (Or.inr rfl : (92 : Int) = 54 ∨ (92 : Int) = 92) (ky ++ (List.replicate ((bk : Int) - (ky.size : Int)).toNat [(0 : UInt8)]).flatten.toArray)
  have hz2 : (KBw.bInts (ky ++ (List.replicate ((bk : Int) - (ky.size : Int)).toNat [(0 : UInt8)]).flatten.toArray)).length ≤ sizeLine :=by rw [KBw.ints_length,hz1,sizeLine_eq];exact Om.n1 ‹_› (by kernel_rfl!)
  k_extra "go"
  k_dflt (refine' nestDef_K ?d0 ?k0 ?a0 ?_;(case d0=>exact rfl);(case k0=>exact rfl);(case a0=>exact rfl))
  k_dflt (refine' nestU ?F ?N ?T ?C ?cd ?t ?cl ?_;(case F=>k_asm);(case N=>k_asm);(case T=>k_asm);(case C=>exact codeHd_of_K (c :=206) (P :=204) X1 (by kernel_rfl));(case cd=>exact rfl);(case t=>exact TabSt.mono (fun p hp=>.tail _ (.tail _ (.tail _ hp))) hTab);(case cl=>exact rfl))
  intro f c' oc vs tt ctv doc pm h' t' news' F' N' K' m1 m2 m3 m4 m5 l5
  have h204 :=hTab.lt lN
  have kk : ∀ q ∈ news,q.1 ≠ 204 → q ∈ news' :=fun q hq hne=>K' q (.tail _ (.tail _ (.tail _ hq))) hne
  simp only [pad_eq] at *
  have hm : HmacIs news' f lf (padB ky bk 54) (padB ky bk 92) :=⟨_,_,_,_,_,_,_,_,_,_,_,_,_,_,_,m1,K' _ (.tail _ (.tail _ (.head _))) (neN (by exact Om.n19 ‹_›)), ‹_›,K' _ (.tail _ (.head _)) (neN (by exact Om.n20 ‹_›)), ‹_›,K' _ (.head _) (neN (by exact Om.n21 ‹_›)), ‹_›,m2,m3,m4⟩
  have ht : TabSt news' 204 (posOf hmS) hmQ :=.inr ⟨c',oc,vs,tt,m5,m2,m3,m4⟩
  clear m1 m2 m3 m4 m5 K'
  k_extra "go"
  exact hret f news' _ _ F0 N0 kk hm ht
theorem lam_call (lf : Addr) (n : Nat) (o : Array UInt8) (t1 : Tok) (hn : n = 20 ∨ n = 32) (ho : o.size < 2 ^ 20) (hL : LamIs news lf n)
   (hS : Site w A D h₀ L) (hR : Room A 2) (hF : Fr h₀ L hp m) (hN : News h₀ L hp news)
   (hret : ∀ (t : Tok) (h' : Heap) (tk' : Nat),Fr h₀ L h' m → News h₀ L h' news → Q (.bytes (hashB o n) t) ⟨h',gs,dr,tk',os⟩) :
      wpAny (model pw w) A (call (.ref lf) [.bytes o t1]) Q E ⟨hp,gs,dr,tk,os⟩ :=by
  obtain ⟨ce,oe,pm,c',ctv,oc,vs,t,u,h1,h2,h3,h4,h5,h6⟩ :=hL
  refine wpAny_call ?_
  refine enterL (binds :=[(ofString "octets", .bytes o t1)]) hS hF hN hR h1 (codeRec_news hN h4 h5 h6) (by kernel_rfl) (locs (by kernel_rfl)) ?_ (by kernel_rfl) (by kernel_rfl) (by kernel_rfl) (by decide +kernel)
  intro A1 D1 g L' h₁ tk1 Q1 E1 hA1 hD1 T1 S1 R1 X1 G1 F1 N1 hQ1 hE1
  (show wpAny _ _ (eval (PySem.Expr.Call _ _ _ _) _) _ _ _)
  clear hE1 hA1 hD1 G1
  obtain ⟨mean,mg,mb,T1⟩ :=T1
  k_extra "go"
  exact hret _ _ _ F0 N0
theorem lam_calls {lf : Addr} {n : Nat} {news : Led} (hn : n = 20 ∨ n = 32) (hL : LamIs news lf n) : CallsC w lf (fun o=>hashB o n) news :=
  fun A D hp h₀ gs dr tk os L m Q E nw o t1 hS hR hF hN hk ho hret=>lam_call lf n o t1 hn ho (hL.mono (Keep.of_sub hk)) hS hR hF hN hret
theorem lam_fn {lf : Addr} {n : Nat} {news : Led} (hL : LamIs news lf n) : FnIn lf news :=by
  obtain ⟨_,_,_,_,_,_,_,_,_,h,_⟩ :=hL
  exact ⟨_,_,_,_,h⟩
theorem hmac_call (hf lf : Addr) (H : Array UInt8 → Array UInt8) (p0 p1 o : Array UInt8) (t1 : Tok) (hI : HmacIs news hf (.ref lf) p0 p1) (hC : CallsC w lf H news) (hFn : FnIn lf news) (hp0 : p0.size ≤ 64) (hp1 : p1.size ≤ 64) (ho : o.size ≤ 64) (hH : ∀ x,(H x).size ≤ 64)
   (hS : Site w A D h₀ L) (hR : Room A 3) (hF : Fr h₀ L hp m) (hN : News h₀ L hp news)
   (hret : ∀ (t : Tok) (h' : Heap) (tk' : Nat),Fr h₀ L h' m → News h₀ L h' news → Q (.bytes (H (p1 ++ H (p0 ++ o))) t) ⟨h',gs,dr,tk',os⟩) :
      wpAny (model pw w) A (call (.ref hf) [.bytes o t1]) Q E ⟨hp,gs,dr,tk,os⟩ :=by
  obtain ⟨c1,c2,c3,o1,o2,o3,doc,pm,c',ctv,oc,vs,t,u2,u3,h1,h2,h3,h4,h5,h6,h7,h8,h9,h10⟩ :=hI
  have hz1 : p0.size + o.size ≤ 16777216 :=Om.n34 ‹_› ‹_› (by kernel_rfl!)
  have hz2 : (p0 ++ o).size < 2 ^ 20 :=by rw [Array.size_append];exact Om.n35 ‹_› ‹_› (by kernel_rfl!)
  have hz3 : p1.size + (H (p0 ++ o)).size ≤ 16777216 :=by have :=hH (p0 ++ o);exact Om.n34 ‹_› ‹_› (by kernel_rfl!)
  have hz4 : (p1 ++ H (p0 ++ o)).size < 2 ^ 20 :=by have :=hH (p0 ++ o);rw [Array.size_append];exact Om.n35 ‹_› ‹_› (by kernel_rfl!)
  refine wpAny_call ?_
  refine enterP (binds :=[(ofString "msg", .bytes o t1)]) hS hF hN hR (News.get hN h1) (codeRec_news hN h8 h9 h10) (BindsTo.of_eq (by kernel_rfl)) (locs (by kernel_rfl)) ?_ (by kernel_rfl) (by kernel_rfl) (by kernel_rfl) (by decide +kernel)
  k_extra "open"
  k_extra "go"
  exact hret _ _ _ F0 N0
theorem compile_full (ky : Array UInt8) (lf : Value) (tr : Addr) (n bk : Nat) (t1 t2 t3 : Tok) (nt : Nat) (hn : 16 ≤ (bk : Int)) (hbk : bk ≤ 64) (hks : ky.size = bk)
   (hT : (tr,(⟨.type "tuple",none, .seq #[lf, .int (n : Int) t1, .int (bk : Int) t2] nt, #[]⟩ : Obj)) ∈ news)
   (hS : Site w A D h₀ L) (hR : Room A 3) (hF : Fr h₀ L hp m) (hN : News h₀ L hp news)
   (hTab : TabSt news 204 (posOf hmS) hmQ)
   (hret : ∀ (hf : Addr) (news' : Led) (h' : Heap) (tk' : Nat),Fr h₀ L h' m → News h₀ L h' news' → (∀ q ∈ news,q.1 ≠ 204 → q ∈ news') → HmacIs news' hf lf (padB ky bk 54) (padB ky bk 92) → TabSt news' 204 (posOf hmS) hmQ → Q (.ref hf) ⟨h',gs,dr,tk',os⟩) :
      wpAny (model pw w) A (call (.ref 207) [.ref tr, .bytes ky t3]) Q E ⟨hp,gs,dr,tk,os⟩ :=by
  refine wpAny_call ?_
  k_dflt k_extra "enter"
  have hr1 :=xor_bInts (Or.inl rfl : (54 : Int) = 54 ∨ (54 : Int) = 92) ky
  have hr2 :=xor_bInts (Or.inr rfl : (92 : Int) = 54 ∨ (92 : Int) = 92) ky
  have hz2 : (KBw.bInts ky).length ≤ sizeLine :=by rw [KBw.ints_length,sizeLine_eq];exact Om.n3 ‹_› ‹_› (by kernel_rfl!)
  have he1 :=pad_full ky 54
  have he2 :=pad_full ky 92
  rw [hks] at he1 he2
  k_extra "go"
  k_dflt (refine' nestDef_K ?d0 ?k0 ?a0 ?_;(case d0=>exact rfl);(case k0=>exact rfl);(case a0=>exact rfl))
  k_dflt (refine' nestU ?F ?N ?T ?C ?cd ?t ?cl ?_;(case F=>k_asm);(case N=>k_asm);(case T=>k_asm);(case C=>exact codeHd_of_K (c :=206) (P :=204) X1 (by kernel_rfl));(case cd=>exact rfl);(case t=>exact TabSt.mono (fun p hp=>.tail _ (.tail _ (.tail _ hp))) hTab);(case cl=>exact rfl))
  intro f c' oc vs tt ctv doc pm h' t' news' F' N' K' m1 m2 m3 m4 m5 l5
  have h204 :=hTab.lt lN
  have kk : ∀ q ∈ news,q.1 ≠ 204 → q ∈ news' :=fun q hq hne=>K' q (.tail _ (.tail _ (.tail _ hq))) hne
  simp only [he1,he2] at *
  have hm : HmacIs news' f lf (padB ky bk 54) (padB ky bk 92) :=⟨_,_,_,_,_,_,_,_,_,_,_,_,_,_,_,m1,K' _ (.tail _ (.tail _ (.head _))) (neN (by exact Om.n19 ‹_›)), ‹_›,K' _ (.tail _ (.head _)) (neN (by exact Om.n20 ‹_›)), ‹_›,K' _ (.head _) (neN (by exact Om.n21 ‹_›)), ‹_›,m2,m3,m4⟩
  have ht : TabSt news' 204 (posOf hmS) hmQ :=.inr ⟨c',oc,vs,tt,m5,m2,m3,m4⟩
  clear m1 m2 m3 m4 m5 K'
  k_extra "go"
  exact hret f news' _ _ F0 N0 kk hm ht
theorem compile_long (ky : Array UInt8) (lf : Addr) (H : Array UInt8 → Array UInt8) (tr : Addr) (n bk : Nat) (t1 t2 t3 : Tok) (nt : Nat) (hn : 16 ≤ (bk : Int)) (hbk : bk ≤ 64) (hks : bk < ky.size) (hk2 : ky.size < 2 ^ 20) (hnb : n < bk) (hH : ∀ x,(H x).size = n) (hC : CallsC w lf H news) (hFn : FnIn lf news)
   (hT : (tr,(⟨.type "tuple",none, .seq #[.ref lf, .int (n : Int) t1, .int (bk : Int) t2] nt, #[]⟩ : Obj)) ∈ news)
   (hS : Site w A D h₀ L) (hR : Room A 3) (hF : Fr h₀ L hp m) (hN : News h₀ L hp news)
   (hTab : TabSt news 204 (posOf hmS) hmQ)
   (hret : ∀ (hf : Addr) (news' : Led) (h' : Heap) (tk' : Nat),Fr h₀ L h' m → News h₀ L h' news' → (∀ q ∈ news,q.1 ≠ 204 → q ∈ news') → HmacIs news' hf (.ref lf) (padB (H ky) bk 54) (padB (H ky) bk 92) → TabSt news' 204 (posOf hmS) hmQ → Q (.ref hf) ⟨h',gs,dr,tk',os⟩) :
      wpAny (model pw w) A (call (.ref 207) [.ref tr, .bytes ky t3]) Q E ⟨hp,gs,dr,tk,os⟩ :=by
  refine wpAny_call ?_
  k_dflt k_extra "enter"
  have hs :=hH ky
  have he1 :=pad_eq (H ky) bk 54
  have he2 :=pad_eq (H ky) bk 92
  rw [hs] at he1 he2
  have hz0 : (H ky).size + ((List.replicate ((bk : Int) - ((n : Nat) : Int)).toNat [(0 : UInt8)]).flatten.toArray).size ≤ 16777216 :=by simp;rw [hs];exact Om.p9 hnb hbk (by kernel_rfl!)
  have hz1 : (H ky ++ (List.replicate ((bk : Int) - ((n : Nat) : Int)).toNat [(0 : UInt8)]).flatten.toArray).size = bk :=by simp;rw [hs];exact Nat.add_sub_cancel' (Nat.le_of_lt hnb)
  have hr1 :=xor_bInts (Or.inl rfl : (54 : Int) = 54 ∨ (54 : Int) = 92) (H ky ++ (List.replicate ((bk : Int) - ((n : Nat) : Int)).toNat [(0 : UInt8)]).flatten.toArray)
  have hr2 :=xor_bInts (Or.inr rfl : (92 : Int) = 54 ∨ (92 : Int) = 92) (H ky ++ (List.replicate ((bk : Int) - ((n : Nat) : Int)).toNat [(0 : UInt8)]).flatten.toArray)
  have hz2 : (KBw.bInts (H ky ++ (List.replicate ((bk : Int) - ((n : Nat) : Int)).toNat [(0 : UInt8)]).flatten.toArray)).length ≤ sizeLine :=by rw [KBw.ints_length,hz1,sizeLine_eq];exact Om.n1 ‹_› (by kernel_rfl!)
  k_extra "go"
  k_dflt (refine' nestDef_K ?d0 ?k0 ?a0 ?_;(case d0=>exact rfl);(case k0=>exact rfl);(case a0=>exact rfl))
  k_dflt (refine' nestU ?F ?N ?T ?C ?cd ?t ?cl ?_;(case F=>k_asm);(case N=>k_asm);(case T=>k_asm);(case C=>exact codeHd_of_K (c :=206) (P :=204) X1 (by kernel_rfl));(case cd=>exact rfl);(case t=>exact TabSt.mono (fun p hp=>.tail _ (.tail _ (.tail _ hp))) hTab);(case cl=>exact rfl))
  intro f c' oc vs tt ctv doc pm h' t' news' F' N' K' m1 m2 m3 m4 m5 l5
  have h204 :=hTab.lt lN
  have kk : ∀ q ∈ news,q.1 ≠ 204 → q ∈ news' :=fun q hq hne=>K' q (.tail _ (.tail _ (.tail _ hq))) hne
  simp only [he1,he2] at *
  have hm : HmacIs news' f (.ref lf) (padB (H ky) bk 54) (padB (H ky) bk 92) :=⟨_,_,_,_,_,_,_,_,_,_,_,_,_,_,_,m1,K' _ (.tail _ (.tail _ (.head _))) (neN (by exact Om.n19 ‹_›)), ‹_›,K' _ (.tail _ (.head _)) (neN (by exact Om.n20 ‹_›)), ‹_›,K' _ (.head _) (neN (by exact Om.n21 ‹_›)), ‹_›,m2,m3,m4⟩
  have ht : TabSt news' 204 (posOf hmS) hmQ :=.inr ⟨c',oc,vs,tt,m5,m2,m3,m4⟩
  clear m1 m2 m3 m4 m5 K'
  k_extra "go"
  exact hret f news' _ _ F0 N0 kk hm ht
end
section
open PySem.Calls
noncomputable def Kept (h h' : Heap) : Prop :=∀ e o,h.get? e = some o → ∃ o',h'.get? e = some o' ∧ o'.dict = o.dict
theorem Kept.refl (h : Heap) : Kept h h :=fun _ o e=>⟨o,e,rfl⟩
theorem Kept.trans {a b c : Heap} (x : Kept a b) (y : Kept b c) : Kept a c :=fun e o h=>by
  obtain ⟨o1,h1,d1⟩ :=x e o h
  obtain ⟨o2,h2,d2⟩ :=y e o1 h1
  exact ⟨o2,h2,d2.trans d1⟩
theorem Kept.of_keeps {h h' : Heap} (k : ∀ b o,h.get? b = some o → h'.get? b = some o) : Kept h h' :=fun e o x=>⟨o,k e o x,rfl⟩
noncomputable def Soft {α : Type} (t : Sem α) : Prop :=∀ (M : Model) (Γ : Ctx) (Q : α → Pos → Shared → Prop) (E : Value → Pos → Shared → Prop) (p : Pos) (s : Shared) (s0 : Heap),Kept s0 s.heap → Sem.wp M Γ t Q E p s → Sem.wp M Γ t (fun a p' s'=>Q a p' s' ∧ Kept s0 s'.heap) E p s
theorem soft_pure {α : Type} (a : α) : Soft (pure a : Sem α) :=fun _ _ _ _ _ _ _ k h=>⟨h,k⟩
theorem soft_uns {α : Type} (m : String) : Soft (unsupported m : Sem α) :=fun _ _ _ _ _ _ _ _ h=>h
theorem soft_bind {α β : Type} {t : Sem α} {f : α → Sem β} (ht : Soft t) (hf : ∀ a,Soft (f a)) : Soft (t >>= f) :=fun M Γ Q E p s s0 k h =>
  (Sem.wp_bind' M Γ t f _ E p s).mpr (Sem.wp_mono M Γ t (fun a p' s' z=>hf a M Γ Q E p' s' s0 z.2 z.1) (fun _ _ _ z=>z) p s (ht M Γ _ E p s s0 k ((Sem.wp_bind' M Γ t f Q E p s).mp h)))
theorem soft_load (a : Addr) : Soft (load a) :=fun _ _ _ _ _ _ _ k ⟨o,ho,h⟩=>⟨o,ho,h,k⟩
theorem soft_stack : Soft stack :=fun _ _ _ _ _ _ _ k h=>⟨h,k⟩
theorem soft_alloc (o : Obj) : Soft (alloc o) :=fun _ _ _ _ _ _ _ k h=>⟨h,k.trans (Kept.of_keeps fun _ _ e=>Heap.get?_push_of_some _ e)⟩
theorem Kept.upd {h : Heap} {a : Addr} {o : Obj} {f : Obj → Obj} (ho : h.get? a = some o) (hd : (f o).dict = o.dict) (hfr : o.isFreed = false → (f o).isFreed = false) : Kept h (h.update a f) :=fun e o' he=>by
  by_cases q : a = e
  · subst q
    obtain rfl :=Option.some.inj (ho.symm.trans he)
    exact ⟨f o,Heap.get?_update_self f he (hfr (Heap.get?_some_iff.mp he).2),hd⟩
  · exact ⟨o',by rw [Heap.get?_update_other _ _ q];exact he,rfl⟩
theorem soft_ite {α : Type} {c : Prop} [Decidable c] {f g : Sem α} (hf : Soft f) (hg : Soft g) : Soft (if c then f else g) :=by
  by_cases q : c
  · rw [if_pos q];exact hf
  · rw [if_neg q];exact hg
theorem wpAny_soft {α : Type} {M : Model} {A : Around} {t : Sem α} {Q : α → Shared → Prop} {E : VP} {s : Shared} (hs : Soft t) (h : wpAny M A t Q E s) : wpAny M A t (fun a s'=>Q a s' ∧ Kept s.heap s'.heap) E s :=
  fun Γ p hΓ=>hs M Γ _ _ p s s.heap (Kept.refl _) (h Γ p hΓ)
theorem soft_fieldsOf (e : Value) : Soft (fieldsOf e) :=by
  cases e with
  | ref a =>
    refine soft_bind (soft_load _) fun o=>?_
    obtain ⟨c,d,dt,sl⟩ :=o
    cases dt with
    | fields vs=>exact soft_pure _
    | _=>exact soft_uns _
  | _=>exact soft_uns _
theorem soft_field (e : Value) (i : Nat) : Soft (field e i) :=soft_bind (soft_fieldsOf _) fun vs=>by
  generalize vs[i]? = q
  cases q with
  | none=>exact soft_uns _
  | some=>exact soft_pure _
theorem soft_behind (env : Env) (outer : List Env) : Soft (behindIsImport env outer) :=
  soft_ite (soft_pure _) (soft_ite (soft_pure _) (soft_bind (soft_field _ _) fun _=>soft_pure _))
theorem soft_kept (env : Env) (b : Bool) (l : List Env) : Soft (keptBack env b l) :=by
  cases l with
  | nil=>exact soft_ite (soft_pure _) (soft_bind (soft_bind soft_stack fun _=>soft_pure _) fun _=>soft_pure _)
  | cons=>exact soft_pure _
theorem soft_slots (f : Addr) (g : Obj → Array (Option Value)) : Soft (update f fun o=>{ o with slots :=g o }) :=fun _ _ _ _ _ s _ k ⟨ha,h⟩=>⟨ha,h,by
  obtain ⟨o,ho⟩ :=Option.isSome_iff_exists.mp ha
  exact k.trans (Kept.upd ho rfl fun h=>(kts_isFreed o _).trans h)⟩
theorem soft_ready (l : List Env) : Soft (readyFrames l) :=by
  induction l with
  | nil=>exact soft_pure _
  | cons env outer ih =>
    obtain ⟨a1,a2,a3,a4,a5,a6,a7,fr,a9⟩ :=env
    cases fr with
    | none=>exact soft_uns _
    | some f=>exact soft_bind (soft_load _) fun _=>soft_ite (soft_pure _) (soft_bind (soft_behind _ _) fun _=>soft_bind (soft_kept _ _ _) fun _=>soft_bind (soft_slots _ _) fun _=>ih)
theorem soft_setField (e : Value) (i : Nat) (v : Value) : Soft (setField e i v) :=by
  cases e with
  | ref a =>
    intro M Γ Q E p s s0 k h
    obtain ⟨o,ho,h⟩ :=h
    refine ⟨o,ho, ?_⟩
    obtain ⟨c,d,dt,sl⟩ :=o
    cases dt with
    | fields vs =>
      refine (?_ : Sem.wp M Γ (if i < vs.size then update a (Obj.mapFields (·.setIfInBounds i v)) else unsupported "internal:no-such-field") _ E p s)
      have h2 : Sem.wp M Γ (if i < vs.size then update a (Obj.mapFields (·.setIfInBounds i v)) else unsupported "internal:no-such-field") Q E p s :=h
      by_cases q : i < vs.size
      · rw [if_pos q] at h2 ⊢
        exact ⟨h2.1,h2.2,k.trans (Kept.upd ho rfl fun h=>h)⟩
      · rw [if_neg q] at h2 ⊢
        exact h2
    | _=>exact h
  | _=>exact soft_uns _
theorem soft_newFields (n : String) (l : List Value) : Soft (newFields n l) :=
  soft_ite (soft_uns _) (soft_bind (soft_alloc _) fun _=>soft_pure _)
theorem soft_place (f : Addr) (b : Bool) : Soft (entryPlaceOf f b) :=soft_bind soft_stack fun l=>by
  generalize List.find? _ l = q
  cases q with
  | none=>exact soft_pure _
  | some=>exact soft_pure _
theorem soft_frameOf (env : Env) : Soft (PySem.frameOf env) :=by
  refine soft_bind (soft_bind soft_stack fun _=>soft_pure _) fun l=>soft_bind ?_ fun q=>?_
  rotate_left
  · cases q with
    | none=>exact soft_uns _
    | some=>exact soft_pure _
  cases h : List.dropWhile (fun (x : Env)=>x.frame != env.frame) l with
  | nil=>exact soft_pure _
  | cons=>exact soft_bind (soft_ready _) fun _=>soft_pure _
theorem soft_setFlight (e : Value) (f : Option Addr) : Soft (setFlight e f) :=soft_bind (soft_field _ _) fun _=>soft_ite (soft_setField _ _ _) (soft_pure _)
theorem soft_noteFrame (e : Value) (env : Env) : Soft (noteFrame e env) :=by
  have h : ∀ (n : Value) (f : Addr) (b : Bool),Soft (do setField e 1 (← EntryCells.newEntry n (← PySem.frameOf env) .none (rawInt f) .none (← entryPlaceOf f b))) :=fun n f b =>
    soft_bind (soft_frameOf env) fun _=>soft_bind (soft_place _ _) fun _=>soft_bind (soft_newFields _ _) fun _=>soft_setField _ _ _
  unfold noteFrame
  generalize env.frame = q
  cases q with
  | none=>exact soft_uns _
  | some f=>exact soft_bind (soft_field _ _) fun _=>soft_ite (soft_bind (soft_field _ _) fun _=>soft_ite (soft_pure _) (soft_bind (soft_setField _ _ _) fun _=>h _ _ _)) (h _ _ _)
theorem soft_leaving (e : Value) (env : Env) : Soft (leaving env e) :=soft_bind (soft_noteFrame _ _) fun _=>soft_setFlight _ _
structure Fly (base G : Heap) (l : List Env) (e : Addr) (cls : Value) (od : Option Addr) (news : Led) (h : Heap) : Prop where
  sn : RaisedSN base G l e cls news h
  up : G.UpToSlots h
  dict : ∃ o,h.get? e = some o ∧ o.dict = od
section
variable {M : Model} {A A₀ : Around} {E : VP} {base g h : Heap} {gs : Array GenState} {dr : Drawn} {tk : Nat} {os : OsState} {outer : List Env} {env : Env} {L e : Addr} {m : MP} {news : Led} {Q : Unit → Shared → Prop}
theorem frames_push (B : Below A₀ base outer g) (F : Fr g L h m) (hf : env.frame = some L) (hk : env.scope.kind = .function) : h.FunFrames base (env :: outer) :=by
  obtain ⟨o,es,n,ho,hd,_⟩ :=F.ns
  refine ⟨by rw [hk];decide,⟨L,o,hf, ?_,ho,fun vs q=>by rw [hd] at q;cases q⟩,B.frames.of_keeps fun b o e _=>⟨o,F.keep b o e,rfl⟩⟩
  exact fresh_of_stays B.stays (kts_self F)
theorem mem_frames {b : Addr} (hf : env.frame = some L) (hm : b ∈ (env :: outer).filterMap (·.frame)) : b = L ∨ b ∈ outer.filterMap (·.frame) :=by
  obtain ⟨x,he,hb⟩ :=List.mem_filterMap.mp hm
  rcases List.mem_cons.mp he with rfl | he
  · rw [hf] at hb;exact .inl (Option.some.inj hb).symm
  · exact .inr (List.mem_filterMap.mpr ⟨x,he,hb⟩)
theorem fly_first {oe : Obj} {vs : Array Value} {a0 : Value} (hfr : A.frames = some (env :: outer)) (hf : env.frame = some L) (hk : env.scope.kind = .function) (B : Below A₀ base outer g) (F : Fr g L h m) (N : News g L h news)
    (hm : (e,oe) ∈ news) (hd : oe.data = .fields vs) (h0 : vs[0]? = some a0) (h1 : vs[1]? = some .none)
    (hQ : ∀ h',Fly base g outer e oe.cls oe.dict (news.filter fun p=>decide (p.1 ≠ e)) h' → Q () ⟨h',gs,dr,tk,os⟩) : wpAny M A (leaving env (.ref e)) Q E ⟨h,gs,dr,tk,os⟩ :=by
  have FF :=frames_push B F hf hk
  have he :=(N _ hm).1
  have nfe : e ∉ (env :: outer).filterMap (·.frame) :=fun q=>by
    obtain ⟨_,o,ho,hnf⟩ :=FF.mem q
    rw [he] at ho;cases ho;exact hnf vs hd
  let as :=e :: (env :: outer).filterMap (·.frame)
  have hin : ∀ x ∈ (env :: outer), ∀ b,x.frame = some b → b ∈ as :=fun x hx b hb=>.tail _ (List.mem_filterMap.mpr ⟨x,hx,hb⟩)
  have ge : g.get? e = none :=(N _ hm).2.2
  have st : base.StaysIn (hideAll h as) :=fun b o q=>hideAll_get _ (F.keep b o (B.stays b o q)) fun hm'=>by
    rcases List.mem_cons.mp hm' with rfl | hm'
    · rw [fresh_of_stays B.stays ge] at q;cases q
    · rw [(FF.mem hm').1] at q;cases q
  have sg : ∀ b o,g.get? b = some o → b ∉ outer.filterMap (·.frame) → (hideAll h as).get? b = some o :=fun b o q nm=>hideAll_get _ (F.keep b o q) fun hm'=>by
    rcases List.mem_cons.mp hm' with rfl | hm'
    · rw [ge] at q;cases q
    · rcases mem_frames hf hm' with z | z
      · rw [z,kts_self F] at q;cases q
      · exact nm z
  have hl : ∀ q ∈ news.filter (fun p=>decide (p.1 ≠ e)),(hideAll h as).get? q.1 = some q.2 ∧ g.get? q.1 = none ∧ base.get? q.1 = none :=fun q hq=>by
    obtain ⟨hq,hne⟩ :=List.mem_filter.mp hq
    refine ⟨hideAll_get _ (N q hq).1 fun hm'=>?_,(N q hq).2.2,fresh_of_stays B.stays (N q hq).2.2⟩
    rcases List.mem_cons.mp hm' with z | hm'
    · exact of_decide_eq_true hne z
    · rcases mem_frames hf hm' with z | z
      · exact (N q hq).2.1 z
      · obtain ⟨o,ho,_⟩ :=(B.frames.mem z).2
        rw [(N q hq).2.2] at ho;cases ho
  have hen : (hideAll h as).get? e = none :=hideAll_none _ (.head _)
  refine wpAny_mono (wpAny_soft (soft_leaving _ _) (wpAny_leaving_firstW (a0 :=a0) (s :=⟨h,gs,dr,tk,os⟩) (Q :=fun _ s'=>∃ h',s' = ⟨h',gs,dr,tk,os⟩ ∧ Heap.LeftW (hideAll h as) (env :: outer) e oe.cls a0 h h') hfr (funFrames_hide FF hin) hf he (fun b o q=>of_hideAll _ q) hen hd h1 h0 fun h' hL=>⟨h',rfl,hL⟩)) (fun _ s' hs=>?_) fun _ _ z=>z
  obtain ⟨⟨h',rfl,hL⟩,hk'⟩ :=hs
  obtain ⟨k1,⟨_,_,k2⟩,k3,k4⟩ :=hL
  exact hQ h' ⟨⟨_,a0,st,sg,hl,k1,hen,k2,k3⟩,(Heap.UpToSlots.of_keeps F.keep).trans k4,hk' e oe he⟩
theorem fly_on {G : Heap} {cls : Value} {od : Option Addr} (hfr : A.frames = some (env :: outer)) (hf : env.frame = some L) (F : Fr g L G m) (R : Fly base G (env :: outer) e cls od news h)
    (hQ : ∀ h',Fly base g outer e cls od news h' → Q () ⟨h',gs,dr,tk,os⟩) : wpAny M A (leaving env (.ref e)) Q E ⟨h,gs,dr,tk,os⟩ :=by
  obtain ⟨⟨B,a0,hB,hBG,hl,hfl⟩,hsm,oe,hoe,hod⟩ :=R
  refine wpAny_mono (wpAny_soft (soft_leaving _ _) (wpAny_leaves_onW (s :=⟨h,gs,dr,tk,os⟩) (Q :=fun _ s'=>∃ h',s' = ⟨h',gs,dr,tk,os⟩ ∧ Heap.FlyingW B outer e cls a0 h' ∧ h.UpToSlots h') hfr hf hfl fun h' x1 x2=>⟨h',rfl,x1,x2⟩)) (fun _ s' hs=>?_) fun _ _ z=>z
  obtain ⟨⟨h',rfl,x1,x2⟩,hk'⟩ :=hs
  obtain ⟨o',ho',hd'⟩ :=hk' e oe hoe
  refine hQ h' ⟨⟨B,a0,hB,fun b o q nm=>hBG b o (F.keep b o q) (fun hm=>?_),fun q hq=>⟨(hl q hq).1,kts_none F.keep (hl q hq).2.1,(hl q hq).2.2⟩,x1⟩,(Heap.UpToSlots.of_keeps F.keep).trans (hsm.trans x2),o',ho',hd'.trans hod⟩
  rcases mem_frames hf hm with z | z
  · rw [z,kts_self F] at q;cases q
  · exact nm z
theorem fly_look {G : Heap} {cls : Value} {od : Option Addr} {hs : List ExceptHandler} {Q : FP} (hfr : A.frames = some (env :: outer)) (hf : env.frame = some L) (R : Fly base G (env :: outer) e cls od news h)
    (k : ∀ h',Fly base G (env :: outer) e cls od news h' → wpAny M A (handleBy (.ref e) env hs) Q E ⟨h',gs,dr,tk,os⟩) :
    wpAny M A (noteFrame (.ref e) env) (fun _ s₂=>wpAny M A (setFlight (.ref e) none) (fun _ s₃=>wpAny M A (handleBy (.ref e) env hs) Q E s₃) E s₂) E ⟨h,gs,dr,tk,os⟩ :=by
  obtain ⟨⟨B,a0,hB,hBG,hl,hfl⟩,hsm,oe,hoe,hod⟩ :=R
  refine wpAny_mono (wpAny_soft (soft_noteFrame _ _) (wpAny_looks_onW (s :=⟨h,gs,dr,tk,os⟩) (Q :=fun _ s'=>∃ h',s' = ⟨h',gs,dr,tk,os⟩ ∧ Heap.HeldW B (env :: outer) e cls a0 L h' ∧ h.UpToSlots h') hfr hf hfl fun h' x1 x2=>⟨h',rfl,x1,x2⟩)) (fun _ s' hs=>?_) fun _ _ z=>z
  obtain ⟨⟨h',rfl,x1,x2⟩,hk'⟩ :=hs
  refine wpAny_mono (wpAny_soft (soft_setFlight _ _) (wpAny_landsW (s :=⟨h',gs,dr,tk,os⟩) (Q :=fun _ s'=>∃ h'',s' = ⟨h'',gs,dr,tk,os⟩ ∧ Heap.FlyingW B (env :: outer) e cls a0 h'' ∧ h'.UpToSlots h'') x1 fun h'' y1 y2=>⟨h'',rfl,y1,y2⟩)) (fun _ s' hs=>?_) fun _ _ z=>z
  obtain ⟨⟨h'',rfl,y1,y2⟩,hk''⟩ :=hs
  obtain ⟨o',ho',hd'⟩ :=hk' e oe hoe
  obtain ⟨o'',ho'',hd''⟩ :=hk'' e o' ho'
  exact k h'' ⟨⟨B,a0,hB,hBG,hl,y1⟩,hsm.trans (x2.trans y2),o'',ho'',hd''.trans (hd'.trans hod)⟩
end
end
section
open PySem.Calls
section
variable {w : World} {A₀ : Around} {E : VP} {base g G h : Heap} {gs : Array GenState} {dr : Drawn} {tk : Nat} {os : OsState} {outer : List Env} {L a e : Addr} {m mg mb : MP} {name n : Str} {scope : Scope} {cd cls : Value}
  {news : Led} {od : Option Addr} {tt : PySem.Expr} {b₀ : Stmt} {suite body : List Stmt} {pos : Pos} {rest : List ExceptHandler} {nm : Option Str} {Q : FP} {mean : ExcName → Option Value}
theorem Fly.keeps {l : List Env} {h' : Heap} (R : Fly base G l e cls od news h) (k : ∀ b o,h.get? b = some o → h'.get? b = some o) : Fly base G l e cls od news h' :=
  ⟨R.sn.keeps k,R.up.trans (Heap.UpToSlots.of_keeps k),let ⟨o,ho,hd⟩ :=R.dict;⟨o,k _ _ ho,hd⟩⟩
theorem fly_pass (R : Fly base G (envOf name scope L a cd :: outer) e cls od news h) (F : Fr g L G m) (B : Below A₀ base outer g) (XB : Frag.In (K w.params) base) (TB : Top topProg lt mean mg mb base)
    (T : KtsTest pw w (K w.params) topProg lt mg mb name scope L a cd cls tt false)
    (k : ∀ h',Fly base G (envOf name scope L a cd :: outer) e cls od news h' → wpAny (model pw w) (A₀.deeper (envOf name scope L a cd)) (handleBy (.ref e) (envOf name scope L a cd) rest) Q E ⟨h',gs,dr,tk,os⟩) :
    wpAny (model pw w) (A₀.deeper (envOf name scope L a cd)) (handleBy (.ref e) (envOf name scope L a cd) (.ExceptHandler (some tt) nm body pos :: rest)) Q E ⟨h,gs,dr,tk,os⟩ :=by
  k_extra "G"
  obtain ⟨B₁,a0,hB,hBG,hl,hfl⟩ :=R.sn
  k_unfold
  k_extra "G"
  obtain ⟨g₅,T₅,F₅,K₅⟩ :=kts_ground B F hBG hfl.1 R.up
  k_unfold
  exact wpAny_handleBy_cons (codeAny_handlers_test (T _ _ _ ⟨h,gs,dr,tk,os⟩ g₅ e m F₅ (XB.keeps K₅.stays) (topRead_of (TB.keeps K₅.stays)) R.sn.ty fun h' kp=>k h' (R.keeps kp))) (by intro q;cases q)
theorem fly_hit (R : Fly base G (envOf name scope L a cd :: outer) e cls od news h) (F : Fr g L G m) (B : Below A₀ base outer g) (XB : Frag.In (K w.params) base) (TB : Top topProg lt mean mg mb base)
    (T : KtsTest pw w (K w.params) topProg lt mg mb name scope L a cd cls tt true)
    (k : ∀ h' g',KtsTurn (outer.filterMap (·.frame)) g g' → Fr g' L h' m → News g' L h' news → Below A₀ base outer g' →
      wpAny (model pw w) ((A₀.deeper (envOf name scope L a cd)).mark (some (.ref e))) (execs (b₀ :: suite) (envOf name scope L a cd)) Q (fun _ _=>False) ⟨h',gs,dr,tk,os⟩) :
    wpAny (model pw w) (A₀.deeper (envOf name scope L a cd)) (handleBy (.ref e) (envOf name scope L a cd) (.ExceptHandler (some tt) none (b₀ :: suite) pos :: rest)) Q E ⟨h,gs,dr,tk,os⟩ :=by
  k_extra "G"
  obtain ⟨B₁,a1,_,hBG₁,_,hfl₁⟩ :=R.sn
  k_unfold
  k_extra "G"
  obtain ⟨g₅,T₅,F₅,K₅⟩ :=kts_ground B F hBG₁ hfl₁.1 R.up
  k_unfold
  refine wpAny_handleBy_cons (codeAny_handlers_test (T _ _ _ ⟨h,gs,dr,tk,os⟩ g₅ e m F₅ (XB.keeps K₅.stays) (topRead_of (TB.keeps K₅.stays)) R.sn.ty fun h₅ kp=>?_)) (by intro q;cases q)
  have R5 :=R.keeps kp
  k_extra "G"
  obtain ⟨B₂,a0,hB,hBG,hl,hheld⟩ :=R5.sn
  k_unfold
  have hL : B₂.get? L = none :=by
    k_extra "G"
    obtain ⟨_,⟨L',_,hf,hn',_⟩,_⟩ :=hheld.2.2.1
    k_unfold
    obtain rfl : L = L' :=Option.some.inj hf
    exact hn'
  refine codeAny_handlers_suite ?_
  refine lands_againW hheld fun h₆ hfl₆ hsm₆=>?_
  k_extra "G"
  obtain ⟨g₆,T₆,F₆,K₆⟩ :=kts_ground B F hBG hfl₆.1 (R5.up.trans hsm₆)
  k_unfold
  have Nl : News g₆ L h₆ news :=fun q hq=>⟨hfl₆.1 _ _ (hl q hq).1,(fun z=>by have :=(hl q hq).1;rw [z,hL] at this;cases this),T₆.none_ _ (kts_none F.keep (hl q hq).2.1)⟩
  exact wpAny_mono (k h₆ g₆ T₆ F₆ Nl K₆) (fun _ _ z=>z) fun _ _ z=>z.elim
theorem fly_hitB (R : Fly base G (envOf name scope L a cd :: outer) e cls od news h) (F : Fr g L G m) (B : Below A₀ base outer g) (XB : Frag.In (K w.params) base) (TB : Top topProg lt mean mg mb base)
    (T : KtsTest pw w (K w.params) topProg lt mg mb name scope L a cd cls tt true)
    (k : ∀ h' g' tk' oe ws,KtsTurn (outer.filterMap (·.frame)) g g' → Fr g' L h' (fun y=>if y = n then some (.ref e) else m y) → News g' L h' ((e,oe) :: news) → oe.cls = cls → oe.dict = od → oe.data = .fields ws → Below A₀ base outer g' →
      wpAny (model pw w) ((A₀.deeper (envOf name scope L a cd)).mark (some (.ref e))) (execs (b₀ :: suite) (envOf name scope L a cd))
        (fun f s₄=>wpAny (model pw w) (A₀.deeper (envOf name scope L a cd)) (do bindName (envOf name scope L a cd) n .none;unbindBehindTheSuite (envOf name scope L a cd) n pos) (fun _ s₅=>Q f s₅) E s₄) (fun _ _=>False) ⟨h',gs,dr,tk',os⟩)
    (hk : scope.kind = .function) (hlo : (envOf name scope L a cd).kindOf n = some .local) :
    wpAny (model pw w) (A₀.deeper (envOf name scope L a cd)) (handleBy (.ref e) (envOf name scope L a cd) (.ExceptHandler (some tt) (some n) (b₀ :: suite) pos :: rest)) Q E ⟨h,gs,dr,tk,os⟩ :=by
  k_extra "G"
  obtain ⟨B₁,a1,_,hBG₁,_,hfl₁⟩ :=R.sn
  k_unfold
  k_extra "G"
  obtain ⟨g₅,T₅,F₅,K₅⟩ :=kts_ground B F hBG₁ hfl₁.1 R.up
  k_unfold
  refine wpAny_handleBy_cons (codeAny_handlers_test (T _ _ _ ⟨h,gs,dr,tk,os⟩ g₅ e m F₅ (XB.keeps K₅.stays) (topRead_of (TB.keeps K₅.stays)) R.sn.ty fun h₅ kp=>?_)) (by intro q;cases q)
  have R5 :=R.keeps kp
  k_extra "G"
  obtain ⟨B₂,a0,hB,hBG,hl,hheld⟩ :=R5.sn
  k_unfold
  have hL : B₂.get? L = none :=by
    k_extra "G"
    obtain ⟨_,⟨L',_,hf,hn',_⟩,_⟩ :=hheld.2.2.1
    k_unfold
    obtain rfl : L = L' :=Option.some.inj hf
    exact hn'
  refine codeAny_handlers_suite_as ?_
  k_extra "G"
  obtain ⟨o5,ho5,hd5⟩ :=R5.dict
  k_unfold
  refine wpAny_mono (wpAny_soft (soft_setFlight _ _) (lands_againW (s :=⟨h₅,gs,dr,tk,os⟩) (Q :=fun _ s'=>∃ h',s' = ⟨h',gs,dr,tk,os⟩ ∧ Heap.FlyingW B₂ (envOf name scope L a cd :: outer) e cls a0 h' ∧ h₅.UpToSlots h') hheld fun h' x1 x2=>⟨h',rfl,x1,x2⟩)) (fun _ s' hs=>?_) fun _ _ z=>z
  obtain ⟨⟨h₆,rfl,hfl₆,hsm₆⟩,hk6⟩ :=hs
  k_extra "G"
  obtain ⟨g₆,T₆,F₆,K₆⟩ :=kts_ground B F hBG hfl₆.1 (R5.up.trans hsm₆)
  k_unfold
  k_extra "G"
  obtain ⟨oe,ws,hoe,hoec,hoed,hoe0⟩ :=hfl₆.first
  k_unfold
  k_extra "G"
  obtain ⟨o',ho',hd'⟩ :=hk6 e o5 ho5
  k_unfold
  rw [hoe] at ho'
  cases ho'
  have ne₆ : g₆.get? e = none :=T₆.none_ _ (kts_fresh F hBG hfl₆.2.1 fun o ho mm=>by
    k_extra "G"
    obtain ⟨_,o',ho',hd⟩ :=B.frames.mem mm
    k_unfold
    rw [ho] at ho'
    cases ho'
    k_extra "G"
    obtain ⟨sl,hs⟩ :=(R5.up.trans hsm₆) _ _ (F.keep _ _ ho) hd
    k_unfold
    rw [hoe] at hs
    cases hs
    exact hd _ hoed)
  have Nl : News g₆ L h₆ ((e,oe) :: news) :=fun q hq=>by
    rcases List.mem_cons.mp hq with rfl | hq
    · exact ⟨hoe,fun (z : e = L)=>(by obtain ⟨o,es,n',eo,hod,_⟩ :=F₆.ns;rw [← z,hoe] at eo;cases eo;rw [hoed] at hod;cases hod),ne₆⟩
    · exact ⟨hfl₆.1 _ _ (hl q hq).1,(fun z=>by have :=(hl q hq).1;rw [z,hL] at this;cases this),T₆.none_ _ (kts_none F.keep (hl q hq).2.1)⟩
  refine stN F₆ Nl (fun h₇ F₇ N₇=>?_) hk hlo
  exact wpAny_mono (k h₇ g₆ _ oe ws T₆ F₇ N₇ hoec (hd'.trans hd5) hoed K₆) (fun _ _ z=>z) fun _ _ z=>z.elim
end
end
section
open PySem.Calls
section
variable {prog : Program} {w : World} {A : Around} {E : VP} {s : Shared} {env : Env} {Q : FP}
structure ExcObj (K : Frag) (oe : Obj) (c : Value) : Prop where
  cls : oe.cls = c
  data : ∃ a0 r,oe.data = .fields #[a0, .none, .none, .none, .bool false,r]
  sub : ∀ (M : Model) (h : Heap),K.In h → Looks M h (isSubtype c (.type "BaseException")) true
  ty : ∀ (M : Model) (h : Heap),K.In h → Looks M h (typeOf c) (.type "type")
inductive MadeExc (K : Frag) (E : VP) (v : Value) (s₁ : Shared) : Prop
  | mk (e oe cls) (h1 : v = .ref e) (h2 : s₁.heap.get? e = some oe) (h3 : ExcObj K oe cls) (h4 : K.In s₁.heap) (h5 : E (.ref e) s₁) : MadeExc K E v s₁
theorem raise_made {x : PySem.Expr} {pos : Pos} {K : Frag} (hh : A.handled = none)
    (h : wpAny (model prog w) A (eval x env) (MadeExc K E) E s) :
    wpAny (model prog w) A (exec (.Raise (some x) none pos) env) Q E s :=by
  rw [arm_exec_Raise]
  refine wpAny_bind (wpAny_standAt ?_)
  unfold raiseStmt
  refine wpAny_bind (wpAny_mono (Q :=MadeExc K E) ?_ (fun v s₁ h₁=>?_) fun _ _ x=>x)
  · first
      | exact wpAny_bind (wpAny_mono h (fun v s₁ h₁=>wpAny_bind (wpAny_standAt (wpAny_pure h₁))) fun _ _ x=>x)
      | exact h
  obtain ⟨e,oe,cls,rfl,he,⟨hcls,⟨a0,r,hd⟩,hsub,hty⟩,X,hE⟩ :=h₁
  obtain ⟨hp,g,d,tk,os⟩ :=s₁
  have hs :=hsub (model prog w) hp X
  have ht :=hty (model prog w) hp X
  obtain ⟨oc,od,odt,osl⟩ :=oe
  dsimp only at hcls hd
  subst hcls hd
  repeat (first | with_reducible refine wpAny_loadPart_at he ?_ | ((try dsimp only);with_reducible refine Looks.at hs ?_) | ((try dsimp only);with_reducible refine Looks.at ht ?_) | wp_step)
  exact wpAny_raiseNew_none hh hE
end
def ExcK (D : SD) (h₀ : Heap) (L : Addr) (m : MP) (gs : Array GenState) (dr : Drawn) (os : OsState) (E : VP) (news : Led) (c : Value) : Prop :=∀ (G : Heap) (e : Addr) (h' : Heap) (tk' : Nat) (news' : Led),Fr h₀ L G m → Fly D.base G (D.env :: D.outer) e c none news' h' → (∀ q ∈ news,q ∈ news') → E (.ref e) ⟨h',gs,dr,tk',os⟩
end
section
open PySem.Calls
noncomputable abbrev excO (C : Addr) (t : Addr) : Obj :={ cls :=.ref C,data :=.fields #[.ref t, .none, .none, .none, .bool false, .none] }
noncomputable abbrev tupE (vs : List Value) : Obj :={ cls :=.type "tuple",data :=.seq vs.toArray }
section
variable {prog : Program} {w : World} {A : Around} {E : VP} {h : Heap} {g : Array GenState} {d : Drawn} {t : Nat} {os : OsState}
variable {nm q : Str} {C N fI : Addr} {bs bm : List Value} {hdct : Bool} {sn : List Str} {sub : List Value} {ab : Bool} {col : Option Bool} {dd : Option Addr} {k0 k1 k2 k3 k5 : Option Value}
structure BmOk (bm : List Value) : Prop where
  ve : bm.contains (.type "ValueError") = true
  noA : bm.contains (.type "AttributeError") = false
  noN : bm.contains (.type "NameError") = false
theorem check_newK (b : BmOk bm) {rest : List Value} {kw : List (Str × Value)} {M : Model} {Q : Unit → Shared → Prop} (hC : h.get? C = some (excClassObj nm q C N bs bm hdct sn sub ab col dd k0 k1 k2 k3 k5 "ValueError.__new__"))
    (hq : Q () ⟨h,g,d,t,os⟩) : wpAny M A (checkBuiltinCall "ValueError.__new__" ⟨.ref C :: rest,kw⟩) Q E ⟨h,g,d,t,os⟩ :=by
  have Fn :=PySem.F.excBase_ValueError
  have hcont : (Value.ref C :: bm).contains (.type "ValueError") = true :=by rw [List.contains_cons,b.ve,Bool.or_true]
  have hstar :=Fn.noStar
  simp only [checkBuiltinCall,Fn.newKind,Fn.newSplit,Fn.newRow]
  repeat (first | refine wpAny_loadPart_at hC ?_ | (refine wpAny_isSubtype_exc hC ?_;rw [hcont]) | refine wpAny_staticBase_exc hC ?_ | refine wpAny_madeBy_exc hC ?_ | dsimp only [bne_self_eq_false,Bool.false_eq_true,if_false] | wp_step)
  exact hq
theorem new_K (b : BmOk bm) {rest : List Value} {kw : List (Str × Value)} {R : Result → Shared → Prop} (hC : h.get? C = some (excClassObj nm q C N bs bm hdct sn sub ab col dd k0 k1 k2 k3 k5 "ValueError.__new__"))
    (hrest : rest.length ≤ sizeLine) (hq : R (.ok (.ret (.ref (h.objs.size + 1)))) ⟨(h.push (tupE rest)).push (excO C h.objs.size),g,d,t,os⟩) :
    codeAny (model prog w) A (.builtin "ValueError.__new__" ⟨.ref C :: rest,kw⟩) R ⟨h,g,d,t,os⟩ :=by
  have Fn :=PySem.F.excBase_ValueError
  have hends :=Fn.ends
  have hcB : (Value.ref C :: bm).contains (.type "ValueError") = true :=by rw [List.contains_cons,b.ve,Bool.or_true]
  have hcA : (Value.ref C :: bm).contains (.type "AttributeError") = false :=by rw [List.contains_cons,b.noA];rfl
  have hcN : (Value.ref C :: bm).contains (.type "NameError") = false :=by rw [List.contains_cons,b.noN];rfl
  refine codeAny_builtinAt Fn.entry ?_
  unfold Builtin.«BaseException.__new__»
  refine PySem.wpAt_bind ?_
  show PySem.wpAt _ _ _ (stack >>= _) _ _ _
  refine PySem.wpAt_bind (PySem.wpAt_stack fun p below=>PySem.wpAt_of_wpAny ?_)
  wp_walk
  refine PySem.wpAt_of_wpAny ?_
  rw [Fn.owner]
  repeat (first | with_reducible refine wpAny_madeHere_exc Fn.canon hC ?_ | with_reducible refine wpAny_loadPart_at hC ?_ | (with_reducible refine wpAny_isSubtype_exc hC ?_;first | rw [hcB] | rw [hcA] | rw [hcN]) | wp_step)
  show R _ _
  rw [Heap.size_push]
  exact hq
theorem typeCall_K (b : BmOk bm) (X : Frag.In (K w.params) h) {oI : Obj} {rest : List Value} {kw : List (Str × Value)} {Q : Fin → Shared → Prop} (hC : h.get? C = some (excClassObj nm q C N bs bm hdct sn sub ab col dd k0 k1 k2 k3 k5 "ValueError.__new__"))
    (hrest : rest.length ≤ sizeLine) (hi : findIn (K w.params) (.ref C) "__init__" = some (some (.ref fI))) (hfI : h.get? fI = some oI) (hfc : oI.cls = .type "function")
    (hq : wpAny (model prog w) A (call (.ref fI) (.ref (h.objs.size + 1) :: rest) kw) (fun r s'=>r = .none ∧ Q (.done (.ret (.ref (h.objs.size + 1)))) s') E ⟨(h.push (tupE rest)).push (excO C h.objs.size),g,d,t,os⟩) :
    wpAny (model prog w) A (Builtin.«type.__call__» ⟨.ref C :: rest,kw⟩) Q E ⟨h,g,d,t,os⟩ :=by
  have Fn :=PySem.F.excBase_ValueError
  repeat (first | with_reducible refine wpAny_loadPart_at hC ?_ | with_reducible refine wpAny_madeBy_exc hC ?_ | wp_step)
  refine codeAny_call_builtin_code (Code.quiet_builtin _ Fn.quiet) (check_newK b hC ?_)
  refine new_K b hC hrest ?_
  show wpAny _ _ _ _ _ _
  have up : ∀ z o,h.get? z = some o → ((h.push (tupE rest)).push (excO C h.objs.size)).get? z = some o :=fun z o e=>Heap.get?_push_of_some _ (Heap.get?_push_of_some _ e)
  have hC₁ :=up _ _ hC
  have hfI₁ :=up _ _ hfI
  have X₁ : Frag.In (K w.params) ((h.push (tupE rest)).push (excO C h.objs.size)) :=X.keeps up
  have hget : ((h.push (tupE rest)).push (excO C h.objs.size)).get? (h.objs.size + 1) = some (excO C h.objs.size) :=Heap.get?_push_at (by rw [Heap.size_push]) rfl
  have hcC : (Value.ref C :: bm).contains (.ref C) = true :=by simp
  unfold isInstance
  repeat (first | with_reducible refine wpAny_loadPart_at hget ?_ | (with_reducible refine wpAny_isSubtype_exc hC₁ ?_;rw [hcC]) | wp_step)
  show wpAny _ _ (typeLookup (.ref C) _) _ _ _
  refine (looks_findIn (M :=model prog w) X₁ hi).here (s :=⟨_,g,d,t,os⟩) ?_
  refine wpAny_holding (wpAny_bind ?_)
  unfold bindSpecial
  refine wpAny_bind (wpAny_typeOf (T :="function") ⟨_,hfI₁,hfc⟩ ?_)
  rw [if_pos (by decide)]
  refine wpAny_pure (wpAny_bind (wpAny_mono hq (fun r s' hr=>?_) fun _ _ x=>x))
  obtain ⟨rfl,hQ⟩ :=hr
  wp_walk
  exact hQ
theorem check_typeK {M : Model} {rest : List Value} {kw : List (Str × Value)} {Q : Unit → Shared → Prop} (hC : h.get? C = some (excClassObj nm q C N bs bm hdct sn sub ab col dd k0 k1 k2 k3 k5 "ValueError.__new__"))
    (hq : Q () ⟨h,g,d,t,os⟩) : wpAny M A (checkBuiltinCall "type.__call__" ⟨.ref C :: rest,kw⟩) Q E ⟨h,g,d,t,os⟩ :=by
  have f3 :=tc_sub
  have hT : (⟨h,g,d,t,os⟩ : Shared).TypeIs (.ref C) "type" :=⟨_,hC,rfl⟩
  simp only [checkBuiltinCall,tc_kind,tc_split]
  repeat (any_goals (first | assumption | with_reducible refine wpAny_loadPart_at hC ?_ | with_reducible refine wpAny_onRaise ?_ | with_reducible refine wpAny_map ?_ | wp_step))
theorem exc_call (b : BmOk bm) (X : Frag.In (K w.params) h) {oI : Obj} {rest : List Value} {kw : List (Str × Value)} {Q : VP} (hC : h.get? C = some (excClassObj nm q C N bs bm hdct sn sub ab col dd k0 k1 k2 k3 k5 "ValueError.__new__"))
    (hrest : rest.length ≤ sizeLine) (hi : findIn (K w.params) (.ref C) "__init__" = some (some (.ref fI))) (hfI : h.get? fI = some oI) (hfc : oI.cls = .type "function")
    (hq : wpAny (model prog w) (A.under (.builtin "type.__call__" ⟨.ref C :: rest,kw⟩)) (call (.ref fI) (.ref (h.objs.size + 1) :: rest) kw) (fun r s'=>r = .none ∧ Q (.ref (h.objs.size + 1)) s') E ⟨(h.push (tupE rest)).push (excO C h.objs.size),g,d,t,os⟩) :
    wpAny (model prog w) A (call (.ref C) rest kw) Q E ⟨h,g,d,t,os⟩ :=by
  have f1 :=tc_lookup
  have f2 :=tc_bind (.ref C)
  have f3 :=tc_sub
  have hT : (⟨h,g,d,t,os⟩ : Shared).TypeIs (.ref C) "type" :=⟨_,hC,rfl⟩
  refine wpAny_call (codeAny_of_tree ?_)
  show wpAny _ _ (callAny (.ref C) _) _ _ _
  repeat (any_goals (first | assumption | with_reducible refine wpAny_loadPart_at hC ?_ | wp_step))
  refine ⟨rfl, ?_⟩
  exact codeAny_call_builtin_at (Code.quiet_builtin _ (by decide +kernel)) entry_typeCall (check_typeK hC (typeCall_K b X hC hrest hi hfI hfc hq))
end
end
section
open PySem.Calls
section
variable {prog : Program} {w : World} {A : Around} {E : VP} {h : Heap} {g : Array GenState} {d : Drawn} {t : Nat} {os : OsState}
theorem slot_wd_get : Slot "wrapper_descriptor" "__get__" "wrapper_descriptor.__get__" :=.of (owner :="wrapper_descriptor") (n :="__get__") (by rw [typeLookup_type,builtinLookup_eq_fast];kernel_rfl) (by decide +kernel) (by decide +kernel) (by decide +kernel)
  (by first | exact .inl (by decide +kernel) | exact .inr (by decide +kernel)) (by rw [isSubtype_type];kernel_rfl)
theorem entry_wd_get : entryFor table "wrapper_descriptor.__get__" = some Builtin.«wrapper_descriptor.__get__» :=entryFor_of_tree (by kernel_rfl)
theorem args_wd_get (a b c : Value) : argsOk "wrapper_descriptor.__get__" ⟨[a,b,c], []⟩ :=by unfold argsOk;kernel_rfl
theorem kind_ve_init : builtinKind "ValueError.__init__" = some .slot :=by decide +kernel
theorem owner_ve_init : ".".intercalate ("ValueError.__init__".cutAt '.').dropLast = "ValueError" :=by decide +kernel
theorem type_ve_init : typeOf (.builtin "ValueError.__init__") = pure (.type "wrapper_descriptor") :=by kernel_rfl
noncomputable abbrev superO (D x C : Addr) : Obj :={ cls :=.type "super",dict :=none,data :=.fields #[.ref D, .ref x, .ref C],slots :=#[] }
theorem super_ga_builtin {so D x C : Addr} {l₀ l : List Value} {K : Frag} {name : Str} {tk : Tok} {Q : Fin → Shared → Prop}
    (hso : h.get? so = some (superO D x C)) (hno : Looks (model prog w) h (opaqueClassAbove (.ref C)) none)
    (hC : Looks (model prog w) h (mroOf (.ref C)) l₀) (hl : (l₀.dropWhile (· != .ref D)).drop 1 = l) (X : K.In h)
    (hf : alongIn K name l = some (some (.builtin "ValueError.__init__"))) (hxC : x ≠ C) (hn : (name == ("__class__" : Str)) = false)
    {ox : Obj} (hx : h.get? x = some ox) (hxc : ox.cls = .ref C) (hi : Looks (model prog w) h (isSubtype (.ref C) (.type "ValueError")) true)
    (hq : Q (.done (.ret (.ref h.objs.size))) ⟨h.push { cls :=.type "method-wrapper",data :=.fields #[.builtin "ValueError.__init__", .ref x] },g,d,t,os⟩) :
    wpAny (model prog w) A (Builtin.«super.__getattribute__» ⟨[.ref so, .str name tk], []⟩) Q E ⟨h,g,d,t,os⟩ :=by
  have hne : (Value.ref x == Value.ref C) = false :=by simp [hxC]
  have hdt : (superO D x C).data = .fields #[.ref D, .ref x, .ref C] :=rfl
  have f0 : (#[.ref D, .ref x, .ref C] : Array Value)[0]? = some (.ref D) :=rfl
  have f1 : (#[.ref D, .ref x, .ref C] : Array Value)[1]? = some (.ref x) :=rfl
  have f2 : (#[.ref D, .ref x, .ref C] : Array Value)[2]? = some (.ref C) :=rfl
  unfold Builtin.«super.__getattribute__»
  repeat (first
    | (with_reducible refine wpAny_field hso hdt f0 ?_) | (with_reducible refine wpAny_field hso hdt f1 ?_) | (with_reducible refine wpAny_field hso hdt f2 ?_)
    | (with_reducible refine ks_wpAny_notOpaque hno ?_)
    | (with_reducible refine Looks.at hC ?_;rw [hl])
    | (refine ks_forIn_along X (fun _ _=>rfl) rfl ?_ hf)
    | (dsimp only [hn,hne,Bool.or_false,Bool.false_eq_true,if_false])
    | wp_step
    | dsimp only)
  rw [kind_ve_init]
  have hlk :=slot_wd_get.lookup
  have hT : (⟨h,g,d,t,os⟩ : Shared).TypeIs (.builtin "ValueError.__init__") "wrapper_descriptor" :=type_ve_init
  repeat (first
    | (with_reducible refine wpAny_call_entry slot_wd_get hT entry_wd_get ?_ (args_wd_get _ _ _))
    | (with_reducible refine wpAny_loadPart_at hx ?_;rw [hxc])
    | (with_reducible refine Looks.at hi ?_)
    | (simp only [hn,hne,owner_ve_init,Bool.or_false,Bool.false_eq_true,if_false])
    | wp_step
    | dsimp only)
  refine ⟨_,rfl, ?_⟩
  repeat (first | wp_step | dsimp only)
  exact hq
theorem super_get {so D x C : Addr} {name : Str} {v : Value} {h' : Heap} {Q : VP} (hso : h.get? so = some (superO D x C))
    (hga : ∀ (A : Around) (Q : Fin → Shared → Prop) (E : VP) (t tk : Nat),Q (.done (.ret v)) ⟨h',g,d,t,os⟩ → wpAny (model prog w) A (Builtin.«super.__getattribute__» ⟨[.ref so, .str name tk], []⟩) Q E ⟨h,g,d,t,os⟩)
    (hq : wpAny (model prog w) A (handedOut v) Q E ⟨h',g,d,t + 1,os⟩) : wpAny (model prog w) A (getAttr (.ref so) name true) Q E ⟨h,g,d,t,os⟩ :=by
  have hlk :=F.ks_slot_super_ga.lookup
  have hcan :=F.ks_canon_super_ga
  have hT : ∀ t',(⟨h,g,d,t',os⟩ : Shared).TypeIs (.ref so) "super" :=fun _=>⟨_,hso,rfl⟩
  delta getAttr getAttrBy
  refine wpAny_bind (wpAny_mkText (wpAny_holding (wpAny_bind (wpAny_typeOf (hT _) (wpAny_bind (wpAny_of_eq hlk ?_))))))
  show wpAny _ _ (getAttrByItsOwn (.ref so) (.str name t) (.type "super") (.builtin "super.__getattribute__") true true) _ _ _
  delta getAttrByItsOwn hookBefore callGetattribute boundAndCalled
  refine wpAny_bind (wpAny_of_eq (show (if onTheHeap (.type "super") then typeLookup (.type "super") "__getattr__" else pure none) = pure none from rfl) ?_)
  refine wpAny_bind (wpAny_attempt (wpAny_holding ?_))
  show wpAny _ _ (bindSpecial (.builtin "super.__getattribute__") (.ref so) >>= _) _ _ _
  refine wpAny_bind (wpAny_of_eq (F.ks_slot_super_ga.bind _) ?_)
  refine wpAny_mono (Q :=fun v' s'=>v' = v ∧ s' = ⟨h',g,d,t + 1,os⟩) (E :=fun _ _=>False)
    (wpAny_call_entry F.ks_slot_super_ga (hT _) F.ks_entry_super_ga (hga _ _ _ _ _ ⟨_,rfl,rfl,rfl⟩) (F.ks_gaArgs_super _ _)) (fun v' s' hv=>?_) fun _ _ z=>z.elim
  obtain ⟨rfl,rfl⟩ :=hv
  exact hq
end
end
section
open PySem.Calls
section
variable {prog : Program} {w : World} {M : Model} {A : Around} {E : VP} {h : Heap} {g : Array GenState} {d : Drawn} {t : Nat} {os : OsState}
noncomputable abbrev dictE : Obj :={ cls :=.type "dict",data :=.dict #[] }
theorem merge_empty {dd kd : Addr} {od : Obj} {ep ep2 : Nat} {okd : Obj} {Q : Unit → Shared → Prop} (hk : h.get? kd = some okd) (hkc : okd.cls = .type "dict") (hkd : okd.data = .dict #[] ep) (hd : h.get? dd = some od) (hdd : od.data = .dict #[] ep2) (hne : (kd == sysModules) = false)
    (hq : Q () ⟨h,g,d,t,os⟩) : wpAny (model prog w) A (mergeMapping dd (.ref kd) true) Q E ⟨h,g,d,t,os⟩ :=by
  have hT : (⟨h,g,d,t,os⟩ : Shared).TypeIs (.ref kd) "dict" :=⟨_,hk,hkc⟩
  have hsub : isSubtype (.type "dict") (.type "dict") = pure true :=by rw [isSubtype_type];kernel_rfl
  have hlk :=PySem.F.slot_dict_iter.lookup
  delta mergeMapping isInstance
  repeat (first
    | (with_reducible refine wpAny_typeOf hT ?_)
    | (with_reducible refine wpAny_of_eq hsub ?_)
    | (with_reducible refine wpAny_specialOf hT hlk ?_)
    | (with_reducible refine wpAny_dictEntries hk hkd ?_)
    | (with_reducible refine wpAny_dictEntries hd hdd ?_)
    | (with_reducible refine wpAny_dictEpoch hk hkd ?_)
    | wp_step
    | dsimp only
    | (simp only [hne,beq_self_eq_true,Bool.false_eq_true,if_false,if_true,Array.isEmpty_empty,Array.size_empty,List.range_zero,List.forIn_nil]))
  exact hq
end
section
variable {prog : Program} {w : World} {A : Around} {E : VP} {h h₀ : Heap} {g : Array GenState} {d : Drawn} {t : Nat} {os : OsState} {L : Addr} {m : MP} {news : Led}
noncomputable def Gives1 (prog : Program) (w : World) (A : Around) (h₀ : Heap) (L : Addr) (m : MP) (g : Array GenState) (d : Drawn) (os : OsState) (X : Sem Value) (v : Value) : Prop :=
  ∀ (h : Heap) (t : Nat) (Q E : VP),Fr h₀ L h m → Q v ⟨h,g,d,t,os⟩ → wpAny (model prog w) A X Q E ⟨h,g,d,t,os⟩
theorem Gives1.at {X : Sem Value} {v : Value} {Q : VP} (hX : Gives1 prog w A h₀ L m g d os X v) (F : Fr h₀ L h m) (hq : Q v ⟨h,g,d,t,os⟩) : wpAny (model prog w) A X Q E ⟨h,g,d,t,os⟩ :=hX h t Q E F hq
theorem ifP {α : Type} {M : Model} {A : Around} {E : VP} {s : Shared} {c : Prop} [Decidable c] {a b : Sem α} {Q : α → Shared → Prop} (hc : c) (h : wpAny M A a Q E s) : wpAny M A (if c then a else b) Q E s :=by rw [if_pos hc];exact h
theorem ifN {α : Type} {M : Model} {A : Around} {E : VP} {s : Shared} {c : Prop} [Decidable c] {a b : Sem α} {Q : α → Shared → Prop} (hc : ¬ c) (h : wpAny M A b Q E s) : wpAny M A (if c then a else b) Q E s :=by rw [if_neg hc];exact h
theorem merged_K {X : Sem Value} {f : Value} {kd : Addr} {okd : Obj} {ep : Nat} {Q : Addr → Shared → Prop} (F : Fr h₀ L h m) (N : News h₀ L h news) (hX : Gives1 prog w A h₀ L m g d os X (.ref kd)) (hm : (kd,okd) ∈ news) (hkc : okd.cls = .type "dict") (hkd : okd.data = .dict #[] ep) (hne : (kd == sysModules) = false)
    (hq : ∀ dd h',Fr h₀ L h' m → News h₀ L h' ((dd,dictE) :: news) → Q dd ⟨h',g,d,t,os⟩) : wpAny (model prog w) A (mergedKeywords f [(none,X)]) Q E ⟨h,g,d,t,os⟩ :=by
  have F' :=F.push dictE
  have N' :=News.push F N dictE rfl
  have hk :=(N' _ (.tail _ hm)).1
  have hd :=(N' _ (.head _)).1
  have hdd : dictE.data = .dict #[] 0 :=rfl
  unfold mergedKeywords
  refine wpAny_bind (wpAny_alloc ?_)
  refine wpAny_bind (wpAny_holding ?_)
  dsimp only
  rw [List.forIn_cons]
  refine wpAny_bind (wpAny_bind (wpAny_bind (ifP rfl (wpAny_pure (wpAny_bind (hX.at F' ?_))))))
  refine wpAny_bind (wpAny_onRaise (wpAny_holding (wpAny_tryCatch (wpAny_onRaise (merge_empty hk hkc hkd hd hdd hne ?_)))))
  refine wpAny_pure ?_
  dsimp only
  rw [List.forIn_nil]
  refine wpAny_pure ?_
  refine ifP rfl (wpAny_pure ?_)
  exact wpAny_pure (hq _ _ F' N')
theorem kwIn_K {f : Value} {dd : Addr} {Q : List (Str × Value) → Shared → Prop} (N : News h₀ L h news) (hm : (dd,dictE) ∈ news) (hq : Q [] ⟨h,g,d,t,os⟩) : wpAny (model prog w) A (keywordsIn f dd) Q E ⟨h,g,d,t,os⟩ :=by
  have hd :=(N _ hm).1
  have hdd : dictE.data = .dict #[] 0 :=rfl
  unfold keywordsIn
  repeat (first
    | (with_reducible refine wpAny_dictEntries hd hdd ?_)
    | wp_step
    | dsimp only)
  exact hq
theorem args_T {f : Value} {X1 X2 X3 : Sem Value} {pos : Pos} {v1 : Value} {at_ kd : Addr} {oa okd : Obj} {n ep : Nat} {Q : Args → Shared → Prop} (F : Fr h₀ L h m) (N : News h₀ L h news)
    (h1 : Gives1 prog w A h₀ L m g d os X1 v1) (h2 : Gives1 prog w A h₀ L m g d os X2 (.ref at_)) (h3 : Gives1 prog w A h₀ L m g d os X3 (.ref kd))
    (ha : (at_,oa) ∈ news) (hac : oa.cls = .type "tuple") (had : oa.data = .seq #[] n) (hm : (kd,okd) ∈ news) (hkc : okd.cls = .type "dict") (hkd : okd.data = .dict #[] ep) (hne : (kd == sysModules) = false)
    (hq : ∀ h' news',Fr h₀ L h' m → News h₀ L h' news' → (∀ q ∈ news,q ∈ news') → Q ⟨[v1], []⟩ ⟨h',g,d,t,os⟩) :
    wpAny (model prog w) A (evalArgs f true [(false,X1),(true,(do let v ← X2;standAt pos;pure v))] [(none,X3)]) Q E ⟨h,g,d,t,os⟩ :=by
  have hsp : wpAny (model prog w) A (spliced [(false,X1),(true,(do let v ← X2;standAt pos;pure v))]) (fun vs s'=>vs = [v1] ∧ ∃ h',s' = ⟨h',g,d,t,os⟩ ∧ Fr h₀ L h' m ∧ News h₀ L h' news) E ⟨h,g,d,t,os⟩ :=by
    rw [spliced]
    refine wpAny_bind (h1.at F ?_)
    refine wpAny_bind (wpAny_pure (wpAny_bind (wpAny_holding ?_)))
    refine ks_spliced (h2.at F ?_)
    refine star_seq F N ha hac had (.inr rfl) rfl (by decide) fun h' F' N'=>?_
    exact wpAny_pure (wpAny_pure ⟨rfl,h',rfl,F',N'⟩)
  unfold evalArgs
  refine wpAny_bind (wpAny_mono hsp (fun vs s' hs=>?_) fun _ _ z=>z)
  obtain ⟨rfl,h',rfl,F',N'⟩ :=hs
  refine wpAny_bind (wpAny_pure (wpAny_holding ?_))
  refine ifN Bool.false_ne_true ?_
  refine wpAny_bind (merged_K F' N' h3 hm hkc hkd hne fun dd h'' F'' N''=>?_)
  refine wpAny_bind (wpAny_pure ?_)
  refine wpAny_bind (wpAny_holding (kwIn_K N'' (.head _) ?_))
  exact wpAny_pure (hq _ _ F'' N'' fun q hq=>.tail _ hq)
theorem args_U {f : Value} {X2 X3 : Sem Value} {pos : Pos} {at_ kd : Addr} {oa okd : Obj} {n ep : Nat} {Q : Args → Shared → Prop} (F : Fr h₀ L h m) (N : News h₀ L h news)
    (h2 : Gives1 prog w A h₀ L m g d os X2 (.ref at_)) (h3 : Gives1 prog w A h₀ L m g d os X3 (.ref kd))
    (ha : (at_,oa) ∈ news) (hac : oa.cls = .type "tuple") (had : oa.data = .seq #[] n) (hm : (kd,okd) ∈ news) (hkc : okd.cls = .type "dict") (hkd : okd.data = .dict #[] ep) (hne : (kd == sysModules) = false)
    (hq : ∀ h' news',Fr h₀ L h' m → News h₀ L h' news' → (∀ q ∈ news,q ∈ news') → Q ⟨[], []⟩ ⟨h',g,d,t,os⟩) :
    wpAny (model prog w) A (evalArgs f true [(true,(do let v ← X2;standAt pos;pure v))] [(none,X3)]) Q E ⟨h,g,d,t,os⟩ :=by
  have hX : wpAny (model prog w) A (do let v ← X2;standAt pos;pure v) (fun v s'=>v = .ref at_ ∧ s' = ⟨h,g,d,t,os⟩) E ⟨h,g,d,t,os⟩ :=wpAny_bind (h2.at F (wpAny_bind (wpAny_standAt (wpAny_pure ⟨rfl,rfl⟩))))
  unfold evalArgs
  refine wpAny_bind (wpAny_mono hX (fun v s' hs=>?_) fun _ _ z=>z)
  obtain ⟨rfl,rfl⟩ :=hs
  refine wpAny_bind (wpAny_pure (wpAny_holding ?_))
  refine ifN Bool.false_ne_true ?_
  refine wpAny_bind (merged_K F N h3 hm hkc hkd hne fun dd h'' F'' N''=>?_)
  have hst : StarOf (model prog w) A E (.ref at_) (fun vs s'=>vs = [] ∧ ∃ h',s' = ⟨h',g,d,t,os⟩ ∧ Fr h₀ L h' m ∧ News h₀ L h' ((dd,dictE) :: news)) ⟨h'',g,d,t,os⟩ :=
    star_seq (s :=⟨h'',g,d,t,os⟩) F'' N'' (.tail _ ha) hac had (.inr rfl) rfl (by decide) fun h' F' N'=>⟨rfl,h',rfl,F',N'⟩
  unfold StarOf at hst
  refine wpAny_bind (wpAny_bind (wpAny_mono hst (fun b s' hs=>?_) fun _ _ z=>z))
  obtain ⟨rfl,hs⟩ :=hs
  refine ifN Bool.false_ne_true ?_
  refine wpAny_holding (wpAny_mono hs (fun vs s' hs=>?_) fun _ _ z=>z)
  obtain ⟨rfl,h',rfl,F',N'⟩ :=hs
  refine wpAny_bind (wpAny_holding (kwIn_K N' (.head _) ?_))
  exact wpAny_pure (hq _ _ F' N' fun q hq=>.tail _ hq)
end
end
section
open PySem.Calls
section
variable {prog : Program} {w : World} {A : Around} {E : VP} {h h₀ : Heap} {g : Array GenState} {d : Drawn} {t : Nat} {os : OsState} {L : Addr} {m : MP} {news : Led}
noncomputable abbrev excD (C : Addr) (od : Option Addr) (a0 : Value) : Obj :=⟨.ref C,od, .fields #[a0, .none, .none, .none, .bool false, .none], #[]⟩
noncomputable abbrev wrapO (e : Addr) : Obj :={ cls :=.type "method-wrapper",data :=.fields #[.builtin "ValueError.__init__", .ref e] }
theorem check_veW {nm q : Str} {C N e : Addr} {bs bm : List Value} {hdct : Bool} {sn : List Str} {sub : List Value} {ab : Bool} {col : Option Bool} {dd : Option Addr} {k0 k1 k2 k3 k5 : Option Value} {oe : Obj} {rest : List Value} {M : Model} {Q : Unit → Shared → Prop} (b : BmOk bm)
    (hC : h.get? C = some (excClassObj nm q C N bs bm hdct sn sub ab col dd k0 k1 k2 k3 k5 "ValueError.__new__")) (he : h.get? e = some oe) (hcls : oe.cls = .ref C) (hq : Q () ⟨h,g,d,t,os⟩) :
    wpAny M A (checkBoundCall "ValueError.__init__" ⟨.ref e :: rest, []⟩) Q E ⟨h,g,d,t,os⟩ :=by
  have Fn :=PySem.F.excBase_ValueError
  have hcB : (Value.ref C :: bm).contains (.type "ValueError") = true :=by rw [List.contains_cons,b.ve,Bool.or_true]
  have hshort :=Fn.noStar
  dsimp only [checkBoundCall,Fn.initKind,Fn.initRow]
  refine ifP (by decide) ?_
  repeat (first | (with_reducible refine wpAny_loadPart_at he ?_;rw [hcls]) | with_reducible refine wpAny_loadPart_at hC ?_ | (with_reducible refine wpAny_isSubtype_exc hC ?_;rw [hcB]) | wp_step)
  refine wpAny_onRaise ?_
  show wpAny M A (Bind.check _ _ _ _ []) _ _ _
  rw [check_star_args]
  exact wpAny_pure hq
theorem ve_wrap {nm q : Str} {N0 : Addr} {bs bm : List Value} {hdct : Bool} {sn : List Str} {sub : List Value} {ab : Bool} {col : Option Bool} {dd : Option Addr} {k0 k1 k2 k3 k5 : Option Value} {mw e C : Addr} {od : Option Addr} {t0 : Addr} {v : Value} {Q : VP} (b : BmOk bm) (hC : h.get? C = some (excClassObj nm q C N0 bs bm hdct sn sub ab col dd k0 k1 k2 k3 k5 "ValueError.__new__")) (F : Fr h₀ L h m) (N : News h₀ L h news) (hw : (mw,wrapO e) ∈ news) (he : (e,excD C od (.ref t0)) ∈ news)
    (hq : ∀ h' t1 news',Fr h₀ L h' m → News h₀ L h' news' → (∀ q ∈ news,q.1 ≠ e → q ∈ news') → (e,excD C od (.ref t1)) ∈ news' → Q .none ⟨h',g,d,t,os⟩) :
    wpAny (model prog w) A (call (.ref mw) [v]) Q E ⟨h,g,d,t,os⟩ :=by
  have hmw :=(N _ hw).1
  have hee :=(N _ he).1
  have Fn :=PySem.F.excBase_ValueError
  have F1 :=F.push (tupE [v])
  have N1 :=News.push F N (tupE [v]) rfl
  have P1 :=News.pull N1 (.tail _ he)
  have hne : e ≠ h.objs.size :=Nat.ne_of_lt (Heap.lt_size hee)
  refine wpAny_call (codeAny_of_tree ?_)
  show wpAny _ _ (callAny (.ref mw) _) _ _ _
  unfold callAny
  refine wpAny_bind (wpAny_load hmw ?_)
  refine ifP rfl ?_
  refine ifP rfl ?_
  refine wpAny_bind (check_veW b hC hee rfl ?_)
  refine wpAny_pure ⟨plainId_quiet Fn.init.plain _,codeAny_builtin Fn.initEntry ?_⟩
  unfold Builtin.«BaseException.__init__»
  have hee1 : (h.push (tupE [v])).get? e = some (excD C od (.ref t0)) :=Heap.get?_push_of_some _ hee
  repeat (first
    | (with_reducible refine wpAny_field hee1 rfl rfl ?_)
    | wp_step
    | dsimp only)
  have hs : Heap.SameBut e (h.push (tupE [v])) ((h.push (tupE [v])).update e (Obj.mapFields fun x=>x.setIfInBounds 0 (.ref h.objs.size))) :=Heap.SameBut.update ..
  have ge : ((h.push (tupE [v])).update e (Obj.mapFields fun x=>x.setIfInBounds 0 (.ref h.objs.size))).get? e = some (excD C od (.ref h.objs.size)) :=Heap.get?_update_self _ hee1 rfl
  refine hq _ h.objs.size ((e,excD C od (.ref h.objs.size)) :: news.filter fun p=>decide (p.1 ≠ e)) (F1.change hs (N _ he).2.1 (N _ he).2.2) (fun q hq=>?_) (fun q hq hn=>.tail _ (List.mem_filter.mpr ⟨hq,decide_eq_true hn⟩)) (.head _)
  rcases List.mem_cons.mp hq with rfl | hq
  · exact ⟨ge,(N _ he).2⟩
  · obtain ⟨hq,hn⟩ :=List.mem_filter.mp hq
    exact ⟨(hs.2 _ (of_decide_eq_true hn)).trans (Heap.get?_push_of_some _ (N _ hq).1),(N _ hq).2⟩
end
end
section
open PySem.Calls
section
variable {w : World} {A : Around} {D : SD} {h h₀ : Heap} {gs : Array GenState} {dr : Drawn} {t : Nat} {os : OsState} {L : Addr} {m : MP} {news : Led} {k : Nat} {R : Result → Shared → Prop}
theorem enterB {name qual : Str} {params : Arguments} {body : List Stmt} {scope : Scope} {cl : List (Str × Addr)} {dV kV doc pm cdv ct oc : Value} {an od : Option Addr} {osl : Array (Option Value)} {f : Addr} {args : Args} {vs : List Value} {nm nr : Str} {ex front : List (Str × Value)}
    {g₁ : Addr → Sem (List (Str × Value))} {g₂ : Addr → Addr → Sem (List (Str × Value))}
    (S : Site w A D h₀ L) (F : Fr h₀ L h m) (N : News h₀ L h news) (r : Room A (k + 1))
    (ho : (K w.params).lookup f = some ⟨oc,od, .func (fnX name qual params body scope cl dV kV doc pm an cdv ct),osl⟩) (hcd : codeIn (K w.params) cdv qual = true)
    (hp : peekA (K w.params) ⟨pw,w.params⟩ (bindArgs (fnX name qual params body scope cl dV kV doc pm an cdv ct) args) = some (tupE vs,g₁))
    (hp₂ : ∀ C,peekA (K w.params) ⟨pw,w.params⟩ (g₁ C) = some (dictOf [] 0,g₂ C))
    (hk₂ : ∀ C D,g₂ C D = (forIn ex PUnit.unit (fun x _=>(nsSet D x.1 x.2 >>= fun _=>pure (ForInStep.yield PUnit.unit))) >>= fun _=>pure (front ++ [(nr,Value.ref C)] ++ [(nm,Value.ref D)])))
    (hn : kwDistinct ex = true) (hloc : ∀ C D, ∀ y ∈ front ++ [(nr,Value.ref C)] ++ [(nm,Value.ref D)],scope.names.lookup y.1 = some .local)
    (hb : ∀ A1 D1 g L' h₁ tk C DD u (Q1 : VP),A1 = A.deeper (envX qual scope L' f cdv cl) → D1 = ⟨A,D.base,envX qual scope L' f cdv cl,D.env :: D.outer⟩ → (∃ mean mg mb,Top topProg lt mean mg mb g) → Site w A1 D1 g L' → Room A1 k → Frag.In (K w.params) g →
      Fr h₀ L g m → Fr g L' h₁ (fun y=>(front ++ [(nr,Value.ref C)] ++ [(nm,Value.ref DD)]).reverse.lookup y) → News g L' h₁ ((DD,dictOf (kwEs w.params u ex) ex.length) :: (C,tupE vs) :: news) → (∀ p ∈ news,p.1 < C) → C < DD → (DD == sysModules) = false →
      (∀ v s' m' news',Fr g L' s'.heap m' → News g L' s'.heap news' → (Fr h₀ L s'.heap m → News h₀ L s'.heap news' → R (.ok (.ret v)) s') → Q1 v s') →
      _root_.PySem.wpAt (model pw w) A1 (.func body (envX qual scope L' f cdv cl)) (execs body (envX qual scope L' f cdv cl)) (fun fl s'=>Q1 (match fl with | .ret v=>v | _=>.none) s') (fun _ _=>False) ⟨h₁,gs,dr,tk,os⟩)
    (hco : scope.isCoroutine = false) (hgen : scope.isGenerator = false) (hk : scope.kind = .function) (hcell : ∀ x ∈ scope.names,x.2 ≠ .cell) : codeAny (model pw w) A (.call (.ref f) args) R ⟨h,gs,dr,t,os⟩ :=by
  k_extra "G"
  obtain ⟨mean,mg,mb,T⟩ :=S.T
  k_unfold
  have X :=S.X.keeps F.keep
  have hn' :=kwDistinct_nodup hn
  refine codeAny_call_function (fd :=fnX name qual params body scope cl dV kV doc pm an cdv ct) (body :=body) (by have :=r.d;exact Om.j18 ‹_›) (X _ _ ho) rfl hco hgen rfl (codeRec_of X hcd) ?_
  refine wp_of_peekA (o :=tupE vs) F N X rfl _ g₁ hp fun h' F' N' l=>?_
  refine wp_of_peekA (s :=⟨h',gs,dr,t,os⟩) (o :=dictOf [] 0) F' N' (S.X.keeps F'.keep) rfl _ (g₂ h.objs.size) (hp₂ _) fun h'' F'' N'' l'=>?_
  rw [hk₂]
  refine wpAny_bind (kp_fill ex ⟨h'',gs,dr,t,os⟩ [] 0 F'' N'' (fun p hp=>Nat.ne_of_lt (l' p hp)) (fun _ he=>nomatch he) (fun _ he=>nomatch he) hn' fun h₃ F₃ N₃=>wpAny_pure ?_)
  k_extra "G"
  obtain ⟨FG,BG,st,lv⟩ :=groundX (s :=⟨h₃,gs,dr,t + ex.length,os⟩) (R :=R) S.B F₃ N₃ S.fr S.ef S.ek
  k_unfold
  refine wpAny_newFunctionEnv hcell (hloc _ _) (fun h₁ hns hsb=>⟨(T.nolimit.keeps F₃.keep).fresh _ hsb,ks_codeAny_funcAt ?_⟩) hk
  have hk₁ : ∀ b o,h₃.get? b = some o → h₁.get? b = some o :=fun b o e=>hsb.extBut b o (Nat.ne_of_lt (Heap.lt_size e)) (Heap.get?_push_of_some _ e)
  refine ks_wpAt_mono (hb _ _ _ h₃.objs.size h₁ _ h.objs.size h'.objs.size t (fun v s'=>LeaveK h₀ L m _ R v s') rfl rfl ⟨mean,mg,mb,T.keeps st⟩ (S.push FG BG st rfl hk) r.push (S.X.keeps st) FG ⟨hns,fun b o e=>hk₁ b o (of_hideAll _ e),Nat.le_of_eq (hideAll_size _ _)⟩
    (fun p hp=>?_) l (l' _ (.head _)) (F'.notModules (modules_low T.nolimit)) (fun v s' m' news' F1 N1 hq=>⟨_,m',news',F1,N1,hq⟩)) (fun fl s' hl=>?_) fun _ _ z=>z.elim
  · have hp' : p ∈ (h'.objs.size,dictOf ([] ++ kwEs w.params t ex) (0 + ex.length)) :: (h.objs.size,tupE vs) :: news :=by simpa using hp
    exact ⟨hk₁ _ _ (N₃ p hp').1,Nat.ne_of_lt (Heap.lt_size (N₃ p hp').1),hideAll_none _ (List.mem_map_of_mem hp')⟩
  · exact lv _ _ hl
end
end
section
open PySem.Calls
structure OwnExc (K : Frag) (C : Addr) : Prop where
  cls : ∃ nm q N bs bm hdct sn sub ab col dd k0 k1 k2 k3 k5,K.lookup C = some (excClassObj nm q C N bs bm hdct sn sub ab col dd k0 k1 k2 k3 k5 "ValueError.__new__") ∧ BmOk bm
  mro : mroIn K C (.ref 41) = some true
  sup : ks_superIn K C 41 "__init__" = some (some (.builtin "ValueError.__init__"))
  sub : subIn K (.ref C) (.type "ValueError") = some true
theorem own54 (P : Params) : OwnExc (K P) 54 :=⟨⟨_,_,_,_,_,_,_,_,_,_,_,_,_,_,_,_,(by kernel_rfl : (K P).lookup 54 = some (o54 P)),⟨by decide +kernel,by decide +kernel,by decide +kernel⟩⟩,by kernel_rfl,by kernel_rfl,by kernel_rfl⟩
theorem own66 (P : Params) : OwnExc (K P) 66 :=⟨⟨_,_,_,_,_,_,_,_,_,_,_,_,_,_,_,_,(by kernel_rfl : (K P).lookup 66 = some (o66 P)),⟨by decide +kernel,by decide +kernel,by decide +kernel⟩⟩,by kernel_rfl,by kernel_rfl,by kernel_rfl⟩
theorem own87 (P : Params) : OwnExc (K P) 87 :=⟨⟨_,_,_,_,_,_,_,_,_,_,_,_,_,_,_,_,(by kernel_rfl : (K P).lookup 87 = some (o87 P)),⟨by decide +kernel,by decide +kernel,by decide +kernel⟩⟩,by kernel_rfl,by kernel_rfl,by kernel_rfl⟩
section
variable {w : World} {A : Around} {E : VP} {h h₀ : Heap} {gs : Array GenState} {dr : Drawn} {t : Nat} {os : OsState} {L : Addr} {m mg mb : MP} {news : Led} {mean : ExcName → Option Value}
theorem gives_local {env : Env} {cn : Str} {cs : Scope} {a : Addr} {ccd : Value} {cl : List (Str × Addr)} {x : Str} {p : Pos} {v : Value} (hv : m x = some v) (he : env = envX cn cs L a ccd cl) (hk : cs.kind = .function) (hx : (envX cn cs L a ccd cl).kindOf x = some .local) (hd : (x == ("__debug__" : Str)) = false) : Gives1 pw w A h₀ L m gs dr os (eval (.Name x p) env) v :=
  fun h t Q E F q=>by subst he;exact nameX_L (s :=⟨h,gs,dr,t,os⟩) F hv q hk hx hd
theorem clsIn_of {K : Frag} {C : Addr} {o : Obj} {cd : ClassData} (h : K.lookup C = some o) (hd : o.data = .cls cd) : clsIn K C = some cd :=by
  unfold clsIn
  rw [h]
  k_extra "G"
  obtain ⟨_,_,dt,_⟩ :=o
  k_unfold
  dsimp only at hd
  subst hd
  rfl
noncomputable abbrev tiEnv (L : Addr) : Env :=ksEnv "TokenError.__init__" (fS (mt 2 1)) L 38 (.ref 37) 25
theorem super_T {C e t0 : Addr} {od : Option Addr} {odx : Option Obj} {v : Value} {body : List Stmt} {p0 p1 q1 q2 q3 q4 q5 apos pos : Pos} {at_ kd : Addr} {oa okd : Obj} {n ep : Nat} {Q : VP} (O : OwnExc (K w.params) C)
    (F : Fr h₀ L h m) (X : Frag.In (K w.params) h₀) (N : News h₀ L h news) (T : Top topProg lt mean mg mb h₀) (he : (e,excD C od (.ref t0)) ∈ news) (I : W.InstAt h e (excD C od (.ref t0)) C odx)
    (hself : m "self" = some (.ref e)) (hmsg : m "msg" = some v) (hargs : m "args" = some (.ref at_)) (hkw : m "kwds" = some (.ref kd))
    (ha : (at_,oa) ∈ news) (hac : oa.cls = .type "tuple") (had : oa.data = .seq #[] n) (hm : (kd,okd) ∈ news) (hkc : okd.cls = .type "dict") (hkd : okd.data = .dict #[] ep) (hne : (kd == sysModules) = false)
    (hq : ∀ h' tk' t1 news',Fr h₀ L h' m → News h₀ L h' news' → (∀ q ∈ news,q.1 ≠ e → q ∈ news') → (e,excD C od (.ref t1)) ∈ news' → Q .none ⟨h',gs,dr,tk',os⟩) :
    _root_.PySem.wpAt (model pw w) A (.func body (tiEnv L)) (eval (.Call (.Attribute (.Call (.Name "super" p0) [] [] p1) "__init__" apos) [.Name "msg" q1, .Starred (.Name "args" q2) q3] [⟨none, .Name "kwds" q4,q5⟩] pos) (tiEnv L)) Q E ⟨h,gs,dr,t,os⟩ :=by
  have Xh :=X.keeps F.keep
  k_extra "G"
  obtain ⟨nm,q,N0,bs,bm,hdct,sn,sub,ab,col,dd,k0,k1,k2,k3,k5,hC0,hb⟩ :=O.cls
  k_unfold
  have hC :=Xh _ _ hC0
  have g1 : ∀ p,Gives1 pw w A h₀ L m gs dr os (eval (.Name "msg" p) (tiEnv L)) v :=fun p=>gives_local hmsg rfl (by kernel_rfl) (by kernel_rfl) (by kernel_rfl)
  have g2 : ∀ p,Gives1 pw w A h₀ L m gs dr os (eval (.Name "args" p) (tiEnv L)) (.ref at_) :=fun p=>gives_local hargs rfl (by kernel_rfl) (by kernel_rfl) (by kernel_rfl)
  have g3 : ∀ p q,Gives1 pw w A h₀ L m gs dr os (do let v ← eval (.Name "kwds" p) (tiEnv L);standAt q;pure v) (.ref kd) :=fun p q h t Q E F hq=>wpAny_bind ((gives_local hkw rfl (by kernel_rfl) (by kernel_rfl) (by kernel_rfl) : Gives1 pw w A h₀ L m gs dr os (eval (.Name "kwds" p) (tiEnv L)) (.ref kd)).at F (wpAny_bind (wpAny_standAt (wpAny_pure hq))))
  show _root_.PySem.wpAt _ _ _ (attributeBase (.Call (.Name "super" p0) [] [] p1) "__init__" (tiEnv L) (eval (.Call (.Name "super" p0) [] [] p1) (tiEnv L)) >>= fun ov=>(standAt apos.atName >>= fun _=>methodCall (.Call (.Name "super" p0) [] [] p1) "__init__" apos pos (tiEnv L) ov 3 (backTo pos (starEach [.Name "msg" q1, .Starred (.Name "args" q2) q3] (tiEnv L))) (backToKw pos (keywordEach [⟨none, .Name "kwds" q4,q5⟩] (tiEnv L))))) _ _ _
  refine PySem.wpAt_bind ?_
  refine ks_node (s :=⟨h,gs,dr,t,os⟩) (C :=C) (D :=41) F X N T (f :=38) (by kernel_rfl : (K w.params).lookup 38 = some (o38 w.params)) rfl hself I (by kernel_rfl : (K w.params).lookup 37 = some (o37 w.params)) rfl (by kernel_rfl) (by kernel_rfl : (K w.params).lookup 25 = some (o25 w.params)) (clsIn_of (by kernel_rfl : (K w.params).lookup 41 = some (o41 w.params)) rfl) O.mro (by kernel_rfl) (by kernel_rfl) (by kernel_rfl) (by kernel_rfl) (by kernel_rfl) (by kernel_rfl) (by kernel_rfl) (by kernel_rfl) fun so h1 F1 N1 l1=>?_
  refine PySem.wpAt_of_wpAny (wpAny_bind (wpAny_standAt ?_))
  have hso :=(N1 _ (.head _)).1
  have X1 :=X.keeps F1.keep
  k_extra "G"
  obtain ⟨cd,hcd,hal⟩ :=Option.bind_eq_some_iff.mp O.sup
  k_unfold
  have hee :=(N1 _ (.tail _ he)).1
  have hxC : e ≠ C :=ks_ne Xh I hcd
  have hno : nsIn (K w.params) cStatics "thirdparty.any" = some none :=by kernel_rfl
  unfold methodCall
  refine wpAny_bind (wpAny_holding ?_)
  unfold calleeOf
  refine ifN Bool.false_ne_true ?_
  refine wpAny_bind (super_get (h :=h1) (h' :=h1.push (wrapO e)) (v :=.ref h1.objs.size) hso (fun A Q E t tk hq=>super_ga_builtin hso (looks_opaque X1 hno) (l₀ :=cd.mro) (fun A Q E s k q=>wpAny_bind ((looks_clsIn X1 hcd) A _ E s k (wpAny_pure q))) rfl X1 hal hxC rfl hee rfl (looks_subIn X1 O.sub) hq) ?_)
  have F2 :=F1.push (wrapO e)
  have N2 :=News.push F1 N1 (wrapO e) rfl
  refine wpAny_pure (wpAny_pure ?_)
  refine wpAny_bind ?_
  unfold methodCallPos
  refine ifP rfl (wpAny_pure ?_)
  unfold callWith
  refine wpAny_bind (wpAny_holding (args_T F2 N2 (g1 _) (g2 _) (g3 _ _) (.tail _ (.tail _ ha)) hac had (.tail _ (.tail _ hm)) hkc hkd hne fun h3 news3 F3 N3 k3=>wpAny_bind (wpAny_standAt ?_)))
  have hmw :=(N3 _ (k3 _ (.head _))).1
  refine wpAny_bind ?_
  have hkp : wpAny (model pw w) A (keeperOf (.ref h1.objs.size)) (fun k s'=>k = .machine ∧ s' = ⟨h3,gs,dr,t + 1,os⟩) E ⟨h3,gs,dr,t + 1,os⟩ :=by
    unfold keeperOf
    refine wpAny_bind (wpAny_load hmw ?_)
    exact ifP rfl (wpAny_pure ⟨rfl,rfl⟩)
  refine wpAny_mono hkp (fun k s' hs=>?_) fun _ _ z=>z
  obtain ⟨rfl,rfl⟩ :=hs
  show wpAny _ _ (operate _ (call (.ref h1.objs.size) [v] []) >>= fun r=>holding [r] point >>= fun _=>pure r) _ _ _
  refine wpAny_bind (wpAny_operating (ve_wrap hb ((X.keeps F3.keep) _ _ hC0) F3 N3 (k3 _ (.head _)) (k3 _ (.tail _ (.tail _ he))) fun h4 t1 news4 F4 N4 k4 m4=>wpAny_bind (wpAny_holding (wpAny_point (wpAny_pure ?_)))))
  exact hq h4 _ t1 news4 F4 N4 (fun q hq hne=>k4 q (k3 q (.tail _ (.tail _ hq))) hne) m4
end
end
section
open PySem.Calls
section
variable {prog : Program} {w : World} {A : Around} {E : VP} {h h₀ : Heap} {g : Array GenState} {d : Drawn} {t : Nat} {os : OsState} {L : Addr} {m : MP} {news : Led} {K : Frag} {x C : Addr} {ox : Obj} {odx : Option Obj} {name : Str}
theorem exc_value {expr : Bool} {v : Value} {Q : VP} (X : K.In h) (I : W.InstAt h x ox C odx) (hga : findIn K (.ref C) "__getattribute__" = some (some (.builtin "BaseException.__getattribute__"))) (hnoa : findIn K (.ref C) "__getattr__" = some none)
    (hb : subIn K (.ref C) (.type "BaseException") = some true) (hf : findObj K C odx name = some (.value v)) (hh : handedIn v = true) (hq : Q v ⟨h,g,d,t + 1,os⟩) : wpAny (model prog w) A (getAttr (.ref x) name expr) Q E ⟨h,g,d,t,os⟩ :=by
  have L0 :=I.type (M :=model prog w)
  have L1 :=looks_findIn (M :=model prog w) X hga
  have L2 :=looks_findIn (M :=model prog w) X hnoa
  have L3 :=looks_find (M :=model prog w) X I hf
  have L4 :=looks_subIn (M :=model prog w) X hb
  have FX :=PySem.F.attr_ValueError
  have hk : builtinKind "BaseException.__getattribute__" = some .slot :=by decide +kernel
  have hsplit : splitId "BaseException.__getattribute__" = some ("BaseException", "__getattribute__") :=by decide +kernel
  have ha :=F.args_bexc_ga (.ref x) (.str name t)
  have hx2 : (Value.builtin "BaseException.__getattribute__" == Value.builtin "object.__getattribute__") = false :=by decide +kernel
  delta getAttr getAttrBy
  refine wpAny_bind (wpAny_mkText (wpAny_holding (wpAny_bind (L0.at (wpAny_bind (L1.at ?_))))))
  refine ifN (by rw [hx2,Bool.and_false];exact Bool.false_ne_true) ?_
  delta getAttrByItsOwn hookBefore
  refine wpAny_bind (ifP rfl (L2.at ?_))
  unfold callGetattribute
  refine wpAny_bind (wpAny_attempt (wpAny_holding (ifN (by cases expr <;> exact Bool.false_ne_true) ?_)))
  unfold boundAndCalled
  refine wpAny_bind (wpAny_of_eq (FX.ga.bind _) ?_)
  refine wpAny_call (codeAny_call_builtin FX.ga.plain F.entry_bexc_ga ?_)
  dsimp only [checkBuiltinCall,hk,hsplit]
  refine wpAny_bind ?_
  unfold isInstance
  refine wpAny_bind (L0.at (L4.at ?_))
  refine ifN Bool.false_ne_true ?_
  refine wpAny_of_eq ha ?_
  unfold Builtin.«object.__getattribute__»
  have hho :=handedOut_of hh
  repeat (first | (with_reducible refine L0.at ?_) | (with_reducible refine L3.at ?_) | wp_step | dsimp only)
  exact hq
end
section
variable {w : World} {A : Around} {E : VP} {h h₀ : Heap} {g : Array GenState} {d : Drawn} {t : Nat} {os : OsState} {L : Addr} {m : MP} {news : Led}
noncomputable abbrev expO (P : Params) (u : Tok) (v : Value) : Obj :=dictOf [⟨PyData.keyHash P (ofString "expire_time"), .str (ofString "expire_time") u,v⟩] 1
theorem exc_set {e t0 : Addr} {v : Value} {Q : Unit → Shared → Prop} (F : Fr h₀ L h m) (X0 : Frag.In (K w.params) h₀) (N : News h₀ L h news) (he : (e,excD 87 none (.ref t0)) ∈ news)
    (hq : ∀ h' dx u tk' news',Fr h₀ L h' m → News h₀ L h' ((dx,expO w.params u v) :: news') → (∀ q ∈ news,q.1 ≠ e → q ∈ news') → (e,excD 87 (some dx) (.ref t0)) ∈ news' → Q () ⟨h',g,d,tk',os⟩) :
    wpAny (model pw w) A (setAttr (.ref e) (ofString "expire_time") v) Q E ⟨h,g,d,t,os⟩ :=by
  have X :=X0.keeps F.keep
  have hee :=(N _ he).1
  have I : W.InstAt h e (excD 87 none (.ref t0)) 87 none :=⟨hee,rfl,rfl,trivial⟩
  have SF :=PySem.F.store_object
  have sub : Looks (model pw w) h (isInstance (.ref e) (.type "object")) true :=I.type.andThen (looks_mroIn X (by kernel_rfl))
  refine set_plain (K :=K w.params) (s :=⟨h,g,d,t,os⟩) X I (by kernel_rfl) ?_
  refine codeAny_call_builtin SF.slot.plain SF.entry (@check_slot (model pw w) _ _ ⟨h,g,d,t + 1,os⟩ "object.__setattr__" "object" "__setattr__" (.ref e) [.str (ofString "expire_time") t,v] [] _ SF.kind SF.split sub (SF.args (.ref e) _ v) ?_)
  rw [osa_eq]
  refine wpAny_bind ?_
  unfold Builtin.ObjectAttr.refuseIfOverridden
  refine wpAny_bind (I.type.at ?_)
  refine (Looks.of_peek (M :=model pw w) (r :=()) X (by kernel_rfl)).here (s :=⟨h,g,d,t + 1,os⟩) ?_
  refine wpAny_bind (I.type.at (wpAny_bind ((looks_findIn (M :=model pw w) X (t :=.ref 87) (name :="expire_time") (r :=some .none) (by kernel_rfl)).at ?_)))
  refine wpAny_bind ((Looks.of_peek (M :=model pw w) (r :=none) X (by kernel_rfl)).here (s :=⟨h,g,d,t + 1,os⟩) ?_)
  have hcd : clsIn (K w.params) 87 = some _ :=clsIn_of (by kernel_rfl : (K w.params).lookup 87 = some (o87 w.params)) rfl
  have hne : e ≠ h.objs.size :=Nat.ne_of_lt (Heap.lt_size hee)
  have F1 :=F.push dictE
  have N1 :=News.push F N dictE rfl
  have hee1 : (h.push dictE).get? e = some (excD 87 none (.ref t0)) :=Heap.get?_push_of_some _ hee
  have hs : Heap.SameBut e (h.push dictE) ((h.push dictE).update e fun o=>{ o with dict :=some h.objs.size }) :=Heap.SameBut.update ..
  have ge : ((h.push dictE).update e fun o=>{ o with dict :=some h.objs.size }).get? e = some (excD 87 (some h.objs.size) (.ref t0)) :=Heap.get?_update_self _ hee1 rfl
  have F2 :=F1.change hs (N _ he).2.1 (N _ he).2.2
  have N2 : News h₀ L ((h.push dictE).update e fun o=>{ o with dict :=some h.objs.size }) ((h.objs.size,dictOf [] 0) :: (e,excD 87 (some h.objs.size) (.ref t0)) :: news.filter fun p=>decide (p.1 ≠ e)) :=fun q hq=>by
    rcases List.mem_cons.mp hq with rfl | hq
    · have :=N1 _ (.head _)
      exact ⟨(hs.2 _ hne.symm).trans this.1,this.2⟩
    · rcases List.mem_cons.mp hq with rfl | hq
      · exact ⟨ge,(N _ he).2⟩
      · obtain ⟨hq,hn⟩ :=List.mem_filter.mp hq
        exact ⟨(hs.2 _ (of_decide_eq_true hn)).trans (Heap.get?_push_of_some _ (N _ hq).1),(N _ hq).2⟩
  dsimp only
  unfold Builtin.ObjectAttr.storeInOwnDict
  refine wpAny_bind (wpAny_pure (wpAny_bind ?_))
  delta Builtin.ObjectAttr.ownDictForStores instanceDict
  refine wpAny_bind (wpAny_loadPart hee ?_)
  refine wpAny_bind ((looks_clsIn X hcd).here (s :=⟨h,g,d,t + 1,os⟩) ?_)
  refine ifN Bool.false_ne_true ?_
  refine ifN Bool.false_ne_true ?_
  refine wpAny_bind (wpAny_alloc ?_)
  refine wpAny_bind (wpAny_update hee1 ?_)
  refine wpAny_pure ?_
  unfold Builtin.ObjectAttr.storeInDict
  refine wpAny_bind (wpAny_pure (wpAny_bind (kp_nsSet (es :=[]) (n :=0) F2 N2 (fun p hp=>?_) (fun _ z=>nomatch z) (fun _ z=>nomatch z) fun h3 F3 N3=>?_)))
  · rcases List.mem_cons.mp hp with rfl | hp
    · exact hne
    · exact Nat.ne_of_lt (Heap.lt_size (N _ (List.mem_filter.mp hp).1).1)
  refine wpAny_bind (wpAny_lookBehind (N3 _ (.head _)).1 (by kernel_rfl) (wpAny_pure ?_))
  exact hq h3 h.objs.size _ _ _ F3 N3 (fun q hq hn=>.tail _ (List.mem_filter.mpr ⟨hq,decide_eq_true hn⟩)) (.head _)
end
end
section
open PySem.Calls
section
variable {w : World} {A : Around} {D : SD} {h h₀ : Heap} {gs : Array GenState} {dr : Drawn} {t : Nat} {os : OsState} {L : Addr} {m : MP} {news : Led} {k : Nat} {R : Result → Shared → Prop}
theorem execsNil_at {M : Model} {A : Around} {c : Code} {env : Env} {s : Shared} {E : VP} {Q : FP} (h : Q .next s) : _root_.PySem.wpAt M A c (execs [] env) Q E s :=fun _ _ _ _=>h
theorem token_init {C e t0 : Addr} {od : Option Addr} {odx : Option Obj} (O : OwnExc (K w.params) C) (x : Str) (tx : Tok) (S : Site w A D h₀ L) (F : Fr h₀ L h m) (N : News h₀ L h news) (r : Room A (k + 1)) (he : (e,excD C od (.ref t0)) ∈ news)
    (hd : match od,odx with | some dx,some o=>(dx,o) ∈ news | none,none=>True | _,_=>False)
    (hret : ∀ h' tk' t1 news',Fr h₀ L h' m → News h₀ L h' news' → (∀ q ∈ news,q.1 ≠ e → q ∈ news') → (e,excD C od (.ref t1)) ∈ news' → R (.ok (.ret .none)) ⟨h',gs,dr,tk',os⟩) :
    codeAny (model pw w) A (.call (.ref 38) ⟨[.ref e, .str x tx], []⟩) R ⟨h,gs,dr,t,os⟩ :=by
  refine enterB (name :="__init__") (qual :="TokenError.__init__") (params :=fP (mt 2 1)) (body :=bodyS (mt 2 1)) (scope :=fS (mt 2 1)) (cl :=[("__class__", 25)]) (dV :=.ref 30) (kV :=.none) (doc :=.none) (pm :=.str (ofString "passlib.exc") 194) (an :=none) (cdv :=.ref 37) (ct :=.ref 31)
    (oc :=.type "function") (od :=none) (osl :=#[]) (ex :=[]) (front :=[("self", .ref e),("msg", .str x tx)]) (vs :=[]) (nr :="args") (nm :="kwds") S F N r (by kernel_rfl) (by kernel_rfl) rfl (fun _=>rfl) (fun _ _=>rfl) rfl (fun _ _=>locs (by kernel_rfl)) ?_ (by kernel_rfl) (by kernel_rfl) (by kernel_rfl) (by decide +kernel)
  intro A1 D1 g L' h₁ tk C1 D2 u Q1 hA1 hD1 T1 S1 R1 X1 G1 F1 N1 l1 l2 hsm hQ1
  obtain ⟨mean,mg,mb,T1⟩ :=T1
  have he1 :=(N1 _ (.tail _ (.tail _ he))).1
  have I1 : W.InstAt h₁ e (excD C od (.ref t0)) C odx :=⟨he1,rfl,rfl,by
    cases od <;> cases odx
    · trivial
    · exact hd
    · exact hd
    · exact (N1 _ (.tail _ (.tail _ hd))).1⟩
  refine ks_wpAt_execs_cons ?_
  refine ks_wpAt_If (PySem.wpAt_of_wpAny ?_)
  repeat' ((fail_if_success (with_reducible show _root_.PySem.wpAt _ _ _ (execs (PySem.Stmt.Expr _ _ :: _) _) _ _ _));k_extra "step")
  refine ks_wpAt_execs_cons (ks_wpAt_Expr_any (super_T O F1 X1 N1 T1 (.tail _ (.tail _ he)) I1 rfl rfl rfl rfl (.tail _ (.head _)) rfl rfl (.head _) rfl rfl hsm fun h' tk' t1 news' F' N' k' m'=>execsNil_at ?_))
  exact hQ1 _ _ _ _ F' N' fun F N=>hret h' tk' t1 news' F N (fun q hq hne=>k' q (.tail _ (.tail _ hq)) hne) m'
theorem token_init0 {C e t0 : Addr} {od : Option Addr} {odx : Option Obj} (O : OwnExc (K w.params) C) (x : Str) (tx : Tok) (hga : findIn (K w.params) (.ref C) "__getattribute__" = some (some (.builtin "BaseException.__getattribute__"))) (hnoa : findIn (K w.params) (.ref C) "__getattr__" = some none)
    (hb : subIn (K w.params) (.ref C) (.type "BaseException") = some true) (hf : findObj (K w.params) C odx "_default_message" = some (.value (.str x tx))) (S : Site w A D h₀ L) (F : Fr h₀ L h m) (N : News h₀ L h news) (r : Room A (k + 1)) (he : (e,excD C od (.ref t0)) ∈ news)
    (hd : match od,odx with | some dx,some o=>(dx,o) ∈ news | none,none=>True | _,_=>False)
    (hret : ∀ h' tk' t1 news',Fr h₀ L h' m → News h₀ L h' news' → (∀ q ∈ news,q.1 ≠ e → q ∈ news') → (e,excD C od (.ref t1)) ∈ news' → R (.ok (.ret .none)) ⟨h',gs,dr,tk',os⟩) :
    codeAny (model pw w) A (.call (.ref 38) ⟨[.ref e], []⟩) R ⟨h,gs,dr,t,os⟩ :=by
  refine enterB (name :="__init__") (qual :="TokenError.__init__") (params :=fP (mt 2 1)) (body :=bodyS (mt 2 1)) (scope :=fS (mt 2 1)) (cl :=[("__class__", 25)]) (dV :=.ref 30) (kV :=.none) (doc :=.none) (pm :=.str (ofString "passlib.exc") 194) (an :=none) (cdv :=.ref 37) (ct :=.ref 31)
    (oc :=.type "function") (od :=none) (osl :=#[]) (ex :=[]) (front :=[("self", .ref e),("msg", .none)]) (vs :=[]) (nr :="args") (nm :="kwds") S F N r (by kernel_rfl) (by kernel_rfl) rfl (fun _=>rfl) (fun _ _=>rfl) rfl (fun _ _=>locs (by kernel_rfl)) ?_ (by kernel_rfl) (by kernel_rfl) (by kernel_rfl) (by decide +kernel)
  intro A1 D1 g L' h₁ tk C1 D2 u Q1 hA1 hD1 T1 S1 R1 X1 G1 F1 N1 l1 l2 hsm hQ1
  obtain ⟨mean,mg,mb,T1⟩ :=T1
  have I0 : ∀ {h1},News g L' h1 ((D2,dictOf (kwEs w.params u []) 0) :: (C1,tupE []) :: news) → W.InstAt h1 e (excD C od (.ref t0)) C odx :=fun N1=>⟨(N1 _ (.tail _ (.tail _ he))).1,rfl,rfl,by
    cases od <;> cases odx
    · trivial
    · exact hd
    · exact hd
    · exact (N1 _ (.tail _ (.tail _ hd))).1⟩
  have I1 :=I0 N1
  have X2 :=X1.keeps F1.keep
  have hh : handedIn (.str x tx) = true :=rfl
  refine ks_wpAt_execs_cons ?_
  refine ks_wpAt_If (PySem.wpAt_of_wpAny ?_)
  repeat' ((fail_if_success (first | (with_reducible show _root_.PySem.wpAt _ _ _ (execs (PySem.Stmt.Expr _ _ :: _) _) _ _ _) | (with_reducible show wpAny _ _ (getAttr (Value.ref _) _ _) _ _ _)));k_extra "step")
  refine exc_value X2 I1 hga hnoa hb hf hh ?_
  repeat' ((fail_if_success (with_reducible show _root_.PySem.wpAt _ _ _ (execs (PySem.Stmt.Expr _ _ :: _) _) _ _ _));k_extra "step")
  refine ks_wpAt_execs_cons (ks_wpAt_Expr_any (super_T O ‹_› X1 ‹_› T1 (.tail _ (.tail _ he)) (I0 ‹_›) rfl rfl rfl rfl (.tail _ (.head _)) rfl rfl (.head _) rfl rfl hsm fun h' tk' t1 news' F' N' k' m'=>execsNil_at ?_))
  exact hQ1 _ _ _ _ F' N' fun F N=>hret h' tk' t1 news' F N (fun q hq hne=>k' q (.tail _ (.tail _ hq)) hne) m'
end
end
section
open PySem.Calls
theorem excObj_own {K : Frag} {C : Addr} {od : Option Addr} {a0 : Value} (hs : subIn K (.ref C) (.type "BaseException") = some true) (ht : typeIn K (.ref C) = some (.type "type")) : ExcObj K (excD C od a0) (.ref C) :=
  ⟨rfl,⟨_,_,rfl⟩,fun _ _ X=>looks_subIn X hs,fun _ _ X=>looks_typeIn X ht⟩
section
variable {w : World} {A : Around} {D : SD} {hp h₀ : Heap} {gs : Array GenState} {dr : Drawn} {tk : Nat} {os : OsState} {L : Addr} {m : MP} {news : Led} {Q E : VP}
theorem mal_new (x : Str) (t : Tok) (hS : Site w A D h₀ L) (hR : Room A 4) (hF : Fr h₀ L hp m) (hN : News h₀ L hp news)
   (hret : ∀ e oe h' tk' news',Fr h₀ L h' m → News h₀ L h' news' → (∀ q ∈ news,q ∈ news') → (∀ q ∈ news,q.1 ≠ e) → (e,oe) ∈ news' → oe.dict = none → ExcObj (K w.params) oe (.ref 54) → Q (.ref e) ⟨h',gs,dr,tk',os⟩) : wpAny (model pw w) A (call (.ref 54) [.str x t]) Q E ⟨hp,gs,dr,tk,os⟩ :=by
  have X :=hS.X.keeps hF.keep
  have O :=own54 w.params
  k_extra "G"
  obtain ⟨nm,q,N0,bs,bm,hdct,sn,sub,ab,col,dd,k0,k1,k2,k3,k5,hC0,hb⟩ :=O.cls
  k_unfold
  refine exc_call hb X (X _ _ hC0) (by show 1 ≤ sizeLine;decide) (fI :=38) (oI :=o38 w.params) (by kernel_rfl) (X _ _ (by kernel_rfl)) rfl ?_
  have F1 :=(hF.push (tupE [.str x t])).push (excO 54 hp.objs.size)
  have N1 :=News.push (hF.push (tupE [.str x t])) (News.push hF hN (tupE [.str x t]) rfl) (excO 54 hp.objs.size) rfl
  have e1 : (hp.push (tupE [.str x t])).objs.size = hp.objs.size + 1 :=Heap.size_push ..
  rw [e1] at N1
  refine wpAny_call (token_init (od :=none) (odx :=none) O x t (hS.under rfl) F1 N1 (Room.under (k :=3) hR (Nat.le_of_ble_eq_true rfl) (Nat.le_of_ble_eq_true rfl)) (.head _) trivial fun h' tk' t1 news' F' N' k' m'=>⟨rfl, ?_⟩)
  refine hret _ _ h' tk' news' F' N' (fun q hq=>k' q (.tail _ (.tail _ hq)) (Nat.ne_of_lt (Nat.lt_succ_of_lt (Heap.lt_size (hN q hq).1)))) (fun q hq=>Nat.ne_of_lt (Nat.lt_succ_of_lt (Heap.lt_size (hN q hq).1))) m' rfl (excObj_own (by kernel_rfl) (by kernel_rfl))
theorem inv_new (hS : Site w A D h₀ L) (hR : Room A 4) (hF : Fr h₀ L hp m) (hN : News h₀ L hp news)
   (hret : ∀ e oe h' tk' news',Fr h₀ L h' m → News h₀ L h' news' → (∀ q ∈ news,q ∈ news') → (∀ q ∈ news,q.1 ≠ e) → (e,oe) ∈ news' → oe.dict = none → ExcObj (K w.params) oe (.ref 66) → Q (.ref e) ⟨h',gs,dr,tk',os⟩) : wpAny (model pw w) A (call (.ref 66) []) Q E ⟨hp,gs,dr,tk,os⟩ :=by
  have X :=hS.X.keeps hF.keep
  have O :=own66 w.params
  k_extra "G"
  obtain ⟨nm,q,N0,bs,bm,hdct,sn,sub,ab,col,dd,k0,k1,k2,k3,k5,hC0,hb⟩ :=O.cls
  k_unfold
  refine exc_call hb X (X _ _ hC0) (by decide) (fI :=38) (oI :=o38 w.params) (by kernel_rfl) (X _ _ (by kernel_rfl)) rfl ?_
  have F1 :=(hF.push (tupE [])).push (excO 66 hp.objs.size)
  have N1 :=News.push (hF.push (tupE [])) (News.push hF hN (tupE []) rfl) (excO 66 hp.objs.size) rfl
  have e1 : (hp.push (tupE [])).objs.size = hp.objs.size + 1 :=Heap.size_push ..
  rw [e1] at N1
  refine wpAny_call (token_init0 (od :=none) (odx :=none) O (ofString "Token did not match") 258 (by kernel_rfl) (by kernel_rfl) (by kernel_rfl) (by kernel_rfl) (hS.under rfl) F1 N1 (Room.under (k :=3) hR (Nat.le_of_ble_eq_true rfl) (Nat.le_of_ble_eq_true rfl)) (.head _) trivial fun h' tk' t1 news' F' N' k' m'=>⟨rfl, ?_⟩)
  refine hret _ _ h' tk' news' F' N' (fun q hq=>k' q (.tail _ (.tail _ hq)) (Nat.ne_of_lt (Nat.lt_succ_of_lt (Heap.lt_size (hN q hq).1)))) (fun q hq=>Nat.ne_of_lt (Nat.lt_succ_of_lt (Heap.lt_size (hN q hq).1))) m' rfl (excObj_own (by kernel_rfl) (by kernel_rfl))
end
end
section
open PySem.Calls
theorem empty_dict {w : World} {o : Obj} (h : o.IsDictOf (strKind pw w) []) : o.cls = .type "dict" ∧ ∃ ep,o.data = .dict #[] ep :=by
  k_extra "G"
  obtain ⟨es,n,hc,hd,_,hp,_⟩ :=h
  k_unfold
  refine ⟨?_,n, ?_⟩
  · first | exact hc.1 | exact hc
  · rw [hd]
    have : es = #[] :=by
      k_extra "G"
      obtain ⟨l⟩ :=es
      k_unfold
      cases hp
      rfl
    rw [this]
noncomputable abbrev uiEnv (L : Addr) : Env :=ksEnv "UsedTokenError.__init__" (fS (mt 5 2)) L 84 (.ref 83) 72
theorem used_sup (P : Params) : ks_superIn (K P) 87 87 "__init__" = some (some (.ref 38)) :=by kernel_rfl
section
variable {w : World} {A : Around} {D : SD} {h h₀ : Heap} {gs : Array GenState} {dr : Drawn} {t : Nat} {os : OsState} {L : Addr} {m mg mb : MP} {news : Led} {k : Nat} {mean : ExcName → Option Value} {E : VP}
theorem super_U {e t0 dx : Addr} {odx : Obj} {body : List Stmt} {p0 p1 q2 q3 q4 q5 apos pos : Pos} {at_ kd : Addr} {oa okd : Obj} {n ep : Nat} {Q : VP} (x : Str) (tx : Tok) (hf : findObj (K w.params) 87 (some odx) "_default_message" = some (.value (.str x tx)))
    (S : Site w A D h₀ L) (r : Room A (k + 2)) (F : Fr h₀ L h m) (N : News h₀ L h news) (T : Top topProg lt mean mg mb h₀) (he : (e,excD 87 (some dx) (.ref t0)) ∈ news) (hdx : (dx,odx) ∈ news)
    (hself : m "self" = some (.ref e)) (hargs : m "args" = some (.ref at_)) (hkw : m "kwds" = some (.ref kd))
    (ha : (at_,oa) ∈ news) (hac : oa.cls = .type "tuple") (had : oa.data = .seq #[] n) (hm : (kd,okd) ∈ news) (hkc : okd.cls = .type "dict") (hkd : okd.data = .dict #[] ep) (hne : (kd == sysModules) = false)
    (hq : ∀ h' tk' t1 news',Fr h₀ L h' m → News h₀ L h' news' → (∀ q ∈ news,q.1 ≠ e → q ∈ news') → (e,excD 87 (some dx) (.ref t1)) ∈ news' → Q .none ⟨h',gs,dr,tk',os⟩) :
    _root_.PySem.wpAt (model pw w) A (.func body (uiEnv L)) (eval (.Call (.Attribute (.Call (.Name "super" p0) [] [] p1) "__init__" apos) [.Starred (.Name "args" q2) q3] [⟨none, .Name "kwds" q4,q5⟩] pos) (uiEnv L)) Q E ⟨h,gs,dr,t,os⟩ :=by
  have X :=S.X
  have Xh :=X.keeps F.keep
  have I : W.InstAt h e (excD 87 (some dx) (.ref t0)) 87 (some odx) :=⟨(N _ he).1,rfl,rfl,(N _ hdx).1⟩
  have g2 : ∀ p,Gives1 pw w A h₀ L m gs dr os (eval (.Name "args" p) (uiEnv L)) (.ref at_) :=fun p=>gives_local hargs rfl (by kernel_rfl) (by kernel_rfl) (by kernel_rfl)
  have g3 : ∀ p q,Gives1 pw w A h₀ L m gs dr os (do let v ← eval (.Name "kwds" p) (uiEnv L);standAt q;pure v) (.ref kd) :=fun p q h t Q E F hq=>wpAny_bind ((gives_local hkw rfl (by kernel_rfl) (by kernel_rfl) (by kernel_rfl) : Gives1 pw w A h₀ L m gs dr os (eval (.Name "kwds" p) (uiEnv L)) (.ref kd)).at F (wpAny_bind (wpAny_standAt (wpAny_pure hq))))
  show _root_.PySem.wpAt _ _ _ (attributeBase (.Call (.Name "super" p0) [] [] p1) "__init__" (uiEnv L) (eval (.Call (.Name "super" p0) [] [] p1) (uiEnv L)) >>= fun ov=>(standAt apos.atName >>= fun _=>methodCall (.Call (.Name "super" p0) [] [] p1) "__init__" apos pos (uiEnv L) ov 2 (backTo pos (starEach [.Starred (.Name "args" q2) q3] (uiEnv L))) (backToKw pos (keywordEach [⟨none, .Name "kwds" q4,q5⟩] (uiEnv L))))) _ _ _
  refine PySem.wpAt_bind ?_
  refine ks_node (s :=⟨h,gs,dr,t,os⟩) (C :=87) (D :=87) F X N T (f :=84) (by kernel_rfl : (K w.params).lookup 84 = some (o84 w.params)) rfl hself I (by kernel_rfl : (K w.params).lookup 83 = some (o83 w.params)) rfl (by kernel_rfl) (by kernel_rfl : (K w.params).lookup 72 = some (o72 w.params)) (clsIn_of (by kernel_rfl : (K w.params).lookup 87 = some (o87 w.params)) rfl) (by kernel_rfl) (by kernel_rfl) (by kernel_rfl) (by kernel_rfl) (by kernel_rfl) (by kernel_rfl) (by kernel_rfl) (by kernel_rfl) (by kernel_rfl) fun so h1 F1 N1 l1=>?_
  refine PySem.wpAt_of_wpAny (wpAny_bind (wpAny_standAt ?_))
  have hso :=(N1 _ (.head _)).1
  have X1 :=X.keeps F1.keep
  k_extra "G"
  obtain ⟨cd,hcd,hal⟩ :=Option.bind_eq_some_iff.mp (used_sup w.params)
  k_unfold
  have hxC : e ≠ 87 :=ks_ne Xh I hcd
  have hno : nsIn (K w.params) cStatics "thirdparty.any" = some none :=by kernel_rfl
  have hfo :=X1 38 (o38 w.params) (by kernel_rfl)
  unfold methodCall
  refine wpAny_bind (wpAny_holding ?_)
  unfold calleeOf
  refine ifN Bool.false_ne_true ?_
  refine wpAny_bind (super_get (h :=h1) (h' :=h1.push (methodObj (.ref 38) (.ref e))) (v :=.ref h1.objs.size) hso (fun A Q E t tk hq=>ks_wpAny_super_ga hso (looks_opaque X1 hno) (l₀ :=cd.mro) (fun A Q E s k q=>wpAny_bind ((looks_clsIn X1 hcd) A _ E s k (wpAny_pure q))) rfl X1 hal hfo rfl hxC rfl hq) ?_)
  have F2 :=F1.push (methodObj (.ref 38) (.ref e))
  have N2 :=News.push F1 N1 (methodObj (.ref 38) (.ref e)) rfl
  refine wpAny_pure (wpAny_pure ?_)
  refine wpAny_bind ?_
  unfold methodCallPos
  refine ifP rfl (wpAny_pure ?_)
  unfold callWith
  refine wpAny_bind (wpAny_holding (args_U F2 N2 (g2 _) (g3 _ _) (.tail _ (.tail _ ha)) hac had (.tail _ (.tail _ hm)) hkc hkd hne fun h3 news3 F3 N3 k3=>wpAny_bind (wpAny_standAt ?_)))
  have hmw :=(N3 _ (k3 _ (.head _))).1
  refine wpAny_bind ?_
  have hkp : wpAny (model pw w) A (keeperOf (.ref h1.objs.size)) (fun k s'=>k = .boundFrame ∧ s' = ⟨h3,gs,dr,t + 1,os⟩) E ⟨h3,gs,dr,t + 1,os⟩ :=by
    unfold keeperOf
    refine wpAny_bind (wpAny_load hmw ?_)
    exact ifN Bool.false_ne_true (wpAny_bind (wpAny_load ((X.keeps F3.keep) 38 (o38 w.params) (by kernel_rfl)) (wpAny_pure ⟨rfl,rfl⟩)))
  refine wpAny_mono hkp (fun k s' hs=>?_) fun _ _ z=>z
  obtain ⟨rfl,rfl⟩ :=hs
  show wpAny _ _ (operate _ (call (.ref h1.objs.size) [] []) >>= fun r=>holding [r] point >>= fun _=>pure r) _ _ _
  refine wpAny_bind (wpAny_operating (wpAny_call (ks_codeAny_call_bound hmw ?_)))
  refine token_init0 (own87 w.params) x tx (by kernel_rfl) (by kernel_rfl) (by kernel_rfl) hf S F3 N3 r (k3 _ (.tail _ (.tail _ he))) (k3 _ (.tail _ (.tail _ hdx))) fun h4 tk4 t1 news4 F4 N4 k4 m4=>wpAny_bind (wpAny_holding (wpAny_point (wpAny_pure ?_)))
  exact hq h4 _ t1 news4 F4 N4 (fun q hq hne=>k4 q (k3 q (.tail _ (.tail _ hq))) hne) m4
end
section
variable {w : World} {A : Around} {D : SD} {h h₀ : Heap} {gs : Array GenState} {dr : Drawn} {t : Nat} {os : OsState} {L : Addr} {m : MP} {news : Led} {k : Nat} {R : Result → Shared → Prop}
theorem used_init {e t0 : Addr} (v : Int) (tv : Tok) (S : Site w A D h₀ L) (F : Fr h₀ L h m) (N : News h₀ L h news) (r : Room A (k + 3)) (he : (e,excD 87 none (.ref t0)) ∈ news)
    (hret : ∀ h' tk' t1 dx u news',Fr h₀ L h' m → News h₀ L h' news' → (∀ q ∈ news,q.1 ≠ e → q ∈ news') → (e,excD 87 (some dx) (.ref t1)) ∈ news' → (dx,expO w.params u (.int v tv)) ∈ news' → R (.ok (.ret .none)) ⟨h',gs,dr,tk',os⟩) :
    codeAny (model pw w) A (.call (.ref 84) ⟨[.ref e], [(ofString "expire_time", .int v tv)]⟩) R ⟨h,gs,dr,t,os⟩ :=by
  refine enterB (name :="__init__") (qual :="UsedTokenError.__init__") (params :=fP (mt 5 2)) (body :=bodyS (mt 5 2)) (scope :=fS (mt 5 2)) (cl :=[("__class__", 72)]) (dV :=.none) (kV :=.none) (doc :=.none) (pm :=.str (ofString "passlib.exc") 194) (an :=none) (cdv :=.ref 83) (ct :=.ref 77)
    (oc :=.type "function") (od :=none) (osl :=#[]) (ex :=[(ofString "expire_time", .int v tv)]) (front :=[("self", .ref e)]) (vs :=[]) (nr :="args") (nm :="kwds") S F N r (by kernel_rfl) (by kernel_rfl) rfl (fun _=>rfl) (fun _ _=>rfl) rfl (fun _ _=>locs (by kernel_rfl)) ?_ (by kernel_rfl) (by kernel_rfl) (by kernel_rfl) (by decide +kernel)
  intro A1 D1 g L' h₁ tk C1 D2 u Q1 hA1 hD1 T1 S1 R1 X1 G1 F1 N1 l1 l2 hsm hQ1
  k_extra "G"
  obtain ⟨mean,mg,mb,T1⟩ :=T1
  k_unfold
  replace N1 : News g L' h₁ ((D2,dictOf [⟨PyData.keyHash w.params (ofString "expire_time"), .str (ofString "expire_time") u, .int v tv⟩] 1) :: (C1,tupE []) :: news) :=N1
  have hdk : (dictOf [⟨PyData.keyHash w.params (ofString "expire_time"), .str (ofString "expire_time") u, .int v tv⟩] 1).IsDictOf (strKind pw w) [(ofString "expire_time", .int v tv)] :=kp_isDict (prog :=pw) (ex :=[(ofString "expire_time", .int v tv)]) u 1 (kwDistinct_nodup rfl)
  refine ks_wpAt_execs_cons (PySem.wpAt_of_wpAny ?_)
  repeat' ((fail_if_success (first | (with_reducible show _root_.PySem.wpAt _ _ _ (execs (PySem.Stmt.Expr _ _ :: _) _) _ _ _) | (with_reducible show wpAny _ _ (getMethod (Value.ref _) _ _) _ _ _)));k_extra "step")
  refine kob_method (knd :=PySem.strKind _ _) PySem.F.slot_dict_pop PySem.F.type_dict_pop N1 (.head _) hdk ?_
  repeat' ((fail_if_success (first | (with_reducible show _root_.PySem.wpAt _ _ _ (execs (PySem.Stmt.Expr _ _ :: _) _) _ _ _) | (with_reducible show wpAny _ _ (call (Value.builtin _) _) _ _ _)));k_extra "step")
  refine kob_pop (knd :=PySem.strKind _ _) (more :=[_]) ‹_› ‹_› (g :=fun o=>(D2,o) :: (C1,tupE []) :: news) ?_ hdk (strKind_is _ _ _ _) (.inr ⟨_,rfl⟩) (by rfl) (PySem.F.args_dict_pop_3 _ _ _) rfl (by show 1 ≤ sizeLine;decide) ?_
  · refine UpdF.head fun p hp=>?_
    rcases List.mem_cons.mp hp with rfl | hp
    · exact Nat.ne_of_lt l2
    · exact Nat.ne_of_lt (Nat.lt_trans (l1 p hp) l2)
  intro h2 o2 F2 N2 hd2
  repeat' ((fail_if_success (first | (with_reducible show _root_.PySem.wpAt _ _ _ (execs (PySem.Stmt.Expr _ _ :: _) _) _ _ _) | (with_reducible show wpAny _ _ (setAttr (Value.ref _) _ _) _ _ _)));k_extra "step")
  k_extra "G"
  obtain ⟨ec,ep,ed⟩ :=empty_dict hd2
  k_unfold
  refine exc_set ‹_› X1 ‹_› (.tail _ (.tail _ he)) fun h3 dx u3 tk3 news3 F3 N3 k3 m3=>?_
  have ne1 : C1 ≠ e :=Nat.ne_of_gt (l1 _ he)
  have ne2 : D2 ≠ e :=Nat.ne_of_gt (Nat.lt_trans (l1 _ he) l2)
  refine ks_wpAt_execs_cons (ks_wpAt_Expr_any (super_U (ofString "Token has already been used, please wait for another.") 276 (by kernel_rfl) S1 R1 F3 N3 T1 (.tail _ m3) (.head _) rfl rfl rfl (.tail _ (k3 _ (.tail _ (.head _)) ne1)) rfl rfl (.tail _ (k3 _ (.head _) ne2)) ec ed hsm fun h' tk' t1 news' F' N' k' m'=>execsNil_at ?_))
  have hdx : dx ≠ e :=fun z=>by
    have a :=(N3 _ (.head _)).1
    have b :=(N3 _ (.tail _ m3)).1
    rw [z,b] at a
    cases a
  exact hQ1 _ _ _ _ F' N' fun F N=>hret h' tk' t1 dx u3 news' F N (fun q hq hne=>k' q (.tail _ (k3 q (.tail _ (.tail _ hq)) hne)) hne) m' (k' _ (.head _) hdx)
end
section
variable {w : World} {A : Around} {D : SD} {hp h₀ : Heap} {gs : Array GenState} {dr : Drawn} {tk : Nat} {os : OsState} {L : Addr} {m : MP} {news : Led} {Q E : VP}
theorem used_new (v : Int) (tv : Tok) (hS : Site w A D h₀ L) (hR : Room A 5) (hF : Fr h₀ L hp m) (hN : News h₀ L hp news)
   (hret : ∀ e oe dx u h' tk' news',Fr h₀ L h' m → News h₀ L h' news' → (∀ q ∈ news,q ∈ news') → (∀ q ∈ news,q.1 ≠ e) → (e,oe) ∈ news' → oe.dict = some dx → (dx,expO w.params u (.int v tv)) ∈ news' → ExcObj (K w.params) oe (.ref 87) → Q (.ref e) ⟨h',gs,dr,tk',os⟩) : wpAny (model pw w) A (call (.ref 87) [] [(ofString "expire_time", .int v tv)]) Q E ⟨hp,gs,dr,tk,os⟩ :=by
  have X :=hS.X.keeps hF.keep
  have O :=own87 w.params
  k_extra "G"
  obtain ⟨nm,q,N0,bs,bm,hdct,sn,sub,ab,col,dd,k0,k1,k2,k3,k5,hC0,hb⟩ :=O.cls
  k_unfold
  refine exc_call hb X (X _ _ hC0) (by decide) (fI :=84) (oI :=o84 w.params) (by kernel_rfl) (X _ _ (by kernel_rfl)) rfl ?_
  have F1 :=(hF.push (tupE [])).push (excO 87 hp.objs.size)
  have N1 :=News.push (hF.push (tupE [])) (News.push hF hN (tupE []) rfl) (excO 87 hp.objs.size) rfl
  have e1 : (hp.push (tupE [])).objs.size = hp.objs.size + 1 :=Heap.size_push ..
  rw [e1] at N1
  refine wpAny_call (used_init v tv (k :=1) (hS.under rfl) F1 N1 (Room.under (k :=4) hR (Nat.le_of_ble_eq_true rfl) (Nat.le_of_ble_eq_true rfl)) (.head _) fun h' tk' t1 dx u news' F' N' k' m' md=>⟨rfl, ?_⟩)
  refine hret _ _ dx u h' tk' news' F' N' (fun q hq=>k' q (.tail _ (.tail _ hq)) (Nat.ne_of_lt (Nat.lt_succ_of_lt (Heap.lt_size (hN q hq).1)))) (fun q hq=>Nat.ne_of_lt (Nat.lt_succ_of_lt (Heap.lt_size (hN q hq).1))) m' rfl md (excObj_own (by kernel_rfl) (by kernel_rfl))
end
end
section
open PySem.Calls
section
variable {M : Model} {w : World} {A : Around} {D : SD} {h h₀ : Heap} {gs : Array GenState} {dr : Drawn} {tk : Nat} {os : OsState} {L e : Addr} {m : MP} {news : Led} {Q : Unit → Shared → Prop} {E : VP} {cls : Value} {od : Option Addr}
theorem raise_out {K : Frag} {oe : Obj} {env : Env} (S : Site w A D h₀ L) (he : env = D.env) (F : Fr h₀ L h m) (N : News h₀ L h news) (hm : (e,oe) ∈ news) (ho : ExcObj K oe cls)
    (hQ : ∀ h',Fly D.base h₀ D.outer e cls oe.dict (news.filter fun p=>decide (p.1 ≠ e)) h' → Q () ⟨h',gs,dr,tk,os⟩) : wpAny M A (leaving env (.ref e)) Q E ⟨h,gs,dr,tk,os⟩ :=by
  subst he
  obtain ⟨a0,r,hd⟩ :=ho.data
  have hc :=ho.cls
  subst hc
  exact fly_first S.fr S.ef S.ek S.B F N hm hd rfl rfl hQ
theorem pass_out {G : Heap} {env : Env} (S : Site w A D h₀ L) (he : env = D.env) (F : Fr h₀ L G m) (R : Fly D.base G (D.env :: D.outer) e cls od news h) (hQ : ∀ h',Fly D.base h₀ D.outer e cls od news h' → Q () ⟨h',gs,dr,tk,os⟩) : wpAny M A (leaving env (.ref e)) Q E ⟨h,gs,dr,tk,os⟩ :=by
  subst he
  exact fly_on S.fr S.ef F R hQ
theorem kept_on {e : Addr} {own news' : Led} {q : Addr × Obj} (k : ∀ q ∈ own,q ∈ news') (ne : ∀ q ∈ own,q.1 ≠ e) (hq : q ∈ own) : q ∈ news'.filter fun p=>decide (p.1 ≠ e) :=
  List.mem_filter.mpr ⟨k q hq,decide_eq_true (ne q hq)⟩
end
section
variable {prog : Program} {w : World} {A : Around} {E : VP} {h h₀ : Heap} {g : Array GenState} {d : Drawn} {t : Nat} {os : OsState} {L : Addr} {m : MP} {news : Led} {K : Frag}
theorem kitMeta_ty {T : String} (e : kitMeta T = true) (M : Model) (h : Heap) : Looks M h (typeOf (.type T)) (.type "type") :=Looks.of_pure (kitMeta_of e)
theorem bexc_new {cls newId initId : String} (FC : PySem.ExcCallFacts cls newId initId) (hs : isSubtype (.type cls) (.type "BaseException") = pure true) (ht : kitMeta cls = true) {vs : List Value} {Q : VP} (F : Fr h₀ L h m) (N : News h₀ L h news) (hz : vs.length ≤ sizeLine)
    (hq : ∀ e oe h',Fr h₀ L h' m → News h₀ L h' ((e,oe) :: news) → (∀ q ∈ news,q ∈ (e,oe) :: news) → (∀ q ∈ news,q.1 ≠ e) → oe.dict = none → ExcObj K oe (.type cls) → Q (.ref e) ⟨h',g,d,t,os⟩) : wpAny (model prog w) A (call (.type cls) vs) Q E ⟨h,g,d,t,os⟩ :=by
  refine wpAny_call_exc FC (hrest :=hz) fun h' e hm=>?_
  obtain ⟨a,ha,_,_⟩ :=hm.there
  have hnL : e ≠ L :=fun z=>by
    obtain ⟨o,_,_,eo,_⟩ :=F.ns
    have :=hm.new
    rw [z,eo] at this;cases this
  have h0 : h₀.get? e = none :=by
    cases q : h₀.get? e with
    | none=>rfl
    | some o=>have :=F.keep _ _ q;rw [hm.new] at this;cases this
  refine hq e { cls :=.type cls,data :=.fields #[.ref a, .none, .none, .none, .bool false, .none] } h' (F.keeps hm.keeps) (fun q hq=>?_) (fun q hq=>.tail _ hq) (fun q hq z=>?_) rfl ⟨rfl,⟨_,_,rfl⟩,fun _ _ _=>Looks.of_pure hs,fun M h _=>kitMeta_ty ht M h⟩
  · rcases List.mem_cons.mp hq with rfl | hq
    · exact ⟨ha,hnL,h0⟩
    · exact ⟨hm.keeps _ _ (N q hq).1,(N q hq).2⟩
  · have :=(N q hq).1
    rw [z,hm.new] at this;cases this
end
end
section
open PySem.Calls
theorem TabSt.turn {a b : Led} {P : Addr} {pos : Pos} {q : Str} (hT : TabSt a P pos q) (hP : ∀ o,(P,o) ∈ a → (P,o) ∈ b) (k : Keep a b) : TabSt b P pos q :=by
  rcases hT with h | ⟨c',oc,vs,t,h1,h2,h3,h4⟩
  · exact .inl (hP _ h)
  · exact .inr ⟨c',oc,vs,t,hP _ h1,k _ h2 (turned_code h3 h4),h3,h4⟩
theorem fb_find (P : Params) : findCls (K P) (.type "int") (.type "type") (ofString "from_bytes") = some (.get (.builtin "classmethod_descriptor.__get__") (.builtin "int.from_bytes") .none (.type "int")) :=by kernel_rfl
section
variable {w : World} {prog : Program} {A : Around} {E : VP} {h h₀ : Heap} {g : Array GenState} {d : Drawn} {t : Nat} {os : OsState} {L : Addr} {m : MP} {news : Led} {Q : VP}
theorem lenB {b : Array UInt8} {n : Nat} {u : Tok} (hb : b.size = n) (hn : n ≤ 2 ^ 21) (hq : ∀ u t',Q (.int (n : Int) u) ⟨h,g,d,t',os⟩) : wpAny (model prog w) A (call (.builtin "len") [.bytes b u]) Q E ⟨h,g,d,t,os⟩ :=W.len_bytes (by exact Om.n3 ‹_› ‹_› (by kernel_rfl!)) (by rw [hb];exact hq _ _)
theorem andI {a b : Int} {u v : Tok} (hq : ∀ u t',Q (.int (Builtin.bitAnd a b) u) ⟨h,g,d,t',os⟩) : wpAny (model prog w) A (binaryOp .BitAnd (.int a u) (.int b v)) Q E ⟨h,g,d,t,os⟩ :=and_int (hq _ _)
theorem itemR {b : Array UInt8} {n : Nat} {i : Int} {u ui : Tok} {value slice : PySem.Expr} (hb : b.size = n) (hn : n ≤ 2 ^ 21) (h0 : -(n : Int) ≤ i) (h1 : i < 0) (hq : ∀ u t',Q (.int (byteAt b (i + (n : Int))) u) ⟨h,g,d,t',os⟩)
    (hs : autoParam (subscripted slice false (.bytes b u) (.int i ui) = operate [.bytes b u, .int i ui] (getItem (.bytes b u) (.int i ui))) ap._auto_3)
    (ht : autoParam (∀ r,letTemporaryGo value (.bytes b u) r = pure ()) ap._auto_4) : wpAny (model prog w) A (subscriptTail value slice (.bytes b u) (.int i ui)) Q E ⟨h,g,d,t,os⟩ :=
  KBc.itemR_K (ks :=KBw.bInts b) rfl (by rw [KBw.ints_length];exact Om.n3 ‹_› ‹_› (by kernel_rfl!)) (by rw [KBw.ints_length,hb];exact h0) h1 (fun t' k _ _=>by
    have e : (KBw.bInts b).getD (i + (n : Int)).toNat 0 = byteAt b (i + (n : Int)) :=by unfold KBw.bInts byteAt;rw [KBw.getD_ints]
    rw [KBw.ints_length,hb,e]
    exact hq t' k) hs ht
theorem sliceB {b : Array UInt8} {u : Tok} {value slice : PySem.Expr} {l r : Value} {lo hi : Option Int} (F : Fr h₀ L h m) (N : News h₀ L h news) (hl : IsPart l lo) (hu : IsPart r hi) (hz : b.size ≤ 2 ^ 20)
    (hq : ∀ h' u t',Fr h₀ L h' m → News h₀ L h' news → Q (.bytes (KBy.picked b lo hi) u) ⟨h',g,d,t',os⟩)
    (hs : autoParam (subscripted slice false (.bytes b u) (.ref h.objs.size) = operate [.ref h.objs.size, .bytes b u] (getItem (.bytes b u) (.ref h.objs.size))) ap._auto_3)
    (ht : autoParam (∀ r,letTemporaryGo value (.bytes b u) r = pure ()) ap._auto_4) :
    wpAny (model prog w) A (subscriptTail value slice (.bytes b u) (.ref h.objs.size)) Q E ⟨h.push { cls :=.type "slice",data :=.fields #[l,r, .none] },g,d,t,os⟩ :=
  KBc.slice_K (s :=⟨h,g,d,t,os⟩) F N (ks :=KBw.bInts b) rfl hl hu (by rw [KBw.ints_length];exact Om.n1 ‹_› (by kernel_rfl!)) (fun h' t' k F' N' _=>hq h' t' k F' N') hs ht
theorem getFB {w : World} {pl : Sem Bool} {Q : Value × List Value → Shared → Prop} (F : Fr h₀ L h m) (N : News h₀ L h news) (X : Frag.In (K w.params) h₀) (hq : ∀ x h' t',Fr h₀ L h' m → News h₀ L h' ((x,KFB.bound) :: news) → (∀ p ∈ news,p.1 < x) → Q (.ref x, []) ⟨h',g,d,t',os⟩) :
    wpAny (model prog w) A (getMethod (.type "int") (ofString "from_bytes") pl) Q E ⟨h,g,d,t,os⟩ :=KFB.getm F N X (fb_find _) fun x h' F' N' l=>hq x h' _ F' N' l
theorem sliceS {x : Str} {i : Int} {u ui : Tok} {value slice : PySem.Expr} (F : Fr h₀ L h m) (N : News h₀ L h news) (hsz : x.length ≤ sizeLine)
    (hq : ∀ h' u t',Fr h₀ L h' m → News h₀ L h' news → Q (.str (Txt.slice x (some i) none) u) ⟨h',g,d,t',os⟩)
    (hs : autoParam (subscripted slice false (.str x u) (.ref h.objs.size) = operate [.ref h.objs.size, .str x u] (getItem (.str x u) (.ref h.objs.size))) ap._auto_3)
    (ht : autoParam (∀ r,letTemporaryGo value (.str x u) r = pure ()) ap._auto_4) :
    wpAny (model prog w) A (subscriptTail value slice (.str x u) (.ref h.objs.size)) Q E ⟨h.push { cls :=.type "slice",data :=.fields #[.int i ui, .none, .none] },g,d,t,os⟩ :=
  slice_strN_sn_len (s :=⟨h,g,d,t,os⟩) F N (fun h' t' k F' N' _=>hq h' t' k F' N') hs ht hsz
end
end
section
open PySem.Calls PySem.Builtin PySem.Builtin.Str
noncomputable def fmtP (d : Int) : Percent :={ width :=some d.natAbs,zero :=true,type :=100 }
noncomputable def digs (v : Int) : List Nat :=(ofString (toString ((v.natAbs : Nat) : Int))).cps.toList
noncomputable def padL (d v : Int) : List Nat :=match percentField (fmtP d) true (digs v) with
  | none=>digs v
  | some l=>l
noncomputable def padS (d v : Int) : Str :=⟨(padL d v).toArray⟩
theorem pf_step {β : Type} {prog : Program} {w : World} {A : Around} {E : VP} {Q : β → Shared → Prop} {s : Shared} {f f' : Percent} {n : Bool} {x x' : List Nat} {K0 : Sem β} {K1 : List Nat → Sem β} (e : f = f') (ex : x = x') (h0 : percentField f' n x' = none → wpAny (model prog w) A K0 Q E s) (h1 : ∀ l,percentField f' n x' = some l → wpAny (model prog w) A (K1 l) Q E s) :
    wpAny (model prog w) A (match percentField f n x with | none=>K0 | some l=>K1 l) Q E s :=by
  subst e ex
  cases q : percentField f n x with
  | none=>exact h0 q
  | some l=>exact h1 l q
theorem star_meets (d v : Int) (t u1 u2 : Tok) (b : Addr) (hd : 0 ≤ d) (hd2 : d ≤ 10) (hv : 0 ≤ v) (hl : v.natAbs.log2 < 1920) (hz : (padS d v).length ≤ 100000) :
    Meets («str.__mod__» ⟨[.str ⟨#[37, 48, 42, 100]⟩ t, .ref b], []⟩) (fun _ R s=>IsTup s.heap b #[.int d u1, .int v u2] ∧ ∀ t' k,R (.ok (.ret (.str (padS d v) t'))) { s with toks :=k }) :=by
  apply KPt.meets_tup
  intro _ _ _ _ _ _ kptH _
  obtain ⟨kptO,kptG,kptC,kptN,kptD⟩ :=kptH
  rw [KPt.entry_is_r]
  unfold Builtin.Str.percentFormat
  refine wpAny_bind (wpAny_isInstance (T :="tuple") ⟨kptO,kptG,kptC⟩ KPt.sub_tt ?_)
  refine wpAny_bind (KPt.asStr_ref kptG kptD ?_)
  refine wpAny_bind (KPt.fills_ref ⟨kptO,kptG,kptC⟩ ?_)
  intro _
  kpc_if
  refine wpAny_bind (wpAny_seqItems kptG kptD ?_)
  refine wpAny_bind (wpAny_pure ?_)
  refine wpAny_bind ?_
  rw [KPc.range_list]
  refine KPc.start ?_
  intro _ _
  refine KPc.turn ?_;kpc_check;(repeat kpc_if)
  refine wpAny_bind (wpAny_of_eq (a :=d) rfl ?_)
  refine KTBy.if_not (by rw [decide_eq_false (show ¬ d < -(2 ^ 63 : Int) by exact Om.i7 ‹_› (by kernel_rfl!)),decide_eq_false (show ¬ d ≥ 2 ^ 63 by exact Om.i9 ‹_› (by kernel_rfl!))];rfl) ?_
  (repeat kpc_if)
  refine wpAny_ite (KPc.ite_no (KPc.short (show d.natAbs ≤ _ by omega)) ?_)
  refine wpAny_bind ?_
  refine wpAny_holding ?_
  (repeat kpc_if)
  refine wpAny_bind (wpAny_of_eq (a :=v) rfl ?_)
  (repeat kpc_if)
  refine wpAny_bind (wpAny_mkInt ?_)
  refine wpAny_bind (call_gives F.slot_int_repr (typeIs_int _ _ _) F.entry_int_repr (F.args_int_repr_1 _) (gives_int_repr _ _ (KPt.hd2 hl)) ⟨int_text_fits (KPt.hd2 hl), ?_⟩)
  refine wpAny_bind (wpAny_of_eq (a :=some _) rfl ?_)
  refine wpAny_pure ?_
  have hdf : decide (d < 0) = false :=decide_eq_false (by exact Int.not_lt.mpr ‹_›)
  refine pf_step (f' :=fmtP d) (x' :=digs v) (by rw [hdf];rfl) (KPc.int_text _ rfl (Or.inl rfl) rfl hv _) (fun hn=>?_) (fun l hl2=>?_)
  · refine wpAny_pure ?_
    refine KPc.after_add0 (y :=padS d v) (by kpc_g) ?_ (by kpc_obj) ?_
    · rw [KPc.int_text _ rfl (Or.inl rfl) rfl hv]
      unfold padS padL
      rw [hn]
      rfl
    · intro _ _
      refine KPc.turn ?_
      refine wpAny_ite (KPc.ite_no (KPc.short_good (by kpc_g) (by omega)) ?_)
      (repeat kpc_if)
      refine wpAny_pure ?_
      kpc_if
      exact KPc.finish_ok (by kpc_g) (by omega) rfl ‹_›
  · refine wpAny_pure ?_
    refine KPc.after_add0 (y :=padS d v) (by kpc_g) ?_ (by kpc_obj) ?_
    · unfold padS padL
      rw [hl2]
    · intro _ _
      refine KPc.turn ?_
      refine wpAny_ite (KPc.ite_no (KPc.short_good (by kpc_g) (by omega)) ?_)
      (repeat kpc_if)
      refine wpAny_pure ?_
      kpc_if
      exact KPc.finish_ok (by kpc_g) (by omega) rfl ‹_›
section
variable {prog : Program} {w : World} {A : Around} {E : VP} {h h₀ : Heap} {g : Array GenState} {dr : Drawn} {t : Nat} {os : OsState} {L : Addr} {news : Led} {Q : VP}
theorem starM {d v : Int} {u u1 u2 : Tok} {b : Addr} {n : Nat} (N : News h₀ L h news) (hb : (b,({ cls :=.type "tuple",data :=.seq #[.int d u1, .int v u2] n } : Obj)) ∈ news) (hd : 0 ≤ d) (hd2 : d ≤ 10) (hv : 0 ≤ v) (hl : v.natAbs.log2 < 1920) (hz : (padS d v).length ≤ 100000)
    (hq : ∀ u t',Q (.str (padS d v) u) ⟨h,g,dr,t',os⟩) : wpAny (model prog w) A (binaryOp .Mod (.str (ofString "%0*d") u) (.ref b)) Q E ⟨h,g,dr,t,os⟩ :=
  KPt.mod_tuple (s :=⟨h,g,dr,t,os⟩) N hb (by decide +kernel) (star_meets d v u u1 u2 b hd hd2 hv hl hz) hq
end
end
section
open PySem.Calls PySem.Builtin PySem.Builtin.Str
theorem low_ex (p : Str) (v : Int) (hp : p.length ≤ 10) (h0 : 0 ≤ v) (h1 : v < 10 ^ 10) : ∃ T : PySem.Str, ∀ (t u1 u2 : Tok) (b : Addr),Meets («str.__mod__» ⟨[.str ⟨#[37, 115, 32, 109, 117, 115, 116, 32, 98, 101, 32, 62, 61, 32, 37, 100]⟩ t, .ref b], []⟩) (fun _ R s=>IsTup s.heap b #[.str p u1, .int v u2] ∧ ∀ t' k,R (.ok (.ret (.str T t'))) { s with toks :=k }) :=by
  refine' ⟨_,fun t u1 u2 b=>?h⟩;case h=>kpt_run
theorem tok_ex (v : Int) (h0 : 0 ≤ v) (h1 : v < 10 ^ 10) (_ : v.natAbs.log2 < 1920) (h3 : ((v.natAbs : Nat) : Int).natAbs.log2 < 1920) : ∃ T : PySem.Str, ∀ (t u : Tok),Meets («str.__mod__» ⟨[.str ⟨#[84, 111, 107, 101, 110, 32, 109, 117, 115, 116, 32, 104, 97, 118, 101, 32, 101, 120, 97, 99, 116, 108, 121, 32, 37, 100, 32, 100, 105, 103, 105, 116, 115]⟩ t, .int v u], []⟩) (fun _ R s=>∀ t' k,R (.ok (.ret (.str T t'))) { s with toks :=k }) :=by
  refine' ⟨_,fun t u=>?h⟩;case h=>kpc_run
section
variable {prog : Program} {w : World} {A : Around} {E : VP} {h h₀ : Heap} {g : Array GenState} {dr : Drawn} {t : Nat} {os : OsState} {L : Addr} {news : Led} {Q : VP}
theorem modTok {n : Int} {u1 u2 : Tok} (h0 : 0 ≤ n) (h1 : n < 10 ^ 10) (hq : ∀ T u t',Q (.str T u) ⟨h,g,dr,t',os⟩) :
    wpAny (model prog w) A (binaryOp .Mod (.str (ofString "Token must have exactly %d digits") u1) (.int n u2)) Q E ⟨h,g,dr,t,os⟩ :=by
  have hl : n.natAbs.log2 < 1920 :=shown (N :=2 ^ 1920) (by omega) (Int.lt_trans h1 (by decide +kernel)) (Int.le_refl _)
  obtain ⟨T,hT⟩ :=tok_ex n h0 h1 hl hl
  exact KPc.mod_lit (s :=⟨h,g,dr,t,os⟩) (by decide +kernel) hl (fun _ _=>hT u1 u2) fun t' k=>hq T t' k
theorem modLow {p : PySem.Str} {v : Int} {u u1 u2 : Tok} {b : Addr} {n : Nat} (N : News h₀ L h news) (hb : (b,({ cls :=.type "tuple",data :=.seq #[.str p u1, .int v u2] n } : Obj)) ∈ news) (hp : p.length ≤ 10) (h0 : 0 ≤ v) (h1 : v < 10 ^ 10)
    (hq : ∀ T u t',Q (.str T u) ⟨h,g,dr,t',os⟩) : wpAny (model prog w) A (binaryOp .Mod (.str (ofString "%s must be >= %d") u) (.ref b)) Q E ⟨h,g,dr,t,os⟩ :=by
  obtain ⟨T,hT⟩ :=low_ex p v hp h0 h1
  exact KPt.mod_tuple (s :=⟨h,g,dr,t,os⟩) N hb (by decide +kernel) (hT u u1 u2 b) fun t' k=>hq T t' k
end
end
section
open PySem.Calls PySem.Builtin PySem.Builtin.Str PySem.NumText
noncomputable def fixD : Nat → Nat → List Nat
  | 0,_=>[]
  | k + 1,m=>fixD k (m / 10) ++ [48 + m % 10]
theorem fixD_len : ∀ k m,(fixD k m).length = k
  | 0,_=>rfl
  | k + 1,m=>by rw [fixD,List.length_append,fixD_len k];rfl
theorem fixD_all : ∀ k m, ∀ c ∈ fixD k m, 48 ≤ c ∧ c ≤ 57
  | 0,_,c,h=>by cases h
  | k + 1,m,c,h=>by
    rw [fixD,List.mem_append] at h
    rcases h with h | h
    · exact fixD_all k _ c h
    · rw [List.mem_singleton.mp h];exact Om.d4
theorem fixD_mod : ∀ k m,fixD k (m % 10 ^ k) = fixD k m
  | 0,_=>rfl
  | k + 1,m=>by
    have e1 : m % 10 ^ (k + 1) / 10 = m / 10 % 10 ^ k :=by
      rw [Nat.pow_succ,Nat.mul_comm,Nat.mod_mul_right_div_self]
    have e2 : m % 10 ^ (k + 1) % 10 = m % 10 :=by
      rw [Nat.pow_succ,Nat.mul_comm,Nat.mod_mul_right_mod]
    rw [fixD,fixD,e1,e2,fixD_mod k]
theorem fixD_add : ∀ k a m,fixD (a + k) m = fixD a (m / 10 ^ k) ++ fixD k m
  | 0,a,m=>by rw [Nat.pow_zero,Nat.div_one];exact (List.append_nil _).symm
  | k + 1,a,m=>by
    rw [show a + (k + 1) = (a + k) + 1 from rfl,fixD,fixD_add k a,fixD,List.append_assoc]
    rw [Nat.div_div_eq_div_mul,Nat.pow_succ,Nat.mul_comm]
theorem digits_same : ∀ (k m : Nat) (xs : List Nat),xs.length = k → AllDigits xs → digitsVal xs % 10 ^ k = m % 10 ^ k → xs = fixD k m
  | 0,m,xs,hl,_,_=>List.eq_nil_of_length_eq_zero hl
  | k + 1,m,xs,hl,ha,hv=>by
    have hne : xs ≠ [] :=fun e=>by rw [e] at hl;cases hl
    have es : xs.dropLast ++ [xs.getLast hne] = xs :=List.dropLast_concat_getLast hne
    have hc :=ha _ (List.getLast_mem hne)
    rw [← es,digitsVal_snoc] at hv
    rw [← es,fixD]
    generalize hg : xs.getLast hne = c at *
    generalize hd : xs.dropLast = ys at *
    have hl2 : ys.length = k :=by rw [← hd,List.length_dropLast,hl];rfl
    have e2 : (digitsVal ys * 10 + (c - 48)) % 10 ^ (k + 1) % 10 = m % 10 ^ (k + 1) % 10 :=by rw [hv]
    rw [Nat.pow_succ,Nat.mul_comm (10 ^ k) 10,Nat.mod_mul_right_mod,Nat.mod_mul_right_mod] at e2
    have e3 : (digitsVal ys * 10 + (c - 48)) % 10 ^ (k + 1) / 10 = m % 10 ^ (k + 1) / 10 :=by rw [hv]
    rw [Nat.pow_succ,Nat.mul_comm (10 ^ k) 10,Nat.mod_mul_right_div_self,Nat.mod_mul_right_div_self] at e3
    have e4 : (digitsVal ys * 10 + (c - 48)) / 10 = digitsVal ys :=Om.d1 (Om.d3 hc)
    rw [e4] at e3
    rw [digits_same k (m / 10) ys hl2 (fun d hdm=>ha d (by rw [← es];exact List.mem_append_left _ hdm)) e3]
    congr 2
    exact (Nat.add_sub_cancel' hc.1).symm.trans (congrArg (48 + ·) ((Om.d2 (Om.d3 hc)).symm.trans e2))
noncomputable abbrev dgs (m : Nat) : List Nat :=(Nat.toDigits 10 m).map Char.toNat
theorem digs_nat (m : Nat) : digs (m : Int) = dgs m :=by
  unfold digs
  rw [Int.natAbs_natCast]
  exact KIN.signs_num m
theorem dgs_all (m : Nat) : AllDigits (dgs m) :=by
  intro c hc
  obtain ⟨ch,hm,rfl⟩ :=List.mem_map.mp hc
  have h :=Nat.isDigit_of_mem_toDigits (b :=10) (by decide) (by decide) hm
  rw [Char.isDigit,Bool.and_eq_true,decide_eq_true_eq,decide_eq_true_eq] at h
  exact ⟨h.1,h.2⟩
theorem dgs_val (m : Nat) : digitsVal (dgs m) = m :=KIN.val_back m
theorem dgs_fix (m : Nat) : dgs m = fixD (dgs m).length m :=digits_same _ _ _ rfl (dgs_all m) (by rw [dgs_val])
theorem digitsVal_lt : ∀ (xs : List Nat),AllDigits xs → digitsVal xs < 10 ^ xs.length :=by
  intro xs h
  have e :=digits_same xs.length (digitsVal xs) xs rfl h rfl
  have key : ∀ k m,digitsVal (fixD k m) = m % 10 ^ k :=by
    intro k
    induction k with
    | zero=>intro m;show 0 = m % 1;lia
    | succ k ih =>
      intro m
      rw [fixD,digitsVal_snoc,ih]
      have e1 :=Nat.mod_mul_right_div_self m 10 (10 ^ k)
      have e2 :=Nat.mod_mul_right_mod m 10 (10 ^ k)
      rw [Nat.pow_succ,Nat.mul_comm (10 ^ k) 10]
      rw [Nat.add_sub_cancel_left, ← e1, ← e2];exact Nat.div_add_mod' _ 10
  rw [e,key,fixD_len]
  exact Nat.mod_lt _ (Nat.pow_pos (by decide))
theorem fixD_zero : ∀ k,fixD k 0 = List.replicate k 48
  | 0=>rfl
  | k + 1=>by rw [fixD,Nat.zero_div,fixD_zero k,List.replicate_succ']
theorem padL_eq (d m : Nat) : padL (d : Int) (m : Int) = fixD (max d (dgs m).length) m :=by
  have ed : (d : Int).natAbs = d :=Int.natAbs_natCast d
  have hp : 0 < (dgs m).length :=by
    rcases Nat.eq_zero_or_pos (dgs m).length with h | h
    · have :=digitsVal_lt _ (dgs_all m)
      rw [h,dgs_val] at this
      have e : m = 0 :=Nat.lt_one_iff.mp this
      subst e
      rw [show (dgs 0).length = 1 from rfl] at h
      cases h
    · exact h
  have hfix :=dgs_fix m
  have hlt : m < 10 ^ (dgs m).length :=by have :=digitsVal_lt _ (dgs_all m);rwa [dgs_val] at this
  unfold padL
  rw [digs_nat]
  by_cases hle : d ≤ (dgs m).length
  · have e : percentField (fmtP (d : Int)) true (dgs m) = none :=by
      delta percentField fmtP
      rw [ed]
      have hle' : d ≤ (Nat.toDigits 10 m).length :=by rw [List.length_map] at hle;exact hle
      rw [if_pos]
      simp [hle']
    rw [e,Nat.max_eq_right hle]
    exact hfix
  · have hgt : (dgs m).length < d :=Om.n32 ‹_›
    have hall :=dgs_all m
    obtain ⟨c,cs,ec⟩ : ∃ c cs,dgs m = c :: cs :=by
      cases q : dgs m with
      | nil=>rw [q] at hp;cases hp
      | cons c cs=>exact ⟨c,cs,rfl⟩
    have hc :=hall c (by rw [ec];exact .head _)
    have e : percentField (fmtP (d : Int)) true (dgs m) = some (List.replicate (d - (dgs m).length) 48 ++ dgs m) :=by
      delta percentField fmtP
      rw [ed,ec]
      have hgt' : ¬ d ≤ (Nat.toDigits 10 m).length :=by rw [List.length_map] at hgt;exact Om.n30 ‹_›
      rw [if_neg (by rw [← ec];simp [hgt'])]
      obtain ⟨k,rfl⟩ : ∃ k,c = k + 48 :=⟨c - 48,(Nat.sub_add_cancel hc.1).symm⟩
      rw [show ((k + 48) :: cs).length = 0 + 0 + ((k + 48) :: cs).length from (Nat.zero_add _).symm]
      rfl
    rw [e,Nat.max_eq_left (by exact Nat.le_of_lt ‹_›)]
    have e2 : fixD d m = fixD (d - (dgs m).length) (m / 10 ^ (dgs m).length) ++ fixD (dgs m).length m :=by
      rw [← fixD_add]
      congr 1
      exact (Nat.sub_add_cancel (Nat.le_of_lt (Nat.not_le.mp hle))).symm
    show List.replicate (d - (dgs m).length) 48 ++ dgs m = _
    rw [e2, ← hfix,Nat.div_eq_of_lt hlt,fixD_zero]
end
section
open PySem.Calls PySem.Builtin PySem.Builtin.Str
noncomputable abbrev genO (g : Array UInt8) (n : Nat) : Int :=Builtin.bitAnd (byteAt g (-1 + (n : Int))) 15
noncomputable abbrev genV (g : Array UInt8) (n : Nat) : Int :=Builtin.bitAnd ((natOf (KBy.picked g (some (genO g n)) (some (genO g n + 4))) : Nat) : Int) 2147483647
noncomputable abbrev genS (g : Array UInt8) (d n : Nat) : Str :=Txt.slice (padS (d : Int) (genV g n)) (some (-(d : Int))) none
theorem genV_range (g : Array UInt8) (n : Nat) : 0 ≤ genV g n ∧ genV g n ≤ 2147483647 :=bitAnd_range _ (by decide)
theorem digs_len {v : Int} (h0 : 0 ≤ v) {k : Nat} (hk : 0 < k) (h : v < 10 ^ k) : (digs v).length ≤ k :=by
  have e : ((v.natAbs : Nat) : Int) = v :=Int.natAbs_of_nonneg h0
  have l :=toString_length_le h0 hk h
  unfold digs
  rw [e]
  exact l
theorem padS_len {d : Nat} {v : Int} (h0 : 0 ≤ v) {k : Nat} (hk : 0 < k) (h : v < 10 ^ k) : (padS (d : Int) v).length ≤ d + k :=by
  have l :=digs_len h0 hk h
  obtain ⟨m,rfl⟩ :=Int.eq_ofNat_of_zero_le h0
  rw [digs_nat] at l
  show (padL (d : Int) (m : Int)).toArray.size ≤ _
  rw [List.size_toArray,padL_eq,fixD_len]
  exact Nat.max_le.mpr ⟨Nat.le_add_right _ _,Nat.le_trans l (Nat.le_add_left _ _)⟩
theorem genV_ok (g : Array UInt8) (n : Nat) {d : Nat} (hd : (d : Int) ≤ 10) : 0 ≤ genV g n ∧ (genV g n).natAbs.log2 < 1920 ∧ (padS (d : Int) (genV g n)).length ≤ 100000 :=by
  have h :=genV_range g n
  refine ⟨h.1, ?_, ?_⟩
  · by_cases hz : (genV g n).natAbs = 0
    · rw [hz];decide
    · exact Nat.lt_trans ((Nat.log2_lt hz).mpr (Om.k18 h)) (by decide)
  · have l :=padS_len (d :=d) h.1 (k :=10) (by decide) (by omega)
    exact Nat.le_trans l (Nat.le_trans (Nat.add_le_add_right (Int.ofNat_le.mp hd) 10) (by decide))
end
section
variable {w : World} {A : Around} {D : SD} {hp h₀ : Heap} {gs : Array GenState} {dr : Drawn} {tk : Nat} {os : OsState} {L : Addr} {m : MP} {news : Led} {Q E : VP}
noncomputable abbrev genM (dv hf : Addr) (c : Int) (tc : Tok) : Str → Option Value :=fun y=>if y = ofString "keyed_hmac" then some (.ref hf) else List.lookup y [(ofString "counter", .int c tc),(ofString "self", .ref dv)]
theorem gen_rest (dv dd tr hf lf : Addr) (H : Array UInt8 → Array UInt8) (p0 p1 ky : Array UInt8) (n bk : Nat) (d : Nat) (p : Int) (u : Nat → Tok) (t1 t2 : Tok) (nt : Nat) (c : Int) (tc : Tok)
   (hp0 : p0.size ≤ 64) (hp1 : p1.size ≤ 64) (hH : ∀ x,(H x).size = n) (hn : 20 ≤ (n : Int)) (hn2 : (n : Int) ≤ 32) (hd6 : 6 ≤ (d : Int)) (hd10 : (d : Int) ≤ 10) (hc0 : 0 ≤ c) (hc : c < 2 ^ 60)
   (hC : CallsC w lf H news) (hFn : FnIn lf news) (hI : HmacIs news hf (.ref lf) p0 p1)
   (hdv : (dv,instObj 360 dd) ∈ news) (hdd : (dd,devObj w.params u tr ky (.ref hf) d p) ∈ news)
   (hT : (tr,(⟨.type "tuple",none, .seq #[.ref lf, .int (n : Int) t1, .int (bk : Int) t2] nt, #[]⟩ : Obj)) ∈ news)
   {g : Heap} {L' : Addr} {A1 : Around} {D1 : SD} {Q1 : FP} {E1 : VP} {mean : ExcName → Option Value} {mg mb : MP} (T1 : Top topProg lt mean mg mb g)
   (S1 : Site w A1 D1 g L') (R1 : Room A1 4) (X1 : Frag.In (K w.params) g) (F1 : Fr g L' hp (genM dv hf c tc)) (N1 : News g L' hp news)
   (hret : ∀ (t : Tok) (h' : Heap) (tk' : Nat) (m' : MP),Fr g L' h' m' → News g L' h' news → Q1 (.ret (.str (genS (H (p1 ++ H (p0 ++ octets c 8))) d n) t)) ⟨h',gs,dr,tk',os⟩) :
      wpAny (model pw w) A1 (execs ((bodyS (mt 21 21)).drop 4) (envX (ofString "TOTP._generate") (fS (mt 21 21)) L' 341 (.ref 340) [])) Q1 E1 ⟨hp,gs,dr,tk,os⟩ :=by
  have hfn2 : FnIn hf news :=hI.fn
  have hcB : c < 18446744073709551616 :=Om.i1 ‹_› (by kernel_rfl!)
  have hob : (octets c 8).size ≤ 64 :=by rw [octets_size];decide
  have hH64 : ∀ x,(H x).size ≤ 64 :=fun x=>by rw [hH x];exact Om.c4 ‹_› (by kernel_rfl!)
  have hsz :=hH (p1 ++ H (p0 ++ octets c 8))
  have hsz2 : (H (p1 ++ H (p0 ++ octets c 8))).size ≤ 2 ^ 20 :=by rw [hsz];exact Om.c4 ‹_› (by kernel_rfl!)
  have hpk : (KBy.picked (H (p1 ++ H (p0 ++ octets c 8))) (some (Builtin.bitAnd (byteAt (H (p1 ++ H (p0 ++ octets c 8))) (-1 + (n : Int))) 15)) (some (Builtin.bitAnd (byteAt (H (p1 ++ H (p0 ++ octets c 8))) (-1 + (n : Int))) 15 + 4))).size ≤ 2 ^ 21 :=Nat.le_trans (KBc.size_picked_le ..) (by exact Om.n1 ‹_› (by kernel_rfl!))
  obtain ⟨hv0,hv1,hvz⟩ :=genV_ok (H (p1 ++ H (p0 ++ octets c 8))) n hd10
  have hvs : (padS (d : Int) (genV (H (p1 ++ H (p0 ++ octets c 8))) n)).length ≤ sizeLine :=by rw [sizeLine_eq];exact Om.n1 ‹_› (by kernel_rfl!)
  unfold genM at F1
  k_extra "go"
  exact hret _ _ _ _ ‹_› (cb_drop ‹_› (by kcj_in))
noncomputable def keyP (H : Array UInt8 → Array UInt8) (ky : Array UInt8) (bk : Nat) : Array UInt8 :=if ky.size ≤ bk then ky else H ky
theorem keyP_le {H : Array UInt8 → Array UInt8} {ky : Array UInt8} {bk : Nat} (h : ky.size ≤ bk) : keyP H ky bk = ky :=if_pos h
theorem keyP_gt {H : Array UInt8 → Array UInt8} {ky : Array UInt8} {bk : Nat} (h : bk < ky.size) : keyP H ky bk = H ky :=if_neg (by exact Om.n30 ‹_›)
theorem keyP_size {H : Array UInt8 → Array UInt8} {ky : Array UInt8} {n bk : Nat} (hH : ∀ x,(H x).size = n) (h : n < bk) : (keyP H ky bk).size ≤ bk :=by
  unfold keyP
  split
  · assumption
  · rw [hH];exact Nat.le_of_lt ‹_›
theorem padB_size {ky : Array UInt8} {bk : Nat} (x : Int) (h : ky.size ≤ bk) (hb : bk ≤ 64) : (padB ky bk x).size ≤ 64 :=by
  unfold padB
  rw [byteArr_size,List.length_map,List.length_append,List.length_map,List.length_replicate,KBw.ints_length]
  exact Om.p8 ‹_› ‹_›
theorem fr_two {h₀ h : Heap} {L : Addr} {x : Str} {v z : Value} {m : MP} (F : Fr h₀ L h fun y=>if y = x then some v else if y = x then some z else m y) : Fr h₀ L h fun y=>if y = x then some v else m y :=by
  have e : (fun y=>if y = x then some v else if y = x then some z else m y) = fun y=>if y = x then some v else m y :=by
    funext y
    by_cases q : y = x
    · rw [if_pos q,if_pos q]
    · rw [if_neg q,if_neg q,if_neg q]
  rw [e] at F
  exact F
theorem compile_any (ky : Array UInt8) (lf : Addr) (H : Array UInt8 → Array UInt8) (tr : Addr) (n bk : Nat) (t1 t2 t3 : Tok) (nt : Nat)
   (hT : (tr,(⟨.type "tuple",none, .seq #[.ref lf, .int (n : Int) t1, .int (bk : Int) t2] nt, #[]⟩ : Obj)) ∈ news)
   (hC : CallsC w lf H news) (hFn : FnIn lf news) (hTab : TabSt news 204 (posOf hmS) hmQ) (hH : ∀ x,(H x).size = n) (hn : 16 ≤ (bk : Int)) (hbk : bk ≤ 64) (hk2 : ky.size < 2 ^ 20) (hnb : n < bk)
   (hS : Site w A D h₀ L) (hR : Room A 3) (hF : Fr h₀ L hp m) (hN : News h₀ L hp news)
   (hret : ∀ (hf : Addr) (news' : Led) (h' : Heap) (tk' : Nat),Fr h₀ L h' m → News h₀ L h' news' → (∀ q ∈ news,q.1 ≠ 204 → q ∈ news') → HmacIs news' hf (.ref lf) (padB (keyP H ky bk) bk 54) (padB (keyP H ky bk) bk 92) → TabSt news' 204 (posOf hmS) hmQ → Q (.ref hf) ⟨h',gs,dr,tk',os⟩) :
      wpAny (model pw w) A (call (.ref 207) [.ref tr, .bytes ky t3]) Q E ⟨hp,gs,dr,tk,os⟩ :=by
  rcases Nat.lt_trichotomy ky.size bk with h | h | h
  · rw [keyP_le (by exact Nat.le_of_lt ‹_›)] at hret
    exact compile_short ky (.ref lf) tr n bk t1 t2 t3 nt hn hbk h hT hS hR hF hN hTab hret
  · rw [keyP_le (by exact Om.n29 ‹_›)] at hret
    exact compile_full ky (.ref lf) tr n bk t1 t2 t3 nt hn hbk h hT hS hR hF hN hTab hret
  · rw [keyP_gt h] at hret
    exact compile_long ky lf H tr n bk t1 t2 t3 nt hn hbk h hk2 hnb hH hC hFn hT hS hR hF hN hTab hret
theorem gen_hot (dv dd tr hf lf : Addr) (H : Array UInt8 → Array UInt8) (p0 p1 ky : Array UInt8) (n bk : Nat) (d : Nat) (p : Int) (u : Nat → Tok) (t1 t2 : Tok) (nt : Nat) (c : Int) (tc : Tok)
   (hp0 : p0.size ≤ 64) (hp1 : p1.size ≤ 64) (hH : ∀ x,(H x).size = n) (hn : 20 ≤ (n : Int)) (hn2 : (n : Int) ≤ 32) (hd6 : 6 ≤ (d : Int)) (hd10 : (d : Int) ≤ 10) (hc0 : 0 ≤ c) (hc : c < 2 ^ 60)
   (hC : CallsC w lf H news) (hFn : FnIn lf news) (hI : HmacIs news hf (.ref lf) p0 p1)
   (hdv : (dv,instObj 360 dd) ∈ news) (hdd : (dd,devObj w.params u tr ky (.ref hf) d p) ∈ news)
   (hT : (tr,(⟨.type "tuple",none, .seq #[.ref lf, .int (n : Int) t1, .int (bk : Int) t2] nt, #[]⟩ : Obj)) ∈ news)
   (hS : Site w A D h₀ L) (hR : Room A 5) (hF : Fr h₀ L hp m) (hN : News h₀ L hp news)
   (hret : ∀ (t : Tok) (h' : Heap) (tk' : Nat),Fr h₀ L h' m → News h₀ L h' news → Q (.str (genS (H (p1 ++ H (p0 ++ octets c 8))) d n) t) ⟨h',gs,dr,tk',os⟩) :
      wpAny (model pw w) A (call (.ref 341) [.ref dv, .int c tc]) Q E ⟨hp,gs,dr,tk,os⟩ :=by
  refine wpAny_call ?_
  k_dflt k_extra "enter"
  k_extra "s0"
  refine gen_rest dv dd tr hf lf H p0 p1 ky n bk d p u t1 t2 nt c tc hp0 hp1 hH hn hn2 hd6 hd10 hc0 hc hC hFn hI hdv hdd hT T1 S1 R1 X1 ‹_› ‹_› fun t h' tk' m' F' N'=>?_
  exact hQ1 _ _ _ _ F' N' fun F N=>hret t h' tk' F N
theorem gen_cold (dv dd tr lf : Addr) (H : Array UInt8 → Array UInt8) (ky : Array UInt8) (n bk : Nat) (d : Nat) (p : Int) (u : Nat → Tok) (t1 t2 : Tok) (nt : Nat) (c : Int) (tc : Tok)
   (hbk16 : 16 ≤ (bk : Int)) (hbk : bk ≤ 64) (hk2 : ky.size < 2 ^ 20) (hnb : n < bk) (hH : ∀ x,(H x).size = n) (hn : 20 ≤ (n : Int)) (hn2 : (n : Int) ≤ 32) (hd6 : 6 ≤ (d : Int)) (hd10 : (d : Int) ≤ 10) (hc0 : 0 ≤ c) (hc : c < 2 ^ 60)
   (hC : ∀ nw,(∀ q ∈ news,q.1 ≠ 204 → q.1 ≠ dd → q ∈ nw) → CallsC w lf H nw ∧ FnIn lf nw)
   (hdv : (dv,instObj 360 dd) ∈ news) (hdd : (dd,devObj w.params u tr ky .none d p) ∈ news)
   (hT : (tr,(⟨.type "tuple",none, .seq #[.ref lf, .int (n : Int) t1, .int (bk : Int) t2] nt, #[]⟩ : Obj)) ∈ news)
   (hS : Site w A D h₀ L) (hR : Room A 5) (hF : Fr h₀ L hp m) (hN : News h₀ L hp news) (hTab : TabSt news 204 (posOf hmS) hmQ)
   (hret : ∀ (hf : Addr) (news' : Led) (t : Tok) (h' : Heap) (tk' : Nat),Fr h₀ L h' m → News h₀ L h' news' → (∀ q ∈ news,q.1 ≠ 204 → q.1 ≠ dd → q ∈ news') → HmacIs news' hf (.ref lf) (padB (keyP H ky bk) bk 54) (padB (keyP H ky bk) bk 92) → TabSt news' 204 (posOf hmS) hmQ →
      (dd,devObj w.params u tr ky (.ref hf) d p) ∈ news' → Q (.str (genS (H (padB (keyP H ky bk) bk 92 ++ H (padB (keyP H ky bk) bk 54 ++ octets c 8))) d n) t) ⟨h',gs,dr,tk',os⟩) :
      wpAny (model pw w) A (call (.ref 341) [.ref dv, .int c tc]) Q E ⟨hp,gs,dr,tk,os⟩ :=by
  obtain ⟨hC0,hFn0⟩ :=hC news fun _ h _ _=>h
  refine wpAny_call ?_
  k_dflt k_extra "enter"
  k_extra "s0"
  have n1 :=hTab.ne hN hdv (fun _ e=>by cases e)
  have n2 :=hTab.ne hN hdd (fun _ e=>by cases e)
  have n3 :=hTab.ne hN hT (fun _ e=>by cases e)
  have n4 : dv ≠ dd :=News.ne hN hdv hdd (fun e=>by cases e)
  have n5 : tr ≠ dd :=News.ne hN hT hdd (fun e=>by have h :=congrArg Obj.data e;cases h)
  have hdv' :=KC' _ hdv n1
  have hdd' :=KC' _ hdd n2
  have hT' :=KC' _ hT n3
  obtain ⟨_,_,_,NN⟩ : ∃ a b c,News a b c news' :=⟨_,_,_,by assumption⟩
  k_extra "s0"
  have kd :=keep_of NN hdd' rfl KU'
  have ha : ∀ q ∈ news,q.1 ≠ 204 → q.1 ≠ dd → q ∈ news' :=fun q hq h1 h2=>KU' _ (KC' _ hq h1) h2
  obtain ⟨hC2,hFn2⟩ :=hC news' ha
  have hI2 :=HI'.mono kd
  have hT2 :=HT'.turn (fun o h=>KU' _ h n2.symm) kd
  have s1 :=padB_size 54 (keyP_size (ky :=ky) hH hnb) hbk
  have s2 :=padB_size 92 (keyP_size (ky :=ky) hH hnb) hbk
  refine gen_rest dv dd tr hf' lf H _ _ ky n bk d p u t1 t2 nt c tc s1 s2 hH hn hn2 hd6 hd10 hc0 hc hC2 hFn2 hI2 (KU' _ hdv' n4) MU' (KU' _ hT' n5) T1 S1 R1 X1 (fr_two F') N' fun t h' tk' m' F' N'=>?_
  exact hQ1 _ _ _ _ F' N' fun F N=>hret _ _ t h' tk' F N ha hI2 hT2 MU'
end
noncomputable def ConstOk (w : World) (lf : Addr) (H : Array UInt8 → Array UInt8) (news : Led) : Prop :=∀ nw,Keep news nw → CallsC w lf H nw ∧ FnIn lf nw
theorem ConstOk.mono {w : World} {lf : Addr} {H : Array UInt8 → Array UInt8} {a b : Led} (h : ConstOk w lf H a) (k : Keep a b) : ConstOk w lf H b :=fun nw k2=>h nw (k.trans k2)
theorem lam_const {w : World} {lf : Addr} {n : Nat} {news : Led} (hn : n = 20 ∨ n = 32) (hL : LamIs news lf n) : ConstOk w lf (fun o=>hashB o n) news :=fun _ k=>⟨lam_calls hn (hL.mono k),lam_fn (hL.mono k)⟩
noncomputable abbrev tupO (lf : Addr) (n bk : Nat) (t1 t2 : Tok) (nt : Nat) : Obj :=⟨.type "tuple",none, .seq #[.ref lf, .int (n : Int) t1, .int (bk : Int) t2] nt, #[]⟩
noncomputable abbrev pad54 (H : Array UInt8 → Array UInt8) (ky : Array UInt8) (bk : Nat) : Array UInt8 :=padB (keyP H ky bk) bk 54
noncomputable abbrev pad92 (H : Array UInt8 → Array UInt8) (ky : Array UInt8) (bk : Nat) : Array UInt8 :=padB (keyP H ky bk) bk 92
noncomputable abbrev devT (H : Array UInt8 → Array UInt8) (ky : Array UInt8) (n bk d : Nat) (c : Int) : Str :=genS (H (pad92 H ky bk ++ H (pad54 H ky bk ++ octets c 8))) d n
structure DevOk (H : Array UInt8 → Array UInt8) (ky : Array UInt8) (n bk d : Nat) (p : Int) : Prop where
  hbk16 : 16 ≤ (bk : Int)
  hbk : bk ≤ 64
  hk2 : ky.size < 2 ^ 20
  hnb : n < bk
  hH : ∀ x,(H x).size = n
  hn : 20 ≤ (n : Int)
  hn2 : (n : Int) ≤ 32
  hd6 : 6 ≤ (d : Int)
  hd10 : (d : Int) ≤ 10
  hp : 1 ≤ p
  hp2 : p ≤ 61
noncomputable def DevIs (w : World) (news : Led) (dv dd tr lf : Addr) (H : Array UInt8 → Array UInt8) (ky : Array UInt8) (n bk d : Nat) (p : Int) : Prop :=
  (dv,instObj 360 dd) ∈ news ∧ ConstOk w lf H news ∧ TabSt news 204 (posOf hmS) hmQ ∧ ∃ u t1 t2 nt kh,(tr,tupO lf n bk t1 t2 nt) ∈ news ∧ (dd,devObj w.params u tr ky kh d p) ∈ news ∧
    (kh = .none ∨ ∃ hf,kh = .ref hf ∧ HmacIs news hf (.ref lf) (pad54 H ky bk) (pad92 H ky bk))
section
variable {w : World} {A : Around} {D : SD} {hp h₀ : Heap} {gs : Array GenState} {dr : Drawn} {tk : Nat} {os : OsState} {L : Addr} {m : MP} {news : Led} {Q E : VP}
  {dv dd tr lf : Addr} {H : Array UInt8 → Array UInt8} {ky : Array UInt8} {n bk d : Nat} {p : Int}
theorem DevIs.mono {a b : Led} (h : DevIs w a dv dd tr lf H ky n bk d p) (k : ∀ q ∈ a,q ∈ b) : DevIs w b dv dd tr lf H ky n bk d p :=by
  k_extra "G"
  obtain ⟨h1,h2,h3,u,t1,t2,nt,kh,h4,h5,h6⟩ :=h
  k_unfold
  refine ⟨k _ h1,h2.mono (Keep.of_sub k),h3.mono k,u,t1,t2,nt,kh,k _ h4,k _ h5, ?_⟩
  rcases h6 with h6 | ⟨hf,e,h6⟩
  · exact .inl h6
  · exact .inr ⟨hf,e,h6.mono (Keep.of_sub k)⟩
theorem DevIs.el {P : Prop} (hD : DevIs w news dv dd tr lf H ky n bk d p) (k : ∀ (u : Nat → Tok) (t1 t2 : Tok) (nt : Nat) (kh : Value),(dv,instObj 360 dd) ∈ news → (tr,tupO lf n bk t1 t2 nt) ∈ news → (dd,devObj w.params u tr ky kh d p) ∈ news → P) : P :=
  hD.2.2.2.elim fun u h=>h.elim fun t1 h=>h.elim fun t2 h=>h.elim fun nt h=>h.elim fun kh h=>k u t1 t2 nt kh hD.1 h.1 h.2.1
noncomputable def Turns (dd : Addr) (a b : Led) : Prop :=∀ q ∈ a,q.1 ≠ 204 → q.1 ≠ dd → q ∈ b
theorem Turns.refl (a : Led) : Turns dd a a :=fun _ h _ _=>h
theorem Turns.trans {a b c : Led} (x : Turns dd a b) (y : Turns dd b c) : Turns dd a c :=fun q h h1 h2=>y q (x q h h1 h2) h1 h2
theorem Turns.of_sub {a b : Led} (k : ∀ q ∈ a,q ∈ b) : Turns dd a b :=fun q h _ _=>k q h
theorem Turns.keep {a b : Led} {h : Heap} (x : Turns dd a b) (N : News h₀ L h a) (hD : DevIs w a dv dd tr lf H ky n bk d p) : Keep a b :=fun q hq ht=>by
  k_extra "G"
  obtain ⟨_,_,h3,u,t1,t2,nt,kh,_,h5,_⟩ :=hD
  k_unfold
  refine x q hq (fun e=>?_) fun e=>?_
  · have e1 :=(N _ hq).1
    rw [e] at e1
    rcases h3 with h | ⟨c',oc,vs,t,h,_⟩
    · rw [(N _ h).1] at e1
      rw [← Option.some.inj e1] at ht
      cases ht
    · rw [(N _ h).1] at e1
      rw [← Option.some.inj e1] at ht
      cases ht
  · have e1 :=(N _ hq).1
    rw [e,(N _ h5).1] at e1
    rw [← Option.some.inj e1] at ht
    cases ht
theorem gen_any (hD : DevIs w news dv dd tr lf H ky n bk d p) (hO : DevOk H ky n bk d p) (c : Int) (tc : Tok) (hc0 : 0 ≤ c) (hc : c < 2 ^ 60)
   (hS : Site w A D h₀ L) (hR : Room A 5) (hF : Fr h₀ L hp m) (hN : News h₀ L hp news)
   (hret : ∀ (news' : Led) (t : Tok) (h' : Heap) (tk' : Nat),Fr h₀ L h' m → News h₀ L h' news' → Turns dd news news' → DevIs w news' dv dd tr lf H ky n bk d p → Q (.str (devT H ky n bk d c) t) ⟨h',gs,dr,tk',os⟩) :
      wpAny (model pw w) A (call (.ref 341) [.ref dv, .int c tc]) Q E ⟨hp,gs,dr,tk,os⟩ :=by
  have hD' :=hD
  k_extra "G"
  obtain ⟨h1,h2,h3,u,t1,t2,nt,kh,h4,h5,h6⟩ :=hD
  k_unfold
  rcases h6 with rfl | ⟨hf,rfl,h6⟩
  · refine gen_cold dv dd tr lf H ky n bk d p u t1 t2 nt c tc hO.hbk16 hO.hbk hO.hk2 hO.hnb hO.hH hO.hn hO.hn2 hO.hd6 hO.hd10 hc0 hc (fun nw k=>h2 nw (Turns.keep (dd :=dd) k hN hD')) h1 h5 h4 hS hR hF hN h3 fun hf news' t h' tk' F N k hI hT hdd=>?_
    have n1 :=h3.ne hN h1 (fun _ e=>by cases e)
    have n3 :=h3.ne hN h4 (fun _ e=>by cases e)
    have n4 : dv ≠ dd :=News.ne hN h1 h5 (fun e=>by cases e)
    have n5 : tr ≠ dd :=News.ne hN h4 h5 (fun e=>by have h :=congrArg Obj.data e;cases h)
    exact hret news' t h' tk' F N k ⟨k _ h1 n1 n4,h2.mono (Turns.keep (dd :=dd) k hN hD'),hT,u,t1,t2,nt, .ref hf,k _ h4 n3 n5,hdd, .inr ⟨hf,rfl,hI⟩⟩
  · obtain ⟨c1,c2⟩ :=h2 news (Keep.refl _)
    have s1 :=padB_size 54 (keyP_size (ky :=ky) hO.hH hO.hnb) hO.hbk
    have s2 :=padB_size 92 (keyP_size (ky :=ky) hO.hH hO.hnb) hO.hbk
    exact gen_hot dv dd tr hf lf H _ _ ky n bk d p u t1 t2 nt c tc s1 s2 hO.hH hO.hn hO.hn2 hO.hd6 hO.hd10 hc0 hc c1 c2 h6 h1 h5 h4 hS hR hF hN fun t h' tk' F N=>hret news t h' tk' F N (Turns.refl _) hD'
theorem gen_at {news0 : Led} (c : Int) (tc : Tok) (hS : Site w A D h₀ L) (hR : Room A 5) (hF : Fr h₀ L hp m) (hN : News h₀ L hp news) (hD : DevIs w news0 dv dd tr lf H ky n bk d p) (hsub : ∀ q ∈ news0,q ∈ news) (hO : DevOk H ky n bk d p) (hc0 : 0 ≤ c) (hc : c < 2 ^ 60)
   (hret : ∀ (news' : Led) (t : Tok) (h' : Heap) (tk' : Nat),Fr h₀ L h' m → News h₀ L h' news' → Turns dd news news' → DevIs w news' dv dd tr lf H ky n bk d p → Q (.str (devT H ky n bk d c) t) ⟨h',gs,dr,tk',os⟩) :
      wpAny (model pw w) A (call (.ref 341) [.ref dv, .int c tc]) Q E ⟨hp,gs,dr,tk,os⟩ :=gen_any (hD.mono hsub) hO c tc hc0 hc hS hR hF hN hret
noncomputable abbrev tokObj (P : Params) (u0 u1 u2 u3 u4 : Tok) (dv : Addr) (x : Str) (c : Int) : Obj :=dictOf [
  ⟨PyData.keyHash P (ofString "totp"), .str (ofString "totp") u0, .ref dv⟩,
  ⟨PyData.keyHash P (ofString "token"), .str (ofString "token") u1, .str x u3⟩,
  ⟨PyData.keyHash P (ofString "counter"), .str (ofString "counter") u2, .int c u4⟩] 3
theorem fdiv_bounds {a b : Int} (ha : 0 ≤ a) (hb : 1 ≤ b) : 0 ≤ a.fdiv b ∧ a.fdiv b ≤ a :=by
  rw [Int.fdiv_eq_ediv_of_nonneg a (by omega)]
  exact ⟨Int.ediv_nonneg ha (by omega),Int.ediv_le_self b ha⟩
theorem generate_spec (hD : DevIs w news dv dd tr lf H ky n bk d p) (hO : DevOk H ky n bk d p) (tm : Int) (tc : Tok) (hc0 : 0 ≤ tm) (hc : tm < 2 ^ 60)
   (hS : Site w A D h₀ L) (hR : Room A 7) (hF : Fr h₀ L hp m) (hN : News h₀ L hp news)
   (hret : ∀ (news' : Led) (x dx : Addr) (u0 u1 u2 u3 u4 : Tok) (h' : Heap) (tk' : Nat),Fr h₀ L h' m → News h₀ L h' ((x,instObj 404 dx) :: (dx,tokObj w.params u0 u1 u2 u3 u4 dv (devT H ky n bk d (tm.fdiv p)) (tm.fdiv p)) :: news') → Turns dd news news' → DevIs w news' dv dd tr lf H ky n bk d p → Q (.ref x) ⟨h',gs,dr,tk',os⟩) :
      wpAny (model pw w) A (call (.ref 334) [.ref dv, .int tm tc]) Q E ⟨hp,gs,dr,tk,os⟩ :=by
  have hD0 :=hD
  refine DevIs.el hD0 ?_;intro u t1 t2 nt kh h1 h4 h5
  have hp1 :=hO.hp
  have hp2 :=hO.hp2
  obtain ⟨hq0,hq2⟩ :=fdiv_bounds hc0 hp1
  have hq1 : tm.fdiv p < 2 ^ 60 :=by omega
  have hne : p ≠ 0 :=by omega
  refine wpAny_call ?_
  k_dflt k_extra "enter"
  k_extra "go"
  exact hret news' x' d' _ _ _ _ _ _ _ F0 N0 (fun q hq=>KT' q (.tail _ hq)) DV'
end
structure ZA (z TI TO i1 i2 : Addr) : Prop where
  TIz : TI ≠ z
  TOz : TO ≠ z
  i1z : i1 ≠ z
  i2z : i2 ≠ z
  TITO : TI ≠ TO
  TIi1 : TI ≠ i1
  TIi2 : TI ≠ i2
  TOi1 : TO ≠ i1
  TOi2 : TO ≠ i2
  i12 : i1 ≠ i2
noncomputable abbrev SIt (h : Heap) (i : Addr) (x : Str) (t : Tok) (k : Nat) : Prop :=h.IsStrIter i "str_ascii_iterator" x t k
theorem SIt.at {h h' : Heap} {i : Addr} {x : PySem.Str} {t : Tok} {k : Nat} (y : SIt h i x t k) (hk : ∀ o,h.get? i = some o → h'.get? i = some o) : SIt h' i x t k :=
  let ⟨o,ho,r⟩ :=y;⟨o,hk o ho,r⟩
section
variable {prog : Program} {w : World} {A : Around} {E : VP} {s : Shared}
theorem zipS_next_item {z TI TO i1 i2 : Addr} {x1 x2 : PySem.Str} {t1 t2 : Tok} {k c1 c2 : Nat} {a b : Value} {Q : VP} (D : ZA z TI TO i1 i2)
    (hz : IsZip s.heap z TI TO .none) (hTI : IsPair s.heap TI (.ref i1) (.ref i2)) (hTO : IsPair s.heap TO a b)
    (h1 : SIt s.heap i1 x1 t1 k) (h2 : SIt s.heap i2 x2 t2 k) (hx : x1.cps[k]? = some c1) (hy : x2.cps[k]? = some c2)
    (hQ : ∀ h' u v tk,IsZip h' z TI TO (rawInt s.heap.objs.size) → IsPair h' TO (.str ⟨#[c1]⟩ u) (.str ⟨#[c2]⟩ v) → SIt h' i1 x1 t1 (k + 1) → SIt h' i2 x2 t2 (k + 1) → IsPair h' s.heap.objs.size (.str ⟨#[c1]⟩ u) (.str ⟨#[c2]⟩ v) → h'.objs.size = s.heap.objs.size + 1 →
      (∀ c o,c ≠ z → c ≠ TO → c ≠ i1 → c ≠ i2 → s.heap.get? c = some o → h'.get? c = some o) → Q (.ref s.heap.objs.size) { s with heap :=h',toks :=tk }) :
    wpAny (model prog w) A (Builtin.«zip.__next__» ⟨[.ref z], []⟩) (fun fin s'=>∃ v,fin = .done (.ret v) ∧ Q v s') E s :=by
  show wpAny _ _ (field (.ref z) 2 >>= _) _ _ _
  refine wpAny_bind (wpAny_field hz rfl (x :=.bool false) rfl ?_)
  show wpAny _ _ (field (.ref z) 3 >>= _) _ _ _
  refine wpAny_bind (wpAny_field hz rfl (x :=.ref TI) rfl ?_)
  refine wpAny_bind (wpAny_seqItems hTI rfl ?_)
  show wpAny _ _ (Builtin.SmallTypes.ownedTupleIsFree (.ref z) >>= _) _ _ _
  refine wpAny_bind ?_
  unfold Builtin.SmallTypes.ownedTupleIsFree
  refine wpAny_bind (wpAny_field hz rfl (x :=.none) rfl (wpAny_pure ?_))
  refine wpAny_bind (wpAny_rule ?_)
  refine wpAny_bind (wpAny_field hz rfl (x :=.ref TO) rfl ?_)
  refine wpAny_bind (wpAny_setField_rec hz (by simp) fun h₁ hz₁ hs₁=>?_)
  replace hz₁ : IsZip h₁ z TI TO .ellipsis :=hz₁
  refine wpAny_bind ?_
  dsimp only [List.zipIdx_cons,List.zipIdx_nil,List.forIn_cons,List.forIn_nil]
  refine wpAny_bind (wpAny_bind (wpAny_onRaise ?_))
  show wpAny _ _ (Builtin.SmallTypes.nextOf (.ref i1) >>= _) _ _ _
  refine wpAny_bind (wpAny_nextOf_ascii_item (h1.extBut hs₁.extBut D.i1z) hx fun h₂ h1₂ hs₂=>wpAny_pure ?_)
  have hTO₂ : IsPair h₂ TO a b :=hs₂.extBut _ _ D.TOi1 (hs₁.extBut _ _ D.TOz hTO)
  refine wpAny_bind (wpAny_seqItems hTO₂ rfl ?_)
  refine wpAny_bind (wpAny_updateSeq_pair hTO₂ fun h₃ hTO₃ hs₃=>?_)
  replace hTO₃ : IsPair h₃ TO (.str ⟨#[c1]⟩ s.toks) b :=hTO₃
  refine wpAny_bind (wpAny_letGo (wpAny_pure ?_))
  refine wpAny_bind (wpAny_bind (wpAny_onRaise ?_))
  show wpAny _ _ (Builtin.SmallTypes.nextOf (.ref i2) >>= _) _ _ _
  refine wpAny_bind (wpAny_nextOf_ascii_item (((h2.extBut hs₁.extBut D.i2z).extBut hs₂.extBut D.i12.symm).extBut hs₃.extBut D.TOi2.symm)
    hy fun h₄ h2₄ hs₄=>wpAny_pure ?_)
  have hTO₄ : IsPair h₄ TO (.str ⟨#[c1]⟩ s.toks) b :=hs₄.extBut _ _ D.TOi2 hTO₃
  refine wpAny_bind (wpAny_seqItems hTO₄ rfl ?_)
  refine wpAny_bind (wpAny_updateSeq_pair hTO₄ fun h₅ hTO₅ hs₅=>?_)
  replace hTO₅ : IsPair h₅ TO (.str ⟨#[c1]⟩ s.toks) (.str ⟨#[c2]⟩ (s.toks + 1)) :=hTO₅
  refine wpAny_bind (wpAny_letGo (wpAny_pure (wpAny_pure ?_)))
  refine wpAny_bind (wpAny_seqItems hTO₅ rfl ?_)
  refine wpAny_bind (wpAny_newTuple ?_)
  have hsz : h₅.objs.size = s.heap.objs.size :=by rw [hs₅.1,hs₄.1,hs₃.1,hs₂.1,hs₁.1]
  have hz₅ : IsZip h₅ z TI TO .ellipsis :=hs₅.extBut _ _ D.TOz.symm (hs₄.extBut _ _ D.i2z.symm (hs₃.extBut _ _ D.TOz.symm (hs₂.extBut _ _ D.i1z.symm hz₁)))
  have hk₅ : ∀ c o,c ≠ z → c ≠ TO → c ≠ i1 → c ≠ i2 → s.heap.get? c = some o → h₅.get? c = some o :=fun c o c1 c2 c3 c4 e =>
    hs₅.extBut _ _ c2 (hs₄.extBut _ _ c4 (hs₃.extBut _ _ c2 (hs₂.extBut _ _ c3 (hs₁.extBut _ _ c1 e))))
  have h1₅ : SIt h₅ i1 x1 t1 (k + 1) :=((h1₂.extBut hs₃.extBut D.TOi1.symm).extBut hs₄.extBut D.i12).extBut hs₅.extBut D.TOi1.symm
  have h2₅ : SIt h₅ i2 x2 t2 (k + 1) :=h2₄.extBut hs₅.extBut D.TOi2.symm
  have hzlt : z < h₅.objs.size :=Heap.lt_size hz₅
  have hTOlt : TO < h₅.objs.size :=Heap.lt_size hTO₅
  show wpAny _ _ (Builtin.SmallTypes.ownedTupleHandOut (.ref z) (.ref h₅.objs.size) >>= _) _ _ _
  refine wpAny_bind ?_
  unfold Builtin.SmallTypes.ownedTupleHandOut
  have hz₆ : IsZip (h₅.push { cls :=.type "tuple",data :=.seq #[.str ⟨#[c1]⟩ s.toks, .str ⟨#[c2]⟩ (s.toks + 1)] }) z TI TO .ellipsis :=Heap.get?_push_of_some _ hz₅
  refine wpAny_bind (wpAny_setField_rec hz₆ (by simp) fun h₇ hz₇ hs₇=>?_)
  replace hz₇ : IsZip h₇ z TI TO (rawInt h₅.objs.size) :=hz₇
  refine wpAny_setField_rec hz₇ (by simp) fun h₈ hz₈ hs₈=>?_
  replace hz₈ : IsZip h₈ z TI TO (rawInt h₅.objs.size) :=hz₈
  have up : ∀ c o,c ≠ z → h₅.get? c = some o → h₈.get? c = some o :=fun c o c1 e=>hs₈.extBut _ _ c1 (hs₇.extBut _ _ c1 (Heap.get?_push_of_some _ e))
  have hT₈ : IsPair h₈ h₅.objs.size (.str ⟨#[c1]⟩ s.toks) (.str ⟨#[c2]⟩ (s.toks + 1)) :=hs₈.extBut _ _ (Nat.ne_of_gt hzlt) (hs₇.extBut _ _ (Nat.ne_of_gt hzlt) (Heap.get?_push_size _ rfl))
  have hz8 : h₈.objs.size = h₅.objs.size + 1 :=by rw [hs₈.1,hs₇.1,Heap.size_push]
  rw [hsz] at hz₈ hT₈ hz8
  refine wpAny_pure ⟨_,rfl, ?_⟩
  show Q (.ref h₅.objs.size) _
  rw [hsz]
  exact hQ h₈ _ _ _ hz₈ (up _ _ D.TOz hTO₅) (h1₅.at fun o e=>up _ o D.i1z e) (h2₅.at fun o e=>up _ o D.i2z e) hT₈ hz8 fun c o c1 c2 c3 c4 e=>up c o c1 (hk₅ c o c1 c2 c3 c4 e)
theorem zipS_next_end {z TI TO i1 i2 : Addr} {x1 : PySem.Str} {t1 : Tok} {k : Nat} {a b : Value} {Q : Fin → Shared → Prop} (hh : A.handled = none) (D : ZA z TI TO i1 i2)
    (hz : IsZip s.heap z TI TO .none) (hTI : IsPair s.heap TI (.ref i1) (.ref i2)) (hTO : IsPair s.heap TO a b)
    (h1 : SIt s.heap i1 x1 t1 k) (hx : x1.cps[k]? = none)
    (hE : ∀ h' e,(∀ c o,c ≠ z → c ≠ TO → c ≠ i1 → c ≠ i2 → s.heap.get? c = some o → h'.get? c = some o) → (∃ o,h'.get? e = some o ∧ o.cls = .type "StopIteration") → E (.ref e) { s with heap :=h' }) :
    wpAny (model prog w) A (Builtin.«zip.__next__» ⟨[.ref z], []⟩) Q E s :=by
  show wpAny _ _ (field (.ref z) 2 >>= _) _ _ _
  refine wpAny_bind (wpAny_field hz rfl (x :=.bool false) rfl ?_)
  show wpAny _ _ (field (.ref z) 3 >>= _) _ _ _
  refine wpAny_bind (wpAny_field hz rfl (x :=.ref TI) rfl ?_)
  refine wpAny_bind (wpAny_seqItems hTI rfl ?_)
  show wpAny _ _ (Builtin.SmallTypes.ownedTupleIsFree (.ref z) >>= _) _ _ _
  refine wpAny_bind ?_
  unfold Builtin.SmallTypes.ownedTupleIsFree
  refine wpAny_bind (wpAny_field hz rfl (x :=.none) rfl (wpAny_pure ?_))
  refine wpAny_bind (wpAny_rule ?_)
  refine wpAny_bind (wpAny_field hz rfl (x :=.ref TO) rfl ?_)
  refine wpAny_bind (wpAny_setField_rec hz (by simp) fun h₁ hz₁ hs₁=>?_)
  replace hz₁ : IsZip h₁ z TI TO .ellipsis :=hz₁
  refine wpAny_bind ?_
  refine wpAny_bind (wpAny_bind (wpAny_onRaise ?_))
  show wpAny _ _ (Builtin.SmallTypes.nextOf (.ref i1) >>= _) _ _ _
  refine wpAny_bind (wpAny_nextOf_ascii_end hh (h1.extBut hs₁.extBut D.i1z) hx fun h₂ e hs₂ he=>?_)
  obtain ⟨oe,hoe,hce⟩ :=he
  have hz₂ : IsZip h₂ z TI TO .ellipsis :=hs₂ _ _ D.i1z.symm hz₁
  have hez : e ≠ z :=fun x=>by subst x;rw [hz₂] at hoe;cases hoe;simp at hce
  refine wpAny_setField_rec hz₂ (by simp) fun h₃ _ hs₃=>hE h₃ e (fun c o c1 _ c3 _ x=>hs₃.extBut _ _ c1 (hs₂ _ _ c3 (hs₁.extBut _ _ c1 x))) ⟨oe,hs₃.extBut _ _ hez hoe,hce⟩
theorem KTurns.zipS (hh : A.handled = none) {elts : List PySem.Expr} {kk : Nat} {pos : Pos} (z TI TO i1 i2 : Addr) (x1 x2 : Str) (t1 t2 : Tok) (D : ZA z TI TO i1 i2) (hn : x1.cps.size = x2.cps.size) :
    KTurns prog w A (.Tuple elts kk pos) z [z,TI,TO,i1,i2] [z,TO,i1,i2] x1.cps.size
      (fun i v h=>∃ T c1 c2 u1 u2,v = .ref T ∧ x1.cps[i]? = some c1 ∧ x2.cps[i]? = some c2 ∧ h.get? T = some { cls :=.type "tuple",data :=.seq #[.str ⟨#[c1]⟩ u1, .str ⟨#[c2]⟩ u2] })
      (fun i v h=>∃ T c1 c2 u1 u2,v = .ref T ∧ x1.cps[i]? = some c1 ∧ x2.cps[i]? = some c2 ∧ h.get? T = some { cls :=.type "tuple",data :=.seq #[.str ⟨#[c1]⟩ u1, .str ⟨#[c2]⟩ u2] } ∧ T ≠ z ∧
        IsZip h z TI TO (rawInt T) ∧ IsPair h TI (.ref i1) (.ref i2) ∧ (∃ a b,IsPair h TO a b) ∧ SIt h i1 x1 t1 (i + 1) ∧ SIt h i2 x2 t2 (i + 1))
      (fun i h=>IsZip h z TI TO .none ∧ IsPair h TI (.ref i1) (.ref i2) ∧ (∃ a b,IsPair h TO a b) ∧ SIt h i1 x1 t1 i ∧ SIt h i2 x2 t2 i) where
  sub :=fun c hc=>by simp at hc ⊢;rcases hc with rfl | rfl | rfl | rfl <;> simp
  frame :=fun i h h' hst hk=>by
    obtain ⟨hz,hTI,⟨a,b,hTO⟩,h1,h2⟩ :=hst
    exact ⟨hk z (by simp) _ hz,hk TI (by simp) _ hTI,⟨a,b,hk TO (by simp) _ hTO⟩,h1.at fun o e=>hk i1 (by simp) o e,h2.at fun o e=>hk i2 (by simp) o e⟩
  item :=fun i s Q E hi hst hQ=>by
    obtain ⟨hz,hTI,⟨a,b,hTO⟩,h1,h2⟩ :=hst
    have hix : i < x1.cps.size :=hi
    have hiy : i < x2.cps.size :=hn ▸ hi
    have hT : s.TypeIs (.ref z) "zip" :=⟨_,hz,rfl⟩
    have e1 : x1.cps[i]? = some x1.cps[i] :=Array.getElem?_eq_getElem hix
    have e2 : x2.cps[i]? = some x2.cps[i] :=Array.getElem?_eq_getElem hiy
    unfold pyNext
    refine wpAny_bind (wpAny_attempt (wpAny_callSpecial?_slot (name :=ofString "__next__") hT F.slot_zip_next
      (wpAny_call_entry F.slot_zip_next hT F.entry_zip_next
        (zipS_next_item D hz hTI hTO h1 h2 e1 e2 fun h' u v tk a1 a2 a3 a4 a5 a6 hk=>wpAny_pure ?_) (F.args_zip_next_1 _))))
    have lt : ∀ {c o},s.heap.get? c = some o → s.heap.objs.size ≠ c :=fun e=>Nat.ne_of_gt (Heap.lt_size e)
    exact hQ (.ref s.heap.objs.size) h' tk ⟨_,_,_,u,v,rfl,e1,e2,a5,lt hz,a1,hk _ _ D.TIz D.TITO D.TIi1 D.TIi2 hTI,⟨_,_,a2⟩,a3,a4⟩
      fun c o hc e=>hk c o (fun x=>hc (by simp [x])) (fun x=>hc (by simp [x])) (fun x=>hc (by simp [x])) (fun x=>hc (by simp [x])) e
  go :=fun i v s Q E hm hQ=>by
    obtain ⟨T,c1,c2,u1,u2,rfl,e1,e2,hT,tz,hz,hTI,⟨a,b,hTO⟩,h1,h2⟩ :=hm
    exact wpAny_letOwnedTupleGo_zip hz fun h' hz' hs'=>hQ h' ⟨T,c1,c2,u1,u2,rfl,e1,e2,hs'.extBut _ _ tz hT⟩ ⟨hz',hs'.extBut _ _ D.TIz hTI,⟨a,b,hs'.extBut _ _ D.TOz hTO⟩,h1.extBut hs'.extBut D.i1z,h2.extBut hs'.extBut D.i2z⟩
      fun c o hc e=>hs'.extBut _ _ (fun x=>hc (by simp [x])) e
  done :=fun s Q E hst hQ=>by
    obtain ⟨hz,hTI,⟨a,b,hTO⟩,h1,h2⟩ :=hst
    have hT : s.TypeIs (.ref z) "zip" :=⟨_,hz,rfl⟩
    unfold pyNext
    refine wpAny_bind (wpAny_attempt (wpAny_callSpecial?_slot (name :=ofString "__next__") hT F.slot_zip_next
      (wpAny_call_entry F.slot_zip_next hT F.entry_zip_next (zipS_next_end hh D hz hTI hTO h1 (Array.getElem?_eq_none (Nat.le_refl _)) fun h' e hk he=>?_) (F.args_zip_next_1 _))))
    obtain ⟨o,ho,hc⟩ :=he
    refine wpAny_bind (wpAny_isInstance (T :="StopIteration") (b :=true) ⟨o,ho,hc⟩ isSubtype_stop ?_)
    exact wpAny_pure (hQ _ s.toks fun c o hc e=>hk c o (fun x=>hc (by simp [x])) (fun x=>hc (by simp [x])) (fun x=>hc (by simp [x])) (fun x=>hc (by simp [x])) e)
noncomputable abbrev zS1 (h : Heap) (x : Str) (t : Tok) : Heap :=h.push { cls :=.type "str_ascii_iterator",data :=.fields #[.str x t, .int 0 0] }
noncomputable abbrev zS2 (h : Heap) (x y : Str) (t u : Tok) : Heap :=(zS1 h x t).push { cls :=.type "str_ascii_iterator",data :=.fields #[.str y u, .int 0 0] }
noncomputable abbrev zS3 (h : Heap) (x y : Str) (t u : Tok) : Heap :=(zS2 h x y t u).push { cls :=.type "tuple",data :=.seq #[.ref h.objs.size, .ref (zS1 h x t).objs.size] }
noncomputable abbrev zS4 (h : Heap) (x y : Str) (t u : Tok) : Heap :=(zS3 h x y t u).push { cls :=.type "tuple",data :=.seq #[.none, .none] }
noncomputable abbrev zS5 (h : Heap) (x y : Str) (t u : Tok) : Heap :=(zS4 h x y t u).push { cls :=.type "zip",data :=.fields #[.none, .bool false, .bool false, .ref (zS2 h x y t u).objs.size, .ref (zS3 h x y t u).objs.size] }
theorem meets_zipS (x y : Str) (t u : Tok) (hx : x.cps.all (· < 128) = true) (hy : y.cps.all (· < 128) = true) :
    Meets (Builtin.«zip.__new__» ⟨[.type "zip", .str x t, .str y u], []⟩) (fun _ R s=>
      R (.ok (.ret (.ref (zS4 s.heap x y t u).objs.size))) { s with heap :=zS5 s.heap x y t u }) :=
  .of_wp fun prog w A R s h=>by
    obtain ⟨hp,g,d,tk,os⟩ :=s
    have hsub :=sub_zip
    have e1 : ∀ {Q : Value × List Value → Shared → Prop} {E : VP} {s : Shared},Q (.type "zip", [.str x t, .str y u]) s → wpAny (model prog w) A.in1 (Builtin.SmallTypes.newClass "zip" ⟨[.type "zip", .str x t, .str y u], []⟩) Q E s :=by
      intro Q E s hq
      wp_walk
      exact hq
    refine wpAny_bind (e1 ?_)
    have e2 : ∀ {Q : List Value → Shared → Prop} {E : VP},Q [.ref hp.objs.size, .ref (zS1 hp x t).objs.size] ⟨zS2 hp x y t u,g,d,tk,os⟩ → wpAny (model prog w) A.in1 (Builtin.SmallTypes.iterAll [.str x t, .str y u]) Q E ⟨hp,g,d,tk,os⟩ :=by
      intro Q E hq
      wp_walk using wpAny_pyIter_ascii hx,wpAny_pyIter_ascii hy
      exact hq
    refine (?_ : wpAny _ _ (Builtin.SmallTypes.iterAll [.str x t, .str y u] >>= _) _ _ _)
    refine wpAny_bind (e2 ?_)
    refine wpAny_bind (wpAny_newTuple (wpAny_bind (wpAny_newTuple ?_)))
    wp_walk
    exact ⟨_,rfl,h⟩
theorem call_zipS {x y : PySem.Str} {t u : Tok} {Q : VP} (hx : x.cps.all (· < 128) = true) (hy : y.cps.all (· < 128) = true)
    (h : ∀ h',IsZip h' (s.heap.objs.size + 4) (s.heap.objs.size + 2) (s.heap.objs.size + 3) .none → IsPair h' (s.heap.objs.size + 2) (.ref s.heap.objs.size) (.ref (s.heap.objs.size + 1)) →
      IsPair h' (s.heap.objs.size + 3) .none .none → SIt h' s.heap.objs.size x t 0 → SIt h' (s.heap.objs.size + 1) y u 0 → h'.objs.size = s.heap.objs.size + 5 →
      (∀ c o,s.heap.get? c = some o → h'.get? c = some o) → Q (.ref (s.heap.objs.size + 4)) { s with heap :=h' }) :
    wpAny (model prog w) A (call (.type "zip") [.str x t, .str y u]) Q E s :=by
  refine callType_new F.called_zip (by decide) (F.typeCall_zip_2 _ _) (F.newCall_zip_2 _ _) (fun obj=>F.args_object_init_3 obj _ _) F.entry_zip_new
    (meets_zipS x y t u hx hy) ?_
  have z1 : (zS1 s.heap x t).objs.size = s.heap.objs.size + 1 :=Heap.size_push ..
  have z2 : (zS2 s.heap x y t u).objs.size = s.heap.objs.size + 2 :=by rw [Heap.size_push,z1]
  have z3 : (zS3 s.heap x y t u).objs.size = s.heap.objs.size + 3 :=by rw [Heap.size_push,z2]
  have z4 : (zS4 s.heap x y t u).objs.size = s.heap.objs.size + 4 :=by rw [Heap.size_push,z3]
  have z5 : (zS5 s.heap x y t u).objs.size = s.heap.objs.size + 5 :=by rw [Heap.size_push,z4]
  have g5 : (zS5 s.heap x y t u).get? (zS4 s.heap x y t u).objs.size = some _ :=Heap.get?_push_size _ rfl
  have g4 : (zS5 s.heap x y t u).get? (zS3 s.heap x y t u).objs.size = some _ :=Heap.get?_push_of_some _ (Heap.get?_push_size _ rfl)
  have g3 : (zS5 s.heap x y t u).get? (zS2 s.heap x y t u).objs.size = some _ :=Heap.get?_push_of_some _ (Heap.get?_push_of_some _ (Heap.get?_push_size _ rfl))
  have g2 : (zS5 s.heap x y t u).get? (zS1 s.heap x t).objs.size = some _ :=Heap.get?_push_of_some _ (Heap.get?_push_of_some _ (Heap.get?_push_of_some _ (Heap.get?_push_size _ rfl)))
  have g1 : (zS5 s.heap x y t u).get? s.heap.objs.size = some _ :=Heap.get?_push_of_some _ (Heap.get?_push_of_some _ (Heap.get?_push_of_some _ (Heap.get?_push_of_some _ (Heap.get?_push_size _ rfl))))
  show _ ∧ _
  rw [z2,z3,z4] at g5
  rw [z1,z2] at g3
  rw [z3] at g4
  rw [z1] at g2
  rw [z4]
  exact ⟨⟨_,g5,rfl⟩,h _ g5 g3 g4 ⟨_,g1,rfl,rfl⟩ ⟨_,g2,rfl,rfl⟩ z5 fun c o x =>
    Heap.get?_push_of_some _ (Heap.get?_push_of_some _ (Heap.get?_push_of_some _ (Heap.get?_push_of_some _ (Heap.get?_push_of_some _ x))))⟩
end
theorem bitOr_nn {a b : Int} (ha : 0 ≤ a) (hb : 0 ≤ b) : 0 ≤ Builtin.bitOr a b ∧ (Builtin.bitOr a b = 0 ↔ a = 0 ∧ b = 0) :=by
  rw [bitOr_and]
  have e : Builtin.bitAnd a b = ((a.toNat &&& b.toNat : Nat) : Int) :=by
    unfold Builtin.bitAnd
    rw [decide_eq_true ha,decide_eq_true hb]
  have h1 :=Nat.and_le_left (n :=a.toNat) (m :=b.toNat)
  have h2 :=Nat.and_le_right (n :=a.toNat) (m :=b.toNat)
  rw [e]
  omega
theorem bitXor_nn {a b : Nat} : 0 ≤ Builtin.bitXor (a : Int) (b : Int) ∧ (Builtin.bitXor (a : Int) (b : Int) = 0 ↔ a = b) :=by
  rw [bitXor_and]
  have e : Builtin.bitAnd (a : Int) (b : Int) = ((a &&& b : Nat) : Int) :=by
    unfold Builtin.bitAnd
    rw [decide_eq_true (Int.natCast_nonneg a),decide_eq_true (Int.natCast_nonneg b)]
    rfl
  have h1 :=Nat.and_le_left (n :=a) (m :=b)
  have h2 :=Nat.and_le_right (n :=a) (m :=b)
  rw [e]
  constructor
  · omega
  constructor
  · omega
  · intro h
    subst h
    rw [Nat.and_self]
    lia
structure EqAt (x y : Str) (i : Nat) (r : Int) : Prop where
  nn : 0 ≤ r
  z : r = 0 ↔ ∀ j < i,x.cps[j]? = y.cps[j]?
theorem EqAt.zero {x y : PySem.Str} : EqAt x y 0 0 :=⟨Int.le_refl _,by simp⟩
theorem EqAt.next {x y : PySem.Str} {i c1 c2 : Nat} {r : Int} (h : EqAt x y i r) (h1 : x.cps[i]? = some c1) (h2 : y.cps[i]? = some c2) : EqAt x y (i + 1) (Builtin.bitOr r (Builtin.bitXor (c1 : Int) (c2 : Int))) :=by
  obtain ⟨a1,a2⟩ :=bitXor_nn (a :=c1) (b :=c2)
  obtain ⟨b1,b2⟩ :=bitOr_nn h.nn a1
  refine ⟨b1,b2.trans ?_⟩
  rw [h.z,a2]
  constructor
  · rintro ⟨hj,rfl⟩ j hlt
    by_cases e : j = i
    · rw [e,h1,h2]
    · exact hj j (by omega)
  · intro hj
    refine ⟨fun j hlt=>hj j (by omega), ?_⟩
    have :=hj i (by exact Nat.lt_succ_self _)
    rw [h1,h2] at this
    exact Option.some.inj this
theorem EqAt.done {x y : PySem.Str} {r : Int} (hn : x.cps.size = y.cps.size) (h : EqAt x y x.cps.size r) : (decide (r = 0)) = decide (x = y) :=by
  congr 1
  rw [eq_iff_iff,h.z]
  constructor
  · intro hj
    have e : x.cps = y.cps :=by
      apply Array.ext hn
      intro i h1 h2
      have :=hj i h1
      rw [Array.getElem?_eq_getElem h1,Array.getElem?_eq_getElem h2] at this
      exact Option.some.inj this
    cases x;cases y;simp only at e;rw [e]
  · rintro rfl j _
    rfl
theorem turns_mk {prog : Program} {w : World} {A : Around} {h₀ : Heap} {env : Env} {target : PySem.Expr} {body : List Stmt} {Q : FP} {E : VP} {it : Value} {s₂ : Shared}
    (I : Addr) (fp wr : List Addr) (n : Nat) (P Md : Nat → Value → Heap → Prop) (St : Nat → Heap → Prop) (m : MP) (news : Led) (J : Nat → (Str → Option Value) → List (Addr × Obj) → Prop)
    (a : it = .ref I) (b : KTurns prog w A target I fp wr n P Md St) (c : env.locals ∉ fp) (e : ∀ b ∈ wr,h₀.get? b = none) (f : ∀ p ∈ news,p.1 ∉ wr) (g : St 0 s₂.heap) (h : Fr h₀ env.locals s₂.heap m) (k : News h₀ env.locals s₂.heap news) (l : J 0 m news)
    (st : ∀ i v m₁ news₁ h₁ tk₁ own,i < n → P i v h₁ → J i m₁ news₁ → (∀ p ∈ news₁,p.1 ∉ wr) → (∀ p ∈ own,p.1 ∈ fp) → (∀ p ∈ own,h₁.get? p.1 = some p.2) → (∀ b ∈ fp,h₀.get? b = none → ∀ o,h₁.get? b = some o → (b,o) ∈ own) → St (i + 1) h₁ → Fr h₀ env.locals h₁ m₁ → News h₀ env.locals h₁ (own ++ news₁) →
      wpAny (model prog w) A (assign target env v) (fun _ s₃=>wpAny (model prog w) A (execs body env) (LoopStepV h₀ env.locals wr own (J (i + 1)) { s₂ with heap :=h₁,toks :=tk₁ } (fun v s'=>Q (.ret v) s') fun s'=>Q .next s') E s₃) E { s₂ with heap :=h₁,toks :=tk₁ })
    (en : ∀ h' tk m' news',Fr h₀ env.locals h' m' → News h₀ env.locals h' news' → (∀ p ∈ news',p.1 ∉ wr) → J n m' news' → Q .next { s₂ with heap :=h',toks :=tk }) : TurnsAt prog w A h₀ env target body Q E it s₂ :=
  ⟨I,fp,wr,n,P,Md,St,m,news,J,a,b,c,e,f,g,h,k,l,st,en⟩
section
variable {w : World} {prog : Program} {A : Around} {E : VP} {h h₀ : Heap} {g : Array GenState} {d : Drawn} {t : Nat} {os : OsState} {m : MP} {news : Led} {env : Env}
theorem lenS {Q : VP} {x : PySem.Str} {n : Nat} {u : Tok} (hb : x.cps.size = n) (hn : n ≤ 2 ^ 21) (hq : ∀ u t',Q (.int (n : Int) u) ⟨h,g,d,t',os⟩) : wpAny (model prog w) A (call (.builtin "len") [.str x u]) Q E ⟨h,g,d,t,os⟩ :=by
  have e : x.length = n :=hb
  exact len_str (by rw [e];exact Om.c16 ‹_› (by kernel_rfl!)) (by rw [e];exact hq _ _)
theorem eqSame {Q : VP} {a : Int} {u v : Tok} (hq : ∀ t',Q (.bool true) ⟨h,g,d,t',os⟩) : wpAny (model prog w) A (compareOp .Eq (.int a u) (.int a v)) Q E ⟨h,g,d,t,os⟩ :=P.eq_int (by rw [beq_self_eq_true];exact hq _)
theorem eqT {Q : VP} {a b : Int} {u v : Tok} (e : a = b) (hq : ∀ t',Q (.bool true) ⟨h,g,d,t',os⟩) : wpAny (model prog w) A (compareOp .Eq (.int a u) (.int b v)) Q E ⟨h,g,d,t,os⟩ :=by subst e;exact eqSame hq
theorem eqF {Q : VP} {a b : Int} {u v : Tok} (e : a ≠ b) (hq : ∀ t',Q (.bool false) ⟨h,g,d,t',os⟩) : wpAny (model prog w) A (compareOp .Eq (.int a u) (.int b v)) Q E ⟨h,g,d,t,os⟩ :=P.eq_int (by rw [beq_eq_false_iff_ne.mpr e];exact hq _)
theorem eqD {Q : VP} {a b : Int} {c : Bool} {u v : Tok} (e : decide (a = b) = c) (hq : ∀ t',Q (.bool c) ⟨h,g,d,t',os⟩) : wpAny (model prog w) A (compareOp .Eq (.int a u) (.int b v)) Q E ⟨h,g,d,t,os⟩ :=P.eq_int (by rw [show (a == b) = decide (a = b) from rfl,e];exact hq _)
theorem neSame {Q : VP} {a : Int} {u v : Tok} (hq : ∀ t',Q (.bool false) ⟨h,g,d,t',os⟩) : wpAny (model prog w) A (compareOp .NotEq (.int a u) (.int a v)) Q E ⟨h,g,d,t,os⟩ :=P.ne_int (by rw [bne_self_eq_false];exact hq _)
theorem neT {Q : VP} {a b : Int} {u v : Tok} (e : a ≠ b) (hq : ∀ t',Q (.bool true) ⟨h,g,d,t',os⟩) : wpAny (model prog w) A (compareOp .NotEq (.int a u) (.int b v)) Q E ⟨h,g,d,t,os⟩ :=P.ne_int (by rw [bne_iff_ne.mpr e];exact hq _)
theorem orI {Q : VP} {a b : Int} {u v : Tok} (hq : ∀ u t',Q (.int (Builtin.bitOr a b) u) ⟨h,g,d,t',os⟩) : wpAny (model prog w) A (inplaceOp .BitOr (.int a u) (.int b v)) Q E ⟨h,g,d,t,os⟩ :=ior_int (hq _ _)
theorem xorI {Q : VP} {a b : Int} {u v : Tok} (hq : ∀ u t',Q (.int (Builtin.bitXor a b) u) ⟨h,g,d,t',os⟩) : wpAny (model prog w) A (binaryOp .BitXor (.int a u) (.int b v)) Q E ⟨h,g,d,t,os⟩ :=xor_int (hq _ _)
theorem ordI {Q : VP} {c : Nat} {u : Tok} (hq : ∀ u t',Q (.int (c : Int) u) ⟨h,g,d,t',os⟩) : wpAny (model prog w) A (call (.builtin "ord") [.str ⟨#[c]⟩ u]) Q E ⟨h,g,d,t,os⟩ :=P.ord_of_char (hq _ _)
noncomputable def zLoc (m : MP) (v1 v2 vr : Option Value) : Str → Option Value :=
  fun y=>if y = ofString "result" then vr else if y = ofString "r" then v2 else if y = ofString "l" then v1 else m y
theorem zLoc_next (m : MP) (v1 v2 vr w1 w2 wr : Option Value) : (fun y=>if y = ofString "result" then wr else if y = ofString "r" then w2 else if y = ofString "l" then w1 else zLoc m v1 v2 vr y) = zLoc m w1 w2 wr :=by
  funext y
  unfold zLoc
  by_cases e1 : y = ofString "result"
  · simp [e1]
  · by_cases e2 : y = ofString "r"
    · simp [e2]
    · by_cases e3 : y = ofString "l"
      · simp [e3]
      · simp [e1,e2,e3]
theorem zFr {L : Addr} {v1 v2 vr w1 w2 wr : Option Value} (F : Fr h₀ L h (fun y=>if y = ofString "result" then wr else if y = ofString "r" then w2 else if y = ofString "l" then w1 else zLoc m v1 v2 vr y)) : Fr h₀ L h (zLoc m w1 w2 wr) :=zLoc_next .. ▸ F
theorem forZipS0 {body : List Stmt} {pos : Pos} {Q : FP} {x y : PySem.Str} {u v : Tok} {elts : List PySem.Expr} {kk : Nat} {pz : Pos} {it : PySem.Expr} {t0 : Tok}
    (hh : A.handled = none) (F : Fr h₀ env.locals h m) (N : News h₀ env.locals h news) (hx : x.cps.all (· < 128) = true) (hy : y.cps.all (· < 128) = true) (hn : x.cps.size = y.cps.size) (hr : m (ofString "result") = some (.int 0 t0))
    (hs : ∀ a,foldedSetIterable it env a = pure a)
    (hE : PassesOwn (model prog w) A env E)
    (hev : ∀ Q' : VP,(∀ h' t',Fr h₀ env.locals h' m → News h₀ env.locals h' news → wpAny (model prog w) A (call (.type "zip") [.str x u, .str y v]) Q' E ⟨h',g,d,t',os⟩) → wpAny (model prog w) A (eval it env) Q' E ⟨h,g,d,t,os⟩)
    (step : ∀ (Q' : FP) (T : Addr) (c1 c2 : Nat) (u1 u2 : Tok) (v1 v2 : Option Value) (r : Int) (t1 : Tok) own h₁ tk₁,IsTup h₁ T #[.str ⟨#[c1]⟩ u1, .str ⟨#[c2]⟩ u2] → Fr h₀ env.locals h₁ (zLoc m v1 v2 (some (.int r t1))) → News h₀ env.locals h₁ (own ++ news) →
      (∀ u1 u2 t2 h' tk',Fr h₀ env.locals h' (zLoc m (some (.str ⟨#[c1]⟩ u1)) (some (.str ⟨#[c2]⟩ u2)) (some (.int (Builtin.bitOr r (Builtin.bitXor (c1 : Int) (c2 : Int))) t2))) → News h₀ env.locals h' (own ++ news) → Q' .next ⟨h',g,d,tk',os⟩) →
      wpAny (model prog w) A (assign (.Tuple elts kk pz) env (.ref T)) (fun _ s₃=>wpAny (model prog w) A (execs body env) Q' E s₃) E ⟨h₁,g,d,tk₁,os⟩)
    (hQ : ∀ h' tk v1 v2 r t1,EqAt x y x.cps.size r → Fr h₀ env.locals h' (zLoc m v1 v2 (some (.int r t1))) → News h₀ env.locals h' news → Q .next ⟨h',g,d,tk,os⟩) :
    wpAny (model prog w) A (exec (.For (.Tuple elts kk pz) it body [] pos) env) Q E ⟨h,g,d,t,os⟩ :=by
  refine For_turns (s :=⟨h,g,d,t,os⟩) F (hev _ fun h' t' F1 N1=>?_) hs hE
  have hLs : env.locals < h'.objs.size :=F1.ns.lt
  refine call_zipS hx hy fun h2 hz hTI hTO hi1 hi2 hsz hk=>?_
  refine wpAny_pyIter_zip hz ?_
  have D : ZA (h'.objs.size + 4) (h'.objs.size + 2) (h'.objs.size + 3) h'.objs.size (h'.objs.size + 1) :=by constructor <;> (refine neN ?_;(first | exact Om.n24 | exact Om.n22 | exact Om.n26 | exact Om.n23 | exact Om.n25 | lia))
  refine turns_mk _ _ _ _ _ _ _ m news (fun i m₁ news₁=>news₁ = news ∧ ∃ v1 v2 r t1,m₁ = zLoc m v1 v2 (some (.int r t1)) ∧ EqAt x y i r) rfl (KTurns.zipS hh _ _ _ _ _ x y u v D hn) ?_ ?_ ?_ ⟨hz,hTI,⟨_,_,hTO⟩,hi1,hi2⟩ (F1.keeps hk) (N1.grown hk) ⟨rfl,m (ofString "l"),m (ofString "r"), 0,t0, ?_,EqAt.zero⟩ ?_ ?_
  · intro hI
    have hb' : env.locals = h'.objs.size + 4 ∨ env.locals = h'.objs.size + 2 ∨ env.locals = h'.objs.size + 3 ∨ env.locals = h'.objs.size ∨ env.locals = h'.objs.size + 1 :=by simpa using hI
    rcases hb' with e | e | e | e | e
    · exact ktu_ne 4 hLs e
    · exact ktu_ne 2 hLs e
    · exact ktu_ne 3 hLs e
    · exact Nat.ne_of_lt hLs e
    · exact ktu_ne 1 hLs e
  · intro b hb
    have hb' : b = h'.objs.size + 4 ∨ b = h'.objs.size + 3 ∨ b = h'.objs.size ∨ b = h'.objs.size + 1 :=by simpa using hb
    rcases hb' with rfl | rfl | rfl | rfl
    · exact ktu_new F1 (Nat.le_add_right _ _)
    · exact ktu_new F1 (Nat.le_add_right _ _)
    · exact ktu_new F1 (Nat.le_refl _)
    · exact ktu_new F1 (Nat.le_add_right _ _)
  · intro p hp hI
    have hb' : p.1 = h'.objs.size + 4 ∨ p.1 = h'.objs.size + 3 ∨ p.1 = h'.objs.size ∨ p.1 = h'.objs.size + 1 :=by simpa using hI
    have hlp :=Heap.lt_size (N1 p hp).1
    rcases hb' with e | e | e | e
    · exact ktu_ne 4 hlp e
    · exact ktu_ne 3 hlp e
    · exact Nat.ne_of_lt hlp e
    · exact ktu_ne 1 hlp e
  · rw [← hr]
    funext z
    unfold zLoc
    by_cases e1 : z = ofString "result"
    · rw [if_pos e1,e1]
    · rw [if_neg e1]
      by_cases e2 : z = ofString "r"
      · rw [if_pos e2, ← e2]
      · rw [if_neg e2]
        by_cases e3 : z = ofString "l"
        · rw [if_pos e3, ← e3]
        · rw [if_neg e3]
  · rintro i vv m₁ news₁ h₁ tk₁ own hi ⟨T,c1,c2,u1,u2,rfl,e1,e2,hT⟩ ⟨rfl,v1,v2,r,t1,rfl,hr1⟩ ha hb hc hd' hst F2 N2
    refine step _ T c1 c2 u1 u2 v1 v2 r t1 own h₁ tk₁ ⟨_,hT,rfl,_,rfl⟩ F2 N2 fun u1 u2 t2 h' tk' F3 N3=>?_
    exact LoopStepV.next ⟨rfl,h',tk',_,_,rfl,F3,N3,ha,rfl,_,_,_,_,rfl,hr1.next e1 e2⟩
  · rintro h3 tk3 m' news' F3 N3 _ ⟨rfl,v1,v2,r,t1,rfl,hr1⟩
    exact hQ _ _ _ _ _ _ hr1 F3 N3
theorem forZipS {body : List Stmt} {pos : Pos} {Q : FP} {x y : PySem.Str} {u v : Tok} {elts : List PySem.Expr} {kk : Nat} {pz : Pos} {it : PySem.Expr} {t0 : Tok}
    (hh : A.handled = none) (F : Fr h₀ env.locals h m) (N : News h₀ env.locals h news) (hx : x.cps.all (· < 128) = true) (hy : y.cps.all (· < 128) = true) (hn : x.cps.size = y.cps.size) (hr : m (ofString "result") = some (.int 0 t0))
    (hs : ∀ a,foldedSetIterable it env a = pure a)
    (hev : ∀ Q' : VP,(∀ h' t',Fr h₀ env.locals h' m → News h₀ env.locals h' news → wpAny (model prog w) A (call (.type "zip") [.str x u, .str y v]) Q' (fun _ _=>False) ⟨h',g,d,t',os⟩) → wpAny (model prog w) A (eval it env) Q' (fun _ _=>False) ⟨h,g,d,t,os⟩)
    (step : ∀ (Q' : FP) (T : Addr) (c1 c2 : Nat) (u1 u2 : Tok) (v1 v2 : Option Value) (r : Int) (t1 : Tok) own h₁ tk₁,IsTup h₁ T #[.str ⟨#[c1]⟩ u1, .str ⟨#[c2]⟩ u2] → Fr h₀ env.locals h₁ (zLoc m v1 v2 (some (.int r t1))) → News h₀ env.locals h₁ (own ++ news) →
      (∀ u1 u2 t2 h' tk',Fr h₀ env.locals h' (zLoc m (some (.str ⟨#[c1]⟩ u1)) (some (.str ⟨#[c2]⟩ u2)) (some (.int (Builtin.bitOr r (Builtin.bitXor (c1 : Int) (c2 : Int))) t2))) → News h₀ env.locals h' (own ++ news) → Q' .next ⟨h',g,d,tk',os⟩) →
      wpAny (model prog w) A (assign (.Tuple elts kk pz) env (.ref T)) (fun _ s₃=>wpAny (model prog w) A (execs body env) Q' (fun _ _=>False) s₃) (fun _ _=>False) ⟨h₁,g,d,tk₁,os⟩)
    (hQ : ∀ h' tk v1 v2 r t1,EqAt x y x.cps.size r → Fr h₀ env.locals h' (zLoc m v1 v2 (some (.int r t1))) → News h₀ env.locals h' news → Q .next ⟨h',g,d,tk,os⟩) :
    wpAny (model prog w) A (exec (.For (.Tuple elts kk pz) it body [] pos) env) Q E ⟨h,g,d,t,os⟩ :=by
  exact wpAny_mono (forZipS0 (E :=fun _ _=>False) hh F N hx hy hn hr hs (by intro _ _ e;exact e.elim) hev step hQ) (fun _ _ e=>e) (fun _ _ e=>e.elim)
end
section
variable {w : World} {A : Around} {D : SD} {hp h₀ : Heap} {gs : Array GenState} {dr : Drawn} {tk : Nat} {os : OsState} {L : Addr} {m : MP} {news : Led} {Q E : VP}
theorem consteq_spec (x y : Str) (t u : Tok) (hx : x.cps.all (· < 128) = true) (hy : y.cps.all (· < 128) = true) {n : Nat} (hn : x.cps.size = n) (hn2 : y.cps.size = n) (hz : n ≤ 1000)
   (hS : Site w A D h₀ L) (hR : Room A 3) (hF : Fr h₀ L hp m) (hN : News h₀ L hp news)
   (hret : ∀ (h' : Heap) (tk' : Nat),Fr h₀ L h' m → News h₀ L h' news → Q (.bool (decide (x = y))) ⟨h',gs,dr,tk',os⟩) :
      wpAny (model pw w) A (call (.ref 166) [.str x t, .str y u]) Q E ⟨hp,gs,dr,tk,os⟩ :=by
  refine wpAny_call ?_
  k_dflt k_extra "enter"
  k_extra "go"
  k_dflt (refine' forZipS (E :=E1) ?hh ?F ?N hx hy (hn.trans hn2.symm) ?hr ?hs ?hev ?step ?hQ;(case hh=>exact R1.h);(case F=>k_asm);(case N=>k_asm);(case hr=>rfl);(case hs=>intro _;rfl);(case hev=>(intro Q' hQ';k_extra "go";exact hQ' _ _ ‹_› ‹_›)))
  · intro Q' T c1 c2 u1 u2 v1 v2 r t1 own h2 tk2 hT F2 N2 hq
    k_dflt (refine unpM F2 N2 R1.h hT rfl rfl ?_)
    intro h3 F3 N3
    clear F2 N2
    k_extra "go"
    exact hq _ _ _ _ _ (zFr ‹_›) ‹_›
  · intro h2 tk2 v1 v2 r t1 hr2 F2 N2
    have hd :=hr2.done (hn.trans hn2.symm)
    k_extra "go"
    exact hret _ _ F0 N0
end
section
open PySem.Calls
noncomputable def cleanS : Str :=ofString "\t\n\x0b\x0c\r\x1c\x1d\x1e\x1f \u0085\u00a0\u1680\u2000\u2001\u2002\u2003\u2004\u2005\u2006\u2007\u2008\u2009\u200a\u2028\u2029\u202f\u205f\u3000-="
theorem tabClean (P : Params) : nsIn (K P) mainGlobals (ofString "_clean_signs") = some (some (.str cleanS 2485)) :=by kernel_rfl
noncomputable def keepC (c : Nat) : Bool :=(Builtin.Str.occurrences cleanS ⟨#[c]⟩ 0 cleanS.length 1).isEmpty
noncomputable def decS : Value → Option Nat | .str x _=>x.cps[0]? | _=>none
theorem decS_mk (c : Nat) (t : Tok) : decS (.str ⟨#[c]⟩ t) = some c :=rfl
noncomputable abbrev mkC : Nat → Tok → Value :=fun c t=>.str ⟨#[c]⟩ t
noncomputable abbrev cleaned (x : Str) : Str :=⟨(x.cps.toList.filter keepC).toArray⟩
section
variable {prog : Program} {w : World} {A : Around} {E : VP} {s : Shared} {env : Env} {h₀ : Heap} {L : Addr} {m mg mb : MP} {s₁ : Shared} {cl : List (Str × Addr)} {scope : Scope} {p : Program} {loose : List Str} {mean : ExcName → Option Value} {u : Tok} {news : Led}
theorem hands_str (hh : A.handled = none) {x : PySem.Str} {t : Tok} {s₁ : Shared} : Hands prog w A mkC x.cps.toList (.str x t) s₁ :=fun Q' E' hQ=>by
  refine wpAny_pyIter_str fun o St W st=>?_
  have W :=W A hh
  have hl : x.cps.toList.length = x.cps.size :=Array.length_toList
  refine hQ s₁.heap.objs.size [s₁.heap.objs.size] _ s₁.toks St (fun b hb=>by rw [List.mem_singleton.mp hb,Heap.size_push];exact Nat.lt_succ_self _) (Heap.get?_none_of_le (Nat.le_refl _)) (by rw [Heap.size_push];exact Nat.lt_succ_self _) (Nat.le_refl _) (fun _ _ e=>Heap.get?_push_of_some _ e) ⟨W.sub,W.frame,fun i s Q E hi st hq=>?_,fun s Q E st hq=>W.done s Q E (hl ▸ st) hq,W.self⟩ st
  exact W.item i s Q E (hl ▸ hi) st fun v' h' tk ⟨c,u,ec,ev⟩=>hq v' h' tk ⟨c,u,by rw [Array.getElem?_toList];exact ec,ev⟩
theorem ListComp_C {x tn : Str} {px pp p1 p2 p3 p4 : Pos} {scope : Scope} {cl : List (Str × Addr)} {iter : PySem.Expr} {Q : VP}
    (_F : Fr h₀ L s.heap m) (hclos : closureFor scope env = pure cl) (hcell : ∀ y ∈ scope.names,y.2 ≠ .cell) (hkind : scope.kind = .function)
    (hnames : ∀ y ∈ scope.names,y.2 = .local → scope.names.lookup y.1 = some .local) (hx : scope.names.lookup x = some .local)
    (h : wpAny (model prog w) A (eval iter env) (LcSrc prog w A h₀ L m env scope cl x [.Compare (.Name x p2) [.NotIn] [.Name tn p3] p4] (.Name x p1) mkC keepC (fun c y=>∃ t,y = .str ⟨#[c]⟩ t) Q) E s)
    (hs : autoParam (∀ x,foldedSetIterable iter env x = pure x) ap._auto_2) :
    wpAny (model prog w) A (eval (.ListComp (.Name x p1) [⟨.Name x px,iter, [.Compare (.Name x p2) [.NotIn] [.Name tn p3] p4], 0⟩] scope pp) env) Q E s :=
  ListComp_K mkC decS decS_mk keepC (fun c y=>∃ t,y = .str ⟨#[c]⟩ t) hclos hcell hkind hnames hx h hs
theorem pure_clean {kn : Str} {p1 p2 p3 p4 : Pos} {items : List Nat} (F : Fr h₀ L s₁.heap m) (T : Top p loose mean mg mb h₀) (X : Frag.In (K w.params) h₀)
    (hg : ∀ C,(compEnvC scope cl C env).globals = mainGlobals) (hk : ∀ C,(compEnvC scope cl C env).scope.kind = .function) (hl : ∀ C,(compEnvC scope cl C env).kindOf (ofString "_clean_signs") = some .globalImplicit) (hl2 : ∀ C,(compEnvC scope cl C env).kindOf kn = some .local)
    (hd2 : (kn == ("__debug__" : Str)) = false) :
    PureOn prog w A env scope cl kn [.Compare (.Name kn p2) [.NotIn] [.Name (ofString "_clean_signs") p3] p4] (.Name kn p1) mkC items keepC (fun c y=>∃ t,y = .str ⟨#[c]⟩ t) s₁ :=by
  have hn :=tabClean w.params
  refine ⟨fun C a t s₃ m₃ E' hi hns hm keep=>?_,fun C a t s₃ m₃ E' hi hp hns hm keep=>?_⟩
  · simp only [List.forIn_cons,List.forIn_nil,if_true]
    refine wpAny_bind (wpAny_bind (wpAny_isTrue_Compare1 ?_))
    refine ldVarK hns hm ?_ (hk C) (hl2 C) hd2
    refine Name_function_global (hk C) (hl C) (loadGlobal_global (mg :=mg) (v :=.str cleanS 2485) ?_ (mg_of X T.g hn) ?_) (by decide)
    · rw [hg C];exact (T.g.keeps F.keep).keeps keep
    · refine P.notIn_str (wpAny_truthy_bool ?_)
      rw [Bool.not_not]
      exact wpAny_pure (wpAny_pure ⟨rfl,Keeps.self _⟩)
  · exact ldVarK hns hm ⟨⟨_,rfl⟩,Keeps.self _⟩ (hk C) (hl2 C) hd2
theorem strsAre_of {l : List Nat} {ys : List Value} (h : Paired (fun c y=>∃ t,y = Value.str ⟨#[c]⟩ t) l ys) : StrsAre ys (l.map fun c=>(⟨#[c]⟩ : Str)) :=by
  induction h with
  | nil=>exact .nil
  | cons h1 _ ih=>obtain ⟨t,rfl⟩ :=h1;exact .cons _ _ ih
end
section
variable {prog : Program} {w : World} {A : Around} {E : VP} {env : Env} {h h₀ : Heap} {g : Array GenState} {d : Drawn} {t : Nat} {os : OsState} {L : Addr} {m mg mb : MP} {news : Led} {cl : List (Str × Addr)} {scope : Scope} {p : Program} {loose : List Str} {mean : ExcName → Option Value}
theorem srcC {kn : Str} {p1 p2 p3 p4 : Pos} {x : PySem.Str} {u : Tok} {Q : VP} (hh : A.handled = none) (F : Fr h₀ L h m) (N : News h₀ L h news) (T : Top p loose mean mg mb h₀) (X : Frag.In (K w.params) h₀) (hz : x.cps.size ≤ 1000)
    (hg : ∀ C,(compEnvC scope cl C env).globals = mainGlobals) (hk : ∀ C,(compEnvC scope cl C env).scope.kind = .function) (hl : ∀ C,(compEnvC scope cl C env).kindOf (ofString "_clean_signs") = some .globalImplicit) (hl2 : ∀ C,(compEnvC scope cl C env).kindOf kn = some .local)
    (hd2 : (kn == ("__debug__" : Str)) = false)
    (hQ : ∀ D h' tk n (ys : List Value),StrsAre ys ((x.cps.toList.filter keepC).map fun c=>(⟨#[c]⟩ : Str)) → Fr h₀ L h' m → News h₀ L h' ((D, { cls :=.type "list",data :=.seq ys.toArray n }) :: news) → LCg.Off1 D news → Q (.ref D) ⟨h',g,d,tk,os⟩) :
    LcSrc prog w A h₀ L m env scope cl kn [.Compare (.Name kn p2) [.NotIn] [.Name (ofString "_clean_signs") p3] p4] (.Name kn p1) mkC keepC (fun c y=>∃ t,y = .str ⟨#[c]⟩ t) Q (.str x u) ⟨h,g,d,t,os⟩ :=
  ⟨x.cps.toList,news,F,N,by rw [Array.length_toList,sizeLine_eq];exact Om.n1 ‹_› (by kernel_rfl!),hands_str hh,pure_clean F T X hg hk hl hl2 hd2,fun D h' tk n ys F' N' O P=>hQ D h' tk n ys (strsAre_of P) F' N' O⟩
theorem joined_signs : ∀ l : List Nat,(PySem.Str.join ⟨#[]⟩ (l.map fun c=>(⟨#[c]⟩ : Str))) = ⟨l.toArray⟩ :=fun l=>by
  have :=join_nil_signs ⟨l.toArray⟩
  exact this
theorem joinC {D : Addr} {n : Nat} {ys : List Value} {l : List Nat} {u : Tok} {Q : VP} (N : News h₀ L h news) (hm : (D,(⟨.type "list",none, .seq ys.toArray n, #[]⟩ : Obj)) ∈ news) (hs : StrsAre ys (l.map fun c=>(⟨#[c]⟩ : Str))) (hz : l.length ≤ 1000)
    (hq : ∀ u t',Q (.str ⟨l.toArray⟩ u) ⟨h,g,d,t',os⟩) : wpAny (model prog w) A (call (.builtin "str.join") [.str (ofString "") u, .ref D]) Q E ⟨h,g,d,t,os⟩ :=by
  refine join_listW (News.isList N hm) hs (by decide) ?_ fun t' k=>?_
  · have e : (((l.map fun c=>(⟨#[c]⟩ : Str)).map (·.length)).sum) = l.length :=signLens_sum l
    rw [e,List.length_map]
    exact Om.n34 ‹_› ‹_› (by kernel_rfl!)
  · have e : Txt.join (ofString "") (l.map fun c=>(⟨#[c]⟩ : Str)) = ⟨l.toArray⟩ :=(eq_of_beq (join_plain_closes _ _)).trans (joined_signs l)
    rw [e]
    exact hq _ _
theorem isdigitI {x : PySem.Str} {u : Tok} {b : Bool} {Q : VP} (hb : Txt.isdigit x = b) (hq : ∀ t',Q (.bool b) ⟨h,g,d,t',os⟩) : wpAny (model prog w) A (call (.builtin "str.isdigit") [.str x u]) Q E ⟨h,g,d,t,os⟩ :=SC.isdigit (by rw [hb];exact hq _)
end
end
section
open PySem.Calls
open Builtin
theorem loop_pure {β : Type} (f : Nat → β → Sem (ForInStep β)) (st : Nat → β) (N : Nat) (h : ∀ i k,k < N → f i (st k) = pure (.yield (st (k + 1)))) : ∀ n s k,k + n = N → (forIn (List.range' s n) (st k) f : Sem β) = pure (st N)
  | 0,s,k,e=>by
    obtain rfl : k = N :=by omega
    rfl
  | n + 1,s,k,e=>by
    rw [List.range'_succ,List.forIn_cons,h s k (by exact Om.n47 ‹_›)]
    exact loop_pure f st N h n (s + 1) (k + 1) (by exact Om.n46 ‹_›)
noncomputable def asciiOf (b : Array UInt8) : Str :=⟨b.map (·.toNat)⟩
theorem dec_ascii (b : Array UInt8) (hb : ∀ c ∈ b,c.toNat < 128) (hz : b.size ≤ 1000) : ∀ id,_codecs.runDecoder id _codecs.utf8Decoder none true b 0 [] = pure ((asciiOf b).cps,b.size) :=by
  intro id
  unfold _codecs.runDecoder
  dsimp only
  rw [Std.Legacy.Range.forIn_eq_forIn_range']
  have hs : ([:b.size] : Std.Legacy.Range).size = b.size :=by simp [Std.Legacy.Range.size]
  rw [hs]
  refine (congrArg (· >>= _) (loop_pure _ (fun k=>(k,((b.toList.take k).map (·.toNat)).toArray,({} : _codecs.Faults))) b.size ?_ b.size 0 0 (by exact Nat.zero_add _))).trans ?_
  · intro i k hk
    have h1 : ¬ (((b.toList.take k).map (·.toNat)).toArray.size > sizeLine) :=by
      rw [List.size_toArray,List.length_map,List.length_take,sizeLine_eq]
      exact Nat.not_lt.mpr (Nat.le_trans (Nat.min_le_left _ _) (Nat.le_trans (Nat.le_of_lt hk) (Nat.le_trans hz (by decide))))
    have h2 : ¬ (k ≥ b.size) :=Om.n30 ‹_›
    have h3 : _codecs.utf8Decoder.find true b k = .text [b[k].toNat] (k + 1) :=by
      have hc :=hb b[k] (Array.getElem_mem hk)
      have e : b.getD k 0 = b[k] :=by simp [hk]
      have e2 : Bytes.utf8At b k = (.char b[k].toNat,k + 1) :=by
        unfold Bytes.utf8At
        rw [e]
        exact if_pos hc
      unfold _codecs.utf8Decoder
      simp only [e2]
      rfl
    simp only [h1,h2,h3,if_false]
    congr 2
    refine Prod.ext rfl (Prod.ext ?_ rfl)
    simp only
    rw [List.take_add_one]
    simp [hk]
  · have e : ((b.toList.take b.size).map (·.toNat)).toArray = b.map (·.toNat) :=by
      rw [List.take_of_length_le (by rw [Array.length_toList];exact Nat.le_refl _)]
      exact (Array.toList_inj.mp (by simp))
    show (pure (((b.toList.take b.size).map (·.toNat)).toArray,b.size) : Sem (Array Nat × Nat)) = _
    rw [e]
    rfl
theorem loop_once {β : Type} (f : Nat → β → Sem (ForInStep β)) {a b : β} {i : Nat} {l : List Nat} (h1 : f i a = pure (.yield b)) (h2 : ∀ j,f j b = pure (.done b)) : (forIn (i :: l) a f : Sem β) = pure b :=by
  rw [List.forIn_cons,h1]
  cases l with
  | nil=>rfl
  | cons j l =>
    show (forIn (j :: l) b f : Sem β) = pure b
    rw [List.forIn_cons,h2]
    rfl
theorem enc_ascii {x : PySem.Str} (hx : ∀ c ∈ x.cps,c < 128) (hn : 0 < x.cps.size) (hz : x.cps.size ≤ 1000) (self : Value) : ∀ id,_codecs.encodeNarrow id _codecs.asciiCodec none self x = pure (x.cps.map (·.toUInt8)) :=by
  intro id
  unfold _codecs.encodeNarrow
  dsimp only
  k_extra "G"
  obtain ⟨n,hn'⟩ : ∃ n,x.cps.size = n + 1 :=⟨x.cps.size - 1,by omega⟩
  k_unfold
  have hl : List.range' ([:x.length] : Std.Legacy.Range).start ([:x.length] : Std.Legacy.Range).size ([:x.length] : Std.Legacy.Range).step = 0 :: List.range' 1 n :=by
    have hs : ([:x.length] : Std.Legacy.Range).size = x.cps.size :=by simp [Std.Legacy.Range.size,PySem.Str.length]
    rw [hs,hn']
    exact List.range'_succ
  have e0 : x.cps[0]? = some x.cps[0] :=Array.getElem?_eq_getElem hn
  have b0 : _codecs.asciiCodec.bad x.cps[0] = false :=by
    have :=hx _ (Array.getElem_mem hn)
    show decide (_ ≥ 128) = false
    rw [decide_eq_false_iff_not]
    exact Om.n30 ‹_›
  have ex : x.cps.extract 0 x.cps.size = x.cps :=Array.extract_size
  have e1 : (Array.findIdx? _codecs.asciiCodec.bad x.cps).getD x.cps.size = x.cps.size :=by
    have : Array.findIdx? _codecs.asciiCodec.bad x.cps = none :=by
      rw [Array.findIdx?_eq_none_iff]
      intro c hc
      have :=hx c hc
      show decide (_ ≥ 128) = false
      rw [decide_eq_false_iff_not]
      exact Om.n30 ‹_›
    rw [this]
    rfl
  have e2 : ∀ (l : List Nat) (acc : Array UInt8),l.foldl (fun acc y=>acc ++ (_codecs.asciiCodec.bytesOf y).toArray) acc = acc ++ (l.map (·.toUInt8)).toArray :=by
    intro l
    induction l with
    | nil=>intro acc;simp
    | cons a l ih =>
      intro acc
      rw [List.foldl_cons,ih]
      show acc ++ #[a.toUInt8] ++ _ = _
      simp
  have h2 : x.cps[x.cps.size]? = none :=by simp
  refine (congrArg (· >>= _) ((Std.Legacy.Range.forIn_eq_forIn_range' ..).trans ((congrArg (fun l=>forIn l _ _) hl).trans (loop_once _ (b :=(x.cps.size,x.cps.map (·.toUInt8),({} : _codecs.Faults))) ?_ ?_)))).trans ?_
  · simp only [e0,b0,ex,e1]
    rw [if_neg (by simp : ¬ ((#[] : Array UInt8).size > sizeLine)),if_pos (show (!false) = true from rfl)]
    congr 2
    refine Prod.ext (by simp) (Prod.ext ?_ rfl)
    show Array.foldl _ #[] x.cps = _
    rw [← Array.foldl_toList,e2]
    exact Array.toList_inj.mp (by simp)
  · intro j
    simp only [h2]
    rw [if_neg]
    rw [Array.size_map,sizeLine_eq]
    exact Om.n49 ‹_› (by kernel_rfl!)
  · rfl
noncomputable abbrev u8S : Str :=ofString "utf-8"
theorem dec_entry {c : UInt8} {cs : List UInt8} {t u : Tok} : «bytes.decode» ⟨[.bytes (c :: cs).toArray t, .str u8S u], []⟩ = (mkStr u8S >>= fun _=>mkStr u8S >>= fun e=>mkStr (ofString "bytes.decode") >>= fun d =>
    call (.builtin "_codecs.decode.text") [.bytes (c :: cs).toArray t,e, .none,d] >>= fun v=>ret v) :=by kernel_rfl
theorem meets_dec {c : UInt8} {cs : List UInt8} {t u : Tok} (hb : ∀ x ∈ (c :: cs).toArray,x.toNat < 128) (hz : (c :: cs).toArray.size ≤ 1000) :
    Meets («bytes.decode» ⟨[.bytes (c :: cs).toArray t, .str u8S u], []⟩) (fun _ R s=>∀ t' k,R (.ok (.ret (.str (asciiOf (c :: cs).toArray) t'))) { s with toks :=k }) :=by
  refine .of_wp fun prog w A R s h=>?_
  rw [dec_entry]
  refine wpAny_bind (wpAny_mkStr ?_ (by decide))
  refine wpAny_bind (wpAny_mkStr ?_ (by decide))
  refine wpAny_bind (wpAny_mkStr ?_ (by decide))
  refine wpAny_bind (call_function_meets KBd.kind_text KBd.plain_text KBd.entry_text (KBd.args_text _ _ _ _) (KBd.meets_text (dec_ascii _ hb hz)) ⟨?_,wpAny_pure ⟨_,rfl,h _ _⟩⟩)
  show (Array.map _ _).size ≤ sizeLine
  rw [Array.size_map,sizeLine_eq]
  exact Om.n6 ‹_› (by kernel_rfl!)
theorem args_dec2 (a b : Value) : argsOk "bytes.decode" ⟨[a,b], []⟩ :=by
  unfold argsOk;rw [signature?_of (id :="bytes.decode") (n :=['e', 'd', 'o', 'c', 'e', 'd']) (o :=['s', 'e', 't', 'y', 'b']) (by kernel_rfl) FB.owner_bytes];kernel_rfl
theorem enc_road (id : String) (self : Value) (x : Str) (errors : Option Str) : _codecs.encodeRoad id self x (ofString "ascii") errors = (do mkBytes (← _codecs.encodeNarrow id _codecs.asciiCodec errors self x)) :=by
  first | rfl | (unfold _codecs.encodeRoad;rfl) | (unfold _codecs.encodeRoad;simp only [];rfl) | kernel_rfl
theorem enc_tree (x : Str) (t u : Tok) : «str.encode» ⟨[.str x t, .str (ofString "ascii") u], []⟩ = (do ret (← _codecs.encodeRoad "str.encode" (.str x t) x (ofString "ascii") none)) :=by
  first | rfl | kernel_rfl
section
variable {prog : Program} {w : World} {A : Around} {E : VP} {h : Heap} {g : Array GenState} {d : Drawn} {tk : Nat} {os : OsState} {Q : VP}
theorem decI8 {b : Array UInt8} {t u : Tok} (hb : ∀ x ∈ b,x.toNat < 128) (h0 : 0 < b.size) (hz : b.size ≤ 1000) (hq : ∀ u t',Q (.str (asciiOf b) u) ⟨h,g,d,t',os⟩) :
    wpAny (model prog w) A (call (.builtin "bytes.decode") [.bytes b t, .str (ofString "utf-8") u]) Q E ⟨h,g,d,tk,os⟩ :=by
  k_extra "G"
  obtain ⟨⟨l⟩⟩ :=b
  k_unfold
  · simp at h0
  · exact call_meets FB.slot_bytes_decode (typeIs_bytes _ _ _) FB.entry_bytes_decode (args_dec2 _ _) (meets_dec hb hz) fun t' k=>hq t' k
theorem encI {x : PySem.Str} {t u : Tok} (hx : ∀ c ∈ x.cps,c < 128) (hn : 0 < x.cps.size) (hz : x.cps.size ≤ 1000) (hq : ∀ u t',Q (.bytes (x.cps.map (·.toUInt8)) u) ⟨h,g,d,t',os⟩) :
    wpAny (model prog w) A (call (.builtin "str.encode") [.str x t, .str (ofString "ascii") u]) Q E ⟨h,g,d,tk,os⟩ :=by
  refine call_meets (S :=fun _ R s=>∀ t' k,R (.ok (.ret (.bytes (x.cps.map (·.toUInt8)) t'))) { s with toks :=k }) F.slot_str_encode (typeIs_str _ _ _) F.entry_str_encode (F.args_str_encode_2 _ _) (.of_wp fun prog w A R s h=>?_) fun t' k=>hq t' k
  rw [enc_tree,enc_road,enc_ascii hx hn hz]
  refine wpAny_bind (wpAny_bind (wpAny_pure ?_))
  refine wpAny_mkBytes (b :=x.cps.map (·.toUInt8)) ?_ (by rw [Array.size_map,sizeLine_eq];exact Om.n1 ‹_› (by kernel_rfl!))
  refine wpAny_pure ?_
  exact ⟨_,rfl,h _ _⟩
end
end
section
variable {w : World} {A : Around} {D : SD} {hp h₀ : Heap} {gs : Array GenState} {dr : Drawn} {tk : Nat} {os : OsState} {L : Addr} {m : MP} {news : Led} {Q E : VP}
  {dv dd tr lf : Addr} {H : Array UInt8 → Array UInt8} {ky : Array UInt8} {n bk d : Nat} {p : Int}
theorem norm_int (hD : DevIs w news dv dd tr lf H ky n bk d p) (v : Int) (t : Tok) (hd10 : d ≤ 10) (hv : 0 ≤ v) (hl : v.natAbs.log2 < 1920) (hlen : (padS (d : Int) v).cps.size = d)
   (hS : Site w A D h₀ L) (hR : Room A 3) (hF : Fr h₀ L hp m) (hN : News h₀ L hp news)
   (hret : ∀ (h' : Heap) (tk' : Nat) (u : Tok),Fr h₀ L h' m → News h₀ L h' news → Q (.str (padS (d : Int) v) u) ⟨h',gs,dr,tk',os⟩) :
      wpAny (model pw w) A (call (.ref 327) [.ref dv, .int v t]) Q E ⟨hp,gs,dr,tk,os⟩ :=by
  have hD0 :=hD
  refine DevIs.el hD0 ?_;intro u t1 t2 nt kh h1 h4 h5
  have hz : (padS (d : Int) v).length ≤ 100000 :=by show (padS (d : Int) v).cps.size ≤ _;exact Om.n3 ‹_› ‹_› (by kernel_rfl!)
  refine wpAny_call ?_
  k_dflt k_extra "enter"
  k_extra "go"
  exact hret _ _ _ F0 (fun q hq=>N0 q (.tail _ hq))
end
noncomputable def UniC (w : World) (v : Value) (x : Str) : Prop :=
  ∀ (A : Around) (D : SD) (hp h₀ : Heap) (gs : Array GenState) (dr : Drawn) (tk : Nat) (os : OsState) (L : Addr) (m : MP) (Q E : VP) (nw : Led) (tp : Tok),Site w A D h₀ L → Room A 2 → Fr h₀ L hp m → News h₀ L hp nw →
    (∀ (u : Tok) (h' : Heap) (tk' : Nat),Fr h₀ L h' m → News h₀ L h' nw → Q (.str x u) ⟨h',gs,dr,tk',os⟩) → wpAny (model pw w) A (call (.ref 182) [v] [(ofString "param", .str (ofString "token") tp)]) Q E ⟨hp,gs,dr,tk,os⟩
noncomputable def IsiC (w : World) (v : Value) (b : Bool) : Prop :=
  ∀ (A : Around) (hp : Heap) (gs : Array GenState) (dr : Drawn) (tk : Nat) (os : OsState) (Q E : VP),Frag.In (K w.params) hp → (∀ tk',Q (.bool b) ⟨hp,gs,dr,tk',os⟩) → wpAny (model pw w) A (call (.builtin "isinstance") [v, .type "int"]) Q E ⟨hp,gs,dr,tk,os⟩
section
variable {w : World} {A : Around} {D : SD} {hp h₀ : Heap} {gs : Array GenState} {dr : Drawn} {tk : Nat} {os : OsState} {L : Addr} {m : MP} {news : Led} {Q E : VP}
theorem uni_str (x : Str) (t : Tok) : UniC w (.str x t) x :=by
  intro A D hp h₀ gs dr tk os L m Q E nw tp hS hR hF hN hret
  refine wpAny_call ?_
  k_dflt k_extra "enter"
  k_extra "go"
  exact hret _ _ _ F0 (cb_drop N0 (by kcj_in))
theorem uni_bytes (b : Array UInt8) (t : Tok) (hb : ∀ c ∈ b,c.toNat < 128) (hb0 : 0 < b.size) (hb1 : b.size ≤ 1000) : UniC w (.bytes b t) (asciiOf b) :=by
  intro A D hp h₀ gs dr tk os L m Q E nw tp hS hR hF hN hret
  refine wpAny_call ?_
  k_dflt k_extra "enter"
  k_extra "go"
  exact hret _ _ _ F0 (cb_drop N0 (by kcj_in))
theorem isi_str (x : Str) (t : Tok) : IsiC w (.str x t) false :=by
  intro A hp gs dr tk os Q E hX hq
  k_extra "go"
  exact hq _
theorem isi_bytes (b : Array UInt8) (t : Tok) : IsiC w (.bytes b t) false :=by
  intro A hp gs dr tk os Q E hX hq
  k_extra "go"
  exact hq _
variable {dv dd tr lf : Addr} {H : Array UInt8 → Array UInt8} {ky : Array UInt8} {n bk d : Nat} {p : Int}
theorem norm_ok (hD : DevIs w news dv dd tr lf H ky n bk d p) (v : Value) (x : Str) (hU : UniC w v x) (hI : IsiC w v false) (hz : x.cps.size ≤ 1000) (hdig : Txt.isdigit (cleaned x) = true) (hlen : (cleaned x).cps.size = d)
   (hS : Site w A D h₀ L) (hR : Room A 3) (hF : Fr h₀ L hp m) (hN : News h₀ L hp news)
   (hret : ∀ (h' : Heap) (tk' : Nat) (u : Tok),Fr h₀ L h' m → News h₀ L h' news → Q (.str (cleaned x) u) ⟨h',gs,dr,tk',os⟩) :
      wpAny (model pw w) A (call (.ref 327) [.ref dv,v]) Q E ⟨hp,gs,dr,tk,os⟩ :=by
  have hD0 :=hD
  refine DevIs.el hD0 ?_;intro u t1 t2 nt kh h1 h4 h5
  have hz2 : (x.cps.toList.filter keepC).length ≤ 1000 :=Nat.le_trans (List.length_filter_le _ _) (by rw [Array.length_toList];exact hz)
  have hd10 : d ≤ 1000 :=by rw [← hlen];simpa using hz2
  refine wpAny_call ?_
  k_dflt k_extra "enter"
  k_extra "go"
  exact hret _ _ _ F0 (fun q hq=>N0 q (.tail _ hq))
theorem norm_nd (hD : DevIs w news dv dd tr lf H ky n bk d p) (v : Value) (x : Str) (hU : UniC w v x) (hI : IsiC w v false) (hz : x.cps.size ≤ 1000) (hdig : Txt.isdigit (cleaned x) = false)
   (hS : Site w A D h₀ L) (hR : Room A 6) (hF : Fr h₀ L hp m) (hN : News h₀ L hp news)
   (hexc : ExcK D h₀ L m gs dr os E news (.ref 54)) :
      wpAny (model pw w) A (call (.ref 327) [.ref dv,v]) Q E ⟨hp,gs,dr,tk,os⟩ :=by
  have hD0 :=hD
  refine DevIs.el hD0 ?_;intro u t1 t2 nt kh h1 h4 h5
  have hz2 : (x.cps.toList.filter keepC).length ≤ 1000 :=Nat.le_trans (List.length_filter_le _ _) (by rw [Array.length_toList];exact hz)
  k_extra "in"
  k_extra "go"
  k_extra "raised"
  k_extra "thrown"
end
section
variable {w : World} {A : Around} {D : SD} {hp h₀ : Heap} {gs : Array GenState} {dr : Drawn} {tk : Nat} {os : OsState} {L : Addr} {m : MP} {news : Led} {Q E : VP}
variable {dv dd tr lf : Addr} {H : Array UInt8 → Array UInt8} {ky : Array UInt8} {n bk d : Nat} {p : Int}
theorem norm_len (hD : DevIs w news dv dd tr lf H ky n bk d p) (v : Value) (x : Str) (hU : UniC w v x) (hI : IsiC w v false) (hz : x.cps.size ≤ 1000) (hdig : Txt.isdigit (cleaned x) = true) {sz : Nat} (hlen : (cleaned x).cps.size = sz) (hne : (sz : Int) ≠ d) (hd10 : d ≤ 10)
   (hS : Site w A D h₀ L) (hR : Room A 6) (hF : Fr h₀ L hp m) (hN : News h₀ L hp news)
   (hexc : ExcK D h₀ L m gs dr os E news (.ref 54)) :
      wpAny (model pw w) A (call (.ref 327) [.ref dv,v]) Q E ⟨hp,gs,dr,tk,os⟩ :=by
  have hD0 :=hD
  refine DevIs.el hD0 ?_;intro u t1 t2 nt kh h1 h4 h5
  have hz2 : (x.cps.toList.filter keepC).length ≤ 1000 :=Nat.le_trans (List.length_filter_le _ _) (by rw [Array.length_toList];exact hz)
  have hsz : sz ≤ 1000 :=by rw [← hlen];simpa using hz2
  k_extra "in"
  k_extra "go"
  k_extra "raised"
  k_extra "thrown"
theorem norm_int_bad (hD : DevIs w news dv dd tr lf H ky n bk d p) (v : Int) (t : Tok) (hd10 : d ≤ 10) (hv : 0 ≤ v) (hl : v.natAbs.log2 < 1920) {sz : Nat} (hlen : (padS (d : Int) v).cps.size = sz) (hne : (sz : Int) ≠ d) (hsz : sz ≤ 1000)
   (hS : Site w A D h₀ L) (hR : Room A 6) (hF : Fr h₀ L hp m) (hN : News h₀ L hp news)
   (hexc : ExcK D h₀ L m gs dr os E news (.ref 54)) :
      wpAny (model pw w) A (call (.ref 327) [.ref dv, .int v t]) Q E ⟨hp,gs,dr,tk,os⟩ :=by
  have hD0 :=hD
  refine DevIs.el hD0 ?_;intro u t1 t2 nt kh h1 h4 h5
  have hz : (padS (d : Int) v).length ≤ 100000 :=by show (padS (d : Int) v).cps.size ≤ _;omega
  k_extra "in"
  k_extra "go"
  k_extra "raised"
  k_extra "thrown"
theorem uni_none (tp : Tok) (hS : Site w A D h₀ L) (hR : Room A 6) (hF : Fr h₀ L hp m) (hN : News h₀ L hp news)
   (hexc : ExcK D h₀ L m gs dr os E news (.type "TypeError")) :
      wpAny (model pw w) A (call (.ref 182) [.none] [(ofString "param", .str (ofString "token") tp)]) Q E ⟨hp,gs,dr,tk,os⟩ :=by
  k_extra "in"
  k_extra "go"
  k_extra "raised"
  k_extra "thrown"
theorem norm_none (hD : DevIs w news dv dd tr lf H ky n bk d p)
   (hS : Site w A D h₀ L) (hR : Room A 7) (hF : Fr h₀ L hp m) (hN : News h₀ L hp news)
   (hexc : ExcK D h₀ L m gs dr os E news (.type "TypeError")) :
      wpAny (model pw w) A (call (.ref 327) [.ref dv, .none]) Q E ⟨hp,gs,dr,tk,os⟩ :=by
  have hD0 :=hD
  refine DevIs.el hD0 ?_;intro u t1 t2 nt kh h1 h4 h5
  k_extra "in"
  k_extra "s1"
  refine uni_none _ (by k_extra "site") (by k_extra "roomle") ‹_› ‹_› ?_
  intro G' e' h' t' news' F' fl' K'
  k_extra "passed"
  exact hexc _ _ _ _ _ ‹_› fl' (fun q hq=>K' q (by k_mem))
noncomputable def gnS : Stmt :=(bodyS (mt 21 23)).getD 3 (.Pass ⟨0, 0, 0, 0⟩)
noncomputable abbrev gnQ : Str :=ofString "TOTP._find_match.<locals>.generate"
noncomputable abbrev gnFn (c1 : Addr) (doc pm : Value) (c' : Addr) (ctv : Value) : Obj :=fnMade (ofString "generate") gnQ (fP gnS) (bodyS gnS) (fS gnS) [(ofString "self",c1)] doc pm c' ctv
inductive GnIs (news : Led) (f dv : Addr) : Prop
  | mk (c1 o1 doc pm c' ctv oc vs t) (h1 : (f,gnFn c1 doc pm c' ctv) ∈ news) (h2 : (c1,o1) ∈ news) (h3 : o1.data = .cell (some (.ref dv))) (h4 : (c',oc) ∈ news) (h5 : oc.data = .fields vs) (h6 : vs[1]? = some (.str gnQ t)) : GnIs news f dv
theorem GnIs.mono {a b : Led} {f dv : Addr} (k : Keep a b) (h : GnIs a f dv) : GnIs b f dv :=by
  k_extra "G"
  obtain ⟨c1,o1,doc,pm,c',ctv,oc,vs,t,h1,h2,h3,h4,h5,h6⟩ :=h
  k_unfold
  exact ⟨c1,o1,doc,pm,c',ctv,oc,vs,t,k _ h1 rfl,k _ h2 (cell_turned h3),h3,k _ h4 (turned_code h5 h6),h5,h6⟩
theorem GnIs.fn {a : Led} {f dv : Addr} (h : GnIs a f dv) : FnIn f a :=by
  k_extra "G"
  obtain ⟨_,_,_,_,_,_,_,_,_,h,_⟩ :=h
  k_unfold
  exact ⟨_,_,_,_,h⟩
noncomputable def NormC (w : World) (dv : Addr) (news : Led) (v : Value) (y : Str) : Prop :=
  ∀ (A : Around) (D : SD) (hp h₀ : Heap) (gs : Array GenState) (dr : Drawn) (tk : Nat) (os : OsState) (L : Addr) (m : MP) (Q E : VP) (nw : Led),Site w A D h₀ L → Room A 3 → Fr h₀ L hp m → News h₀ L hp nw → (∀ p ∈ news,p ∈ nw) →
    (∀ (u : Tok) (h' : Heap) (tk' : Nat),Fr h₀ L h' m → News h₀ L h' nw → Q (.str y u) ⟨h',gs,dr,tk',os⟩) → wpAny (model pw w) A (call (.ref 327) [.ref dv,v]) Q E ⟨hp,gs,dr,tk,os⟩
noncomputable def firstM (f : Int → Str) (y : Str) : Nat → Int → Option Int
  | 0,_=>none
  | k + 1,c=>if y = f c then some c else firstM f y k (c + 1)
noncomputable abbrev fnB (dv : Addr) (v : Value) (s e : Int) (t1 t2 : Tok) (L' : Addr) : Str → Option Value :=
  bindL (envOfC (ofString "TOTP._find_match") (fS (mt 21 23)) L' 357 (.ref 356)).kindOf [(ofString "self", .ref dv),(ofString "token",v),(ofString "start", .int s t1),(ofString "end", .int e t2),(ofString "expected", .none)] fun _=>none
noncomputable abbrev fnM (dv : Addr) (v : Value) (s e : Int) (t1 t2 : Tok) (L' : Addr) (y : Str) (u : Tok) (s0 : Int) (ts : Tok) : Str → Option Value :=
  fun z=>if z = ofString "start" then some (.int s0 ts) else if z = ofString "token" then some (.str y u) else fnB dv v s e t1 t2 L' z
theorem fnM_same {h₀ h : Heap} {L L' : Addr} {dv : Addr} {v : Value} {s e : Int} {t1 t2 : Tok} {y : PySem.Str} {u : Tok} (F : Fr h₀ L h fun z=>if z = ofString "token" then some (.str y u) else fnB dv v s e t1 t2 L' z) : Fr h₀ L h (fnM dv v s e t1 t2 L' y u s t1) :=by
  have e : (fun z=>if z = ofString "token" then some (.str y u) else fnB dv v s e t1 t2 L' z) = fnM dv v s e t1 t2 L' y u s t1 :=by
    funext z
    by_cases q : z = ofString "start"
    · subst q;rfl
    · exact (if_neg q).symm
  rw [e] at F
  exact F
noncomputable abbrev fnC (b : MP) (f : Addr) (c : Int) (tc : Tok) : Str → Option Value :=
  fun z=>if z = ofString "counter" then some (.int c tc) else if z = ofString "generate" then some (.ref f) else b z
theorem DevIs.tab {P : Addr} {pos : Pos} {q : Str} {news' : Led} {h : Heap} (hD : DevIs w news dv dd tr lf H ky n bk d p) (N : News h₀ L h news) (hT : TabSt news P pos q) (hP : P ≠ 204) (k : ∀ q ∈ news,q.1 ≠ P → q ∈ news') : DevIs w news' dv dd tr lf H ky n bk d p :=by
  have kk :=keepTab N hT k
  k_extra "G"
  obtain ⟨h1,h2,h3,u,t1,t2,nt,kh,h4,h5,h6⟩ :=id hD
  k_unfold
  refine ⟨kk _ h1 rfl,h2.mono kk,h3.turn (fun o ho=>k _ ho fun (e : (204 : Addr) = P)=>hP e.symm) kk,u,t1,t2,nt,kh,kk _ h4 rfl,k _ h5 (hT.ne N h5 fun _ e=>by cases e), ?_⟩
  rcases h6 with h6 | ⟨hf,e,h6⟩
  · exact .inl h6
  · exact .inr ⟨hf,e,h6.mono kk⟩
theorem gn_call {f : Addr} (hG : GnIs news f dv) (hD : DevIs w news dv dd tr lf H ky n bk d p) (hO : DevOk H ky n bk d p) (c : Int) (tc : Tok) (hc0 : 0 ≤ c) (hc : c < 2 ^ 60)
   (hS : Site w A D h₀ L) (hR : Room A 6) (hF : Fr h₀ L hp m) (hN : News h₀ L hp news)
   (hret : ∀ (news' : Led) (t : Tok) (h' : Heap) (tk' : Nat),Fr h₀ L h' m → News h₀ L h' news' → Turns dd news news' → DevIs w news' dv dd tr lf H ky n bk d p → Q (.str (devT H ky n bk d c) t) ⟨h',gs,dr,tk',os⟩) :
      wpAny (model pw w) A (call (.ref f) [.int c tc]) Q E ⟨hp,gs,dr,tk,os⟩ :=by
  have hD0 :=hD
  k_extra "G"
  obtain ⟨d1,d2,d3,u,t1,t2,nt,kh,d4,d5,d6⟩ :=hD
  k_unfold
  k_extra "G"
  obtain ⟨c1,o1,doc,pm,c',ctv,oc,vs,t,h1,h2,h3,h4,h5,h6⟩ :=hG
  k_unfold
  refine wpAny_call ?_
  refine enterP (binds :=[(ofString "counter", .int c tc)]) hS hF hN hR (News.get hN h1) (codeRec_news hN h4 h5 h6) (BindsTo.of_eq (by kernel_rfl)) (locs (by kernel_rfl)) ?_ (by kernel_rfl) (by kernel_rfl) (by kernel_rfl) (by decide +kernel)
  k_extra "open"
  k_extra "go"
  exact hret _ _ _ _ F0 N0 ‹_› ‹_›
end
noncomputable def whT : Stmt → PySem.Expr
  | .While t _ _ _=>t
  | _=>.Constant .none 0 ⟨0, 0, 0, 0⟩
noncomputable def whB : Stmt → List Stmt
  | .While _ b _ _=>b
  | _=>[]
noncomputable def fnW : Stmt :=(bodyS (mt 21 23)).getD 6 (.Pass ⟨0, 0, 0, 0⟩)
noncomputable abbrev fnE (L' : Addr) : Env :=envOfC (ofString "TOTP._find_match") (fS (mt 21 23)) L' 357 (.ref 356)
theorem fnC_next {h₀ h : Heap} {L : Addr} {b : MP} {f : Addr} {c c2 : Int} {tc t2 : Tok} (F : Fr h₀ L h fun z=>if z = ofString "counter" then some (.int c2 t2) else fnC b f c tc z) : Fr h₀ L h (fnC b f c2 t2) :=by
  have e : (fun z=>if z = ofString "counter" then some (.int c2 t2) else fnC b f c tc z) = fnC b f c2 t2 :=by
    funext z
    unfold fnC
    by_cases q : z = ofString "counter"
    · rw [if_pos q,if_pos q]
    · rw [if_neg q,if_neg q,if_neg q]
  rw [e] at F
  exact F
section
variable {w : World} {A : Around} {D : SD} {h₀ : Heap} {gs : Array GenState} {dr : Drawn} {os : OsState} {L : Addr} {m : MP} {E : VP}
variable {dv dd tr lf : Addr} {H : Array UInt8 → Array UInt8} {ky : Array UInt8} {n bk d : Nat} {p : Int}
theorem find_loop (hO : DevOk H ky n bk d p) (y : Str) (hT : ∀ c,(devT H ky n bk d c).cps.all (· < 128) = true ∧ (devT H ky n bk d c).cps.size = d) (hy : y.cps.all (· < 128) = true) (hyd : y.cps.size = d) (v : Value) (s e : Int) (t1 t2 : Tok) (u : Tok) (s0 : Int) (ts : Tok) (f : Addr) (he : e ≤ 2 ^ 60)
   {g : Heap} {L' : Addr} {A1 : Around} {D1 : SD} {Q1 : FP} {mean : ExcName → Option Value} {mg mb : MP} (T1 : Top topProg lt mean mg mb g)
   (S1 : Site w A1 D1 g L') (R1 : Room A1 7) (X1 : Frag.In (K w.params) g) :
   ∀ (k : Nat) (c : Int) (tc : Tok) (hp : Heap) (tk : Nat) (news : Led),c + k = e → 0 ≤ c → Fr g L' hp (fnC (fnM dv v s e t1 t2 L' y u s0 ts) f c tc) → News g L' hp news → DevIs w news dv dd tr lf H ky n bk d p → GnIs news f dv →
   (∀ (c' : Int) (u' : Tok) (h' : Heap) (tk' : Nat) (news' : Led) (m' : MP),firstM (devT H ky n bk d) y k c = some c' → Fr g L' h' m' → News g L' h' news' → Turns dd news news' → DevIs w news' dv dd tr lf H ky n bk d p → Q1 (.ret (.int c' u')) ⟨h',gs,dr,tk',os⟩) →
   (∀ (h' : Heap) (tk' : Nat) (news' : Led) (m' : MP),firstM (devT H ky n bk d) y k c = none → Fr g L' h' m' → News g L' h' news' → Turns dd news news' → DevIs w news' dv dd tr lf H ky n bk d p → Q1 .next ⟨h',gs,dr,tk',os⟩) →
   WhlRest pw w A1 (fun _ _=>False) (fnE L') (whT fnW) (whB fnW) [] Q1 (k + 1) ⟨hp,gs,dr,tk,os⟩ :=by
  have hdk : d ≤ 1000 :=by have :=hO.hd10;exact Om.c4 ‹_› (by kernel_rfl!)
  intro k
  induction k with
  | zero =>
    intro c tc hp tk news hce hc0 F N hDv hG hfound hnone
    have hfn :=hG.fn
    have hlt : decide (c < e) = false :=decide_eq_false (by omega)
    refine whl_turn PassesOwn.never ?_
    (show wpAny _ _ (PySem.isTrue (PySem.Expr.Compare (PySem.Expr.Name _ _) [_] [PySem.Expr.Name _ _] _) _ (eval (PySem.Expr.Compare (PySem.Expr.Name _ _) [_] [PySem.Expr.Name _ _] _) _)) _ _ _)
    k_extra "go"
    refine WhlIf.no hlt ?_
    k_extra "go"
    exact hnone _ _ _ _ rfl ‹_› ‹_› (Turns.refl _) hDv
  | succ k ih =>
    intro c tc hp tk news hce hc0 F N hDv hG hfound hnone
    have hfn :=hG.fn
    have hlt : decide (c < e) = true :=decide_eq_true (Om.k8 hce)
    have hc60 : c < 2 ^ 60 :=Int.lt_of_lt_of_le (Om.k8 hce) he
    obtain ⟨ha,hz⟩ :=hT c
    refine whl_turn PassesOwn.never ?_
    (show wpAny _ _ (PySem.isTrue (PySem.Expr.Compare (PySem.Expr.Name _ _) [_] [PySem.Expr.Name _ _] _) _ (eval (PySem.Expr.Compare (PySem.Expr.Name _ _) [_] [PySem.Expr.Name _ _] _) _)) _ _ _)
    k_extra "go"
    refine WhlIf.yes hlt ?_
    by_cases hm : y = devT H ky n bk d c
    · have hmb : decide (y = devT H ky n bk d c) = true :=decide_eq_true hm
      have hf1 : firstM (devT H ky n bk d) y (k + 1) c = some c :=if_pos hm
      k_extra "go"
      exact hfound c _ _ _ _ _ hf1 ‹_› ‹_› ‹_› ‹_›
    · have hmb : decide (y = devT H ky n bk d c) = false :=decide_eq_false hm
      have hf1 : firstM (devT H ky n bk d) y (k + 1) c = firstM (devT H ky n bk d) y k (c + 1) :=if_neg hm
      rw [hf1] at hfound hnone
      have kk : ∀ nw,Turns dd news nw → Keep news nw :=fun nw k=>Turns.keep k N hDv
      repeat' ((fail_if_success (with_reducible show WhlRest _ _ _ _ _ _ _ _ _ _ _));k_extra "step")
      exact ih (c + 1) _ _ _ news' (Om.k9 hce) (by exact Om.i11 ‹_›) (fnC_next F') N' DV' (hG.mono (kk _ KT'))
        (fun c' u' h' tk' nw m' e1 a b t q=>hfound c' u' h' tk' nw m' e1 a b (KT'.trans t) q) (fun h' tk' nw m' e1 a b t q=>hnone h' tk' nw m' e1 a b (KT'.trans t) q)
noncomputable def Turns2 (dd : Addr) (a b : Led) : Prop :=∀ q ∈ a, @Ne Nat q.1 204 → @Ne Nat q.1 352 → q.1 ≠ dd → q ∈ b
theorem Turns2.trans {dd : Addr} {a b c : Led} (x : Turns2 dd a b) (y : Turns2 dd b c) : Turns2 dd a c :=fun q h h1 h2 h3=>y q (x q h h1 h2 h3) h1 h2 h3
theorem Turns.two {dd : Addr} {a b : Led} (x : Turns dd a b) : Turns2 dd a b :=fun q h h1 _ h3=>x q h h1 h3
theorem Turns2.of_sub {dd : Addr} {a b : Led} (k : ∀ q ∈ a,q ∈ b) : Turns2 dd a b :=fun q h _ _ _=>k q h
noncomputable abbrev TabF (news : Led) : Prop :=TabSt news 352 (posOf gnS) gnQ
theorem TabSt.turns {P : Addr} {pos : Pos} {q : Str} {a b : Led} {h : Heap} {h₀ : Heap} {L : Addr} (hT : TabSt a P pos q) (N : News h₀ L h a) (hD : DevIs w a dv dd tr lf H ky n bk d p) (t : Turns dd a b) (hP : @Ne Nat P 204) : TabSt b P pos q :=by
  refine hT.turn (fun o ho=>t _ ho hP fun e=>?_) (t.keep N hD)
  obtain ⟨_,_,_,u,t1,t2,nt,kh,_,h5,_⟩ :=hD
  exact hT.ne N h5 (fun _ e=>by cases e) e.symm
theorem find_rest (hO : DevOk H ky n bk d p) (y : Str) (hT : ∀ c,(devT H ky n bk d c).cps.all (· < 128) = true ∧ (devT H ky n bk d c).cps.size = d) (hy : y.cps.all (· < 128) = true) (hyd : y.cps.size = d) (v : Value) (s e : Int) (t1 t2 : Tok) (u : Tok) (s0 : Int) (ts : Tok) (he : e ≤ 2 ^ 60) (hs0 : 0 ≤ s0)
   {g : Heap} {L' : Addr} {A1 : Around} {D1 : SD} {Q1 : FP} {E1 : VP} {mean : ExcName → Option Value} {mg mb : MP} (T1 : Top topProg lt mean mg mb g)
   (S1 : Site w A1 D1 g L') (R1 : Room A1 7) (X1 : Frag.In (K w.params) g)
   {hp : Heap} {tk : Nat} {news : Led} {oc : Obj} (lN : ∀ q ∈ news,q.1 < L') (hoc : oc.data = .cell (some (.ref dv))) (F1 : Fr g L' hp (fnM dv v s e t1 t2 L' y u s0 ts)) (N1 : News g L' hp ((L' + 1,oc) :: news)) (hDv : DevIs w news dv dd tr lf H ky n bk d p) (hTab : TabF news)
   (hret : ∀ (c' : Int) (u' : Tok) (h' : Heap) (tk' : Nat) (news' : Led) (m' : MP),firstM (devT H ky n bk d) y (e - s0).toNat s0 = some c' → Fr g L' h' m' → News g L' h' news' → Turns2 dd news news' → DevIs w news' dv dd tr lf H ky n bk d p → TabF news' → Q1 (.ret (.int c' u')) ⟨h',gs,dr,tk',os⟩)
   (hthr : ∀ (x : Addr) (ox : Obj) (h' : Heap) (tk' : Nat) (nw news' : Led) (m' : MP),firstM (devT H ky n bk d) y (e - s0).toNat s0 = none → Fr g L' h' m' → News g L' h' news' → (x,ox) ∈ news' → ox.dict = none → ExcObj (K w.params) ox (.ref 66) → (∀ q ∈ nw,q ∈ news') → (∀ q ∈ nw,q.1 ≠ x) → Turns2 dd news nw → DevIs w nw dv dd tr lf H ky n bk d p → TabF nw → E1 (.ref x) ⟨h',gs,dr,tk',os⟩) :
      wpAny (model pw w) A1 (execs ((bodyS (mt 21 23)).drop 2) (fnE L')) Q1 E1 ⟨hp,gs,dr,tk,os⟩ :=by
  by_cases hes : e ≤ s0
  · have hb : decide (e ≤ s0) = true :=decide_eq_true hes
    have h0 : (e - s0).toNat = 0 :=Int.toNat_eq_zero.mpr (Int.sub_nonpos_of_le hes)
    rw [h0] at hthr
    k_extra "go"
    refine ⟨_,_,_,rfl,News.get ‹_› ‹_›, ‹_›,X1.keeps (Fr.keep ‹_›), ?_⟩
    exact hthr _ _ _ _ _ _ _ rfl ‹_› ‹_› ‹_› hd' ho' K' ne' (Turns2.of_sub fun q hq=>.tail _ hq) (hDv.mono fun q hq=>.tail _ hq) (TabSt.mono (fun q hq=>.tail _ hq) hTab)
  · have hb : decide (e ≤ s0) = false :=decide_eq_false hes
    k_extra "go"
    k_dflt (refine' nestDef_K ?d0 ?k0 ?a0 ?_;(case d0=>exact rfl);(case k0=>exact rfl);(case a0=>exact rfl))
    k_dflt (refine' nestU ?F ?N ?T ?C ?cd ?t ?cl ?_;(case F=>k_asm);(case N=>k_asm);(case T=>k_asm);(case C=>exact codeHd_of_K (c :=356) (P :=352) X1 (by kernel_rfl));(case cd=>exact rfl);(case t=>exact TabSt.mono (fun p hp=>.tail _ hp) hTab);(case cl=>exact rfl))
    intro f c' oc' vs tt ctv doc pm h' t' news' F' N' K' m1 m2 m3 m4 m5 l5
    have h352 :=hTab.lt lN
    have kk : ∀ q ∈ news,q.1 ≠ 352 → q ∈ news' :=fun q hq hne=>K' q (.tail _ hq) hne
    have hG : GnIs news' f dv :=⟨_,_,_,_,_,_,_,_,_,m1,K' _ (.head _) (neN (by exact Om.n19 ‹_›)),hoc,m2,m3,m4⟩
    have hfn :=hG.fn
    have hT2 : TabF news' :=.inr ⟨c',oc',vs,tt,m5,m2,m3,m4⟩
    have hD2 : DevIs w news' dv dd tr lf H ky n bk d p :=hDv.tab (fun q hq=>N1 q (.tail _ hq)) hTab (by decide) kk
    have tu : Turns2 dd news news' :=fun q hq _ h2 _=>kk q hq h2
    have NN : News g L' h' news' :=N'
    have tt : ∀ nw,Turns dd news' nw → TabF nw :=fun nw k=>hT2.turns NN hD2 k (by decide)
    clear NN m1 m2 m3 m4 m5 K'
    k_extra "s2"
    obtain ⟨k,hk⟩ : ∃ k : Nat,s0 + k = e :=⟨(e - s0).toNat,Om.k5 hes⟩
    have hk2 : (e - s0).toNat = k :=Om.g19 hk
    rw [hk2] at hret hthr
    refine wpAny_noRaise (whl_start (k + 1) ?_)
    refine find_loop hO y hT hy hyd v s e t1 t2 u s0 ts f he T1 S1 R1 X1 k s0 _ _ _ news' hk hs0 ‹_› ‹_› hD2 hG ?_ ?_
    · intro c' u' h' tk' nw m' e1 a b t q
      exact hret c' u' h' tk' nw m' e1 a b (tu.trans t.two) q (tt _ t)
    · intro h' tk' nw m' e1 a b t q
      k_extra "go"
      refine ⟨_,_,_,rfl,News.get ‹_› ‹_›, ‹_›,X1.keeps (Fr.keep ‹_›), ?_⟩
      exact hthr _ _ _ _ _ _ _ e1 ‹_› ‹_› ‹_› hd' ho' K' ne' (tu.trans t.two) q (tt _ t)
end
section
variable {w : World} {A : Around} {D : SD} {hp h₀ : Heap} {gs : Array GenState} {dr : Drawn} {tk : Nat} {os : OsState} {L : Addr} {m : MP} {news : Led} {Q E : VP}
variable {dv dd tr lf : Addr} {H : Array UInt8 → Array UInt8} {ky : Array UInt8} {n bk d : Nat} {p : Int}
theorem find_spec (hD : DevIs w news dv dd tr lf H ky n bk d p) (hO : DevOk H ky n bk d p) (v : Value) (y : Str) (hNo : NormC w dv news v y) (hT : ∀ c,(devT H ky n bk d c).cps.all (· < 128) = true ∧ (devT H ky n bk d c).cps.size = d) (hy : y.cps.all (· < 128) = true) (hyd : y.cps.size = d)
   (s e s0 : Int) (t1 t2 : Tok) (he : e ≤ 2 ^ 60) (hs0 : s0 = max s 0) (hTab : TabF news)
   (hS : Site w A D h₀ L) (hR : Room A 8) (hF : Fr h₀ L hp m) (hN : News h₀ L hp news)
   (hret : ∀ (c' : Int) (u' : Tok) (h' : Heap) (tk' : Nat) (news' : Led),firstM (devT H ky n bk d) y (e - s0).toNat s0 = some c' → Fr h₀ L h' m → News h₀ L h' news' → Turns2 dd news news' → DevIs w news' dv dd tr lf H ky n bk d p → TabF news' → Q (.int c' u') ⟨h',gs,dr,tk',os⟩)
   (hexc : ∀ (G : Heap) (x : Addr) (h' : Heap) (tk' : Nat) (news' : Led),firstM (devT H ky n bk d) y (e - s0).toNat s0 = none → Fr h₀ L G m → Fly D.base G (D.env :: D.outer) x (.ref 66) none news' h' → Turns2 dd news news' → DevIs w news' dv dd tr lf H ky n bk d p → TabF news' → E (.ref x) ⟨h',gs,dr,tk',os⟩) :
      wpAny (model pw w) A (call (.ref 357) [.ref dv,v, .int s t1, .int e t2]) Q E ⟨hp,gs,dr,tk,os⟩ :=by
  have hD0 :=hD
  refine DevIs.el hD0 ?_;intro u t3 t4 nt kh h1 h4 h5
  k_extra "in"
  have fin : ∀ (oc : Obj) (hoc : oc.data = .cell (some (.ref dv))) (u' : Tok) (ts : Tok) (hp' : Heap) (tk' : Nat),Fr g L' hp' (fnM dv v s e t1 t2 L' y u' s0 ts) → News g L' hp' ((L' + 1,oc) :: news) → wpAny (model pw w) A1 (execs ((bodyS (mt 21 23)).drop 2) (fnE L')) Q1 E1 ⟨hp',gs,dr,tk',os⟩ :=by
    intro oc hoc u' ts hp' tk' F N
    refine find_rest hO y hT hy hyd v s e t1 t2 u' s0 ts he (hs0 ▸ Int.le_max_right s 0) T1 S1 R1 X1 lN hoc F N hD hTab ?_ ?_
    · intro c' u' h' tk' news' m' e1 a b t q tt
      exact hQ1 _ _ _ _ a b (fun F0 N0=>hret c' u' h' tk' news' e1 F0 N0 t q tt)
    · intro x ox h' tk' nw news' m' e1 a b mm hd' ho' K' ne' t q tt
      refine hE1 _ _ ?_
      subst hD1
      refine raise_out S1 rfl a b mm ho' ?_
      intro h'' fl'
      rw [hd'] at fl'
      dsimp only at fl'
      have kq : ∀ q ∈ nw,q ∈ news'.filter fun p=>decide (p.1 ≠ x) :=fun q hq=>kept_on K' ne' hq
      exact hexc _ _ _ _ _ e1 G1 fl' (t.trans (Turns2.of_sub kq)) (q.mono kq) (tt.mono kq)
  by_cases hs : s < 0
  · have hb : decide (s < 0) = true :=decide_eq_true hs
    have hz : s0 = 0 :=hs0.trans (Int.max_eq_right (Int.le_of_lt hs))
    subst hz
    k_extra "s3"
    exact fin _ ‹_› _ _ _ _ ‹_› ‹_›
  · have hb : decide (s < 0) = false :=decide_eq_false hs
    have hz : s0 = s :=hs0.trans (Int.max_eq_left (Int.not_lt.mp hs))
    subst hz
    k_extra "s3"
    exact fin _ ‹_› _ _ _ _ (fnM_same ‹_›) ‹_›
end
theorem firstM_range {f : Int → PySem.Str} {y : PySem.Str} : ∀ {k : Nat} {s c : Int},firstM f y k s = some c → s ≤ c ∧ c < s + k ∧ y = f c
  | 0,_,_,h=>by cases h
  | k + 1,s,c,h=>by
    by_cases q : y = f s
    · have e : firstM f y (k + 1) s = some s :=if_pos q
      rw [e] at h
      cases h
      exact ⟨Int.le_refl _,by omega,q⟩
    · have e : firstM f y (k + 1) s = firstM f y k (s + 1) :=if_neg q
      rw [e] at h
      have :=firstM_range h
      exact ⟨Int.le_of_lt this.1,Om.k7 this.2.1,this.2.2⟩
section
variable {prog : Program} {w : World} {A : Around} {E : VP} {h h₀ : Heap} {g : Array GenState} {d : Drawn} {t : Nat} {os : OsState} {L : Addr} {m : MP} {news : Led}
theorem maxI {Q : VP} {a b : Int} {u v : Tok} (hh : A.handled = none) (F : Fr h₀ L h m) (N : News h₀ L h news) (hq : ∀ u h' t',Fr h₀ L h' m → News h₀ L h' news → Q (.int (max a b) u) ⟨h',g,d,t',os⟩) : wpAny (model prog w) A (call (.builtin "max") [.int a u, .int b v]) Q E ⟨h,g,d,t,os⟩ :=by
  refine max_two_ints hh fun h' tk hk=>?_
  by_cases hc : b > a
  · rw [if_pos hc]
    have :=hq v h' tk (F.keeps hk) (N.grown hk)
    rwa [show max a b = b from Int.max_eq_right (Int.le_of_lt ‹_›)] at this
  · rw [if_neg hc]
    have :=hq u h' tk (F.keeps hk) (N.grown hk)
    rwa [show max a b = a from Int.max_eq_left (Int.not_lt.mp ‹_›)] at this
end
theorem NormC.mono {w : World} {dv : Addr} {v : Value} {y : PySem.Str} {a b : Led} (h : NormC w dv a v y) (k : ∀ q ∈ a,q ∈ b) : NormC w dv b v y :=fun A D hp h₀ gs dr tk os L m Q E nw a b c d e=>h A D hp h₀ gs dr tk os L m Q E nw a b c d fun q hq=>e q (k q hq)
noncomputable abbrev mcB (dv : Addr) (v lv : Value) (tm wd sk : Int) (t1 t2 t3 : Tok) : Str → Option Value :=
  fun y=>List.lookup y [(ofString "last_counter",lv),(ofString "skew", .int sk t3),(ofString "window", .int wd t2),(ofString "time", .int tm t1),(ofString "token",v),(ofString "self", .ref dv)]
noncomputable abbrev mcC (dv : Addr) (v lv : Value) (tm wd sk : Int) (t1 t2 t3 : Tok) (uc : Tok) : Str → Option Value :=
  fun y=>if y = ofString "client_time" then some (.int (tm + sk) uc) else if y = ofString "time" then some (.int tm t1) else mcB dv v lv tm wd sk t1 t2 t3 y
noncomputable abbrev mcM (dv : Addr) (v lv : Value) (tm wd sk : Int) (t1 t2 t3 : Tok) (uc : Tok) (l : Int) (tl : Tok) : Str → Option Value :=
  fun y=>if y = ofString "last_counter" then some (.int l tl) else mcC dv v lv tm wd sk t1 t2 t3 uc y
theorem mcM_same {h₀ h : Heap} {L dv : Addr} {v : Value} {tm wd sk l : Int} {t1 t2 t3 uc tl : Tok} (F : Fr h₀ L h (mcC dv v (.int l tl) tm wd sk t1 t2 t3 uc)) : Fr h₀ L h (mcM dv v (.int l tl) tm wd sk t1 t2 t3 uc l tl) :=by
  have e : mcC dv v (.int l tl) tm wd sk t1 t2 t3 uc = mcM dv v (.int l tl) tm wd sk t1 t2 t3 uc l tl :=by
    funext z
    by_cases q : z = ofString "last_counter"
    · subst q;rfl
    · exact (if_neg q).symm
  rw [e] at F
  exact F
noncomputable abbrev mcE (L' : Addr) : Env :=envX (ofString "TOTP.match") (fS (mt 21 22)) L' 349 (.ref 348) []
noncomputable abbrev mcS (p tm wd sk l : Int) : Int :=max (max l (Int.fdiv (tm + sk - wd) p)) 0
noncomputable abbrev mcT (p tm wd sk : Int) : Int :=Int.fdiv (tm + sk + wd) p + 1
noncomputable abbrev matObj (P : Params) (u0 u1 u2 u3 u4 u5 u6 : Tok) (dv : Addr) (c tm wd : Int) : Obj :=dictOf [
  ⟨PyData.keyHash P (ofString "totp"), .str (ofString "totp") u0, .ref dv⟩,
  ⟨PyData.keyHash P (ofString "counter"), .str (ofString "counter") u1, .int c u4⟩,
  ⟨PyData.keyHash P (ofString "time"), .str (ofString "time") u2, .int tm u5⟩,
  ⟨PyData.keyHash P (ofString "window"), .str (ofString "window") u3, .int wd u6⟩] 4
section
variable {w : World} {A : Around} {D : SD} {h₀ : Heap} {gs : Array GenState} {dr : Drawn} {os : OsState} {L : Addr} {m : MP} {E : VP}
variable {dv dd tr lf : Addr} {H : Array UInt8 → Array UInt8} {ky : Array UInt8} {n bk d : Nat} {p : Int}
theorem match_rest (hO : DevOk H ky n bk d p) (v lv : Value) (y : Str) (hT : ∀ c,(devT H ky n bk d c).cps.all (· < 128) = true ∧ (devT H ky n bk d c).cps.size = d) (hy : y.cps.all (· < 128) = true) (hyd : y.cps.size = d)
   (tm wd sk l : Int) (t1 t2 t3 uc tl : Tok) (he : mcT p tm wd sk ≤ 2 ^ 60)
   {g : Heap} {L' : Addr} {A1 : Around} {D1 : SD} {Q1 : FP} {E1 : VP} {mean : ExcName → Option Value} {mg mb : MP} (T1 : Top topProg lt mean mg mb g)
   (S1 : Site w A1 D1 g L') (R1 : Room A1 10) (X1 : Frag.In (K w.params) g)
   {hp : Heap} {tk : Nat} {news : Led} (lN : ∀ q ∈ news,q.1 < L') (F1 : Fr g L' hp (mcM dv v lv tm wd sk t1 t2 t3 uc l tl)) (N1 : News g L' hp news) (hD : DevIs w news dv dd tr lf H ky n bk d p) (hNo : NormC w dv news v y) (hTab : TabF news)
   (hret : ∀ (c' : Int) (x dx : Addr) (u0 u1 u2 u3 u4 u5 u6 : Tok) (h' : Heap) (tk' : Nat) (news' : Led) (m' : MP),firstM (devT H ky n bk d) y (mcT p tm wd sk - mcS p tm wd sk l).toNat (mcS p tm wd sk l) = some c' → c' ≠ l → Fr g L' h' m' → News g L' h' ((x,instObj 471 dx) :: (dx,matObj w.params u0 u1 u2 u3 u4 u5 u6 dv c' tm wd) :: news') → Turns2 dd news news' → DevIs w news' dv dd tr lf H ky n bk d p → TabF news' → Q1 (.ret (.ref x)) ⟨h',gs,dr,tk',os⟩)
   (hused : ∀ (x dx : Addr) (ox : Obj) (u tv : Tok) (h' : Heap) (tk' : Nat) (nw news' : Led) (m' : MP),firstM (devT H ky n bk d) y (mcT p tm wd sk - mcS p tm wd sk l).toNat (mcS p tm wd sk l) = some l → Fr g L' h' m' → News g L' h' news' → (x,ox) ∈ news' → ox.dict = some dx → (dx,expO w.params u (.int ((l + 1) * p) tv)) ∈ news' → ExcObj (K w.params) ox (.ref 87) → (∀ q ∈ nw,q ∈ news') → (∀ q ∈ nw,q.1 ≠ x) → Turns2 dd news nw → DevIs w nw dv dd tr lf H ky n bk d p → TabF nw → E1 (.ref x) ⟨h',gs,dr,tk',os⟩)
   (hmiss : ∀ (G : Heap) (x : Addr) (h' : Heap) (tk' : Nat) (news' : Led) (m' : MP),firstM (devT H ky n bk d) y (mcT p tm wd sk - mcS p tm wd sk l).toNat (mcS p tm wd sk l) = none → Fr g L' G m' → Fly D1.base G (D1.env :: D1.outer) x (.ref 66) none news' h' → Turns2 dd news news' → DevIs w news' dv dd tr lf H ky n bk d p → TabF news' → E1 (.ref x) ⟨h',gs,dr,tk',os⟩) :
      wpAny (model pw w) A1 (execs ((bodyS (mt 21 22)).drop 4) (mcE L')) Q1 E1 ⟨hp,gs,dr,tk,os⟩ :=by
  have hD0 :=hD
  refine DevIs.el hD0 ?_;intro u t5 t6 nt kh h1 h4 h5
  have hp1 :=hO.hp
  have hp2 :=hO.hp2
  have hne : p ≠ 0 :=Om.i14 ‹_›
  k_extra "s4"
  refine find_spec hD hO v y hNo hT hy hyd _ _ _ _ _ he rfl hTab (by k_extra "site") (by k_extra "roomle") ‹_› ‹_› ?_ ?_
  · intro c' u' h' tk' news' e1 F' N' tu' D' tb'
    obtain ⟨r1,r2,r3⟩ :=firstM_range e1
    have hge : decide (l ≤ c') = true :=decide_eq_true (Int.le_trans (Int.le_max_left _ _) (Int.le_trans (Int.le_max_left _ _) r1))
    clear h1 h5
    refine DevIs.el D' ?_;intro u t5 t6 nt kh h1 h4 h5
    have hc60 : c' < 2 ^ 60 :=by unfold mcT at he;exact Om.p2 r1 r2 he
    have hc0 : 0 ≤ c' :=Int.le_trans (Int.le_max_right _ _) r1
    by_cases hcl : c' = l
    · have hmul : IntMulOk (l + 1) p :=mulOkB 8 1 (Om.p3 (hcl ▸ hc0) (hcl ▸ hc60)) (by exact Om.t7 ‹_› ‹_› (by kernel_rfl!)) (by decide)
      k_extra "go"
      refine ⟨_,_,_,rfl,News.get ‹_› ‹_›, ‹_›,X1.keeps (Fr.keep ‹_›), ?_⟩
      subst hcl
      exact hused _ _ _ _ _ _ _ _ _ _ e1 ‹_› ‹_› ‹_› hd' mx' ho' K' ne' tu' D' tb'
    · k_extra "go"
      exact hret c' _ _ _ _ _ _ _ _ _ _ _ _ _ e1 hcl ‹_› ‹_› tu' D' tb'
  · intro G x h' tk' news' e1 F' fl' tu' D' tb'
    exact hmiss G x h' tk' news' _ e1 F' fl' tu' D' tb'
end
section
variable {w : World} {A : Around} {D : SD} {hp h₀ : Heap} {gs : Array GenState} {dr : Drawn} {tk : Nat} {os : OsState} {L : Addr} {m : MP} {news : Led} {Q E : VP}
variable {dv dd tr lf : Addr} {H : Array UInt8 → Array UInt8} {ky : Array UInt8} {n bk d : Nat} {p : Int}
theorem match_pre (hD : DevIs w news dv dd tr lf H ky n bk d p) (v lv : Value) (tm wd sk l : Int) (t1 t2 t3 : Tok) (hw : 0 ≤ wd) (hl : (lv = .none ∧ l = -1) ∨ ∃ tl,lv = .int l tl)
   {g : Heap} {L' : Addr} {A1 : Around} {D1 : SD} {Q1 : FP} {E1 : VP} {mean : ExcName → Option Value} {mg mb : MP} (T1 : Top topProg lt mean mg mb g)
   (S1 : Site w A1 D1 g L') (R1 : Room A1 4) (X1 : Frag.In (K w.params) g) (lN : ∀ q ∈ news,q.1 < L') (F1 : Fr g L' hp (mcB dv v lv tm wd sk t1 t2 t3)) (N1 : News g L' hp news)
   (fin : ∀ (uc tl : Tok) (hp' : Heap) (tk' : Nat) (own : Led),Fr g L' hp' (mcM dv v lv tm wd sk t1 t2 t3 uc l tl) → News g L' hp' (own ++ news) → wpAny (model pw w) A1 (execs ((bodyS (mt 21 22)).drop 4) (mcE L')) Q1 E1 ⟨hp',gs,dr,tk',os⟩) :
      wpAny (model pw w) A1 (execs (bodyS (mt 21 22)) (mcE L')) Q1 E1 ⟨hp,gs,dr,tk,os⟩ :=by
  have hD0 :=hD
  refine DevIs.el hD0 ?_;intro u t5 t6 nt kh h1 h4 h5
  have hwb : decide (wd < 0) = false :=decide_eq_false (by exact Int.not_lt.mpr ‹_›)
  rcases hl with ⟨rfl,rfl⟩ | ⟨tl,rfl⟩
  · k_extra "s5"
    exact fin _ _ _ _ [_] ‹_› ‹_›
  · k_extra "s5"
    exact fin _ _ _ _ [_] (mcM_same ‹_›) ‹_›
theorem match_spec (hD : DevIs w news dv dd tr lf H ky n bk d p) (hO : DevOk H ky n bk d p) (v lv : Value) (y : Str) (hNo : NormC w dv news v y) (hT : ∀ c,(devT H ky n bk d c).cps.all (· < 128) = true ∧ (devT H ky n bk d c).cps.size = d) (hy : y.cps.all (· < 128) = true) (hyd : y.cps.size = d)
   (tm wd sk l : Int) (t1 t2 t3 : Tok) (hw : 0 ≤ wd) (he : mcT p tm wd sk ≤ 2 ^ 60) (hl : (lv = .none ∧ l = -1) ∨ ∃ tl,lv = .int l tl) (hTab : TabF news)
   (hS : Site w A D h₀ L) (hR : Room A 11) (hF : Fr h₀ L hp m) (hN : News h₀ L hp news)
   (hret : ∀ (c' : Int) (x dx : Addr) (u0 u1 u2 u3 u4 u5 u6 : Tok) (h' : Heap) (tk' : Nat) (news' : Led),firstM (devT H ky n bk d) y (mcT p tm wd sk - mcS p tm wd sk l).toNat (mcS p tm wd sk l) = some c' → c' ≠ l → Fr h₀ L h' m → News h₀ L h' ((x,instObj 471 dx) :: (dx,matObj w.params u0 u1 u2 u3 u4 u5 u6 dv c' tm wd) :: news') → Turns2 dd news news' → DevIs w news' dv dd tr lf H ky n bk d p → TabF news' → Q (.ref x) ⟨h',gs,dr,tk',os⟩)
   (hused : ∀ (G : Heap) (x dx : Addr) (u tv : Tok) (h' : Heap) (tk' : Nat) (news' : Led),firstM (devT H ky n bk d) y (mcT p tm wd sk - mcS p tm wd sk l).toNat (mcS p tm wd sk l) = some l → Fr h₀ L G m → Fly D.base G (D.env :: D.outer) x (.ref 87) (some dx) news' h' → (dx,expO w.params u (.int ((l + 1) * p) tv)) ∈ news' → Turns2 dd news news' → DevIs w news' dv dd tr lf H ky n bk d p → TabF news' → E (.ref x) ⟨h',gs,dr,tk',os⟩)
   (hmiss : ∀ (G : Heap) (x : Addr) (h' : Heap) (tk' : Nat) (news' : Led),firstM (devT H ky n bk d) y (mcT p tm wd sk - mcS p tm wd sk l).toNat (mcS p tm wd sk l) = none → Fr h₀ L G m → Fly D.base G (D.env :: D.outer) x (.ref 66) none news' h' → Turns2 dd news news' → DevIs w news' dv dd tr lf H ky n bk d p → TabF news' → E (.ref x) ⟨h',gs,dr,tk',os⟩) :
      wpAny (model pw w) A (call (.ref 349) [.ref dv,v, .int tm t1, .int wd t2, .int sk t3,lv]) Q E ⟨hp,gs,dr,tk,os⟩ :=by
  k_extra "in"
  refine match_pre hD v lv tm wd sk l t1 t2 t3 hw hl T1 S1 (Room.le R1 (by decide)) X1 lN ‹_› ‹_› ?_
  · intro uc tl hp' tk' own F N
    refine match_rest hO v lv y hT hy hyd tm wd sk l t1 t2 t3 uc tl he T1 S1 R1 X1 lN F (fun q hq=>N q (List.mem_append_right _ hq)) hD hNo hTab ?_ ?_ ?_
    · intro c' x dx u0 u1 u2 u3 u4 u5 u6 h' tk' news' m' e1 e2 a b t q tt
      exact hQ1 _ _ _ _ a b (fun F0 N0=>hret c' x dx _ _ _ _ _ _ _ h' tk' news' e1 e2 F0 N0 t q tt)
    · intro x dx ox u tv h' tk' nw news' m' e1 a b mm hd' mx' ho' K' ne' t q tt
      refine hE1 _ _ ?_
      subst hD1
      refine raise_out S1 rfl a b mm ho' ?_
      intro h'' fl'
      rw [hd'] at fl'
      dsimp only at fl'
      have kq : ∀ q ∈ nw,q ∈ news'.filter fun p=>decide (p.1 ≠ x) :=fun q hq=>kept_on K' ne' hq
      have ne2 : dx ≠ x :=fun z=>by
        obtain ⟨a0,r,e2⟩ :=ho'.data
        have e3 :=(b _ mm).1
        have e4 :=(b _ mx').1
        rw [z,e3] at e4
        have e5 : ox = expO w.params u (.int ((l + 1) * p) tv) :=Option.some.inj e4
        rw [e5] at e2
        cases e2
      exact hused _ _ _ _ _ _ _ _ e1 G1 fl' (List.mem_filter.mpr ⟨mx',decide_eq_true ne2⟩) (t.trans (Turns2.of_sub kq)) (q.mono kq) (tt.mono kq)
    · intro G x h' tk' news' m' e1 F' fl' t q tt
      refine hE1 _ _ ?_
      subst hD1
      exact pass_out S1 rfl F' fl' fun h'' fl''=>hmiss _ _ _ _ _ e1 G1 fl'' t q tt
noncomputable def NormX (w : World) (dv : Addr) (news : Led) (v cls : Value) : Prop :=
  ∀ (A : Around) (D : SD) (hp h₀ : Heap) (gs : Array GenState) (dr : Drawn) (tk : Nat) (os : OsState) (L : Addr) (m : MP) (Q E : VP) (nw : Led),Site w A D h₀ L → Room A 7 → Fr h₀ L hp m → News h₀ L hp nw → (∀ p ∈ news,p ∈ nw) →
    (∀ (G : Heap) (e : Addr) (h' : Heap) (tk' : Nat) (news' : Led),Fr h₀ L G m → Fly D.base G (D.env :: D.outer) e cls none news' h' → (∀ q ∈ nw,q ∈ news') → E (.ref e) ⟨h',gs,dr,tk',os⟩) → wpAny (model pw w) A (call (.ref 327) [.ref dv,v]) Q E ⟨hp,gs,dr,tk,os⟩
theorem NormX.mono {w : World} {dv : Addr} {v cls : Value} {a b : Led} (h : NormX w dv a v cls) (k : ∀ q ∈ a,q ∈ b) : NormX w dv b v cls :=fun A D hp h₀ gs dr tk os L m Q E nw a b c d e=>h A D hp h₀ gs dr tk os L m Q E nw a b c d fun q hq=>e q (k q hq)
theorem find_bad (hD : DevIs w news dv dd tr lf H ky n bk d p) (v cls : Value) (hX : NormX w dv news v cls) (s e : Int) (t1 t2 : Tok)
   (hS : Site w A D h₀ L) (hR : Room A 8) (hF : Fr h₀ L hp m) (hN : News h₀ L hp news)
   (hexc : ExcK D h₀ L m gs dr os E news cls) :
      wpAny (model pw w) A (call (.ref 357) [.ref dv,v, .int s t1, .int e t2]) Q E ⟨hp,gs,dr,tk,os⟩ :=by
  have hD0 :=hD
  refine DevIs.el hD0 ?_;intro u t3 t4 nt kh h1 h4 h5
  k_extra "in"
  k_extra "s6"
  refine hX _ _ _ _ _ _ _ _ _ _ _ _ _ (by k_extra "site") (by k_extra "roomle") ‹_› ‹_› (fun q hq=>by k_mem) ?_
  intro G' e' h' t' news' F' fl' K'
  k_extra "passed"
  exact hexc _ _ _ _ _ ‹_› fl' (fun q hq=>K' q (by k_mem))
theorem match_bad0 (hD : DevIs w news dv dd tr lf H ky n bk d p) (hO : DevOk H ky n bk d p) (v lv cls : Value) (hX : NormX w dv news v cls) (tm wd sk l : Int) (t1 t2 t3 : Tok) (hw : 0 ≤ wd) (hl : (lv = .none ∧ l = -1) ∨ ∃ tl,lv = .int l tl)
   {g : Heap} {L' : Addr} {A1 : Around} {D1 : SD} {Q1 : FP} {E1 : VP} {mean : ExcName → Option Value} {mg mb : MP} (T1 : Top topProg lt mean mg mb g)
   (S1 : Site w A1 D1 g L') (R1 : Room A1 10) (X1 : Frag.In (K w.params) g) (lN : ∀ q ∈ news,q.1 < L') (F1 : Fr g L' hp (mcB dv v lv tm wd sk t1 t2 t3)) (N1 : News g L' hp news)
   (hexc : ∀ (G : Heap) (x : Addr) (h' : Heap) (tk' : Nat) (m' : MP) (news' : Led),Fr g L' G m' → Fly D1.base G (D1.env :: D1.outer) x cls none news' h' → (∀ q ∈ news,q ∈ news') → E1 (.ref x) ⟨h',gs,dr,tk',os⟩) :
      wpAny (model pw w) A1 (execs (bodyS (mt 21 22)) (mcE L')) Q1 E1 ⟨hp,gs,dr,tk,os⟩ :=by
  refine match_pre hD v lv tm wd sk l t1 t2 t3 hw hl T1 S1 (Room.le R1 (by decide)) X1 lN F1 N1 ?_
  intro uc tl hp' tk' own F2 N2
  have hsub : ∀ q ∈ news,q ∈ own ++ news :=fun q hq=>List.mem_append_right _ hq
  have hX2 :=hX.mono hsub
  have hD2 :=hD.mono hsub
  clear F1 N1 hX
  refine DevIs.el hD2 ?_;intro u t5 t6 nt kh h1 h4 h5
  have hp1 :=hO.hp
  have hp2 :=hO.hp2
  have hne : p ≠ 0 :=Om.i14 ‹_›
  k_extra "s4"
  refine find_bad hD2 v cls hX2 _ _ _ _ (by k_extra "site") (by k_extra "roomle") ‹_› ‹_› ?_
  intro G' e' h' t' news' F' fl' K'
  exact hexc _ _ _ _ _ _ ‹_› fl' (fun q hq=>K' q (hsub q hq))
theorem match_bad3 (hD : DevIs w news dv dd tr lf H ky n bk d p) (hO : DevOk H ky n bk d p) (v cls : Value) (hX : NormX w dv news v cls) (tm : Int) (t1 : Tok)
   (hS : Site w A D h₀ L) (hR : Room A 11) (hF : Fr h₀ L hp m) (hN : News h₀ L hp news)
   (hexc : ExcK D h₀ L m gs dr os E news cls) :
      wpAny (model pw w) A (call (.ref 349) [.ref dv,v, .int tm t1]) Q E ⟨hp,gs,dr,tk,os⟩ :=by
  k_extra "in"
  refine match_bad0 hD hO v .none cls hX tm 30 0 (-1) _ _ _ (by decide) (.inl ⟨rfl,rfl⟩) T1 S1 R1 X1 lN ‹_› ‹_› ?_
  intro G' e' h' t' m' news' F' fl' K'
  k_extra "passed"
  exact hexc _ _ _ _ _ ‹_› fl' K'
theorem match_bad6 (hD : DevIs w news dv dd tr lf H ky n bk d p) (hO : DevOk H ky n bk d p) (v lv cls : Value) (hX : NormX w dv news v cls) (tm wd sk l : Int) (t1 t2 t3 : Tok) (hw : 0 ≤ wd) (hl : (lv = .none ∧ l = -1) ∨ ∃ tl,lv = .int l tl)
   (hS : Site w A D h₀ L) (hR : Room A 11) (hF : Fr h₀ L hp m) (hN : News h₀ L hp news)
   (hexc : ExcK D h₀ L m gs dr os E news cls) :
      wpAny (model pw w) A (call (.ref 349) [.ref dv,v, .int tm t1, .int wd t2, .int sk t3,lv]) Q E ⟨hp,gs,dr,tk,os⟩ :=by
  k_extra "in"
  refine match_bad0 hD hO v lv cls hX tm wd sk l _ _ _ hw hl T1 S1 R1 X1 lN ‹_› ‹_› ?_
  intro G' e' h' t' m' news' F' fl' K'
  k_extra "passed"
  exact hexc _ _ _ _ _ ‹_› fl' K'
end
section
open PySem.Calls
section
variable {prog : Program} {w : World} {A₀ A : Around} {s : Shared} {base h₀ : Heap} {L : Addr} {m : MP} {env : Env} {news : Led}
  {R : Result → Shared → Prop} {name qual : Str} {params : Arguments} {body : List Stmt} {scope : Scope} {cl : List (Str × Addr)} {dV kV doc pm cdv ct : Value} {an : Option Addr} {fo : Obj} {f : Addr} {args : Args} {binds : List (Str × Value)}
noncomputable def LeaveT (h₀ : Heap) (L : Addr) (m : MP) (g : Heap) (R : Result → Shared → Prop) (v : Value) (s' : Shared) : Prop :=
  ∃ g' L' m' news',KtsTurn [L] g g' ∧ Fr g' L' s'.heap m' ∧ News g' L' s'.heap news' ∧ (Fr h₀ L s'.heap m → News h₀ L s'.heap news' → R (.ok (.ret v)) s')
theorem callX_turn (B : Below A₀ base [] h₀) (F : Fr h₀ L s.heap m) (N : News h₀ L s.heap news) (hlim : h₀.NoLimit) (hA : A.frames = some [env]) (hf : env.frame = some L) (hke : env.scope.kind = .function)
    (ho : s.heap.get? f = some fo) (hd : fo.data = .func (fnX name qual params body scope cl dV kV doc pm an cdv ct)) (hcd : s.heap.CodeRec cdv qual) (hroom : A.depth < recursionLimit)
    (hbind : BindsTo s (fnX name qual params body scope cl dV kV doc pm an cdv ct) args binds) (hloc : ∀ y ∈ binds,scope.names.lookup y.1 = some .local)
    (h : ∀ g L' h₁,Fr h₀ L g m → Fr g L' h₁ (fun y=>binds.reverse.lookup y) → News g L' h₁ news → Below A base [env] g → h₀.StaysIn g → (∀ p ∈ news,p.1 < L') →
      wpAny (model prog w) (A.deeper (envX qual scope L' f cdv cl)) (execs body (envX qual scope L' f cdv cl))
        (fun fl s'=>LeaveT h₀ L m g R (match fl with | .ret v=>v | _=>.none) s')
        (fun e s'=>wpAny (model prog w) (A.deeper (envX qual scope L' f cdv cl)) (leaving (envX qual scope L' f cdv cl) e) (fun _ s''=>R (.error e) s'') (fun e' s''=>R (.error e') s'') s')
        { s with heap :=h₁,toks :=s.toks + binds.length })
    (hcell : ∀ x ∈ scope.names,x.2 ≠ .cell) (hco : autoParam (scope.isCoroutine = false) ap._auto_1) (hgen : autoParam (scope.isGenerator = false) ap._auto_1) (hk : autoParam (scope.kind = .function) ap._auto_1) : codeAny (model prog w) A (.call (.ref f) args) R s :=by
  k_extra "G"
  obtain ⟨FG,BG,st,lv⟩ :=groundX (R :=R) B F N hA hf hke
  k_unfold
  refine codeAny_call_def (fd :=fnX name qual params body scope cl dV kV doc pm an cdv ct) (body :=body) (binds :=binds) hroom ho hd (hlim.keeps F.keep) hcd rfl hbind hcell hloc (fun h₁ hns hk₁=>?_) hco hgen hk
  refine wpAny_mono (h _ s.heap.objs.size h₁ FG ⟨hns,fun b o e=>hk₁ b o (of_hideAll _ e),Nat.le_of_eq (hideAll_size _ _)⟩
    (fun p hp=>⟨hk₁ _ _ (N p hp).1,Nat.ne_of_lt (Heap.lt_size (N p hp).1),hideAll_none _ (List.mem_map_of_mem hp)⟩) BG st (fun p hp=>Heap.lt_size (N p hp).1)) (fun fl s' hl=>?_) fun _ _ y=>y
  k_extra "G"
  obtain ⟨g',L',m',news',T',F',N',k⟩ :=hl
  k_unfold
  k_extra "G"
  obtain ⟨oL,es,ep,hLg,hLd,hLk,hLf⟩ :=FG.ns
  k_unfold
  have nL₀ : h₀.get? L = none :=kts_self F
  k_extra "G"
  obtain ⟨sl,hs⟩ :=T'.up hLg
  k_unfold
  refine k ⟨⟨_,es,ep,F'.keep _ _ hs,hLd,hLk,hLf⟩,fun b o e=>F'.keep b o (T'.other b o (st b o e) (fun q=>?_)),F.above⟩ fun p hp=>⟨(N' p hp).1,fun q=>?_, ?_⟩
  · rw [List.mem_singleton.mp q,nL₀] at e
    cases e
  · have :=(N' p hp).2.2;rw [q,hs] at this;cases this
  · cases q : h₀.get? p.1 with
    | none=>rfl
    | some o =>
      k_extra "G"
      obtain ⟨sl',hs'⟩ :=T'.up (st _ _ q)
      k_unfold
      have :=(N' p hp).2.2
      rw [hs'] at this
      cases this
end
section
variable {w : World} {A : Around} {D : SD} {h h₀ : Heap} {gs : Array GenState} {dr : Drawn} {t : Nat} {os : OsState} {L : Addr} {m : MP} {news : Led} {k : Nat} {R : Result → Shared → Prop}
theorem enterT {name qual : Str} {params : Arguments} {body : List Stmt} {scope : Scope} {cl : List (Str × Addr)} {dV kV doc pm cdv ct oc : Value} {an od : Option Addr} {osl : Array (Option Value)} {f : Addr} {args : Args} {binds : List (Str × Value)}
    (S : Site w A D h₀ L) (hD : D.outer = []) (F : Fr h₀ L h m) (N : News h₀ L h news) (r : Room A (k + 1))
    (ho : h.get? f = some ⟨oc,od, .func (fnX name qual params body scope cl dV kV doc pm an cdv ct),osl⟩) (hcd : h.CodeRec cdv qual)
    (hbind : BindsTo ⟨h,gs,dr,t,os⟩ (fnX name qual params body scope cl dV kV doc pm an cdv ct) args binds) (hloc : ∀ y ∈ binds,scope.names.lookup y.1 = some .local)
    (hb : ∀ A1 D1 g L' h₁ tk Q1 E1,A1 = A.deeper (envX qual scope L' f cdv cl) → D1 = ⟨A,D.base,envX qual scope L' f cdv cl,D.env :: D.outer⟩ → (∃ mean mg mb,Top topProg lt mean mg mb g) → Site w A1 D1 g L' → Room A1 k → Frag.In (K w.params) g → Fr h₀ L g m → Fr g L' h₁ (fun y=>binds.reverse.lookup y) → News g L' h₁ news → (∀ p ∈ news,p.1 < L') →
      (∀ v s' g' m' news',KtsTurn [L] g g' → Fr g' L' s'.heap m' → News g' L' s'.heap news' → (Fr h₀ L s'.heap m → News h₀ L s'.heap news' → R (.ok (.ret v)) s') → Q1 (.ret v) s') →
      wpAny (model pw w) A1 (execs body (envX qual scope L' f cdv cl)) Q1 E1 ⟨h₁,gs,dr,tk,os⟩)
    (hco : scope.isCoroutine = false) (hgen : scope.isGenerator = false) (hk : scope.kind = .function)
    (hcell : ∀ x ∈ scope.names,x.2 ≠ .cell) : codeAny (model pw w) A (.call (.ref f) args) R ⟨h,gs,dr,t,os⟩ :=by
  k_extra "G"
  obtain ⟨mean,mg,mb,T⟩ :=S.T
  k_unfold
  refine callX_turn (cl :=cl) (hD ▸ S.B) F N T.nolimit (hD ▸ S.fr) S.ef S.ek ho rfl hcd (by have :=r.d;exact Om.j18 ‹_›) hbind hloc (fun g L' h₁ FG F' N' B' st l=>?_) hcell hco hgen hk
  exact hb _ _ g L' h₁ _ _ _ rfl rfl ⟨mean,mg,mb,T.keeps st⟩ (S.push FG (by rw [hD];exact B') st rfl hk) r.push (S.X.keeps st) FG F' N' l (fun v s' g' m' news' T1 F1 N1 hq=>⟨g',L',m',news',T1,F1,N1,fun a b=>hq a b⟩)
end
section
variable {M : Model} {A : Around} {E : VP} {h h₀ : Heap} {g : Array GenState} {d : Drawn} {t : Nat} {os : OsState} {m : MP} {env : Env} {news : Led}
theorem goesN {n : Str} {pos : Pos} {Q : Unit → Shared → Prop} (F : Fr h₀ env.locals h m) (N : News h₀ env.locals h news) (hl : env.kindOf n = some .local) (hp : (env.scope.kind == .class || (env.scope.kind == .module && env.locals != env.globals)) = false)
    (hq : ∀ h' m' t',Fr h₀ env.locals h' m' → News h₀ env.locals h' news → Q () ⟨h',g,d,t',os⟩) :
    wpAny M A (do bindName env n .none;unbindBehindTheSuite env n pos) Q E ⟨h,g,d,t,os⟩ :=by
  refine wpAny_nameGoes (s :=⟨h,g,d,t,os⟩) hl F.ns hp fun h' m' ns sb=>hq h' m' _ ⟨ns,fun b o e=>sb.extBut b o (fun q=>?_) (F.keep b o e),F.above⟩ fun p hp=>⟨sb.extBut _ _ (N p hp).2.1 (N p hp).1,(N p hp).2⟩
  have :=kts_self F
  rw [q] at e
  rw [e] at this
  cases this
end
end
noncomputable abbrev tlE (L' : Addr) : Env :=envX (ofString "_law_told") (fS (tp 30)) L' 502 (.ref 501) []
noncomputable abbrev tlM (dv : Addr) (v lv : Value) (tm wd sk : Int) (t1 t2 t3 : Tok) : Str → Option Value :=fun y=>List.lookup y [(ofString "last",lv),(ofString "skew", .int sk t3),(ofString "window", .int wd t2),(ofString "moment", .int tm t1),(ofString "shown",v),(ofString "device", .ref dv)]
theorem en_told {w : World} {A : Around} {D : SD} {hp h₀ : Heap} {gs : Array GenState} {dr : Drawn} {t : Nat} {os : OsState} {L : Addr} {m : MP} {news : Led} {k : Nat} {R : Result → Shared → Prop} {v1 v2 v3 v4 v5 v6 : Value}
    (S : Site w A D h₀ L) (hD : D.outer = []) (F : Fr h₀ L hp m) (N : News h₀ L hp news) (r : Room A (k + 1))
    (hb : ∀ A1 D1 g L' h₁ tk Q1 E1,A1 = A.deeper (tlE L') → D1 = ⟨A,D.base,tlE L',D.env :: D.outer⟩ → (∃ mean mg mb,Top topProg lt mean mg mb g) → Site w A1 D1 g L' → Room A1 k → Frag.In (K w.params) g → Fr h₀ L g m → Fr g L' h₁ (fun y=>List.lookup y [(ofString "last",v6),(ofString "skew",v5),(ofString "window",v4),(ofString "moment",v3),(ofString "shown",v2),(ofString "device",v1)]) → News g L' h₁ news → (∀ p ∈ news,p.1 < L') →
      (∀ v s' g' m' news',KtsTurn [L] g g' → Fr g' L' s'.heap m' → News g' L' s'.heap news' → (Fr h₀ L s'.heap m → News h₀ L s'.heap news' → R (.ok (.ret v)) s') → Q1 (.ret v) s') →
      wpAny (model pw w) A1 (execs (bodyS (tp 30)) (tlE L')) Q1 E1 ⟨h₁,gs,dr,tk,os⟩) :
    codeAny (model pw w) A (.call (.ref 502) ⟨[v1,v2,v3,v4,v5,v6], []⟩) R ⟨hp,gs,dr,t,os⟩ :=
  enterT (binds :=[(ofString "device",v1),(ofString "shown",v2),(ofString "moment",v3),(ofString "window",v4),(ofString "skew",v5),(ofString "last",v6)]) S hD F N r (show _ = some _ from old_of F S 502 ⟨.type "function",none, .func (fnX (ofString "_law_told") (ofString "_law_told") (fP (tp 30)) (bodyS (tp 30)) (fS (tp 30)) [] .none .none .none (.str (ofString "law_iw0012_01") 2889) none (.ref 501) .none), [].toArray⟩ (by kernel_rfl)) (codeRec_of (old_of F S) (by kernel_rfl)) (BindsTo.of_eq (by kernel_rfl)) (locs (by kernel_rfl)) hb (by kernel_rfl) (by kernel_rfl) (by kernel_rfl) (by decide +kernel)
theorem kn87 (P : Params) : KtsName (K P) (ofString "UsedTokenError") (.ref 87) :=.inl (by kernel_rfl)
theorem kn54 (P : Params) : KtsName (K P) (ofString "MalformedTokenError") (.ref 54) :=.inl (by kernel_rfl)
theorem kn66 (P : Params) : KtsName (K P) (ofString "InvalidTokenError") (.ref 66) :=.inl (by kernel_rfl)
section
variable {w : World} {A : Around} {D : SD} {hp h₀ : Heap} {gs : Array GenState} {dr : Drawn} {tk : Nat} {os : OsState} {L : Addr} {m : MP} {news : Led} {Q E : VP}
variable {dv dd tr lf : Addr} {H : Array UInt8 → Array UInt8} {ky : Array UInt8} {n bk d : Nat} {p : Int}
theorem told_turn (hDo : D.outer = []) (hS : Site w A D h₀ L) {g g4 : Heap} (T : KtsTurn ((D.env :: D.outer).filterMap (·.frame)) g g4) : KtsTurn [L] g g4 :=by
  have e : (D.env :: D.outer).filterMap (·.frame) = [L] :=by rw [hDo,List.filterMap_cons_some hS.ef];rfl
  rw [e] at T
  exact T
theorem told_bad (hD : DevIs w news dv dd tr lf H ky n bk d p) (hO : DevOk H ky n bk d p) (v lv : Value) (hX : NormX w dv news v (.ref 54)) (tm wd sk l : Int) (t1 t2 t3 : Tok) (hw : 0 ≤ wd) (hl : (lv = .none ∧ l = -1) ∨ ∃ tl,lv = .int l tl)
   (hS : Site w A D h₀ L) (hDo : D.outer = []) (hR : Room A 12) (hF : Fr h₀ L hp m) (hN : News h₀ L hp news)
   (hret : ∀ (x : Addr) (u : Tok) (h' : Heap) (tk' : Nat) (news' : Led),Fr h₀ L h' m → News h₀ L h' ((x,W.listOf #[.str (ofString "no token") u] 0) :: news') → (∀ q ∈ news,q ∈ news') → Q (.ref x) ⟨h',gs,dr,tk',os⟩) :
      wpAny (model pw w) A (call (.ref 502) [.ref dv,v, .int tm t1, .int wd t2, .int sk t3,lv]) Q E ⟨hp,gs,dr,tk,os⟩ :=by
  refine DevIs.el hD ?_;intro u t5 t6 nt kh h1 h4 h5
  refine wpAny_call ?_
  refine en_told hS hDo hF hN hR ?_
  intro A1 D1 g L' h₁ tk1 Q1 E1 hA1 hD1 T1 S1 R1 X1 G1 F1 N1 lN hQT
  obtain ⟨mean,mg,mb,T1⟩ :=T1
  k_extra "s7"
  refine PySem.wpAny_Try_except ?_
  k_extra "s8"
  refine match_bad6 hD hO v lv _ hX tm wd sk l _ _ _ hw hl (by k_extra "site") (by k_extra "roomle") ‹_› ‹_› ?_
  intro G e' h' t' news' F' fl' K'
  subst hD1 hA1
  have XB :=S1.XB
  obtain ⟨mean',mg',mb',TB⟩ :=S1.TB
  refine fly_look S1.fr S1.ef fl' ?_
  intro h2 fl2
  refine fly_pass fl2 F' S1.B XB TB (test_name (kn87 _) (by kernel_rfl) (by kernel_rfl) (by kernel_rfl) (by decide +kernel)) ?_
  intro h3 fl3
  refine fly_hit fl3 F' S1.B XB TB (test_name (kn54 _) (by kernel_rfl) (by kernel_rfl) (by kernel_rfl) (by decide +kernel)) ?_
  intro h4 g4 T4 F4 N4 B4
  k_extra "go"
  exact hQT _ _ _ _ _ (told_turn hDo hS T4) ‹_› ‹_› (fun F0 N0=>hret _ _ _ _ _ F0 N0 K')
end
section
open PySem.Calls
section
variable {M : Model} {A : Around} {R : GenEnd} {Y : Protocol} {n : Nat} {s₀ : Shared} {c : Code} {fs : List Frame} {s : Shared} {env : Env}
  {K : Flow → Sem Fin} {H : Value → Sem Fin} {gd : Bool → Bool} {lv : List Value → List Value}
noncomputable abbrev loopK (env : Env) (K : Flow → Sem Fin) (H : Value → Sem Fin) (gd : Bool → Bool) (lv : List Value → List Value) : Result → Sem Fin :=fun r=>((match r with | .ok f=>(.pure f : Sem Flow) | .error e=>.raise e).onRaise fun (x : Value)=>do
        if (← field x 1) == Value.none then unsupported "frame.own-activation:exception-without-traceback"
        setFlight x env.frame).wrap K H gd lv
theorem seg_For {target iter : PySem.Expr} {body : List Stmt} {pos : Pos} (hs : ∀ x,foldedSetIterable iter env x = pure x)
    (h : wpAny M (A.over c fs) (eval iter env) (fun x s₁=>wpAny M (A.over c fs) (pyIter x) (fun it s₂ =>
      ∀ p,Seg M A R Y n s₀ (.forLoop target it body [] env) (M.den (.forLoop target it body [] env)) (.ret (loopK env K H gd lv) none (gd false) (lv []) c p [] :: fs) s₂) (fun _ _=>False) s₁) (fun _ _=>False) s) :
    Seg M A R Y n s₀ c ((exec (.For target iter body [] pos) env).wrap K H gd lv) fs s :=by
  rw [arm_exec_For]
  refine seg_at ?_
  have e : ∀ x,foldedSetIterable iter env x >>= (fun x=>(standAt iter.pos >>= fun _=>holding [x] (pyIter x) >>= fun it=>runOwn (.forLoop target it body [] env) env)) = (standAt iter.pos >>= fun _=>holding [x] (pyIter x) >>= fun it=>runOwn (.forLoop target it body [] env) env) :=fun x=>by rw [hs x];rfl
  show Seg M A R Y n s₀ c (((eval iter env >>= fun x=>foldedSetIterable iter env x >>= fun x=>(standAt iter.pos >>= fun _=>holding [x] (pyIter x) >>= fun it=>runOwn (.forLoop target it body [] env) env))).wrap K H gd lv) fs s
  simp only [e]
  rw [Sem.bind_eq_wrap',Sem.wrap_wrap]
  refine seg_wrap (wpAny_mono h (fun x s₁ h₁=>?_) fun _ _ z=>z.elim)
  refine seg_at ?_
  show Seg M A R Y n s₀ c (((holding [x] (pyIter x) >>= fun it=>runOwn (.forLoop target it body [] env) env)).wrap K H gd lv) fs s₁
  rw [Sem.bind_eq_wrap',Sem.wrap_wrap]
  refine seg_wrap (wpAny_holding (wpAny_mono h₁ (fun it s₂ h₂=>?_) fun _ _ z=>z.elim))
  exact seg_call h₂
end
section
variable {prog : Program} {w : World} {A : Around} {R : GenEnd} {Y : Protocol} {n : Nat} {s₀ : Shared} {fs : List Frame} {s : Shared} {env : Env}
noncomputable abbrev notedK (env : Env) : Value → Sem Fin :=fun e=>(do noteFrame e env;theTreesLotGoes e : Sem Unit).wrap (fun _=>.raise e) .raise id id
theorem seg_forLoop {target : PySem.Expr} {it : Value} {body : List Stmt} (ht : ∀ v,letOwnedTupleGo target it v = pure ())
    (h : wpAny (model prog w) (A.over (.forLoop target it body [] env) fs) (pyNext it) (fun r s₁=>match r with
      | none=>Seg (model prog w) A R Y n s₀ (.block [] env) ((model prog w).den (.block [] env)) fs s₁
      | some v=>wpAny (model prog w) (A.over (.forLoop target it body [] env) fs) (assign target env v) (fun _ s₂ =>
          Seg (model prog w) A R Y n s₀ (.forLoop target it body [] env) ((execs body env).wrap (fun f=>match f with
            | .next | .cont=>.pure (.again (.forLoop target it body [] env))
            | .brk=>.pure (.done .next)
            | .ret v=>.pure (.done (.ret v))) (notedK env) id id) fs s₂) (fun _ _=>False) s₁) (fun _ _=>False) s) :
    Seg (model prog w) A R Y n s₀ (.forLoop target it body [] env) ((model prog w).den (.forLoop target it body [] env)) fs s :=by
  show Seg _ A R Y n s₀ _ ((forTurn target it body [] env).onRaise (fun x=>do noteFrame x env;theTreesLotGoes x)) fs s
  unfold forTurn
  rw [Sem.onRaise_eq_wrap]
  refine seg_at ?_
  show Seg _ A R Y n s₀ _ (Sem.wrap _ _ _ _ ((pyNext it).onRaise (fun _=>standAt { target.pos with line :=0 }) >>= _)) fs s
  rw [Sem.bind_eq_wrap',Sem.wrap_wrap]
  refine seg_wrap (wpAny_onRaise (wpAny_mono h (fun r s₁ h₁=>?_) fun _ _ z=>z.elim))
  cases r with
  | none=>exact seg_again rfl h₁
  | some v =>
    show Seg _ A R Y n s₀ _ (Sem.wrap _ _ _ _ (letOwnedTupleGo target it v >>= _)) fs s₁
    rw [ht v]
    show Seg _ A R Y n s₀ _ (Sem.wrap _ _ _ _ (assign target env v >>= _)) fs s₁
    rw [Sem.bind_eq_wrap',Sem.wrap_wrap]
    refine seg_wrap (wpAny_mono h₁ (fun _ s₂ h₂=>?_) fun _ _ z=>z.elim)
    rw [Sem.bind_eq_wrap',Sem.wrap_wrap]
    rw [Sem.wrap_congr (execs body env) _ _ (K' :=fun f=>match f with
            | .next | .cont=>.pure (.again (.forLoop target it body [] env))
            | .brk=>.pure (.done .next)
            | .ret v=>.pure (.done (.ret v))) (H' :=notedK env)
        (fun f=>by cases f <;> rfl) (fun e=>by first | exact Sem.bind_eq_wrap _ _ | (show (do noteFrame e env;theTreesLotGoes e : Sem Unit).bind (fun _=>.raise e) = _;rw [Sem.bind_eq_wrap]))]
    exact h₂
theorem seg_block_nil {c₁ : Code} {p₁ : Pos} {K : Result → Sem Fin} {h : Option Value} {gg : Bool} {l kp : List Value} (hk : Seg (model prog w) A R Y n s₀ c₁ (K (.ok .next)) fs s) :
    Seg (model prog w) A R Y n s₀ (.block [] env) ((model prog w).den (.block [] env)) (.ret K h gg l c₁ p₁ kp :: fs) s :=by
  show Seg _ A R Y n s₀ _ (leafOf (.ok .next)) _ s
  exact seg_leaf _ hk
end
end
section
open PySem.Calls
noncomputable abbrev gnE (C : Addr) : Env :=envX (ofString "SequenceMixin.__iter__") (fS (mt 9 2)) C 131 (.ref 130) []
noncomputable def frT : Stmt → PySem.Expr
  | .For t _ _ _ _=>t
  | _=>.Constant .none 0 ⟨0, 0, 0, 0⟩
noncomputable def frI : Stmt → PySem.Expr
  | .For _ i _ _ _=>i
  | _=>.Constant .none 0 ⟨0, 0, 0, 0⟩
noncomputable def frB : Stmt → List Stmt
  | .For _ _ b _ _=>b
  | _=>[]
noncomputable def itS : Stmt :=(bodyS (mt 9 2)).getD 0 (.Pass ⟨0, 0, 0, 0⟩)
noncomputable def Mv (C : Addr) (s s' : Shared) : Prop :=s'.gens = s.gens ∧ s'.drawn = s.drawn ∧ s'.os = s.os ∧ ∃ TI, @LT.lt Nat _ C TI ∧ (∀ o,s.heap.get? TI = some o → o.cls = .type "tuple_iterator" ∧ ∃ vs,o.data = .fields vs) ∧ ∀ b o,s.heap.get? b = some o → b ≠ C → b ≠ TI → s'.heap.get? b = some o
noncomputable def MvT (C TI : Addr) (s s' : Shared) : Prop :=s'.gens = s.gens ∧ s'.drawn = s.drawn ∧ s'.os = s.os ∧ (∀ o,s.heap.get? TI = some o → o.cls = .type "tuple_iterator" ∧ ∃ vs,o.data = .fields vs) ∧ ∀ b o,s.heap.get? b = some o → b ≠ C → b ≠ TI → s'.heap.get? b = some o
theorem MvT.mv {C TI : Addr} {s s' : Shared} (h : MvT C TI s s') (hc : @LT.lt Nat _ C TI) : Mv C s s' :=⟨h.1,h.2.1,h.2.2.1,TI,hc,h.2.2.2.1,h.2.2.2.2⟩
theorem MvT.then {C TI : Addr} {s s' s'' : Shared} (h : MvT C TI s s') (g : s''.gens = s'.gens) (d : s''.drawn = s'.drawn) (o : s''.os = s'.os) (k : ∀ b o,s'.heap.get? b = some o → b ≠ C → b ≠ TI → s''.heap.get? b = some o) : MvT C TI s s'' :=
  ⟨g.trans h.1,d.trans h.2.1,o.trans h.2.2.1,h.2.2.2.1,fun b o e h1 h2=>k b o (h.2.2.2.2 b o e h1 h2) h1 h2⟩
structure LS (g0 : Heap) (C T TI : Addr) (items : Array Value) (i : Nat) (h : Heap) : Prop where
  k0 : ∀ b o,g0.get? b = some o → h.get? b = some o
  ns : ∃ m,h.Ns C m
  tup : h.IsTuple T items
  it : h.IsTupleIter TI T i
structure LSat (g0 : Heap) (C T TI : Addr) (h h' : Heap) : Prop where
  k0 : ∀ b o,g0.get? b = some o → h'.get? b = some o
  c : ∀ o,h.get? C = some o → h'.get? C = some o
  t : ∀ o,h.get? T = some o → h'.get? T = some o
  i : ∀ o,h.get? TI = some o → h'.get? TI = some o
theorem LS.at {g0 : Heap} {C T TI : Addr} {items : Array Value} {i : Nat} {h h' : Heap} (x : LS g0 C T TI items i h) (y : LSat g0 C T TI h h') : LS g0 C T TI items i h' :=
  ⟨y.k0,let ⟨m,o,es,ep,a,r⟩ :=x.ns;⟨m,o,es,ep,y.c _ a,r⟩,let ⟨o,a,r⟩ :=x.tup;⟨o,y.t _ a,r⟩,let ⟨o,a,r⟩ :=x.it;⟨o,y.i _ a,r⟩⟩
noncomputable def gnR (C : Addr) : GenEnd :=fun n s₀ r s₁=>r = .ok (.ret .none) ∧ n = 0 ∧ Mv C s₀ s₁
noncomputable def ItemsP (N : Nat) (PI : Nat → Value → Prop) (items : Array Value) : Prop :=items.size = N ∧ ∀ i v,items[i]? = some v → PI i v
noncomputable def gnY (g0 : Heap) (C : Addr) (N : Nat) (PI : Nat → Value → Prop) : Protocol :=fun n s₀ v s' kap =>
  (∃ i,i + n + 1 = N ∧ PI i v) ∧ Mv C s₀ s' ∧ ∃ T TI items,LS g0 C T TI items (N - n) s'.heap ∧ ∀ s'',LSat g0 C T TI s'.heap s''.heap → kap (.send .none) s''
section
variable {w : World} {A : Around} {g0 : Heap} {C T TI : Addr} {items : Array Value}
noncomputable abbrev gnF (C : Addr) (p : Pos) : Frame :=.ret (loopK (gnE C) (fun f=>match f with
      | .next=>(execs [] (gnE C)).wrap (fun f=>.pure (.done (.ret (match f with | .ret v=>v | _=>.none)))) (fun e=>(leaving (gnE C) e).wrap (fun _=>.raise e) .raise id id) id id
      | f=>.pure (.done (.ret (match f with | .ret v=>v | _=>.none)))) (fun e=>(leaving (gnE C) e).wrap (fun _=>.raise e) .raise id id) id id) none (id false) (id []) (.func (bodyS (mt 9 2)) (gnE C)) p []
theorem gen_loop {N : Nat} {PI : Nat → Value → Prop} (hP : ItemsP N PI items) (hC0 : @LE.le Nat _ g0.objs.size C) (hTI : @LT.lt Nat _ C TI) (nT : T ≠ C) (nTI : T ≠ TI) (p : Pos) (hh : A.handled = none) :
    ∀ (k i : Nat) (s₀ s : Shared),i + k = N → LS g0 C T TI items i s.heap → MvT C TI s₀ s →
      Seg (model pw w) A (gnR C) (gnY g0 C N PI) k s₀ (.forLoop (frT itS) (.ref TI) (frB itS) [] (gnE C)) ((model pw w).den (.forLoop (frT itS) (.ref TI) (frB itS) [] (gnE C))) [gnF C p] s :=by
  have nC : C ≠ TI :=fun e=>by rw [e] at hTI;exact Nat.lt_irrefl _ hTI
  obtain ⟨hN,hPI⟩ :=hP
  intro k
  induction k with
  | zero =>
    intro i s₀ s hi L hm
    refine seg_forLoop (fun _=>rfl) ?_
    refine wpAny_pyNext_tuple_end (by exact hh) L.it L.tup (by rw [Array.getElem?_eq_none];omega) fun h' hx=>?_
    refine seg_block_nil ?_
    refine seg_end (.ok (.ret .none)) ⟨rfl,rfl, ?_⟩
    exact (MvT.then (s'' :={ s with heap :=h' }) hm rfl rfl rfl fun b o e h1 h2=>hx b o h2 e).mv hTI
  | succ k ih =>
    intro i s₀ s hi L hm
    have hlt : i < items.size :=by omega
    refine seg_forLoop (fun _=>rfl) ?_
    refine wpAny_pyNext_tuple_item L.it L.tup (Array.getElem?_eq_getElem hlt) fun h1 it1 sb1=>?_
    obtain ⟨m,ns⟩ :=L.ns
    have ns1 : h1.Ns C m :=ns.sameBut sb1 nC
    (show wpAny _ _ (assign (PySem.Expr.Name _ _) _ _) _ _ _)
    refine wpAny_assign_Name (wpAny_storeName_local (by kernel_rfl) ns1 fun h2 ns2 sb2=>?_)
    (show Seg _ _ _ _ _ _ _ ((execs [PySem.Stmt.Expr (PySem.Expr.Yield (some (PySem.Expr.Name _ _)) _) _] _).wrap _ _ _ _) _ _)
    refine seg_execs_cons ?_
    refine seg_Expr_Yield rfl rfl rfl ?_
    refine wpAny_Name (wpAny_loadName_local rfl (by kernel_rfl) ns2 (if_pos rfl) ?_) (by decide +kernel)
    intro kap hk
    have sz : ∀ b o,s.heap.get? b = some o → b ≠ C → b ≠ TI → h2.get? b = some o :=fun b o e x1 x2=>sb2.extBut b o x1 (sb1.extBut b o x2 e)
    have L2 : LS g0 C T TI items (i + 1) h2 :=⟨fun b o e=>sz b o (L.k0 b o e) (fun q=>by have :=Heap.lt_size e;rw [q] at this;exact Nat.lt_irrefl _ (Nat.lt_of_lt_of_le this hC0)) (fun q=>by have :=Heap.lt_size e;rw [q] at this;exact Nat.lt_irrefl _ (Nat.lt_trans (Nat.lt_of_lt_of_le this hC0) hTI)),⟨_,ns2⟩,L.tup.extBut sb1.extBut nTI |>.extBut sb2.extBut nT,it1.extBut sb2.extBut nC.symm⟩
    refine ⟨⟨i,by omega,hPI i _ (Array.getElem?_eq_getElem hlt)⟩,(MvT.then (s'' :={ s with heap :=h2,toks :=s.toks + 1 }) hm rfl rfl rfl sz).mv hTI,T,TI,items, ?_,fun s'' at2=>hk .none s'' ?_⟩
    · have e : N - k = i + 1 :=Nat.sub_eq_of_eq_add (hi.symm.trans (Nat.add_right_comm i k 1))
      rw [e]
      exact L2
    · show Seg _ _ _ _ _ _ _ ((execs [] (gnE C)).wrap _ _ _ _) _ _
      refine seg_execs_nil ?_
      refine seg_again rfl ?_
      refine ih (i + 1) s'' s'' (by exact Om.n46 ‹_›) (L2.at at2) ⟨rfl,rfl,rfl,fun o e=>?_,fun b o e _ _=>e⟩
      obtain ⟨o',e',c',d'⟩ :=(L2.at at2).it
      rw [e'] at e
      cases e
      exact ⟨c',_,d'⟩
end
end
section
open PySem.Calls
noncomputable abbrev gnM (x : Addr) : Str → Option Value :=fun y=>List.lookup y [(ofString "self", .ref x)]
noncomputable def TupC (w : World) (x : Addr) (N : Nat) (PI : Nat → Value → Prop) (news : Led) : Prop :=
  ∀ (A : Around) (D : SD) (hp g : Heap) (gs : Array GenState) (dr : Drawn) (tk : Nat) (os : OsState) (C : Addr) (Q E : VP) (nw : Led),Site w A D g C → Room A 7 → Fr g C hp (gnM x) → News g C hp nw → (∀ q ∈ news,q ∈ nw) →
    (∀ (T : Addr) (oT : Obj) (h' : Heap) (tk' : Nat) (items : Array Value),ItemsP N PI items → oT.cls = .type "tuple" → (∃ n,oT.data = .seq items n) → Fr g C h' (gnM x) → News g C h' ((T,oT) :: nw) → Q (.ref T) ⟨h',gs,dr,tk',os⟩) → wpAny (model pw w) A (eval (frI itS) (gnE C)) Q E ⟨hp,gs,dr,tk,os⟩
noncomputable def allObj (h g0 : Heap) (C : Addr) : List (Addr × Obj) :=(List.range h.objs.size).filterMap fun b=>match h.get? b with
  | some o=>if b ≠ C ∧ (g0.get? b).isNone = true then some (b,o) else none
  | none=>none
theorem mem_allObj {h g0 : Heap} {C b : Addr} {o : Obj} : (b,o) ∈ allObj h g0 C ↔ h.get? b = some o ∧ b ≠ C ∧ g0.get? b = none :=by
  unfold allObj
  rw [List.mem_filterMap]
  constructor
  · rintro ⟨b',_,e⟩
    cases q : h.get? b' with
    | none=>rw [q] at e;cases e
    | some o' =>
      rw [q] at e
      dsimp only at e
      by_cases z : b' ≠ C ∧ (g0.get? b').isNone = true
      · rw [if_pos z] at e
        cases e
        exact ⟨q,z.1,Option.isNone_iff_eq_none.mp z.2⟩
      · rw [if_neg z] at e
        cases e
  · rintro ⟨e,n,z⟩
    refine ⟨b,List.mem_range.mpr (Heap.lt_size e), ?_⟩
    rw [e]
    exact if_pos ⟨n,Option.isNone_iff_eq_none.mpr z⟩
section
variable {w : World} {A A₀ : Around} {g0 base : Heap} {outer : List Env} {C x : Addr} {news : Led}
noncomputable abbrev gnC (C : Addr) : Code :=.func (bodyS (mt 9 2)) (gnE C)
theorem gn_room {k : Nat} (r : Room A (k + 1)) : Room (A.over (gnC C) []) k :=by
  have e1 : (A.over (gnC C) []).depth = A.depth + 0 + 1 :=rfl
  have e2 : (A.over (gnC C) []).units = A.units + 0 + 3 :=rfl
  exact ⟨by have :=r.d;exact Om.n42 ‹_›,by rw [e2];exact Om.r1 r.u (by decide),r.h⟩
theorem gen_fresh (S : Site w (A.over (gnC C) []) ⟨A₀,base,gnE C,outer⟩ g0 C) (R : Room A 8) {N : Nat} {PI : Nat → Value → Prop} (hT : TupC w x N PI news) (hC0 : @LE.le Nat _ g0.objs.size C)
    (s : Shared) (k0 : ∀ b o,g0.get? b = some o → s.heap.get? b = some o) (ns : s.heap.Ns C (gnM x)) (kn : ∀ q ∈ news,s.heap.get? q.1 = some q.2 ∧ q.1 ≠ C ∧ g0.get? q.1 = none) :
    Seg (model pw w) A (gnR C) (gnY g0 C N PI) N s (gnC C) ((model pw w).den (gnC C)) [] s :=by
  obtain ⟨h,gs,dr,tk,os⟩ :=s
  have F : Fr g0 C h (gnM x) :=⟨ns,k0,hC0⟩
  have NW : News g0 C h (allObj h g0 C) :=fun q hq=>mem_allObj.mp hq
  have hh : A.handled = none :=R.h
  refine seg_func ?_
  (show Seg _ _ _ _ _ _ _ ((execs [PySem.Stmt.For _ _ _ [] _] _).wrap _ _ _ _) _ _)
  refine seg_execs_cons ?_
  refine seg_For (fun _=>rfl) ?_
  refine hT _ _ _ _ _ _ _ _ _ _ _ _ S (gn_room R) F NW (fun q hq=>mem_allObj.mpr (kn q hq)) ?_
  intro T oT h' tk' items hP c1 c2 F' N'
  have tup : h'.IsTuple T items :=⟨oT,(N' _ (.head _)).1,c1,c2⟩
  refine wpAny_pyIter_tuple tup ?_
  intro p
  have hlt : @LT.lt Nat _ C h'.objs.size :=F'.ns.lt
  have tlt : @LT.lt Nat _ T h'.objs.size :=let ⟨_,e,_⟩ :=tup;Heap.lt_size e
  have keep : ∀ b o,h.get? b = some o → b ≠ C → h'.get? b = some o :=fun b o e n=>by
    cases q : g0.get? b with
    | none=>exact (N' _ (.tail _ (mem_allObj.mpr ⟨e,n,q⟩))).1
    | some o' =>
      have e2 :=k0 _ _ q
      rw [e] at e2
      cases e2
      exact F'.keep _ _ q
  refine gen_loop hP hC0 hlt (N' _ (.head _)).2.1 (Nat.ne_of_lt tlt) p hh N 0 _ _ (by exact Nat.zero_add _) ⟨fun b o e=>Heap.get?_push_of_some _ (F'.keep _ _ e), ?_,tup.push _, ?_⟩ ⟨rfl,rfl,rfl,fun o e=>?_,fun b o e n _=>Heap.get?_push_of_some _ (keep b o e n)⟩
  · obtain ⟨o,es,ep,e,r⟩ :=F'.ns
    exact ⟨_,o,es,ep,Heap.get?_push_of_some _ e,r⟩
  · exact ⟨_,Heap.get?_push_size _ rfl,rfl,rfl⟩
  · have e2 :=keep _ _ e (fun q=>by rw [← q] at hlt;exact Nat.lt_irrefl _ hlt)
    exact absurd (Heap.lt_size e2) (Nat.lt_irrefl _)
end
end
section
open PySem.Calls
noncomputable abbrev gnO (g : Nat) (nm qn : Value) : Obj :={ cls :=.type "generator",data :=.fields #[.int g 0,nm,qn] }
section
variable {w : World} {A : Around} {D : SD} {h h₀ : Heap} {gs : Array GenState} {dr : Drawn} {tk : Nat} {os : OsState} {L x C0 : Addr} {ox : Obj} {odx : Option Obj} {m : MP} {news : Led} {Q E : VP}
theorem iter_new (S : Site w A D h₀ L) (R : Room A 2) (F : Fr h₀ L h m) (N : News h₀ L h news) (I : W.InstAt h x ox C0 odx) (hi : findIn (K w.params) (.ref C0) "__iter__" = some (some (.ref 131)))
    (hq : ∀ nm qn h1 tk',h1.Ns h.objs.size (gnM x) → Heap.SameBut h.objs.size (h.push { cls :=.type "frame",data :=.dict #[] }) h1 → Q (.ref h1.objs.size) ⟨h1.push (gnO gs.size nm qn),gs.push (.fresh (gnC h.objs.size)),dr,tk',os⟩) :
    wpAny (model pw w) A (pyIter (.ref x)) Q E ⟨h,gs,dr,tk,os⟩ :=by
  k_extra "G"
  obtain ⟨mean,mg,mb,T⟩ :=S.T
  k_unfold
  refine owit_iter (s :=⟨h,gs,dr,tk,os⟩) F S.X I hi (by kernel_rfl) ?_
  refine wpAny_call ?_
  refine codeAny_call_generator (s :=⟨h,gs,dr,tk,os⟩) (by have :=R.d;exact Om.n40 ‹_›) (show _ = some _ from old_of F S 131 ⟨.type "function",none, .func (fnX (ofString "__iter__") (ofString "SequenceMixin.__iter__") (fP (mt 9 2)) (bodyS (mt 9 2)) (fS (mt 9 2)) [] .none .none .none (.str (ofString "passlib.utils") 312) none (.ref 130) .none), [].toArray⟩ (by kernel_rfl)) rfl (by kernel_rfl) (by kernel_rfl) rfl (codeRec_of (old_of F S) (by kernel_rfl)) ?_
  refine wpAny_of_eq (a :=[(ofString "self", .ref x)]) (by kernel_rfl) ?_
  refine wpAny_newFunctionEnv (by decide +kernel) (locs (by kernel_rfl)) (fun h1 ns sb=>?_) (by kernel_rfl)
  have hk : ∀ b o,h.get? b = some o → h1.get? b = some o :=fun b o e=>sb.extBut b o (Nat.ne_of_lt (Heap.lt_size e)) (Heap.get?_push_of_some _ e)
  refine ⟨(T.nolimit.keeps F.keep).keeps hk, ?_⟩
  have hg : (h1.push (gnO gs.size (.str (ofString "__iter__") (tk + 1)) (.str (ofString "SequenceMixin.__iter__") (tk + 1 + 1)))).IsGen h1.objs.size gs.size :=⟨_,_,_,Heap.get?_push_size _ rfl,rfl,rfl,rfl⟩
  refine wpAny_specialOf hg.typeIs slot_gen_next.lookup ?_
  exact hq _ _ h1 _ ns sb
end
end
section
open PySem.Calls
theorem set_last {α : Type} (gs : Array α) (a b : α) : (gs.push a).setIfInBounds gs.size b = gs.push b :=by
  apply Array.ext'
  rw [Array.toList_setIfInBounds,Array.toList_push,Array.toList_push,List.set_append_right _ _ (by rw [Array.length_toList];exact Nat.le_refl _),Array.length_toList,Nat.sub_self]
  rfl
structure GI (g0 : Heap) (news : Led) (G cf acc : Addr) (g : Nat) (PI : Nat → Value → Prop) (dr : Drawn) (os : OsState) (i : Nat) (s : Shared) : Prop where
  k0 : ∀ b o,g0.get? b = some o → s.heap.get? b = some o
  kn : ∀ q ∈ news,s.heap.get? q.1 = some q.2
  cf : ∃ m,s.heap.Ns cf m
  acc : ∃ vs,s.heap.IsList acc vs ∧ ItemsP i PI vs
  gen : s.heap.IsGen G g
  dr : s.drawn = dr
  os : s.os = os
noncomputable def Rdy (w : World) (A : Around) (g0 : Heap) (C cf acc : Addr) (gs : Array GenState) (N : Nat) (PI : Nat → Value → Prop) (n : Nat) (s : Shared) : Prop :=
  ∃ gst,s.gens = gs.push gst ∧ ∃ W : List Addr,(∀ b ∈ W,b ≠ cf ∧ b ≠ acc) ∧ ∀ s'',(∀ b o,g0.get? b = some o → s''.heap.get? b = some o) → (∀ b ∈ W, ∀ o,s.heap.get? b = some o → s''.heap.get? b = some o) → gst.Goes (model pw w) A (gnR C) (gnY g0 C N PI) n (.send .none) s''
theorem GI.mv {g0 : Heap} {news : Led} {C G cf acc : Addr} {g : Nat} {PI : Nat → Value → Prop} {dr : Drawn} {os : OsState} {i : Nat} {s s' : Shared} (x : GI g0 news G cf acc g PI dr os i s) (d : s'.drawn = s.drawn) (o : s'.os = s.os) (h : ∃ TI, @LT.lt Nat _ C TI ∧ (∀ o,s.heap.get? TI = some o → o.cls = .type "tuple_iterator" ∧ ∃ vs,o.data = .fields vs) ∧ ∀ b o,s.heap.get? b = some o → b ≠ C → b ≠ TI → s'.heap.get? b = some o) (hC0 : @LE.le Nat _ g0.objs.size C)
    (hn : ∀ q ∈ news, @LT.lt Nat _ q.1 C) (h1 : @Ne Nat cf C) (h2 : @Ne Nat acc C) (h3 : @Ne Nat G C) : GI g0 news G cf acc g PI dr os i s' :=by
  obtain ⟨TI,hlt,hcl,hk⟩ :=h
  have nl : ∀ b : Nat,b < C → b ≠ C ∧ b ≠ TI :=fun b hb=>⟨Nat.ne_of_lt hb,Nat.ne_of_lt (Nat.lt_trans hb hlt)⟩
  refine ⟨fun b o e=>?_,fun q hq=>?_, ?_, ?_, ?_,d.trans x.dr,o.trans x.os⟩
  · obtain ⟨a1,a2⟩ :=nl b (Nat.lt_of_lt_of_le (Heap.lt_size e) hC0)
    exact hk b o (x.k0 b o e) a1 a2
  · obtain ⟨a1,a2⟩ :=nl q.1 (hn q hq)
    exact hk _ _ (x.kn q hq) a1 a2
  · obtain ⟨m,o,es,ep,e,d',r⟩ :=x.cf
    refine ⟨m,o,es,ep,hk _ _ e h1 (fun q=>?_),d',r⟩
    rw [q] at e
    obtain ⟨_,vs,d2⟩ :=hcl _ e
    rw [d'] at d2;cases d2
  · obtain ⟨vs,⟨o,e,c,r⟩,hvs⟩ :=x.acc
    refine ⟨vs,⟨o,hk _ _ e h2 (fun q=>?_),c,r⟩,hvs⟩
    rw [q] at e
    obtain ⟨c2,_⟩ :=hcl _ e
    rw [c] at c2;injection c2 with c3;exact absurd c3 (by decide)
  · obtain ⟨o,nm,qn,e,c,r⟩ :=x.gen
    refine ⟨o,nm,qn,hk _ _ e h3 (fun q=>?_),c,r⟩
    rw [q] at e
    obtain ⟨c2,_⟩ :=hcl _ e
    rw [c] at c2;injection c2 with c3;exact absurd c3 (by decide)
theorem GI.keeps {g0 : Heap} {news : Led} {G cf acc : Addr} {g : Nat} {PI : Nat → Value → Prop} {dr : Drawn} {os : OsState} {i : Nat} {s s' : Shared} (x : GI g0 news G cf acc g PI dr os i s) (d : s'.drawn = s.drawn) (o : s'.os = s.os) (k : ∀ b o,s.heap.get? b = some o → s'.heap.get? b = some o) : GI g0 news G cf acc g PI dr os i s' :=
  ⟨fun b o e=>k _ _ (x.k0 b o e),fun q hq=>k _ _ (x.kn q hq),let ⟨m,o,es,ep,e,r⟩ :=x.cf;⟨m,o,es,ep,k _ _ e,r⟩,let ⟨vs,⟨o,e,r⟩,hvs⟩ :=x.acc;⟨vs,⟨o,k _ _ e,r⟩,hvs⟩,x.gen.keeps k,d.trans x.dr,o.trans x.os⟩
section
variable {w : World} {A : Around} {g0 : Heap} {news : Led} {C G cf acc : Addr} {gs : Array GenState} {N : Nat} {PI : Nat → Value → Prop} {dr : Drawn} {os : OsState} {R : Result → Shared → Prop} {env : Env}
theorem comp_turns {xn : Str} {p1 p2 p3 : Pos} {iter : PySem.Expr} {scope : Scope} (hh : A.handled = none) (hroom : A.depth < recursionLimit) (hlim : g0.NoLimit) (hC0 : @LE.le Nat _ g0.objs.size C) (hn : ∀ q ∈ news, @LT.lt Nat _ q.1 C) (h1 : @LT.lt Nat _ C cf) (h2 : @LT.lt Nat _ C acc) (h3 : @LT.lt Nat _ C G) (hca : @Ne Nat cf acc) (hcG : @Ne Nat G cf) (haG : @Ne Nat G acc)
    (hloc : env.locals = cf) (hk : env.scope.kind = .function) (hl : env.kindOf xn = some .local) (hp : (env.scope.kind == .class || (env.scope.kind == .module && env.locals != env.globals)) = false) (hd : (xn == ("__debug__" : Str)) = false) (hsz : N ≤ 1000)
    (hR : ∀ s,GI g0 news G cf acc gs.size PI dr os N s → s.gens = gs.push .finished → R (.ok .next) s)
    (n : Nat) (hn0 : n ≤ N) (s : Shared) (hI : GI g0 news G cf acc gs.size PI dr os (N - n) s) (hr : Rdy w A.in1 g0 C cf acc gs N PI n s) :
    codeAny (model pw w) A (.compLoop (.ListComp (.Name xn p1) [⟨.Name xn p2,iter, [], 0⟩] scope p3) 0 (.ref G) (.ref acc) env) R s :=by
  refine codeAny_compLoop_list (fun n s=>n ≤ N ∧ GI g0 news G cf acc gs.size PI dr os (N - n) s ∧ Rdy w A.in1 g0 C cf acc gs N PI n s) (fun n s hs=>?_) n ⟨hn0,hI,hr⟩
  obtain ⟨hn0,hI,gst,hg,W,hW,hgo⟩ :=hs
  have hgs : s.gens[gs.size]? = some gst :=by rw [hg];exact Array.getElem?_push_size ..
  refine wpAny_pyNext_gen (P :=fun n s₀ s₁=>n = 0 ∧ Mv C s₀ s₁) hh (hlim.keeps hI.k0) hroom hI.gen hgs (hgo _ hI.k0 fun b _ o e=>e) ?_ ?_
  · rintro v s₁ gst' ⟨⟨i,hi,hv⟩,hm,T,TI,items,hL,hkap⟩
    cases n with
    | zero =>
      exact (hkap s₁ ⟨hL.k0,fun _ e=>e,fun _ e=>e,fun _ e=>e⟩).elim
    | succ n =>
      have hI1 : GI g0 news G cf acc gs.size PI dr os (N - (n + 1)) s₁ :=hI.mv hm.2.1 hm.2.2.1 hm.2.2.2 hC0 hn (Nat.ne_of_gt h1) (Nat.ne_of_gt h2) (Nat.ne_of_gt h3)
      obtain ⟨m1,ns1⟩ :=hI1.cf
      have hie : N - (n + 1) = i :=Nat.sub_eq_of_eq_add hi.symm
      rw [hie] at hI1
      refine wpAny_assign_Name (wpAny_storeName_local (m :=m1) hl (by rw [hloc];exact ns1) (fun h2' ns2 sb2=>?_) hp)
      refine wpAny_Name (wpAny_loadName_local hk hl ns2 (if_pos rfl) ?_) hd
      rw [hloc] at sb2 ns2
      obtain ⟨vs,acc1,hvs⟩ :=hI1.acc
      have acc2 : h2'.IsList acc vs :=(let ⟨o,e,r⟩ :=acc1;⟨o,sb2.extBut _ _ hca.symm e,r⟩)
      refine wpAny_list_append acc2 (fun h3' acc3 sb3=>?_) (by rw [hvs.1,sizeLine_eq];exact Nat.le_trans (Nat.le_trans (hie ▸ Nat.sub_le _ _) hsz) (by decide))
      have nel : ∀ b : Nat,b < C → b ≠ cf ∧ b ≠ acc :=fun b hb=>⟨Nat.ne_of_lt (Nat.lt_trans hb h1),Nat.ne_of_lt (Nat.lt_trans hb h2)⟩
      have kp : ∀ b o,s₁.heap.get? b = some o → b ≠ cf → b ≠ acc → h3'.get? b = some o :=fun b o e x1 x2=>sb3.extBut b o x2 (sb2.extBut b o x1 e)
      have hWn : ∀ b ∈ [C,T,TI],b ≠ cf ∧ b ≠ acc :=by
        obtain ⟨oc,esc,epc,ec,dc,_⟩ :=ns1
        obtain ⟨oa,ea,ca,na,da⟩ :=acc1
        obtain ⟨ot,et,ct,nt,dt⟩ :=hL.tup
        obtain ⟨oi,ei,ci,di⟩ :=hL.it
        intro b hb
        simp only [List.mem_cons,List.not_mem_nil,or_false] at hb
        rcases hb with rfl | rfl | rfl
        · exact ⟨Nat.ne_of_lt h1,Nat.ne_of_lt h2⟩
        · refine ⟨fun q=>?_,fun q=>?_⟩
          · rw [q,ec] at et;cases et;rw [dc] at dt;cases dt
          · rw [q,ea] at et;cases et;rw [ca] at ct;injection ct with c3;exact absurd c3 (by decide)
        · refine ⟨fun q=>?_,fun q=>?_⟩
          · rw [q,ec] at ei;cases ei;rw [dc] at di;cases di
          · rw [q,ea] at ei;cases ei;rw [ca] at ci;injection ci with c3;exact absurd c3 (by decide)
      refine ⟨n,Nat.lt_succ_self _,by exact Nat.le_of_lt ‹_›,⟨fun b o e=>?_,fun q hq=>?_, ?_, ?_, ?_,hI1.dr,hI1.os⟩,gst', ?_, [C,T,TI], ?_,fun s'' k0 kW=>?_⟩
      · obtain ⟨a1,a2⟩ :=nel b (Nat.lt_of_lt_of_le (Heap.lt_size e) hC0)
        exact kp _ _ (hI1.k0 b o e) a1 a2
      · obtain ⟨a1,a2⟩ :=nel q.1 (hn q hq)
        exact kp _ _ (hI1.kn q hq) a1 a2
      · exact ⟨_,ns2.sameBut sb3 hca⟩
      · have e2 : N - n = i + 1 :=Nat.sub_eq_of_eq_add (hi.symm.trans (Nat.add_right_comm i n 1))
        rw [e2]
        refine ⟨vs.push v,acc3,by rw [Array.size_push,hvs.1],fun j u hu=>?_⟩
        rcases Nat.lt_trichotomy j i with h | h | h
        · rw [Array.getElem?_push_lt (by rw [hvs.1];exact h)] at hu
          exact hvs.2 j u (by rw [← hu];exact Array.getElem?_eq_getElem (by rw [hvs.1];exact h))
        · subst h
          rw [← hvs.1,Array.getElem?_push_size] at hu
          cases hu
          exact hv
        · rw [Array.getElem?_eq_none (by rw [Array.size_push,hvs.1];exact h)] at hu
          cases hu
      · exact (hI1.gen.sameBut sb2 hcG).sameBut sb3 haG
      · show s₁.gens.setIfInBounds gs.size gst' = gs.push gst'
        rw [hm.1]
        show (s.gens.setIfInBounds gs.size .running).setIfInBounds gs.size gst' = gs.push gst'
        rw [hg,set_last,set_last]
      · exact hWn
      · have w3 : ∀ b ∈ [C,T,TI], ∀ o,s₁.heap.get? b = some o → s''.heap.get? b = some o :=fun b hb o e=>by
          exact kW b hb o (kp b o e (hWn b hb).1 (hWn b hb).2)
        exact hkap s'' ⟨k0,w3 C (by simp),w3 T (by simp),w3 TI (by simp)⟩
  · rintro s₁ ⟨rfl,hm⟩ h' hk'
    have hI1 : GI g0 news G cf acc gs.size PI dr os (N - 0) s₁ :=hI.mv hm.2.1 hm.2.2.1 hm.2.2.2 hC0 hn (Nat.ne_of_gt h1) (Nat.ne_of_gt h2) (Nat.ne_of_gt h3)
    refine hR _ (hI1.keeps rfl rfl hk') ?_
    show s₁.gens.setIfInBounds gs.size .finished = gs.push .finished
    rw [hm.1]
    show (s.gens.setIfInBounds gs.size .running).setIfInBounds gs.size .finished = gs.push .finished
    rw [hg,set_last,set_last]
end
end
section
open PySem.Calls
section
variable {w : World} {A : Around} {D : SD} {h h₀ : Heap} {gs : Array GenState} {dr : Drawn} {tk : Nat} {os : OsState} {L x C0 : Addr} {ox : Obj} {odx : Option Obj} {m : MP} {news : Led} {Q E : VP} {env : Env} {Nn : Nat} {PI : Nat → Value → Prop}
theorem ListComp_gen {xn : Str} {p1 p2 p3 : Pos} {iter : PySem.Expr} {scope : Scope} (S : Site w A D h₀ L) (R : Room A 10) (F : Fr h₀ L h m) (N : News h₀ L h news) (I : W.InstAt h x ox C0 odx) (hi : findIn (K w.params) (.ref C0) "__iter__" = some (some (.ref 131)))
    (hT : TupC w x Nn PI news) (hsz : Nn ≤ 1000)
    (hfree : ∀ y ∈ scope.names,y.2 ≠ .free) (hcell : ∀ y ∈ scope.names,y.2 ≠ .cell) (hkind : scope.kind = .function) (hnames : ∀ y ∈ scope.names,y.2 = .local → scope.names.lookup y.1 = some .local) (hx : scope.names.lookup xn = some .local) (hd : (xn == ("__debug__" : Str)) = false)
    (hev : ∀ Q' : VP,(∀ t',Q' (.ref x) ⟨h,gs,dr,t',os⟩) → wpAny (model pw w) A (eval iter env) Q' E ⟨h,gs,dr,tk,os⟩)
    (hq : ∀ l oL h' tk',oL.cls = .type "list" → (∃ vs n,oL.data = .seq vs n ∧ ItemsP Nn PI vs) → Fr h₀ L h' m → News h₀ L h' ((l,oL) :: news) → Q (.ref l) ⟨h',gs.push .finished,dr,tk',os⟩)
    (hs : autoParam (∀ x,foldedSetIterable iter env x = pure x) ap._auto_2) :
    wpAny (model pw w) A (eval (.ListComp (.Name xn p1) [⟨.Name xn p2,iter, [], 0⟩] scope p3) env) Q E ⟨h,gs,dr,tk,os⟩ :=by
  obtain ⟨FG,BG,st,_⟩ :=groundX (s :=⟨h,gs,dr,tk,os⟩) (R :=fun _ _=>True) S.B F N S.fr S.ef S.ek
  have SG :=S.push (e :=gnE h.objs.size) FG BG st rfl (by kernel_rfl)
  obtain ⟨mean,mg,mb,T⟩ :=S.T
  generalize hg0 : hideAll h (news.map (·.1)) = g0 at FG BG st SG
  have gsz : g0.objs.size = h.objs.size :=by rw [← hg0];exact hideAll_size _ _
  have gk : ∀ b o,g0.get? b = some o → h.get? b = some o :=fun b o e=>of_hideAll _ (hg0 ▸ e)
  have gn : ∀ q ∈ news,g0.get? q.1 = none :=fun q hq=>by rw [← hg0];exact hideAll_none _ (List.mem_map_of_mem hq)
  refine wpAny_ListComp hfree hkind hnames (hev _ fun t1=>?_) hs
  refine iter_new S (R.le (by decide)) F N I hi ?_
  intro nm qn h1 t2 ns1 sb1
  have s1 : h1.objs.size = h.objs.size + 1 :=by rw [sb1.1,Heap.size_push]
  refine wpAny_newList ?_ (by rw [sizeLine_eq];decide)
  refine wpAny_newFunctionEnv hcell (by intro y hy;cases hy) (fun h4 ns4 sb4=>?_) hkind
  have s3 : ((h1.push (gnO gs.size nm qn)).push ({ cls :=.type "list",data :=.seq ([] : List Value).toArray } : Obj)).objs.size = h.objs.size + 3 :=by rw [Heap.size_push,Heap.size_push,s1]
  have s2 : (h1.push (gnO gs.size nm qn)).objs.size = h.objs.size + 2 :=by rw [Heap.size_push,s1]
  have k1 : ∀ b o,h.get? b = some o → h1.get? b = some o :=fun b o e=>sb1.extBut b o (Nat.ne_of_lt (Heap.lt_size e)) (Heap.get?_push_of_some _ e)
  have k3 : ∀ b o,h1.get? b = some o → h4.get? b = some o :=fun b o e=>sb4.extBut b o (fun q=>by have :=Heap.lt_size e;rw [q] at this;have t3 : @LT.lt Nat _ _ _ :=this;rw [s3,s1] at t3;exact Nat.not_lt.mpr (Nat.le_add_right (h.objs.size + 1) 2) t3) (Heap.get?_push_of_some _ (Heap.get?_push_of_some _ (Heap.get?_push_of_some _ e)))
  have k4 : ∀ b o,g0.get? b = some o → h4.get? b = some o :=fun b o e=>k3 b o (k1 b o (gk b o e))
  have hn : ∀ q ∈ news, @LT.lt Nat _ q.1 h.objs.size :=fun q hq=>Heap.lt_size (N q hq).1
  have e4 : (((h1.push (gnO gs.size nm qn)).push ({ cls :=.type "list",data :=.seq ([] : List Value).toArray } : Obj)).push ({ cls :=.type "dict",data :=.dict #[] } : Obj)).objs.size = h.objs.size + 4 :=by rw [Heap.size_push,s3]
  have n4 : ∀ b : Nat,b < h.objs.size + 3 → b ≠ ((h1.push (gnO gs.size nm qn)).push ({ cls :=.type "list",data :=.seq ([] : List Value).toArray } : Obj)).objs.size :=fun b hb q=>absurd (q.trans s3) (Nat.ne_of_lt hb)
  have gi : GI g0 news h1.objs.size ((h1.push (gnO gs.size nm qn)).push ({ cls :=.type "list",data :=.seq ([] : List Value).toArray } : Obj)).objs.size (h1.push (gnO gs.size nm qn)).objs.size gs.size PI dr os 0 ⟨h4,gs.push (.fresh (gnC h.objs.size)),dr,t2 + 0,os⟩ :=by
    refine ⟨k4,fun q hq=>k3 _ _ (k1 _ _ (N q hq).1),⟨_,ns4⟩, ?_, ?_,rfl,rfl⟩
    · exact ⟨#[],⟨_,sb4.extBut _ _ (n4 _ (by rw [s2];exact Nat.lt_succ_self _)) (Heap.get?_push_of_some _ (Heap.get?_push_size _ rfl)),rfl, 0,rfl⟩,rfl,fun _ _ e=>by cases e⟩
    · exact ⟨_,_,_,sb4.extBut _ _ (n4 _ (by exact Om.j22 ‹_› (by kernel_rfl!))) (Heap.get?_push_of_some _ (Heap.get?_push_of_some _ (Heap.get?_push_size _ rfl))),rfl,rfl,rfl⟩
  have rd : Rdy w A.in1 g0 h.objs.size ((h1.push (gnO gs.size nm qn)).push ({ cls :=.type "list",data :=.seq ([] : List Value).toArray } : Obj)).objs.size (h1.push (gnO gs.size nm qn)).objs.size gs Nn PI Nn ⟨h4,gs.push (.fresh (gnC h.objs.size)),dr,t2 + 0,os⟩ :=by
    refine ⟨_,rfl,h.objs.size :: news.map (·.1), ?_,fun s'' k0 kW=>⟨rfl, ?_⟩⟩
    · intro b hb
      have hb2 : @LT.lt Nat _ b (h.objs.size + 1) :=by
        rcases List.mem_cons.mp hb with rfl | hb
        · exact Nat.lt_succ_self _
        · obtain ⟨q,hq,rfl⟩ :=List.mem_map.mp hb
          exact Nat.lt_succ_of_lt (hn q hq)
      exact ⟨n4 b (Nat.lt_of_lt_of_le hb2 (Nat.le_add_right _ 2)),fun q=>absurd (Eq.trans (α :=Nat) q s2) (Nat.ne_of_lt (Nat.lt_succ_of_lt hb2))⟩
    · refine gen_fresh ⟨SG.B, ?_,SG.ef,SG.ek,SG.X,SG.T,SG.XB,SG.TB,SG.DK⟩ (R.le (j :=9) (by decide)).in1 hT (Nat.le_of_eq gsz) s'' k0 ?_ ?_
      · have e : (A.in1.over (gnC h.objs.size) []).frames = A.frames.map ([gnE h.objs.size] ++ ·) :=rfl
        rw [e,S.fr];rfl
      · obtain ⟨o,es,ep,e,r⟩ :=ns1
        exact ⟨o,es,ep,kW _ (.head _) _ (k3 _ _ e),r⟩
      · intro q hq
        exact ⟨kW _ (.tail _ (List.mem_map_of_mem hq)) _ (k3 _ _ (k1 _ _ (N q hq).1)),Nat.ne_of_lt (hn q hq),gn q hq⟩
  have fin : ∀ s,GI g0 news h1.objs.size ((h1.push (gnO gs.size nm qn)).push ({ cls :=.type "list",data :=.seq ([] : List Value).toArray } : Obj)).objs.size (h1.push (gnO gs.size nm qn)).objs.size gs.size PI dr os Nn s → s.gens = gs.push .finished →
      ∃ m',s.heap.Ns ((h1.push (gnO gs.size nm qn)).push ({ cls :=.type "list",data :=.seq ([] : List Value).toArray } : Obj)).objs.size m' ∧ ∀ h',Heap.SameBut ((h1.push (gnO gs.size nm qn)).push ({ cls :=.type "list",data :=.seq ([] : List Value).toArray } : Obj)).objs.size s.heap h' → Q (.ref (h1.push (gnO gs.size nm qn)).objs.size) { s with heap :=h' } :=by
    intro s I hg
    obtain ⟨m',nsf⟩ :=I.cf
    refine ⟨m',nsf,fun h' sb=>?_⟩
    have kk : ∀ b o,g0.get? b = some o → h'.get? b = some o :=fun b o e=>sb.extBut b o (n4 b (by have t3 : @LT.lt Nat _ _ _ :=Heap.lt_size e;rw [gsz] at t3;exact Nat.lt_of_lt_of_le t3 (Nat.le_add_right _ 3))) (I.k0 b o e)
    obtain ⟨hp',gs',dr',tk',os'⟩ :=s
    have e1 : gs' = gs.push .finished :=hg
    have e2 : dr' = dr :=I.dr
    have e3 : os' = os :=I.os
    subst e1 e2 e3
    obtain ⟨vs,⟨oa,ea,ca,na,da⟩,hvs⟩ :=I.acc
    have hLl : @LT.lt Nat _ L h.objs.size :=F.ns.lt
    refine hq _ oa h' tk' ca ⟨vs,na,da,hvs⟩ ⟨let ⟨o,es,ep,e,r⟩ :=FG.ns;⟨o,es,ep,kk _ _ e,r⟩,fun b o e=>kk _ _ (st b o e),F.above⟩ fun q hq=>?_
    rcases List.mem_cons.mp hq with rfl | hq
    · refine ⟨sb.extBut _ _ (n4 _ (by show (h1.push (gnO gs.size nm qn)).objs.size < _;rw [s2];exact Nat.lt_succ_self _)) ea,fun q=>?_, ?_⟩
      · have q' : @Eq Nat _ _ :=q
        rw [s2] at q';exact Nat.ne_of_gt (Nat.lt_of_lt_of_le hLl (Nat.le_add_right _ 2)) q'
      · cases z : h₀.get? (h1.push (gnO gs.size nm qn)).objs.size with
        | none=>rfl
        | some o =>
          have t : @LT.lt Nat _ _ _ :=Heap.lt_size (F.keep _ _ z)
          rw [s2] at t
          exact absurd t (Nat.not_lt.mpr (Nat.le_add_right _ 2))
    · exact ⟨sb.extBut _ _ (n4 _ (Nat.lt_of_lt_of_le (hn q hq) (Nat.le_add_right _ 3))) (I.kn q hq),(N q hq).2⟩
  have lt3 : @LT.lt Nat _ h.objs.size ((h1.push (gnO gs.size nm qn)).push ({ cls :=.type "list",data :=.seq ([] : List Value).toArray } : Obj)).objs.size :=by rw [s3];exact Om.j23 (by kernel_rfl!)
  have lt2 : @LT.lt Nat _ h.objs.size (h1.push (gnO gs.size nm qn)).objs.size :=by rw [s2];exact Om.j23 (by kernel_rfl!)
  have lt1 : @LT.lt Nat _ h.objs.size h1.objs.size :=by rw [s1];exact Nat.lt_succ_self _
  have d32 : @Ne Nat ((h1.push (gnO gs.size nm qn)).push ({ cls :=.type "list",data :=.seq ([] : List Value).toArray } : Obj)).objs.size (h1.push (gnO gs.size nm qn)).objs.size :=fun q=>by rw [s3,s2] at q;exact Om.l6 3 2 rfl q
  have d13 : @Ne Nat h1.objs.size ((h1.push (gnO gs.size nm qn)).push ({ cls :=.type "list",data :=.seq ([] : List Value).toArray } : Obj)).objs.size :=fun q=>by rw [s3,s1] at q;exact Om.l6 1 3 rfl q
  have d12 : @Ne Nat h1.objs.size (h1.push (gnO gs.size nm qn)).objs.size :=fun q=>by rw [s2,s1] at q;exact Om.l6 1 2 rfl q
  have ct :=fun (env' : Env) (R' : Result → Shared → Prop) a1 a2 a3 a4 a5=>comp_turns (R :=R') (env :=env') (xn :=xn) (p1 :=p1) (p2 :=p2) (p3 :=p3) (iter :=iter) (scope :=scope) R.h (by have :=R.d;exact Om.n40 ‹_›) (T.nolimit.keeps st) (Nat.le_of_eq gsz) hn lt3 lt2 lt1 d32 d13 d12 a1 a2 a3 a4 hd hsz a5 Nn (Nat.le_refl _) _ (by rw [Nat.sub_self];exact gi) rd
  have hp2 : ∀ l g : Addr,(scope.kind == .class || (scope.kind == .module && l != g)) = false :=fun l g=>by rw [hkind];rfl
  refine codeAny_compStart_list ?_ (wpAny_pyIter_gen gi.gen ?_)
  · exact ct _ _ rfl hkind hx (hp2 _ _) fin
  · exact ct _ _ rfl hkind hx (hp2 _ _) fin
end
end
noncomputable def PI2 (f g : Tok → Value) (i : Nat) (v : Value) : Prop :=(i = 0 ∧ ∃ t,v = f t) ∨ (i = 1 ∧ ∃ t,v = g t)
theorem PI2.of {f g : Tok → Value} (a b : Tok) : ItemsP 2 (PI2 f g) #[f a,g b] :=by
  refine ⟨rfl,fun i v h=>?_⟩
  match i,h with
  | 0,h=>exact .inl ⟨rfl,a,(Option.some.inj h).symm⟩
  | 1,h=>exact .inr ⟨rfl,b,(Option.some.inj h).symm⟩
  | i + 2,h=>simp at h
theorem PI2.to {f g : Tok → Value} {vs : Array Value} (h : ItemsP 2 (PI2 f g) vs) : ∃ a b,vs = #[f a,g b] :=by
  obtain ⟨hs,hv⟩ :=h
  have l0 : 0 < vs.size :=Om.j32 ‹_› (by kernel_rfl!)
  have l1 : 1 < vs.size :=Om.j32 ‹_› (by kernel_rfl!)
  rcases hv 0 _ (Array.getElem?_eq_getElem l0) with ⟨_,a,ea⟩ | ⟨q,_⟩
  · rcases hv 1 _ (Array.getElem?_eq_getElem l1) with ⟨q,_⟩ | ⟨_,b,eb⟩
    · cases q
    · refine ⟨a,b,Array.ext hs fun i h1 h2=>?_⟩
      match i,h1 with
      | 0,_=>exact ea
      | 1,_=>exact eb
      | i + 2,h1=>exact absurd h1 (by omega)
  · cases q
section
variable {w : World} {news : Led}
variable {dv dd tr lf : Addr} {H : Array UInt8 → Array UInt8} {ky : Array UInt8} {n bk d : Nat} {p : Int}
theorem tup_match {x dx : Addr} {u0 u1 u2 u3 u4 u5 u6 : Tok} {c tm wd : Int} (hx : (x,instObj 471 dx) ∈ news) (hdx : (dx,matObj w.params u0 u1 u2 u3 u4 u5 u6 dv c tm wd) ∈ news) : TupC w x 2 (PI2 (fun t=>.int c t) (fun t=>.int tm t)) news :=by
  intro A D hp g gs dr tk os C Q E nw S1 R1 F1 N1 hk hq
  have hx' :=hk _ hx
  have hdx' :=hk _ hdx
  have X1 :=S1.X
  obtain ⟨mean,mg,mb,T1⟩ :=S1.T
  unfold gnM at F1
  (show wpAny _ _ (eval (PySem.Expr.Call (PySem.Expr.Attribute (PySem.Expr.Name _ _) _ _) [] [] _) _) _ _ _)
  k_extra "go"
  exact hq _ _ _ _ _ (PI2.of _ _) rfl ⟨_,rfl⟩ ‹_› ‹_›
theorem tup_token (hD : DevIs w news dv dd tr lf H ky n bk d p) (hO : DevOk H ky n bk d p) {x dx : Addr} {u0 u1 u2 u3 u4 : Tok} {c : Int} {y : PySem.Str} (hc0 : 0 ≤ c) (hc : c < 2 ^ 60) (hx : (x,instObj 404 dx) ∈ news) (hdx : (dx,tokObj w.params u0 u1 u2 u3 u4 dv y c) ∈ news) : TupC w x 2 (PI2 (fun t=>.str y t) (fun t=>.int ((c + 1) * p) t)) news :=by
  intro A D hp g gs dr tk os C Q E nw S1 R1 F1 N1 hk hq
  have hx' :=hk _ hx
  have hdx' :=hk _ hdx
  have X1 :=S1.X
  obtain ⟨mean,mg,mb,T1⟩ :=S1.T
  refine DevIs.el (hD.mono hk) ?_;intro u t5 t6 nt kh h1 h4 h5
  have hp1 :=hO.hp
  have hp2 :=hO.hp2
  have hmul : IntMulOk (c + 1) p :=mulOkB 8 1 (Om.p3 hc0 hc) (by exact Om.t7 ‹_› ‹_› (by kernel_rfl!)) (by decide)
  clear hD hx hdx
  unfold gnM at F1
  (show wpAny _ _ (eval (PySem.Expr.Call (PySem.Expr.Attribute (PySem.Expr.Name _ _) _ _) [] [] _) _) _ _ _)
  k_extra "go"
  exact hq _ _ _ _ _ (PI2.of _ _) rfl ⟨_,rfl⟩ ‹_› ‹_›
end
section
open PySem.Spec
noncomputable def scal : PyData → Bool
  | .int _=>true
  | .str x=>PyData.canLay0 (.str x)
  | _=>false
theorem scal_eqv : ∀ {d : PyData},scal d = true → PyData.eqv d d = true ∧ PyData.canLay0 d = true ∧ d.depth = 0
  | .int _,_=>⟨by simp [PyData.eqv],rfl,rfl⟩
  | .str _,h=>⟨by simp [PyData.eqv],h,rfl⟩
theorem scal_all : ∀ {ds : List PyData},(∀ d ∈ ds,scal d = true) → PyData.eqvAll ds ds = true ∧ PyData.canLayAll0 ds = true ∧ PyData.depthAll ds = 0
  | [],_=>⟨rfl,rfl,rfl⟩
  | d :: ds,h=>by
    obtain ⟨a1,a2,a3⟩ :=scal_eqv (h d (.head _))
    obtain ⟨b1,b2,b3⟩ :=scal_all (ds :=ds) fun e he=>h e (.tail _ he)
    exact ⟨by rw [PyData.eqvAll,a1,b1];rfl,by rw [PyData.canLayAll0,a2,b2];rfl,by rw [PyData.depthAll,a3,b3];rfl⟩
theorem looks_obj {M : Model} {h : Heap} {a : Addr} {o : Obj} {c : Value} (e : h.get? a = some o) (hc : o.cls = c) : Looks M h (typeOf (.ref a)) c :=hc ▸ (Looks.ld e).andThen .now
theorem Room.lt {A : Around} {k : Nat} (r : Room A k) : A.units < cLine :=by have :=r.u;exact Om.n40 ‹_›
section
variable {prog : Program} {w : World} {A : Around} {E : VP} {s : Shared} {h₀ : Heap} {L a b : Addr} {news : Led} {oa ob : Obj} {xs ys : Array Value} {ka kb : Nat} {ds : List PyData} {Q : VP}
theorem carried_all {h : Heap} : ∀ {vs : List Value} {ds : List PyData},CarriedAll vs ds → ∃ as,ReadsAll h vs ds as :=fun {_} {_} c=>⟨_,c.reads h⟩
theorem neLL (N : News h₀ L s.heap news) (ma : (a,oa) ∈ news) (ca : oa.cls = .type "list") (da : oa.data = .seq xs ka) (mb : (b,ob) ∈ news) (cb : ob.cls = .type "list") (db : ob.data = .seq ys kb)
    (ea : CarriedAll xs.toList ds) (eb : CarriedAll ys.toList ds) (hs : ∀ d ∈ ds,scal d = true) (hu : A.units + 64 < cLine) (h : Q (.bool false) s) : wpAny (model prog w) A (compareOp .NotEq (.ref a) (.ref b)) Q E s :=by
  obtain ⟨e1,e2,e3⟩ :=scal_all hs
  obtain ⟨as,ra⟩ :=carried_all (h :=s.heap) ea
  obtain ⟨bs,rb⟩ :=carried_all (h :=s.heap) eb
  have sh : SeqAt.shaped (.list ds) = true :=by
    unfold SeqAt.shaped
    rw [PyData.canLay0,PyData.depth,e2,e3];rfl
  refine ne_dataH (.list (N _ ma).1 ca da ra) (.list (N _ mb).1 cb db rb) sh sh hu ?_
  have e : PyData.eqv (.list ds) (.list ds) = true :=by rw [PyData.eqv];exact e1
  rw [e]
  exact h
theorem eqTT (N : News h₀ L s.heap news) (ma : (a,oa) ∈ news) (ca : oa.cls = .type "tuple") (da : oa.data = .seq xs ka) (mb : (b,ob) ∈ news) (cb : ob.cls = .type "tuple") (db : ob.data = .seq ys kb)
    (ea : CarriedAll xs.toList ds) (eb : CarriedAll ys.toList ds) (hs : ∀ d ∈ ds,scal d = true) (hu : A.units + 64 < cLine) (h : Q (.bool true) s) : wpAny (model prog w) A (compareOp .Eq (.ref a) (.ref b)) Q E s :=by
  obtain ⟨e1,e2,e3⟩ :=scal_all hs
  obtain ⟨as,ra⟩ :=carried_all (h :=s.heap) ea
  obtain ⟨bs,rb⟩ :=carried_all (h :=s.heap) eb
  have sh : SeqAt.shaped (.tuple ds) = true :=by
    unfold SeqAt.shaped
    rw [PyData.canLay0,PyData.depth,e2,e3];rfl
  refine eq_dataH (.tuple (N _ ma).1 ca da ra) (.tuple (N _ mb).1 cb db rb) sh sh hu ?_
  have e : PyData.eqv (.tuple ds) (.tuple ds) = true :=by rw [PyData.eqv];exact e1
  rw [e]
  exact h
end
end
section
variable {w : World} {A : Around} {D : SD} {hp h₀ : Heap} {gs : Array GenState} {dr : Drawn} {tk : Nat} {os : OsState} {L : Addr} {m : MP} {news : Led} {Q E : VP}
variable {dv dd tr lf : Addr} {H : Array UInt8 → Array UInt8} {ky : Array UInt8} {n bk d : Nat} {p : Int}
theorem match_ne {x dx T : Addr} {oT : Obj} {kb : Nat} {ta tb : Tok} {u0 u1 u2 u3 u4 u5 u6 : Tok} {c tm wd : Int} (hS : Site w A D h₀ L) (hR : Room A 10) (hF : Fr h₀ L hp m) (hN : News h₀ L hp news) (hx : (x,instObj 471 dx) ∈ news) (hdx : (dx,matObj w.params u0 u1 u2 u3 u4 u5 u6 dv c tm wd) ∈ news)
   (hT : (T,oT) ∈ news) (cT : oT.cls = .type "tuple") (dT : oT.data = .seq #[.int c ta, .int tm tb] kb)
   (hret : ∀ (h' : Heap) (tk' : Nat),Fr h₀ L h' m → News h₀ L h' news → Q (.bool false) ⟨h',gs,dr,tk',os⟩) : wpAny (model pw w) A (compareOp .NotEq (.ref x) (.ref T)) Q E ⟨hp,gs,dr,tk,os⟩ :=by
  refine cmp_ofNotEq ?_
  refine cmp_K (K :=K w.params) (C :=471) (f :=152) (tb :=.type "tuple") (Room.lt hR) hF hS.X (W.InstAt.of_news hN hx hdx) (looks_obj (hN _ hT).1 cT) (by kernel_rfl) (by kernel_rfl) (by kernel_rfl) ?_
  refine wpAny_call ?_
  k_dflt k_extra "enter"
  k_extra "s9"
  k_dflt (refine eqTT (s :=⟨_,_,_,_,_⟩) (ds :=[.int c, .int tm]) ‹_› (by k_mem) rfl rfl (by k_mem) cT dT (.cons (.int _ _) (.cons (.int _ _) .nil)) (.cons (.int _ _) (.cons (.int _ _) .nil)) (List.forall_mem_cons.mpr ⟨rfl,List.forall_mem_cons.mpr ⟨rfl,List.forall_mem_nil _⟩⟩) (by have :=Room.u ‹_›;omega) ?_)
  k_extra "go"
  exact hret _ _ F0 (cb_drop N0 (by kcj_in))
theorem match_len {x dx : Addr} {u0 u1 u2 u3 u4 u5 u6 : Tok} {c tm wd : Int} (hS : Site w A D h₀ L) (hR : Room A 10) (hF : Fr h₀ L hp m) (hN : News h₀ L hp news) (hx : (x,instObj 471 dx) ∈ news) (hdx : (dx,matObj w.params u0 u1 u2 u3 u4 u5 u6 dv c tm wd) ∈ news)
   (hret : ∀ (u : Tok) (h' : Heap) (tk' : Nat),Fr h₀ L h' m → News h₀ L h' news → Q (.int 2 u) ⟨h',gs,dr,tk',os⟩) : wpAny (model pw w) A (call (.builtin "len") [.ref x]) Q E ⟨hp,gs,dr,tk,os⟩ :=by
  refine len_K (K :=K w.params) (C :=471) (f :=138) hF hS.X (W.InstAt.of_news hN hx hdx) (by kernel_rfl) (by kernel_rfl) ?_
  refine wpAny_call ?_
  k_dflt k_extra "enter"
  k_extra "go"
  refine ⟨⟨by decide,by decide⟩, ?_⟩
  exact hret _ _ _ F0 (cb_drop N0 (by kcj_in))
theorem news_pick {h₀ h : Heap} {L l : Addr} {o : Obj} {nw news : Led} (N : News h₀ L h nw) (hm : (l,o) ∈ nw) (k : ∀ q ∈ news,q ∈ nw) : News h₀ L h ((l,o) :: news) :=fun q hq=>by
  rcases List.mem_cons.mp hq with rfl | hq
  · exact N _ hm
  · exact N _ (k q hq)
noncomputable abbrev dueO (c tm wd p : Int) (u0 u1 u2 u3 u4 u5 u6 u7 : Tok) : Obj :=W.listOf #[.int c u0, .int tm u1, .int wd u2, .int (tm.fdiv p) u3, .int (c - tm.fdiv p) u4, .int ((c + 1) * p) u5, .int (p + wd) u6, .int ((c + 1) * p + wd) u7] 0
theorem told_rest (hD : DevIs w news dv dd tr lf H ky n bk d p) (hO : DevOk H ky n bk d p) (v lv : Value) (tm wd sk c : Int) (t1 t2 t3 : Tok) (hc0 : 0 ≤ c) (hc : c < 2 ^ 60) (hw : 0 ≤ wd)
   {x dx : Addr} {u0 u1 u2 u3 u4 u5 u6 : Tok} (hx : (x,instObj 471 dx) ∈ news) (hdx : (dx,matObj w.params u0 u1 u2 u3 u4 u5 u6 dv c tm wd) ∈ news)
   {g : Heap} {L' : Addr} {A1 : Around} {D1 : SD} {Q1 : FP} {E1 : VP} {mean : ExcName → Option Value} {mg mb : MP} (T1 : Top topProg lt mean mg mb g)
   (S1 : Site w A1 D1 g L') (R1 : Room A1 10) (X1 : Frag.In (K w.params) g) (F1 : Fr g L' hp fun z=>if z = ofString "found" then some (.ref x) else tlM dv v lv tm wd sk t1 t2 t3 z) (N1 : News g L' hp news)
   (hret : ∀ (l : Addr) (u0 u1 u2 u3 u4 u5 u6 u7 : Tok) (h' : Heap) (tk' : Nat) (m' : MP),Fr g L' h' m' → News g L' h' ((l,dueO c tm wd p u0 u1 u2 u3 u4 u5 u6 u7) :: news) → Q1 (.ret (.ref l)) ⟨h',gs.push .finished,dr,tk',os⟩) :
      wpAny (model pw w) A1 (execs ((bodyS (tp 30)).drop 1) (tlE L')) Q1 E1 ⟨hp,gs,dr,tk,os⟩ :=by
  refine DevIs.el hD ?_;intro u t5 t6 nt kh h1 h4 h5
  have hp1 :=hO.hp
  have hp2 :=hO.hp2
  have hne : p ≠ 0 :=Om.i14 ‹_›
  have hu64 : A1.units + 64 < cLine :=Om.r2 (d :=8) R1.u (by decide)
  have hmul : IntMulOk (c + 1) p :=mulOkB 8 1 (Om.p3 hc0 hc) (by exact Om.t7 ‹_› ‹_› (by kernel_rfl!)) (by decide)
  k_extra "s10"
  obtain ⟨NN,hNN⟩ : ∃ news',news' = news :=⟨_,rfl⟩
  k_dflt (refine ListComp_gen (C0 :=471) (by k_extra "site") (by k_extra "roomle") ‹_› ‹_› (W.InstAt.of_news ‹_› (by k_mem) (by k_mem)) (by kernel_rfl) (tup_match (by k_mem) (by k_mem)) (by decide) (by decide) (by decide) (by rfl) (by decide) (by rfl) (by decide) ?_ ?_)
  · intro Q' hQ'
    k_extra "go"
    exact hQ' _
  intro l oL h' tk' c1 c2 F' N'
  obtain ⟨vs,nl,d1,hvs⟩ :=c2
  obtain ⟨ta,tb,rfl⟩ :=PI2.to hvs
  k_extra "s11"
  k_dflt (refine neLL (s :=⟨_,_,_,_,_⟩) (ds :=[.int c, .int tm]) ‹_› (by k_mem) ‹_› ‹_› (by k_mem) rfl rfl (.cons (.int _ _) (.cons (.int _ _) .nil)) (.cons (.int _ _) (.cons (.int _ _) .nil)) (List.forall_mem_cons.mpr ⟨rfl,List.forall_mem_cons.mpr ⟨rfl,List.forall_mem_nil _⟩⟩) ‹_› ?_)
  k_extra "s11"
  k_dflt (refine match_ne (by k_extra "site") (by k_extra "roomle") ‹_› ‹_› (by k_mem) (by k_mem) (by k_mem) rfl rfl ?_)
  intro h' t' F' N'
  (try k_sweep)
  k_extra "s12"
  k_dflt (refine match_len (by k_extra "site") (by k_extra "roomle") ‹_› ‹_› (by k_mem) (by k_mem) ?_)
  intro u' h' t' F' N'
  (try k_sweep)
  k_extra "go"
  exact hret _ _ _ _ _ _ _ _ _ _ _ _ ‹_› (news_pick ‹_› (by k_mem) (fun q hq=>by k_mem))
theorem told_spec (hD : DevIs w news dv dd tr lf H ky n bk d p) (hO : DevOk H ky n bk d p) (v lv : Value) (y : Str) (hNo : NormC w dv news v y) (hT : ∀ c,(devT H ky n bk d c).cps.all (· < 128) = true ∧ (devT H ky n bk d c).cps.size = d) (hy : y.cps.all (· < 128) = true) (hyd : y.cps.size = d)
   (tm wd sk l : Int) (t1 t2 t3 : Tok) (hw : 0 ≤ wd) (he : mcT p tm wd sk ≤ 2 ^ 60) (hl : (lv = .none ∧ l = -1) ∨ ∃ tl,lv = .int l tl) (hTab : TabF news)
   (hS : Site w A D h₀ L) (hDo : D.outer = []) (hR : Room A 12) (hF : Fr h₀ L hp m) (hN : News h₀ L hp news)
   (hmiss : ∀ (x : Addr) (u : Tok) (h' : Heap) (tk' : Nat) (news' : Led),firstM (devT H ky n bk d) y (mcT p tm wd sk - mcS p tm wd sk l).toNat (mcS p tm wd sk l) = none → Fr h₀ L h' m → News h₀ L h' ((x,W.listOf #[.str (ofString "no such token") u] 0) :: news') → Turns2 dd news news' → DevIs w news' dv dd tr lf H ky n bk d p → TabF news' → Q (.ref x) ⟨h',gs,dr,tk',os⟩)
   (hused : ∀ (x : Addr) (u u2 : Tok) (h' : Heap) (tk' : Nat) (news' : Led),firstM (devT H ky n bk d) y (mcT p tm wd sk - mcS p tm wd sk l).toNat (mcS p tm wd sk l) = some l → Fr h₀ L h' m → News h₀ L h' ((x,W.listOf #[.str (ofString "used") u, .int ((l + 1) * p) u2] 0) :: news') → Turns2 dd news news' → DevIs w news' dv dd tr lf H ky n bk d p → TabF news' → Q (.ref x) ⟨h',gs,dr,tk',os⟩)
   (hfound : ∀ (c' : Int) (x : Addr) (u0 u1 u2 u3 u4 u5 u6 u7 : Tok) (h' : Heap) (tk' : Nat) (news' : Led),firstM (devT H ky n bk d) y (mcT p tm wd sk - mcS p tm wd sk l).toNat (mcS p tm wd sk l) = some c' → c' ≠ l → Fr h₀ L h' m → News h₀ L h' ((x,dueO c' tm wd p u0 u1 u2 u3 u4 u5 u6 u7) :: news') → Turns2 dd news news' → DevIs w news' dv dd tr lf H ky n bk d p → TabF news' → Q (.ref x) ⟨h',gs.push .finished,dr,tk',os⟩) :
      wpAny (model pw w) A (call (.ref 502) [.ref dv,v, .int tm t1, .int wd t2, .int sk t3,lv]) Q E ⟨hp,gs,dr,tk,os⟩ :=by
  refine DevIs.el hD ?_;intro u t5 t6 nt kh h1 h4 h5
  refine wpAny_call ?_
  refine en_told hS hDo hF hN hR ?_
  intro A1 D1 g L' h₁ tk1 Q1 E1 hA1 hD1 T1 S1 R1 X1 G1 F1 N1 lN hQT
  obtain ⟨mean,mg,mb,T1⟩ :=T1
  k_extra "s7"
  refine PySem.wpAny_Try_except ?_
  k_extra "s8"
  have XB :=S1.XB
  obtain ⟨mean',mg',mb',TB⟩ :=S1.TB
  refine match_spec hD hO v lv y hNo hT hy hyd tm wd sk l _ _ _ hw he hl hTab (by k_extra "site") (by k_extra "roomle") ‹_› ‹_› ?_ ?_ ?_
  · intro c' x dx u0 u1 u2 u3 u4 u5 u6 h' tk' news' e1 e2 F' N' tu' D' tb'
    obtain ⟨r1,r2,r3⟩ :=firstM_range e1
    have hs0 : 0 ≤ mcS p tm wd sk l :=Int.le_max_right _ _
    have hc0 : 0 ≤ c' :=Int.le_trans hs0 r1
    have hc1 : c' < 2 ^ 60 :=by
      generalize mcS p tm wd sk l = aS at *
      generalize mcT p tm wd sk = aT at *
      exact Om.p2 r1 r2 he
    have hsub : ∀ q ∈ news',q ∈ (x,instObj 471 dx) :: (dx,matObj w.params u0 u1 u2 u3 u4 u5 u6 dv c' tm wd) :: news' :=fun q hq=>.tail _ (.tail _ hq)
    k_extra "s13"
    refine told_rest (D'.mono hsub) hO v lv tm wd sk c' t1 t2 t3 hc0 hc1 hw (.head _) (.tail _ (.head _)) T1 S1 (Room.le R1 (by decide)) X1 ‹_› ‹_› ?_
    intro l2 w0 w1 w2 w3 w4 w5 w6 w7 h2 tk2 m2 F2 N2
    exact hQT _ _ _ _ _ KtsTurn.refl F2 (news_pick N2 (.head _) (fun q hq=>.tail _ (hsub q hq))) (fun F0 N0=>hfound _ _ _ _ _ _ _ _ _ _ _ _ _ e1 e2 F0 N0 tu' D' tb')
  · intro G x dx u tv h' tk' news' e1 F' fl' mx' tu' D' tb'
    subst hD1 hA1
    refine fly_look S1.fr S1.ef fl' ?_
    intro h2 fl2
    refine fly_hitB fl2 F' S1.B XB TB (test_name (kn87 _) (by kernel_rfl) (by kernel_rfl) (by kernel_rfl) (by decide +kernel)) ?_ (by kernel_rfl) (by kernel_rfl)
    intro h4 g4 tk4 oe ws T4 F4 N4 c4 d4 w4 B4
    k_extra "s14"
    have X4 : Frag.In (K w.params) g4 :=XB.keeps B4.stays
    have I4 : W.InstAt h4 x oe 87 (some (expO w.params u (.int ((l + 1) * p) tv))) :=⟨(N4 _ (.head _)).1,c4,(by unfold notCls;rw [w4]),(by rw [d4];exact (N4 _ (.tail _ mx')).1)⟩
    refine exc_value (v :=.int ((l + 1) * p) tv) (X4.keeps F4.keep) I4 (by kernel_rfl) (by kernel_rfl) (by kernel_rfl) (by kernel_rfl) (by kernel_rfl) ?_
    k_extra "s15"
    refine goesN ‹_› ‹_› (by kernel_rfl) (by kernel_rfl) ?_
    intro h5 m5 t5 F5 N5
    exact hQT _ _ _ _ _ (told_turn hDo hS T4) F5 N5 (fun F0 N0=>hused _ _ _ _ _ _ e1 F0 (fun q hq=>N0 q (by rcases List.mem_cons.mp hq with rfl | hq;exact .head _;exact .tail _ (.tail _ hq))) tu' D' tb')
  · intro G x h' tk' news' e1 F' fl' tu' D' tb'
    subst hD1 hA1
    refine fly_look S1.fr S1.ef fl' ?_
    intro h2 fl2
    refine fly_pass fl2 F' S1.B XB TB (test_name (kn87 _) (by kernel_rfl) (by kernel_rfl) (by kernel_rfl) (by decide +kernel)) ?_
    intro h3 fl3
    refine fly_pass fl3 F' S1.B XB TB (test_name (kn54 _) (by kernel_rfl) (by kernel_rfl) (by kernel_rfl) (by decide +kernel)) ?_
    intro h3 fl4
    refine fly_hit fl4 F' S1.B XB TB (test_name (kn66 _) (by kernel_rfl) (by kernel_rfl) (by kernel_rfl) (by decide +kernel)) ?_
    intro h4 g4 T4 F4 N4 B4
    k_extra "go"
    exact hQT _ _ _ _ _ (told_turn hDo hS T4) ‹_› ‹_› (fun F0 N0=>hmiss _ _ _ _ _ e1 F0 N0 tu' D' tb')
end
section
open PySem.Calls
section
variable {prog : Program} {w : World} {A : Around} {E : VP} {h h₀ : Heap} {g : Array GenState} {d : Drawn} {tk : Nat} {os : OsState} {m : MP} {news : Led} {env : Env}
noncomputable def StpR (h₀ : Heap) (L : Addr) (own : Led) (g : Array GenState) (d : Drawn) (os : OsState) (Jn : (Str → Option Value) → Prop) (news : Led) (Q : FP) (f : Flow) (s' : Shared) : Prop :=
  match f with
  | .ret v=>Q (.ret v) s'
  | .brk=>False
  | _=>∃ h' tk' m',s' = ⟨h',g,d,tk',os⟩ ∧ Fr h₀ L h' m' ∧ News h₀ L h' (own ++ news) ∧ Jn m'
theorem iter_range {xn : Str} {px : Pos} {body : List Stmt} {Q : FP} {r : Addr} {a b : Int} {t u v : Tok} {k : Nat} (J : Nat → (Str → Option Value) → Prop) (hh : A.handled = none) (F : Fr h₀ env.locals h m) (N : News h₀ env.locals h news) (hr : IsRange h r a b 1 t u v) (hsm : Builtin.Range.small a b 1 = true) (hn : Builtin.Range.rangeSize a b 1 = (k : Int)) (h0 : J 0 m)
    (step : ∀ (i : Nat) (m₁ : MP) (h₁ : Heap) (tk₁ : Nat) (own : Led) (t' : Tok),i < k → J i m₁ → Fr h₀ env.locals h₁ m₁ → News h₀ env.locals h₁ (own ++ news) →
      wpAny (model prog w) A (assign (.Name xn px) env (.int (a + i) t')) (fun _ s₃=>wpAny (model prog w) A (execs body env) (StpR h₀ env.locals own g d os (J (i + 1)) news Q) E s₃) E ⟨h₁,g,d,tk₁,os⟩)
    (hQ : ∀ h' tk' m',Fr h₀ env.locals h' m' → News h₀ env.locals h' news → J k m' → Q .next ⟨h',g,d,tk',os⟩) :
    wpAny (model prog w) A (pyIter (.ref r)) (fun it s₂=>TurnsAt prog w A h₀ env (.Name xn px) body Q E it s₂) E ⟨h,g,d,tk,os⟩ :=by
  refine wpAny_pyIter_range (s :=⟨h,g,d,tk,os⟩) hr hsm ?_
  have W :=Walks.range (prog :=prog) (w :=w) (A :=A) hh h.objs.size a 1 k
  have hk : ∀ b' o,h.get? b' = some o → (h.push { cls :=.type "range_iterator",data :=.fields #[rawInt a,rawInt (Builtin.Range.rangeSize a b 1),rawInt 1] }).get? b' = some o :=fun _ _ e=>Heap.get?_push_of_some _ e
  have hl : @LT.lt Nat _ env.locals h.objs.size :=F.ns.lt
  have nI : ∀ b' o,h.get? b' = some o → b' ≠ h.objs.size :=fun b' o e=>Nat.ne_of_lt (Heap.lt_size e)
  have WT :=KTurns.ofWalks (target :=.Name xn px) W (fun i v s Q E _ hq=>wpAny_of_eq (a :=()) rfl hq)
  refine turns_mk h.objs.size [h.objs.size] [h.objs.size] k _ _ _ m news (fun i m' nw=>nw = news ∧ J i m') rfl WT ?_ ?_ ?_ ?_ (F.keeps hk) (N.grown hk) ⟨rfl,h0⟩ ?_ ?_
  · exact fun hm=>Nat.ne_of_lt hl (List.mem_singleton.mp hm)
  · intro b' hb'
    rw [List.mem_singleton.mp hb']
    cases q : h₀.get? h.objs.size with
    | none=>rfl
    | some o=>exact absurd rfl (nI _ _ (F.keep _ _ q))
  · intro p hp hm
    exact nI _ _ (N p hp).1 (List.mem_singleton.mp hm)
  · show IsRangeIter _ _ _ _ _
    rw [hn]
    simpa using Heap.get?_push_size _ rfl
  · rintro i v m₁ news₁ h₁ tk₁ own hi ⟨t',rfl⟩ ⟨rfl,hJ⟩ ha hb hc hd' hst F1 N1
    have s2 :=step i m₁ h₁ tk₁ own t' hi hJ F1 N1
    rw [Int.mul_one]
    refine wpAny_mono s2 (fun _ s₃ h₃=>wpAny_mono h₃ (fun f s₄ h₄=>?_) fun _ _ z=>z) fun _ _ z=>z
    cases f with
    | ret v=>exact LoopStepV.ret h₄
    | brk=>exact h₄.elim
    | next =>
      obtain ⟨h',tk',m',rfl,F2,N2,J2⟩ :=h₄
      exact LoopStepV.next ⟨rfl,h',tk',m',_,rfl,F2,N2,ha,rfl,J2⟩
    | cont =>
      obtain ⟨h',tk',m',rfl,F2,N2,J2⟩ :=h₄
      exact LoopStepV.cont ⟨rfl,h',tk',m',_,rfl,F2,N2,ha,rfl,J2⟩
  · rintro h' tk' m' news' F2 N2 _ ⟨rfl,J2⟩
    exact hQ h' tk' m' F2 N2 J2
theorem unpL {elts : List PySem.Expr} {k : Nat} {pos : Pos} {l : Addr} {items : Array Value} {L : Addr} {Q : Unit → Shared → Prop} (F : Fr h₀ L h m) (N : News h₀ L h news) (hh : A.handled = none) (hl : h.IsList l items) (hn : (assignEach elts env).length = items.size) (hstar : (assignEach elts env).findIdx? (·.1) = none)
    (hq : ∀ h' t',Fr h₀ L h' m → News h₀ L h' news → wpAny (model prog w) A (assignInOrder ((assignEach elts env).map (·.2)) items.toList) Q E ⟨h',g,d,t',os⟩) : wpAny (model prog w) A (assign (.Tuple elts k pos) env (.ref l)) Q E ⟨h,g,d,tk,os⟩ :=
  kun_list (s :=⟨h,g,d,tk,os⟩) F N hl hh hn hstar fun h' F' N'=>hq h' _ F' N'
end
end
noncomputable abbrev duE (L' : Addr) : Env :=envX (ofString "_law_due") (fS (tp 29)) L' 497 (.ref 496) []
noncomputable abbrev duB (lp dl : Addr) (y : Str) (ty : Tok) (lv : Value) (tm wd sk : Int) (t1 t2 t3 : Tok) : Str → Option Value :=fun z=>List.lookup z [(ofString "device", .ref dl),(ofString "last",lv),(ofString "skew", .int sk t3),(ofString "window", .int wd t2),(ofString "moment", .int tm t1),(ofString "shown", .str y ty),(ofString "pads", .ref lp)]
noncomputable abbrev duU (lp dl : Addr) (y : Str) (ty : Tok) (lv : Value) (tm wd sk : Int) (t1 t2 t3 : Tok) (d n : Nat) (p : Int) (ud up un : Tok) : Str → Option Value :=fun z=>if z = ofString "size" then some (.int (n : Int) un) else if z = ofString "period" then some (.int p up) else if z = ofString "digits" then some (.int (d : Int) ud) else duB lp dl y ty lv tm wd sk t1 t2 t3 z
noncomputable abbrev duM (lp dl : Addr) (y : Str) (ty : Tok) (lv : Value) (tm wd sk : Int) (t1 t2 t3 : Tok) (d n : Nat) (p : Int) (ud up un : Tok) (f0 : Int) (tf : Tok) : Str → Option Value :=fun z=>if z = ofString "first" then some (.int f0 tf) else duU lp dl y ty lv tm wd sk t1 t2 t3 d n p ud up un z
noncomputable abbrev duC (b : MP) (v : Option Value) : Str → Option Value :=fun z=>if z = ofString "counter" then v else b z
theorem duC_next {h₀ h : Heap} {L : Addr} {b : MP} {v u : Option Value} (F : Fr h₀ L h fun z=>if z = ofString "counter" then u else duC b v z) : Fr h₀ L h (duC b u) :=by
  have e : (fun z=>if z = ofString "counter" then u else duC b v z) = duC b u :=by
    funext z
    unfold duC
    by_cases q : z = ofString "counter"
    · rw [if_pos q,if_pos q]
    · rw [if_neg q,if_neg q,if_neg q]
  rw [e] at F
  exact F
theorem range_size {a b : Int} {k : Nat} (h : (b - a).toNat = k) : Builtin.Range.rangeSize a b 1 = (k : Int) :=by
  unfold Builtin.Range.rangeSize
  rw [if_pos (by decide)]
  by_cases q : a < b
  · rw [if_pos q,Int.ediv_one];exact Om.k1 h q
  · rw [if_neg q];exact Om.k2 h q
section
variable {w : World} {A : Around} {D : SD} {hp h₀ : Heap} {gs : Array GenState} {dr : Drawn} {tk : Nat} {os : OsState} {L : Addr} {m : MP} {news : Led} {Q E : VP}
theorem due_rest (p0 p1 : Array UInt8) (u0 u1 : Tok) (lp dl : Addr) (ne nd : Nat) (d n : Nat) (p : Int) (ud up un : Tok) (y : Str) (ty : Tok) (hn : n = 20 ∨ n = 32) (hd6 : 6 ≤ d ∧ d ≤ 10) (ho : p0.size < 2 ^ 10) (ho1 : p1.size < 2 ^ 10) (hp1 : 1 ≤ p) (hp2 : p ≤ 61)
   (lv : Value) (tm wd sk l f0 : Int) (t1 t2 t3 tf : Tok) (hl : (lv = .none ∧ l = -1) ∨ ∃ tl,lv = .int l tl) (he : mcT p tm wd sk ≤ 2 ^ 60) (he0 : -(2 ^ 60) ≤ mcT p tm wd sk) (hf0 : f0 ≤ 2 ^ 60)
   {g : Heap} {L' : Addr} {A1 : Around} {D1 : SD} {Q1 : FP} {E1 : VP} {mean : ExcName → Option Value} {mg mb : MP} (T1 : Top topProg lt mean mg mb g)
   (S1 : Site w A1 D1 g L') (R1 : Room A1 4) (X1 : Frag.In (K w.params) g) (F1 : Fr g L' hp (duM lp dl y ty lv tm wd sk t1 t2 t3 d n p ud up un f0 tf)) (N1 : News g L' hp news) (hP : (lp,(⟨.type "list",none, .seq #[.bytes p0 u0, .bytes p1 u1] ne, #[]⟩ : Obj)) ∈ news)
   (hmiss : ∀ (x : Addr) (u : Tok) (h' : Heap) (tk' : Nat) (m' : MP),firstM (fun c=>tokB p0 p1 c d n) y (mcT p tm wd sk - max f0 0).toNat (max f0 0) = none → Fr g L' h' m' → News g L' h' ((x,W.listOf #[.str (ofString "no such token") u] 0) :: news) → Q1 (.ret (.ref x)) ⟨h',gs,dr,tk',os⟩)
   (hused : ∀ (x : Addr) (u v : Tok) (h' : Heap) (tk' : Nat) (m' : MP) (nw : Led),firstM (fun c=>tokB p0 p1 c d n) y (mcT p tm wd sk - max f0 0).toNat (max f0 0) = some l → Fr g L' h' m' → News g L' h' ((x,W.listOf #[.str (ofString "used") u, .int ((l + 1) * p) v] 0) :: nw) → (∀ q ∈ news,q ∈ nw) → Q1 (.ret (.ref x)) ⟨h',gs,dr,tk',os⟩)
   (hfound : ∀ (c : Int) (x : Addr) (u0 u1 u2 u3 u4 u5 u6 u7 : Tok) (h' : Heap) (tk' : Nat) (m' : MP) (nw : Led),firstM (fun c=>tokB p0 p1 c d n) y (mcT p tm wd sk - max f0 0).toNat (max f0 0) = some c → c ≠ l → Fr g L' h' m' → News g L' h' ((x,dueO c tm wd p u0 u1 u2 u3 u4 u5 u6 u7) :: nw) → (∀ q ∈ news,q ∈ nw) → Q1 (.ret (.ref x)) ⟨h',gs,dr,tk',os⟩) :
      wpAny (model pw w) A1 (execs ((bodyS (tp 29)).drop 3) (duE L')) Q1 E1 ⟨hp,gs,dr,tk,os⟩ :=by
  have hne : p ≠ 0 :=Om.i14 ‹_›
  k_extra "s16"
  refine wpAny_noRaise (For_turns (s :=⟨_,_,_,_,_⟩) F1 ?_ (fun _=>rfl) PassesOwn.never)
  k_extra "s17"
  obtain ⟨k,hk⟩ : ∃ k,(mcT p tm wd sk - max f0 0).toNat = k :=⟨_,rfl⟩
  rw [hk] at hmiss hused hfound
  have hb0 : (duM lp dl y ty lv tm wd sk t1 t2 t3 d n p ud up un f0 tf) = duC (duM lp dl y ty lv tm wd sk t1 t2 t3 d n p ud up un f0 tf) none :=by
    funext z
    by_cases q : z = ofString "counter"
    · subst q;rfl
    · exact (if_neg q).symm
  have hkle : (k : Int) = max (mcT p tm wd sk - max f0 0) 0 :=(congrArg (fun z : Nat=>(z : Int)) hk).symm.trans (Int.ofNat_toNat _)
  refine iter_range (k :=k) (fun i m₁=>firstM (fun c=>tokB p0 p1 c d n) y k (max f0 0) = firstM (fun c=>tokB p0 p1 c d n) y (k - i) (max f0 0 + i) ∧ ∃ v,m₁ = duC (duM lp dl y ty lv tm wd sk t1 t2 t3 d n p ud up un f0 tf) v) (Room.h R1) ‹_› ‹_› ‹_› (small_one (by omega) (by omega) (by unfold mcT at *;exact Om.i5 ‹_› (by kernel_rfl!)) (by unfold mcT at *;exact Om.i3 ‹_› (by kernel_rfl!))) (range_size hk) ⟨by simp,none,hb0⟩ ?_ ?_
  · rintro i m₁ h₁ tk₁ own t' hi ⟨hf,v,rfl⟩ F2' N2'
    have F2 : Fr g L' h₁ _ :=F2'
    have N2 : News g L' h₁ (own ++ news) :=N2'
    clear F2' N2'
    replace hP :=List.mem_append_right own hP
    (show wpAny _ _ (assign (PySem.Expr.Name _ _) (duE L') _) _ _ _)
    have hc0 : 0 ≤ max f0 0 + (i : Int) :=Om.i11 (Int.le_max_right _ _)
    have hc60 : max f0 0 + (i : Int) < 2 ^ 60 :=Om.k3 he hk hi
    obtain ⟨j,hj⟩ : ∃ j,k - i = j + 1 :=⟨k - i - 1,(Nat.sub_add_cancel (Nat.sub_pos_of_lt hi)).symm⟩
    rw [hj] at hf
    have hmul : IntMulOk (max f0 0 + (i : Int) + 1) p :=mulOkB 8 1 (Om.p3 hc0 hc60) (by exact Om.t7 ‹_› ‹_› (by kernel_rfl!)) (by decide)
    by_cases hm : tokB p0 p1 (max f0 0 + i) d n = y
    · have hff : firstM (fun c=>tokB p0 p1 c d n) y (j + 1) (max f0 0 + i) = some (max f0 0 + i) :=if_pos hm.symm
      rw [hff] at hf
      have hmb : (tokB p0 p1 (max f0 0 + i) d n == y) = true :=beq_iff_eq.mpr hm
      rcases hl with ⟨rfl,rfl⟩ | ⟨tl,rfl⟩
      · k_extra "go"
        exact hfound _ _ _ _ _ _ _ _ _ _ _ _ _ _ hf (by omega) ‹_› ‹_› (fun q hq=>List.mem_append_right _ hq)
      · by_cases hcl : max f0 0 + (i : Int) = l
        · k_extra "go"
          subst hcl
          exact hused _ _ _ _ _ _ _ hf ‹_› ‹_› (fun q hq=>List.mem_append_right _ hq)
        · k_extra "go"
          exact hfound _ _ _ _ _ _ _ _ _ _ _ _ _ _ hf hcl ‹_› ‹_› (fun q hq=>List.mem_append_right _ hq)
    · have hff : firstM (fun c=>tokB p0 p1 c d n) y (j + 1) (max f0 0 + i) = firstM (fun c=>tokB p0 p1 c d n) y j (max f0 0 + i + 1) :=if_neg fun q=>hm q.symm
      rw [hff] at hf
      have hmb : (tokB p0 p1 (max f0 0 + i) d n == y) = false :=beq_eq_false_iff_ne.mpr hm
      k_extra "go"
      have hj2 : k - (i + 1) = j :=by rw [Nat.sub_add_eq,hj];rfl
      have hi2 : max f0 0 + ((i + 1 : Nat) : Int) = max f0 0 + (i : Int) + 1 :=(Int.add_assoc (max f0 0) (i : Int) 1).symm
      exact ⟨_,_,_,rfl,duC_next ‹_›, ‹_›,by rw [hj2,hi2];exact hf,_,rfl⟩
  · rintro h' tk' m' F2' N2' ⟨hf,v,rfl⟩
    have F2 : Fr g L' h' _ :=F2'
    have N2 : News g L' h' news :=N2'
    clear F2' N2'
    rw [Nat.sub_self] at hf
    k_extra "go"
    exact hmiss _ _ _ _ _ hf ‹_› ‹_›
theorem duM_two {h₀ h : Heap} {L lp dl : Addr} {y : PySem.Str} {ty : Tok} {lv : Value} {tm wd sk : Int} {t1 t2 t3 : Tok} {d n : Nat} {p : Int} {ud up un : Tok} {f0 f1 : Int} {tf tg : Tok} (F : Fr h₀ L h fun z=>if z = ofString "first" then some (.int f1 tg) else duM lp dl y ty lv tm wd sk t1 t2 t3 d n p ud up un f0 tf z) : Fr h₀ L h (duM lp dl y ty lv tm wd sk t1 t2 t3 d n p ud up un f1 tg) :=by
  have e : (fun z=>if z = ofString "first" then some (.int f1 tg) else duM lp dl y ty lv tm wd sk t1 t2 t3 d n p ud up un f0 tf z) = duM lp dl y ty lv tm wd sk t1 t2 t3 d n p ud up un f1 tg :=by
    funext z
    unfold duM
    by_cases q : z = ofString "first"
    · rw [if_pos q,if_pos q]
    · rw [if_neg q,if_neg q,if_neg q]
  rw [e] at F
  exact F
theorem due_spec (p0 p1 : Array UInt8) (u0 u1 : Tok) (lp dl : Addr) (ne nd : Nat) (d n : Nat) (p : Int) (ud up un : Tok) (y : Str) (ty : Tok) (hn : n = 20 ∨ n = 32) (hd6 : 6 ≤ d ∧ d ≤ 10) (ho : p0.size < 2 ^ 10) (ho1 : p1.size < 2 ^ 10) (hp1 : 1 ≤ p) (hp2 : p ≤ 61)
   (hP : (lp,(⟨.type "list",none, .seq #[.bytes p0 u0, .bytes p1 u1] ne, #[]⟩ : Obj)) ∈ news) (hDl : (dl,(⟨.type "list",none, .seq #[.int (d : Int) ud, .int p up, .int (n : Int) un] nd, #[]⟩ : Obj)) ∈ news)
   (lv : Value) (tm wd sk l : Int) (t1 t2 t3 : Tok) (hl : (lv = .none ∧ l = -1) ∨ ∃ tl,lv = .int l tl) (he : mcT p tm wd sk ≤ 2 ^ 60) (he0 : -(2 ^ 60) ≤ mcT p tm wd sk) (hf1 : Int.fdiv (tm + sk - wd) p ≤ 2 ^ 60) (hl60 : l ≤ 2 ^ 60)
   (hS : Site w A D h₀ L) (hR : Room A 5) (hF : Fr h₀ L hp m) (hN : News h₀ L hp news)
   (hmiss : ∀ (x : Addr) (u : Tok) (h' : Heap) (tk' : Nat),firstM (fun c=>tokB p0 p1 c d n) y (mcT p tm wd sk - mcS p tm wd sk l).toNat (mcS p tm wd sk l) = none → Fr h₀ L h' m → News h₀ L h' ((x,W.listOf #[.str (ofString "no such token") u] 0) :: news) → Q (.ref x) ⟨h',gs,dr,tk',os⟩)
   (hused : ∀ (x : Addr) (u v : Tok) (h' : Heap) (tk' : Nat),firstM (fun c=>tokB p0 p1 c d n) y (mcT p tm wd sk - mcS p tm wd sk l).toNat (mcS p tm wd sk l) = some l → Fr h₀ L h' m → News h₀ L h' ((x,W.listOf #[.str (ofString "used") u, .int ((l + 1) * p) v] 0) :: news) → Q (.ref x) ⟨h',gs,dr,tk',os⟩)
   (hfound : ∀ (c : Int) (x : Addr) (u0 u1 u2 u3 u4 u5 u6 u7 : Tok) (h' : Heap) (tk' : Nat),firstM (fun c=>tokB p0 p1 c d n) y (mcT p tm wd sk - mcS p tm wd sk l).toNat (mcS p tm wd sk l) = some c → c ≠ l → Fr h₀ L h' m → News h₀ L h' ((x,dueO c tm wd p u0 u1 u2 u3 u4 u5 u6 u7) :: news) → Q (.ref x) ⟨h',gs,dr,tk',os⟩) :
      wpAny (model pw w) A (call (.ref 497) [.ref lp, .str y ty, .int tm t1, .int wd t2, .int sk t3,lv, .ref dl]) Q E ⟨hp,gs,dr,tk,os⟩ :=by
  have hne : p ≠ 0 :=Om.i14 ‹_›
  refine wpAny_call ?_
  k_dflt k_extra "enter"
  have fin : ∀ (f0 : Int) (tf : Tok) (hp' : Heap) (tk' : Nat),max f0 0 = mcS p tm wd sk l → f0 ≤ 2 ^ 60 → Fr g L' hp' (duM lp dl y ty lv tm wd sk t1 t2 t3 d n p ud up un f0 tf) → News g L' hp' news → wpAny (model pw w) A1 (execs ((bodyS (tp 29)).drop 3) (duE L')) Q1 E1 ⟨hp',gs,dr,tk',os⟩ :=by
    intro f0 tf hp' tk' e1 e2 F N
    refine due_rest p0 p1 u0 u1 lp dl ne nd d n p ud up un y ty hn hd6 ho ho1 hp1 hp2 lv tm wd sk l f0 t1 t2 t3 tf hl he he0 e2 T1 S1 R1 X1 F N hP ?_ ?_ ?_
    · intro x u h' tk' m' e3 a b
      rw [e1] at e3
      exact hQ1 _ _ _ _ a b (fun F0 N0=>hmiss _ _ _ _ e3 F0 N0)
    · intro x u v h' tk' m' nw e3 a b k
      rw [e1] at e3
      exact hQ1 _ _ _ _ a b (fun F0 N0=>hused _ _ _ _ _ e3 F0 (news_pick N0 (.head _) (fun q hq=>.tail _ (k q hq))))
    · intro c x u0 u1 u2 u3 u4 u5 u6 u7 h' tk' m' nw e3 e4 a b k
      rw [e1] at e3
      exact hQ1 _ _ _ _ a b (fun F0 N0=>hfound _ _ _ _ _ _ _ _ _ _ _ _ e3 e4 F0 (news_pick N0 (.head _) (fun q hq=>.tail _ (k q hq))))
  clear hmiss hused hfound
  rcases hl with ⟨rfl,rfl⟩ | ⟨tl,rfl⟩
  · k_extra "s18"
    exact fin _ _ _ _ (by unfold mcS;rw [Int.max_comm (-1),Int.max_assoc];rfl) hf1 ‹_› ‹_›
  · by_cases hgt : l > Int.fdiv (tm + sk - wd) p
    · have hgb : decide (l > Int.fdiv (tm + sk - wd) p) = true :=decide_eq_true hgt
      k_extra "s18"
      exact fin _ _ _ _ (by unfold mcS;rw [Int.max_eq_left (Int.le_of_lt hgt)]) hl60 (duM_two ‹_›) ‹_›
    · have hgb : decide (l > Int.fdiv (tm + sk - wd) p) = false :=decide_eq_false hgt
      k_extra "s18"
      exact fin _ _ _ _ (by unfold mcS;rw [Int.max_eq_right (Int.not_lt.mp hgt)]) hf1 ‹_› ‹_›
end
section
variable {w : World} {news : Led} {dv dd tr lf : Addr} {H : Array UInt8 → Array UInt8} {ky : Array UInt8} {n bk d : Nat} {p : Int}
theorem normC_of (hD : DevIs w news dv dd tr lf H ky n bk d p) (v : Value) (x : Str) (hU : UniC w v x) (hI : IsiC w v false) (hz : x.cps.size ≤ 1000) (hdig : Txt.isdigit (cleaned x) = true) (hlen : (cleaned x).cps.size = d) : NormC w dv news v (cleaned x) :=
  fun _ _ _ _ _ _ _ _ _ _ _ _ _ S R F N k hret=>norm_ok (hD.mono k) v x hU hI hz hdig hlen S R F N fun h' tk' u F N=>hret u h' tk' F N
theorem normC_int (hD : DevIs w news dv dd tr lf H ky n bk d p) (v : Int) (t : Tok) (hd10 : d ≤ 10) (hv : 0 ≤ v) (hl : v.natAbs.log2 < 1920) (hlen : (padS (d : Int) v).cps.size = d) : NormC w dv news (.int v t) (padS (d : Int) v) :=
  fun _ _ _ _ _ _ _ _ _ _ _ _ _ S R F N k hret=>norm_int (hD.mono k) v t hd10 hv hl hlen S R F N fun h' tk' u F N=>hret u h' tk' F N
theorem normX_nd (hD : DevIs w news dv dd tr lf H ky n bk d p) (v : Value) (x : Str) (hU : UniC w v x) (hI : IsiC w v false) (hz : x.cps.size ≤ 1000) (hdig : Txt.isdigit (cleaned x) = false) : NormX w dv news v (.ref 54) :=
  fun _ _ _ _ _ _ _ _ _ _ _ _ _ S R F N k hexc=>norm_nd (hD.mono k) v x hU hI hz hdig S (R.le (by decide)) F N hexc
theorem normX_len (hD : DevIs w news dv dd tr lf H ky n bk d p) (v : Value) (x : Str) (hU : UniC w v x) (hI : IsiC w v false) (hz : x.cps.size ≤ 1000) (hdig : Txt.isdigit (cleaned x) = true) (hne : ((cleaned x).cps.size : Int) ≠ d) (hd10 : d ≤ 10) : NormX w dv news v (.ref 54) :=
  fun _ _ _ _ _ _ _ _ _ _ _ _ _ S R F N k hexc=>norm_len (hD.mono k) v x hU hI hz hdig rfl hne hd10 S (R.le (by decide)) F N hexc
theorem normX_int (hD : DevIs w news dv dd tr lf H ky n bk d p) (v : Int) (t : Tok) (hd10 : d ≤ 10) (hv : 0 ≤ v) (hl : v.natAbs.log2 < 1920) (hne : ((padS (d : Int) v).cps.size : Int) ≠ d) (hsz : (padS (d : Int) v).cps.size ≤ 1000) : NormX w dv news (.int v t) (.ref 54) :=
  fun _ _ _ _ _ _ _ _ _ _ _ _ _ S R F N k hexc=>norm_int_bad (hD.mono k) v t hd10 hv hl rfl hne hsz S (R.le (by decide)) F N hexc
theorem normX_none (hD : DevIs w news dv dd tr lf H ky n bk d p) : NormX w dv news .none (.type "TypeError") :=
  fun _ _ _ _ _ _ _ _ _ _ _ _ _ S R F N k hexc=>norm_none (hD.mono k) S R F N hexc
end
section
open PySem.Calls PySem.Builtin PySem.Builtin.Str PySem.NumText
theorem slice_neg {x : PySem.Str} {d : Nat} (h0 : 0 < d) (h1 : d ≤ x.length) : Txt.slice x (some (-(d : Int))) none = Txt.slice x (some ((x.length : Int) - d)) none :=by
  have e : strSliceIndices (some (-(d : Int))) none 1 x.length = strSliceIndices (some ((x.length : Int) - d)) none 1 x.length :=by
    unfold strSliceIndices
    simp only [show (1 : Int) > 0 by decide,if_true]
    rw [if_pos (by omega),if_neg (by exact Om.j30 ‹_›)]
    congr 1
    exact congrArg (fun z : Int=>max 0 (min z _)) (Int.add_comm _ _)
  unfold Txt.slice
  rw [e]
theorem slice_last {l : List Nat} {d : Nat} (h0 : 0 < d) (h1 : d ≤ l.length) : Txt.slice ⟨l.toArray⟩ (some (-(d : Int))) none = ⟨(l.drop (l.length - d)).toArray⟩ :=by
  have e : (⟨l.toArray⟩ : Str).length = l.length :=List.size_toArray
  rw [slice_neg h0 (by rw [e];exact h1),slice_from_eq (b :=(l.length : Int)) (by rw [e];exact Om.j29 ‹_›) (by rw [e];exact Int.sub_le_self _ (Int.natCast_nonneg d)) (by rw [e]),e]
  have e2 : ((l.length : Int) - (d : Int)).toNat = l.length - d :=Int.toNat_sub _ _
  rw [e2]
  show (⟨((l.drop (l.length - d)).take _).toArray⟩ : Str) = _
  rw [List.take_of_length_le]
  rw [List.length_drop]
  rw [Nat.sub_sub_self h1,Int.sub_sub_self];exact Nat.le_refl _
theorem slice_one {l : List Nat} (h1 : 1 ≤ l.length) : Txt.slice ⟨l.toArray⟩ (some 1) none = ⟨(l.drop 1).toArray⟩ :=by
  have e : (⟨l.toArray⟩ : Str).length = l.length :=List.size_toArray
  rw [slice_from_eq (b :=(l.length : Int)) (by decide) (by rw [e];exact Om.c14 ‹_›) (by rw [e])]
  show (⟨((l.drop 1).take _).toArray⟩ : Str) = _
  rw [List.take_of_length_le]
  rw [List.length_drop]
  exact Nat.le_of_eq (Int.toNat_sub _ 1).symm
theorem genS_eq (g : Array UInt8) {d n : Nat} (hd : 0 < d) : genS g d n = ⟨(fixD d (genV g n).toNat).toArray⟩ :=by
  obtain ⟨m,hm⟩ :=Int.eq_ofNat_of_zero_le (genV_range g n).1
  delta genS padS
  rw [hm,padL_eq,slice_last hd (by rw [fixD_len];exact Nat.le_max_left _ _),fixD_len,Int.toNat_natCast]
  congr 2
  have e : max d (dgs m).length = (max d (dgs m).length - d) + d :=(Nat.sub_add_cancel (Nat.le_max_left _ _)).symm
  rw [e,fixD_add]
  rw [Nat.add_sub_cancel]
  rw [List.drop_append_of_le_length (by rw [fixD_len];exact Nat.le_refl _),List.drop_of_length_le (by rw [fixD_len];exact Nat.le_refl _)]
  rfl
theorem tokS_eq {x : Int} {d : Nat} (hx : 0 ≤ x) (hd : d ≤ 10) : tokS x d = ⟨(fixD d x.toNat).toArray⟩ :=by
  obtain ⟨m,rfl⟩ :=Int.eq_ofNat_of_zero_le hx
  have hpos : 0 < 10 ^ d :=Nat.pow_pos (by decide)
  have e1 : tokI (m : Int) d = ((10 ^ d + m % 10 ^ d : Nat) : Int) :=by
    unfold tokI
    rw [Int.fmod_eq_emod_of_nonneg _ (by exact Om.c1)]
    push_cast
    rfl
  have hN : 10 ^ d + m % 10 ^ d < 10 ^ (d + 1) :=by
    have :=Nat.mod_lt m hpos
    rw [Nat.pow_succ]
    omega
  have e2 : (ofString (toString (tokI (m : Int) d))).cps.toList = dgs (10 ^ d + m % 10 ^ d) :=by rw [e1];exact KIN.signs_num _
  have hlt : 10 ^ d + m % 10 ^ d < 10 ^ (dgs (10 ^ d + m % 10 ^ d)).length :=by have :=digitsVal_lt _ (dgs_all (10 ^ d + m % 10 ^ d));rwa [dgs_val] at this
  have hlo : d + 1 ≤ (dgs (10 ^ d + m % 10 ^ d)).length :=by
    rcases Nat.lt_or_ge d (dgs (10 ^ d + m % 10 ^ d)).length with h | h
    · exact h
    · have :=Nat.pow_le_pow_right (n :=10) (by decide) h
      omega
  have hhi : (dgs (10 ^ d + m % 10 ^ d)).length ≤ d + 1 :=by
    have l :=toString_length_le (v :=((10 ^ d + m % 10 ^ d : Nat) : Int)) (k :=d + 1) (by exact Om.c1) (by lia) (by rw [show ((10 : Int) ^ (d + 1)) = ((10 ^ (d + 1) : Nat) : Int) by push_cast;rfl];exact Om.c6 ‹_›)
    have e3 : (ofString (toString ((10 ^ d + m % 10 ^ d : Nat) : Int))).length = (dgs (10 ^ d + m % 10 ^ d)).length :=by
      show (ofString _).cps.size = _
      rw [← Array.length_toList,KIN.signs_num]
    rw [e3] at l
    exact l
  have hlen : (dgs (10 ^ d + m % 10 ^ d)).length = d + 1 :=Nat.le_antisymm hhi hlo
  have ex : ofString (toString (tokI (m : Int) d)) = ⟨(dgs (10 ^ d + m % 10 ^ d)).toArray⟩ :=by
    rw [← e2]
  unfold tokS
  rw [ex,slice_one (by exact Om.n10 ‹_› (by kernel_rfl!)),dgs_fix,hlen,Nat.add_comm d 1,fixD_add,Int.toNat_natCast]
  congr 2
  rw [List.drop_append_of_le_length (by rw [fixD_len];exact Nat.le_refl _),List.drop_of_length_le (by rw [fixD_len];exact Nat.le_refl _)]
  rw [← fixD_mod d (10 ^ d + m % 10 ^ d),Nat.add_mod_left,Nat.mod_mod,fixD_mod]
  rfl
end
section
open PySem.Calls PySem.Builtin PySem.Builtin.Str PySem.NumText
noncomputable def bN (b : Array UInt8) (i : Nat) : Nat :=(b.toList.getD i 0).toNat
theorem byteAt_nat (b : Array UInt8) (i : Nat) : byteAt b (i : Int) = (bN b i : Int) :=rfl
theorem bN_lt (b : Array UInt8) (i : Nat) : bN b i < 256 :=UInt8.toNat_lt _
theorem fmod_nat (a b : Nat) (hb : 0 < b) : Int.fmod (a : Int) (b : Int) = ((a % b : Nat) : Int) :=by
  rw [Int.fmod_eq_emod_of_nonneg _ (by exact Om.c1)]
  rfl
theorem genO_eq {g : Array UInt8} {n : Nat} (hn : 0 < n) : genO g n = ((bN g (n - 1) % 16 : Nat) : Int) :=by
  have e : (-1 + (n : Int)) = ((n - 1 : Nat) : Int) :=(Int.add_comm _ _).trans (Int.ofNat_sub hn).symm
  unfold genO
  rw [e,byteAt_nat]
  have h :=kbt_maskF ((bN g (n - 1) : Nat) : Int) 4
  rw [show ((2 : Int) ^ 4 - 1) = 15 by decide,show ((2 : Int) ^ 4) = ((16 : Nat) : Int) by decide,fmod_nat _ _ (by decide)] at h
  exact h
theorem placeB_eq {g : Array UInt8} {n : Nat} (hn : 0 < n) : placeB g n = ((bN g (n - 1) % 16 : Nat) : Int) :=by
  have e : ((n : Int) - 1) = ((n - 1 : Nat) : Int) :=(Int.ofNat_sub hn).symm
  unfold placeB
  rw [e,byteAt_nat]
  exact fmod_nat _ _ (by decide)
theorem gd {l : List UInt8} {i : Nat} (h : i < l.length) : l[i] = l.getD i 0 :=by rw [List.getD_eq_getElem?_getD,List.getElem?_eq_getElem h];rfl
theorem four {l : List UInt8} {o : Nat} (h : o + 4 ≤ l.length) : (l.drop o).take 4 = [l.getD o 0,l.getD (o + 1) 0,l.getD (o + 2) 0,l.getD (o + 3) 0] :=by
  have hl : ((l.drop o).take 4).length = 4 :=by rw [List.length_take,List.length_drop];exact Nat.min_eq_left (Nat.le_sub_of_add_le' h)
  apply List.ext_getElem
  · rw [hl];rfl
  · intro i h1 h2
    rw [List.getElem_take,List.getElem_drop]
    have hi : i < 4 :=by rw [hl] at h1;exact h1
    match i,hi with
    | 0,_=>exact gd (by exact Om.n40 ‹_›)
    | 1,_=>exact gd (by exact Om.n44 ‹_› (by kernel_rfl!))
    | 2,_=>exact gd (by exact Om.n41 ‹_›)
    | 3,_=>exact gd ‹_›
theorem natOf_picked {g : Array UInt8} {o : Nat} (h : o + 4 ≤ g.size) : natOf (KBy.picked g (some (o : Int)) (some ((o : Int) + 4))) = ((bN g o * 256 + bN g (o + 1)) * 256 + bN g (o + 2)) * 256 + bN g (o + 3) :=by
  rw [KBc.picked_eq]
  have e1 : clipAt g.size (o : Int) = o :=by unfold clipAt;(try dsimp only);(repeat' split) <;> first | exact Om.p1 (Nat.le_trans (Nat.le_add_right _ 4) h) | exact Om.p1 h | omega
  have e2 : clipAt g.size ((o : Int) + 4) = o + 4 :=by unfold clipAt;(try dsimp only);(repeat' split) <;> first | exact Om.p1 (Nat.le_trans (Nat.le_add_right _ 4) h) | exact Om.p1 h | omega
  show natOf ((g.toList.drop (clipAt g.size (o : Int))).take (clipAt g.size ((o : Int) + 4) - clipAt g.size (o : Int))).toArray = _
  rw [e1,e2,Nat.add_sub_cancel_left,four (by rw [Array.length_toList];exact h)]
  unfold natOf
  simp only [List.foldl_cons,List.foldl_nil,Nat.zero_mul,Nat.zero_add]
  rfl
theorem genV_eq {g : Array UInt8} {n : Nat} (hg : g.size = n) (hn : 20 ≤ n) : genV g n = num4 g (placeB g n) :=by
  have hp :=placeB_eq (g :=g) (n :=n) (by exact Om.n10 ‹_› (by kernel_rfl!))
  have ho :=genO_eq (g :=g) (n :=n) (by exact Om.n10 ‹_› (by kernel_rfl!))
  unfold genV
  rw [ho,hp]
  generalize hO : bN g (n - 1) % 16 = o
  have hol : o < 16 :=by rw [← hO];exact Nat.mod_lt _ (by decide)
  rw [natOf_picked (by rw [hg];omega)]
  have hm :=kbt_maskF (((((bN g o * 256 + bN g (o + 1)) * 256 + bN g (o + 2)) * 256 + bN g (o + 3) : Nat)) : Int) 31
  rw [show ((2 : Int) ^ 31 - 1) = 2147483647 by decide,show ((2 : Int) ^ 31) = ((2147483648 : Nat) : Int) by decide,fmod_nat _ _ (by decide)] at hm
  rw [hm]
  delta num4 num3 num2 num1
  have c1 : ((o : Nat) : Int) + 1 = ((o + 1 : Nat) : Int) :=rfl
  have c2 : ((o : Nat) : Int) + 2 = ((o + 2 : Nat) : Int) :=rfl
  have c3 : ((o : Nat) : Int) + 3 = ((o + 3 : Nat) : Int) :=rfl
  rw [c1,c2,c3,byteAt_nat,byteAt_nat,byteAt_nat,byteAt_nat,show ((bN g o : Nat) : Int).fmod 128 = ((bN g o % 128 : Nat) : Int) from fmod_nat _ _ (by decide)]
  have h0 :=bN_lt g o
  have h1 :=bN_lt g (o + 1)
  have h2 :=bN_lt g (o + 2)
  have h3 :=bN_lt g (o + 3)
  generalize bN g o = b0 at *
  generalize bN g (o + 1) = b1 at *
  generalize bN g (o + 2) = b2 at *
  generalize bN g (o + 3) = b3 at *
  omega
end
section
open PySem.Calls PySem.Builtin PySem.Builtin.Str PySem.NumText
theorem fdiv_nn {c : Int} (k : Int) (hk : 0 ≤ k) : Int.fdiv c k = c / k :=Int.fdiv_eq_ediv_of_nonneg _ hk
theorem octets_oct8 {c : Int} (h0 : 0 ≤ c) (h1 : c < 2 ^ 60) : octets c 8 = oct8 c :=by
  have hl :=KTBy.low_ints (x :=c) (n :=8) h0 (Int.lt_trans h1 (by decide))
  have hb : ∀ b : List UInt8,(b.map (fun c=>((c.toNat : Nat) : Int))).map (fun n=>n.toNat.toUInt8) = b :=by
    intro b
    induction b with
    | nil=>rfl
    | cons a b ih =>
      rw [List.map_cons,List.map_cons,ih,Int.toNat_natCast]
      congr 1
      exact UInt8.ofNat_toNat
  have e : k8.map (f8 c) = (((List.range 8).map fun i=>c / 256 ^ i % 256)).reverse :=by
    unfold k8 f8
    simp only [List.map_cons,List.map_nil,List.range,List.range.loop,List.reverse_cons,List.reverse_nil,List.nil_append,List.cons_append]
    simp only [fdiv_nn _ (show (0 : Int) ≤ 2 ^ (56 : Int).toNat by decide),fdiv_nn _ (show (0 : Int) ≤ 2 ^ (48 : Int).toNat by decide),fdiv_nn _ (show (0 : Int) ≤ 2 ^ (40 : Int).toNat by decide),fdiv_nn _ (show (0 : Int) ≤ 2 ^ (32 : Int).toNat by decide),fdiv_nn _ (show (0 : Int) ≤ 2 ^ (24 : Int).toNat by decide),fdiv_nn _ (show (0 : Int) ≤ 2 ^ (16 : Int).toNat by decide),fdiv_nn _ (show (0 : Int) ≤ 2 ^ (8 : Int).toNat by decide),fdiv_nn _ (show (0 : Int) ≤ 2 ^ (0 : Int).toNat by decide),Int.fmod_eq_emod_of_nonneg _ (show (0 : Int) ≤ 256 by decide)]
    rfl
  unfold octets
  rw [show oct8 c = byteArr (k8.map (f8 c)) from rfl,e, ← hl, ← List.map_reverse]
  unfold byteArr
  rw [hb]
theorem devT_tok {ky : Array UInt8} {n bk d : Nat} {c : Int} (hn : 20 ≤ n) (hd : 0 < d) (hd10 : d ≤ 10) (h0 : 0 ≤ c) (h1 : c < 2 ^ 60) : devT (fun o=>hashB o n) ky n bk d c = tokB (pad54 (fun o=>hashB o n) ky bk) (pad92 (fun o=>hashB o n) ky bk) c d n :=by
  unfold devT tokB
  rw [octets_oct8 h0 h1,genS_eq _ hd]
  show _ = tokS (num4 (codeB _ _ c n) _) d
  rw [tokS_eq (num4_range _ _).1 hd10]
  rw [genV_eq (hashB_size _ _) hn]
theorem devT_shape (H : Array UInt8 → Array UInt8) (ky : Array UInt8) (n bk : Nat) {d : Nat} (c : Int) (hd : 0 < d) : (devT H ky n bk d c).cps.all (· < 128) = true ∧ (devT H ky n bk d c).cps.size = d :=by
  unfold devT
  rw [genS_eq _ hd]
  refine ⟨?_,by rw [List.size_toArray,fixD_len]⟩
  rw [List.all_toArray,List.all_eq_true]
  intro x hx
  have :=fixD_all _ _ _ hx
  exact decide_eq_true (by exact Om.j8 ‹_› (by kernel_rfl!))
end
section
open PySem.Calls PySem.Builtin PySem.Builtin.Str PySem.NumText
noncomputable abbrev fixS (d m : Nat) : Str :=⟨(fixD d m).toArray⟩
theorem keep_digit : ∀ c < 58, 48 ≤ c → keepC c = true :=by decide +kernel
theorem uni_digit : ∀ c < 58, 48 ≤ c → Unicode.isDigit c = true :=by decide +kernel
theorem keep_blanks : keepC 32 = false ∧ keepC 9 = false ∧ keepC 10 = false ∧ keepC 13 = false ∧ keepC 12 = false ∧ keepC 31 = false ∧ keepC 160 = false ∧ keepC 8195 = false ∧ keepC 45 = false ∧ keepC 61 = false :=by decide +kernel
theorem filter_digits {l : List Nat} (h : AllDigits l) : l.filter keepC = l :=List.filter_eq_self.mpr fun c hc=>keep_digit c (by have :=h c hc;exact Om.j8 ‹_› (by kernel_rfl!)) (h c hc).1
theorem cleaned_list {x : PySem.Str} {l : List Nat} (h : x.cps.toList.filter keepC = l) : cleaned x = ⟨l.toArray⟩ :=by unfold cleaned;rw [h]
theorem cleaned_digits {l : List Nat} (h : AllDigits l) : cleaned ⟨l.toArray⟩ = ⟨l.toArray⟩ :=cleaned_list (filter_digits h)
theorem isdigit_digits {l : List Nat} (h : AllDigits l) (h0 : 0 < l.length) : Txt.isdigit ⟨l.toArray⟩ = true :=by
  unfold Txt.isdigit
  rw [Bool.and_eq_true]
  refine ⟨decide_eq_true (by show l.toArray.size > 0;rw [List.size_toArray];exact h0), ?_⟩
  rw [List.all_toArray,List.all_eq_true]
  exact fun c hc=>uni_digit c (by have :=h c hc;exact Om.j8 ‹_› (by kernel_rfl!)) (h c hc).1
theorem padS_fix {d m : Nat} (hd : 0 < d) : padS (d : Int) ((m % 10 ^ d : Nat) : Int) = fixS d m :=by
  unfold padS
  rw [padL_eq]
  have hlt : m % 10 ^ d < 10 ^ d :=Nat.mod_lt _ (Nat.pow_pos (by decide))
  have hl : (dgs (m % 10 ^ d)).length ≤ d :=by
    have l :=toString_length_le (v :=((m % 10 ^ d : Nat) : Int)) (k :=d) (by exact Om.c1) hd (by rw [show ((10 : Int) ^ d) = ((10 ^ d : Nat) : Int) by push_cast;rfl];exact Om.c6 ‹_›)
    have e3 : (ofString (toString ((m % 10 ^ d : Nat) : Int))).length = (dgs (m % 10 ^ d)).length :=by
      show (ofString _).cps.size = _
      rw [← Array.length_toList,KIN.signs_num]
    rw [e3] at l
    exact l
  rw [Nat.max_eq_left hl,fixD_mod]
theorem fix_turn (d m k : Nat) (hk : k < 10) : fixD d (m / 10) ++ [48 + k] = fixD (d + 1) (m / 10 * 10 + k) :=by
  have e1 : (m / 10 * 10 + k) / 10 = m / 10 :=Om.d1 hk
  have e2 : (m / 10 * 10 + k) % 10 = k :=Om.d2 hk
  rw [fixD,e1,e2]
theorem filter_shown {b : Nat} {l : List Nat} (hb : keepC b = false) (h : AllDigits l) : (b :: (l.take 3 ++ [32, 45, 32] ++ l.drop 3 ++ [61])).filter keepC = l :=by
  k_extra "G"
  obtain ⟨k1,_,_,_,_,_,_,_,k2,k3⟩ :=keep_blanks
  k_unfold
  have a1 : AllDigits (l.take 3) :=fun c hc=>h c (List.mem_of_mem_take hc)
  have a2 : AllDigits (l.drop 3) :=fun c hc=>h c (List.mem_of_mem_drop hc)
  rw [List.filter_cons_of_neg (by rw [hb];exact Bool.false_ne_true)]
  simp only [List.filter_append,filter_digits a1,filter_digits a2,List.filter_cons,k1,k2,k3,Bool.false_eq_true,if_false,List.filter_nil,List.append_nil]
  exact List.take_append_drop 3 l
theorem filter_dash {l : List Nat} (h : AllDigits l) : (l.take 4 ++ [45] ++ l.drop 4).filter keepC = l :=by
  k_extra "G"
  obtain ⟨k1,_,_,_,_,_,_,_,k2,k3⟩ :=keep_blanks
  k_unfold
  have a1 : AllDigits (l.take 4) :=fun c hc=>h c (List.mem_of_mem_take hc)
  have a2 : AllDigits (l.drop 4) :=fun c hc=>h c (List.mem_of_mem_drop hc)
  simp only [List.filter_append,filter_digits a1,filter_digits a2,List.filter_cons,k2,Bool.false_eq_true,if_false,List.filter_nil,List.append_nil]
  exact List.take_append_drop 4 l
end
section
open PySem.Calls PySem.NumText
noncomputable abbrev zeroS : Str :=ofString "0"
theorem zeros_ok {n : Int} (h : 0 ≤ n ∧ n ≤ 1000) : MulOk zeroS n :=by
  obtain ⟨h0,h1⟩ :=h
  refine ⟨by rw [decide_eq_false (by exact Om.i7 ‹_› (by kernel_rfl!)),decide_eq_false (by exact Om.i9 ‹_› (by kernel_rfl!))];rfl,fun hn _=>?_,fun hn _=>?_⟩
  · have hl : (zeroS.length : Int) = 1 :=by decide
    rw [hl]
    have : (1 : Int) ≤ (2 ^ 63 - 1) / n :=(Int.le_ediv_iff_mul_le (by exact Om.j17 ‹_› ‹_› ‹_›)).mpr (by omega)
    exact Int.not_lt.mpr ‹_›
  · have hl : zeroS.length = 1 :=by decide
    rw [hl,Nat.one_mul]
    have :=KPc.short (n :=n.toNat) (by exact Om.t5 ‹_› ‹_› (by kernel_rfl!))
    exact Bool.eq_false_iff.mpr this
theorem fold_zeros : ∀ (k : Nat) (a : List Nat),(List.replicate k (#[48] : Array Nat)).foldl (· ++ ·) a.toArray = (a ++ List.replicate k 48).toArray
  | 0,a=>by rw [List.replicate_zero,List.replicate_zero,List.append_nil];rfl
  | k + 1,a=>by
    rw [List.replicate_succ,List.foldl_cons,List.replicate_succ]
    have e : a.toArray ++ (#[48] : Array Nat) = (a ++ [48]).toArray :=by simp
    rw [e,fold_zeros k (a ++ [48]),List.append_assoc]
    rfl
theorem zeros_eq {n : Int} (h0 : 0 ≤ n) : Txt.mul zeroS n = ⟨(List.replicate n.toNat 48).toArray⟩ :=by
  have hc : zeroS.cps = #[48] :=by decide
  unfold Txt.mul
  by_cases h1 : n < 1
  · have e : n = 0 :=by lia
    subst e
    rfl
  · rw [if_neg h1]
    by_cases h2 : n = 1
    · subst h2
      rw [if_pos (by rfl)]
      exact congrArg PySem.Str.mk hc
    · have hb : (n == 1 || zeroS.length == 0) = false :=by
        rw [show (n == 1) = false from beq_eq_false_iff_ne.mpr h2]
        rfl
      rw [if_neg (by rw [hb];exact Bool.false_ne_true),hc]
      have :=fold_zeros n.toNat []
      exact congrArg PySem.Str.mk this
section
variable {prog : Program} {w : World} {A : Around} {E : VP} {h : Heap} {g : Array GenState} {d : Drawn} {t : Nat} {os : OsState} {Q : VP}
theorem mulZ {n : Int} {u v : Tok} (hn : 0 ≤ n ∧ n ≤ 1000) (hq : ∀ u t',Q (.str ⟨(List.replicate n.toNat 48).toArray⟩ u) ⟨h,g,d,t',os⟩) : wpAny (model prog w) A (binaryOp .Mult (.str (ofString "0") u) (.int n v)) Q E ⟨h,g,d,t,os⟩ :=
  SB.mul (zeros_ok hn) fun t' k=>by
    rw [zeros_eq hn.1]
    exact hq _ _
theorem mulZB {n : Int} {u v : Tok} (hn : 0 ≤ n ∧ n ≤ 1000) (hq : ∀ u t',Q (.bytes ((List.replicate n.toNat [(48 : UInt8)]).flatten).toArray u) ⟨h,g,d,t',os⟩) : wpAny (model prog w) A (binaryOp .Mult (.bytes #[48] u) (.int n v)) Q E ⟨h,g,d,t,os⟩ :=
  bytes_mul_any (b :=[48]) (by decide) (by exact Om.j15 ‹_› (by kernel_rfl!)) (by exact Om.j16 ‹_› (by kernel_rfl!)) (by decide) fun t' k=>hq _ _
theorem truthyB0 {u : Tok} {Q : Bool → Shared → Prop} (hq : ∀ t',Q false ⟨h,g,d,t',os⟩) : wpAny (model prog w) A (truthy (.bytes #[] u)) Q E ⟨h,g,d,t,os⟩ :=
  truthy_bytes (by decide) (hq _)
end
theorem zeros_all (k : Nat) : AllDigits (List.replicate k 48) :=fun c hc=>by rw [List.eq_of_mem_replicate hc];decide
end
section
open PySem.Calls
noncomputable def chain1 (kn : Str) (k : Int) : Stmt → Bool
  | .If (.Compare (.Name x _) [.Eq] [.Constant (.int j) _ _] _) _ [] _=>x == kn && j != k
  | _=>false
inductive ChIs (kn : Str) (k : Int) : Stmt → Prop
  | mk (px j kk cp pp body ip) (hj : j ≠ k) : ChIs kn k (.If (.Compare (.Name kn px) [.Eq] [.Constant (.int j) kk cp] pp) body [] ip)
theorem ff {P : Prop} (h : false = true) : P :=Bool.noConfusion h
theorem chain1_inv {kn : Str} {k : Int} {s : Stmt} (h : chain1 kn k s = true) : ChIs kn k s :=by
  cases s with
  | If t body o ip =>
    cases t with
    | Compare l ops rs pp =>
      cases l with
      | Name x px =>
        cases ops with
        | nil=>exact ff h
        | cons o1 r1 =>
          cases o1 with
          | Eq =>
            cases r1 with
            | cons _ _=>exact ff h
            | nil =>
              cases rs with
              | nil=>exact ff h
              | cons c r2 =>
                cases c with
                | Constant cc kk cp =>
                  cases cc with
                  | int j =>
                    cases r2 with
                    | cons _ _=>exact ff h
                    | nil =>
                      cases o with
                      | cons _ _=>exact ff h
                      | nil =>
                        have h' : (x == kn && j != k) = true :=h
                        rw [Bool.and_eq_true] at h'
                        obtain rfl :=beq_iff_eq.mp h'.1
                        exact .mk px j kk cp pp body ip (bne_iff_ne.mp h'.2)
                  | _=>exact ff h
                | _=>exact ff h
          | _=>exact ff h
      | _=>exact ff h
    | _=>exact ff h
  | _=>exact ff h
noncomputable def chainOk (kn : Str) (k : Int) : Nat → List Stmt → Bool
  | 0,_=>true
  | n + 1,s :: r=>chain1 kn k s && chainOk kn k n r
  | _ + 1, []=>false
section
variable {prog : Program} {w : World} {A : Around} {E : VP} {h h₀ : Heap} {g : Array GenState} {d : Drawn} {os : OsState} {m : MP} {env : Env} {Q : FP} {kn : Str} {k : Int} {t : Tok}
theorem chain_skip (F : Fr h₀ env.locals h m) (hm : m kn = some (.int k t)) (hk : env.scope.kind = .function) (hl : env.kindOf kn = some .local) (hd : (kn == ("__debug__" : Str)) = false) :
    ∀ (n : Nat) (stmts : List Stmt) (tk : Nat),chainOk kn k n stmts = true → (∀ tk',wpAny (model prog w) A (execs (stmts.drop n) env) Q E ⟨h,g,d,tk',os⟩) → wpAny (model prog w) A (execs stmts env) Q E ⟨h,g,d,tk,os⟩
  | 0,stmts,tk,_,hq=>hq tk
  | n + 1, [],tk,hc,_=>by cases hc
  | n + 1,s :: r,tk,hc,hq=>by
    rw [chainOk,Bool.and_eq_true] at hc
    obtain ⟨h1,h2⟩ :=hc
    have key : ∀ tk,wpAny (model prog w) A (exec s env) (fun f s'=>f = .next ∧ ∃ tk',s' = ⟨h,g,d,tk',os⟩) E ⟨h,g,d,tk,os⟩ :=by
      intro tk
      obtain ⟨px,j,kk,cp,pp,body,ip,hj⟩ :=chain1_inv h1
      refine wpAny_If (wpAny_isTrue_Compare1 ?_ (by rfl))
      refine wpAny_Name (wpAny_loadName_local hk hl F.ns hm ?_) hd
      refine cI ?_
      intro u t'
      refine eqF (Ne.symm hj) ?_
      intro t2
      refine wpAny_truthy_bool ?_
      rw [if_neg Bool.false_ne_true]
      exact wpAny_execs_nil ⟨rfl,_,rfl⟩
    refine wpAny_execs_cons (wpAny_mono (key tk) (fun f s' hf=>?_) fun _ _ z=>z)
    obtain ⟨rfl,tk',rfl⟩ :=hf
    exact chain_skip F hm hk hl hd n r tk' h2 hq
end
end
noncomputable abbrev anE (L' : Addr) : Env :=envX (ofString "_law_answer") (fS (tp 32)) L' 516 (.ref 515) []
theorem en_answer {w : World} {A : Around} {D : SD} {hp h₀ : Heap} {gs : Array GenState} {dr : Drawn} {t : Nat} {os : OsState} {L : Addr} {m : MP} {news : Led} {k : Nat} {R : Result → Shared → Prop} {v1 v2 v3 v4 : Value}
    (S : Site w A D h₀ L) (hD : D.outer = []) (F : Fr h₀ L hp m) (N : News h₀ L hp news) (r : Room A (k + 1))
    (hb : ∀ A1 D1 g L' h₁ tk Q1 E1,A1 = A.deeper (anE L') → D1 = ⟨A,D.base,anE L',D.env :: D.outer⟩ → (∃ mean mg mb,Top topProg lt mean mg mb g) → Site w A1 D1 g L' → Room A1 k → Frag.In (K w.params) g → Fr h₀ L g m → Fr g L' h₁ (fun y=>List.lookup y [(ofString "far",v4),(ofString "row",v3),(ofString "device",v2),(ofString "kind",v1)]) → News g L' h₁ news → (∀ p ∈ news,p.1 < L') →
      (∀ v s' g' m' news',KtsTurn [L] g g' → Fr g' L' s'.heap m' → News g' L' s'.heap news' → (Fr h₀ L s'.heap m → News h₀ L s'.heap news' → R (.ok (.ret v)) s') → Q1 (.ret v) s') →
      wpAny (model pw w) A1 (execs (bodyS (tp 32)) (anE L')) Q1 E1 ⟨h₁,gs,dr,tk,os⟩) :
    codeAny (model pw w) A (.call (.ref 516) ⟨[v1,v2,v3,v4], []⟩) R ⟨hp,gs,dr,t,os⟩ :=
  enterT (binds :=[(ofString "kind",v1),(ofString "device",v2),(ofString "row",v3),(ofString "far",v4)]) S hD F N r (show _ = some _ from old_of F S 516 ⟨.type "function",none, .func (fnX (ofString "_law_answer") (ofString "_law_answer") (fP (tp 32)) (bodyS (tp 32)) (fS (tp 32)) [] .none .none .none (.str (ofString "law_iw0012_01") 2889) none (.ref 515) .none), [].toArray⟩ (by kernel_rfl)) (codeRec_of (old_of F S) (by kernel_rfl)) (BindsTo.of_eq (by kernel_rfl)) (locs (by kernel_rfl)) hb (by kernel_rfl) (by kernel_rfl) (by kernel_rfl) (by decide +kernel)
theorem knV (P : Params) : KtsName (K P) (ofString "ValueError") (.type "ValueError") :=.inr ⟨by kernel_rfl,PyProof.Rows.Boot.«ValueError»,by decide⟩
theorem knT (P : Params) : KtsName (K P) (ofString "TypeError") (.type "TypeError") :=.inr ⟨by kernel_rfl,PyProof.Rows.Boot.«TypeError»,by decide⟩
theorem knR (P : Params) : KtsName (K P) (ofString "RuntimeError") (.type "RuntimeError") :=.inr ⟨by kernel_rfl,PyProof.Rows.Boot.«RuntimeError»,by decide⟩
theorem knA (P : Params) : KtsName (K P) (ofString "AssertionError") (.type "AssertionError") :=.inr ⟨by kernel_rfl,PyProof.Rows.Boot.«AssertionError»,by decide⟩
noncomputable def WrongC (w : World) (k : Int) (dv rw : Addr) (far : Int) (cls : Value) (news : Led) (Rl : List (Addr × Obj) → List (Addr × Obj) → Prop) : Prop :=
  ∀ (A : Around) (D : SD) (hp h₀ : Heap) (gs : Array GenState) (dr : Drawn) (tk : Nat) (os : OsState) (L : Addr) (m : MP) (Q E : VP) (nw : Led) (t1 t2 : Tok),Site w A D h₀ L → Room A 20 → Fr h₀ L hp m → News h₀ L hp nw → (∀ p ∈ news,p ∈ nw) →
    (∀ (G : Heap) (e : Addr) (h' : Heap) (tk' : Nat) (news' : Led),Fr h₀ L G m → Fly D.base G (D.env :: D.outer) e cls none news' h' → Rl nw news' → E (.ref e) ⟨h',gs,dr,tk',os⟩) → wpAny (model pw w) A (call (.ref 509) [.int k t1, .ref dv, .ref rw, .int far t2]) Q E ⟨hp,gs,dr,tk,os⟩
section
variable {w : World} {A : Around} {D : SD} {hp h₀ : Heap} {gs : Array GenState} {dr : Drawn} {tk : Nat} {os : OsState} {L : Addr} {m : MP} {news : Led} {Q E : VP}
theorem answer_54 {k : Int} {dv rw : Addr} {far : Int} {Rl : List (Addr × Obj) → List (Addr × Obj) → Prop} (t1 t2 : Tok) (hW : WrongC w k dv rw far (.ref 54) news Rl)
   (hS : Site w A D h₀ L) (hDo : D.outer = []) (hR : Room A 21) (hF : Fr h₀ L hp m) (hN : News h₀ L hp news)
   (hret : ∀ (u : Tok) (h' : Heap) (tk' : Nat) (news' : Led),Fr h₀ L h' m → News h₀ L h' news' → Rl news news' → Q (.str (ofString "MalformedTokenError") u) ⟨h',gs,dr,tk',os⟩) :
      wpAny (model pw w) A (call (.ref 516) [.int k t1, .ref dv, .ref rw, .int far t2]) Q E ⟨hp,gs,dr,tk,os⟩ :=by
  k_extra "an"
  refine fly_hit fl2 F' S1.B XB TB (test_name (kn54 _) (by kernel_rfl) (by kernel_rfl) (by kernel_rfl) (by decide +kernel)) ?_
  intro h4 g4 T4 F4 N4 B4
  k_extra "go"
  exact hQT _ _ _ _ _ (told_turn hDo hS T4) ‹_› ‹_› (fun F0 N0=>hret _ _ _ _ F0 N0 rl')
theorem answer_V {k : Int} {dv rw : Addr} {far : Int} {Rl : List (Addr × Obj) → List (Addr × Obj) → Prop} (t1 t2 : Tok) (hW : WrongC w k dv rw far (.type "ValueError") news Rl)
   (hS : Site w A D h₀ L) (hDo : D.outer = []) (hR : Room A 21) (hF : Fr h₀ L hp m) (hN : News h₀ L hp news)
   (hret : ∀ (u : Tok) (h' : Heap) (tk' : Nat) (news' : Led),Fr h₀ L h' m → News h₀ L h' news' → Rl news news' → Q (.str (ofString "ValueError") u) ⟨h',gs,dr,tk',os⟩) :
      wpAny (model pw w) A (call (.ref 516) [.int k t1, .ref dv, .ref rw, .int far t2]) Q E ⟨hp,gs,dr,tk,os⟩ :=by
  k_extra "an"
  refine fly_pass fl2 F' S1.B XB TB (test_name (kn54 _) (by kernel_rfl) (by kernel_rfl) (by kernel_rfl) (by decide +kernel)) ?_
  clear fl2
  intro h2 fl2
  refine fly_pass fl2 F' S1.B XB TB (test_name (kn66 _) (by kernel_rfl) (by kernel_rfl) (by kernel_rfl) (by decide +kernel)) ?_
  clear fl2
  intro h2 fl2
  refine fly_pass fl2 F' S1.B XB TB (test_name (kn87 _) (by kernel_rfl) (by kernel_rfl) (by kernel_rfl) (by decide +kernel)) ?_
  clear fl2
  intro h2 fl2
  refine fly_hit fl2 F' S1.B XB TB (test_name (knV _) (by kernel_rfl) (by kernel_rfl) (by kernel_rfl) (by decide +kernel)) ?_
  intro h4 g4 T4 F4 N4 B4
  k_extra "go"
  exact hQT _ _ _ _ _ (told_turn hDo hS T4) ‹_› ‹_› (fun F0 N0=>hret _ _ _ _ F0 N0 rl')
theorem answer_T {k : Int} {dv rw : Addr} {far : Int} {Rl : List (Addr × Obj) → List (Addr × Obj) → Prop} (t1 t2 : Tok) (hW : WrongC w k dv rw far (.type "TypeError") news Rl)
   (hS : Site w A D h₀ L) (hDo : D.outer = []) (hR : Room A 21) (hF : Fr h₀ L hp m) (hN : News h₀ L hp news)
   (hret : ∀ (u : Tok) (h' : Heap) (tk' : Nat) (news' : Led),Fr h₀ L h' m → News h₀ L h' news' → Rl news news' → Q (.str (ofString "TypeError") u) ⟨h',gs,dr,tk',os⟩) :
      wpAny (model pw w) A (call (.ref 516) [.int k t1, .ref dv, .ref rw, .int far t2]) Q E ⟨hp,gs,dr,tk,os⟩ :=by
  k_extra "an"
  refine fly_pass fl2 F' S1.B XB TB (test_name (kn54 _) (by kernel_rfl) (by kernel_rfl) (by kernel_rfl) (by decide +kernel)) ?_
  clear fl2
  intro h2 fl2
  refine fly_pass fl2 F' S1.B XB TB (test_name (kn66 _) (by kernel_rfl) (by kernel_rfl) (by kernel_rfl) (by decide +kernel)) ?_
  clear fl2
  intro h2 fl2
  refine fly_pass fl2 F' S1.B XB TB (test_name (kn87 _) (by kernel_rfl) (by kernel_rfl) (by kernel_rfl) (by decide +kernel)) ?_
  clear fl2
  intro h2 fl2
  refine fly_pass fl2 F' S1.B XB TB (test_name (knV _) (by kernel_rfl) (by kernel_rfl) (by kernel_rfl) (by decide +kernel)) ?_
  clear fl2
  intro h2 fl2
  refine fly_hit fl2 F' S1.B XB TB (test_name (knT _) (by kernel_rfl) (by kernel_rfl) (by kernel_rfl) (by decide +kernel)) ?_
  intro h4 g4 T4 F4 N4 B4
  k_extra "go"
  exact hQT _ _ _ _ _ (told_turn hDo hS T4) ‹_› ‹_› (fun F0 N0=>hret _ _ _ _ F0 N0 rl')
theorem answer_R {k : Int} {dv rw : Addr} {far : Int} {Rl : List (Addr × Obj) → List (Addr × Obj) → Prop} (t1 t2 : Tok) (hW : WrongC w k dv rw far (.type "RuntimeError") news Rl)
   (hS : Site w A D h₀ L) (hDo : D.outer = []) (hR : Room A 21) (hF : Fr h₀ L hp m) (hN : News h₀ L hp news)
   (hret : ∀ (u : Tok) (h' : Heap) (tk' : Nat) (news' : Led),Fr h₀ L h' m → News h₀ L h' news' → Rl news news' → Q (.str (ofString "RuntimeError") u) ⟨h',gs,dr,tk',os⟩) :
      wpAny (model pw w) A (call (.ref 516) [.int k t1, .ref dv, .ref rw, .int far t2]) Q E ⟨hp,gs,dr,tk,os⟩ :=by
  k_extra "an"
  refine fly_pass fl2 F' S1.B XB TB (test_name (kn54 _) (by kernel_rfl) (by kernel_rfl) (by kernel_rfl) (by decide +kernel)) ?_
  clear fl2
  intro h2 fl2
  refine fly_pass fl2 F' S1.B XB TB (test_name (kn66 _) (by kernel_rfl) (by kernel_rfl) (by kernel_rfl) (by decide +kernel)) ?_
  clear fl2
  intro h2 fl2
  refine fly_pass fl2 F' S1.B XB TB (test_name (kn87 _) (by kernel_rfl) (by kernel_rfl) (by kernel_rfl) (by decide +kernel)) ?_
  clear fl2
  intro h2 fl2
  refine fly_pass fl2 F' S1.B XB TB (test_name (knV _) (by kernel_rfl) (by kernel_rfl) (by kernel_rfl) (by decide +kernel)) ?_
  clear fl2
  intro h2 fl2
  refine fly_pass fl2 F' S1.B XB TB (test_name (knT _) (by kernel_rfl) (by kernel_rfl) (by kernel_rfl) (by decide +kernel)) ?_
  clear fl2
  intro h2 fl2
  refine fly_hit fl2 F' S1.B XB TB (test_name (knR _) (by kernel_rfl) (by kernel_rfl) (by kernel_rfl) (by decide +kernel)) ?_
  intro h4 g4 T4 F4 N4 B4
  k_extra "go"
  exact hQT _ _ _ _ _ (told_turn hDo hS T4) ‹_› ‹_› (fun F0 N0=>hret _ _ _ _ F0 N0 rl')
theorem answer_A {k : Int} {dv rw : Addr} {far : Int} {Rl : List (Addr × Obj) → List (Addr × Obj) → Prop} (t1 t2 : Tok) (hW : WrongC w k dv rw far (.type "AssertionError") news Rl)
   (hS : Site w A D h₀ L) (hDo : D.outer = []) (hR : Room A 21) (hF : Fr h₀ L hp m) (hN : News h₀ L hp news)
   (hret : ∀ (u : Tok) (h' : Heap) (tk' : Nat) (news' : Led),Fr h₀ L h' m → News h₀ L h' news' → Rl news news' → Q (.str (ofString "AssertionError") u) ⟨h',gs,dr,tk',os⟩) :
      wpAny (model pw w) A (call (.ref 516) [.int k t1, .ref dv, .ref rw, .int far t2]) Q E ⟨hp,gs,dr,tk,os⟩ :=by
  k_extra "an"
  refine fly_pass fl2 F' S1.B XB TB (test_name (kn54 _) (by kernel_rfl) (by kernel_rfl) (by kernel_rfl) (by decide +kernel)) ?_
  clear fl2
  intro h2 fl2
  refine fly_pass fl2 F' S1.B XB TB (test_name (kn66 _) (by kernel_rfl) (by kernel_rfl) (by kernel_rfl) (by decide +kernel)) ?_
  clear fl2
  intro h2 fl2
  refine fly_pass fl2 F' S1.B XB TB (test_name (kn87 _) (by kernel_rfl) (by kernel_rfl) (by kernel_rfl) (by decide +kernel)) ?_
  clear fl2
  intro h2 fl2
  refine fly_pass fl2 F' S1.B XB TB (test_name (knV _) (by kernel_rfl) (by kernel_rfl) (by kernel_rfl) (by decide +kernel)) ?_
  clear fl2
  intro h2 fl2
  refine fly_pass fl2 F' S1.B XB TB (test_name (knT _) (by kernel_rfl) (by kernel_rfl) (by kernel_rfl) (by decide +kernel)) ?_
  clear fl2
  intro h2 fl2
  refine fly_pass fl2 F' S1.B XB TB (test_name (knR _) (by kernel_rfl) (by kernel_rfl) (by kernel_rfl) (by decide +kernel)) ?_
  clear fl2
  intro h2 fl2
  refine fly_hit fl2 F' S1.B XB TB (test_name (knA _) (by kernel_rfl) (by kernel_rfl) (by kernel_rfl) (by decide +kernel)) ?_
  intro h4 g4 T4 F4 N4 B4
  k_extra "go"
  exact hQT _ _ _ _ _ (told_turn hDo hS T4) ‹_› ‹_› (fun F0 N0=>hret _ _ _ _ F0 N0 rl')
end
theorem news_tail {h₀ h : Heap} {L : Addr} {p : Addr × Obj} {nw : Led} (N : News h₀ L h (p :: nw)) : News h₀ L h nw :=fun q hq=>N q (.tail _ hq)
noncomputable abbrev Sub (a b : Led) : Prop :=∀ q ∈ a,q ∈ b
section
variable {w : World} {news : Led} {dv dd tr lf rw : Addr} {H : Array UInt8 → Array UInt8} {ky : Array UInt8} {n bk d : Nat} {p : Int}
theorem wrong_16 (hD : DevIs w news dv dd tr lf H ky n bk d p) (hO : DevOk H ky n bk d p) (far : Int) : WrongC w 16 dv rw far (.type "TypeError") news Sub :=by
  k_extra "wi"
  have hD2 :=hD.mono hk
  refine DevIs.el hD2 ?_;intro u t5 t6 nt kh h1 h4 h5
  k_extra "in"
  refine chain_skip (kn :=ofString "kind") (k :=16) (t :=t1) ‹_› rfl (by kernel_rfl) (by kernel_rfl) (by decide +kernel) 16 _ _ (by kernel_rfl) ?_
  intro tk'
  k_extra "s8"
  refine match_bad3 (hD2.mono fun q hq=>?sub) hO .none _ (normX_none (hD2.mono fun q hq=>?sub2)) 59 _ (by k_extra "site") (by k_extra "roomle") ‹_› ‹_› ?_
  case sub=>k_mem
  case sub2=>k_mem
  intro G e' h' t' news' F' fl' K'
  k_extra "passed"
  exact hexc _ _ _ _ _ ‹_› fl' (fun q hq=>K' q (by k_mem))
theorem wrong_7 (hD : DevIs w news dv dd tr lf H ky n bk d p) (hO : DevOk H ky n bk d p) (far : Int) (hf0 : 0 ≤ far) (hf : far < 10 ^ 20) : WrongC w 7 dv rw far (.ref 54) news Sub :=by
  k_extra "wi"
  have hD2 :=hD.mono hk
  have hd6 :=hO.hd6
  have hd10 :=hO.hd10
  have hdn : d ≤ 10 :=Om.c4 ‹_› (by kernel_rfl!)
  have hm5 : 0 ≤ far.fmod 5 ∧ far.fmod 5 < 5 :=⟨Int.fmod_nonneg_of_pos _ (by decide),Int.fmod_lt_of_pos _ (by decide)⟩
  have hmul : 0 ≤ (d : Int) + 1 + far.fmod 5 ∧ (d : Int) + 1 + far.fmod 5 ≤ 1000 :=(Om.g17 hd6 hd10 hm5).1
  refine DevIs.el hD2 ?_;intro u t5 t6 nt kh h1 h4 h5
  k_extra "in"
  refine chain_skip (kn :=ofString "kind") (k :=7) (t :=t1) ‹_› rfl (by kernel_rfl) (by kernel_rfl) (by decide +kernel) 7 _ _ (by kernel_rfl) ?_
  intro tk'
  k_extra "s8"
  refine match_bad3 (news :=nw) hD2 hO _ _ (normX_len hD2 _ _ (uni_str _ _) (isi_str _ _) (by rw [List.size_toArray,List.length_replicate];exact Om.t5 hmul.1 hmul.2 (by kernel_rfl!)) (by rw [cleaned_digits (zeros_all _)];exact isdigit_digits (zeros_all _) (by rw [List.length_replicate];exact (Om.g13 hd6 hm5).1)) (by rw [cleaned_digits (zeros_all _),List.size_toArray,List.length_replicate];exact (Om.g13 hd6 hm5).2.1) hdn) 59 _ (by k_extra "site") (by k_extra "roomle") ‹_› (news_tail ‹_›) ?_
  k_extra "po"
theorem wrong_8 (hD : DevIs w news dv dd tr lf H ky n bk d p) (hO : DevOk H ky n bk d p) (far : Int) (hf0 : 0 ≤ far) (hf : far < 10 ^ 20) : WrongC w 8 dv rw far (.ref 54) news Sub :=by
  k_extra "wi"
  have hD2 :=hD.mono hk
  have hd6 :=hO.hd6
  have hd10 :=hO.hd10
  have hdn : d ≤ 10 :=Om.c4 ‹_› (by kernel_rfl!)
  have hm5 : 0 ≤ far.fmod 5 ∧ far.fmod 5 < 5 :=⟨Int.fmod_nonneg_of_pos _ (by decide),Int.fmod_lt_of_pos _ (by decide)⟩
  have hmul : 0 ≤ (d : Int) - 1 - far.fmod 5 ∧ (d : Int) - 1 - far.fmod 5 ≤ 1000 :=(Om.g17 hd6 hd10 hm5).2
  refine DevIs.el hD2 ?_;intro u t5 t6 nt kh h1 h4 h5
  k_extra "in"
  refine chain_skip (kn :=ofString "kind") (k :=8) (t :=t1) ‹_› rfl (by kernel_rfl) (by kernel_rfl) (by decide +kernel) 8 _ _ (by kernel_rfl) ?_
  intro tk'
  k_extra "s8"
  refine match_bad3 (news :=nw) hD2 hO _ _ (normX_len hD2 _ _ (uni_str _ _) (isi_str _ _) (by rw [List.size_toArray,List.length_replicate];exact Om.t5 hmul.1 hmul.2 (by kernel_rfl!)) (by rw [cleaned_digits (zeros_all _)];exact isdigit_digits (zeros_all _) (by rw [List.length_replicate];exact (Om.g13 hd6 hm5).2.2.1)) (by rw [cleaned_digits (zeros_all _),List.size_toArray,List.length_replicate];exact (Om.g13 hd6 hm5).2.2.2) hdn) 59 _ (by k_extra "site") (by k_extra "roomle") ‹_› (news_tail ‹_›) ?_
  k_extra "po"
theorem wrong_11 (hD : DevIs w news dv dd tr lf H ky n bk d p) (hO : DevOk H ky n bk d p) (far : Int) (hf0 : 0 ≤ far) (hf : far < 10 ^ 20) : WrongC w 11 dv rw far (.ref 54) news Sub :=by
  k_extra "wi"
  have hD2 :=hD.mono hk
  have hd6 :=hO.hd6
  have hd10 :=hO.hd10
  have hdn : d ≤ 10 :=Om.c4 ‹_› (by kernel_rfl!)
  have hm5 : 0 ≤ far.fmod 5 ∧ far.fmod 5 < 5 :=⟨Int.fmod_nonneg_of_pos _ (by decide),Int.fmod_lt_of_pos _ (by decide)⟩
  refine DevIs.el hD2 ?_;intro u t5 t6 nt kh h1 h4 h5
  k_extra "in"
  refine chain_skip (kn :=ofString "kind") (k :=11) (t :=t1) ‹_› rfl (by kernel_rfl) (by kernel_rfl) (by decide +kernel) 11 _ _ (by kernel_rfl) ?_
  intro tk'
  k_extra "s8"
  refine match_bad3 (news :=nw) hD2 hO _ _ (normX_nd hD2 _ _ (uni_str _ _) (isi_str _ _) (by decide) (by decide +kernel)) 59 _ (by k_extra "site") (by k_extra "roomle") ‹_› (news_tail ‹_›) ?_
  k_extra "po"
end
section
open PySem.NumText
noncomputable abbrev zaB (k : Nat) : Array UInt8 :=((List.replicate k [(48 : UInt8)]).flatten).toArray ++ #[97]
theorem zaB_list (k : Nat) : (zaB k).toList = List.replicate k 48 ++ [97] :=by
  unfold zaB
  rw [Array.toList_append]
  congr 1
  show (List.replicate k [(48 : UInt8)]).flatten = _
  induction k with
  | zero=>rfl
  | succ k ih=>rw [List.replicate_succ,List.flatten_cons,ih,List.replicate_succ];rfl
theorem zaB_size (k : Nat) : (zaB k).size = k + 1 :=by rw [← Array.length_toList,zaB_list,List.length_append,List.length_replicate];rfl
theorem zaB_ascii (k : Nat) : ∀ c ∈ zaB k,c.toNat < 128 :=fun c hc=>by
  rw [← Array.mem_toList_iff,zaB_list,List.mem_append] at hc
  rcases hc with h | h
  · rw [List.eq_of_mem_replicate h];decide
  · rw [List.mem_singleton.mp h];decide
theorem keep_a : keepC 97 = true ∧ Unicode.isDigit 97 = false :=by decide +kernel
theorem zaB_bad (k : Nat) : Txt.isdigit (cleaned (asciiOf (zaB k))) = false :=by
  have e : (asciiOf (zaB k)).cps.toList = List.replicate k 48 ++ [97] :=by
    unfold asciiOf
    rw [Array.toList_map,zaB_list,List.map_append,List.map_replicate]
    rfl
  have e2 : cleaned (asciiOf (zaB k)) = ⟨(List.replicate k 48 ++ [97]).toArray⟩ :=cleaned_list (by
    rw [e,List.filter_append,filter_digits (zeros_all k),List.filter_cons,if_pos keep_a.1];rfl)
  rw [e2]
  unfold Txt.isdigit
  rw [Bool.and_eq_false_iff]
  right
  rw [List.all_toArray,List.all_append]
  have : [97].all Unicode.isDigit = false :=by rw [List.all_cons,keep_a.2];rfl
  rw [this,Bool.and_false]
theorem big_len {d : Nat} {far : Int} (h0 : 0 ≤ far) (h1 : far < 10 ^ 20) (hd : d ≤ 10) : d + 1 ≤ (padS (d : Int) (((10 ^ d : Nat) : Int) + far)).cps.size ∧ (padS (d : Int) (((10 ^ d : Nat) : Int) + far)).cps.size ≤ 31 ∧ (((10 ^ d : Nat) : Int) + far).natAbs.log2 < 1920 :=by
  obtain ⟨f,rfl⟩ :=Int.eq_ofNat_of_zero_le h0
  have hp : 10 ^ d ≤ 10 ^ 10 :=Nat.pow_le_pow_right (by decide) hd
  have hpos : 0 < 10 ^ d :=Nat.pow_pos (by decide)
  have hv : (((10 ^ d : Nat) : Int) + (f : Int)) = ((10 ^ d + f : Nat) : Int) :=by push_cast;rfl
  have hf : f < 10 ^ 20 :=by omega
  have hlt : 10 ^ d + f < 10 ^ (dgs (10 ^ d + f)).length :=by have :=digitsVal_lt _ (dgs_all (10 ^ d + f));rwa [dgs_val] at this
  have hlo : d + 1 ≤ (dgs (10 ^ d + f)).length :=by
    rcases Nat.lt_or_ge d (dgs (10 ^ d + f)).length with h | h
    · exact h
    · have :=Nat.pow_le_pow_right (n :=10) (by decide) h
      omega
  have hhi : (dgs (10 ^ d + f)).length ≤ 21 :=by
    have l :=toString_length_le (v :=((10 ^ d + f : Nat) : Int)) (k :=21) (by omega) (by decide) (by omega)
    have e3 : (ofString (toString ((10 ^ d + f : Nat) : Int))).length = (dgs (10 ^ d + f)).length :=by
      show (ofString _).cps.size = _
      rw [← Array.length_toList,KIN.signs_num]
    rw [e3] at l
    exact l
  have es : (padS (d : Int) ((10 ^ d + f : Nat) : Int)).cps.size = max d (dgs (10 ^ d + f)).length :=by
    show (padL _ _).toArray.size = _
    rw [List.size_toArray,padL_eq,fixD_len]
  rw [hv,es]
  refine ⟨by omega,by omega, ?_⟩
  rw [Int.natAbs_natCast]
  exact Nat.lt_trans ((Nat.log2_lt (by omega)).mpr (show _ < 2 ^ 70 by omega)) (by decide)
section
variable {w : World} {news : Led} {dv dd tr lf rw : Addr} {H : Array UInt8 → Array UInt8} {ky : Array UInt8} {n bk d : Nat} {p : Int}
theorem wrong_10 (hD : DevIs w news dv dd tr lf H ky n bk d p) (hO : DevOk H ky n bk d p) (far : Int) (hf0 : 0 ≤ far) (hf : far < 10 ^ 20) : WrongC w 10 dv rw far (.ref 54) news Sub :=by
  k_extra "wi"
  have hD2 :=hD.mono hk
  have hd6 :=hO.hd6
  have hd10 :=hO.hd10
  have hdn : d ≤ 10 :=Om.c4 ‹_› (by kernel_rfl!)
  obtain ⟨b1,b2,b3⟩ :=big_len hf0 hf hdn
  refine DevIs.el hD2 ?_;intro u t5 t6 nt kh h1 h4 h5
  k_extra "in"
  refine chain_skip (kn :=ofString "kind") (k :=10) (t :=t1) ‹_› rfl (by kernel_rfl) (by kernel_rfl) (by decide +kernel) 10 _ _ (by kernel_rfl) ?_
  intro tk'
  k_extra "s8"
  refine match_bad3 (news :=nw) hD2 hO _ _ (normX_int hD2 _ _ hdn (Int.add_nonneg (Int.natCast_nonneg _) hf0) b3 (by omega) (by exact Om.n1 ‹_› (by kernel_rfl!))) 59 _ (by k_extra "site") (by k_extra "roomle") ‹_› (news_tail ‹_›) ?_
  k_extra "po"
theorem wrong_9 (hD : DevIs w news dv dd tr lf H ky n bk d p) (hO : DevOk H ky n bk d p) (far : Int) : WrongC w 9 dv rw far (.ref 54) news Sub :=by
  k_extra "wi"
  have hD2 :=hD.mono hk
  have hd6 :=hO.hd6
  have hd10 :=hO.hd10
  have hmul : 0 ≤ (d : Int) - 1 ∧ (d : Int) - 1 ≤ 1000 :=⟨Int.sub_nonneg.mpr (Int.le_trans (by decide) hd6),Int.le_trans (Int.sub_le_self _ (by decide)) (Int.le_trans hd10 (by decide))⟩
  have hz :=zaB_size ((d : Int) - 1).toNat
  have hz1 : ((List.replicate ((d : Int) - 1).toNat [(48 : UInt8)]).flatten).toArray.size + (#[97] : Array UInt8).size ≤ 16777216 :=by
    rw [← Array.size_append]
    show (zaB _).size ≤ _
    rw [hz];exact Om.p5 hd10 rfl
  refine DevIs.el hD2 ?_;intro u t5 t6 nt kh h1 h4 h5
  k_extra "in"
  refine chain_skip (kn :=ofString "kind") (k :=9) (t :=t1) ‹_› rfl (by kernel_rfl) (by kernel_rfl) (by decide +kernel) 9 _ _ (by kernel_rfl) ?_
  intro tk'
  k_extra "s8"
  refine match_bad3 (news :=nw) hD2 hO _ _ (normX_nd hD2 (.bytes (zaB ((d : Int) - 1).toNat) _) _ (uni_bytes _ _ (zaB_ascii _) (by rw [hz];exact Nat.succ_pos _) (by rw [hz];exact Om.p5 hd10 rfl)) (isi_bytes _ _) (by show (Array.map _ _).size ≤ _;rw [Array.size_map,hz];exact Om.p5 hd10 rfl) (zaB_bad _)) 59 _ (by k_extra "site") (by k_extra "roomle") ‹_› (news_tail ‹_›) ?_
  k_extra "po"
theorem wrong_12 (hD : DevIs w news dv dd tr lf H ky n bk d p) (hO : DevOk H ky n bk d p) (far : Int) : WrongC w 12 dv rw far (.ref 54) news Sub :=by
  k_extra "wi"
  have hD2 :=hD.mono hk
  have hd6 :=hO.hd6
  have hd10 :=hO.hd10
  have hmul : 0 ≤ (d : Int) ∧ (d : Int) ≤ 1000 :=Om.c19 ‹_› ‹_›
  have hz :=zaB_size ((d : Int)).toNat
  have hz1 : ((List.replicate ((d : Int)).toNat [(48 : UInt8)]).flatten).toArray.size + (#[97] : Array UInt8).size ≤ 16777216 :=by
    rw [← Array.size_append]
    show (zaB _).size ≤ _
    rw [hz];exact Om.p6 hd10 rfl
  refine DevIs.el hD2 ?_;intro u t5 t6 nt kh h1 h4 h5
  k_extra "in"
  refine chain_skip (kn :=ofString "kind") (k :=12) (t :=t1) ‹_› rfl (by kernel_rfl) (by kernel_rfl) (by decide +kernel) 12 _ _ (by kernel_rfl) ?_
  intro tk'
  k_extra "s8"
  refine match_bad3 (news :=nw) hD2 hO _ _ (normX_nd hD2 (.bytes (zaB ((d : Int)).toNat) _) _ (uni_bytes _ _ (zaB_ascii _) (by rw [hz];exact Nat.succ_pos _) (by rw [hz];exact Om.p6 hd10 rfl)) (isi_bytes _ _) (by show (Array.map _ _).size ≤ _;rw [Array.size_map,hz];exact Om.p6 hd10 rfl) (zaB_bad _)) 59 _ (by k_extra "site") (by k_extra "roomle") ‹_› (news_tail ‹_›) ?_
  k_extra "po"
end
end
section
variable {w : World} {A : Around} {D : SD} {hp h₀ : Heap} {gs : Array GenState} {dr : Drawn} {tk : Nat} {os : OsState} {L : Addr} {m : MP} {news : Led} {Q E : VP}
variable {dv dd tr lf : Addr} {H : Array UInt8 → Array UInt8} {ky : Array UInt8} {n bk d : Nat} {p : Int}
theorem nt_bad (v : Value) (hI : IsiC w v false) (hS : Site w A D h₀ L) (hR : Room A 4) (hF : Fr h₀ L hp m) (hN : News h₀ L hp news)
   (hexc : ExcK D h₀ L m gs dr os E news (.type "TypeError")) :
      codeAny (model pw w) A (.call (.ref 305) ⟨[.ref 360,v], []⟩) (fun r s'=>match r with | .ok (.ret v)=>Q v s' | .ok _=>False | .error e=>E e s') ⟨hp,gs,dr,tk,os⟩ :=by
  k_dflt k_extra "enterE"
  k_extra "go"
  k_extra "raised"
  k_extra "thrown"
theorem gen_neg (hD : DevIs w news dv dd tr lf H ky n bk d p) (hO : DevOk H ky n bk d p) (tm : Int) (tc : Tok) (hc : tm < 0) (hS : Site w A D h₀ L) (hR : Room A 6) (hF : Fr h₀ L hp m) (hN : News h₀ L hp news)
   (hexc : ExcK D h₀ L m gs dr os E news (.type "ValueError")) :
      wpAny (model pw w) A (call (.ref 334) [.ref dv, .int tm tc]) Q E ⟨hp,gs,dr,tk,os⟩ :=by
  refine DevIs.el hD ?_;intro u t1 t2 nt kh h1 h4 h5
  have hp1 :=hO.hp
  have hp2 :=hO.hp2
  have hne : p ≠ 0 :=Om.i14 ‹_›
  have hneg : tm.fdiv p < 0 :=by
    rw [Int.fdiv_eq_ediv_of_nonneg _ (by exact Om.j26 ‹_›)]
    exact Int.ediv_neg_of_neg_of_pos hc ‹_›
  have hnb : decide (tm.fdiv p < 0) = true :=decide_eq_true hneg
  k_extra "in"
  k_extra "go"
  k_extra "raised"
  k_extra "thrown"
end
section
variable {w : World} {A : Around} {D : SD} {hp h₀ : Heap} {gs : Array GenState} {dr : Drawn} {tk : Nat} {os : OsState} {L : Addr} {m : MP} {news : Led} {Q E : VP}
variable {dv dd tr lf rw : Addr} {H : Array UInt8 → Array UInt8} {ky : Array UInt8} {n bk d : Nat} {p : Int}
theorem gen_type (hD : DevIs w news dv dd tr lf H ky n bk d p) (v : Value) (hI : IsiC w v false) (hS : Site w A D h₀ L) (hR : Room A 6) (hF : Fr h₀ L hp m) (hN : News h₀ L hp news)
   (hexc : ExcK D h₀ L m gs dr os E news (.type "TypeError")) :
      wpAny (model pw w) A (call (.ref 334) [.ref dv,v]) Q E ⟨hp,gs,dr,tk,os⟩ :=by
  refine DevIs.el hD ?_;intro u t1 t2 nt kh h1 h4 h5
  k_extra "in"
  repeat' ((fail_if_success (show wpAny _ _ (call (Value.ref _) [_]) _ _ _));k_extra "step")
  refine call_meth (s :=⟨_,_,_,_,_⟩) ‹_› (by k_mem) ?_
  refine nt_bad v hI (by k_extra "site") (by k_extra "roomle") ‹_› ‹_› ?_
  intro G' e' h' t' news' F' fl' K'
  k_extra "passed"
  exact hexc _ _ _ _ _ ‹_› fl' (fun q hq=>K' q (by k_mem))
end
section
variable {w : World} {news : Led} {dv dd tr lf rw : Addr} {H : Array UInt8 → Array UInt8} {ky : Array UInt8} {n bk d : Nat} {p : Int}
theorem wrong_0 (hD : DevIs w news dv dd tr lf H ky n bk d p) (hO : DevOk H ky n bk d p) (far : Int) (hf0 : 0 ≤ far) : WrongC w 0 dv rw far (.type "ValueError") news Sub :=by
  k_extra "wi"
  have hD2 :=hD.mono hk
  refine DevIs.el hD2 ?_;intro u t5 t6 nt kh h1 h4 h5
  k_extra "in"
  k_extra "s19"
  refine gen_neg (news :=nw) hD2 hO _ _ (by omega) (by k_extra "site") (by k_extra "roomle") ‹_› (news_tail ‹_›) ?_
  k_extra "po"
theorem wrong_13 (hD : DevIs w news dv dd tr lf H ky n bk d p) (hO : DevOk H ky n bk d p) (far : Int) : WrongC w 13 dv rw far (.type "TypeError") news Sub :=by
  k_extra "wi"
  have hD2 :=hD.mono hk
  refine DevIs.el hD2 ?_;intro u t5 t6 nt kh h1 h4 h5
  k_extra "in"
  refine chain_skip (kn :=ofString "kind") (k :=13) (t :=t1) ‹_› rfl (by kernel_rfl) (by kernel_rfl) (by decide +kernel) 13 _ _ (by kernel_rfl) ?_
  intro tk'
  k_extra "s19"
  refine gen_type (news :=nw) hD2 _ (isi_str _ _) (by k_extra "site") (by k_extra "roomle") ‹_› (news_tail ‹_›) ?_
  k_extra "po"
end
theorem isi_none {w : World} : IsiC w .none false :=by
  intro A hp gs dr tk os Q E hX hq
  k_extra "go"
  exact hq _
section
variable {w : World} {A : Around} {D : SD} {hp h₀ : Heap} {gs : Array GenState} {dr : Drawn} {tk : Nat} {os : OsState} {L : Addr} {m : MP} {news : Led} {Q E : VP}
variable {dv dd tr lf rw : Addr} {H : Array UInt8 → Array UInt8} {ky : Array UInt8} {n bk d : Nat} {p : Int}
theorem match_time (hD : DevIs w news dv dd tr lf H ky n bk d p) (x v : Value) (hI : IsiC w v false) (hS : Site w A D h₀ L) (hR : Room A 6) (hF : Fr h₀ L hp m) (hN : News h₀ L hp news)
   (hexc : ExcK D h₀ L m gs dr os E news (.type "TypeError")) :
      wpAny (model pw w) A (call (.ref 349) [.ref dv,x,v]) Q E ⟨hp,gs,dr,tk,os⟩ :=by
  refine DevIs.el hD ?_;intro u t1 t2 nt kh h1 h4 h5
  k_extra "in"
  repeat' ((fail_if_success (show wpAny _ _ (call (Value.ref _) [_]) _ _ _));k_extra "step")
  refine call_meth (s :=⟨_,_,_,_,_⟩) ‹_› (by k_mem) ?_
  refine nt_bad v hI (by k_extra "site") (by k_extra "roomle") ‹_› ‹_› ?_
  intro G' e' h' t' news' F' fl' K'
  k_extra "passed"
  exact hexc _ _ _ _ _ ‹_› fl' (fun q hq=>K' q (by k_mem))
end
section
variable {w : World} {news : Led} {dv dd tr lf rw : Addr} {H : Array UInt8 → Array UInt8} {ky : Array UInt8} {n bk d : Nat} {p : Int}
theorem wrong_14 (hD : DevIs w news dv dd tr lf H ky n bk d p) (hO : DevOk H ky n bk d p) (far : Int) : WrongC w 14 dv rw far (.type "TypeError") news Sub :=by
  k_extra "wi"
  have hD2 :=hD.mono hk
  have hd6 :=hO.hd6
  have hd10 :=hO.hd10
  have hmul : 0 ≤ (d : Int) ∧ (d : Int) ≤ 1000 :=Om.c19 ‹_› ‹_›
  refine DevIs.el hD2 ?_;intro u t5 t6 nt kh h1 h4 h5
  k_extra "in"
  refine chain_skip (kn :=ofString "kind") (k :=14) (t :=t1) ‹_› rfl (by kernel_rfl) (by kernel_rfl) (by decide +kernel) 14 _ _ (by kernel_rfl) ?_
  intro tk'
  k_extra "s8"
  refine match_time (news :=nw) hD2 _ _ isi_none (by k_extra "site") (by k_extra "roomle") ‹_› (news_tail ‹_›) ?_
  k_extra "po"
end
section
variable {w : World} {A : Around} {D : SD} {hp h₀ : Heap} {gs : Array GenState} {dr : Drawn} {tk : Nat} {os : OsState} {L : Addr} {m : MP} {news : Led} {Q E : VP}
variable {dv dd tr lf rw : Addr} {H : Array UInt8 → Array UInt8} {ky : Array UInt8} {n bk d : Nat} {p : Int}
theorem cs_low (v : Int) (tv ts : Tok) (hv : v < 0) (hS : Site w A D h₀ L) (hR : Room A 4) (hF : Fr h₀ L hp m) (hN : News h₀ L hp news)
   (hexc : ExcK D h₀ L m gs dr os E news (.type "ValueError")) :
      wpAny (model pw w) A (call (.ref 244) [.int v tv, .str (ofString "window") ts]) Q E ⟨hp,gs,dr,tk,os⟩ :=by
  have hb : decide (v < 0) = true :=decide_eq_true hv
  k_extra "in"
  k_extra "go"
  k_extra "raised"
  k_extra "thrown"
theorem cs_type (v : Value) (hI : IsiC w v false) (ts : Tok) (hS : Site w A D h₀ L) (hR : Room A 4) (hF : Fr h₀ L hp m) (hN : News h₀ L hp news)
   (hexc : ExcK D h₀ L m gs dr os E news (.type "TypeError")) :
      wpAny (model pw w) A (call (.ref 244) [v, .str (ofString "window") ts]) Q E ⟨hp,gs,dr,tk,os⟩ :=by
  k_extra "in"
  k_extra "go"
  k_extra "raised"
  k_extra "thrown"
theorem match_win (hD : DevIs w news dv dd tr lf H ky n bk d p) (x : Value) (tm v : Int) (t1 tv : Tok) (hv : v < 0) (hS : Site w A D h₀ L) (hR : Room A 6) (hF : Fr h₀ L hp m) (hN : News h₀ L hp news)
   (hexc : ExcK D h₀ L m gs dr os E news (.type "ValueError")) :
      wpAny (model pw w) A (call (.ref 349) [.ref dv,x, .int tm t1, .int v tv]) Q E ⟨hp,gs,dr,tk,os⟩ :=by
  refine DevIs.el hD ?_;intro u t1 t2 nt kh h1 h4 h5
  k_extra "in"
  k_extra "s20"
  refine cs_low v _ _ hv (by k_extra "site") (by k_extra "roomle") ‹_› ‹_› ?_
  intro G' e' h' t' news' F' fl' K'
  k_extra "passed"
  exact hexc _ _ _ _ _ ‹_› fl' (fun q hq=>K' q (by k_mem))
theorem match_wint (hD : DevIs w news dv dd tr lf H ky n bk d p) (x v : Value) (tm : Int) (t1 : Tok) (hI : IsiC w v false) (hS : Site w A D h₀ L) (hR : Room A 6) (hF : Fr h₀ L hp m) (hN : News h₀ L hp news)
   (hexc : ExcK D h₀ L m gs dr os E news (.type "TypeError")) :
      wpAny (model pw w) A (call (.ref 349) [.ref dv,x, .int tm t1,v]) Q E ⟨hp,gs,dr,tk,os⟩ :=by
  refine DevIs.el hD ?_;intro u t1 t2 nt kh h1 h4 h5
  k_extra "in"
  k_extra "s20"
  refine cs_type v hI _ (by k_extra "site") (by k_extra "roomle") ‹_› ‹_› ?_
  intro G' e' h' t' news' F' fl' K'
  k_extra "passed"
  exact hexc _ _ _ _ _ ‹_› fl' (fun q hq=>K' q (by k_mem))
end
section
variable {w : World} {news : Led} {dv dd tr lf rw : Addr} {H : Array UInt8 → Array UInt8} {ky : Array UInt8} {n bk d : Nat} {p : Int}
theorem wrong_1 (hD : DevIs w news dv dd tr lf H ky n bk d p) (hO : DevOk H ky n bk d p) (far : Int) (hf0 : 0 ≤ far) : WrongC w 1 dv rw far (.type "ValueError") news Sub :=by
  k_extra "wi"
  have hD2 :=hD.mono hk
  have hd6 :=hO.hd6
  have hd10 :=hO.hd10
  have hmul : 0 ≤ (d : Int) ∧ (d : Int) ≤ 1000 :=Om.c19 ‹_› ‹_›
  refine DevIs.el hD2 ?_;intro u t5 t6 nt kh h1 h4 h5
  k_extra "in"
  refine chain_skip (kn :=ofString "kind") (k :=1) (t :=t1) ‹_› rfl (by kernel_rfl) (by kernel_rfl) (by decide +kernel) 1 _ _ (by kernel_rfl) ?_
  intro tk'
  k_extra "s8"
  refine match_win (news :=nw) hD2 _ 59 _ _ _ (by omega) (by k_extra "site") (by k_extra "roomle") ‹_› (news_tail ‹_›) ?_
  k_extra "po"
theorem wrong_15 (hD : DevIs w news dv dd tr lf H ky n bk d p) (hO : DevOk H ky n bk d p) (far : Int) : WrongC w 15 dv rw far (.type "TypeError") news Sub :=by
  k_extra "wi"
  have hD2 :=hD.mono hk
  have hd6 :=hO.hd6
  have hd10 :=hO.hd10
  have hmul : 0 ≤ (d : Int) ∧ (d : Int) ≤ 1000 :=Om.c19 ‹_› ‹_›
  refine DevIs.el hD2 ?_;intro u t5 t6 nt kh h1 h4 h5
  k_extra "in"
  refine chain_skip (kn :=ofString "kind") (k :=15) (t :=t1) ‹_› rfl (by kernel_rfl) (by kernel_rfl) (by decide +kernel) 15 _ _ (by kernel_rfl) ?_
  intro tk'
  k_extra "s8"
  refine match_wint (news :=nw) hD2 _ _ 59 _ (isi_str _ _) (by k_extra "site") (by k_extra "roomle") ‹_› (news_tail ‹_›) ?_
  k_extra "po"
end
section
variable {w : World} {A : Around} {D : SD} {hp h₀ : Heap} {gs : Array GenState} {dr : Drawn} {tk : Nat} {os : OsState} {L : Addr} {m : MP} {news : Led} {Q E : VP}
theorem new_nokey (lf tr : Addr) (n bk : Int) (t1 t2 t3 : Tok) (nt : Nat) (hn : n = 20 ∨ n = 32)
   (hT : (tr,(⟨.type "tuple",none, .seq #[.ref lf, .int n t1, .int bk t2] nt, #[]⟩ : Obj)) ∈ news)
   (hS : Site w A D h₀ L) (hR : Room A 6) (hF : Fr h₀ L hp m) (hX : Frag.In (K w.params) h₀) (hN : News h₀ L hp news)
   (hexc : ExcK D h₀ L m gs dr os E news (.type "TypeError")) :
      wpAny (model pw w) A (call (.ref 360) [.bytes #[] t3, .ref tr]) Q E ⟨hp,gs,dr,tk,os⟩ :=by
  k_extra "wn"
  k_extra "go"
  refine ⟨_,_,_,rfl,News.get ‹_› (by k_mem), ‹_›,old_of ‹_› ‹_›, ?_⟩
  refine hE1 _ _ ?_
  subst hD1
  refine raise_out ‹_› rfl ‹_› ‹_› (by k_mem) ‹_› ?_
  intro h'' fl'
  (show E _ _)
  k_extra "thrown"
theorem new_low (ky : Array UInt8) (hk : 0 < ky.size) (hk2 : ky.size ≤ 2 ^ 21) (lf tr : Addr) (n bk : Int) (t1 t2 t3 t4 : Tok) (nt : Nat) (hn : n = 20 ∨ n = 32) (dg : Int) (hdg : dg < 6)
   (hT : (tr,(⟨.type "tuple",none, .seq #[.ref lf, .int n t1, .int bk t2] nt, #[]⟩ : Obj)) ∈ news)
   (hS : Site w A D h₀ L) (hR : Room A 6) (hF : Fr h₀ L hp m) (hX : Frag.In (K w.params) h₀) (hN : News h₀ L hp news)
   (hexc : ExcK D h₀ L m gs dr os E news (.type "ValueError")) :
      wpAny (model pw w) A (call (.ref 360) [.bytes ky t3, .ref tr, .int dg t4] ) Q E ⟨hp,gs,dr,tk,os⟩ :=by
  have hb : decide (dg < 6) = true :=decide_eq_true hdg
  k_extra "wn"
  k_extra "go"
  refine ⟨_,_,_,rfl,News.get ‹_› (by k_mem), ‹_›,old_of ‹_› ‹_›, ?_⟩
  refine hE1 _ _ ?_
  subst hD1
  refine raise_out ‹_› rfl ‹_› ‹_› (by k_mem) ‹_› ?_
  intro h'' fl'
  (show E _ _)
  k_extra "thrown"
theorem new_high (ky : Array UInt8) (hk : 0 < ky.size) (hk2 : ky.size ≤ 2 ^ 21) (lf tr : Addr) (n bk : Int) (t1 t2 t3 t4 : Tok) (nt : Nat) (hn : n = 20 ∨ n = 32) (dg : Int) (hdg : dg > 10)
   (hT : (tr,(⟨.type "tuple",none, .seq #[.ref lf, .int n t1, .int bk t2] nt, #[]⟩ : Obj)) ∈ news)
   (hS : Site w A D h₀ L) (hR : Room A 6) (hF : Fr h₀ L hp m) (hX : Frag.In (K w.params) h₀) (hN : News h₀ L hp news)
   (hexc : ExcK D h₀ L m gs dr os E news (.type "ValueError")) :
      wpAny (model pw w) A (call (.ref 360) [.bytes ky t3, .ref tr] [(ofString "digits", .int dg t4)]) Q E ⟨hp,gs,dr,tk,os⟩ :=by
  have hb : decide (dg < 6) = false :=decide_eq_false (by exact Om.i7 ‹_› (by kernel_rfl!))
  have hb2 : decide (dg > 10) = true :=decide_eq_true hdg
  k_extra "wn"
  k_extra "go"
  refine ⟨_,_,_,rfl,News.get ‹_› (by k_mem), ‹_›,old_of ‹_› ‹_›, ?_⟩
  refine hE1 _ _ ?_
  subst hD1
  refine raise_out ‹_› rfl ‹_› ‹_› (by k_mem) ‹_› ?_
  intro h'' fl'
  (show E _ _)
  k_extra "thrown"
theorem new_dstr (ky : Array UInt8) (hk : 0 < ky.size) (hk2 : ky.size ≤ 2 ^ 21) (lf tr : Addr) (n bk : Int) (t1 t2 t3 t4 : Tok) (nt : Nat) (hn : n = 20 ∨ n = 32) 
   (hT : (tr,(⟨.type "tuple",none, .seq #[.ref lf, .int n t1, .int bk t2] nt, #[]⟩ : Obj)) ∈ news)
   (hS : Site w A D h₀ L) (hR : Room A 6) (hF : Fr h₀ L hp m) (hX : Frag.In (K w.params) h₀) (hN : News h₀ L hp news)
   (hexc : ExcK D h₀ L m gs dr os E news (.type "TypeError")) :
      wpAny (model pw w) A (call (.ref 360) [.bytes ky t3, .ref tr, .str (ofString "6") t4] ) Q E ⟨hp,gs,dr,tk,os⟩ :=by
  k_extra "wn"
  k_extra "go"
  refine ⟨_,_,_,rfl,News.get ‹_› (by k_mem), ‹_›,old_of ‹_› ‹_›, ?_⟩
  refine hE1 _ _ ?_
  subst hD1
  refine raise_out ‹_› rfl ‹_› ‹_› (by k_mem) ‹_› ?_
  intro h'' fl'
  (show E _ _)
  k_extra "thrown"
theorem new_small (ky : Array UInt8) (lf tr : Addr) (n bk : Int) (t1 t2 t3 : Tok) (nt : Nat) (hn : n < 4)
   (hT : (tr,(⟨.type "tuple",none, .seq #[.ref lf, .int n t1, .int bk t2] nt, #[]⟩ : Obj)) ∈ news)
   (hS : Site w A D h₀ L) (hR : Room A 6) (hF : Fr h₀ L hp m) (hX : Frag.In (K w.params) h₀) (hN : News h₀ L hp news)
   (hexc : ExcK D h₀ L m gs dr os E news (.type "RuntimeError")) :
      wpAny (model pw w) A (call (.ref 360) [.bytes ky t3, .ref tr]) Q E ⟨hp,gs,dr,tk,os⟩ :=by
  have hb : decide (n < 4) = true :=decide_eq_true hn
  k_extra "wn"
  k_extra "go"
  refine ⟨_,_,_,rfl,News.get ‹_› (by k_mem), ‹_›,old_of ‹_› ‹_›, ?_⟩
  refine hE1 _ _ ?_
  subst hD1
  refine raise_out ‹_› rfl ‹_› ‹_› (by k_mem) ‹_› ?_
  intro h'' fl'
  (show E _ _)
  k_extra "thrown"
end
section
variable {w : World} {news : Led} {dv dd tr lf : Addr} {H : Array UInt8 → Array UInt8} {ky : Array UInt8} {n bk d : Nat} {p : Int}
theorem wrong_18 (hD : DevIs w news dv dd tr lf H ky n bk d p) (hn : (n : Int) = 20 ∨ (n : Int) = 32) (far : Int) : WrongC w 18 dv tr far (.type "TypeError") news Sub :=by
  k_extra "wi"
  have hD2 :=hD.mono hk
  refine DevIs.el hD2 ?_;intro u t5 t6 nt kh h1 h4 h5
  k_extra "in"
  refine chain_skip (kn :=ofString "kind") (k :=18) (t :=t1) ‹_› rfl (by kernel_rfl) (by kernel_rfl) (by decide +kernel) 18 _ _ (by kernel_rfl) ?_
  intro tk'
  k_extra "s21"
  refine new_nokey (news :=nw) _ _ _ _ _ _ _ _ hn h4 (by k_extra "site") (by k_extra "roomle") ‹_› ‹_› (news_tail ‹_›) ?_
  k_extra "po"
theorem wrong_2 (hD : DevIs w news dv dd tr lf H ky n bk d p) (hn : (n : Int) = 20 ∨ (n : Int) = 32) (far : Int) (hf0 : 0 ≤ far) : WrongC w 2 dv tr far (.type "ValueError") news Sub :=by
  k_extra "wi"
  have hD2 :=hD.mono hk
  refine DevIs.el hD2 ?_;intro u t5 t6 nt kh h1 h4 h5
  k_extra "in"
  refine chain_skip (kn :=ofString "kind") (k :=2) (t :=t1) ‹_› rfl (by kernel_rfl) (by kernel_rfl) (by decide +kernel) 2 _ _ (by kernel_rfl) ?_
  intro tk'
  k_extra "s21"
  refine new_low (news :=nw) _ (by decide) (by decide) _ _ _ _ _ _ _ _ _ hn _ (by omega) h4 (by k_extra "site") (by k_extra "roomle") ‹_› ‹_› (news_tail ‹_›) ?_
  k_extra "po"
theorem wrong_3 (hD : DevIs w news dv dd tr lf H ky n bk d p) (hn : (n : Int) = 20 ∨ (n : Int) = 32) (far : Int) (hf0 : 0 ≤ far) : WrongC w 3 dv tr far (.type "ValueError") news Sub :=by
  k_extra "wi"
  have hD2 :=hD.mono hk
  refine DevIs.el hD2 ?_;intro u t5 t6 nt kh h1 h4 h5
  k_extra "in"
  refine chain_skip (kn :=ofString "kind") (k :=3) (t :=t1) ‹_› rfl (by kernel_rfl) (by kernel_rfl) (by decide +kernel) 3 _ _ (by kernel_rfl) ?_
  intro tk'
  k_extra "s21"
  refine new_high (news :=nw) _ (by decide) (by decide) _ _ _ _ _ _ _ _ _ hn _ (by omega) h4 (by k_extra "site") (by k_extra "roomle") ‹_› ‹_› (news_tail ‹_›) ?_
  k_extra "po"
theorem wrong_19 (hD : DevIs w news dv dd tr lf H ky n bk d p) (hn : (n : Int) = 20 ∨ (n : Int) = 32) (far : Int) : WrongC w 19 dv tr far (.type "TypeError") news Sub :=by
  k_extra "wi"
  have hD2 :=hD.mono hk
  refine DevIs.el hD2 ?_;intro u t5 t6 nt kh h1 h4 h5
  k_extra "in"
  refine chain_skip (kn :=ofString "kind") (k :=19) (t :=t1) ‹_› rfl (by kernel_rfl) (by kernel_rfl) (by decide +kernel) 19 _ _ (by kernel_rfl) ?_
  intro tk'
  k_extra "s21"
  refine new_dstr (news :=nw) _ (by decide) (by decide) _ _ _ _ _ _ _ _ _ hn h4 (by k_extra "site") (by k_extra "roomle") ‹_› ‹_› (news_tail ‹_›) ?_
  k_extra "po"
end
section
variable {w : World} {A : Around} {D : SD} {hp h₀ : Heap} {gs : Array GenState} {dr : Drawn} {tk : Nat} {os : OsState} {L : Addr} {m : MP} {news : Led} {Q E : VP}
theorem cl_bad (ts : Tok) (hS : Site w A D h₀ L) (hR : Room A 4) (hF : Fr h₀ L hp m) (hN : News h₀ L hp news)
   (hexc : ExcK D h₀ L m gs dr os E news (.type "ValueError")) :
      wpAny (model pw w) A (call (.ref 254) [.str (ofString "a:b") ts]) Q E ⟨hp,gs,dr,tk,os⟩ :=by
  k_extra "in"
  k_extra "go"
  k_extra "raised"
  k_extra "thrown"
theorem ci_bad (ts : Tok) (hS : Site w A D h₀ L) (hR : Room A 4) (hF : Fr h₀ L hp m) (hN : News h₀ L hp news)
   (hexc : ExcK D h₀ L m gs dr os E news (.type "ValueError")) :
      wpAny (model pw w) A (call (.ref 264) [.str (ofString ":") ts]) Q E ⟨hp,gs,dr,tk,os⟩ :=by
  k_extra "in"
  k_extra "go"
  k_extra "raised"
  k_extra "thrown"
theorem new_label (ky : Array UInt8) (hk : 0 < ky.size) (hk2 : ky.size ≤ 2 ^ 21) (lf tr : Addr) (n bk : Int) (t1 t2 t3 t4 : Tok) (nt : Nat) (hn : n = 20 ∨ n = 32)
   (hT : (tr,(⟨.type "tuple",none, .seq #[.ref lf, .int n t1, .int bk t2] nt, #[]⟩ : Obj)) ∈ news)
   (hS : Site w A D h₀ L) (hR : Room A 6) (hF : Fr h₀ L hp m) (hX : Frag.In (K w.params) h₀) (hN : News h₀ L hp news)
   (hexc : ExcK D h₀ L m gs dr os E news (.type "ValueError")) :
      wpAny (model pw w) A (call (.ref 360) [.bytes ky t3, .ref tr] [(ofString "label", .str (ofString "a:b") t4)]) Q E ⟨hp,gs,dr,tk,os⟩ :=by
  k_extra "wn"
  k_extra "s22"
  refine cl_bad _ (by k_extra "site") (by k_extra "roomle") ‹_› ‹_› ?_
  intro G' e' h' t' news' F' fl' K'
  k_extra "passed"
  (show E _ _)
  exact hexc _ _ _ _ _ ‹_› fl' (fun q hq=>K' q (by k_mem))
theorem cs_low1 (v : Int) (tv ts tm : Tok) (hv : v < 1) (hS : Site w A D h₀ L) (hR : Room A 4) (hF : Fr h₀ L hp m) (hN : News h₀ L hp news)
   (hexc : ExcK D h₀ L m gs dr os E news (.type "ValueError")) :
      wpAny (model pw w) A (call (.ref 244) [.int v tv, .str (ofString "period") ts] [(ofString "minval", .int 1 tm)]) Q E ⟨hp,gs,dr,tk,os⟩ :=by
  have hb : decide (v < 1) = true :=decide_eq_true hv
  k_extra "in"
  k_extra "go"
  k_extra "raised"
  k_extra "thrown"
theorem cs_type1 (v : Value) (hI : IsiC w v false) (ts tm : Tok) (hS : Site w A D h₀ L) (hR : Room A 4) (hF : Fr h₀ L hp m) (hN : News h₀ L hp news)
   (hexc : ExcK D h₀ L m gs dr os E news (.type "TypeError")) :
      wpAny (model pw w) A (call (.ref 244) [v, .str (ofString "period") ts] [(ofString "minval", .int 1 tm)]) Q E ⟨hp,gs,dr,tk,os⟩ :=by
  k_extra "in"
  k_extra "go"
  k_extra "raised"
  k_extra "thrown"
theorem new_issuer (ky : Array UInt8) (hk : 0 < ky.size) (hk2 : ky.size ≤ 2 ^ 21) (lf tr : Addr) (n bk : Int) (t1 t2 t3 t4 : Tok) (nt : Nat) (hn : n = 20 ∨ n = 32) 
   (hT : (tr,(⟨.type "tuple",none, .seq #[.ref lf, .int n t1, .int bk t2] nt, #[]⟩ : Obj)) ∈ news)
   (hS : Site w A D h₀ L) (hR : Room A 6) (hF : Fr h₀ L hp m) (hX : Frag.In (K w.params) h₀) (hN : News h₀ L hp news)
   (hexc : ExcK D h₀ L m gs dr os E news (.type "ValueError")) :
      wpAny (model pw w) A (call (.ref 360) [.bytes ky t3, .ref tr] [(ofString "issuer", .str (ofString ":") t4)]) Q E ⟨hp,gs,dr,tk,os⟩ :=by
  k_extra "wn"
  k_extra "s23"
  refine ci_bad _ (by k_extra "site") (by k_extra "roomle") ‹_› ‹_› ?_
  intro G' e' h' t' news' F' fl' K'
  k_extra "passed"
  (show E _ _)
  exact hexc _ _ _ _ _ ‹_› fl' (fun q hq=>K' q (by k_mem))
theorem new_perlow (ky : Array UInt8) (hk : 0 < ky.size) (hk2 : ky.size ≤ 2 ^ 21) (lf tr : Addr) (n bk : Int) (t1 t2 t3 t4 : Tok) (nt : Nat) (hn : n = 20 ∨ n = 32) (p : Int) (hp1 : p < 1)
   (hT : (tr,(⟨.type "tuple",none, .seq #[.ref lf, .int n t1, .int bk t2] nt, #[]⟩ : Obj)) ∈ news)
   (hS : Site w A D h₀ L) (hR : Room A 6) (hF : Fr h₀ L hp m) (hX : Frag.In (K w.params) h₀) (hN : News h₀ L hp news)
   (hexc : ExcK D h₀ L m gs dr os E news (.type "ValueError")) :
      wpAny (model pw w) A (call (.ref 360) [.bytes ky t3, .ref tr] [(ofString "period", .int p t4)]) Q E ⟨hp,gs,dr,tk,os⟩ :=by
  k_extra "wn"
  k_extra "s24"
  refine cs_low1 _ _ _ _ hp1 (by k_extra "site") (by k_extra "roomle") ‹_› ‹_› ?_
  intro G' e' h' t' news' F' fl' K'
  k_extra "passed"
  (show E _ _)
  exact hexc _ _ _ _ _ ‹_› fl' (fun q hq=>K' q (by k_mem))
theorem new_perstr (ky : Array UInt8) (hk : 0 < ky.size) (hk2 : ky.size ≤ 2 ^ 21) (lf tr : Addr) (n bk : Int) (t1 t2 t3 t4 : Tok) (nt : Nat) (hn : n = 20 ∨ n = 32) 
   (hT : (tr,(⟨.type "tuple",none, .seq #[.ref lf, .int n t1, .int bk t2] nt, #[]⟩ : Obj)) ∈ news)
   (hS : Site w A D h₀ L) (hR : Room A 6) (hF : Fr h₀ L hp m) (hX : Frag.In (K w.params) h₀) (hN : News h₀ L hp news)
   (hexc : ExcK D h₀ L m gs dr os E news (.type "TypeError")) :
      wpAny (model pw w) A (call (.ref 360) [.bytes ky t3, .ref tr] [(ofString "period", .str (ofString "30") t4)]) Q E ⟨hp,gs,dr,tk,os⟩ :=by
  k_extra "wn"
  k_extra "s24"
  refine cs_type1 _ (isi_str _ _) _ _ (by k_extra "site") (by k_extra "roomle") ‹_› ‹_› ?_
  intro G' e' h' t' news' F' fl' K'
  k_extra "passed"
  (show E _ _)
  exact hexc _ _ _ _ _ ‹_› fl' (fun q hq=>K' q (by k_mem))
theorem new_keystr (lf tr : Addr) (n bk : Int) (t1 t2 t3 : Tok) (nt : Nat) (hn : n = 20 ∨ n = 32) 
   (hT : (tr,(⟨.type "tuple",none, .seq #[.ref lf, .int n t1, .int bk t2] nt, #[]⟩ : Obj)) ∈ news)
   (hS : Site w A D h₀ L) (hR : Room A 6) (hF : Fr h₀ L hp m) (hX : Frag.In (K w.params) h₀) (hN : News h₀ L hp news)
   (hexc : ExcK D h₀ L m gs dr os E news (.type "TypeError")) :
      wpAny (model pw w) A (call (.ref 360) [.str (ofString "key") t3, .ref tr] ) Q E ⟨hp,gs,dr,tk,os⟩ :=by
  k_extra "wn"
  k_extra "s25"
  have hE0 :=hE1
  have hD0 :=hD1
  have S0 :=S1
  clear hE1 hD1 hA1
  (k_here;k_dflt (refine' setP ?k1 ?k2 ?k3 ?k4 ?k5 ?k6 ?k7 ?k8 ?_;(case k1=>k_asm);(case k2=>k_asm);(case k3=>k_inst);(case k4=>k_is);(case k5=>k_is);(case k6=>k_is);(case k7=>k_is);(case k8=>k_is);k_whole);intro _)
  k_dflt k_extra "enterE"
  k_extra "go"
  (show MadeExc _ _ _ _)
  refine ⟨_,_,_,rfl,News.get N0 (by k_mem), ‹_›,old_of F0 ‹_›, ?_⟩
  refine hE1 _ _ ?_
  subst hD1
  refine raise_out ‹_› rfl F0 N0 (by k_mem) ‹_› ?_
  intro h'' fl'
  rw [hd'] at fl'
  dsimp only at fl'
  try dsimp only
  refine hE0 _ _ ?_
  subst hD0
  refine pass_out ‹_› rfl ‹_› fl' ?_
  intro h3 fl3
  (show E _ _)
  exact hexc _ _ _ _ _ ‹_› fl3 (fun q hq=>kept_on K' ne' (by k_mem))
end
section
variable {w : World} {news : Led} {dv dd tr lf : Addr} {H : Array UInt8 → Array UInt8} {ky : Array UInt8} {n bk d : Nat} {p : Int}
theorem wrong_4 (hD : DevIs w news dv dd tr lf H ky n bk d p) (hn : (n : Int) = 20 ∨ (n : Int) = 32) (far : Int) (hf0 : 0 ≤ far) : WrongC w 4 dv tr far (.type "ValueError") news Sub :=by
  k_extra "wi"
  have hD2 :=hD.mono hk
  refine DevIs.el hD2 ?_;intro u t5 t6 nt kh h1 h4 h5
  k_extra "in"
  refine chain_skip (kn :=ofString "kind") (k :=4) (t :=t1) ‹_› rfl (by kernel_rfl) (by kernel_rfl) (by decide +kernel) 4 _ _ (by kernel_rfl) ?_
  intro tk'
  k_extra "s21"
  refine new_perlow (news :=nw) _ (by decide) (by decide) _ _ _ _ _ _ _ _ _ hn _ (by exact Om.i20 ‹_›) h4 (by k_extra "site") (by k_extra "roomle") ‹_› ‹_› (news_tail ‹_›) ?_
  k_extra "po"
theorem wrong_5 (hD : DevIs w news dv dd tr lf H ky n bk d p) (hn : (n : Int) = 20 ∨ (n : Int) = 32) (far : Int) : WrongC w 5 dv tr far (.type "ValueError") news Sub :=by
  k_extra "wi"
  have hD2 :=hD.mono hk
  refine DevIs.el hD2 ?_;intro u t5 t6 nt kh h1 h4 h5
  k_extra "in"
  refine chain_skip (kn :=ofString "kind") (k :=5) (t :=t1) ‹_› rfl (by kernel_rfl) (by kernel_rfl) (by decide +kernel) 5 _ _ (by kernel_rfl) ?_
  intro tk'
  k_extra "s21"
  refine new_label (news :=nw) _ (by decide) (by decide) _ _ _ _ _ _ _ _ _ hn h4 (by k_extra "site") (by k_extra "roomle") ‹_› ‹_› (news_tail ‹_›) ?_
  k_extra "po"
theorem wrong_6 (hD : DevIs w news dv dd tr lf H ky n bk d p) (hn : (n : Int) = 20 ∨ (n : Int) = 32) (far : Int) : WrongC w 6 dv tr far (.type "ValueError") news Sub :=by
  k_extra "wi"
  have hD2 :=hD.mono hk
  refine DevIs.el hD2 ?_;intro u t5 t6 nt kh h1 h4 h5
  k_extra "in"
  refine chain_skip (kn :=ofString "kind") (k :=6) (t :=t1) ‹_› rfl (by kernel_rfl) (by kernel_rfl) (by decide +kernel) 6 _ _ (by kernel_rfl) ?_
  intro tk'
  k_extra "s21"
  refine new_issuer (news :=nw) _ (by decide) (by decide) _ _ _ _ _ _ _ _ _ hn h4 (by k_extra "site") (by k_extra "roomle") ‹_› ‹_› (news_tail ‹_›) ?_
  k_extra "po"
theorem wrong_17 (hD : DevIs w news dv dd tr lf H ky n bk d p) (hn : (n : Int) = 20 ∨ (n : Int) = 32) (far : Int) : WrongC w 17 dv tr far (.type "TypeError") news Sub :=by
  k_extra "wi"
  have hD2 :=hD.mono hk
  refine DevIs.el hD2 ?_;intro u t5 t6 nt kh h1 h4 h5
  k_extra "in"
  refine chain_skip (kn :=ofString "kind") (k :=17) (t :=t1) ‹_› rfl (by kernel_rfl) (by kernel_rfl) (by decide +kernel) 17 _ _ (by kernel_rfl) ?_
  intro tk'
  k_extra "s21"
  refine new_keystr (news :=nw) _ _ _ _ _ _ _ _ hn h4 (by k_extra "site") (by k_extra "roomle") ‹_› ‹_› (news_tail ‹_›) ?_
  k_extra "po"
theorem wrong_20 (hD : DevIs w news dv dd tr lf H ky n bk d p) (hn : (n : Int) = 20 ∨ (n : Int) = 32) (far : Int) : WrongC w 20 dv tr far (.type "TypeError") news Sub :=by
  k_extra "wi"
  have hD2 :=hD.mono hk
  refine DevIs.el hD2 ?_;intro u t5 t6 nt kh h1 h4 h5
  k_extra "in"
  refine chain_skip (kn :=ofString "kind") (k :=20) (t :=t1) ‹_› rfl (by kernel_rfl) (by kernel_rfl) (by decide +kernel) 20 _ _ (by kernel_rfl) ?_
  intro tk'
  k_extra "s21"
  refine new_perstr (news :=nw) _ (by decide) (by decide) _ _ _ _ _ _ _ _ _ hn h4 (by k_extra "site") (by k_extra "roomle") ‹_› ‹_› (news_tail ‹_›) ?_
  k_extra "po"
theorem wrong_21 (hD : DevIs w news dv dd tr lf H ky n bk d p) (hn : (n : Int) = 20 ∨ (n : Int) = 32) (far : Int) : WrongC w 21 dv tr far (.type "RuntimeError") news Sub :=by
  k_extra "wi"
  have hD2 :=hD.mono hk
  have hm4 : far.fmod 4 < 4 :=Int.fmod_lt_of_pos _ (by decide)
  refine DevIs.el hD2 ?_;intro u t5 t6 nt kh h1 h4 h5
  k_extra "in"
  refine chain_skip (kn :=ofString "kind") (k :=21) (t :=t1) ‹_› rfl (by kernel_rfl) (by kernel_rfl) (by decide +kernel) 21 _ _ (by kernel_rfl) ?_
  intro tk'
  k_extra "s21"
  refine' new_small (n :=far.fmod 4) _ _ _ _ _ _ _ _ hm4 ?aT ?aS ?aR ?aF ?aX ?aN ?_
  (case aF=>assumption)
  (case aN=>assumption)
  (case aX=>assumption)
  (case aT=>k_mem)
  (case aS=>k_extra "site")
  (case aR=>k_extra "roomle")
  intro G e' h' t' news' F' fl' K'
  k_extra "passed"
  exact hexc _ _ _ _ _ ‹_› fl' (fun q hq=>K' q (by k_mem))
end
section
open PySem.Calls
theorem bz_nobytes : typeLookup (.type "int") "__bytes__" = pure none :=by rw [typeLookup_type,builtinLookup_eq_fast];kernel_rfl
theorem bz_index : typeLookup (.type "int") "__index__" = pure (some (.builtin "int.__index__")) :=by rw [typeLookup_type,builtinLookup_eq_fast];kernel_rfl
section
variable {prog : Program} {w : World} {A : Around} {E : VP} {s : Shared}
theorem bz_new {n : Int} {u : Tok} {Q : VP} (h0 : 0 ≤ n) (hn : n ≤ 64) (hQ : ∀ t k,Q (.bytes (Array.replicate n.toNat 0) t) { s with toks :=k }) :
    codeAny (model prog w) A (.call (.builtin "bytes.__new__") ⟨[.type "bytes", .int n u], []⟩) (wants Q E) s :=by
  refine codeAny_of_tree ?_
  show wpAny _ A.in1 (do checkBuiltinCall "bytes.__new__" ⟨[.type "bytes", .int n u], []⟩;again (.builtin "bytes.__new__" ⟨[.type "bytes", .int n u], []⟩)) _ _ s
  refine wpAny_bind (wpAny_of_eq (F.bm_newCall _) (wpAny_pure ⟨plainId_quiet F.bm_plain _,codeAny_builtin F.bm_entry ?_⟩))
  rw [Around.under_plainId F.bm_plain _]
  have hT : s.TypeIs (.int n u) "int" :=rfl
  unfold Builtin.«bytes.__new__»
  refine wpAny_bind (wpAny_of_eq (a :=true) rfl ?_)
  refine bm_if_false rfl ?_
  refine wpAny_bind (wpAny_of_eq F.bm_sub ?_)
  refine bm_if_false rfl ?_
  refine wpAny_bind (wpAny_of_eq (F.bm_bind _) ?_)
  refine wpAny_bind (wpAny_of_eq (a :=()) rfl ?_)
  refine wpAny_bind (wpAny_of_eq (a :=()) rfl ?_)
  refine bm_if_false rfl ?_
  refine wpAny_bind (wpAny_specialOf hT bz_nobytes ?_)
  try dsimp only
  refine wpAny_bind (wpAny_of_eq (a :=false) rfl ?_)
  refine bm_if_false rfl ?_
  refine wpAny_bind (wpAny_specialOf hT bz_index ?_)
  refine bm_if_false rfl ?_
  refine wpAny_bind (wpAny_of_eq (a :=Except.ok n) rfl ?_)
  try dsimp only
  refine bm_if_false (by unfold Builtin.Bytes.fitsIndex;simp;exact Om.i17 ‹_› ‹_› (by kernel_rfl!) (by kernel_rfl!)) ?_
  rw [if_neg (by exact Int.not_lt.mpr ‹_›),if_neg (by exact Om.i9 ‹_› (by kernel_rfl!))]
  refine bm_if_false (by unfold Builtin.Bytes.tooLong;rw [sizeLine_eq];exact decide_eq_false (by exact Om.t6 ‹_› ‹_› (by kernel_rfl!))) ?_
  refine wpAny_bind (wpAny_rule ?_)
  refine wpAny_bind (wpAny_mkBytes ?_ (by rw [Array.size_replicate,sizeLine_eq];exact Om.t5 ‹_› ‹_› (by kernel_rfl!)))
  show wpAny _ _ (if (Value.type "bytes" == Value.type "bytes") = true then _ else _) _ _ _
  refine bm_if_true (by decide) ?_
  first
    | exact wpAny_pure (hQ _ _)
    | exact wpAny_bind (wpAny_pure (wpAny_pure (hQ _ _)))
theorem call_bytes_n {n : Int} {u : Tok} {Q : VP} (h0 : 0 ≤ n) (hn : n ≤ 64) (hQ : ∀ t k,Q (.bytes (Array.replicate n.toNat 0) t) { s with toks :=k }) : wpAny (model prog w) A (call (.type "bytes") [.int n u]) Q E s :=by
  refine callType_codes (Q₁ :=fun obj s₁=>s₁.TypeIs obj "bytes" ∧ Q obj s₁) F.bm_called (F.bm_typeCall _) F.entry_object_init
    (bz_new h0 hn fun t k=>⟨PySem.W.typeIs_bytes _ _ _,hQ t k⟩) fun obj s₁ h₁=>?_
  exact ⟨h₁.1,F.args_object_init_2 obj _,object_init_meets F.bm_called.init.lookup F.bm_called.made (by decide) prog w A.in1 _ s₁ ⟨h₁.1,rfl,h₁.2⟩⟩
end
section
variable {M : Model} {A : Around} {E : VP} {h h₀ : Heap} {g : Array GenState} {d : Drawn} {t : Nat} {os : OsState} {L a c P : Addr} {m mg mb : MP} {cn : PySem.Str} {cs : Scope} {ccd : Value} {cl : List (Str × Addr)} {news : Led}
  {p : Program} {loose : List PySem.Str} {mean : ExcName → Option Value} {params : Arguments} {body : PySem.Expr} {scope : Scope} {pos : Pos} {clos : List (Str × Addr)} {ps : Array Value} {qual : PySem.Str}
theorem lamU {Q : VP} (F : Fr h₀ L h m) (N : News h₀ L h news) (T : Top p loose mean mg mb h₀) (C : CodeHd h₀ c P) (hcd : ccd = .ref c) (hm : (P,tabObj ps) ∈ news) (ht : TriplesOk ps.toList) (hnf : codeAmong pos ps.toList = none)
    (hcl : closureFor scope (envX cn cs L a ccd cl) = pure clos) (hqual : (envX cn cs L a ccd cl).qual ++ "<lambda>" = qual) (hdef : defaultsOf params (envX cn cs L a ccd cl) = ([], []))
    (hq : ∀ f c' oc vs tt ctv pm h' t' news',Fr h₀ L h' m → News h₀ L h' news' → (∀ q ∈ news,q.1 ≠ P → q ∈ news') → (f,kla_obj (ofString "<lambda>") qual params body scope clos pm c' ctv) ∈ news' → (c',oc) ∈ news' → oc.data = .fields vs → vs[1]? = some (.str qual tt) →
      (P,tabObj (ps ++ #[rawInt pos.line,rawInt pos.col, .ref c'])) ∈ news' → (∀ q ∈ news,q.1 < f) → Q (.ref f) ⟨h',g,d,t',os⟩) :
    wpAny M A (eval (.Lambda params body scope pos) (envX cn cs L a ccd cl)) Q E ⟨h,g,d,t,os⟩ :=by
  subst hqual
  have N' :=News.pull N hm
  have hP : (P,tabObj ps) ∈ ((P,tabObj ps) :: news.filter fun q=>decide (q.1 ≠ P)) :=.head _
  refine kla_eval hdef (kla_nest (s :=⟨h,g,d,t,os⟩) F N' T C hcd (UpdF.head fun q hq=>of_decide_eq_true (List.mem_filter.mp hq).2) ht hnf hcl ?_)
  intro f c' oc vs tt ctv h' tk F1 N1 hd hv l1 l2
  refine hq f c' oc vs tt ctv _ h' tk _ F1 N1 (fun q hq hn=>.tail _ (.tail _ (.tail _ (mem_pull hq hn)))) (.head _) (.tail _ (.head _)) hd hv (.tail _ (.tail _ (.head _))) (fun q hq=>?_)
  by_cases e : q.1 = P
  · rw [e];exact Nat.lt_trans (l1 _ hP) l2
  · exact Nat.lt_trans (l1 q (.tail _ (mem_pull hq e))) l2
end
end
noncomputable def lamR : Stmt → PySem.Expr
  | .Return (some (.Call (.Attribute (.Call _ (_ :: .Tuple (e :: _) _ _ :: _) _ _) _ _) _ _ _)) _=>e
  | _=>.Constant .none 0 ⟨0, 0, 0, 0⟩
noncomputable def ifB : Stmt → List Stmt
  | .If _ b _ _=>b
  | _=>[]
noncomputable def lam22 : PySem.Expr :=lamR ((ifB ((bodyS (tp 31)).getD 23 (.Pass ⟨0, 0, 0, 0⟩))).getD 0 (.Pass ⟨0, 0, 0, 0⟩))
noncomputable def lam23 : PySem.Expr :=lamR ((bodyS (tp 31)).getD 24 (.Pass ⟨0, 0, 0, 0⟩))
noncomputable abbrev lamWQ : Str :=ofString "_law_wrong.<locals>.<lambda>"
noncomputable abbrev lamFn22 (ce : Addr) (pm : Value) (c' : Addr) (ctv : Value) : Obj :=kla_obj (ofString "<lambda>") lamWQ (lP lam22) (lB lam22) (lS lam22) [(ofString "small",ce)] pm c' ctv
noncomputable abbrev lamFn23 (pm : Value) (c' : Addr) (ctv : Value) : Obj :=kla_obj (ofString "<lambda>") lamWQ (lP lam23) (lB lam23) (lS lam23) [] pm c' ctv
inductive Lam22Is (news : Led) (lf : Addr) (n : Int) : Prop
  | mk (ce oe pm c' ctv oc vs t u) (h1 : (lf,lamFn22 ce pm c' ctv) ∈ news) (h2 : (ce,oe) ∈ news) (h3 : oe.data = .cell (some (.int n u))) (h4 : (c',oc) ∈ news) (h5 : oc.data = .fields vs) (h6 : vs[1]? = some (.str lamWQ t)) : Lam22Is news lf n
inductive Lam23Is (news : Led) (lf : Addr) : Prop
  | mk (pm c' ctv oc vs t) (h1 : (lf,lamFn23 pm c' ctv) ∈ news) (h2 : (c',oc) ∈ news) (h3 : oc.data = .fields vs) (h4 : vs[1]? = some (.str lamWQ t)) : Lam23Is news lf
theorem Lam22Is.mono {a b : Led} {lf : Addr} {n : Int} (k : Keep a b) (h : Lam22Is a lf n) : Lam22Is b lf n :=by
  obtain ⟨ce,oe,pm,c',ctv,oc,vs,t,u,h1,h2,h3,h4,h5,h6⟩ :=h
  exact ⟨ce,oe,pm,c',ctv,oc,vs,t,u,k _ h1 rfl,k _ h2 (cell_turned h3),h3,k _ h4 (turned_code h5 h6),h5,h6⟩
theorem Lam23Is.mono {a b : Led} {lf : Addr} (k : Keep a b) (h : Lam23Is a lf) : Lam23Is b lf :=by
  obtain ⟨pm,c',ctv,oc,vs,t,h1,h4,h5,h6⟩ :=h
  exact ⟨pm,c',ctv,oc,vs,t,k _ h1 rfl,k _ h4 (turned_code h5 h6),h5,h6⟩
noncomputable abbrev devObjP (P : Params) (u0 u1 u2 u3 u4 : Tok) (tr : Addr) (ky : Array UInt8) (t3 : Tok) (kh : Value) (t4 : Tok) : Obj :=dictOf [
  ⟨PyData.keyHash P (ofString "alg"), .str (ofString "alg") u0, .ref tr⟩,
  ⟨PyData.keyHash P (ofString "_key"), .str (ofString "_key") u1, .bytes ky t3⟩,
  ⟨PyData.keyHash P (ofString "_encrypted_key"), .str (ofString "_encrypted_key") u2, .none⟩,
  ⟨PyData.keyHash P (ofString "_keyed_hmac"), .str (ofString "_keyed_hmac") u3,kh⟩,
  ⟨PyData.keyHash P (ofString "digits"), .str (ofString "digits") u4, .int 6 t4⟩] 5
section
variable {M : Model} {h h₀ h' : Heap} {L e : Addr} {m : MP} {news : Led} {K : Frag}
theorem made_led {cls : String} (hs : isSubtype (.type cls) (.type "BaseException") = pure true) (ht : kitMeta cls = true) {vs : List Value} (F : Fr h₀ L h m) (N : News h₀ L h news) (hm : Heap.MadeExc h h' e cls vs) :
    ∃ oe : Obj,Fr h₀ L h' m ∧ News h₀ L h' ((e,oe) :: news) ∧ (∀ q ∈ news,q ∈ (e,oe) :: news) ∧ (∀ q ∈ news,q.1 ≠ e) ∧ oe.dict = none ∧ ExcObj K oe (.type cls) :=by
  obtain ⟨a,ha,_,_⟩ :=hm.there
  have hnL : e ≠ L :=fun z=>by
    obtain ⟨o,_,_,eo,_⟩ :=F.ns
    have :=hm.new
    rw [z,eo] at this;cases this
  have h0 : h₀.get? e = none :=by
    cases q : h₀.get? e with
    | none=>rfl
    | some o=>have :=F.keep _ _ q;rw [hm.new] at this;cases this
  refine ⟨{ cls :=.type cls,data :=.fields #[.ref a, .none, .none, .none, .bool false, .none] },F.keeps hm.keeps,fun q hq=>?_,fun q hq=>.tail _ hq,fun q hq z=>?_,rfl,rfl,⟨_,_,rfl⟩,fun _ _ _=>Looks.of_pure hs,fun M h _=>kitMeta_ty ht M h⟩
  · rcases List.mem_cons.mp hq with rfl | hq
    · exact ⟨ha,hnL,h0⟩
    · exact ⟨hm.keeps _ _ (N q hq).1,(N q hq).2⟩
  · have :=(N q hq).1
    rw [z,hm.new] at this;cases this
end
section
variable {prog : Program} {w : World} {A : Around} {E : VP} {h : Heap} {g : Array GenState} {d : Drawn} {t : Nat} {os : OsState} {Q : VP}
theorem bytesN {n : Int} {u : Tok} (h0 : 0 ≤ n ∧ n ≤ 64) (hq : ∀ u t',Q (.bytes (Array.replicate n.toNat 0) u) ⟨h,g,d,t',os⟩) : wpAny (model prog w) A (call (.type "bytes") [.int n u]) Q E ⟨h,g,d,t,os⟩ :=call_bytes_n h0.1 h0.2 fun t k=>hq t k
end
section
variable {w : World} {A : Around} {D : SD} {hp h₀ : Heap} {gs : Array GenState} {dr : Drawn} {tk : Nat} {os : OsState} {L : Addr} {m : MP} {news : Led} {Q E : VP}
theorem lam22_call (lf : Addr) (n : Int) (o : Array UInt8) (t1 : Tok) (hn : 0 ≤ n ∧ n ≤ 64) (hL : Lam22Is news lf n)
   (hS : Site w A D h₀ L) (hR : Room A 2) (hF : Fr h₀ L hp m) (hN : News h₀ L hp news)
   (hret : ∀ (t : Tok) (h' : Heap) (tk' : Nat),Fr h₀ L h' m → News h₀ L h' news → Q (.bytes (Array.replicate n.toNat 0) t) ⟨h',gs,dr,tk',os⟩) :
      wpAny (model pw w) A (call (.ref lf) [.bytes o t1]) Q E ⟨hp,gs,dr,tk,os⟩ :=by
  obtain ⟨ce,oe,pm,c',ctv,oc,vs,t,u,h1,h2,h3,h4,h5,h6⟩ :=hL
  refine wpAny_call ?_
  refine enterL (binds :=[(ofString "octets", .bytes o t1)]) hS hF hN hR h1 (codeRec_news hN h4 h5 h6) (by kernel_rfl) (locs (by kernel_rfl)) ?_ (by kernel_rfl) (by kernel_rfl) (by kernel_rfl) (by decide +kernel)
  intro A1 D1 g L' h₁ tk1 Q1 E1 hA1 hD1 T1 S1 R1 X1 G1 F1 N1 hQ1 hE1
  (show wpAny _ _ (eval (PySem.Expr.Call _ _ _ _) _) _ _ _)
  clear hE1 hA1 hD1 G1
  obtain ⟨mean,mg,mb,T1⟩ :=T1
  k_extra "go"
  exact hret _ _ _ F0 N0
theorem lam23_call (lf : Addr) (o : Array UInt8) (t1 : Tok) (hL : Lam23Is news lf)
   (hS : Site w A D h₀ L) (hR : Room A 2) (hF : Fr h₀ L hp m) (hN : News h₀ L hp news)
   (hret : ∀ (t : Tok) (h' : Heap) (tk' : Nat),Fr h₀ L h' m → News h₀ L h' news → Q (.bytes (Array.replicate (20 : Int).toNat 0) t) ⟨h',gs,dr,tk',os⟩) :
      wpAny (model pw w) A (call (.ref lf) [.bytes o t1]) Q E ⟨hp,gs,dr,tk,os⟩ :=by
  obtain ⟨pm,c',ctv,oc,vs,t,h1,h4,h5,h6⟩ :=hL
  have hn : (0 : Int) ≤ 20 ∧ (20 : Int) ≤ 64 :=by decide
  refine wpAny_call ?_
  refine enterL (binds :=[(ofString "octets", .bytes o t1)]) hS hF hN hR h1 (codeRec_news hN h4 h5 h6) (by kernel_rfl) (locs (by kernel_rfl)) ?_ (by kernel_rfl) (by kernel_rfl) (by kernel_rfl) (by decide +kernel)
  intro A1 D1 g L' h₁ tk1 Q1 E1 hA1 hD1 T1 S1 R1 X1 G1 F1 N1 hQ1 hE1
  (show wpAny _ _ (eval (PySem.Expr.Call _ _ _ _) _) _ _ _)
  clear hE1 hA1 hD1 G1
  obtain ⟨mean,mg,mb,T1⟩ :=T1
  k_extra "go"
  exact hret _ _ _ F0 N0
theorem lam22_const {lf : Addr} {n : Int} {news : Led} (hn : 0 ≤ n ∧ n ≤ 64) (hL : Lam22Is news lf n) : ConstOk w lf (fun _=>Array.replicate n.toNat 0) news :=fun _ k =>
  ⟨fun A D hp h₀ gs dr tk os L m Q E nw o t1 hS hR hF hN hk ho hret=>lam22_call lf n o t1 hn ((hL.mono k).mono (Keep.of_sub hk)) hS hR hF hN hret,by obtain ⟨_,_,_,_,_,_,_,_,_,h,_⟩ :=hL.mono k;exact ⟨_,_,_,_,h⟩⟩
theorem lam23_const {lf : Addr} {news : Led} (hL : Lam23Is news lf) : ConstOk w lf (fun _=>Array.replicate (20 : Int).toNat 0) news :=fun _ k =>
  ⟨fun A D hp h₀ gs dr tk os L m Q E nw o t1 hS hR hF hN hk ho hret=>lam23_call lf o t1 ((hL.mono k).mono (Keep.of_sub hk)) hS hR hF hN hret,by obtain ⟨_,_,_,_,_,_,h,_⟩ :=hL.mono k;exact ⟨_,_,_,_,h⟩⟩
theorem new_plain (ky : Array UInt8) (hk : 0 < ky.size) (hk2 : ky.size ≤ 2 ^ 21) (lf tr : Addr) (n bk : Int) (t1 t2 t3 : Tok) (nt : Nat) (hn : decide (n < 4) = false)
   (hT : (tr,(⟨.type "tuple",none, .seq #[.ref lf, .int n t1, .int bk t2] nt, #[]⟩ : Obj)) ∈ news)
   (hS : Site w A D h₀ L) (hR : Room A 6) (hF : Fr h₀ L hp m) (hX : Frag.In (K w.params) h₀) (hN : News h₀ L hp news)
   (hret : ∀ (x dx : Addr) (u0 u1 u2 u3 u4 t4 : Tok) (h' : Heap) (tk' : Nat),Fr h₀ L h' m → News h₀ L h' ((x,instObj 360 dx) :: (dx,devObjP w.params u0 u1 u2 u3 u4 tr ky t3 .none t4) :: news) → (∀ q ∈ news,q.1 < dx) → dx < x → Q (.ref x) ⟨h',gs,dr,tk',os⟩) :
      wpAny (model pw w) A (call (.ref 360) [.bytes ky t3, .ref tr]) Q E ⟨hp,gs,dr,tk,os⟩ :=by
  k_extra "go"
  dsimp only at F0 N0
  exact hret _ _ _ _ _ _ _ _ _ _ F0 N0 ‹_› ‹_›
theorem gen_bad (dv dd tr lf : Addr) (H : Array UInt8 → Array UInt8) (ky : Array UInt8) (k n : Nat) (u0 u1 u2 u3 u4 t3 t4 : Tok) (t1 t2 : Tok) (nt : Nat) (c : Int) (tc : Tok)
   (hH : ∀ x,(H x).size = k) (hk : k ≤ 64) (hky : ky.size < 32) (hbad : k ≠ n ∨ (n : Int) < 20) (hc0 : 0 ≤ c) (hc : c < 2 ^ 60)
   (hC : ConstOk w lf H news)
   (hdv : (dv,instObj 360 dd) ∈ news) (hdd : (dd,devObjP w.params u0 u1 u2 u3 u4 tr ky t3 .none t4) ∈ news)
   (hT : (tr,(⟨.type "tuple",none, .seq #[.ref lf, .int (n : Int) t1, .int ((32 : Nat) : Int) t2] nt, #[]⟩ : Obj)) ∈ news)
   (hS : Site w A D h₀ L) (hR : Room A 5) (hF : Fr h₀ L hp m) (hN : News h₀ L hp news) (hTab : TabSt news 204 (posOf hmS) hmQ)
   (hexc : ∀ (G : Heap) (e : Addr) (h' : Heap) (tk' : Nat) (news' : Led),Fr h₀ L G m → Fly D.base G (D.env :: D.outer) e (.type "AssertionError") none news' h' → (∀ q ∈ news,q.1 ≠ 204 → q.1 ≠ dd → q ∈ news') → TabSt news' 204 (posOf hmS) hmQ → E (.ref e) ⟨h',gs,dr,tk',os⟩) :
      wpAny (model pw w) A (call (.ref 341) [.ref dv, .int c tc]) Q E ⟨hp,gs,dr,tk,os⟩ :=by
  k_extra "in"
  k_extra "s26"
  refine compile_short ky (.ref lf) tr n 32 t1 t2 _ nt (by decide) (by decide) hky hT (by k_extra "site") (by k_extra "roomle") ‹_› ‹_› hTab ?_
  intro hf' news' h' tk' F' N' KC' HI' HT'
  have n1 :=hTab.ne hN hdv (fun _ e=>by cases e)
  have n2 :=hTab.ne hN hdd (fun _ e=>by cases e)
  have n3 :=hTab.ne hN hT (fun _ e=>by cases e)
  have n4 : dv ≠ dd :=News.ne hN hdv hdd (fun e=>by cases e)
  have n5 : tr ≠ dd :=News.ne hN hT hdd (fun e=>by have h :=congrArg Obj.data e;cases h)
  have hdv' :=KC' _ hdv n1
  have hdd' :=KC' _ hdd n2
  have hT' :=KC' _ hT n3
  obtain ⟨_,_,_,NN⟩ : ∃ a b c,News a b c news' :=⟨_,_,_,by assumption⟩
  k_extra "s0"
  have kc :=keepTab hN hTab KC'
  have kd :=keep_of NN hdd' rfl KU'
  have ha : ∀ q ∈ news,q.1 ≠ 204 → q.1 ≠ dd → q ∈ news' :=fun q hq h1 h2=>KU' _ (KC' _ hq h1) h2
  have hdv2 :=KU' _ hdv' n4
  have hT2' :=KU' _ hT' n5
  have hI2 :=HI'.mono kd
  have hTab2 :=HT'.turn (fun o h=>KU' _ h n2.symm) kd
  have s1 :=padB_size 54 (Nat.le_of_lt hky) (by decide)
  have s2 :=padB_size 92 (Nat.le_of_lt hky) (by decide)
  obtain ⟨hC2,hFn2⟩ :=hC news' (kc.trans kd)
  clear hdv' hdd' hT' KC' HI' HT' hdv hdd hT KU' NN hC
  have hfn2 : FnIn hf' news' :=hI2.fn
  have hcB : c < 18446744073709551616 :=Om.i1 ‹_› (by kernel_rfl!)
  have hob : (octets c 8).size ≤ 64 :=by rw [octets_size];decide
  have hH64 : ∀ x,(H x).size ≤ 64 :=fun x=>by rw [hH x];exact hk
  have hsz :=hH (padB ky 32 92 ++ H (padB ky 32 54 ++ octets c 8))
  have hsz2 : (H (padB ky 32 92 ++ H (padB ky 32 54 ++ octets c 8))).size ≤ 2 ^ 20 :=by rw [hsz];exact Om.n1 ‹_› (by kernel_rfl!)
  obtain ⟨NN,hNN⟩ : ∃ nn,nn = news' :=⟨_,rfl⟩
  k_extra "s27"
  by_cases hkn : k = n
  · subst hkn
    have hge : decide ((k : Int) ≥ 20) = false :=decide_eq_false (by rcases hbad with hb | hb;exact absurd rfl hb;exact Int.not_le.mpr ‹_›)
    k_extra "step"
    k_extra "s27"
    refine wpAny_Assert_msg (Room.h ‹_›) ?_
    k_extra "go"
    rename Heap.MadeExc _ _ _ _ _=>hm9
    obtain ⟨oe9,F9,N9,K9,ne9,hd9,ho9⟩ :=made_led (K :=K w.params) PySem.F.isExc_AssertionError (by decide +kernel) ‹_› ‹_› hm9
    refine hE1 _ _ ?_
    subst hD1
    refine raise_out ‹_› rfl F9 N9 (.head _) ho9 ?_
    intro h'' fl'
    (try dsimp only)
    rw [hd9] at fl'
    dsimp only at fl'
    refine hexc _ _ _ _ _ ‹_› fl' (fun q hq h1 h2=>kept_on K9 ne9 (have hq2 :=ha q hq h1 h2;by k_mem)) (hTab2.mono fun q hq=>kept_on K9 ne9 (by k_mem))
  · have hne : (k : Int) ≠ (n : Int) :=fun e=>hkn (Int.ofNat_inj.mp e)
    refine wpAny_Assert_msg (Room.h ‹_›) ?_
    k_extra "go"
    rename Heap.MadeExc _ _ _ _ _=>hm9
    obtain ⟨oe9,F9,N9,K9,ne9,hd9,ho9⟩ :=made_led (K :=K w.params) PySem.F.isExc_AssertionError (by decide +kernel) ‹_› ‹_› hm9
    refine hE1 _ _ ?_
    subst hD1
    refine raise_out ‹_› rfl F9 N9 (.head _) ho9 ?_
    intro h'' fl'
    (try dsimp only)
    rw [hd9] at fl'
    dsimp only at fl'
    refine hexc _ _ _ _ _ ‹_› fl' (fun q hq h1 h2=>kept_on K9 ne9 (have hq2 :=ha q hq h1 h2;by k_mem)) (hTab2.mono fun q hq=>kept_on K9 ne9 (by k_mem))
theorem generate_bad (dv dd tr lf : Addr) (H : Array UInt8 → Array UInt8) (ky : Array UInt8) (k n : Nat) (u0 u1 u2 u3 u4 t3 t4 : Tok) (t1 t2 : Tok) (nt : Nat) (tm : Int) (tc : Tok)
   (hH : ∀ x,(H x).size = k) (hk : k ≤ 64) (hky : ky.size < 32) (hbad : k ≠ n ∨ (n : Int) < 20) (hc0 : 0 ≤ tm) (hc : tm < 2 ^ 60)
   (hC : ConstOk w lf H news)
   (hdv : (dv,instObj 360 dd) ∈ news) (hdd : (dd,devObjP w.params u0 u1 u2 u3 u4 tr ky t3 .none t4) ∈ news)
   (hT : (tr,(⟨.type "tuple",none, .seq #[.ref lf, .int (n : Int) t1, .int ((32 : Nat) : Int) t2] nt, #[]⟩ : Obj)) ∈ news)
   (hS : Site w A D h₀ L) (hR : Room A 7) (hF : Fr h₀ L hp m) (hN : News h₀ L hp news) (hTab : TabSt news 204 (posOf hmS) hmQ)
   (hexc : ∀ (G : Heap) (e : Addr) (h' : Heap) (tk' : Nat) (news' : Led),Fr h₀ L G m → Fly D.base G (D.env :: D.outer) e (.type "AssertionError") none news' h' → (∀ q ∈ news,q.1 ≠ 204 → q.1 ≠ dd → q ∈ news') → TabSt news' 204 (posOf hmS) hmQ → E (.ref e) ⟨h',gs,dr,tk',os⟩) :
      wpAny (model pw w) A (call (.ref 334) [.ref dv, .int tm tc]) Q E ⟨hp,gs,dr,tk,os⟩ :=by
  obtain ⟨hq0,hq2⟩ :=fdiv_bounds (b :=30) hc0 (by decide)
  have hq1 : tm.fdiv 30 < 2 ^ 60 :=by exact Int.lt_of_le_of_lt ‹_› ‹_›
  k_extra "in"
  k_extra "s28"
  obtain ⟨NN,hNN⟩ : ∃ nn,nn = news :=⟨_,rfl⟩
  refine' gen_bad dv dd tr lf H ky k n u0 u1 u2 u3 u4 t3 t4 t1 t2 nt _ _ hH hk hky hbad hq0 hq1 ?aC ?av ?ad ?aT ?aS ?aR ?aF ?aN ?aB ?_
  (case aF=>assumption)
  (case aN=>assumption)
  (case aC=>exact hC.mono (Keep.of_sub fun q hq=>by k_mem))
  (case av=>k_mem)
  (case ad=>k_mem)
  (case aT=>k_mem)
  (case aS=>k_extra "site")
  (case aR=>k_extra "roomle")
  (case aB=>exact hTab.mono fun q hq=>by k_mem)
  intro G' e' h' t' news' F' fl' K' T'
  k_extra "passed"
  exact hexc _ _ _ _ _ ‹_› fl' (fun q hq h1 h2=>K' q (by k_mem) h1 h2) T'
end
section
variable {w : World} {news : Led} {dv rw : Addr}
noncomputable def Rl22 (nw news' : Led) : Prop :=(∀ q ∈ nw,q.1 ≠ 204 → q.1 ≠ 504 → q ∈ news') ∧ TabSt news' 204 (posOf hmS) hmQ ∧ ∃ ps,(504,tabObj ps) ∈ news' ∧ TriplesOk ps.toList ∧ codeAmong (lPos lam23) ps.toList = none
theorem wrong_22 (h504 : (504,tabObj #[]) ∈ news) (hTab : TabSt news 204 (posOf hmS) hmQ) (far : Int) : WrongC w 22 dv rw far (.type "AssertionError") news Rl22 :=by
  k_extra "wi"
  have h504' :=hk _ h504
  have hTab' :=hTab.mono hk
  have hm16 : 0 ≤ far.fmod 16 ∧ far.fmod 16 < 16 :=⟨Int.fmod_nonneg_of_pos _ (by decide),Int.fmod_lt_of_pos _ (by decide)⟩
  have hm9 : 0 ≤ far.fmod (10 ^ Int.toNat 9) ∧ far.fmod (10 ^ Int.toNat 9) < 2 ^ 60 :=⟨Int.fmod_nonneg_of_pos _ (by decide),Int.lt_trans (Int.fmod_lt_of_pos _ (by decide)) (by decide)⟩
  k_extra "in"
  refine chain_skip (kn :=ofString "kind") (k :=22) (t :=t1) ‹_› rfl (by kernel_rfl) (by kernel_rfl) (by decide +kernel) 22 _ _ (by kernel_rfl) ?_
  intro tk'
  k_extra "s29"
  obtain ⟨n,hn⟩ : ∃ n : Nat, 4 + far.fmod 16 = (n : Int) :=⟨(4 + far.fmod 16).toNat,(Int.toNat_of_nonneg (Int.add_nonneg (by decide) hm16.1)).symm⟩
  rw [hn] at d'
  k_dflt (refine' lamU (qual :=lamWQ) ?F ?N ?T ?C ?cd ?hm ?t ?nf ?cl ?ql ?df ?_;(case F=>k_asm);(case N=>k_asm);(case T=>k_asm);(case C=>exact codeHd_of_K (c :=508) (P :=504) X1 (by kernel_rfl));(case cd=>exact rfl);(case hm=>k_mem);(case t=>exact True.intro);(case nf=>exact rfl);(case cl=>exact rfl);(case ql=>kernel_rfl);(case df=>exact rfl))
  intro f c' oc vs tt ctv pm h2 tk2 nl F2 N2 KL m1 m2 md mv mP l5
  have h504L : @LT.lt Nat _ 504 L' :=lN _ h504'
  obtain ⟨mcell,hcell⟩ : ∃ oe,(L' + 1,oe) ∈ nl ∧ ∃ u,oe.data = .cell (some (.int (n : Int) u)) :=⟨_,KL _ (.head _) (neN (by exact Om.n19 ‹_›)),_,d'⟩
  obtain ⟨hcm,uc,hcd⟩ :=hcell
  have hkn : ∀ q ∈ nw,q.1 ≠ 504 → q ∈ nl :=fun q hq hne=>KL q (.tail _ hq) hne
  have hLam : Lam22Is nl f (n : Int) :=⟨_,_,_,_,_,_,_,_,_,m1,hcm,hcd,m2,md,mv⟩
  have hC22 :=lam22_const (w :=w) (Om.k23 hn hm16).1 hLam
  have hTabN : TabSt nl 204 (posOf hmS) hmQ :=hTab'.turn (fun o h=>hkn _ h (show (204 : Nat) ≠ 504 by decide)) (keep_of hN h504' rfl hkn)
  obtain ⟨PS,hPS,hts,hcA⟩ : ∃ ps,(504,tabObj ps) ∈ nl ∧ TriplesOk ps.toList ∧ codeAmong (lPos lam23) ps.toList = none :=⟨_,mP,True.intro,by kernel_rfl⟩
  clear KL m1 hLam mP
  k_extra "s30"
  have hn4 : decide ((n : Int) < 4) = false :=decide_eq_false (Om.k23 hn hm16).2.1
  refine' new_plain (n :=(n : Int)) _ (by decide) (by decide) _ _ _ _ _ _ _ hn4 ?aT ?aS ?aR ?aF ?aX ?aN ?_
  (case aF=>assumption)
  (case aN=>assumption)
  (case aX=>assumption)
  (case aT=>k_mem)
  (case aS=>k_extra "site")
  (case aR=>k_extra "roomle")
  intro x' d' u0 u1 u2 u3 u4 t4 h' t' F' N' l1 l2
  (try k_sweep)
  k_extra "s19"
  refine' generate_bad x' d' _ f (fun _=>Array.replicate (n : Int).toNat 0) _ n n _ _ _ _ _ _ _ _ _ _ _ _ (fun _=>by rw [Array.size_replicate,Int.toNat_natCast]) (Om.k23 hn hm16).2.2.1 ?ak (.inr (Om.k23 hn hm16).2.2.2) hm9.1 hm9.2 ?aC ?av ?ad ?aT ?aS ?aR ?aF ?aN ?aB ?_
  (case aF=>assumption)
  (case aN=>assumption)
  (case av=>k_mem)
  (case ad=>k_mem)
  (case ak=>decide)
  (case aT=>k_mem)
  (case aC=>exact hC22.mono (Keep.of_sub fun q hq=>by k_mem))
  (case aS=>k_extra "site")
  (case aR=>k_extra "roomle")
  (case aB=>exact hTabN.mono fun q hq=>by k_mem)
  intro G' e' h' t' news' F' fl' K' T'
  k_extra "passed"
  refine hexc _ _ _ _ _ ‹_› fl' ⟨fun q hq h1 h2=>K' q (have hq2 :=hkn q hq h2;by k_mem) h1 (Nat.ne_of_lt (l1 q (have hq2 :=hkn q hq h2;by k_mem))),T',PS,K' _ (by k_mem) (show (504 : Nat) ≠ 204 by decide) (Nat.ne_of_lt (l1 _ (by k_mem))),hts,hcA⟩
noncomputable def Rl23 (nw news' : Led) : Prop :=(∀ q ∈ nw,q.1 ≠ 204 → q.1 ≠ 504 → q ∈ news') ∧ TabSt news' 204 (posOf hmS) hmQ ∧ ∃ ps,(504,tabObj ps) ∈ news'
theorem turned_tab {ps : Array Value} (h : TriplesOk ps.toList) : turned (tabObj ps) = true :=by
  obtain ⟨l⟩ :=ps
  cases l with
  | nil=>rfl
  | cons x l=>cases x with
    | int=>cases l with
      | nil=>exact h.elim
      | cons y l=>cases y with
        | int=>rfl
        | _=>exact h.elim
    | _=>exact h.elim
theorem wrong_23 {ps : Array Value} (h504 : (504,tabObj ps) ∈ news) (hts : TriplesOk ps.toList) (hcA : codeAmong (lPos lam23) ps.toList = none) (hTab : TabSt news 204 (posOf hmS) hmQ) (far : Int) : WrongC w 23 dv rw far (.type "AssertionError") news Rl23 :=by
  k_extra "wi"
  have h504' :=hk _ h504
  have hTab' :=hTab.mono hk
  have hm16 : 0 ≤ far.fmod 16 ∧ far.fmod 16 < 16 :=⟨Int.fmod_nonneg_of_pos _ (by decide),Int.fmod_lt_of_pos _ (by decide)⟩
  have hm9 : 0 ≤ far.fmod (10 ^ Int.toNat 9) ∧ far.fmod (10 ^ Int.toNat 9) < 2 ^ 60 :=⟨Int.fmod_nonneg_of_pos _ (by decide),Int.lt_trans (Int.fmod_lt_of_pos _ (by decide)) (by decide)⟩
  have h2322 : (23 : Int) ≠ 22 :=by decide
  k_extra "in"
  refine chain_skip (kn :=ofString "kind") (k :=23) (t :=t1) ‹_› rfl (by kernel_rfl) (by kernel_rfl) (by decide +kernel) 22 _ _ (by kernel_rfl) ?_
  intro tk'
  k_extra "s29"
  k_dflt (refine' lamU (qual :=lamWQ) ?F ?N ?T ?C ?cd ?hm ?t ?nf ?cl ?ql ?df ?_;(case F=>k_asm);(case N=>k_asm);(case T=>k_asm);(case C=>exact codeHd_of_K (c :=508) (P :=504) X1 (by kernel_rfl));(case cd=>exact rfl);(case hm=>k_mem);(case t=>exact hts);(case nf=>exact hcA);(case cl=>exact rfl);(case ql=>kernel_rfl);(case df=>exact rfl))
  intro f c' oc vs tt ctv pm h2 tk2 nl F2 N2 KL m1 m2 md mv mP l5
  have h504L : @LT.lt Nat _ 504 L' :=lN _ h504'
  have hkn : ∀ q ∈ nw,q.1 ≠ 504 → q ∈ nl :=fun q hq hne=>KL q (.tail _ hq) hne
  have hLam : Lam23Is nl f :=⟨_,_,_,_,_,_,m1,m2,md,mv⟩
  have hC22 :=lam23_const (w :=w) hLam
  have hTabN : TabSt nl 204 (posOf hmS) hmQ :=hTab'.turn (fun o h=>hkn _ h (show (204 : Nat) ≠ 504 by decide)) (keep_of hN h504' (turned_tab hts) hkn)
  obtain ⟨PS,hPS⟩ : ∃ ps,(504,tabObj ps) ∈ nl :=⟨_,mP⟩
  clear KL m1 hLam mP
  k_extra "s30"
  have hn4 : decide ((32 : Int) < 4) = false :=by decide
  refine' new_plain (n :=(32 : Int)) _ (by decide) (by decide) _ _ _ _ _ _ _ hn4 ?aT ?aS ?aR ?aF ?aX ?aN ?_
  (case aF=>assumption)
  (case aN=>assumption)
  (case aX=>assumption)
  (case aT=>k_mem)
  (case aS=>k_extra "site")
  (case aR=>k_extra "roomle")
  intro x' d' u0 u1 u2 u3 u4 t4 h' t' F' N' l1 l2
  (try k_sweep)
  k_extra "s19"
  refine' generate_bad x' d' _ f (fun _=>Array.replicate (20 : Int).toNat 0) _ 20 32 _ _ _ _ _ _ _ _ _ _ _ _ (fun _=>by rw [Array.size_replicate];rfl) (by decide) ?ak (.inl (by decide)) hm9.1 hm9.2 ?aC ?av ?ad ?aT ?aS ?aR ?aF ?aN ?aB ?_
  (case aF=>assumption)
  (case aN=>assumption)
  (case av=>k_mem)
  (case ad=>k_mem)
  (case ak=>decide)
  (case aT=>k_mem)
  (case aC=>exact hC22.mono (Keep.of_sub fun q hq=>by k_mem))
  (case aS=>k_extra "site")
  (case aR=>k_extra "roomle")
  (case aB=>exact hTabN.mono fun q hq=>by k_mem)
  intro G' e' h' t' news' F' fl' K' T'
  k_extra "passed"
  refine hexc _ _ _ _ _ ‹_› fl' ⟨fun q hq h1 h2=>K' q (have hq2 :=hkn q hq h2;by k_mem) h1 (Nat.ne_of_lt (l1 q (have hq2 :=hkn q hq h2;by k_mem))),T',PS,K' _ (by k_mem) (show (504 : Nat) ≠ 204 by decide) (Nat.ne_of_lt (l1 _ (by k_mem)))⟩
end
section
open PySem.Calls
noncomputable abbrev lwE (L fa : Addr) : Env :=envOfC (ofString "law") (fS (tp 33)) L fa (.ref 520)
noncomputable abbrev lwTabs : List (Addr × Addr) :=[(508, 504),(356, 352),(206, 204),(520, 518)]
noncomputable def LawWalk : Prop :=∀ (w : World) (A : Around) (D : SD) (h₀ hp : Heap) (dr : Drawn) (tk : Nat) (os : OsState) (L fa la : Addr) (o1 o2 o3 o4 o5 o6 : Obj) (m : MP) (vs : List Value) (ns : List Int) (Q : FP) (E : VP),
  Site w A D h₀ L → D.outer = [] → D.env = lwE L fa → Room A 60 → Fr h₀ L hp m →
  News h₀ L hp [(L + 1 + 1 + 1 + 1 + 1 + 1,o6),(L + 1 + 1 + 1 + 1 + 1,o5),(L + 1 + 1 + 1 + 1,o4),(L + 1 + 1 + 1,o3),(L + 1 + 1,o2),(L + 1,o1),(504,tabObj #[]),(352,tabObj #[]),(204,tabObj #[]),(518,tabObj #[])] →
  o1.data = .cell (some (.ref la)) → o2.data = .cell none → o3.data = .cell none → o4.data = .cell none → o5.data = .cell none → o6.data = .cell none →
  h₀.IsList la vs.toArray → IntsAre vs ns → ns.length ≤ 63 → @LT.lt Nat _ 518 L →
  (∀ (h' : Heap) (gs' : Array GenState) (dr' : Drawn) (tk' : Nat) (m' : MP),Fr h₀ L h' m' → AllBare gs' → GrownAll lwTabs h' → Q (.ret (.bool true)) ⟨h',gs',dr',tk',os⟩) →
  wpAny (model pw w) A (execs (bodyS (tp 33)) (lwE L fa)) Q E ⟨hp, #[],dr,tk,os⟩
end
section
open PySem.Calls
noncomputable def cellN (ns : List Int) (k : Int) : Int :=if k < (ns.length : Int) then ns.getD k.toNat 0 else 0
theorem cellN_in {ns : List Int} {k : Int} (h : k < (ns.length : Int)) : ns.getD k.toNat 0 = cellN ns k :=(if_pos h).symm
theorem cellN_out {ns : List Int} {k : Int} (h : ¬ k < (ns.length : Int)) : 0 = cellN ns k :=(if_neg h).symm
theorem cell_at {h : Heap} {a : Addr} {o : Obj} {v : Option Value} (e : h.get? a = some o) (d : o.data = .cell v) : h.IsCell a v :=⟨o,e,d⟩
section
variable {M : Model} {A : Around} {E : VP} {s : Shared} {h₀ h1 : Heap} {L C : Addr} {m mg mb : MP} {scope : Scope} {cl : List (Str × Addr)} {env : Env} {K : Frag} {p : Program} {loose : List PySem.Str} {mean : ExcName → Option Value} {x : PySem.Str} {pos : Pos} {v : Value} {Q : VP}
theorem ldBK (F : Fr h₀ L h1 m) (keep : ∀ b o,h1.get? b = some o → s.heap.get? b = some o) (T : Top p loose mean mg mb h₀) (X : K.In h₀) (e : nsIn K mainGlobals x = some none) (hv : bootBuiltins x = some v) (hn : x ≠ "__name__") (h : Q v s)
    (hk : autoParam ((compEnvC scope cl C env).scope.kind = .function) ap._auto_1) (hl : autoParam ((compEnvC scope cl C env).kindOf x = some .globalImplicit) ap._auto_1) (hg : autoParam ((compEnvC scope cl C env).globals = mainGlobals) ap._auto_1) (hb : autoParam ((compEnvC scope cl C env).builtins = builtinsNs) ap._auto_1) (hd : autoParam ((x == ("__debug__" : Str)) = false) ap._auto_6) :
    wpAny M A (eval (.Name x pos) (compEnvC scope cl C env)) Q E s :=by
  refine Name_function_global hk hl (loadGlobal_builtin (mg :=mg) (mb :=mb) ?_ (mg_none_of X T.g e) ?_ ((T.builtins x hn).trans hv) h) hd
  · rw [hg];exact (T.g.keeps F.keep).keeps keep
  · rw [hb];exact (T.b.keeps F.keep).keeps keep
theorem ldGK (F : Fr h₀ L h1 m) (keep : ∀ b o,h1.get? b = some o → s.heap.get? b = some o) (T : Top p loose mean mg mb h₀) (X : K.In h₀) (e : nsIn K mainGlobals x = some (some v)) (h : Q v s)
    (hk : autoParam ((compEnvC scope cl C env).scope.kind = .function) ap._auto_1) (hl : autoParam ((compEnvC scope cl C env).kindOf x = some .globalImplicit) ap._auto_1) (hg : autoParam ((compEnvC scope cl C env).globals = mainGlobals) ap._auto_1) (hd : autoParam ((x == ("__debug__" : Str)) = false) ap._auto_6) :
    wpAny M A (eval (.Name x pos) (compEnvC scope cl C env)) Q E s :=by
  refine Name_function_global hk hl (loadGlobal_global (mg :=mg) ?_ (mg_of X T.g e) h) hd
  rw [hg];exact (T.g.keeps F.keep).keeps keep
end
section
variable {prog : Program} {w : World} {A : Around} {E : VP} {h : Heap} {g : Array GenState} {d : Drawn} {t : Nat} {os : OsState} {Q : VP} {la : Addr} {vs : List Value} {ns : List Int}
theorem lenSL (hl : h.IsList la vs.toArray) (hi : IntsAre vs ns) (hz : ns.length ≤ 63) (hq : ∀ u t',Q (.int (ns.length : Int) u) ⟨h,g,d,t',os⟩) : wpAny (model prog w) A (call (.builtin "len") [.ref la]) Q E ⟨h,g,d,t,os⟩ :=by
  have e : vs.toArray.size = ns.length :=by rw [List.size_toArray,hi.length]
  refine call_len_list (s :=⟨h,g,d,t,os⟩) hl (by rw [e];omega) ?_
  rw [e]
  exact hq _ _
theorem itemSL {value slice : PySem.Expr} {k : Int} {u : Tok} (hl : h.IsList la vs.toArray) (hi : IntsAre vs ns) (hz : ns.length ≤ 63) (h0 : 0 ≤ k) (h1 : k < (ns.length : Int)) (hq : ∀ u t',Q (.int (cellN ns k) u) ⟨h,g,d,t',os⟩)
    (hs : autoParam (subscripted slice false (.ref la) (.int k u) = operate [.ref la, .int k u] (getItem (.ref la) (.int k u))) ap._auto_3) (hg : autoParam (∀ r,letTemporaryGo value (.ref la) r = pure ()) ap._auto_4) :
    wpAny (model prog w) A (subscriptTail value slice (.ref la) (.int k u)) Q E ⟨h,g,d,t,os⟩ :=
  item_list_ints (s :=⟨h,g,d,t,os⟩) hl hi h0 h1 (by omega) (fun u'=>by rw [cellN_in h1];exact hq u' t) hs hg
end
noncomputable def itemsN (n : Nat) : List Int :=(List.range n).map fun (i : Nat)=>(i : Int)
theorem itemsN_length (n : Nat) : (itemsN n).length = n :=by unfold itemsN;rw [List.length_map,List.length_range]
theorem itemsN_at (n : Nat) : ∀ i,i < (itemsN n).length → (itemsN n)[i]? = some (0 + (i : Int) * 1) :=fun i hi=>by
  rw [itemsN_length] at hi
  unfold itemsN
  rw [List.getElem?_map,List.getElem?_range hi]
  simp
theorem itemsN_mem {n : Nat} {k : Int} (h : k ∈ itemsN n) : 0 ≤ k ∧ k < (n : Int) :=by
  unfold itemsN at h
  obtain ⟨i,hi,rfl⟩ :=List.mem_map.mp h
  have :=List.mem_range.mp hi
  omega
theorem rangeN {n : Nat} (hn : n ≤ 24) : Builtin.Range.small 0 (n : Int) 1 = true ∧ Builtin.Range.rangeSize 0 (n : Int) 1 = (((itemsN n).length : Nat) : Int) :=by
  rw [itemsN_length]
  exact ⟨small_one (by exact Om.c1) (by exact Om.c1) (by exact Om.c1) (by omega),range_size (by exact rfl)⟩
section
variable {w : World} {prog : Program} {A : Around} {E : VP} {h h₀ : Heap} {g : Array GenState} {d : Drawn} {t : Nat} {os : OsState} {L : Addr} {m : MP} {news : Led}
theorem stCU {a : Addr} {cn : PySem.Str} {cs : Scope} {ccd : Value} {cl : List (Str × Addr)} {x : PySem.Str} {v : Value} {Q : Unit → Shared → Prop} {c : Addr} {o : Obj} {v₀ : Option Value} (F : Fr h₀ L h m) (N : News h₀ L h news) (hc : cl.lookup x = some c) (hm : (c,o) ∈ news) (hd : o.data = .cell v₀)
    (hq : ∀ h' o' t' news',Fr h₀ L h' m → News h₀ L h' news' → (∀ q ∈ news,q.1 ≠ c → q ∈ news') → (c,o') ∈ news' → o'.data = .cell (some v) → Q () ⟨h',g,d,t',os⟩)
    (hk : autoParam (cs.kind = .function) ap._auto_1) (hx : autoParam ((envX cn cs L a ccd cl).kindOf x = some .cell) ap._auto_1) : wpAny (model prog w) A (storeName (envX cn cs L a ccd cl) x v) Q E ⟨h,g,d,t,os⟩ :=
  stC F (News.pull N hm) hc (UpdF.head fun q hq=>of_decide_eq_true (List.mem_filter.mp hq).2) hd (fun h' o' t' F' N' d'=>hq h' o' t' _ F' N' (fun q hq hn=>.tail _ (mem_pull hq hn)) (.head _) d') hk hx
end
end
section
variable {w : World} {A : Around} {D : SD} {hp h₀ : Heap} {gs : Array GenState} {dr : Drawn} {tk : Nat} {os : OsState} {L : Addr} {m : MP} {E : VP} {Q : FP}
theorem law_a {fa la : Addr} {o1 o2 o3 o4 o5 o6 : Obj} {vs : List Value} {ns : List Int} (hS : Site w A D h₀ L) (hR : Room A 60) (hF : Fr h₀ L hp m)
  (hN : News h₀ L hp [(L + 1 + 1 + 1 + 1 + 1 + 1,o6),(L + 1 + 1 + 1 + 1 + 1,o5),(L + 1 + 1 + 1 + 1,o4),(L + 1 + 1 + 1,o3),(L + 1 + 1,o2),(L + 1,o1),(504,tabObj #[]),(352,tabObj #[]),(204,tabObj #[]),(518,tabObj #[])])
  (h1 : o1.data = .cell (some (.ref la))) (h2 : o2.data = .cell none) (h3 : o3.data = .cell none)
  (hl : h₀.IsList la vs.toArray) (hi : IntsAre vs ns) (hlen : ns.length ≤ 63) (hL : @LT.lt Nat _ 518 L)
  (hk : ∀ (a b c : Int) (ta tb tc : Tok) (h' : Heap) (tk' : Nat) (p2 p3 : Obj),Fr h₀ L h' (fun z=>if z = ofString "a" then some (.int a ta) else m z) →
     News h₀ L h' [(L + 1 + 1 + 1 + 1 + 1 + 1,o6),(L + 1 + 1 + 1 + 1 + 1,o5),(L + 1 + 1 + 1 + 1,o4),(L + 1 + 1 + 1,p3),(L + 1 + 1,p2),(L + 1,o1),(504,tabObj #[]),(352,tabObj #[]),(204,tabObj #[]),(518,tabObj #[])] → p2.data = .cell (some (.int b tb)) → p3.data = .cell (some (.int c tc)) →
     wpAny (model pw w) A (execs ((bodyS (tp 33)).drop 1) (lwE L fa)) Q E ⟨h',gs,dr,tk',os⟩) :
  wpAny (model pw w) A (execs (bodyS (tp 33)) (lwE L fa)) Q E ⟨hp,gs,dr,tk,os⟩ :=by
  k_extra "mx"
  have hf1 : LcFun (cellN ns) :=trivial
  k_extra "s10"
  k_dflt (refine ListComp_KI hf1 ‹_› (by with_unfolding_all rfl) (by decide) (by rfl) (by decide) (by rfl) ?_)
  repeat' ((fail_if_success (with_reducible show LcSrc _ _ _ _ _ _ _ _ _ _ _ _ _ _ _ _ _ _));k_extra "step")
  k_dflt (refine srcM (items :=[0, 1, 2]) (hands_range (Room.h ‹_›) ‹_› rfl rfl (by decide)) ‹_› ‹_› (by decide) ?_ ?_)
  · clear hk
    intro C a t s₃ m₃ Q' E' ha hns hm keep hq
    obtain ⟨h3,g3,d3,t3,os3⟩ :=s₃
    dsimp only at keep hns hq
    have hsc : h3.IsCell (L + 1) (some (.ref la)) :=cell_at (keep _ _ (News.get ‹_› (by k_mem))) h1
    have hls : h3.IsList la vs.toArray :=hl.at fun o e=>keep _ _ (Fr.keep ‹_› _ _ e)
    have ha0 : 0 ≤ a :=by simp at ha;lia
    k_extra "s12"
    refine lenSL hls hi hlen ?_
    intro _ _
    by_cases hlt : a < (ns.length : Int)
    · have hb : decide (a < (ns.length : Int)) = true :=decide_eq_true hlt
      k_extra "s31"
      k_dflt (refine itemSL hls hi hlen ha0 hlt ?_)
      exact hq
    · have hb : decide (a < (ns.length : Int)) = false :=decide_eq_false hlt
      rw [← cellN_out hlt] at hq
      k_extra "s32"
      refine cI ?_
      exact hq
  intro D1 h' tk' n' ts hts F' N' O'
  obtain ⟨x,y,z,rfl⟩ : ∃ x y z,ts = [x,y,z] :=by
    match ts,hts with
    | [x,y,z],_=>exact ⟨x,y,z,rfl⟩
  have N2 : News h₀ L h' ((D1,(⟨.type "list",none, .seq #[.int (cellN ns 0) x, .int (cellN ns 1) y, .int (cellN ns 2) z] n', #[]⟩ : Obj)) :: _) :=N'
  clear N' hi
  generalize cellN ns 0 = a at N2
  generalize cellN ns 1 = b at N2
  generalize cellN ns 2 = c at N2
  (try k_sweep)
  (show wpAny _ _ _ _ _ ⟨h',gs,dr,tk',os⟩)
  k_dflt (refine' unpL (items :=#[.int a x, .int b y, .int c z]) ?k1 ?k2 ?k3 ?k4 ?k5 ?k6 ?_;(case k1=>exact F');(case k2=>exact N2);(case k3=>exact Room.h ‹_›);(case k4=>exact News.isList N2 (by k_mem));(case k5=>exact rfl);(case k6=>exact rfl))
  clear F' N2
  intro h' t' F' N'
  replace N' :=news_tail N'
  clear O'
  k_extra "s33"
  exact hk _ _ _ _ _ _ _ _ _ _ ‹_› ‹_› ‹_› ‹_›
theorem law_b {fa : Addr} {o1 o2 o3 o4 o5 o6 : Obj} {a : Int} {ta : Tok} (hS : Site w A D h₀ L) (hR : Room A 60) (hF : Fr h₀ L hp (fun z=>if z = ofString "a" then some (.int a ta) else m z))
  (hN : News h₀ L hp [(L + 1 + 1 + 1 + 1 + 1 + 1,o6),(L + 1 + 1 + 1 + 1 + 1,o5),(L + 1 + 1 + 1 + 1,o4),(L + 1 + 1 + 1,o3),(L + 1 + 1,o2),(L + 1,o1),(504,tabObj #[]),(352,tabObj #[]),(204,tabObj #[]),(518,tabObj #[])])
  (h6 : o6.data = .cell none) (hL : @LT.lt Nat _ 518 L)
  (hk : ∀ (n bk d : Nat) (p : Int) (tn tb td tp' : Tok) (h' : Heap) (tk' : Nat) (p6 : Obj),(n = 20 ∧ bk = 22 ∨ n = 32 ∧ bk = 36) → 6 ≤ d → d ≤ 10 → 1 ≤ p → p ≤ 61 →
     Fr h₀ L h' (fun z=>if z = ofString "period" then some (.int p tp') else if z = ofString "digits" then some (.int (d : Int) td) else if z = ofString "block" then some (.int (bk : Int) tb) else if z = ofString "a" then some (.int a ta) else m z) →
     News h₀ L h' [(L + 1 + 1 + 1 + 1 + 1 + 1,p6),(L + 1 + 1 + 1 + 1 + 1,o5),(L + 1 + 1 + 1 + 1,o4),(L + 1 + 1 + 1,o3),(L + 1 + 1,o2),(L + 1,o1),(504,tabObj #[]),(352,tabObj #[]),(204,tabObj #[]),(518,tabObj #[])] → p6.data = .cell (some (.int (n : Int) tn)) →
     wpAny (model pw w) A (execs ((bodyS (tp 33)).drop 5) (lwE L fa)) Q E ⟨h',gs,dr,tk',os⟩) :
  wpAny (model pw w) A (execs ((bodyS (tp 33)).drop 1) (lwE L fa)) Q E ⟨hp,gs,dr,tk,os⟩ :=by
  k_extra "mx"
  obtain ⟨d,hd⟩ : ∃ d : Nat, 6 + (a.fdiv 2).fmod 5 = (d : Int) :=⟨(6 + (a.fdiv 2).fmod 5).toNat,(Int.toNat_of_nonneg (Int.add_nonneg (by decide) (Int.fmod_nonneg_of_pos (a.fdiv 2) (b :=5) (by decide)))).symm⟩
  have hd5 : 0 ≤ (a.fdiv 2).fmod 5 ∧ (a.fdiv 2).fmod 5 < 5 :=⟨Int.fmod_nonneg_of_pos _ (by decide),Int.fmod_lt_of_pos _ (by decide)⟩
  have hp61 : 0 ≤ (a.fdiv 10).fmod 61 ∧ (a.fdiv 10).fmod 61 < 61 :=⟨Int.fmod_nonneg_of_pos _ (by decide),Int.fmod_lt_of_pos _ (by decide)⟩
  by_cases hev : a.fmod 2 = 0
  · have hb : decide (a.fmod 2 = 0) = true :=decide_eq_true hev
    k_extra "s34"
    dsimp +zetaDelta only at F'
    rw [hd] at F'
    exact hk 20 22 d (1 + (a.fdiv 10).fmod 61) _ _ _ _ _ _ _ (.inl ⟨rfl,rfl⟩) (Om.g1 hd hd5).1 (Om.g1 hd hd5).2 (Om.g2 hp61).1 (Om.g2 hp61).2 ‹_› ‹_› ‹_›
  · have hb : decide (a.fmod 2 = 0) = false :=decide_eq_false hev
    k_extra "s34"
    dsimp +zetaDelta only at F'
    rw [hd] at F'
    exact hk 32 36 d (1 + (a.fdiv 10).fmod 61) _ _ _ _ _ _ _ (.inr ⟨rfl,rfl⟩) (Om.g1 hd hd5).1 (Om.g1 hd hd5).2 (Om.g2 hp61).1 (Om.g2 hp61).2 ‹_› ‹_› ‹_›
theorem law_c {fa : Addr} {o1 o2 o3 o4 o5 o6 : Obj} {b : Int} {tb : Tok} (hS : Site w A D h₀ L) (hR : Room A 60) (hF : Fr h₀ L hp m)
  (hN : News h₀ L hp [(L + 1 + 1 + 1 + 1 + 1 + 1,o6),(L + 1 + 1 + 1 + 1 + 1,o5),(L + 1 + 1 + 1 + 1,o4),(L + 1 + 1 + 1,o3),(L + 1 + 1,o2),(L + 1,o1),(504,tabObj #[]),(352,tabObj #[]),(204,tabObj #[]),(518,tabObj #[])])
  (h2 : o2.data = .cell (some (.int b tb))) (hL : @LT.lt Nat _ 518 L)
  (hk : ∀ (ky : Array UInt8) (tk1 : Tok) (h' : Heap) (tk' : Nat), 1 ≤ ky.size → ky.size ≤ 24 →
     Fr h₀ L h' (fun z=>if z = ofString "key" then some (.bytes ky tk1) else m z) →
     News h₀ L h' [(L + 1 + 1 + 1 + 1 + 1 + 1,o6),(L + 1 + 1 + 1 + 1 + 1,o5),(L + 1 + 1 + 1 + 1,o4),(L + 1 + 1 + 1,o3),(L + 1 + 1,o2),(L + 1,o1),(504,tabObj #[]),(352,tabObj #[]),(204,tabObj #[]),(518,tabObj #[])] →
     wpAny (model pw w) A (execs ((bodyS (tp 33)).drop 6) (lwE L fa)) Q E ⟨h',gs,dr,tk',os⟩) :
  wpAny (model pw w) A (execs ((bodyS (tp 33)).drop 5) (lwE L fa)) Q E ⟨hp,gs,dr,tk,os⟩ :=by
  k_extra "mx"
  have hf1 : LcFun (fun k=>(b + 11 * k * k).fmod 256) :=trivial
  obtain ⟨n,hn⟩ : ∃ n : Nat, 1 + (b.fdiv 256).fmod 24 = (n : Int) :=⟨(1 + (b.fdiv 256).fmod 24).toNat,(Int.toNat_of_nonneg (Int.add_nonneg (by decide) (Int.fmod_nonneg_of_pos (b.fdiv 256) (b :=24) (by decide)))).symm⟩
  have hn24 : 1 ≤ n ∧ n ≤ 24 :=by
    have h1 :=Int.fmod_nonneg_of_pos (b.fdiv 256) (b :=24) (by decide)
    have h2 :=Int.fmod_lt_of_pos (b.fdiv 256) (b :=24) (by decide)
    exact Om.g3 hn h1 h2
  have hr1 : ∀ k ∈ itemsN n, 0 ≤ (fun k=>(b + 11 * k * k).fmod 256) k ∧ (fun k=>(b + 11 * k * k).fmod 256) k < 256 :=fun k _=>⟨Int.fmod_nonneg_of_pos _ (by decide),Int.fmod_lt_of_pos _ (by decide)⟩
  have hz1 : (itemsN n).length ≤ sizeLine :=by rw [itemsN_length,sizeLine_eq];omega
  obtain ⟨hsm,hsz⟩ :=rangeN hn24.2
  k_extra "s10"
  k_dflt (refine ListComp_KI hf1 ‹_› (by with_unfolding_all rfl) (by decide) (by rfl) (by decide) (by rfl) ?_)
  repeat' ((fail_if_success (with_reducible show LcSrc _ _ _ _ _ _ _ _ _ _ _ _ _ _ _ _ _ _));k_extra "step")
  rename IsRange _ _ _ _ _ _ _ _=>hIR
  rw [hn] at hIR
  k_dflt (refine srcM (items :=itemsN n) (hands_range (Room.h ‹_›) hIR hsm hsz (itemsN_at n)) ‹_› ‹_› hz1 ?_ ?_)
  · clear hk
    intro C a t s₃ m₃ Q' E' ha hns hm keep hq
    obtain ⟨h3,g3,d3,t3,os3⟩ :=s₃
    dsimp only at keep hns hq
    have hsc : h3.IsCell (L + 1 + 1) (some (.int b tb)) :=cell_at (keep _ _ (News.get ‹_› (by k_mem))) h2
    have ha0 :=itemsN_mem ha
    have hm1 : IntMulOk 11 a :=mulOkB 1 1 (by omega) (by omega) (by decide)
    have hm2 : IntMulOk (11 * a) a :=mulOkB 2 1 (by omega) (by omega) (by decide)
    k_extra "s35"
    refine modI (by decide) ?_
    exact hq
  intro D' h' tk' n' ts' ht' F' N' O'
  k_extra "s13"
  exact hk _ _ _ _ (by rw [byteArr_size,List.length_map,itemsN_length];omega) (by rw [byteArr_size,List.length_map,itemsN_length];omega) F' N'
theorem law_d {fa : Addr} {o1 o2 o3 o4 o5 o6 : Obj} {n bk : Nat} {tn tb : Tok} (hS : Site w A D h₀ L) (hR : Room A 60) (hF : Fr h₀ L hp m)
  (hN : News h₀ L hp [(L + 1 + 1 + 1 + 1 + 1 + 1,o6),(L + 1 + 1 + 1 + 1 + 1,o5),(L + 1 + 1 + 1 + 1,o4),(L + 1 + 1 + 1,o3),(L + 1 + 1,o2),(L + 1,o1),(504,tabObj #[]),(352,tabObj #[]),(204,tabObj #[]),(518,tabObj #[])])
  (h6 : o6.data = .cell (some (.int (n : Int) tn))) (h4 : o4.data = .cell none) (h5 : o5.data = .cell none) (hbl : m (ofString "block") = some (.int (bk : Int) tb)) (hL : @LT.lt Nat _ 518 L)
  (hk : ∀ (lf tr : Addr) (t1 t2 : Tok) (nt : Nat) (p4 : Obj) (h' : Heap) (tk' : Nat) (news : Led),Fr h₀ L h' m → News h₀ L h' news →
     (L + 1 + 1 + 1 + 1 + 1 + 1,o6) ∈ news → (L + 1 + 1 + 1 + 1 + 1,o5) ∈ news → (L + 1 + 1 + 1 + 1,p4) ∈ news → (L + 1 + 1 + 1,o3) ∈ news → (L + 1 + 1,o2) ∈ news → (L + 1,o1) ∈ news → (504,tabObj #[]) ∈ news → (352,tabObj #[]) ∈ news → (204,tabObj #[]) ∈ news → (∃ ps,(518,tabObj ps) ∈ news) →
     (∀ nl,(∀ q ∈ news,q.1 ≠ L + 1 + 1 + 1 + 1 + 1 → q ∈ nl) → LamIs nl lf n) → (tr,tupO lf n bk t1 t2 nt) ∈ news → p4.data = .cell (some (.ref tr)) → 
     wpAny (model pw w) A (execs ((bodyS (tp 33)).drop 7) (lwE L fa)) Q E ⟨h',gs,dr,tk',os⟩) :
  wpAny (model pw w) A (execs ((bodyS (tp 33)).drop 6) (lwE L fa)) Q E ⟨hp,gs,dr,tk,os⟩ :=by
  k_extra "mx"
  k_extra "s29"
  k_dflt (refine' lamU (qual :=lamQ) ?F ?N ?T ?C ?cd ?hm ?t ?nf ?cl ?ql ?df ?_;(case F=>k_asm);(case N=>k_asm);(case T=>k_asm);(case C=>exact codeHd_of_K (c :=520) (P :=518) X1 (by kernel_rfl));(case cd=>exact rfl);(case hm=>k_mem);(case t=>exact True.intro);(case nf=>exact rfl);(case cl=>exact rfl);(case ql=>kernel_rfl);(case df=>exact rfl))
  intro f c' oc vs tt ctv pm h2 tk2 nl F2 N2 KL m1 m2 md mv mP l5
  have a6 :=KL _ (.head _) (neN (Om.l5s 6 hL rfl))
  have a5 :=KL _ (.tail _ (.head _)) (neN (Om.l5s 5 hL rfl))
  have a4 :=KL _ (.tail _ (.tail _ (.head _))) (neN (Om.l5s 4 hL rfl))
  have a3 :=KL _ (.tail _ (.tail _ (.tail _ (.head _)))) (neN (by exact Om.n21 ‹_›))
  have a2 :=KL _ (.tail _ (.tail _ (.tail _ (.tail _ (.head _))))) (neN (by exact Om.n20 ‹_›))
  have a1 :=KL _ (.tail _ (.tail _ (.tail _ (.tail _ (.tail _ (.head _)))))) (neN (by exact Om.n19 ‹_›))
  have b1 :=KL (504,tabObj #[]) (by k_mem) (show (504 : Nat) ≠ 518 by decide)
  have b2 :=KL (352,tabObj #[]) (by k_mem) (show (352 : Nat) ≠ 518 by decide)
  have b3 :=KL (204,tabObj #[]) (by k_mem) (show (204 : Nat) ≠ 518 by decide)
  have f4 : (L + 1 + 1 + 1 + 1 : Addr) ≠ f :=Nat.ne_of_lt (l5 (L + 1 + 1 + 1 + 1,o4) (by k_mem))
  have f5 : (L + 1 + 1 + 1 + 1 + 1 : Addr) ≠ f :=Nat.ne_of_lt (l5 (L + 1 + 1 + 1 + 1 + 1,o5) (by k_mem))
  have c5 : c' ≠ L + 1 + 1 + 1 + 1 + 1 :=News.ne N2 m2 a5 (fun e=>by rw [e,h5] at md;cases md)
  have c4 : c' ≠ L + 1 + 1 + 1 + 1 :=News.ne N2 m2 a4 (fun e=>by rw [e,h4] at md;cases md)
  clear KL l5
  k_extra "s36"
  rename News _ _ _ (_ :: nl)=>N3
  rename ∀ p ∈ nl,p.1 < _=>l3
  k_dflt (refine' stCU (o :=o4) ?F ?N ?c ?m ?d ?_ ?a ?b;(case a=>rfl);(case b=>rfl);(case F=>k_asm);(case N=>exact N3);(case c=>rfl);(case m=>k_mem);(case d=>exact h4))
  intro h9 o9 t9 news' F9 N9 KC MC d9
  have kk : ∀ q ∈ nl,q.1 ≠ L + 1 + 1 + 1 + 1 → q ∈ news' :=fun q hq hn=>KC q (.tail _ hq) hn
  have z6 :=kk _ a6 (neN (by exact Om.n25))
  refine hk f _ _ _ _ o9 h9 _ news' F9 N9 z6 (kk _ a5 (neN (by exact Om.n23))) MC (kk _ a3 (neN (by exact Om.n22))) (kk _ a2 (neN (by exact Om.n24))) (kk _ a1 (neN (Om.l6 1 4 rfl))) (kk _ b1 (neN (Om.l5 4 hL rfl))) (kk _ b2 (neN (Om.l5 4 hL rfl))) (kk _ b3 (neN (Om.l5 4 hL rfl))) ⟨_,kk _ mP (neN (Om.l5 4 hL rfl))⟩
    (fun nl2 k2=>⟨_,_,_,_,_,_,_,_,_,k2 _ (kk _ m1 (Ne.symm f4)) (Ne.symm f5),k2 _ z6 (neN (by exact Om.n23)),h6,k2 _ (kk _ m2 c4) c5,md,mv⟩) (KC _ (.head _) (Ne.symm (Nat.ne_of_lt (l3 _ a4)))) d9
theorem law_e {fa : Addr} {o5 o6 p4 : Obj} {n bk d : Nat} {p : Int} {ky : Array UInt8} {lf tr : Addr} {t1 t2 tb tk1 td tp' tn : Tok} {nt : Nat} {news : Led} (hn : n = 20 ∧ bk = 22 ∨ n = 32 ∧ bk = 36) (hd6 : 6 ≤ d) (hd10 : d ≤ 10) (hp1 : 1 ≤ p) (hp2 : p ≤ 61) (hk1 : 1 ≤ ky.size) (hk2 : ky.size ≤ 24)
  (hS : Site w A D h₀ L) (hR : Room A 60) (hF : Fr h₀ L hp m) (hN : News h₀ L hp news) (hL : @LT.lt Nat _ 518 L)
  (hbl : m (ofString "block") = some (.int (bk : Int) tb)) (hky : m (ofString "key") = some (.bytes ky tk1)) (hdi : m (ofString "digits") = some (.int (d : Int) td)) (hpe : m (ofString "period") = some (.int p tp'))
  (a6 : (L + 1 + 1 + 1 + 1 + 1 + 1,o6) ∈ news) (h6 : o6.data = .cell (some (.int (n : Int) tn))) (a5 : (L + 1 + 1 + 1 + 1 + 1,o5) ∈ news) (h5 : o5.data = .cell none) (a4 : (L + 1 + 1 + 1 + 1,p4) ∈ news) (h4 : p4.data = .cell (some (.ref tr))) (b3 : (204,tabObj #[]) ∈ news)
  (hLam : ∀ nl,(∀ q ∈ news,q.1 ≠ L + 1 + 1 + 1 + 1 + 1 → q ∈ nl) → LamIs nl lf n) (hT : (tr,tupO lf n bk t1 t2 nt) ∈ news)
  (hk : ∀ (dv dd : Addr) (p5 : Obj) (h' : Heap) (tk' : Nat) (news' : Led),Fr h₀ L h' m → News h₀ L h' news' → (∀ q ∈ news,q.1 ≠ L + 1 + 1 + 1 + 1 + 1 → q ∈ news') → (L + 1 + 1 + 1 + 1 + 1,p5) ∈ news' → p5.data = .cell (some (.ref dv)) →
     DevIs w news' dv dd tr lf (fun o=>hashB o n) ky n bk d p → 
     wpAny (model pw w) A (execs ((bodyS (tp 33)).drop 8) (lwE L fa)) Q E ⟨h',gs,dr,tk',os⟩) :
  wpAny (model pw w) A (execs ((bodyS (tp 33)).drop 7) (lwE L fa)) Q E ⟨hp,gs,dr,tk,os⟩ :=by
  k_extra "mx"
  k_extra "s21"
  refine totp_new ky lf tr n bk d p _ _ _ _ _ _ _ _ ‹_› (by exact Om.n1 ‹_› (by kernel_rfl!)) (Om.h2 hn) (by exact Om.c7 ‹_›) (by exact Om.c7 ‹_›) hp1 hT (by k_extra "site") (by k_extra "roomle") ‹_› ‹_› ‹_› ?_
  intro x dx u h' tk' F' N' l1 l2
  k_dflt (refine' stCU (o :=o5) ?F ?N ?c ?m ?d ?_ ?a ?b;(case a=>rfl);(case b=>rfl);(case F=>k_asm);(case N=>exact N');(case c=>rfl);(case m=>k_mem);(case d=>exact h5))
  intro h9 o9 t9 news' F9 N9 KC MC d9
  have n5 : (L + 1 + 1 + 1 + 1 + 1 : Addr) ≠ dx :=Nat.ne_of_lt (l1 _ a5)
  have n6 : (L + 1 + 1 + 1 + 1 + 1 : Addr) ≠ x :=Nat.ne_of_lt (Nat.lt_trans (l1 _ a5) l2)
  have kk : ∀ q ∈ news,q.1 ≠ L + 1 + 1 + 1 + 1 + 1 → q ∈ news' :=fun q hq hn=>KC q (.tail _ (.tail _ hq)) hn
  have nT : tr ≠ L + 1 + 1 + 1 + 1 + 1 :=News.ne hN hT a5 (fun e=>by rw [← e] at h5;cases h5)
  have tb : TabSt news' 204 (posOf hmS) hmQ :=.inl (kk _ b3 (neN (Om.l5 5 hL rfl)))
  exact hk x dx o9 h9 _ news' F9 N9 kk MC d9 ⟨KC _ (.head _) (Ne.symm n6),lam_const (Om.h1 hn) (hLam _ kk),tb,u,_,_,_,_,kk _ hT nT,KC _ (.tail _ (.head _)) (Ne.symm n5), .inl rfl⟩
end
section
open PySem.Calls PySem.Builtin PySem.Builtin.Str
noncomputable def fmtX : Percent :={ width :=some 2,zero :=true,type :=120 }
noncomputable def hexD (v : Int) : List Nat :=(Nat.toDigits 16 v.natAbs).map Char.toNat
noncomputable def hexL (v : Int) : List Nat :=match percentField fmtX true (hexD v) with
  | none=>hexD v
  | some l=>l
noncomputable def hexS (v : Int) : Str :=⟨(hexL v).toArray⟩
theorem pi_x {n : Bool} (h : n = false) (d : List Nat) : percentInt fmtX n d = d :=by
  subst h
  show [] ++ [] ++ List.replicate (0 - d.length) 48 ++ d = d
  rw [Nat.zero_sub]
  rfl
theorem hexL_len : ∀ v : Fin 256,(hexL ((v.val : Nat) : Int)).length = 2 :=by decide +kernel
theorem hexS_len {v : Int} (h0 : 0 ≤ v) (h1 : v < 256) : (hexS v).length = 2 :=by
  have h :=hexL_len ⟨v.toNat,by exact Om.t2 ‹_› ‹_›⟩
  rw [show (((⟨v.toNat,by exact Om.t2 ‹_› ‹_›⟩ : Fin 256).val : Nat) : Int) = v from Int.toNat_of_nonneg h0] at h
  show (hexL v).toArray.size = 2
  rw [List.size_toArray,h]
theorem hex_meets (v : Int) (t u : Tok) (h0 : 0 ≤ v) (h1 : v < 256) :
    Meets («str.__mod__» ⟨[.str ⟨#[37, 48, 50, 120]⟩ t, .int v u], []⟩) (fun _ R s=>∀ t' k,R (.ok (.ret (.str (hexS v) t'))) { s with toks :=k }) :=by
  have hlen :=hexS_len h0 h1
  apply KPc.meets_of
  intro _ _ _ _ _ _ _
  rw [KPc.entry_is]
  unfold Builtin.Str.percentFormat
  refine wpAny_bind (wpAny_isInstance (typeIs_int _ _ _) F.sub_int_tuple ?_)
  refine wpAny_bind (wpAny_of_eq (a :=none) rfl ?_)
  refine wpAny_bind (wpAny_of_eq (KPc.fills _ _) ?_)
  kpc_if
  refine wpAny_bind (wpAny_pure ?_)
  refine wpAny_bind ?_
  rw [KPc.range_list]
  refine KPc.start ?_
  intro _ _
  refine KPc.turn ?_
  kpc_check
  (repeat kpc_if)
  refine wpAny_bind ?_
  refine wpAny_holding ?_
  (repeat kpc_if)
  refine wpAny_bind (wpAny_of_eq (a :=v) rfl ?_)
  (repeat kpc_if)
  refine wpAny_bind (wpAny_pure ?_)
  refine wpAny_pure ?_
  have hdf : decide (v < 0) = false :=decide_eq_false (by exact Int.not_lt.mpr ‹_›)
  refine pf_step (f' :=fmtX) (x' :=hexD v) rfl (pi_x hdf _) (fun hn=>?_) (fun l hl2=>?_)
  · refine wpAny_pure ?_
    refine KPc.after_add0 (y :=hexS v) (by kpc_g) ?_ (by kpc_obj) ?_
    · refine congrArg (fun l : List Nat=>(⟨l.toArray⟩ : Str)) ((pi_x hdf _).trans ?_)
      unfold hexL
      rw [hn]
      rfl
    · intro _ _
      refine KPc.turn ?_
      refine wpAny_ite (KPc.ite_no (KPc.short_good (by kpc_g) (by omega)) ?_)
      (repeat kpc_if)
      refine wpAny_pure ?_
      kpc_if
      exact KPc.finish_ok (by kpc_g) (by omega) rfl ‹_›
  · refine wpAny_pure ?_
    refine KPc.after_add0 (y :=hexS v) (by kpc_g) ?_ (by kpc_obj) ?_
    · unfold hexS hexL
      rw [hl2]
    · intro _ _
      refine KPc.turn ?_
      refine wpAny_ite (KPc.ite_no (KPc.short_good (by kpc_g) (by omega)) ?_)
      (repeat kpc_if)
      refine wpAny_pure ?_
      kpc_if
      exact KPc.finish_ok (by kpc_g) (by omega) rfl ‹_›
noncomputable def hexC (k : Int) : Nat :=if k < 10 then 48 + k.toNat else 87 + k.toNat
theorem hexL_two : ∀ v : Fin 256,hexL ((v.val : Nat) : Int) = [hexC (((v.val : Nat) : Int).fdiv 16),hexC (((v.val : Nat) : Int).fmod 16)] :=by decide +kernel
theorem hexS_two {v : Int} (h0 : 0 ≤ v) (h1 : v < 256) : hexS v = ⟨#[hexC (v.fdiv 16),hexC (v.fmod 16)]⟩ :=by
  have h :=hexL_two ⟨v.toNat,by exact Om.t2 ‹_› ‹_›⟩
  rw [show (((⟨v.toNat,by exact Om.t2 ‹_› ‹_›⟩ : Fin 256).val : Nat) : Int) = v from Int.toNat_of_nonneg h0] at h
  unfold hexS
  rw [h]
noncomputable abbrev signs16 : Str :=ofString "0123456789abcdef"
section
variable {prog : Program} {w : World} {A : Around} {E : VP} {h : Heap} {g : Array GenState} {d : Drawn} {t : Nat} {os : OsState} {Q : VP}
theorem hexM {v : Int} {t1 u : Tok} (h0 : 0 ≤ v) (h1 : v < 256) (hq : ∀ u t',Q (.str (hexS v) u) ⟨h,g,d,t',os⟩) : wpAny (model prog w) A (binaryOp .Mod (.str (ofString "%02x") t1) (.int v u)) Q E ⟨h,g,d,t,os⟩ :=
  KPc.mod_lit (s :=⟨h,g,d,t,os⟩) (X' :=⟨#[37, 48, 50, 120]⟩) (by decide +kernel) (shown (N :=2 ^ 1920) (by exact Om.i5 ‹_› (by kernel_rfl!)) (Int.lt_trans h1 (by decide +kernel)) (Int.le_refl _)) (fun _ _=>hex_meets v t1 u h0 h1) fun t' k=>hq t' k
end
end
section
open PySem.Calls
noncomputable def zipS (f : Int → Str) (items : List Int) (ts : List Tok) : List Value :=List.zipWith (fun k t=>Value.str (f k) t) items ts
theorem paired_strs {f : Int → PySem.Str} : ∀ {items : List Int} {ys : List Value},Paired (fun k y=>∃ t,y = .str (f k) t) items ys → ∃ ts : List Tok,ts.length = items.length ∧ ys = zipS f items ts
  :=fun h=>by
  induction h with
  | nil=>exact ⟨[],rfl,rfl⟩
  | cons h1 _ ih =>
    obtain ⟨t,rfl⟩ :=h1
    obtain ⟨ts,hl,rfl⟩ :=ih
    exact ⟨t :: ts,by simp [hl],rfl⟩
theorem strsAre_zip {f : Int → PySem.Str} : ∀ {items : List Int} {ts : List Tok},ts.length = items.length → StrsAre (zipS f items ts) (items.map f)
  | [], [],_=>.nil
  | _ :: _, [],h=>by simp at h
  | [],_ :: _,h=>by simp at h
  | _ :: _,_ :: _,h=>.cons _ _ (strsAre_zip (by simpa using h))
section
variable {w : World} {prog : Program} {A : Around} {E : VP} {s s₁ : Shared} {env : Env} {h₀ : Heap} {L : Addr} {m : MP} {news : Led}
theorem ListComp_KS (f : Int → Str) {elt iter : PySem.Expr} {x : PySem.Str} {px : Pos} {scope : Scope} {cl : List (Str × Addr)} {pos : Pos} {Q : VP}
    (_F : Fr h₀ L s.heap m) (hclos : closureFor scope env = pure cl) (hcell : ∀ y ∈ scope.names,y.2 ≠ .cell) (hkind : scope.kind = .function)
    (hnames : ∀ y ∈ scope.names,y.2 = .local → scope.names.lookup y.1 = some .local) (hx : scope.names.lookup x = some .local)
    (h : wpAny (model prog w) A (eval iter env) (LcSrc prog w A h₀ L m env scope cl x [] elt (fun (k : Int) t=>.int k t) (fun _=>true) (fun k y=>∃ t,y = .str (f k) t) Q) E s)
    (hs : autoParam (∀ x,foldedSetIterable iter env x = pure x) ap._auto_2) :
    wpAny (model prog w) A (eval (.ListComp elt [⟨.Name x px,iter, [], 0⟩] scope pos) env) Q E s :=
  ListComp_K (fun (k : Int) t=>.int k t) decI decI_mk (fun _=>true) (fun k y=>∃ t,y = .str (f k) t) hclos hcell hkind hnames hx h hs
noncomputable def EltS (prog : Program) (w : World) (A : Around) (env : Env) (scope : Scope) (cl : List (Str × Addr)) (x : Str) (elt : PySem.Expr) (f : Int → Str) (items : List Int) (s₁ : Shared) : Prop :=
  ∀ C a t s₃ m₃ (Q' E' : VP),a ∈ items → s₃.heap.Ns C m₃ → m₃ x = some (.int a t) → (∀ b o,s₁.heap.get? b = some o → s₃.heap.get? b = some o) → (∀ t k,Q' (.str (f a) t) { s₃ with toks :=k }) →
    wpAny (model prog w) A (eval elt (compEnvC scope cl C env)) Q' E' s₃
theorem srcS {f : Int → PySem.Str} {elt : PySem.Expr} {x : PySem.Str} {scope : Scope} {cl : List (Str × Addr)} {Q : VP} {xv : Value} {items : List Int} {h : Heap} {g : Array GenState} {d : Drawn} {t : Nat} {os : OsState} (hh : Hands prog w A (fun (k : Int) t=>.int k t) items xv ⟨h,g,d,t,os⟩)
    (F : Fr h₀ L h m) (N : News h₀ L h news) (hsz : items.length ≤ sizeLine) (he : EltS prog w A env scope cl x elt f items ⟨h,g,d,t,os⟩)
    (hQ : ∀ D h' tk n ts,ts.length = items.length → Fr h₀ L h' m → News h₀ L h' ((D, { cls :=.type "list",data :=.seq (zipS f items ts).toArray n }) :: news) → LCg.Off1 D news → Q (.ref D) ⟨h',g,d,tk,os⟩) :
    LcSrc prog w A h₀ L m env scope cl x [] elt (fun (k : Int) t=>.int k t) (fun _=>true) (fun k y=>∃ t,y = .str (f k) t) Q xv ⟨h,g,d,t,os⟩ :=by
  refine ⟨items,news,F,N,hsz,hh,⟨fun C a t s₃ m₃ E' _ _ _ _=>?_,fun C a t s₃ m₃ E' hi _ hn hm keep=>?_⟩,fun D h' tk n ys F' N' O' P'=>?_⟩
  · exact wpAny_pure ⟨rfl,Keeps.self _⟩
  · exact he C a t s₃ m₃ _ _ hi hn hm keep fun t k=>⟨⟨t,rfl⟩,Keeps.tok _ _⟩
  · rw [List.filter_eq_self.mpr (fun _ _=>rfl)] at P'
    obtain ⟨ts,hl,rfl⟩ :=paired_strs P'
    exact hQ D h' tk n ts hl F' N' O'
theorem sum_two {f : Int → PySem.Str} : ∀ {items : List Int},(∀ k ∈ items,(f k).length ≤ 2) → ((items.map f).map (·.length)).sum ≤ 2 * items.length
  | [],_=>by simp
  | a :: r,h=>by
    have h1 :=h a (.head _)
    have h2 :=sum_two (items :=r) fun k hk=>h k (.tail _ hk)
    simp only [List.map_cons,List.sum_cons,List.length_cons]
    omega
theorem joinS {h : Heap} {g : Array GenState} {d : Drawn} {t : Nat} {os : OsState} {Q : VP} {D : Addr} {n : Nat} {f : Int → PySem.Str} {items : List Int} {ts : List Tok} {u : Tok} (N : News h₀ L h news) (hm : (D,(⟨.type "list",none, .seq (zipS f items ts).toArray n, #[]⟩ : Obj)) ∈ news)
    (ht : ts.length = items.length) (hf : ∀ k ∈ items,(f k).length ≤ 2) (hz : items.length ≤ 1000)
    (hq : ∀ u t',Q (.str (Txt.join (ofString "") (items.map f)) u) ⟨h,g,d,t',os⟩) : wpAny (model prog w) A (call (.builtin "str.join") [.str (ofString "") u, .ref D]) Q E ⟨h,g,d,t,os⟩ :=by
  refine join_listW (s :=⟨h,g,d,t,os⟩) (News.isList N hm) (strsAre_zip ht) (by decide) ?_ fun t' k=>hq _ _
  have :=sum_two hf
  rw [List.length_map]
  omega
theorem item16 {h : Heap} {g : Array GenState} {d : Drawn} {t : Nat} {os : OsState} {Q : VP} {value slice : PySem.Expr} {t1 u : Tok} {k : Int} (h0 : 0 ≤ k) (h1 : k < 16) (hq : ∀ u t',Q (.str ⟨#[hexC k]⟩ u) ⟨h,g,d,t',os⟩)
    (hs : autoParam (subscripted slice false (.str signs16 t1) (.int k u) = operate [.str signs16 t1, .int k u] (getItem (.str signs16 t1) (.int k u))) ap._auto_3)
    (ht : autoParam (∀ r,letTemporaryGo value (.str signs16 t1) r = pure ()) ap._auto_4) :
    wpAny (model prog w) A (subscriptTail value slice (.str signs16 t1) (.int k u)) Q E ⟨h,g,d,t,os⟩ :=by
  have hl : signs16.length = 16 :=by decide +kernel
  refine item_str (s :=⟨h,g,d,t,os⟩) (by unfold fitsSsize;simp;omega) (by rw [hl];exact Om.i5 ‹_› (by kernel_rfl!)) (by rw [hl];omega) (fun _=>?_) hs ht
  have e : ∀ k : Fin 16,Txt.item signs16 ((k.val : Nat) : Int) = ⟨#[hexC ((k.val : Nat) : Int)]⟩ :=by decide +kernel
  have e2 :=e ⟨k.toNat,by exact Om.t2 ‹_› ‹_›⟩
  rw [show (((⟨k.toNat,by exact Om.t2 ‹_› ‹_›⟩ : Fin 16).val : Nat) : Int) = k from Int.toNat_of_nonneg h0] at e2
  rw [e2]
  exact hq _ _
theorem neSameB {h : Heap} {g : Array GenState} {d : Drawn} {t : Nat} {os : OsState} {Q : VP} {b : Array UInt8} {u v : Tok} (hq : ∀ t',Q (.bool false) ⟨h,g,d,t',os⟩) : wpAny (model prog w) A (compareOp .NotEq (.bytes b u) (.bytes b v)) Q E ⟨h,g,d,t,os⟩ :=
  PySem.W.ne_bytes (by rw [bne_self_eq_false];exact hq _)
theorem neSameS {h : Heap} {g : Array GenState} {d : Drawn} {t : Nat} {os : OsState} {Q : VP} {x : PySem.Str} {u v : Tok} (hq : ∀ t',Q (.bool false) ⟨h,g,d,t',os⟩) : wpAny (model prog w) A (compareOp .NotEq (.str x u) (.str x v)) Q E ⟨h,g,d,t,os⟩ :=
  PyProof.Rows.ne_str (by rw [bne_self_eq_false];exact hq _)
end
end
theorem bInts_mem {b : Array UInt8} {k : Int} (h : k ∈ KBw.bInts b) : 0 ≤ k ∧ k < 256 :=bInts_range k h
noncomputable def keyX (ky : Array UInt8) : Str :=Txt.join (ofString "") ((KBw.bInts ky).map hexS)
section
variable {w : World} {A : Around} {D : SD} {hp h₀ : Heap} {gs : Array GenState} {dr : Drawn} {tk : Nat} {os : OsState} {L : Addr} {m : MP} {news : Led} {Q E : VP}
variable {dv dd tr lf : Addr} {H : Array UInt8 → Array UInt8} {ky : Array UInt8} {n bk d : Nat} {p : Int}
theorem hexkey_body (hD : DevIs w news dv dd tr lf H ky n bk d p) (hky : ky.size ≤ 24) {g : Heap} {L' : Addr} {A1 : Around} {D1 : SD} {Q1 : FP} {E1 : VP} {mean : ExcName → Option Value} {mg mb : MP} (T1 : Top topProg lt mean mg mb g)
   (S1 : Site w A1 D1 g L') (R1 : Room A1 4) (X1 : Frag.In (K w.params) g) (F1 : Fr g L' hp (fun y=>List.lookup y [(ofString "self", .ref dv)])) (N1 : News g L' hp news)
   (hret : ∀ (u : Tok) (h' : Heap) (tk' : Nat) (m' : MP),Fr g L' h' m' → News g L' h' news → Q1 (.ret (.str (keyX ky) u)) ⟨h',gs,dr,tk',os⟩) :
   wpAny (model pw w) A1 (execs (bodyS (mt 21 14)) (envX (ofString "TOTP.hex_key") (fS (mt 21 14)) L' 289 (.ref 288) [])) Q1 E1 ⟨hp,gs,dr,tk,os⟩ :=by
  k_extra "G"
  obtain ⟨h1,h2,h3,u,t5,t6,nt,kh,h4,h5,h6⟩ :=id hD
  k_unfold
  have hz1 : (KBw.bInts ky).length ≤ sizeLine :=by rw [KBw.ints_length,sizeLine_eq];exact Om.n1 ‹_› (by kernel_rfl!)
  have hz2 : (KBw.bInts ky).length ≤ 1000 :=by rw [KBw.ints_length];exact Om.n1 ‹_› (by kernel_rfl!)
  have hf2 : ∀ k ∈ KBw.bInts ky,(hexS k).length ≤ 2 :=fun k hk=>by rw [hexS_len (bInts_mem hk).1 (bInts_mem hk).2];exact Nat.le_refl _
  k_extra "s10"
  k_dflt (refine ListComp_KS hexS ‹_› (by with_unfolding_all rfl) (by decide) (by rfl) (by decide) (by rfl) ?_)
  repeat' ((fail_if_success (with_reducible show LcSrc _ _ _ _ _ _ _ _ _ _ _ _ _ _ _ _ _ _));k_extra "step")
  k_dflt (refine srcS (hands_bytes (Room.h ‹_›)) ‹_› ‹_› hz1 ?_ ?_)
  · clear hret
    intro C a t s₃ m₃ Q' E' ha hns hm keep hq
    k_extra "G"
    obtain ⟨h3,g3,d3,t3,os3⟩ :=s₃
    k_unfold
    dsimp only at keep hns hq
    have ha0 :=bInts_mem ha
    k_extra "s35"
    exact hexM ha0.1 ha0.2 hq
  intro D' h' tk' n' ts' ht' F' N' O'
  k_extra "s37"
  k_dflt (refine joinS ‹_› (.head _) ht' hf2 hz2 ?_)
  intro u t'
  exact hret _ _ _ _ F' (news_tail N')
theorem hexkey_spec (hD : DevIs w news dv dd tr lf H ky n bk d p) (hky : ky.size ≤ 24) (hS : Site w A D h₀ L) (hR : Room A 5) (hF : Fr h₀ L hp m) (hN : News h₀ L hp news)
   (hret : ∀ (u : Tok) (h' : Heap) (tk' : Nat),Fr h₀ L h' m → News h₀ L h' news → Q (.str (keyX ky) u) ⟨h',gs,dr,tk',os⟩) :
   codeAny (model pw w) A (.call (.ref 289) ⟨[.ref dv], []⟩) (fun r s'=>match r with | .ok (.ret v)=>Q v s' | .ok _=>False | .error e=>E e s') ⟨hp,gs,dr,tk,os⟩ :=by
  k_dflt k_extra "enter"
  refine hexkey_body hD hky T1 S1 R1 X1 ‹_› ‹_› ?_
  intro u h' tk' m' F' N'
  exact hQ1 _ _ _ _ F' N' (fun F0 N0=>hret _ _ _ F0 N0)
end
section
variable {w : World} {A : Around} {D : SD} {hp h₀ : Heap} {gs : Array GenState} {dr : Drawn} {tk : Nat} {os : OsState} {L : Addr} {m : MP} {news : Led} {E : VP} {Q : FP}
theorem pads_any {Q : VP} (ky : Array UInt8) (n bk : Nat) (t1 t2 t3 : Tok) (hn : n = 20 ∧ bk = 22 ∨ n = 32 ∧ bk = 36) (hks : ky.size < 2 ^ 10)
   (hS : Site w A D h₀ L) (hR : Room A 2) (hF : Fr h₀ L hp m) (hN : News h₀ L hp news)
   (hret : ∀ (lp : Addr) (ua ub : Tok) (ne : Nat) (h' : Heap) (tk' : Nat),Fr h₀ L h' m → News h₀ L h' ((lp,(⟨.type "list",none, .seq #[Value.bytes (pad54 (fun o=>hashB o n) ky bk) ua,Value.bytes (pad92 (fun o=>hashB o n) ky bk) ub] ne, #[]⟩ : Obj)) :: news) → Q (.ref lp) ⟨h',gs,dr,tk',os⟩) :
      wpAny (model pw w) A (call (.ref 490) [.bytes ky t1, .int (n : Int) t2, .int (bk : Int) t3]) Q E ⟨hp,gs,dr,tk,os⟩ :=by
  by_cases h : ky.size ≤ bk
  · unfold pad54 pad92 at hret
    rw [keyP_le h] at hret
    exact law_pads_spec ky n bk t1 t2 t3 (Om.h3 hn).2.1 h hS hR hF hN hret
  · unfold pad54 pad92 at hret
    rw [keyP_gt (by exact Om.n32 ‹_›)] at hret
    exact law_pads_long ky n bk t1 t2 t3 (Om.h1 hn) (Om.h3 hn).2.1 (Om.h3 hn).2.2.2.1 (by exact Om.n32 ‹_›) hks hS hR hF hN hret
theorem law_f {fa : Addr} {o6 p5 : Obj} {n bk d : Nat} {p : Int} {ky : Array UInt8} {dv dd tr lf : Addr} {tb tk1 tn : Tok} (hn : n = 20 ∧ bk = 22 ∨ n = 32 ∧ bk = 36) (hk1 : 1 ≤ ky.size) (hk2 : ky.size ≤ 24)
  (hS : Site w A D h₀ L) (hR : Room A 60) (hF : Fr h₀ L hp m) (hN : News h₀ L hp news) 
  (hbl : m (ofString "block") = some (.int (bk : Int) tb)) (hky : m (ofString "key") = some (.bytes ky tk1))
  (a6 : (L + 1 + 1 + 1 + 1 + 1 + 1,o6) ∈ news) (h6 : o6.data = .cell (some (.int (n : Int) tn))) (a5 : (L + 1 + 1 + 1 + 1 + 1,p5) ∈ news) (h5 : p5.data = .cell (some (.ref dv)))
  (hD : DevIs w news dv dd tr lf (fun o=>hashB o n) ky n bk d p)
  (hk : ∀ (lp : Addr) (ua ub : Tok) (ne : Nat) (h' : Heap) (tk' : Nat),Fr h₀ L h' (fun z=>if z = ofString "pads" then some (.ref lp) else m z) → News h₀ L h' ((lp,(⟨.type "list",none, .seq #[Value.bytes (pad54 (fun o=>hashB o n) ky bk) ua,Value.bytes (pad92 (fun o=>hashB o n) ky bk) ub] ne, #[]⟩ : Obj)) :: news) →
     wpAny (model pw w) A (execs ((bodyS (tp 33)).drop 11) (lwE L fa)) Q E ⟨h',gs,dr,tk',os⟩) :
  wpAny (model pw w) A (execs ((bodyS (tp 33)).drop 8) (lwE L fa)) Q E ⟨hp,gs,dr,tk,os⟩ :=by
  k_extra "mx"
  obtain ⟨h1,h2,h3,u,t5,t6,nt,kh,h4,h5',h6'⟩ :=id hD
  k_extra "s38"
  refine pads_any ky n bk _ _ _ hn (by exact Om.n5 ‹_› (by kernel_rfl!)) (by k_extra "site") (by k_extra "roomle") ‹_› ‹_› ?_
  intro lp ua ub ne h' tk' F' N'
  obtain ⟨NN,hNN⟩ : ∃ nn,nn = news :=⟨_,rfl⟩
  k_extra "s39"
  refine neSameB ?_
  intro t'
  k_extra "s40"
  (k_here;k_dflt (refine' propI ?k1 ?k2 ?k3 ?k4 ?k5 ?k6 ?k7 ?k8 ?k9 ?_;(case k1=>k_asm);(case k2=>k_asm);(case k3=>k_inst);(case k4=>k_is);(case k5=>k_is);(case k6=>k_is);(case k7=>k_is);(case k8=>k_is);(case k9=>k_is);k_whole);intro _ _)
  refine' hexkey_spec (hD.mono (fun q hq=>?sub)) hk2 ?aS ?aR ?aF ?aN ?_
  (case aF=>assumption)
  (case aN=>assumption)
  (case sub=>k_mem)
  (case aS=>k_extra "site")
  (case aR=>exact Room.in1 (Room.le (j :=6) hR (by decide)))
  intro u' h' t' F' N'
  refine handed_on rfl ?_
  (try dsimp only)
  have hz1 : (KBw.bInts ky).length ≤ sizeLine :=by rw [KBw.ints_length,sizeLine_eq];exact Om.n1 ‹_› (by kernel_rfl!)
  have hz2 : (KBw.bInts ky).length ≤ 1000 :=by rw [KBw.ints_length];exact Om.n1 ‹_› (by kernel_rfl!)
  have hf2 : ∀ k ∈ KBw.bInts ky,(hexS k).length ≤ 2 :=fun k hk=>by rw [hexS_len (bInts_mem hk).1 (bInts_mem hk).2];exact Nat.le_refl _
  k_extra "s10"
  k_dflt (refine ListComp_KS hexS ‹_› (by with_unfolding_all rfl) (by decide) (by rfl) (by decide) (by rfl) ?_)
  repeat' ((fail_if_success (with_reducible show LcSrc _ _ _ _ _ _ _ _ _ _ _ _ _ _ _ _ _ _));k_extra "step")
  k_dflt (refine srcS (hands_bytes (Room.h ‹_›)) ‹_› ‹_› hz1 ?_ ?_)
  · clear hk
    intro C a t s₃ m₃ Q' E' ha hns hm keep hq
    obtain ⟨h3,g3,d3,t3,os3⟩ :=s₃
    dsimp only at keep hns hq
    have ha0 :=bInts_mem ha
    have hq1 : 0 ≤ a.fdiv 16 ∧ a.fdiv 16 < 16 :=by rw [Int.fdiv_eq_ediv_of_nonneg a (by decide)];exact Om.g4 ha0
    have hq2 : 0 ≤ a.fmod 16 ∧ a.fmod 16 < 16 :=⟨Int.fmod_nonneg_of_pos _ (by decide),Int.fmod_lt_of_pos _ (by decide)⟩
    rw [hexS_two ha0.1 ha0.2] at hq
    k_extra "s31"
    refine item16 hq1.1 hq1.2 ?_
    intro _ _
    k_extra "s31"
    refine item16 hq2.1 hq2.2 ?_
    intro _ _
    exact PyProof.Rows.add_str (s :=⟨_,_,_,_,_⟩) (fun u t=>hq u t) (show 1 + 1 ≤ sizeLine by decide +kernel)
  intro D' h' tk' n' ts' ht' F' N' O'
  k_extra "s37"
  k_dflt (refine joinS ‹_› (.head _) ht' hf2 hz2 ?_)
  intro u' t'
  refine neSameS ?_
  intro t'
  k_extra "s41"
  exact hk lp ua ub ne _ _ ‹_› (news_tail ‹_›)
end
section
open PySem.Calls
noncomputable def ItAt (news : Led) (it l : Addr) (i : Nat) : Prop :=∃ o,(it,o) ∈ news ∧ o.cls = .type "list_iterator" ∧ o.data = .fields #[.ref l, .int (i : Int) 0]
theorem turned_it {o : Obj} {l : Addr} {i : Nat} (d : o.data = .fields #[.ref l, .int (i : Int) 0]) : turned o = true :=by unfold turned;rw [d]
theorem ItAt.mono {a b : Led} {it l : Addr} {i : Nat} (h : ItAt a it l i) (k : ∀ q ∈ a,q.1 = it → q ∈ b) : ItAt b it l i :=let ⟨o,hm,r⟩ :=h;⟨o,k _ hm rfl,r⟩
section
variable {prog : Program} {w : World} {A : Around} {E : VP} {h h₀ : Heap} {g : Array GenState} {d : Drawn} {tk : Nat} {os : OsState} {m : MP} {news : Led} {env : Env}
theorem frExt {h' : Heap} {L b : Addr} (F : Fr h₀ L h m) (hx : Heap.ExtBut b h h') (hL : b ≠ L) (h0 : h₀.get? b = none) : Fr h₀ L h' m :=
  ⟨F.ns.extBut hx (Ne.symm hL),fun c x e=>hx c x (fun q=>by rw [q,h0] at e;cases e) (F.keep c x e),F.above⟩
inductive TurnL (h₀ : Heap) (L : Addr) (d : Drawn) (os : OsState) (it l : Addr) (oL : Obj) (i : Nat) (J : (Str → Option Value) → List (Addr × Obj) → Array GenState → Prop) (f : Flow) (s' : Shared) : Prop
  | mk (e : f = .next) (h' gs' tk' m' news') (q : s' = ⟨h',gs',d,tk',os⟩) (F : Fr h₀ L h' m') (N : News h₀ L h' news') (I : ItAt news' it l i) (hl : (l,oL) ∈ news') (hJ : J m' news' gs') : TurnL h₀ L d os it l oL i J f s'
inductive LcSt (L : Addr) (h₀ : Heap) (d : Drawn) (os : OsState) (it l : Addr) (oL : Obj) (vs : List Value) (J : Nat → (Str → Option Value) → List (Addr × Obj) → Array GenState → Prop) (n : Nat) (s : Shared) : Prop
  | mk (i h₁ g₁ tk₁ m₁ news₁) (e : n = vs.length - i) (hi : i ≤ vs.length) (q : s = ⟨h₁,g₁,d,tk₁,os⟩) (F : Fr h₀ L h₁ m₁) (N : News h₀ L h₁ news₁) (I : ItAt news₁ it l i) (hl : (l,oL) ∈ news₁) (hJ : J i m₁ news₁ g₁) : LcSt L h₀ d os it l oL vs J n s
theorem iter_listL {xn : PySem.Str} {px : Pos} {body : List Stmt} {Q : FP} {l : Addr} {vs : List Value} {oL : Obj} {nl : Nat} (J : Nat → (Str → Option Value) → List (Addr × Obj) → Array GenState → Prop)
    (hJ : ∀ i h₁ m₁ a b gs it o,News h₀ env.locals h₁ a → (it,o) ∈ a → o.cls = .type "list_iterator" → turned o = true → (∀ q ∈ a,q.1 ≠ it → q ∈ b) → J i m₁ a gs → J i m₁ b gs)
    (hJ0 : ∀ b,(∀ q ∈ news,q ∈ b) → J 0 m news g → J 0 m b g)
    (hh : A.handled = none) (F : Fr h₀ env.locals h m) (N : News h₀ env.locals h news) (hl : (l,oL) ∈ news) (cL : oL.cls = .type "list") (dL : oL.data = .seq vs.toArray nl) (h0 : J 0 m news g)
    (step : ∀ (i : Nat) (v : Value) (it : Addr) (m₁ : MP) (h₁ : Heap) (g₁ : Array GenState) (tk₁ : Nat) (news₁ : Led),vs[i]? = some v → J i m₁ news₁ g₁ → ItAt news₁ it l (i + 1) → (l,oL) ∈ news₁ → Fr h₀ env.locals h₁ m₁ → News h₀ env.locals h₁ news₁ →
      wpAny (model prog w) A (assign (.Name xn px) env v) (fun _ s₂=>wpAny (model prog w) A (execs body env) (TurnL h₀ env.locals d os it l oL (i + 1) (J (i + 1))) (fun _ _=>False) s₂) (fun _ _=>False) ⟨h₁,g₁,d,tk₁,os⟩)
    (hQ : ∀ h' g' tk' m' news',Fr h₀ env.locals h' m' → News h₀ env.locals h' news' → J vs.length m' news' g' → Q .next ⟨h',g',d,tk',os⟩) :
    wpAny (model prog w) A (pyIter (.ref l)) (fun it s₂=>codeAny (model prog w) A (.forLoop (.Name xn px) it body [] env) (fun r s'=>match r with | .ok f=>Q f s' | .error e=>cameBackBy (model prog w) A env E e s') s₂) E ⟨h,g,d,tk,os⟩ :=by
  have isl : ∀ {h' : Heap} {nw : Led},News h₀ env.locals h' nw → (l,oL) ∈ nw → h'.IsList l vs.toArray :=fun N' hm=>⟨oL,(N' _ hm).1,cL,nl,dL⟩
  refine wpAny_pyIter_list (s :=⟨h,g,d,tk,os⟩) (isl N hl) ?_
  have F1 : Fr h₀ env.locals (h.push { cls :=.type "list_iterator",data :=.fields #[.ref l, .int 0 0] }) m :=F.keeps fun b o e=>Heap.get?_push_of_some _ e
  have hnL : h.objs.size ≠ env.locals :=Ne.symm (Nat.ne_of_lt F.ns.lt)
  have hn0 : h₀.get? h.objs.size = none :=next_is_new F
  have N1 : News h₀ env.locals (h.push { cls :=.type "list_iterator",data :=.fields #[.ref l, .int 0 0] }) ((h.objs.size, { cls :=.type "list_iterator",data :=.fields #[.ref l, .int 0 0] }) :: news) :=fun q hq=>by
    rcases List.mem_cons.mp hq with rfl | hq
    · exact ⟨Heap.get?_push_size _ rfl,hnL,hn0⟩
    · exact ⟨Heap.get?_push_of_some _ (N q hq).1,(N q hq).2⟩
  generalize hit : h.objs.size = it at *
  refine codeAny_forLoop (LcSt env.locals h₀ d os it l oL vs J) ?_ vs.length ⟨0,_,g,tk,m,_,rfl,Nat.zero_le _,rfl,F1,N1,⟨_, .head _,rfl,rfl⟩, .tail _ hl,hJ0 _ (fun q hq=>.tail _ hq) h0⟩
  rintro n s ⟨i,h₁,g₁,tk₁,m₁,news₁,rfl,hi,rfl,F₁,N₁,⟨oI,hmI,cI,dI⟩,hl₁,J₁⟩
  have hIt : h₁.IsListIter it l i :=⟨oI,(N₁ _ hmI).1,cI,dI⟩
  by_cases hlt : i < vs.length
  · refine wpAny_pyNext_list_item (s :=⟨h₁,g₁,d,tk₁,os⟩) hIt (isl N₁ hl₁) (x :=vs[i]) (by simp [hlt]) fun h' hIt' sb=>?_
    k_extra "G"
    obtain ⟨oJ,eJ,cJ,dJ⟩ :=hIt'
    k_unfold
    have hne : ∀ q ∈ news₁,q.1 ≠ it → q ∈ (it,oJ) :: news₁.filter (fun p=>decide (p.1 ≠ it)) :=fun q hq hn=>.tail _ (List.mem_filter.mpr ⟨hq,decide_eq_true hn⟩)
    have F₂ : Fr h₀ env.locals h' m₁ :=frExt F₁ sb.extBut hnL hn0
    have N₂ : News h₀ env.locals h' ((it,oJ) :: news₁.filter (fun p=>decide (p.1 ≠ it))) :=fun q hq=>by
      rcases List.mem_cons.mp hq with rfl | hq
      · exact ⟨eJ,(N₁ _ hmI).2⟩
      · obtain ⟨a,b⟩ :=List.mem_filter.mp hq
        exact ⟨sb.extBut _ _ (of_decide_eq_true b) (N₁ q a).1,(N₁ q a).2⟩
    have hll : l ≠ it :=News.ne N₁ hl₁ hmI fun e=>by rw [← e,cL] at cI;injection cI with c3;exact absurd c3 (by decide)
    refine wpAny_mono (step i vs[i] it m₁ h' g₁ tk₁ _ (by simp [hlt]) (hJ _ _ _ _ _ _ _ _ N₁ hmI cI (turned_it dI) hne J₁) ⟨oJ, .head _,cJ,dJ⟩ (hne _ hl₁ hll) F₂ N₂) (fun _ s₂ h₂=>wpAny_mono h₂ (fun f s₃ h₃=>?_) fun _ _ z=>z.elim) fun _ _ z=>z.elim
    obtain ⟨rfl,h3,g3,tk3,m3,news3,rfl,F3,N3,I3,l3,J3⟩ :=h₃
    exact ⟨vs.length - (i + 1),Nat.sub_lt_sub_left hlt (Nat.lt_succ_self i),i + 1,h3,g3,tk3,m3,news3,rfl,hlt,rfl,F3,N3,I3,l3,J3⟩
  · have hie : i = vs.length :=Nat.le_antisymm hi (Nat.le_of_not_lt hlt)
    subst hie
    refine wpAny_pyNext_list_end (s :=⟨h₁,g₁,d,tk₁,os⟩) hh hIt (isl N₁ hl₁) (by simp) fun h' eb=>?_
    have hne : ∀ q ∈ news₁,q.1 ≠ it → q ∈ news₁.filter (fun p=>decide (p.1 ≠ it)) :=fun q hq hn=>List.mem_filter.mpr ⟨hq,decide_eq_true hn⟩
    refine wpAny_execs_nil (hQ h' g₁ tk₁ m₁ (news₁.filter fun p=>decide (p.1 ≠ it)) (frExt F₁ eb hnL hn0) (fun q hq=>?_) (hJ _ _ _ _ _ _ _ _ N₁ hmI cI (turned_it dI) hne J₁))
    k_extra "G"
    obtain ⟨a,b⟩ :=List.mem_filter.mp hq
    k_unfold
    exact ⟨eb _ _ (of_decide_eq_true b) (N₁ q a).1,(N₁ q a).2⟩
end
end
section
open PySem.Calls
section
variable {w : World} {h h₀ : Heap} {L : Addr} {dv dd tr lf : Addr} {H : Array UInt8 → Array UInt8} {ky : Array UInt8} {n bk d : Nat} {p : Int} {a b : Led}
theorem Turns2.keep (x : Turns2 dd a b) (N : News h₀ L h a) (hD : DevIs w a dv dd tr lf H ky n bk d p) (hT : TabF a) : Keep a b :=fun q hq ht=>by
  k_extra "G"
  obtain ⟨_,_,h3,u,t1,t2,nt,kh,_,h5,_⟩ :=hD
  k_unfold
  have tab : ∀ {P : Addr} {pos : Pos} {qn : PySem.Str},TabSt a P pos qn → q.1 ≠ P :=fun hP e=>by
    have e1 :=(N _ hq).1
    rw [e] at e1
    rcases hP with h | ⟨c',oc,vs,t,h,_⟩ <;>
    · rw [(N _ h).1] at e1
      rw [← Option.some.inj e1] at ht
      cases ht
  refine x q hq (tab h3) (tab hT) fun e=>?_
  have e1 :=(N _ hq).1
  rw [e,(N _ h5).1] at e1
  rw [← Option.some.inj e1] at ht
  cases ht
theorem DevIs.but (hD : DevIs w a dv dd tr lf H ky n bk d p) (N : News h₀ L h a) {P : Addr} {o : Obj} (hm : (P,o) ∈ a) (ht : turned o = true) (hc : o.cls ≠ .none) (hc2 : o.cls ≠ .type "dict") (k : ∀ q ∈ a,q.1 ≠ P → q ∈ b) : DevIs w b dv dd tr lf H ky n bk d p :=by
  k_extra "G"
  obtain ⟨h1,h2,h3,u,t1,t2,nt,kh,h4,h5,h6⟩ :=hD
  k_unfold
  have kp :=keep_of N hm ht k
  refine ⟨kp _ h1 rfl,h2.mono kp,h3.turn (fun o' h'=>k _ h' (Ne.symm (h3.ne N hm fun _ _=>hc))) kp,u,t1,t2,nt,kh,kp _ h4 rfl,k _ h5 (News.ne N h5 hm fun e=>hc2 (by rw [← e])), ?_⟩
  rcases h6 with h6 | ⟨hf,e,h6⟩
  · exact .inl h6
  · exact .inr ⟨hf,e,h6.mono kp⟩
end
theorem ct_div {ct r p : Int} (hp : 1 ≤ p) (h : 0 ≤ ct * p) (h0 : 0 ≤ r) (h1 : r < p) : (ct * p + r).fdiv p = ct :=by
  rw [Int.fdiv_eq_ediv_of_nonneg _ (by exact Om.j26 ‹_›),Int.add_comm,Int.add_mul_ediv_right _ _ (by exact Om.i14 ‹_›),Int.ediv_eq_zero_of_lt h0 h1,Int.zero_add]
theorem ct_mul {ct p : Int} (h0 : 0 ≤ ct) (h1 : ct ≤ 2 ^ 43) (hp : 1 ≤ p) (hp2 : p ≤ 61) : 0 ≤ ct * p ∧ ct * p ≤ 2 ^ 49 :=⟨Int.mul_nonneg h0 (by exact Om.j26 ‹_›),Int.le_trans (Int.mul_le_mul h1 hp2 (by exact Om.j26 ‹_›) (by decide)) (by decide)⟩
theorem scal_fix {d T : Nat} : scal (.str (fixS d T)) = true :=by
  show PyData.strOk (fixS d T) = true
  unfold PyData.strOk
  rw [List.all_toArray,List.all_eq_true]
  intro x hx
  have :=fixD_all _ _ _ hx
  exact decide_eq_true (by exact Om.j8 ‹_› (by kernel_rfl!))
structure LM (news : Led) (L : Addr) (n : Nat) (dv tr lp : Addr) (p0 p1 : Array UInt8) (c : Int) : Prop where
  c6 : ∃ o u,(L + 1 + 1 + 1 + 1 + 1 + 1,o) ∈ news ∧ o.data = .cell (some (.int (n : Int) u))
  c5 : ∃ o,(L + 1 + 1 + 1 + 1 + 1,o) ∈ news ∧ o.data = .cell (some (.ref dv))
  c4 : ∃ o,(L + 1 + 1 + 1 + 1,o) ∈ news ∧ o.data = .cell (some (.ref tr))
  c3 : ∃ o u,(L + 1 + 1 + 1,o) ∈ news ∧ o.data = .cell (some (.int c u))
  pd : ∃ ua ub ne,(lp,(⟨.type "list",none, .seq #[Value.bytes p0 ua,Value.bytes p1 ub] ne, #[]⟩ : Obj)) ∈ news
theorem LM.mono {a b : Led} {L : Addr} {n : Nat} {dv tr lp : Addr} {p0 p1 : Array UInt8} {c : Int} (h : LM a L n dv tr lp p0 p1 c) (k : Keep a b) : LM b L n dv tr lp p0 p1 c :=by
  k_extra "G"
  obtain ⟨⟨o6,u6,a6,d6⟩,⟨o5,a5,d5⟩,⟨o4,a4,d4⟩,⟨o3,u3,a3,d3⟩,⟨ua,ub,ne,al⟩⟩ :=h
  k_unfold
  exact ⟨⟨o6,u6,k _ a6 (cell_turned d6),d6⟩,⟨o5,k _ a5 (cell_turned d5),d5⟩,⟨o4,k _ a4 (cell_turned d4),d4⟩,⟨o3,u3,k _ a3 (cell_turned d3),d3⟩,⟨ua,ub,ne,k _ al rfl⟩⟩
theorem LM.el {P : Prop} {a : Led} {L : Addr} {n : Nat} {dv tr lp : Addr} {p0 p1 : Array UInt8} {c : Int} (h : LM a L n dv tr lp p0 p1 c) (k : ∀ (o6 : Obj) (u6 : Tok) (o5 o4 o3 : Obj) (u3 ua ub : Tok) (ne : Nat),(L + 1 + 1 + 1 + 1 + 1 + 1,o6) ∈ a → o6.data = .cell (some (.int (n : Int) u6)) → (L + 1 + 1 + 1 + 1 + 1,o5) ∈ a → o5.data = .cell (some (.ref dv)) → (L + 1 + 1 + 1 + 1,o4) ∈ a → o4.data = .cell (some (.ref tr)) → (L + 1 + 1 + 1,o3) ∈ a → o3.data = .cell (some (.int c u3)) →
    (lp,(⟨.type "list",none, .seq #[Value.bytes p0 ua,Value.bytes p1 ub] ne, #[]⟩ : Obj)) ∈ a → P) : P :=by
  k_extra "G"
  obtain ⟨⟨o6,u6,a6,d6⟩,⟨o5,a5,d5⟩,⟨o4,a4,d4⟩,⟨o3,u3,a3,d3⟩,⟨ua,ub,ne,al⟩⟩ :=h
  k_unfold
  exact k o6 u6 o5 o4 o3 u3 ua ub ne a6 d6 a5 d5 a4 d4 a3 d3 al
noncomputable abbrev lwM (j : MP) (mo : Int) (tm : Tok) (lv : Value) (p : Int) (tp' : Tok) (d : Nat) (td : Tok) (bk : Nat) (tb : Tok) (ky : Array UInt8) (tk1 : Tok) (lp : Addr) : Str → Option Value :=fun z =>
  if z = ofString "moment" then some (.int mo tm) else if z = ofString "last" then some lv else if z = ofString "period" then some (.int p tp') else if z = ofString "digits" then some (.int (d : Int) td) else
  if z = ofString "block" then some (.int (bk : Int) tb) else if z = ofString "key" then some (.bytes ky tk1) else if z = ofString "pads" then some (.ref lp) else j z
theorem lwM_of {m : MP} {mo : Int} {tm : Tok} {lv : Value} {p : Int} {tp' : Tok} {d : Nat} {td : Tok} {bk : Nat} {tb : Tok} {ky : Array UInt8} {tk1 : Tok} {lp : Addr}
    (h1 : m (ofString "moment") = some (.int mo tm)) (h2 : m (ofString "last") = some lv) (h3 : m (ofString "period") = some (.int p tp')) (h4 : m (ofString "digits") = some (.int (d : Int) td)) (h5 : m (ofString "block") = some (.int (bk : Int) tb)) (h6 : m (ofString "key") = some (.bytes ky tk1)) (h7 : m (ofString "pads") = some (.ref lp)) :
    m = lwM m mo tm lv p tp' d td bk tb ky tk1 lp :=by
  funext z
  unfold lwM
  by_cases q1 : z = ofString "moment"
  · rw [if_pos q1,q1,h1]
  rw [if_neg q1]
  by_cases q2 : z = ofString "last"
  · rw [if_pos q2,q2,h2]
  rw [if_neg q2]
  by_cases q3 : z = ofString "period"
  · rw [if_pos q3,q3,h3]
  rw [if_neg q3]
  by_cases q4 : z = ofString "digits"
  · rw [if_pos q4,q4,h4]
  rw [if_neg q4]
  by_cases q5 : z = ofString "block"
  · rw [if_pos q5,q5,h5]
  rw [if_neg q5]
  by_cases q6 : z = ofString "key"
  · rw [if_pos q6,q6,h6]
  rw [if_neg q6]
  by_cases q7 : z = ofString "pads"
  · rw [if_pos q7,q7,h7]
  rw [if_neg q7]
noncomputable abbrev lwN (j : MP) (x : Int) (tx : Tok) (mo : Int) (tm : Tok) (lv : Value) (p : Int) (tp' : Tok) (d : Nat) (td : Tok) (bk : Nat) (tb : Tok) (ky : Array UInt8) (tk1 : Tok) (lp : Addr) : Str → Option Value :=fun z =>
  if z = ofString "number" then some (.int x tx) else lwM j mo tm lv p tp' d td bk tb ky tk1 lp z
noncomputable abbrev lwT (j : MP) (y : Str) (ty : Tok) (x : Int) (tx : Tok) (mo : Int) (tm : Tok) (lv : Value) (p : Int) (tp' : Tok) (d : Nat) (td : Tok) (bk : Nat) (tb : Tok) (ky : Array UInt8) (tk1 : Tok) (lp : Addr) : Str → Option Value :=fun z =>
  if z = ofString "token" then some (.str y ty) else lwN j x tx mo tm lv p tp' d td bk tb ky tk1 lp z
theorem frMap {h₀ h : Heap} {L : Addr} {m m' : MP} (F : Fr h₀ L h m) (e : m = m') : Fr h₀ L h m' :=e ▸ F
theorem map_at {m : MP} {x : PySem.Str} {v : Option Value} (h : m x = v) : m = fun z=>if z = x then v else m z :=by
  funext z
  by_cases q : z = x
  · rw [if_pos q,q,h]
  · rw [if_neg q]
theorem lwN_of {m : MP} {x : Int} {tx : Tok} {mo : Int} {tm : Tok} {lv : Value} {p : Int} {tp' : Tok} {d : Nat} {td : Tok} {bk : Nat} {tb : Tok} {ky : Array UInt8} {tk1 : Tok} {lp : Addr} (h0 : m (ofString "number") = some (.int x tx))
    (h1 : m (ofString "moment") = some (.int mo tm)) (h2 : m (ofString "last") = some lv) (h3 : m (ofString "period") = some (.int p tp')) (h4 : m (ofString "digits") = some (.int (d : Int) td)) (h5 : m (ofString "block") = some (.int (bk : Int) tb)) (h6 : m (ofString "key") = some (.bytes ky tk1)) (h7 : m (ofString "pads") = some (.ref lp)) :
    m = lwN m x tx mo tm lv p tp' d td bk tb ky tk1 lp :=by
  have e :=lwM_of h1 h2 h3 h4 h5 h6 h7
  unfold lwN
  rw [← e]
  exact map_at h0
theorem lwT_of {m : MP} {y : PySem.Str} {ty : Tok} {x : Int} {tx : Tok} {mo : Int} {tm : Tok} {lv : Value} {p : Int} {tp' : Tok} {d : Nat} {td : Tok} {bk : Nat} {tb : Tok} {ky : Array UInt8} {tk1 : Tok} {lp : Addr} (ht : m (ofString "token") = some (.str y ty)) (h0 : m (ofString "number") = some (.int x tx))
    (h1 : m (ofString "moment") = some (.int mo tm)) (h2 : m (ofString "last") = some lv) (h3 : m (ofString "period") = some (.int p tp')) (h4 : m (ofString "digits") = some (.int (d : Int) td)) (h5 : m (ofString "block") = some (.int (bk : Int) tb)) (h6 : m (ofString "key") = some (.bytes ky tk1)) (h7 : m (ofString "pads") = some (.ref lp)) :
    m = lwT m y ty x tx mo tm lv p tp' d td bk tb ky tk1 lp :=by
  have e :=lwN_of h0 h1 h2 h3 h4 h5 h6 h7
  unfold lwT
  rw [← e]
  exact map_at ht
noncomputable def LastOk (lv : Value) (l : Int) : Prop :=(lv = .none ∧ l = -1) ∨ (0 ≤ l ∧ l ≤ 2 ^ 50 ∧ ∃ t,lv = .int l t)
noncomputable def Tabs (w : World) (news : Led) : Prop :=TabF news ∧ (504,tabObj #[]) ∈ news ∧ ∃ ps,(518,tabObj ps) ∈ news
noncomputable def LJ (w : World) (L : Addr) (dv dd tr lf lp : Addr) (ky : Array UInt8) (n bk d : Nat) (p c : Int) (tp' td tb tk1 : Tok) (i : Nat) (m : MP) (news : Led) (gs : Array GenState) : Prop :=
  ∃ j mo tm lv l,m = lwM j mo tm lv p tp' d td bk tb ky tk1 lp ∧ 0 ≤ mo ∧ mo ≤ 2 ^ 40 + 100 * (i : Int) ∧ LastOk lv l ∧ LM news L n dv tr lp (pad54 (fun o=>hashB o n) ky bk) (pad92 (fun o=>hashB o n) ky bk) c ∧
    DevIs w news dv dd tr lf (fun o=>hashB o n) ky n bk d p ∧ Tabs w news ∧ AllBare gs
section
variable {w : World} {h₁ h₀ : Heap} {L0 L dv dd tr lf lp : Addr} {ky : Array UInt8} {n bk d : Nat} {p c : Int} {tp' td tb tk1 : Tok} {i : Nat} {m : MP} {a b : Led} {gs : Array GenState}
theorem Tabs.but (x : Tabs w a) (N : News h₀ L0 h₁ a) {P : Addr} {o : Obj} (hm : (P,o) ∈ a) (hc : o.cls ≠ .none) (ht : turned o = true) (k : ∀ q ∈ a,q.1 ≠ P → q ∈ b) : Tabs w b :=by
  k_extra "G"
  obtain ⟨h1,h2,ps,h3⟩ :=x
  k_unfold
  have kp :=keep_of N hm ht k
  exact ⟨h1.turn (fun o' h'=>k _ h' (Ne.symm (h1.ne N hm fun _ _=>hc))) kp,k _ h2 (News.ne N h2 hm fun e=>hc (by rw [← e])),ps,k _ h3 (News.ne N h3 hm fun e=>hc (by rw [← e]))⟩
theorem Tabs.mono (x : Tabs w a) (k : ∀ q ∈ a,q ∈ b) : Tabs w b :=⟨TabSt.mono k x.1,k _ x.2.1,let ⟨ps,h⟩ :=x.2.2;⟨ps,k _ h⟩⟩
theorem LJ.but {it : Addr} {o : Obj} (x : LJ w L dv dd tr lf lp ky n bk d p c tp' td tb tk1 i m a gs) (N : News h₀ L0 h₁ a) (hm : (it,o) ∈ a) (hc : o.cls = .type "list_iterator") (ht : turned o = true) (k : ∀ q ∈ a,q.1 ≠ it → q ∈ b) : LJ w L dv dd tr lf lp ky n bk d p c tp' td tb tk1 i m b gs :=by
  k_extra "G"
  obtain ⟨j,mo,tm,lv,l,e,h1,h2,h3,h4,h5,h6,h7⟩ :=x
  k_unfold
  exact ⟨j,mo,tm,lv,l,e,h1,h2,h3,h4.mono (keep_of N hm ht k),h5.but N hm ht (by rw [hc];exact fun e=>by cases e) (by rw [hc];exact fun e=>by injection e with e2;exact absurd e2 (by decide)) k,h6.but N hm (by rw [hc];exact fun e=>by cases e) ht k,h7⟩
theorem LJ.mono (x : LJ w L dv dd tr lf lp ky n bk d p c tp' td tb tk1 i m a gs) (k : ∀ q ∈ a,q ∈ b) : LJ w L dv dd tr lf lp ky n bk d p c tp' td tb tk1 i m b gs :=by
  k_extra "G"
  obtain ⟨j,mo,tm,lv,l,e,h1,h2,h3,h4,h5,h6,h7⟩ :=x
  k_unfold
  exact ⟨j,mo,tm,lv,l,e,h1,h2,h3,h4.mono (Keep.of_sub k),h5.mono k,h6.mono k,h7⟩
end
section
variable {M : Model} {A : Around} {E : VP} {s : Shared} {h₀ : Heap} {L a : Addr} {m : MP} {cn : PySem.Str} {cs : Scope} {ccd : Value} {cl : List (Str × Addr)} {x : PySem.Str} {v : Value} {Q : VP}
theorem ldL (F : Fr h₀ L s.heap m) (hv : m x = some v) (h : Q v s) (hk : autoParam (cs.kind = .function) ap._auto_1) (hx : autoParam ((envX cn cs L a ccd cl).kindOf x = some .local) ap._auto_1) : wpAny M A (loadName (envX cn cs L a ccd cl) x) Q E s :=
  wpAny_loadName_local hk hx F.ns hv h
end
end
noncomputable def forB : Stmt → List Stmt
  | .For _ _ b _ _=>b
  | _=>[]
noncomputable def lwB : List Stmt :=forB ((bodyS (tp 33)).getD 13 (.Pass ⟨0, 0, 0, 0⟩))
theorem map_moved {j : MP} {x : Int} {tx : Tok} {mo mz : Int} {tm ta : Tok} {lv : Value} {p : Int} {tp' : Tok} {d : Nat} {td : Tok} {bk : Nat} {tb : Tok} {ky : Array UInt8} {tk1 : Tok} {lp : Addr} {m : MP} (v : Option Value) (h : v = some (.int mz ta)) (hm : autoParam (m = fun z=>if z = ofString "moment" then v else lwN j x tx mo tm lv p tp' d td bk tb ky tk1 lp z) ap._auto_1) :
    m = lwN j x tx mz ta lv p tp' d td bk tb ky tk1 lp :=by
  subst hm h
  funext z
  by_cases q : z = ofString "moment"
  · rw [if_pos q,q]
    rfl
  · rw [if_neg q]
    unfold lwN lwM
    rw [if_neg q,if_neg q]
section
variable {w : World} {A : Around} {D : SD} {hp h₀ : Heap} {gs : Array GenState} {dr : Drawn} {tk : Nat} {os : OsState} {L : Addr} {m : MP} {news : Led} {E : VP} {Q : FP}
variable {fa dv dd tr lf lp : Addr} {ky : Array UInt8} {n bk d : Nat} {p c : Int} {tp' td tb tk1 : Tok}
theorem generate_c {Q : VP} {E : VP} {H : Array UInt8 → Array UInt8} {y : PySem.Str} {ct : Int} (hD : DevIs w news dv dd tr lf H ky n bk d p) (hO : DevOk H ky n bk d p) (tm : Int) (tc : Tok) (hc0 : 0 ≤ tm) (hc : tm < 2 ^ 60) (e1 : tm.fdiv p = ct) (e2 : devT H ky n bk d ct = y)
   (hS : Site w A D h₀ L) (hR : Room A 7) (hF : Fr h₀ L hp m) (hN : News h₀ L hp news)
   (hret : ∀ (news' : Led) (x dx : Addr) (u0 u1 u2 u3 u4 : Tok) (h' : Heap) (tk' : Nat),Fr h₀ L h' m → News h₀ L h' ((x,instObj 404 dx) :: (dx,tokObj w.params u0 u1 u2 u3 u4 dv y ct) :: news') → Turns dd news news' → DevIs w news' dv dd tr lf H ky n bk d p → Q (.ref x) ⟨h',gs,dr,tk',os⟩) :
      wpAny (model pw w) A (call (.ref 334) [.ref dv, .int tm tc]) Q E ⟨hp,gs,dr,tk,os⟩ :=by
  subst e2 e1
  exact generate_spec hD hO tm tc hc0 hc hS hR hF hN hret
theorem law_token_c {Q : VP} {E : VP} {p0 p1 : Array UInt8} {u0 u1 : Tok} {ne : Nat} {c : Int} {y : PySem.Str} {t1 t2 t3 : Tok} (e : tokB p0 p1 c d n = y) (hn : n = 20 ∨ n = 32) (hd6 : 6 ≤ d ∧ d ≤ 10) (hc : 0 ≤ c) (ho : p0.size < 2 ^ 10) (ho1 : p1.size < 2 ^ 10)
   (hP : (lp,(⟨.type "list",none, .seq #[.bytes p0 u0, .bytes p1 u1] ne, #[]⟩ : Obj)) ∈ news)
   (hS : Site w A D h₀ L) (hR : Room A 2) (hF : Fr h₀ L hp m) (hN : News h₀ L hp news)
   (hret : ∀ (t : Tok) (h' : Heap) (tk' : Nat),Fr h₀ L h' m → News h₀ L h' news → Q (.str y t) ⟨h',gs,dr,tk',os⟩) :
      wpAny (model pw w) A (call (.ref 485) [.ref lp, .int c t1, .int (d : Int) t2, .int (n : Int) t3]) Q E ⟨hp,gs,dr,tk,os⟩ :=by
  subst e
  exact law_token_spec p0 p1 u0 u1 lp ne c d n t1 t2 t3 hn hd6 hc ho ho1 hP hS hR hF hN hret
theorem turn_1a {j : MP} {x mo : Int} {tx tm : Tok} {lv : Value}
  (hS : Site w A D h₀ L) (hR : Room A 60) (hF : Fr h₀ L hp (lwN j x tx mo tm lv p tp' d td bk tb ky tk1 lp)) (hN : News h₀ L hp news)
  (hk : ∀ (mz : Int) (ta : Tok) (h' : Heap) (tk' : Nat),mo ≤ mz → mz ≤ mo + 100 → Fr h₀ L h' (lwN j x tx mz ta lv p tp' d td bk tb ky tk1 lp) → News h₀ L h' news →
     wpAny (model pw w) A (execs (lwB.drop 1) (lwE L fa)) Q E ⟨h',gs,dr,tk',os⟩) :
  wpAny (model pw w) A (execs lwB (lwE L fa)) Q E ⟨hp,gs,dr,tk,os⟩ :=by
  have X1 :=hS.X
  have h1 : 0 ≤ (x.fdiv 7).fmod 100 :=Int.fmod_nonneg_of_pos _ (by decide)
  have h2 : (x.fdiv 7).fmod 100 < 100 :=Int.fmod_lt_of_pos _ (by decide)
  k_extra "s42"
  refine hk _ _ _ _ ?_ ?_ (frMap ‹_› (map_moved _ rfl rfl)) ‹_›
  · exact Int.le_add_of_nonneg_right h1
  · exact Int.add_le_add_left (Int.le_of_lt h2) _
theorem turn_1b {j : MP} {x mz : Int} {tx ta : Tok} {lv : Value} (hp1 : 1 ≤ p) (hp2 : p ≤ 61) (hm0 : 0 ≤ mz) (hm1 : mz ≤ 2 ^ 42)
  (hS : Site w A D h₀ L) (hR : Room A 60) (hF : Fr h₀ L hp (lwN j x tx mz ta lv p tp' d td bk tb ky tk1 lp)) (hN : News h₀ L hp news)
  (hk : ∀ (ct : Int) (tc : Tok) (h' : Heap) (tk' : Nat), 0 ≤ ct → ct ≤ 2 ^ 43 → Fr h₀ L h' (fun z=>if z = ofString "counter" then some (.int ct tc) else lwN j x tx mz ta lv p tp' d td bk tb ky tk1 lp z) → News h₀ L h' news →
     wpAny (model pw w) A (execs (lwB.drop 2) (lwE L fa)) Q E ⟨h',gs,dr,tk',os⟩) :
  wpAny (model pw w) A (execs (lwB.drop 1) (lwE L fa)) Q E ⟨hp,gs,dr,tk,os⟩ :=by
  k_extra "mx"
  have hpne : p ≠ 0 :=Om.i14 hp1
  have hx0 : 0 ≤ x.fmod 7 :=Int.fmod_nonneg_of_pos _ (by decide)
  have hx7 : x.fmod 7 < 7 :=Int.fmod_lt_of_pos _ (by decide)
  obtain ⟨hq0,hq1⟩ :=fdiv_bounds (b :=p) hm0 hp1
  k_extra "s43"
  refine hk _ _ _ _ ?_ ?_ ‹_› ‹_›
  · exact Int.le_max_left _ _
  · exact Om.g5 hm1 hq1 hx7
theorem turn_1c {j : MP} {x mz ct : Int} {tx ta tc : Tok} {lv : Value} (hn : n = 20 ∧ bk = 22 ∨ n = 32 ∧ bk = 36) (hd6 : 6 ≤ d) (hd10 : d ≤ 10) (hO : DevOk (fun o=>hashB o n) ky n bk d p) (hc0 : 0 ≤ ct) (hc1 : ct ≤ 2 ^ 43)
  (hS : Site w A D h₀ L) (hR : Room A 60) (hF : Fr h₀ L hp (fun z=>if z = ofString "counter" then some (.int ct tc) else lwN j x tx mz ta lv p tp' d td bk tb ky tk1 lp z)) (hN : News h₀ L hp news)
  {o5 : Obj} (a5 : (L + 1 + 1 + 1 + 1 + 1,o5) ∈ news) (d5 : o5.data = .cell (some (.ref dv))) (hD : DevIs w news dv dd tr lf (fun o=>hashB o n) ky n bk d p)
  (hk : ∀ (T : Nat) (xx dx : Addr) (v0 v1 v2 v3 v4 : Tok) (h' : Heap) (tk' : Nat) (news' : Led),tokB (pad54 (fun o=>hashB o n) ky bk) (pad92 (fun o=>hashB o n) ky bk) ct d n = fixS d T →
     Fr h₀ L h' (fun z=>if z = ofString "made" then some (.ref xx) else if z = ofString "counter" then some (.int ct tc) else lwN j x tx mz ta lv p tp' d td bk tb ky tk1 lp z) →
     News h₀ L h' ((xx,instObj 404 dx) :: (dx,tokObj w.params v0 v1 v2 v3 v4 dv (fixS d T) ct) :: news') → Turns dd news news' → DevIs w news' dv dd tr lf (fun o=>hashB o n) ky n bk d p →
     wpAny (model pw w) A (execs (lwB.drop 3) (lwE L fa)) Q E ⟨h',gs,dr,tk',os⟩) :
  wpAny (model pw w) A (execs (lwB.drop 2) (lwE L fa)) Q E ⟨hp,gs,dr,tk,os⟩ :=by
  k_extra "mx"
  refine DevIs.el hD ?_;intro u t5 t6 nt kh h1 h4 h5
  have hp1 :=hO.hp
  have hp2 :=hO.hp2
  have hpne : p ≠ 0 :=Om.i14 hp1
  have hmul : IntMulOk ct p :=mulOkB 8 1 (Om.t4 hc0 hc1 (by decide)) (Om.t7 hp1 hp2 (by decide)) (by decide)
  have hr0 : 0 ≤ (x.fdiv 700).fmod p :=Int.fmod_nonneg_of_pos _ hp1
  have hr1 : (x.fdiv 700).fmod p < p :=Int.fmod_lt_of_pos _ hp1
  k_extra "s19"
  have hmb :=ct_mul hc0 hc1 hp1 hp2
  have hdv :=ct_div hp1 hmb.1 hr0 hr1
  have hT :=tokS_eq (num4_range (codeB (pad54 (fun o=>hashB o n) ky bk) (pad92 (fun o=>hashB o n) ky bk) ct n) (placeB (codeB (pad54 (fun o=>hashB o n) ky bk) (pad92 (fun o=>hashB o n) ky bk) ct n) n)).1 hd10
  refine generate_c hD hO _ _ (Int.add_nonneg hmb.1 hr0) (Int.lt_of_lt_of_le (Int.add_lt_add_of_le_of_lt hmb.2 (Int.lt_of_lt_of_le hr1 hp2)) (by decide)) hdv ((devT_tok (Om.h3 hn).1 (Om.n10 hd6 rfl) hd10 hc0 (Int.lt_of_le_of_lt hc1 (by decide))).trans hT) (by k_extra "site") (by k_extra "roomle") ‹_› ‹_› ?_
  intro news' xx dx v0 v1 v2 v3 v4 h' tk' F' N' KT' DV'
  k_extra "s44"
  exact hk _ _ _ _ _ _ _ _ _ _ _ hT ‹_› ‹_› KT' DV'
theorem turn_1d {j : MP} {x mz ct : Int} {T : Nat} {xx dx : Addr} {tx ta tc v0 v1 v2 v3 v4 : Tok} {lv : Value} {p0 p1 : Array UInt8} (hn' : n = 20 ∨ n = 32) (hd6 : 6 ≤ d) (hd10 : d ≤ 10) (hO : DevOk (fun o=>hashB o n) ky n bk d p) (hc0 : 0 ≤ ct) (hc1 : ct ≤ 2 ^ 43)
  (hs0 : p0.size < 2 ^ 10) (hs1 : p1.size < 2 ^ 10) (hT : tokB p0 p1 ct d n = fixS d T)
  (hS : Site w A D h₀ L) (hR : Room A 60) (hF : Fr h₀ L hp (fun z=>if z = ofString "made" then some (.ref xx) else if z = ofString "counter" then some (.int ct tc) else lwN j x tx mz ta lv p tp' d td bk tb ky tk1 lp z)) (hN : News h₀ L hp ((xx,instObj 404 dx) :: (dx,tokObj w.params v0 v1 v2 v3 v4 dv (fixS d T) ct) :: news))
  (hM : LM news L n dv tr lp p0 p1 c) (hD : DevIs w news dv dd tr lf (fun o=>hashB o n) ky n bk d p)
  (hk : ∀ (j' : MP) (ty : Tok) (h' : Heap) (tk' : Nat),Fr h₀ L h' (lwT j' (fixS d T) ty x tx mz ta lv p tp' d td bk tb ky tk1 lp) → News h₀ L h' news →
     wpAny (model pw w) A (execs (lwB.drop 6) (lwE L fa)) Q E ⟨h',gs.push .finished,dr,tk',os⟩) :
  wpAny (model pw w) A (execs (lwB.drop 3) (lwE L fa)) Q E ⟨hp,gs,dr,tk,os⟩ :=by
  k_extra "mx"
  refine LM.el hM ?_;intro o6 u6 o5 o4 o3 u3 ua ub ne a6 d6 a5 d5 a4 d4 a3 d3 al
  refine DevIs.el hD ?_;intro u t5 t6 nt kh h1 h4 h5
  have hp1 :=hO.hp
  have hp2 :=hO.hp2
  have hmul : IntMulOk ct p :=mulOkB 8 1 (Om.t4 hc0 hc1 (by decide)) (Om.t7 hp1 hp2 (by decide)) (by decide)
  have hmul1 : IntMulOk (ct + 1) p :=mulOkB 8 1 (Om.p3 hc0 (Int.lt_of_le_of_lt hc1 (by decide))) (Om.t7 hp1 hp2 (by decide)) (by decide)
  k_extra "s45"
  refine law_token_c hT hn' ⟨hd6,hd10⟩ hc0 hs0 hs1 (.tail _ (.tail _ al)) (by k_extra "site") (by k_extra "roomle") ‹_› ‹_› ?_
  intro t' h' tk' F' N'
  k_extra "s46"
  refine neSameS ?_
  intro t'
  k_extra "s10"
  have hscal : scal (.str (fixS d T)) = true :=scal_fix
  have hu64 : A.units + 64 < cLine :=Om.r2 (d :=8) hR.u (by decide)
  k_dflt (refine' ListComp_gen (C0 :=404) (Nn :=2) ?aS ?aR ?aF ?aN ?aI (by kernel_rfl) ?aT (by decide) (by decide) (by decide) (by rfl) (by decide) (by rfl) (by decide) ?aE ?_)
  (case aF=>assumption)
  (case aN=>assumption)
  (case aS=>k_extra "site")
  (case aR=>k_extra "roomle")
  (case aI=>exact W.InstAt.of_news ‹_› (by k_mem) (by k_mem))
  (case aT=>exact tup_token (hD.mono fun q hq=>.tail _ (.tail _ hq)) hO hc0 (Int.lt_of_le_of_lt hc1 (by decide)) (by k_mem) (by k_mem))
  (case aE=>intro Q' hQ';k_extra "go";exact hQ' _)
  intro l oL h' tk' c1 c2 F' N'
  obtain ⟨vs,nl,d1,hvs⟩ :=c2
  obtain ⟨ta,tb,rfl⟩ :=PI2.to hvs
  (try k_sweep)
  k_extra "s47"
  k_dflt (refine neLL (s :=⟨_,_,_,_,_⟩) (ds :=[.str (fixS d T), .int ((ct + 1) * p)]) ‹_› (by k_mem) ‹_› ‹_› (by k_mem) rfl rfl (.cons (.str _ _) (.cons (.int _ _) .nil)) (.cons (.str _ _) (.cons (.int _ _) .nil)) (by intro e he;rcases List.mem_cons.mp he with rfl | he;exact hscal;rcases List.mem_cons.mp he with rfl | he;rfl;cases he) ‹_› ?_)
  k_extra "s48"
  exact hk _ _ _ _ (frMap F' (lwT_of rfl rfl rfl rfl rfl rfl rfl rfl rfl)) (fun q hq=>N' q (by k_mem))
theorem turn_1 {j : MP} {x mo : Int} {tx tm : Tok} {lv : Value} (hn : n = 20 ∧ bk = 22 ∨ n = 32 ∧ bk = 36) (hd6 : 6 ≤ d) (hd10 : d ≤ 10) (hO : DevOk (fun o=>hashB o n) ky n bk d p)
  (hS : Site w A D h₀ L) (hR : Room A 60) (hF : Fr h₀ L hp (lwN j x tx mo tm lv p tp' d td bk tb ky tk1 lp)) (hN : News h₀ L hp news)
  (hm0 : 0 ≤ mo) (hm1 : mo ≤ 2 ^ 41) (hM : LM news L n dv tr lp (pad54 (fun o=>hashB o n) ky bk) (pad92 (fun o=>hashB o n) ky bk) c) (hD : DevIs w news dv dd tr lf (fun o=>hashB o n) ky n bk d p)
  (hk : ∀ (j' : MP) (T : Nat) (mz : Int) (ty ta : Tok) (h' : Heap) (tk' : Nat) (news' : Led),mo ≤ mz → mz ≤ mo + 100 →
     Fr h₀ L h' (lwT j' (fixS d T) ty x tx mz ta lv p tp' d td bk tb ky tk1 lp) →
     News h₀ L h' news' → Turns dd news news' → DevIs w news' dv dd tr lf (fun o=>hashB o n) ky n bk d p →
     wpAny (model pw w) A (execs (lwB.drop 6) (lwE L fa)) Q E ⟨h',gs.push .finished,dr,tk',os⟩) :
  wpAny (model pw w) A (execs lwB (lwE L fa)) Q E ⟨hp,gs,dr,tk,os⟩ :=by
  have hs0 : (pad54 (fun o=>hashB o n) ky bk).size < 2 ^ 10 :=Nat.lt_of_le_of_lt (padB_size 54 (keyP_size hO.hH hO.hnb) hO.hbk) (by decide)
  have hs1 : (pad92 (fun o=>hashB o n) ky bk).size < 2 ^ 10 :=Nat.lt_of_le_of_lt (padB_size 92 (keyP_size hO.hH hO.hnb) hO.hbk) (by decide)
  refine turn_1a hS hR hF hN ?_
  intro mz ta h1 k1 b0 b1 F1 N1
  refine turn_1b hO.hp hO.hp2 (Int.le_trans hm0 b0) (Om.g20 b0 b1 hm1) hS hR F1 N1 ?_
  intro ct tc h2 k2 c0 c1 F2 N2
  obtain ⟨o5,a5,d5⟩ :=hM.c5
  refine turn_1c hn hd6 hd10 hO c0 c1 hS hR F2 N2 a5 d5 hD ?_
  intro T xx dx v0 v1 v2 v3 v4 h3 k3 news' hT F3 N3 U D3
  refine turn_1d (hn.imp And.left And.left) hd6 hd10 hO c0 c1 hs0 hs1 hT hS hR F3 N3 (hM.mono (U.keep hN hD)) D3 ?_
  intro j' ty h4 k4 F4 N4
  exact hk j' T mz ty ta h4 k4 news' b0 b1 F4 N4 U D3
end
section
open PySem.Calls PySem.Builtin PySem.Builtin.Str PySem.NumText
theorem len_arr (l : List Nat) : (⟨l.toArray⟩ : Str).length = l.length :=List.size_toArray ..
theorem slice_to {l : List Nat} {k : Nat} (h : k ≤ l.length) : Txt.slice ⟨l.toArray⟩ none (some (k : Int)) = ⟨(l.take k).toArray⟩ :=by
  have h :=beq_iff_eq.mp (slice_closes_toL (x :=⟨l.toArray⟩) (j :=(k : Int)) (by exact Om.c1) (by rw [len_arr];exact Om.c7 ‹_›))
  rw [h]
  show (⟨((l.drop 0).take ((k : Int) - 0).toNat).toArray⟩ : Str) = _
  rw [List.drop_zero,Int.sub_zero,Int.toNat_natCast]
theorem slice_on {l : List Nat} {k : Nat} (h : k ≤ l.length) : Txt.slice ⟨l.toArray⟩ (some (k : Int)) none = ⟨(l.drop k).toArray⟩ :=by
  rw [slice_from_eq (b :=(l.length : Int)) (by exact Om.c1) (by rw [len_arr];exact Om.c7 ‹_›) (by rw [len_arr])]
  show (⟨((l.drop (k : Int).toNat).take _).toArray⟩ : Str) = _
  rw [Int.toNat_natCast,List.take_of_length_le]
  rw [List.length_drop]
  exact Nat.le_of_eq (Int.toNat_sub _ _).symm
theorem append_arr (a b : List Nat) : (⟨a.toArray⟩ : Str) ++ ⟨b.toArray⟩ = ⟨(a ++ b).toArray⟩ :=by
  show (⟨a.toArray ++ b.toArray⟩ : Str) = _
  rw [List.append_toArray]
theorem item_arr {l : List Nat} {k : Nat} (h : k < l.length) : Txt.item ⟨l.toArray⟩ (k : Int) = ⟨#[l.getD k 0]⟩ :=by
  refine item_meets (by exact Om.c1) ?_
  rw [Int.toNat_natCast]
  show l.toArray[k]? = _
  rw [List.getElem?_toArray,List.getElem?_eq_getElem h,List.getD_eq_getElem?_getD,List.getElem?_eq_getElem h]
  rfl
theorem one_text (k : Nat) (h : k < 10) : ofString (toString ((k : Nat) : Int)) = ⟨[48 + k].toArray⟩ :=by
  have e : ∀ k : Fin 10,ofString (toString ((k.val : Nat) : Int)) = ⟨[48 + k.val].toArray⟩ :=by decide +kernel
  exact e ⟨k,h⟩
section
variable {w : World} {prog : Program} {A : Around} {E : VP} {h h₀ : Heap} {g : Array GenState} {d : Drawn} {t : Nat} {os : OsState} {L : Addr} {m : MP} {news : Led} {Q : VP}
theorem cutTo {l l' : List Nat} {k : Nat} {kI : Int} {u ui : Tok} {value slice : PySem.Expr} (he : kI = (k : Int)) (F : Fr h₀ L h m) (N : News h₀ L h news) (hk : k ≤ l.length) (hz : l.length ≤ 1000) (hv : l.take k = l')
    (hq : ∀ h' u t',Fr h₀ L h' m → News h₀ L h' news → Q (.str ⟨l'.toArray⟩ u) ⟨h',g,d,t',os⟩)
    (hs : autoParam (subscripted slice false (.str ⟨l.toArray⟩ u) (.ref h.objs.size) = operate [.ref h.objs.size, .str ⟨l.toArray⟩ u] (getItem (.str ⟨l.toArray⟩ u) (.ref h.objs.size))) ap._auto_3)
    (ht : autoParam (∀ r,letTemporaryGo value (.str ⟨l.toArray⟩ u) r = pure ()) ap._auto_4) :
    wpAny (model prog w) A (subscriptTail value slice (.str ⟨l.toArray⟩ u) (.ref h.objs.size)) Q E ⟨h.push { cls :=.type "slice",data :=.fields #[.none, .int kI ui, .none] },g,d,t,os⟩ :=by
  subst he hv
  exact slice_strN_ns_len (s :=⟨h,g,d,t,os⟩) F N (fun h' t' k' F' N' _=>by rw [slice_to hk];exact hq h' t' k' F' N') hs ht (by rw [len_arr,sizeLine_eq];exact Om.n1 ‹_› (by kernel_rfl!))
theorem cutOn {l l' : List Nat} {k : Nat} {kI : Int} {u ui : Tok} {value slice : PySem.Expr} (he : kI = (k : Int)) (F : Fr h₀ L h m) (N : News h₀ L h news) (hk : k ≤ l.length) (hz : l.length ≤ 1000) (hv : l.drop k = l')
    (hq : ∀ h' u t',Fr h₀ L h' m → News h₀ L h' news → Q (.str ⟨l'.toArray⟩ u) ⟨h',g,d,t',os⟩)
    (hs : autoParam (subscripted slice false (.str ⟨l.toArray⟩ u) (.ref h.objs.size) = operate [.ref h.objs.size, .str ⟨l.toArray⟩ u] (getItem (.str ⟨l.toArray⟩ u) (.ref h.objs.size))) ap._auto_3)
    (ht : autoParam (∀ r,letTemporaryGo value (.str ⟨l.toArray⟩ u) r = pure ()) ap._auto_4) :
    wpAny (model prog w) A (subscriptTail value slice (.str ⟨l.toArray⟩ u) (.ref h.objs.size)) Q E ⟨h.push { cls :=.type "slice",data :=.fields #[.int kI ui, .none, .none] },g,d,t,os⟩ :=by
  subst he hv
  exact slice_strN_sn_len (s :=⟨h,g,d,t,os⟩) F N (fun h' t' k' F' N' _=>by rw [slice_on hk];exact hq h' t' k' F' N') hs ht (by rw [len_arr,sizeLine_eq];exact Om.n1 ‹_› (by kernel_rfl!))
theorem charT {l : List Nat} {c : Nat} {k : Nat} {kI : Int} {u ui : Tok} {value slice : PySem.Expr} (he : kI = (k : Int)) (hk : k < l.length) (hz : l.length ≤ 1000) (hv : l.getD k 0 = c) (hq : ∀ u t',Q (.str ⟨[c].toArray⟩ u) ⟨h,g,d,t',os⟩)
    (hs : autoParam (subscripted slice false (.str ⟨l.toArray⟩ u) (.int kI ui) = operate [.str ⟨l.toArray⟩ u, .int kI ui] (getItem (.str ⟨l.toArray⟩ u) (.int kI ui))) ap._auto_3)
    (ht : autoParam (∀ r,letTemporaryGo value (.str ⟨l.toArray⟩ u) r = pure ()) ap._auto_4) :
    wpAny (model prog w) A (subscriptTail value slice (.str ⟨l.toArray⟩ u) (.int kI ui)) Q E ⟨h,g,d,t,os⟩ :=by
  subst he hv
  refine item_str (s :=⟨h,g,d,t,os⟩) (by unfold fitsSsize;simp;omega) (by rw [len_arr];exact Int.le_trans (Int.neg_nonpos_of_nonneg (Int.natCast_nonneg _)) (Int.natCast_nonneg _)) (by rw [len_arr];exact Om.c6 ‹_›) (fun _=>?_) hs ht
  rw [item_arr hk]
  exact hq _ _
theorem glueT {a b l' : List Nat} {u v : Tok} (hv : a ++ b = l') (hz : a.length + b.length ≤ 1000) (hq : ∀ u t',Q (.str ⟨l'.toArray⟩ u) ⟨h,g,d,t',os⟩) : wpAny (model prog w) A (binaryOp .Add (.str ⟨a.toArray⟩ u) (.str ⟨b.toArray⟩ v)) Q E ⟨h,g,d,t,os⟩ :=
  PyProof.Rows.add_str (s :=⟨h,g,d,t,os⟩) (fun u t=>by rw [append_arr,hv];exact hq u t) (by rw [len_arr,len_arr,sizeLine_eq];exact Om.n1 ‹_› (by kernel_rfl!))
theorem intT {l : List Nat} {v : Nat} {u : Tok} (hd : AllDigits l) (h0 : l ≠ []) (hz : l.length ≤ 640) (hv : digitsVal l = v) (hq : ∀ u t',Q (.int ((v : Nat) : Int) u) ⟨h,g,d,t',os⟩) : wpAny (model prog w) A (call (.type "int") [.str ⟨l.toArray⟩ u]) Q E ⟨h,g,d,t,os⟩ :=by
  subst hv
  exact KIN.call_text (s :=⟨h,g,d,t,os⟩) (intText_digits (x :=⟨l.toArray⟩) hd h0 (by rw [len_arr];exact Om.n1 ‹_› (by kernel_rfl!))) (by rw [len_arr];exact hz) (hq _ _)
theorem strOne {k : Nat} {kI : Int} {u : Tok} (he : kI = (k : Int)) (hk : k < 10) (hq : ∀ u t',Q (.str ⟨[48 + k].toArray⟩ u) ⟨h,g,d,t',os⟩) : wpAny (model prog w) A (call (.type "str") [.int kI u]) Q E ⟨h,g,d,t,os⟩ :=by
  subst he
  exact strM (shown (N :=2 ^ 1920) (by exact Om.c1) (Int.lt_trans (by exact Om.c6 ‹_› : (k : Int) < 10) (by decide +kernel)) (Int.le_refl _)) fun u t'=>by
    have e :=one_text k hk
    show Q (.str (ofString (toString ((k : Nat) : Int))) u) _
    rw [e]
    exact hq u t'
end
end
section
open PySem.NumText (AllDigits digitsVal)
theorem dig_one {k : Nat} (h : k < 10) : AllDigits [48 + k] :=fun c hc=>by
  rw [List.mem_singleton.mp hc]
  omega
theorem dig_val (k : Nat) : digitsVal [48 + k] = k :=by
  show 0 * 10 + (48 + k - 48) = k
  rw [Nat.zero_mul,Nat.zero_add,Nat.add_sub_cancel_left]
theorem turn_mod (T : Nat) : (((T % 10 : Nat) : Int) + 1).fmod 10 = (((T % 10 + 1) % 10 : Nat) : Int) :=by
  rw [Int.fmod_eq_emod_of_nonneg _ (by decide)]
  exact rfl
section
variable {w : World} {A : Around} {D : SD} {hp h₀ : Heap} {gs : Array GenState} {dr : Drawn} {tk : Nat} {os : OsState} {L : Addr} {m : MP} {news : Led} {E : VP} {Q : FP}
variable {fa dv dd tr lf lp : Addr} {ky : Array UInt8} {n bk d : Nat} {p c : Int} {tp' td tb tk1 : Tok}
theorem turn_2 {j : MP} {x mo : Int} {T : Nat} {tx tm ty : Tok} {lv : Value} (hd6 : 6 ≤ d) (hd10 : d ≤ 10)
  (hS : Site w A D h₀ L) (hR : Room A 60) (hF : Fr h₀ L hp (lwT j (fixS d T) ty x tx mo tm lv p tp' d td bk tb ky tk1 lp)) (hN : News h₀ L hp news)
  (hk : ∀ (j' : MP) (T : Nat) (ty : Tok) (h' : Heap) (tk' : Nat), 
     Fr h₀ L h' (lwT j' (fixS d T) ty x tx mo tm lv p tp' d td bk tb ky tk1 lp) → News h₀ L h' news →
     wpAny (model pw w) A (execs (lwB.drop 7) (lwE L fa)) Q E ⟨h',gs,dr,tk',os⟩) :
  wpAny (model pw w) A (execs (lwB.drop 6) (lwE L fa)) Q E ⟨hp,gs,dr,tk,os⟩ :=by
  k_extra "mx"
  by_cases h7 : (x.fdiv 49).fmod 8 = 7
  · have hb : decide ((x.fdiv 49).fmod 8 = 7) = true :=decide_eq_true h7
    obtain ⟨e,rfl⟩ : ∃ e,d = e + 1 :=⟨d - 1,(Nat.sub_add_cancel (Om.n10 hd6 rfl)).symm⟩
    have hee : ((e + 1 : Nat) : Int) - 1 = (e : Int) :=by lia
    k_extra "s31"
    have hl9 : (fixD (e + 1) T).length ≤ 1000 :=by rw [fixD_len];exact Om.n6 ‹_› (by kernel_rfl!)
    have htk : (fixD (e + 1) T).take e = fixD e (T / 10) :=by rw [fixD,List.take_append_of_le_length (by rw [fixD_len];exact Nat.le_refl _),List.take_of_length_le (by rw [fixD_len];exact Nat.le_refl _)]
    have hat : (fixD (e + 1) T).getD e 0 = 48 + T % 10 :=by rw [fixD,List.getD_eq_getElem?_getD,List.getElem?_append_right (by rw [fixD_len];exact Nat.le_refl _),fixD_len,Nat.sub_self];rfl
    k_dflt (refine cutTo (k :=e) hee ‹_› ‹_› (by rw [fixD_len];exact Nat.le_add_right _ _) hl9 htk ?_)
    intro h' u' t' F' N'
    (try k_sweep)
    k_extra "s31"
    k_dflt (refine charT (k :=e) hee (by rw [fixD_len];exact Nat.lt_succ_self _) hl9 hat ?_)
    intro u' t'
    k_extra "s49"
    refine intT (v :=T % 10) (dig_one (Nat.mod_lt _ (by decide))) (by simp) (show 1 ≤ 640 by decide) (dig_val _) ?_
    intro u' t'
    k_extra "s50"
    refine strOne (k :=(T % 10 + 1) % 10) (turn_mod _) (Nat.mod_lt _ (by decide)) ?_
    intro u' t'
    refine glueT (a :=fixD e (T / 10)) (fix_turn e T ((T % 10 + 1) % 10) (Nat.mod_lt _ (by decide))) (by rw [fixD_len];simp;exact Om.n2 ‹_› (by kernel_rfl!)) ?_
    intro u' t'
    k_extra "s51"
    exact hk _ _ _ _ _ (frMap F' (lwT_of rfl rfl rfl rfl rfl rfl rfl rfl rfl)) N'
  · have hb : decide ((x.fdiv 49).fmod 8 = 7) = false :=decide_eq_false h7
    k_extra "s51"
    exact hk _ _ _ _ _ hF hN
end
end
section
open PySem.NumText (AllDigits digitsVal)
theorem neg_mul_ok {a b : Int} (h1 : -100 ≤ a) (h2 : a ≤ 100) (h3 : 0 ≤ b) (h4 : b ≤ 100) : IntMulOk a b :=mulOkB 1 1 (Om.k13 h1 h2) (by exact Om.t4 ‹_› ‹_› (by kernel_rfl!)) (by decide)
theorem win_ok {a b c d p : Int} (h1 : 0 ≤ a ∧ a < 3) (h2 : 0 ≤ b ∧ b < 2) (h3 : 0 ≤ c ∧ c < 5) (h4 : 0 ≤ d ∧ d < 2) (hp1 : 1 ≤ p) (hp2 : p ≤ 61) :
    IntMulOk a p ∧ IntMulOk (c - 2) d ∧ IntMulOk ((c - 2) * d) p ∧ 0 ≤ a * p + b ∧ a * p + b ≤ 200 ∧ -200 ≤ (c - 2) * d * p ∧ (c - 2) * d * p ≤ 200 :=by
  have e1 : a = 0 ∨ a = 1 ∨ a = 2 :=Om.g8 h1
  have e2 : d = 0 ∨ d = 1 :=Om.k14 h4
  have e3 : c - 2 = -2 ∨ c - 2 = -1 ∨ c - 2 = 0 ∨ c - 2 = 1 ∨ c - 2 = 2 :=Om.g9 h3
  refine ⟨neg_mul_ok (by exact Om.j3 ‹_› (by kernel_rfl!)) (by exact Om.j2 ‹_› (by kernel_rfl!)) (by exact Om.j26 ‹_›) (by exact Om.i1 ‹_› (by kernel_rfl!)),neg_mul_ok (Om.k15 h3).1 (Om.k15 h3).2 (by exact Om.j3 ‹_› (by kernel_rfl!)) (by exact Om.j2 ‹_› (by kernel_rfl!)), ?_, ?_, ?_, ?_, ?_⟩
  · rcases e2 with rfl | rfl
    · rw [Int.mul_zero];exact neg_mul_ok (by decide) (by decide) (by exact Om.j26 ‹_›) (by exact Om.i1 ‹_› (by kernel_rfl!))
    · rw [Int.mul_one];exact neg_mul_ok (Om.k15 h3).1 (Om.k15 h3).2 (by exact Om.j26 ‹_›) (by exact Om.i1 ‹_› (by kernel_rfl!))
  · exact (Om.k16 e1 h2 hp1 hp2).1
  · exact (Om.k16 e1 h2 hp1 hp2).2
  · rcases e2 with rfl | rfl
    · rw [Int.mul_zero];lia
    · rw [Int.mul_one];exact (Om.k17 e3 hp1 hp2).1
  · rcases e2 with rfl | rfl
    · rw [Int.mul_zero];lia
    · rw [Int.mul_one];exact (Om.k17 e3 hp1 hp2).2
section
variable {w : World} {A : Around} {D : SD} {hp h₀ : Heap} {gs : Array GenState} {dr : Drawn} {tk : Nat} {os : OsState} {L : Addr} {m : MP} {news : Led} {E : VP} {Q : FP}
variable {fa dv dd tr lf lp : Addr} {ky : Array UInt8} {n bk d : Nat} {p c : Int} {tp' td tb tk1 : Tok}
theorem turn_3 {j : MP} {x mo : Int} {T : Nat} {tx tm ty : Tok} {lv : Value} (hp1 : 1 ≤ p) (hp2 : p ≤ 61)
  (hS : Site w A D h₀ L) (hR : Room A 60) (hF : Fr h₀ L hp (lwT j (fixS d T) ty x tx mo tm lv p tp' d td bk tb ky tk1 lp)) (hN : News h₀ L hp news)
  (hk : ∀ (wd sk : Int) (t1 t2 : Tok) (h' : Heap) (tk' : Nat), 0 ≤ wd → wd ≤ 200 → -200 ≤ sk → sk ≤ 200 →
     Fr h₀ L h' (fun z=>if z = ofString "skew" then some (.int sk t2) else if z = ofString "window" then some (.int wd t1) else lwT j (fixS d T) ty x tx mo tm lv p tp' d td bk tb ky tk1 lp z) → News h₀ L h' news →
     wpAny (model pw w) A (execs (lwB.drop 9) (lwE L fa)) Q E ⟨h',gs,dr,tk',os⟩) :
  wpAny (model pw w) A (execs (lwB.drop 7) (lwE L fa)) Q E ⟨hp,gs,dr,tk,os⟩ :=by
  k_extra "mx"
  have b1 : 0 ≤ (x.fdiv 14).fmod 3 ∧ (x.fdiv 14).fmod 3 < 3 :=⟨Int.fmod_nonneg_of_pos _ (by decide),Int.fmod_lt_of_pos _ (by decide)⟩
  have b2 : 0 ≤ (x.fdiv 3).fmod 2 ∧ (x.fdiv 3).fmod 2 < 2 :=⟨Int.fmod_nonneg_of_pos _ (by decide),Int.fmod_lt_of_pos _ (by decide)⟩
  have b3 : 0 ≤ (x.fdiv 11).fmod 5 ∧ (x.fdiv 11).fmod 5 < 5 :=⟨Int.fmod_nonneg_of_pos _ (by decide),Int.fmod_lt_of_pos _ (by decide)⟩
  have b4 : 0 ≤ (x.fdiv 55).fmod 2 ∧ (x.fdiv 55).fmod 2 < 2 :=⟨Int.fmod_nonneg_of_pos _ (by decide),Int.fmod_lt_of_pos _ (by decide)⟩
  obtain ⟨m1,m2,m3,c1,c2,c3,c4⟩ :=win_ok b1 b2 b3 b4 hp1 hp2
  k_extra "s52"
  exact hk _ _ _ _ _ _ c1 c2 c3 c4 F' N'
end
end
section
open PySem.Calls PySem.Builtin PySem.Builtin.Str PySem.NumText
theorem fix_digits (d T : Nat) : AllDigits (fixD d T) :=fixD_all d T
theorem fix_val : ∀ d T,digitsVal (fixD d T) = T % 10 ^ d :=by
  have go : ∀ (l : List Nat) (c a : Nat),(l ++ [c]).foldl (fun a c=>a * 10 + (c - 48)) a = (l.foldl (fun a c=>a * 10 + (c - 48)) a) * 10 + (c - 48) :=fun l c a=>by rw [List.foldl_append];rfl
  intro d
  induction d with
  | zero=>intro T;show (0 : Nat) = _;rw [Nat.pow_zero,Nat.mod_one]
  | succ d ih =>
    intro T
    have e : digitsVal (fixD (d + 1) T) = digitsVal (fixD d (T / 10)) * 10 + (48 + T % 10 - 48) :=go _ _ _
    rw [e,ih,Nat.pow_succ,Nat.mul_comm (10 ^ d) 10,Nat.mod_mul]
    rw [Nat.add_sub_cancel_left,Nat.mul_comm,Nat.add_comm]
theorem ascii_round {l : List Nat} (h : ∀ c ∈ l,c < 128) : asciiOf ((⟨l.toArray⟩ : Str).cps.map (·.toUInt8)) = ⟨l.toArray⟩ :=by
  unfold asciiOf
  show (⟨(l.toArray.map _).map _⟩ : Str) = _
  rw [Array.map_map,List.map_toArray]
  congr 2
  exact (List.map_congr_left fun c hc=>show (c.toUInt8).toNat = c by
    rw [Nat.toUInt8_eq,UInt8.toNat_ofNat'];exact Nat.mod_eq_of_lt (Nat.lt_trans (h c hc) (by decide))).trans (List.map_id _)
theorem dig_low {l : List Nat} (h : AllDigits l) : ∀ c ∈ l,c < 128 :=fun c hc=>by have :=h c hc;exact Om.j8 ‹_› (by kernel_rfl!)
theorem low_cps {l : List Nat} (h : ∀ c ∈ l,c < 128) : ∀ c ∈ (⟨l.toArray⟩ : Str).cps,c < 128 :=fun c hc=>h c (List.mem_toArray.mp hc)
theorem low_bytes {l : List Nat} (h : ∀ c ∈ l,c < 128) : ∀ c ∈ (⟨l.toArray⟩ : Str).cps.map (·.toUInt8),c.toNat < 128 :=fun c hc=>by
  obtain ⟨x,hx,rfl⟩ :=Array.mem_map.mp hc
  have :=h x (List.mem_toArray.mp hx)
  rw [Nat.toUInt8_eq,UInt8.toNat_ofNat']
  omega
theorem dash_low {l : List Nat} (h : AllDigits l) : ∀ c ∈ l.take 4 ++ [45] ++ l.drop 4,c < 128 :=fun c hc=>by
  rcases List.mem_append.mp hc with hc | hc
  · rcases List.mem_append.mp hc with hc | hc
    · exact dig_low h c (List.mem_of_mem_take hc)
    · rw [List.mem_singleton.mp hc];decide
  · exact dig_low h c (List.mem_of_mem_drop hc)
noncomputable def blankL : List Nat :=[32, 9, 10, 13, 12, 31, 160, 8195]
theorem blank_all : ∀ k < 8,keepC (blankL.getD k 0) = false :=by decide +kernel
theorem blank_out (k : Nat) (h : k < 8) : keepC (blankL.getD k 0) = false :=blank_all k h
noncomputable abbrev blankS : Str :=ofString " \t\n\r\x0c\x1f\u00a0\u2003"
theorem blank_eq : blankS = ⟨blankL.toArray⟩ :=by decide +kernel
section
variable {w : World} {prog : Program} {A : Around} {E : VP} {h : Heap} {g : Array GenState} {d : Drawn} {t : Nat} {os : OsState} {Q : VP}
theorem blankT {k : Int} {u ui : Tok} {value slice : PySem.Expr} (h0 : 0 ≤ k) (h1 : k < 8) (hq : ∀ u t',Q (.str ⟨[blankL.getD k.toNat 0].toArray⟩ u) ⟨h,g,d,t',os⟩)
    (hs : autoParam (subscripted slice false (.str blankS u) (.int k ui) = operate [.str blankS u, .int k ui] (getItem (.str blankS u) (.int k ui))) ap._auto_3)
    (ht : autoParam (∀ r,letTemporaryGo value (.str blankS u) r = pure ()) ap._auto_4) :
    wpAny (model prog w) A (subscriptTail value slice (.str blankS u) (.int k ui)) Q E ⟨h,g,d,t,os⟩ :=by
  revert hs ht
  rw [blank_eq]
  intro hs ht
  exact charT (k :=k.toNat) (Int.toNat_of_nonneg ‹_›).symm (show k.toNat < 8 by exact Om.t2 ‹_› ‹_›) (by decide) rfl hq hs ht
variable {news : Led} {dv dd tr lf : Addr} {H : Array UInt8 → Array UInt8} {ky : Array UInt8} {n bk dg : Nat} {p : Int}
theorem encG {x : PySem.Str} {t : Tok} {s : Shared} {pl : Sem Bool} {Q : Value × List Value → Shared → Prop} (h : Q (.builtin "str.encode", [.str x t]) s) : wpAny (model prog w) A (getMethod (.str x t) (ofString "encode") pl) Q E s :=by
  with_reducible exact GM.of (.str x t) (typeIs_str _ _ _) F.slot_str_encode F.type_str_encode GM.noRef h
theorem form_str (hD : DevIs w news dv dd tr lf H ky n bk dg p) {T : Nat} (hd : 0 < dg) (hd10 : dg ≤ 10) {l : List Nat} {t : Tok} (hl : l.filter keepC = fixD dg T) (hz : l.length ≤ 1000) : NormC w dv news (.str ⟨l.toArray⟩ t) (fixS dg T) :=by
  have e :=cleaned_list (x :=⟨l.toArray⟩) hl
  have r :=normC_of hD (.str ⟨l.toArray⟩ t) ⟨l.toArray⟩ (uni_str _ _) (isi_str _ _) (by rw [List.size_toArray];exact hz)
  rw [e] at r
  exact r (isdigit_digits (fix_digits _ _) (by rw [fixD_len];exact hd)) (by rw [List.size_toArray,fixD_len])
theorem form_bytes (hD : DevIs w news dv dd tr lf H ky n bk dg p) {T : Nat} (hd : 0 < dg) (hd10 : dg ≤ 10) {l : List Nat} {t : Tok} (hl : l.filter keepC = fixD dg T) (hz : l.length ≤ 1000) (h0 : 0 < l.length) (hlow : ∀ c ∈ l,c < 128) :
    NormC w dv news (.bytes ((⟨l.toArray⟩ : Str).cps.map (·.toUInt8)) t) (fixS dg T) :=by
  have hs : ((⟨l.toArray⟩ : Str).cps.map (·.toUInt8)).size = l.length :=by rw [Array.size_map,List.size_toArray]
  have u :=uni_bytes (w :=w) _ t (low_bytes hlow) (by rw [hs];exact h0) (by rw [hs];exact hz)
  rw [ascii_round hlow] at u
  have e :=cleaned_list (x :=⟨l.toArray⟩) hl
  have r :=normC_of hD _ ⟨l.toArray⟩ u (isi_bytes _ _) (by rw [List.size_toArray];exact hz)
  rw [e] at r
  exact r (isdigit_digits (fix_digits _ _) (by rw [fixD_len];exact hd)) (by rw [List.size_toArray,fixD_len])
theorem form_int (hD : DevIs w news dv dd tr lf H ky n bk dg p) {T : Nat} (hd : 0 < dg) (hd10 : dg ≤ 10) {t : Tok} : NormC w dv news (.int ((T % 10 ^ dg : Nat) : Int) t) (fixS dg T) :=by
  have hlt : T % 10 ^ dg < 10 ^ 10 :=Nat.lt_of_lt_of_le (Nat.mod_lt _ (Nat.pow_pos (by decide))) (Nat.pow_le_pow_right (by decide) hd10)
  have r :=normC_int hD ((T % 10 ^ dg : Nat) : Int) t hd10 (Int.natCast_nonneg _)
  rw [padS_fix hd] at r
  refine r ?_ (by rw [List.size_toArray,fixD_len])
  rw [Int.natAbs_natCast]
  rcases Nat.eq_zero_or_pos (T % 10 ^ dg) with e | e
  · rw [e];decide
  · exact Nat.lt_of_lt_of_le ((Nat.log2_lt (by exact Om.n15 ‹_›)).mpr (Nat.lt_of_lt_of_le hlt (by decide : 10 ^ 10 ≤ 2 ^ 40))) (by decide)
theorem form_short (hD : DevIs w news dv dd tr lf H ky n bk dg p) {T : Nat} (hd : 6 ≤ dg) (hd10 : dg ≤ 10) {t : Tok} : NormX w dv news (.str ⟨((fixD dg T).drop 1).toArray⟩ t) (.ref 54) :=by
  have a : AllDigits ((fixD dg T).drop 1) :=fun c hc=>fix_digits _ _ c (List.mem_of_mem_drop hc)
  have hl : ((fixD dg T).drop 1).length = dg - 1 :=by rw [List.length_drop,fixD_len]
  have e :=cleaned_digits a
  have r :=normX_len hD (.str ⟨((fixD dg T).drop 1).toArray⟩ t) ⟨((fixD dg T).drop 1).toArray⟩ (uni_str _ _) (isi_str _ _) (by rw [List.size_toArray,hl];omega)
  rw [e] at r
  exact r (isdigit_digits a (by rw [hl];exact Nat.sub_pos_of_lt (Om.n9 hd rfl))) (by rw [List.size_toArray,hl];omega) hd10
end
end
section
open PySem.NumText (AllDigits digitsVal)
noncomputable abbrev lwW (sk : Int) (t2 : Tok) (wd : Int) (t1 : Tok) (f : MP) : Str → Option Value :=fun z=>if z = ofString "skew" then some (.int sk t2) else if z = ofString "window" then some (.int wd t1) else f z
noncomputable abbrev lwS (v : Value) (wy : Int) (t1 : Tok) (f : MP) : Str → Option Value :=fun z=>if z = ofString "shown" then some v else if z = ofString "way" then some (.int wy t1) else f z
theorem map_dup {a : PySem.Str} {x y : Option Value} {f : MP} : (fun z=>if z = a then x else if z = a then y else f z) = fun z=>if z = a then x else f z :=by
  funext z
  by_cases h : z = a
  · rw [if_pos h,if_pos h]
  · rw [if_neg h,if_neg h,if_neg h]
theorem fixD_lo {d T : Nat} (hd : d ≤ 10) : (fixD d T).length ≤ 1000 :=by rw [fixD_len];exact Om.n1 ‹_› (by kernel_rfl!)
theorem cut_len {d T k : Nat} (hd : d ≤ 10) : ((fixD d T).take k).length ≤ 10 :=by rw [List.length_take,fixD_len];omega
theorem cut_len2 {d T k : Nat} (hd : d ≤ 10) : ((fixD d T).drop k).length ≤ 10 :=by rw [List.length_drop,fixD_len];omega
theorem shown_list {b : Nat} {l r : List Nat} : [b] ++ l ++ [32, 45, 32] ++ r ++ [61] = b :: (l ++ [32, 45, 32] ++ r ++ [61]) :=by simp
section
variable {w : World} {A : Around} {D : SD} {hp h₀ : Heap} {gs : Array GenState} {dr : Drawn} {tk : Nat} {os : OsState} {L : Addr} {m : MP} {news : Led} {E : VP} {Q : FP}
variable {fa dv dd tr lf lp : Addr} {ky : Array UInt8} {n bk d : Nat} {p c : Int} {tp' td tb tk1 : Tok}
theorem turn_4 {j : MP} {x mo wd sk : Int} {T : Nat} {tx tm ty t1 t2 : Tok} {lv : Value} (hd6 : 6 ≤ d) (hd10 : d ≤ 10)
  (hS : Site w A D h₀ L) (hR : Room A 60) (hF : Fr h₀ L hp (lwW sk t2 wd t1 (lwT j (fixS d T) ty x tx mo tm lv p tp' d td bk tb ky tk1 lp))) (hN : News h₀ L hp news)
  (hD : DevIs w news dv dd tr lf (fun o=>hashB o n) ky n bk d p)
  (hk : ∀ (wy : Int) (v : Value) (t3 : Tok) (h' : Heap) (tk' : Nat),(wy ≠ 5 ∧ NormC w dv news v (fixS d T) ∨ wy = 5 ∧ NormX w dv news v (.ref 54)) →
     Fr h₀ L h' (lwS v wy t3 (lwW sk t2 wd t1 (lwT j (fixS d T) ty x tx mo tm lv p tp' d td bk tb ky tk1 lp))) → News h₀ L h' news →
     wpAny (model pw w) A (execs (lwB.drop 16) (lwE L fa)) Q E ⟨h',gs,dr,tk',os⟩) :
  wpAny (model pw w) A (execs (lwB.drop 9) (lwE L fa)) Q E ⟨hp,gs,dr,tk,os⟩ :=by
  k_extra "mx"
  have b1 : 0 ≤ (x.fdiv 5).fmod 6 ∧ (x.fdiv 5).fmod 6 < 6 :=⟨Int.fmod_nonneg_of_pos _ (by decide),Int.fmod_lt_of_pos _ (by decide)⟩
  have b8 : 0 ≤ (x.fdiv 30).fmod 8 ∧ (x.fdiv 30).fmod 8 < 8 :=⟨Int.fmod_nonneg_of_pos _ (by decide),Int.fmod_lt_of_pos _ (by decide)⟩
  have hl0 : (fixD d T).length = d :=fixD_len _ _
  have hl9 :=fixD_lo (T :=T) hd10
  have hdg :=fix_digits d T
  have hdpos : 0 < d :=Om.n10 ‹_› (by kernel_rfl!)
  k_extra "s48"
  dsimp +zetaDelta only at F'
  generalize hwy : (x.fdiv 5).fmod 6 = wy at *
  have e6 : wy = 0 ∨ wy = 1 ∨ wy = 2 ∨ wy = 3 ∨ wy = 4 ∨ wy = 5 :=Om.g7 b1
  clear b1
  rcases e6 with e | e | e | e | e | e
  · subst e
    refine chain_skip (kn :=ofString "way") (k :=0) ‹_› rfl (by kernel_rfl) (by kernel_rfl) (by decide +kernel) 5 _ _ (by kernel_rfl) ?_
    intro tk'
    exact hk 0 _ _ _ _ (.inl ⟨by decide,form_str hD hdpos hd10 (filter_digits hdg) hl9⟩) ‹_› ‹_›
  · subst e
    have hx :=low_cps (dig_low hdg)
    have hn : 0 < (fixS d T).cps.size :=by rw [List.size_toArray,hl0];exact hdpos
    have hz : (fixS d T).cps.size ≤ 1000 :=by rw [List.size_toArray,hl0];exact Om.n1 ‹_› (by kernel_rfl!)
    k_extra "s53"
    refine encG ?_
    k_extra "s54"
    refine chain_skip (kn :=ofString "way") (k :=1) ‹_› rfl (by kernel_rfl) (by kernel_rfl) (by decide +kernel) 4 _ _ (by kernel_rfl) ?_
    intro tk'
    refine hk 1 _ _ _ _ ?_ (frMap ‹_› map_dup) ‹_›
    exact .inl ⟨by decide,form_bytes hD hdpos hd10 (filter_digits hdg) hl9 (by omega) (dig_low hdg)⟩
  · subst e
    refine chain_skip (kn :=ofString "way") (k :=2) ‹_› rfl (by kernel_rfl) (by kernel_rfl) (by decide +kernel) 1 _ _ (by kernel_rfl) ?_
    intro tk'
    k_extra "s49"
    refine intT (v :=T % 10 ^ d) hdg (by intro e;rw [e] at hl0;simp at hl0;lia) (by rw [hl0];exact Om.n1 ‹_› (by kernel_rfl!)) (fix_val _ _) ?_
    intro u' t'
    k_extra "s55"
    refine chain_skip (kn :=ofString "way") (k :=2) ‹_› rfl (by kernel_rfl) (by kernel_rfl) (by decide +kernel) 3 _ _ (by kernel_rfl) ?_
    intro tk'
    refine hk 2 _ _ _ _ ?_ (frMap ‹_› map_dup) ‹_›
    exact .inl ⟨by decide,form_int hD hdpos hd10⟩
  · subst e
    refine chain_skip (kn :=ofString "way") (k :=3) ‹_› rfl (by kernel_rfl) (by kernel_rfl) (by decide +kernel) 2 _ _ (by kernel_rfl) ?_
    intro tk'
    k_extra "s56"
    k_dflt (refine blankT b8.1 b8.2 ?_)
    intro u' t'
    k_extra "s56"
    have hl3 : 3 ≤ (fixD d T).length :=by rw [hl0];exact Om.n10 hd6 rfl
    k_dflt (refine cutTo (k :=3) rfl ‹_› ‹_› hl3 hl9 rfl ?_)
    intro h' u' t' F' N'
    (try k_sweep)
    k_extra "s57"
    refine glueT rfl (by simp only [List.length_cons,List.length_nil];exact (Om.u1 (cut_len hd10)).1) ?_
    intro u' t'
    k_extra "s57"
    refine glueT (b :=[32, 45, 32]) rfl (by simp only [List.length_append,List.length_cons,List.length_nil];exact (Om.u1 (cut_len hd10)).2) ?_
    intro u' t'
    k_extra "s56"
    k_dflt (refine cutOn (k :=3) rfl ‹_› ‹_› hl3 hl9 rfl ?_)
    intro h' u' t' F' N'
    (try k_sweep)
    k_extra "s57"
    refine glueT rfl (by simp only [List.length_append,List.length_cons,List.length_nil];exact (Om.u3 (cut_len hd10) (cut_len2 hd10)).1) ?_
    intro u' t'
    k_extra "s57"
    refine glueT (b :=[61]) rfl (by simp only [List.length_append,List.length_cons,List.length_nil];exact (Om.u3 (cut_len hd10) (cut_len2 hd10)).2.1) ?_
    intro u' t'
    k_extra "s58"
    refine chain_skip (kn :=ofString "way") (k :=3) ‹_› rfl (by kernel_rfl) (by kernel_rfl) (by decide +kernel) 2 _ _ (by kernel_rfl) ?_
    intro tk'
    refine hk 3 _ _ _ _ ?_ (frMap ‹_› map_dup) ‹_›
    exact .inl ⟨by decide,form_str hD hdpos hd10 (by rw [shown_list];exact filter_shown (blank_out _ (by omega)) hdg) (by simp only [List.length_append,List.length_cons,List.length_nil];exact (Om.u3 (cut_len hd10) (cut_len2 hd10)).2.1)⟩
  · subst e
    refine chain_skip (kn :=ofString "way") (k :=4) ‹_› rfl (by kernel_rfl) (by kernel_rfl) (by decide +kernel) 3 _ _ (by kernel_rfl) ?_
    intro tk'
    k_extra "s56"
    have hl4 : 4 ≤ (fixD d T).length :=by rw [hl0];exact Om.n10 hd6 rfl
    k_dflt (refine cutTo (k :=4) rfl ‹_› ‹_› hl4 hl9 rfl ?_)
    intro h' u' t' F' N'
    (try k_sweep)
    k_extra "s57"
    refine glueT (b :=[45]) rfl (by have :=cut_len (T :=T) (k :=4) hd10;simp only [List.length_cons,List.length_nil];exact Om.n5 ‹_› (by kernel_rfl!)) ?_
    intro u' t'
    k_extra "s56"
    k_dflt (refine cutOn (k :=4) rfl ‹_› ‹_› hl4 hl9 rfl ?_)
    intro h' u' t' F' N'
    (try k_sweep)
    k_extra "s57"
    refine glueT rfl (by simp only [List.length_append,List.length_cons,List.length_nil];exact (Om.u3 (cut_len hd10) (cut_len2 hd10)).2.2) ?_
    intro u' t'
    have hlen : ((fixD d T).take 4 ++ [45] ++ (fixD d T).drop 4).length = d + 1 :=by simp only [List.length_append,List.length_take,List.length_drop,hl0,List.length_cons,List.length_nil];exact Om.g6 hd6
    have hx :=low_cps (dash_low hdg)
    have hn : 0 < (⟨((fixD d T).take 4 ++ [45] ++ (fixD d T).drop 4).toArray⟩ : Str).cps.size :=by rw [List.size_toArray,hlen];exact Nat.succ_pos _
    have hz : (⟨((fixD d T).take 4 ++ [45] ++ (fixD d T).drop 4).toArray⟩ : Str).cps.size ≤ 1000 :=by rw [List.size_toArray,hlen];exact Om.n5 ‹_› (by kernel_rfl!)
    k_extra "s53"
    refine encG ?_
    k_extra "s59"
    refine chain_skip (kn :=ofString "way") (k :=4) ‹_› rfl (by kernel_rfl) (by kernel_rfl) (by decide +kernel) 1 _ _ (by kernel_rfl) ?_
    intro tk'
    refine hk 4 _ _ _ _ ?_ (frMap ‹_› map_dup) ‹_›
    exact .inl ⟨by decide,form_bytes hD hdpos hd10 (filter_dash hdg) (by omega) (by omega) (dash_low hdg)⟩
  · subst e
    refine chain_skip (kn :=ofString "way") (k :=5) ‹_› rfl (by kernel_rfl) (by kernel_rfl) (by decide +kernel) 4 _ _ (by kernel_rfl) ?_
    intro tk'
    k_extra "s56"
    k_dflt (refine cutOn (k :=1) rfl ‹_› ‹_› (by rw [hl0];exact Om.n10 hd6 rfl) hl9 rfl ?_)
    intro h' u' t' F' N'
    (try k_sweep)
    k_extra "s60"
    refine hk 5 _ _ _ _ ?_ (frMap ‹_› map_dup) ‹_›
    exact .inr ⟨rfl,form_short hD hd6 hd10⟩
end
end
section
open PySem.Calls
section
variable {w : World} {h h₀ : Heap} {L : Addr} {dv dd tr lf : Addr} {H : Array UInt8 → Array UInt8} {ky : Array UInt8} {n bk d : Nat} {p : Int} {a b : Led}
theorem Turns2.stay (x : Turns2 dd a b) (N : News h₀ L h a) (hD : DevIs w a dv dd tr lf H ky n bk d p) (hT : TabF a) : ∀ q ∈ a,q.2.cls ≠ .none → q.2.cls ≠ .type "dict" → q ∈ b :=fun q hq c1 c2=>by
  obtain ⟨_,_,h3,u,t1,t2,nt,kh,_,h5,_⟩ :=hD
  exact x q hq (h3.ne N (b :=q.1) (o :=q.2) hq fun _ _=>c1) (hT.ne N (b :=q.1) (o :=q.2) hq fun _ _=>c1) (News.ne N (a :=q.1) (o :=q.2) hq h5 fun e=>c2 (by rw [e]))
theorem Tabs.two (x : Tabs w a) (t : Turns2 dd a b) (N : News h₀ L h a) (hD : DevIs w a dv dd tr lf H ky n bk d p) (hb : TabF b) : Tabs w b :=by
  obtain ⟨_,_,h3,u,t1,t2,nt,kh,_,h5,_⟩ :=hD
  obtain ⟨h1,h2,ps,h4⟩ :=x
  exact ⟨hb,t _ h2 (show (504 : Nat) ≠ 204 by decide) (show (504 : Nat) ≠ 352 by decide) (News.ne N h2 h5 fun e=>by cases congrArg (·.cls) e),ps,t _ h4 (show (518 : Nat) ≠ 204 by decide) (show (518 : Nat) ≠ 352 by decide) (News.ne N h4 h5 fun e=>by cases congrArg (·.cls) e)⟩
end
theorem firstM_congr {f g : Int → PySem.Str} {y : PySem.Str} : ∀ {k : Nat} {s : Int},(∀ c,s ≤ c → c < s + k → f c = g c) → firstM f y k s = firstM g y k s
  | 0,_,_=>rfl
  | k + 1,s,h=>by
    rw [firstM,firstM,h s (by lia) (by omega),firstM_congr (k :=k) (s :=s + 1) fun c h1 h2=>h c (by exact Int.le_of_lt ‹_›) (Om.k7 h2)]
theorem fdiv_le {a B p : Int} (hp : 1 ≤ p) (ha : a ≤ B) (hB : 0 ≤ B) : a.fdiv p ≤ B :=by
  rw [Int.fdiv_eq_ediv_of_nonneg a (by exact Om.j26 ‹_›)]
  by_cases h : 0 ≤ a
  · exact Int.le_trans (Int.ediv_le_self p h) ha
  · have :=Int.ediv_neg_of_neg_of_pos (a :=a) (b :=p) (by exact Int.not_le.mp ‹_›) ‹_›
    omega
theorem fdiv_ge {a B p : Int} (hp : 1 ≤ p) (ha : -B ≤ a) (hB : 0 ≤ B) : -B ≤ a.fdiv p :=by
  rw [Int.fdiv_eq_ediv_of_nonneg a (by exact Om.j26 ‹_›)]
  refine (Int.le_ediv_iff_mul_le ‹_›).mpr (Int.le_trans ?_ ha)
  have :=Int.mul_le_mul_of_nonneg_left hp hB
  rw [Int.neg_mul]
  omega
theorem mc_bounds {p mo wd sk l : Int} (hp : 1 ≤ p) (h0 : 0 ≤ mo) (h1 : mo ≤ 2 ^ 41) (hw0 : 0 ≤ wd) (hw1 : wd ≤ 200) (hs0 : -200 ≤ sk) (hs1 : sk ≤ 200) :
    mcT p mo wd sk ≤ 2 ^ 42 ∧ -(2 ^ 60) ≤ mcT p mo wd sk ∧ Int.fdiv (mo + sk - wd) p ≤ 2 ^ 60 :=by
  have a1 :=fdiv_le (a :=mo + sk + wd) (B :=2 ^ 41 + 400) hp (Om.k10 h1 hs1 hw1) (by decide)
  have a2 :=fdiv_ge (a :=mo + sk + wd) (B :=400) hp (Om.k11 h0 hs0 hw0) (by decide)
  have a3 :=fdiv_le (a :=mo + sk - wd) (B :=2 ^ 41 + 400) hp (Om.k12 h1 hs1 hw0) (by decide)
  refine ⟨?_, ?_, ?_⟩ <;> (try unfold mcT) <;> (first | exact Om.i3 ‹_› (by kernel_rfl!) | exact Om.i1 ‹_› (by kernel_rfl!) | omega)
theorem firstM_tok {ky : Array UInt8} {n bk d : Nat} {y : PySem.Str} {s e : Int} (hn : 20 ≤ n) (hd : 0 < d) (hd10 : d ≤ 10) (h0 : 0 ≤ s) (h1 : e ≤ 2 ^ 60) :
    firstM (devT (fun o=>hashB o n) ky n bk d) y (e - s).toNat s = firstM (fun c=>tokB (pad54 (fun o=>hashB o n) ky bk) (pad92 (fun o=>hashB o n) ky bk) c d n) y (e - s).toNat s :=
  firstM_congr fun c a b=>devT_tok hn hd hd10 (by exact Int.le_trans ‹_› ‹_›) (Om.p2 a b h1)
section
variable {w : World} {prog : Program} {A : Around} {E : VP} {h h₀ : Heap} {g : Array GenState} {d : Drawn} {t : Nat} {os : OsState} {L : Addr} {m : MP} {news : Led} {Q : VP} {a b : Addr}
theorem ne_told1 {x : PySem.Str} {u v : Tok} (N : News h₀ L h news) (ma : (a,W.listOf #[.str x u] 0) ∈ news) (mb : (b,W.listOf #[.str x v] 0) ∈ news) (hx : scal (.str x) = true) (hu : A.units + 64 < cLine) (hq : Q (.bool false) ⟨h,g,d,t,os⟩) :
    wpAny (model prog w) A (compareOp .NotEq (.ref a) (.ref b)) Q E ⟨h,g,d,t,os⟩ :=
  neLL (s :=⟨h,g,d,t,os⟩) (ds :=[.str x]) N ma rfl rfl mb rfl rfl (.cons (.str _ _) .nil) (.cons (.str _ _) .nil) (fun e he=>by rcases List.mem_cons.mp he with rfl | he;exact hx;cases he) hu hq
theorem ne_told2 {x : PySem.Str} {u v : Tok} {k : Int} {u2 v2 : Tok} (N : News h₀ L h news) (ma : (a,W.listOf #[.str x u, .int k u2] 0) ∈ news) (mb : (b,W.listOf #[.str x v, .int k v2] 0) ∈ news) (hx : scal (.str x) = true) (hu : A.units + 64 < cLine) (hq : Q (.bool false) ⟨h,g,d,t,os⟩) :
    wpAny (model prog w) A (compareOp .NotEq (.ref a) (.ref b)) Q E ⟨h,g,d,t,os⟩ :=
  neLL (s :=⟨h,g,d,t,os⟩) (ds :=[.str x, .int k]) N ma rfl rfl mb rfl rfl (.cons (.str _ _) (.cons (.int _ _) .nil)) (.cons (.str _ _) (.cons (.int _ _) .nil)) (fun e he=>by rcases List.mem_cons.mp he with rfl | he;exact hx;rcases List.mem_cons.mp he with rfl | he;rfl;cases he) hu hq
theorem ne_told8 {c tm wd p : Int} {u0 u1 u2 u3 u4 u5 u6 u7 v0 v1 v2 v3 v4 v5 v6 v7 : Tok} (N : News h₀ L h news) (ma : (a,dueO c tm wd p u0 u1 u2 u3 u4 u5 u6 u7) ∈ news) (mb : (b,dueO c tm wd p v0 v1 v2 v3 v4 v5 v6 v7) ∈ news) (hu : A.units + 64 < cLine) (hq : Q (.bool false) ⟨h,g,d,t,os⟩) :
    wpAny (model prog w) A (compareOp .NotEq (.ref a) (.ref b)) Q E ⟨h,g,d,t,os⟩ :=by
  have e : ∀ {u0 u1 u2 u3 u4 u5 u6 u7 : Tok},CarriedAll (#[Value.int c u0, .int tm u1, .int wd u2, .int (tm.fdiv p) u3, .int (c - tm.fdiv p) u4, .int ((c + 1) * p) u5, .int (p + wd) u6, .int ((c + 1) * p + wd) u7]).toList ([c,tm,wd,tm.fdiv p,c - tm.fdiv p,(c + 1) * p,p + wd,(c + 1) * p + wd].map PyData.int) :=
    .cons (.int _ _) (.cons (.int _ _) (.cons (.int _ _) (.cons (.int _ _) (.cons (.int _ _) (.cons (.int _ _) (.cons (.int _ _) (.cons (.int _ _) .nil)))))))
  exact neLL (s :=⟨h,g,d,t,os⟩) N ma rfl rfl mb rfl rfl e e (fun q he=>by obtain ⟨k,_,rfl⟩ :=List.mem_map.mp he;rfl) hu hq
theorem lenL {vs : Array Value} {n : Nat} {k : Int} (N : News h₀ L h news) (hm : (a,W.listOf vs n) ∈ news) (hk : (vs.size : Int) = k) (hz : k ≤ 1000) (hq : ∀ u t',Q (.int k u) ⟨h,g,d,t',os⟩) : wpAny (model prog w) A (call (.builtin "len") [.ref a]) Q E ⟨h,g,d,t,os⟩ :=by
  subst hk
  exact call_len_list (s :=⟨h,g,d,t,os⟩) (News.isList N hm) (by omega) (hq _ _)
theorem firstOf {vs : List Value} {n : Nat} {x : Value} {u : Tok} {value slice : PySem.Expr} (N : News h₀ L h news) (hm : (a,W.listOf (List.toArray (x :: vs)) n) ∈ news) (hq : Q x ⟨h,g,d,t,os⟩)
    (hs : autoParam (subscripted slice false (.ref a) (.int 0 u) = operate [.ref a, .int 0 u] (getItem (.ref a) (.int 0 u))) ap._auto_3) (hg : autoParam (∀ r,letTemporaryGo value (.ref a) r = pure ()) ap._auto_4) :
    wpAny (model prog w) A (subscriptTail value slice (.ref a) (.int 0 u)) Q E ⟨h,g,d,t,os⟩ :=
  item_listL (s :=⟨h,g,d,t,os⟩) (News.isList N hm) (by decide) (by decide) rfl hq hs hg
end
end
noncomputable abbrev lwV (v : Value) (f : MP) : Str → Option Value :=fun z=>if z = ofString "before" then some v else f z
theorem lwD_of {m : MP} {mo : Int} {tm : Tok} {lv : Value} {p : Int} {tp' : Tok} {d : Nat} {td : Tok} {bk : Nat} {tb : Tok} {ky : Array UInt8} {tk1 : Tok} {lp xd : Addr} (hd : m (ofString "due") = some (.ref xd))
    (h1 : m (ofString "moment") = some (.int mo tm)) (h2 : m (ofString "last") = some lv) (h3 : m (ofString "period") = some (.int p tp')) (h4 : m (ofString "digits") = some (.int (d : Int) td)) (h5 : m (ofString "block") = some (.int (bk : Int) tb)) (h6 : m (ofString "key") = some (.bytes ky tk1)) (h7 : m (ofString "pads") = some (.ref lp)) :
    m = fun z=>if z = ofString "due" then some (.ref xd) else lwM m mo tm lv p tp' d td bk tb ky tk1 lp z :=by
  rw [← lwM_of h1 h2 h3 h4 h5 h6 h7]
  exact map_at hd
section
variable {w : World} {A : Around} {D : SD} {hp h₀ : Heap} {gs : Array GenState} {dr : Drawn} {tk : Nat} {os : OsState} {L : Addr} {m : MP} {news : Led} {E : VP} {Q : FP}
variable {fa dv dd tr lf lp : Addr} {ky : Array UInt8} {n bk d : Nat} {p c : Int} {tp' td tb tk1 : Tok}
theorem turn_5 {j : MP} {x mo wd sk wy l : Int} {y : PySem.Str} {tx tm ty t1 t2 t3 : Tok} {lv v : Value}
  (hS : Site w A D h₀ L) (hR : Room A 60) (hF : Fr h₀ L hp (lwS v wy t3 (lwW sk t2 wd t1 (lwT j y ty x tx mo tm lv p tp' d td bk tb ky tk1 lp)))) (hN : News h₀ L hp news)
  (hl : LastOk lv l)
  (hk : ∀ (bv : Value) (lb : Int) (h' : Heap) (tk' : Nat),LastOk bv lb →
     Fr h₀ L h' (lwV bv (lwS v wy t3 (lwW sk t2 wd t1 (lwT j y ty x tx mo tm lv p tp' d td bk tb ky tk1 lp)))) → News h₀ L h' news →
     wpAny (model pw w) A (execs (lwB.drop 17) (lwE L fa)) Q E ⟨h',gs,dr,tk',os⟩) :
  wpAny (model pw w) A (execs (lwB.drop 16) (lwE L fa)) Q E ⟨hp,gs,dr,tk,os⟩ :=by
  k_extra "mx"
  by_cases h5 : (x.fdiv 3).fmod 5 = 4
  · have hb : decide ((x.fdiv 3).fmod 5 = 4) = true :=decide_eq_true h5
    k_extra "s61"
    exact hk _ _ _ _ (.inl ⟨rfl,rfl⟩) ‹_› ‹_›
  · have hb : decide ((x.fdiv 3).fmod 5 = 4) = false :=decide_eq_false h5
    k_extra "s61"
    exact hk _ _ _ _ hl ‹_› ‹_›
theorem tail_n {j : MP} {mo : Int} {tm : Tok} {lv : Value} {xd : Addr} {vs : Array Value} {k : Int}
  (hS : Site w A D h₀ L) (hR : Room A 60) (hF : Fr h₀ L hp (fun z=>if z = ofString "due" then some (.ref xd) else lwM j mo tm lv p tp' d td bk tb ky tk1 lp z)) (hN : News h₀ L hp news)
  (hm : (xd,W.listOf vs 0) ∈ news) (hv : (vs.size : Int) = k) (hz : k ≤ 1000) (h8 : k ≠ 8)
  (hk : ∀ (j' : MP) (h' : Heap) (tk' : Nat),Fr h₀ L h' (lwM j' mo tm lv p tp' d td bk tb ky tk1 lp) → News h₀ L h' news → Q .next ⟨h',gs,dr,tk',os⟩) :
  wpAny (model pw w) A (execs (lwB.drop 19) (lwE L fa)) Q E ⟨hp,gs,dr,tk,os⟩ :=by
  k_extra "mx"
  k_extra "s12"
  refine lenL hN hm hv hz ?_
  intro u' t'
  repeat' ((fail_if_success (with_reducible show Q _ _));k_extra "step")
  exact hk _ _ _ (frMap hF (lwM_of rfl rfl rfl rfl rfl rfl rfl)) hN
theorem tail_8 {j : MP} {mo : Int} {tm : Tok} {lv : Value} {xd : Addr} {c tm' wd p' : Int} {u0 u1 u2 u3 u4 u5 u6 u7 : Tok}
  (hS : Site w A D h₀ L) (hR : Room A 60) (hF : Fr h₀ L hp (fun z=>if z = ofString "due" then some (.ref xd) else lwM j mo tm lv p tp' d td bk tb ky tk1 lp z)) (hN : News h₀ L hp news)
  (hm : (xd,dueO c tm' wd p' u0 u1 u2 u3 u4 u5 u6 u7) ∈ news)
  (hk : ∀ (j' : MP) (h' : Heap) (tk' : Nat),Fr h₀ L h' (lwM j' mo tm (.int c u0) p tp' d td bk tb ky tk1 lp) → News h₀ L h' news → Q .next ⟨h',gs,dr,tk',os⟩) :
  wpAny (model pw w) A (execs (lwB.drop 19) (lwE L fa)) Q E ⟨hp,gs,dr,tk,os⟩ :=by
  k_extra "mx"
  k_extra "s12"
  refine lenL (k :=8) hN hm rfl (by decide) ?_
  intro u' t'
  k_extra "s62"
  k_dflt (refine firstOf hN hm ?_)
  repeat' ((fail_if_success (with_reducible show Q _ _));k_extra "step")
  exact hk _ _ _ (frMap F' (lwM_of rfl rfl rfl rfl rfl rfl rfl)) N'
theorem LastOk.or {v : Value} {l : Int} (h : LastOk v l) : (v = .none ∧ l = -1) ∨ ∃ t,v = .int l t :=h.elim .inl fun ⟨_,_,h⟩=>.inr h
theorem LastOk.le {v : Value} {l : Int} (h : LastOk v l) : l ≤ 2 ^ 60 :=by
  rcases h with ⟨_,rfl⟩ | ⟨_,h,_⟩
  · decide
  · exact Om.i1 ‹_› (by kernel_rfl!)
theorem turn_6 {j : MP} {x mo wd sk lb : Int} {y : PySem.Str} {tx tm ty t1 t2 t3 : Tok} {lv v bv : Value} {p0 p1 : Array UInt8} (hO : DevOk (fun o=>hashB o n) ky n bk d p)
  (hS : Site w A D h₀ L) (hDo : D.outer = []) (hR : Room A 60) (hF : Fr h₀ L hp (lwV bv (lwS v 5 t3 (lwW sk t2 wd t1 (lwT j y ty x tx mo tm lv p tp' d td bk tb ky tk1 lp))))) (hN : News h₀ L hp news)
  (hM : LM news L n dv tr lp p0 p1 c) (hD : DevIs w news dv dd tr lf (fun o=>hashB o n) ky n bk d p)
  (hb : LastOk bv lb) (hX : NormX w dv news v (.ref 54)) (hw : 0 ≤ wd)
  (hk : ∀ (j' : MP) (h' : Heap) (tk' : Nat) (news' : Led),Fr h₀ L h' (lwM j' mo tm lv p tp' d td bk tb ky tk1 lp) → News h₀ L h' news' → (∀ q ∈ news,q ∈ news') → Q .next ⟨h',gs,dr,tk',os⟩) :
  wpAny (model pw w) A (execs (lwB.drop 17) (lwE L fa)) Q E ⟨hp,gs,dr,tk,os⟩ :=by
  k_extra "mx"
  have hu64 : A.units + 64 < cLine :=Om.r2 (d :=8) hR.u (by decide)
  refine LM.el hM ?_;intro o6 u6 o5 o4 o3 u3 ua ub ne a6 d6 a5 d5 a4 d4 a3 d3 al
  obtain ⟨NN,hNN⟩ : ∃ nn,nn = news :=⟨_,rfl⟩
  k_extra "s63"
  refine told_bad (hD.mono fun q hq=>?sub1) hO _ _ (hX.mono fun q hq=>?sub2) _ _ _ lb _ _ _ hw hb.or (by k_extra "site") hDo (by k_extra "roomle") ‹_› ‹_› ?_
  case sub1=>k_mem
  case sub2=>k_mem
  intro xx u' h' tk' news' F' N' k'
  have mb' :=k' _ (.head _)
  k_extra "s47"
  refine ne_told1 N' (.head _) (.tail _ mb') (by decide +kernel) hu64 ?_
  k_extra "s48"
  exact tail_n (k :=1) hS hR (frMap F' (lwD_of rfl rfl rfl rfl rfl rfl rfl rfl)) N' (.tail _ mb') rfl (by decide) (by decide) (fun j' h' tk' F N=>hk j' h' tk' _ F N (fun q hq=>.tail _ (k' q (.tail _ hq))))
theorem fix_ascii {d T : Nat} : (fixS d T).cps.all (· < 128) = true :=by
  rw [Array.all_eq_true']
  exact fun c hc=>decide_eq_true (low_cps (dig_low (fix_digits d T)) c hc)
theorem found_last {f : Int → PySem.Str} {y : PySem.Str} {s e c : Int} {u : Tok} (h : firstM f y (e - s).toNat s = some c) (h0 : 0 ≤ s) (he : e ≤ 2 ^ 42) : LastOk (.int c u) c :=by
  obtain ⟨a,b,_⟩ :=firstM_range h
  exact .inr ⟨by exact Int.le_trans ‹_› ‹_›,Int.le_of_lt (Om.p2 a b (Int.le_trans he (by decide))),u,rfl⟩
theorem turn_7 {j : MP} {x mo wd sk lb wy l : Int} {T : Nat} {tx tm ty t1 t2 t3 : Tok} {lv v bv : Value} (hn : n = 20 ∧ bk = 22 ∨ n = 32 ∧ bk = 36) (hd6 : 6 ≤ d) (hd10 : d ≤ 10) (hO : DevOk (fun o=>hashB o n) ky n bk d p)
  (hS : Site w A D h₀ L) (hDo : D.outer = []) (hR : Room A 60) (hF : Fr h₀ L hp (lwV bv (lwS v wy t3 (lwW sk t2 wd t1 (lwT j (fixS d T) ty x tx mo tm lv p tp' d td bk tb ky tk1 lp))))) (hN : News h₀ L hp news) (hm0 : 0 ≤ mo) (hm1 : mo ≤ 2 ^ 41)
  (hM : LM news L n dv tr lp (pad54 (fun o=>hashB o n) ky bk) (pad92 (fun o=>hashB o n) ky bk) c) (hD : DevIs w news dv dd tr lf (fun o=>hashB o n) ky n bk d p) (hTab : TabF news)
  (hl : LastOk lv l) (hb : LastOk bv lb) (hX : NormC w dv news v (fixS d T)) (hw0 : 0 ≤ wd) (hw1 : wd ≤ 200) (hs0 : -200 ≤ sk) (hs1 : sk ≤ 200) (h5 : wy ≠ 5)
  (hk : ∀ (j' : MP) (lv' : Value) (l' : Int) (h' : Heap) (gs' : Array GenState) (tk' : Nat) (news' : Led),LastOk lv' l' → (gs' = gs ∨ gs' = gs.push .finished) → Fr h₀ L h' (lwM j' mo tm lv' p tp' d td bk tb ky tk1 lp) → News h₀ L h' news' → Turns2 dd news news' →
    DevIs w news' dv dd tr lf (fun o=>hashB o n) ky n bk d p → TabF news' → Q .next ⟨h',gs',dr,tk',os⟩) :
  wpAny (model pw w) A (execs (lwB.drop 17) (lwE L fa)) Q E ⟨hp,gs,dr,tk,os⟩ :=by
  k_extra "mx"
  have hu64 : A.units + 64 < cLine :=Om.r2 (d :=8) hR.u (by decide)
  have hp1 :=hO.hp
  have hp2 :=hO.hp2
  refine LM.el hM ?_;intro o6 u6 o5 o4 o3 u3 ua ub ne a6 d6 a5 d5 a4 d4 a3 d3 al
  obtain ⟨NN,hNN⟩ : ∃ nn,nn = news :=⟨_,rfl⟩
  obtain ⟨g1,g2,g3⟩ :=mc_bounds (p :=p) (mo :=mo) (wd :=wd) (sk :=sk) (l :=lb) hp1 hm0 hm1 hw0 hw1 hs0 hs1
  have hs00 : 0 ≤ mcS p mo wd sk lb :=Int.le_max_right _ _
  have hsz0 : (pad54 (fun o=>hashB o n) ky bk).size < 2 ^ 10 :=Nat.lt_of_le_of_lt (padB_size 54 (keyP_size hO.hH hO.hnb) hO.hbk) (by decide)
  have hsz1 : (pad92 (fun o=>hashB o n) ky bk).size < 2 ^ 10 :=Nat.lt_of_le_of_lt (padB_size 92 (keyP_size hO.hH hO.hnb) hO.hbk) (by decide)
  have hft :=firstM_tok (ky :=ky) (n :=n) (bk :=bk) (d :=d) (y :=fixS d T) (s :=mcS p mo wd sk lb) (e :=mcT p mo wd sk) (Om.h3 hn).1 (by exact Om.n10 ‹_› (by kernel_rfl!)) hd10 hs00 (by exact Om.i4 ‹_› (by kernel_rfl!))
  have hyd : (fixS d T).cps.size = d :=by rw [List.size_toArray,fixD_len]
  k_extra "s64"
  refine' due_spec (pad54 (fun o=>hashB o n) ky bk) (pad92 (fun o=>hashB o n) ky bk) ua ub lp _ ne _ d n p _ _ _ (fixS d T) _ (Om.h1 hn) ⟨hd6,hd10⟩ hsz0 hsz1 hp1 hp2 ?mP ?mD bv mo wd sk lb _ _ _ hb.or (by exact Om.i4 ‹_› (by kernel_rfl!)) g2 g3 hb.le ?aS ?aR ?aF ?aN ?_ ?_ ?_
  (case aF=>assumption)
  (case aN=>assumption)
  (case mP=>k_mem)
  (case mD=>k_mem)
  (case aS=>k_extra "site")
  (case aR=>k_extra "roomle")
  · intro xd ud h' tk' e1 F' N'
    rw [← hft] at e1
    k_extra "s63"
    refine told_spec (hD.mono fun q hq=>?sub1) hO _ _ (fixS d T) (hX.mono fun q hq=>?sub2) (fun c=>devT_shape _ _ _ _ c (by exact Om.n10 ‹_› (by kernel_rfl!))) fix_ascii hyd _ _ _ lb _ _ _ hw0 (by exact Om.i4 ‹_› (by kernel_rfl!)) hb.or (TabSt.mono (fun q hq=>?sub3) hTab) (by k_extra "site") hDo (by k_extra "roomle") ‹_› ‹_› ?_ ?_ ?_
    case sub1=>k_mem
    case sub2=>k_mem
    case sub3=>k_mem
    · intro xx ux h' tk' news' e2 F' N' tu' D' tb'
      have md :=tu'.stay ‹_› (hD.mono fun q hq=>(by k_mem)) (TabSt.mono (fun q hq=>(by k_mem)) hTab) _ (.head _) (fun e=>by cases e) (fun e=>absurd (Value.type.inj e) (by decide))
      k_extra "s47"
      refine ne_told1 N' (.head _) (.tail _ md) (by decide +kernel) hu64 ?_
      k_extra "s48"
      exact tail_n (k :=1) hS hR (frMap F' (lwD_of rfl rfl rfl rfl rfl rfl rfl rfl)) N' (.tail _ md) rfl (by decide) (by decide) (fun j' h' tk' F N=>hk j' _ _ h' _ tk' _ hl (.inl rfl) F N ((Turns2.of_sub fun q hq=>(by k_mem)).trans (tu'.trans (Turns2.of_sub fun q hq=>.tail _ hq))) (D'.mono fun q hq=>.tail _ hq) (TabSt.mono (fun q hq=>.tail _ hq) tb'))
    · intro xx ux vx h' tk' news' e2 F' N' tu' D' tb'
      rw [e1] at e2
      cases e2
    · intro cx xx x0 x1 x2 x3 x4 x5 x6 x7 h' tk' news' e2 ex F' N' tu' D' tb'
      rw [e1] at e2
      cases e2
  · intro xd ud vd h' tk' e1 F' N'
    rw [← hft] at e1
    k_extra "s63"
    refine told_spec (hD.mono fun q hq=>?sub1) hO _ _ (fixS d T) (hX.mono fun q hq=>?sub2) (fun c=>devT_shape _ _ _ _ c (by exact Om.n10 ‹_› (by kernel_rfl!))) fix_ascii hyd _ _ _ lb _ _ _ hw0 (by exact Om.i4 ‹_› (by kernel_rfl!)) hb.or (TabSt.mono (fun q hq=>?sub3) hTab) (by k_extra "site") hDo (by k_extra "roomle") ‹_› ‹_› ?_ ?_ ?_
    case sub1=>k_mem
    case sub2=>k_mem
    case sub3=>k_mem
    · intro xx ux h' tk' news' e2 F' N' tu' D' tb'
      rw [e1] at e2
      cases e2
    · intro xx ux vx h' tk' news' e2 F' N' tu' D' tb'
      have md :=tu'.stay ‹_› (hD.mono fun q hq=>(by k_mem)) (TabSt.mono (fun q hq=>(by k_mem)) hTab) _ (.head _) (fun e=>by cases e) (fun e=>absurd (Value.type.inj e) (by decide))
      k_extra "s47"
      refine ne_told2 N' (.head _) (.tail _ md) (by decide +kernel) hu64 ?_
      k_extra "s48"
      exact tail_n (k :=2) hS hR (frMap F' (lwD_of rfl rfl rfl rfl rfl rfl rfl rfl)) N' (.tail _ md) rfl (by decide) (by decide) (fun j' h' tk' F N=>hk j' _ _ h' _ tk' _ hl (.inl rfl) F N ((Turns2.of_sub fun q hq=>(by k_mem)).trans (tu'.trans (Turns2.of_sub fun q hq=>.tail _ hq))) (D'.mono fun q hq=>.tail _ hq) (TabSt.mono (fun q hq=>.tail _ hq) tb'))
    · intro cx xx x0 x1 x2 x3 x4 x5 x6 x7 h' tk' news' e2 ex F' N' tu' D' tb'
      rw [e1] at e2
      exact absurd (Option.some.inj e2).symm ex
  · intro cc xd u0 u1 u2 u3 u4 u5 u6 u7 h' tk' e1 ec F' N'
    rw [← hft] at e1
    k_extra "s63"
    refine told_spec (hD.mono fun q hq=>?sub1) hO _ _ (fixS d T) (hX.mono fun q hq=>?sub2) (fun c=>devT_shape _ _ _ _ c (by exact Om.n10 ‹_› (by kernel_rfl!))) fix_ascii hyd _ _ _ lb _ _ _ hw0 (by exact Om.i4 ‹_› (by kernel_rfl!)) hb.or (TabSt.mono (fun q hq=>?sub3) hTab) (by k_extra "site") hDo (by k_extra "roomle") ‹_› ‹_› ?_ ?_ ?_
    case sub1=>k_mem
    case sub2=>k_mem
    case sub3=>k_mem
    · intro xx ux h' tk' news' e2 F' N' tu' D' tb'
      rw [e1] at e2
      cases e2
    · intro xx ux vx h' tk' news' e2 F' N' tu' D' tb'
      rw [e1] at e2
      exact absurd (Option.some.inj e2) ec
    · intro cx xx x0 x1 x2 x3 x4 x5 x6 x7 h' tk' news' e2 ex F' N' tu' D' tb'
      rw [e1] at e2
      obtain rfl :=Option.some.inj e2
      have md :=tu'.stay ‹_› (hD.mono fun q hq=>(by k_mem)) (TabSt.mono (fun q hq=>(by k_mem)) hTab) _ (.head _) (fun e=>by cases e) (fun e=>absurd (Value.type.inj e) (by decide))
      k_extra "s47"
      refine ne_told8 N' (.head _) (.tail _ md) hu64 ?_
      k_extra "s48"
      exact tail_8 hS hR (frMap F' (lwD_of rfl rfl rfl rfl rfl rfl rfl rfl)) N' (.tail _ md) (fun j' h' tk' F N=>hk j' _ _ h' _ tk' _ (found_last e1 hs00 g1) (.inr rfl) F N ((Turns2.of_sub fun q hq=>(by k_mem)).trans (tu'.trans (Turns2.of_sub fun q hq=>.tail _ hq))) (D'.mono fun q hq=>.tail _ hq) (TabSt.mono (fun q hq=>.tail _ hq) tb'))
theorem turn_all {i i' : Nat} {x : Int} {tx : Tok} {it l : Addr} {oL : Obj} (hi : i < 100) (hn : n = 20 ∧ bk = 22 ∨ n = 32 ∧ bk = 36) (hd6 : 6 ≤ d) (hd10 : d ≤ 10) (hO : DevOk (fun o=>hashB o n) ky n bk d p)
  (hS : Site w A D h₀ L) (hDo : D.outer = []) (hR : Room A 60) (hF : Fr h₀ L hp (fun z=>if z = ofString "number" then some (.int x tx) else m z)) (hN : News h₀ L hp news)
  (hJ : LJ w L dv dd tr lf lp ky n bk d p c tp' td tb tk1 i m news gs) (hit : ItAt news it l i') (hl : (l,oL) ∈ news) (cL : oL.cls = .type "list") :
  wpAny (model pw w) A (execs lwB (lwE L fa)) (TurnL h₀ L dr os it l oL i' (LJ w L dv dd tr lf lp ky n bk d p c tp' td tb tk1 (i + 1))) (fun _ _=>False) ⟨hp,gs,dr,tk,os⟩ :=by
  obtain ⟨j,mo,tm,lv,la,rfl,hm0,hm1,hla,hM,hD,hT,hB⟩ :=hJ
  have hp1 :=hO.hp
  have hp2 :=hO.hp2
  refine turn_1 (tm :=tm) hn hd6 hd10 hO hS hR hF hN hm0 (Om.g11 (Nat.le_of_lt hi) hm1) hM hD ?_
  intro j1 T mz ty ta h1 k1 n1 b0 b1 F1 N1 U1 D1
  have tf1 : TabF n1 :=hT.1.turns hN hD U1 (by decide)
  have M1 :=hM.mono (U1.keep hN hD)
  have T1 :=hT.two U1.two hN hD tf1
  have hmo : 0 ≤ mz ∧ mz ≤ 2 ^ 40 + 100 * ((i + 1 : Nat) : Int) :=Om.g10 hm0 hm1 b0 b1
  have hmo2 : mz ≤ 2 ^ 41 :=Om.g11 hi hmo.2
  have B1 : AllBare (gs.push .finished) :=hB.push rfl
  refine turn_2 hd6 hd10 hS hR F1 N1 ?_
  intro j2 T2 ty2 h2 k2 F2 N2
  refine turn_3 hp1 hp2 hS hR F2 N2 ?_
  intro wd sk t1 t2 h3 k3 w0 w1 s0 s1 F3 N3
  refine turn_4 hd6 hd10 hS hR F3 N3 D1 ?_
  intro wy v t3 h4 k4 hv F4 N4
  refine turn_5 hS hR F4 N4 hla ?_
  intro bv lb h5 k5 hb F5 N5
  have fin : ∀ (j' : MP) (lv' : Value) (l' : Int) (h' : Heap) (gs' : Array GenState) (tk' : Nat) (news' : Led),LastOk lv' l' → AllBare gs' → Fr h₀ L h' (lwM j' mz ta lv' p tp' d td bk tb ky tk1 lp) → News h₀ L h' news' → Turns2 dd n1 news' →
      DevIs w news' dv dd tr lf (fun o=>hashB o n) ky n bk d p → TabF news' → TurnL h₀ L dr os it l oL i' (LJ w L dv dd tr lf lp ky n bk d p c tp' td tb tk1 (i + 1)) .next ⟨h',gs',dr,tk',os⟩ :=by
    intro j' lv' l' h' gs' tk' news' hl' hB' F' N' U' D' tf'
    have st : ∀ q ∈ news,q.2.cls ≠ .none → q.2.cls ≠ .type "dict" → q ∈ news' :=fun q hq c1 c2=>U'.stay N1 D1 tf1 q (U1.two.stay hN hD hT.1 q hq c1 c2) c1 c2
    obtain ⟨oi,mi,ci,di⟩ :=hit
    exact ⟨rfl,h',gs',tk',_,news',rfl,F',N',⟨oi,st _ mi (by rw [ci];exact fun e=>by cases e) (by rw [ci];exact fun e=>absurd (Value.type.inj e) (by decide)),ci,di⟩,
      st _ hl (by rw [cL];exact fun e=>by cases e) (by rw [cL];exact fun e=>absurd (Value.type.inj e) (by decide)),j',mz,ta,lv',l',rfl,hmo.1,hmo.2,hl',M1.mono (U'.keep N1 D1 tf1),D',T1.two U' N1 D1 tf',hB'⟩
  rcases hv with ⟨h5',hv⟩ | ⟨rfl,hv⟩
  · refine turn_7 hn hd6 hd10 hO hS hDo hR F5 N5 hmo.1 hmo2 M1 D1 tf1 hla hb hv w0 w1 s0 s1 h5' ?_
    intro j' lv' l' h' gs' tk' news' a b F' N' U' D' tf'
    exact fin j' lv' l' h' gs' tk' news' a (by rcases b with rfl | rfl;exact B1;exact B1.push rfl) F' N' U' D' tf'
  · refine turn_6 hO hS hDo hR F5 N5 M1 D1 hb hv w0 ?_
    intro j' h' tk' news' F' N' k'
    exact fin j' lv la h' _ tk' news' hla B1 F' N' (Turns2.of_sub k') (D1.mono k') (TabSt.mono k' tf1)
end
section
open PySem.Calls
section
variable {w : World} {prog : Program} {A : Around} {E : VP} {h h₀ : Heap} {g : Array GenState} {d : Drawn} {t : Nat} {os : OsState} {L : Addr} {m : MP} {news : Led} {Q : VP}
theorem pow40 {u v : Tok} (hq : ∀ u t',Q (.int 1099511627776 u) ⟨h,g,d,t',os⟩) : wpAny (model prog w) A (binaryOp .Pow (.int 2 u) (.int 40 v)) Q E ⟨h,g,d,t,os⟩ :=
  pow_int_small (s :=⟨h,g,d,t,os⟩) (by decide) (by decide) (by decide) (hq _ _)
theorem pow20 {u v : Tok} (hq : ∀ u t',Q (.int 100000000000000000000 u) ⟨h,g,d,t',os⟩) : wpAny (model prog w) A (binaryOp .Pow (.int 10 u) (.int 20 v)) Q E ⟨h,g,d,t,os⟩ :=
  pow_int_small (s :=⟨h,g,d,t,os⟩) (by decide) (by decide) (by decide) (hq _ _)
theorem slice37 {la : Addr} {vs : List Value} {ns : List Int} {u v : Tok} {value slice : PySem.Expr} (F : Fr h₀ L h m) (N : News h₀ L h news) (hl : h₀.IsList la vs.toArray) (hi : IntsAre vs ns) (hz : ns.length ≤ 63)
    (hq : ∀ l h' vs' ns',Fr h₀ L h' m → News h₀ L h' ((l,(⟨.type "list",none, .seq (List.toArray vs') 0, #[]⟩ : Obj)) :: news) → IntsAre vs' ns' → ns'.length ≤ 63 → Q (.ref l) ⟨h',g,d,t,os⟩)
    (hs : autoParam (subscripted slice false (.ref la) (.ref h.objs.size) = operate [.ref h.objs.size, .ref la] (getItem (.ref la) (.ref h.objs.size))) ap._auto_3)
    (ht : autoParam (∀ r,letTemporaryGo value (.ref la) r = pure ()) ap._auto_4) :
    wpAny (model prog w) A (subscriptTail value slice (.ref la) (.ref h.objs.size)) Q E ⟨h.push { cls :=.type "slice",data :=.fields #[.int 3 u, .int 7 v, .none] },g,d,t,os⟩ :=by
  refine slice_list (s :=⟨h,g,d,t,os⟩) F N (hl.at fun o e=>F.keep _ _ e) (.int 3 u) (.int 7 v) (fun h' F' N'=>?_) hs ht (by rw [List.size_toArray,hi.length,sizeLine_eq];exact Om.n1 ‹_› (by kernel_rfl!))
  refine hq _ h' (slicePick vs.toArray (some 3) (some 7) none).toList _ F' ?_ (slice_ints_plain hi 3 7) ?_
  · rw [Array.toArray_toList];exact N'
  · rw [List.length_take,List.length_drop]
    exact Nat.le_trans (Nat.min_le_right _ _) (Nat.le_trans (Nat.sub_le _ _) hz)
end
section
variable {w : World} {A : Around} {D : SD} {hp h₀ : Heap} {gs : Array GenState} {dr : Drawn} {tk : Nat} {os : OsState} {L : Addr} {m : MP} {news : Led} {E : VP} {Q : FP}
variable {fa dv dd tr lf lp : Addr} {ky : Array UInt8} {n bk d : Nat} {p c : Int} {tp' td tb tk1 : Tok}
theorem law_g {la : Addr} {o1 : Obj} {vs : List Value} {ns : List Int} (hn : n = 20 ∧ bk = 22 ∨ n = 32 ∧ bk = 36) (hd6 : 6 ≤ d) (hd10 : d ≤ 10) (hO : DevOk (fun o=>hashB o n) ky n bk d p)
  (hS : Site w A D h₀ L) (hDo : D.outer = []) (hR : Room A 60) (hF : Fr h₀ L hp m) (hN : News h₀ L hp news)
  (hpe : m (ofString "period") = some (.int p tp')) (hdi : m (ofString "digits") = some (.int (d : Int) td)) (hbl : m (ofString "block") = some (.int (bk : Int) tb)) (hky : m (ofString "key") = some (.bytes ky tk1)) (hpa : m (ofString "pads") = some (.ref lp))
  (a1 : (L + 1,o1) ∈ news) (d1 : o1.data = .cell (some (.ref la))) (hl : h₀.IsList la vs.toArray) (hi : IntsAre vs ns) (hlen : ns.length ≤ 63)
  (hM : LM news L n dv tr lp (pad54 (fun o=>hashB o n) ky bk) (pad92 (fun o=>hashB o n) ky bk) c) (hD : DevIs w news dv dd tr lf (fun o=>hashB o n) ky n bk d p) (hT : Tabs w news) (hB : AllBare gs)
  (hk : ∀ (j : MP) (mo : Int) (tm : Tok) (lv : Value) (h' : Heap) (gs' : Array GenState) (tk' : Nat) (news' : Led), 0 ≤ mo → mo ≤ 2 ^ 41 → Fr h₀ L h' (lwM j mo tm lv p tp' d td bk tb ky tk1 lp) → News h₀ L h' news' →
     LM news' L n dv tr lp (pad54 (fun o=>hashB o n) ky bk) (pad92 (fun o=>hashB o n) ky bk) c → DevIs w news' dv dd tr lf (fun o=>hashB o n) ky n bk d p → Tabs w news' → AllBare gs' →
     wpAny (model pw w) A (execs ((bodyS (tp 33)).drop 14) (lwE L fa)) Q E ⟨h',gs',dr,tk',os⟩) :
  wpAny (model pw w) A (execs ((bodyS (tp 33)).drop 11) (lwE L fa)) Q E ⟨hp,gs,dr,tk,os⟩ :=by
  k_extra "mx"
  refine LM.el hM ?_;intro o6 u6 o5 o4 o3 u3 ua ub ne a6 d6 a5 d5 a4 d4 a3 d3 al
  have hmo : 0 ≤ c.fmod 1099511627776 ∧ c.fmod 1099511627776 < 1099511627776 :=⟨Int.fmod_nonneg_of_pos _ (by decide),Int.fmod_lt_of_pos _ (by decide)⟩
  k_extra "s65"
  refine pow40 ?_
  intro _ _
  k_extra "s16"
  have F1 :=frMap F' (lwM_of rfl rfl hpe hdi hbl hky hpa)
  clear F'
  refine wpAny_For ?_
  k_extra "s62"
  k_dflt (refine slice37 ‹_› ‹_› hl hi hlen ?_)
  intro l h' vs' ns' F' N' hi' hl'
  generalize hmz : c.fmod 1099511627776 = mz at *
  have h0 : ∀ j tm,LJ w L dv dd tr lf lp ky n bk d p c tp' td tb tk1 0 (lwM j mz tm .none p tp' d td bk tb ky tk1 lp) news gs :=fun j tm=>⟨j,mz,tm, .none, -1,rfl,hmo.1,by exact Om.j2 ‹_› (by kernel_rfl!), .inl ⟨rfl,rfl⟩,hM,hD,hT,hB⟩
  refine iter_listL (LJ w L dv dd tr lf lp ky n bk d p c tp' td tb tk1) (fun i h₁ m₁ a b gs it o N hm hc ht k x=>x.but N hm hc ht k) (fun b k x=>x.mono k) (Room.h hR) F' N' (.head _) rfl rfl ((h0 _ _).mono fun q hq=>.tail _ hq) ?_ ?_
  · intro i v it m₁ h₁ g₁ tk₁ news₁ hv J I l₁ F₁ N₁
    have hlt : i < vs'.length :=(List.getElem?_eq_some_iff.mp hv).1
    have hlv :=hi'.length
    obtain ⟨x,tx,rfl,_⟩ :=hi'.at i v hv
    clear F1 N' h0 hM hD hT hB
    k_extra "s66"
    exact turn_all (Nat.lt_of_lt_of_le hlt (Nat.le_trans (Nat.le_of_eq hlv) (Nat.le_trans hl' (by decide)))) hn hd6 hd10 hO hS hDo hR ‹_› ‹_› J I l₁ rfl
  · intro h' g' tk' m' news' F' N' J
    obtain ⟨j,mo,tm,lv,l,rfl,q1,q2,_,q3,q4,q5,q6⟩ :=J
    have hlv :=hi'.length
    exact hk _ _ _ _ _ _ _ _ q1 (Om.g11 (Nat.le_trans (Nat.le_of_eq hlv) (Nat.le_trans hl' (by decide))) q2) F' N' q3 q4 q5 q6
end
end
section
open PySem.Calls
noncomputable def ansT (i : Nat) : Str :=if i < 7 then ofString "ValueError" else if i < 13 then ofString "MalformedTokenError" else if i < 21 then ofString "TypeError" else if i < 22 then ofString "RuntimeError" else ofString "AssertionError"
noncomputable def T504 (i : Nat) (news : Led) : Prop :=∃ ps,(504,tabObj ps) ∈ news ∧ (i ≤ 22 → ps = #[]) ∧ (i ≤ 23 → TriplesOk ps.toList ∧ codeAmong (lPos lam23) ps.toList = none)
noncomputable def R504 (i : Nat) (nw news' : Led) : Prop :=(∀ q ∈ nw, @Ne Nat q.1 204 → @Ne Nat q.1 504 → q ∈ news') ∧ TabSt news' 204 (posOf hmS) hmQ ∧ T504 (i + 1) news'
section
variable {w : World} {A : Around} {D : SD} {hp h₀ : Heap} {gs : Array GenState} {dr : Drawn} {tk : Nat} {os : OsState} {L : Addr} {m : MP} {news : Led} {Q E : VP}
variable {dv dd tr lf : Addr} {ky : Array UInt8} {n bk d : Nat} {p : Int}
theorem r504_sub {H : Array UInt8 → Array UInt8} {i : Nat} {news' : Led} (hi : i < 22) (hD : DevIs w news dv dd tr lf H ky n bk d p) (hT : T504 i news) (k : Sub news news') : R504 i news news' :=by
  obtain ⟨_,_,h3,_⟩ :=hD
  obtain ⟨ps,a,b,c⟩ :=hT
  exact ⟨fun q hq _ _=>k q hq,TabSt.mono k h3,ps,k _ a,fun _=>b (by exact Nat.le_of_lt ‹_›),fun _=>c (by exact Nat.le_of_lt ‹_›)⟩
theorem or24 : ∀ i < 24,i = 0 ∨ i = 1 ∨ i = 2 ∨ i = 3 ∨ i = 4 ∨ i = 5 ∨ i = 6 ∨ i = 7 ∨ i = 8 ∨ i = 9 ∨ i = 10 ∨ i = 11 ∨ i = 12 ∨ i = 13 ∨ i = 14 ∨ i = 15 ∨ i = 16 ∨ i = 17 ∨ i = 18 ∨ i = 19 ∨ i = 20 ∨ i = 21 ∨ i = 22 ∨ i = 23 :=by decide
theorem answer_all {i : Nat} {far : Int} (t1 t2 : Tok) (hi : i < 24) (hn : (n : Int) = 20 ∨ (n : Int) = 32) (hD : DevIs w news dv dd tr lf (fun o=>hashB o n) ky n bk d p) (hO : DevOk (fun o=>hashB o n) ky n bk d p) (hf0 : 0 ≤ far) (hf : far < 10 ^ 20) (hT : T504 i news)
   (hS : Site w A D h₀ L) (hDo : D.outer = []) (hR : Room A 21) (hF : Fr h₀ L hp m) (hN : News h₀ L hp news)
   (hret : ∀ (u : Tok) (h' : Heap) (tk' : Nat) (news' : Led),Fr h₀ L h' m → News h₀ L h' news' → R504 i news news' → Q (.str (ansT i) u) ⟨h',gs,dr,tk',os⟩) :
      wpAny (model pw w) A (call (.ref 516) [.int (i : Int) t1, .ref dv, .ref tr, .int far t2]) Q E ⟨hp,gs,dr,tk,os⟩ :=by
  have sb : i < 22 → ∀ news',Sub news news' → R504 i news news' :=fun h news' k=>r504_sub h hD hT k
  have h3 :=hD.2.2.1
  rcases or24 i hi with rfl | rfl | rfl | rfl | rfl | rfl | rfl | rfl | rfl | rfl | rfl | rfl | rfl | rfl | rfl | rfl | rfl | rfl | rfl | rfl | rfl | rfl | rfl | rfl
  · exact answer_V t1 t2 (wrong_0 hD hO far hf0) hS hDo hR hF hN fun u h' tk' nw a b c=>hret u h' tk' nw a b (sb (by decide) _ c)
  · exact answer_V t1 t2 (wrong_1 hD hO far hf0) hS hDo hR hF hN fun u h' tk' nw a b c=>hret u h' tk' nw a b (sb (by decide) _ c)
  · exact answer_V t1 t2 (wrong_2 hD hn far hf0) hS hDo hR hF hN fun u h' tk' nw a b c=>hret u h' tk' nw a b (sb (by decide) _ c)
  · exact answer_V t1 t2 (wrong_3 hD hn far hf0) hS hDo hR hF hN fun u h' tk' nw a b c=>hret u h' tk' nw a b (sb (by decide) _ c)
  · exact answer_V t1 t2 (wrong_4 hD hn far hf0) hS hDo hR hF hN fun u h' tk' nw a b c=>hret u h' tk' nw a b (sb (by decide) _ c)
  · exact answer_V t1 t2 (wrong_5 hD hn far) hS hDo hR hF hN fun u h' tk' nw a b c=>hret u h' tk' nw a b (sb (by decide) _ c)
  · exact answer_V t1 t2 (wrong_6 hD hn far) hS hDo hR hF hN fun u h' tk' nw a b c=>hret u h' tk' nw a b (sb (by decide) _ c)
  · exact answer_54 t1 t2 (wrong_7 hD hO far hf0 hf) hS hDo hR hF hN fun u h' tk' nw a b c=>hret u h' tk' nw a b (sb (by decide) _ c)
  · exact answer_54 t1 t2 (wrong_8 hD hO far hf0 hf) hS hDo hR hF hN fun u h' tk' nw a b c=>hret u h' tk' nw a b (sb (by decide) _ c)
  · exact answer_54 t1 t2 (wrong_9 hD hO far) hS hDo hR hF hN fun u h' tk' nw a b c=>hret u h' tk' nw a b (sb (by decide) _ c)
  · exact answer_54 t1 t2 (wrong_10 hD hO far hf0 hf) hS hDo hR hF hN fun u h' tk' nw a b c=>hret u h' tk' nw a b (sb (by decide) _ c)
  · exact answer_54 t1 t2 (wrong_11 hD hO far hf0 hf) hS hDo hR hF hN fun u h' tk' nw a b c=>hret u h' tk' nw a b (sb (by decide) _ c)
  · exact answer_54 t1 t2 (wrong_12 hD hO far) hS hDo hR hF hN fun u h' tk' nw a b c=>hret u h' tk' nw a b (sb (by decide) _ c)
  · exact answer_T t1 t2 (wrong_13 hD hO far) hS hDo hR hF hN fun u h' tk' nw a b c=>hret u h' tk' nw a b (sb (by decide) _ c)
  · exact answer_T t1 t2 (wrong_14 hD hO far) hS hDo hR hF hN fun u h' tk' nw a b c=>hret u h' tk' nw a b (sb (by decide) _ c)
  · exact answer_T t1 t2 (wrong_15 hD hO far) hS hDo hR hF hN fun u h' tk' nw a b c=>hret u h' tk' nw a b (sb (by decide) _ c)
  · exact answer_T t1 t2 (wrong_16 hD hO far) hS hDo hR hF hN fun u h' tk' nw a b c=>hret u h' tk' nw a b (sb (by decide) _ c)
  · exact answer_T t1 t2 (wrong_17 hD hn far) hS hDo hR hF hN fun u h' tk' nw a b c=>hret u h' tk' nw a b (sb (by decide) _ c)
  · exact answer_T t1 t2 (wrong_18 hD hn far) hS hDo hR hF hN fun u h' tk' nw a b c=>hret u h' tk' nw a b (sb (by decide) _ c)
  · exact answer_T t1 t2 (wrong_19 hD hn far) hS hDo hR hF hN fun u h' tk' nw a b c=>hret u h' tk' nw a b (sb (by decide) _ c)
  · exact answer_T t1 t2 (wrong_20 hD hn far) hS hDo hR hF hN fun u h' tk' nw a b c=>hret u h' tk' nw a b (sb (by decide) _ c)
  · exact answer_R t1 t2 (wrong_21 hD hn far) hS hDo hR hF hN fun u h' tk' nw a b c=>hret u h' tk' nw a b (sb (by decide) _ c)
  · obtain ⟨ps,a,b,c⟩ :=hT
    obtain rfl :=b (by decide)
    refine answer_A t1 t2 (wrong_22 a h3 far) hS hDo hR hF hN fun u h' tk' nw x y z=>hret u h' tk' nw x y ?_
    obtain ⟨z1,z2,ps,z3,z4,z5⟩ :=z
    exact ⟨z1,z2,ps,z3,fun h=>absurd h (by decide),fun _=>⟨z4,z5⟩⟩
  · obtain ⟨ps,a,b,c⟩ :=hT
    obtain ⟨c1,c2⟩ :=c (by decide)
    refine answer_A t1 t2 (wrong_23 a c1 c2 h3 far) hS hDo hR hF hN fun u h' tk' nw x y z=>hret u h' tk' nw x y ?_
    obtain ⟨z1,z2,ps,z3⟩ :=z
    exact ⟨z1,z2,ps,z3,fun h=>absurd h (by decide),fun h=>absurd h (by decide)⟩
end
end
section
open PySem.Calls
theorem lt_one {h : Heap} {o : Obj} {b : Nat} (e : b < h.objs.size) : @Ne Nat b (h.push o).objs.size :=by rw [Heap.size_push];exact Nat.ne_of_lt (Nat.lt_succ_of_lt e)
theorem lt_two {h : Heap} {o o' : Obj} {b : Nat} (e : b < h.objs.size) : @Ne Nat b ((h.push o).push o').objs.size :=lt_one (by rw [Heap.size_push];exact Nat.lt_succ_of_lt e)
theorem at_one {h : Heap} {o o' : Obj} : @Ne Nat (h.push o).objs.size ((h.push o).push o').objs.size :=by rw [Heap.size_push (h.push o)];exact Nat.ne_of_lt (Nat.lt_succ_self _)
theorem at_two {h : Heap} {o o' : Obj} : @Ne Nat h.objs.size ((h.push o).push o').objs.size :=lt_one (by rw [Heap.size_push];exact Nat.lt_succ_self _)
theorem lt_self {h : Heap} {o : Obj} : @Ne Nat h.objs.size (h.push o).objs.size :=by rw [Heap.size_push];exact Nat.ne_of_lt (Nat.lt_succ_self _)
theorem thou : 1000 ≤ sizeLine :=by rw [sizeLine_eq];decide
theorem nil_ok : ([] : List Value).length ≤ sizeLine :=Nat.zero_le _
noncomputable abbrev rngO (i k : Int) : Obj :={ cls :=.type "range_iterator",data :=.fields #[rawInt i,rawInt k,rawInt 1] }
noncomputable def RngK (h₀ : Heap) (L : Addr) (m : MP) (news : Led) (g : Array GenState) (d : Drawn) (os : OsState) (k : Nat) (xv : Value) (s₁ : Shared) : Prop :=
  ∃ r t u v h1 t1,xv = .ref r ∧ s₁ = ⟨h1,g,d,t1,os⟩ ∧ Fr h₀ L h1 m ∧ News h₀ L h1 news ∧ IsRange h1 r 0 (k : Int) 1 t u v
noncomputable def EltK (h₀ : Heap) (L : Addr) (m : MP) (g : Array GenState) (d : Drawn) (os : OsState) (I C D : Addr) (oI oC oD : Obj) (J : Value → List (Addr × Obj) → Prop) (y : Value) (s' : Shared) : Prop :=
  ∃ h' tk' news',s' = ⟨h',g,d,tk',os⟩ ∧ Fr h₀ L h' m ∧ News h₀ L h' ((I,oI) :: (C,oC) :: (D,oD) :: news') ∧ LCg.Off3 I C D news' ∧ J y news'
inductive LdSt (L : Addr) (h₀ : Heap) (m : MP) (g : Array GenState) (d : Drawn) (os : OsState) (I C D : Addr) (J : Nat → List Value → List (Addr × Obj) → Prop) (k n : Nat) (s : Shared) : Prop
  | mk (i h' tk' ys m' news') (e : n = k - i) (hi : i ≤ k) (hy : ys.length = i) (q : s = ⟨h',g,d,tk',os⟩) (F : Fr h₀ L h' m) (gI : h'.get? I = some (rngO (i : Int) ((k : Int) - i))) (ns : h'.Ns C m') (N : News h₀ L h' ((D,LCg.lst ys) :: news')) (off : LCg.Off3 I C D news') (hJ : J i ys news') : LdSt L h₀ m g d os I C D J k n s
section
variable {prog : Program} {w : World} {A : Around} {E : VP} {h h₀ : Heap} {g : Array GenState} {d : Drawn} {tk : Nat} {os : OsState} {L : Addr} {m : MP} {news : Led} {env : Env}
theorem led_loop {elt iter : PySem.Expr} {x y : PySem.Str} {px py pos : Pos} {scope : Scope} {cl : List (Str × Addr)} {k tk4 : Nat} {I C D : Addr} {m0 : MP} {Q : FP} (J : Nat → List Value → List (Addr × Obj) → Prop)
    (hh : A.handled = none) (hkind : scope.kind = .function) (hx : scope.names.lookup x = some .local) (hy : env.kindOf y = some .local) (hp : (env.scope.kind == .class || (env.scope.kind == .module && env.locals != env.globals)) = false) (hk : k ≤ 1000)
    (lI : @Ne Nat I env.locals) (lD : @Ne Nat D env.locals) (lC : @Ne Nat C env.locals) (fI : h₀.get? I = none) (fD : h₀.get? D = none) (fC : h₀.get? C = none) (nDC : @Ne Nat D C) (nIC : @Ne Nat I C) (nID : @Ne Nat I D)
    (gI : h.get? I = some (rngO 0 (k : Int))) (ns : h.Ns C m0) (F : Fr h₀ env.locals h m) (N : News h₀ env.locals h ((D,LCg.lst []) :: news)) (off : LCg.Off3 I C D news) (h0 : J 0 [] news)
    (step : ∀ (i : Nat) (oC : Obj) (ys : List Value) (m₃ : MP) (h₁ : Heap) (tk₁ : Nat) (t' : Tok) (news₁ : Led) (E' : VP),i < k → ys.length = i → J i ys news₁ → LCg.NsObj oC m₃ → m₃ x = some (.int (i : Int) t') → Fr h₀ env.locals h₁ m →
      News h₀ env.locals h₁ ((I,rngO ((i : Int) + 1) ((k : Int) - i - 1)) :: (C,oC) :: (D,LCg.lst ys) :: news₁) → LCg.Off3 I C D news₁ →
      wpAny (model prog w) A (eval elt (compEnvC scope cl C env)) (EltK h₀ env.locals m g d os I C D (rngO ((i : Int) + 1) ((k : Int) - i - 1)) oC (LCg.lst ys) (fun y nw=>J (i + 1) (ys ++ [y]) nw)) E' ⟨h₁,g,d,tk₁,os⟩)
    (hQ : ∀ (h' : Heap) (tk' : Nat) (ys : List Value) (news' : Led),Fr h₀ env.locals h' (fun z=>if z = y then some (.ref D) else m z) → News h₀ env.locals h' ((D,LCg.lst ys) :: news') → ys.length = k → J k ys news' → Q .next ⟨h',g,d,tk',os⟩) :
    codeAny (model prog w) A (.compLoop (.ListComp elt [⟨.Name x px,iter, [], 0⟩] scope pos) 0 (.ref I) (.ref D) (compEnvC scope cl C env)) (compPost (model prog w) A E (some (assign (.Name y py) env)) (fun _ s'=>Q .next s') (.ref D) C) ⟨h,g,d,tk4,os⟩ :=by
  refine codeAny_compLoop_list (LdSt env.locals h₀ m g d os I C D J k) ?_ k ⟨0,h,tk4, [],_,news,rfl,Nat.zero_le _,rfl,rfl,F,gI.trans (congrArg (fun z=>some (rngO 0 z)) (Int.sub_zero _).symm),ns,N,off,h0⟩
  rintro n s ⟨i,h',tk',ys,m',news',rfl,hi,hyl,rfl,F',hit,hns,N',off,hJ⟩
  have of3 :=off.mem
  by_cases hlt : i < k
  · refine wpAny_pyNext_range_item (s :=⟨h',g,d,tk',os⟩) hit (by omega) (fun h2 hit2 sb2=>?_)
    refine wpAny_assign_Name (wpAny_storeName_local (lookup_relabel_local hx) (hns.sameBut sb2 nIC.symm) (fun h3 hn3 sb3=>?_) (by simp [compEnvC,relabel,hkind]))
    obtain ⟨oC,eC,hoC⟩ :=LCg.ns_obj hn3
    have hit3 : h3.get? I = some (rngO ((i : Int) + 1) ((k : Int) - i - 1)) :=sb3.extBut _ _ nIC hit2
    have F3 : Fr h₀ env.locals h3 m :=(F'.change sb2 lI fI).change sb3 lC fC
    have N3 : News h₀ env.locals h3 ((I,rngO ((i : Int) + 1) ((k : Int) - i - 1)) :: (C,oC) :: (D,LCg.lst ys) :: news') :=
      List.forall_mem_cons.mpr ⟨⟨hit3,lI,fI⟩,List.forall_mem_cons.mpr ⟨⟨eC,lC,fC⟩,List.forall_mem_cons.mpr ⟨⟨sb3.extBut _ _ nDC (sb2.extBut _ _ nID.symm (N' _ (.head _)).1),lD,fD⟩,fun p hp=>⟨sb3.extBut _ _ (of3 p hp).2.1 (sb2.extBut _ _ (of3 p hp).1 (N' p (.tail _ hp)).1),(N' p (.tail _ hp)).2⟩⟩⟩⟩
    refine wpAny_mono (step i oC ys _ h3 _ _ news' _ hlt hyl hJ hoC (if_pos rfl) F3 N3 off) (fun y4 s4 h4'=>?_) fun _ _ e=>e
    obtain ⟨h5,tk5,news5,rfl,F5,N5,off5,J5⟩ :=h4'
    have zD :=(N5 _ (.tail _ (.tail _ (.head _)))).1
    refine append_at (s :=⟨h5,g,d,tk5,os⟩) (hsz :=Nat.le_trans (Nat.le_of_eq ((List.size_toArray ..).trans hyl)) (Nat.le_trans (Nat.le_of_lt hlt) (Nat.le_trans hk thou))) zD fun h6 sb6 zD6=>?_
    exact ⟨k - (i + 1),Nat.sub_lt_sub_left hlt (Nat.lt_succ_self i),i + 1,h6,tk5,ys ++ [y4],_,news5,rfl,hlt,(List.length_append ..).trans (congrArg (· + 1) hyl),rfl,F5.change sb6 lD fD,(sb6.extBut _ _ nID (N5 _ (.head _)).1).trans (congrArg (fun z=>some (rngO ((i : Int) + 1) z)) (Int.sub_sub ..)),(hoC.ns (N5 _ (.tail _ (.head _))).1).sameBut sb6 nDC.symm,
      List.forall_mem_cons.mpr ⟨⟨zD6.trans (congrArg some (LCg.lst_snoc ys y4)),lD,fD⟩,fun p hp=>⟨sb6.extBut _ _ (off5.mem p hp).2.2 (N5 p (.tail _ (.tail _ (.tail _ hp)))).1,(N5 p (.tail _ (.tail _ (.tail _ hp)))).2⟩⟩,off5,J5⟩
  · obtain rfl : i = k :=Nat.le_antisymm hi (Nat.not_lt.mp hlt)
    refine wpAny_pyNext_range_end (s :=⟨h',g,d,tk',os⟩) hh hit (by lia) (fun h2 eb=>?_)
    show wpAny _ A (assign (.Name y py) env (.ref D)) _ _ _
    have F2 : Fr h₀ env.locals h2 m :=⟨F'.ns.at' fun o e=>eb _ o lI.symm e,fun b o e=>eb b o (fun q=>by rw [q,fI] at e;cases e) (F'.keep b o e),F'.above⟩
    refine wpAny_assign_Name (wpAny_storeName_local hy F2.ns (fun h3 hn3 sb3=>?_) hp)
    have hL₀ : h₀.get? env.locals = none :=Heap.get?_none_of_le F'.above
    have F3 : Fr h₀ env.locals h3 (fun z=>if z = y then some (.ref D) else m z) :=⟨hn3,fun b o e=>sb3.extBut b o (fun q=>by rw [q,hL₀] at e;cases e) (F2.keep b o e),F'.above⟩
    have up : ∀ {h7 : Heap},Heap.SameBut C h3 h7 → ∀ p ∈ (D,LCg.lst ys) :: news',p.1 ≠ I → p.1 ≠ C → h7.get? p.1 = some p.2 ∧ p.1 ≠ env.locals ∧ h₀.get? p.1 = none :=fun sb7 p hp nI nC=>⟨sb7.extBut _ _ nC (sb3.extBut _ _ (N' p hp).2.1 (eb _ _ nI (N' p hp).1)),(N' p hp).2⟩
    exact ⟨m',(hns.at' fun o e=>eb _ o nIC.symm e).sameBut sb3 lC,fun h7 sb7=>hQ h7 _ ys news' (F3.change sb7 lC fC) (List.forall_mem_cons.mpr ⟨up sb7 _ (.head _) nID.symm nDC,fun p hp=>up sb7 p (.tail _ hp) (of3 p hp).1 (of3 p hp).2.1⟩) hyl hJ⟩
theorem led_comp {elt iter : PySem.Expr} {x y : PySem.Str} {px py pos spos : Pos} {scope : Scope} {cl : List (Str × Addr)} {k : Nat} {Q : FP} (J : Nat → List Value → List (Addr × Obj) → Prop)
    (hh : A.handled = none) (_F : Fr h₀ L h m) (hLe : env.locals = L) (hsw : swapsWith (.ListComp elt [⟨.Name x px,iter, [], 0⟩] scope pos) (some (.Name y py)) spos.line env = pure true)
    (hclos : closureFor scope env = pure cl) (hcell : ∀ z ∈ scope.names,z.2 ≠ .cell) (hkind : scope.kind = .function)
    (hnames : ∀ z ∈ scope.names,z.2 = .local → scope.names.lookup z.1 = some .local) (hx : scope.names.lookup x = some .local)
    (hy : env.kindOf y = some .local) (hp : (env.scope.kind == .class || (env.scope.kind == .module && env.locals != env.globals)) = false)
    (hev : wpAny (model prog w) A (eval iter env) (RngK h₀ L m news g d os k) E ⟨h,g,d,tk,os⟩)
    (hsm : Builtin.Range.small 0 (k : Int) 1 = true) (hn : Builtin.Range.rangeSize 0 (k : Int) 1 = (k : Int)) (hk : k ≤ 1000) (h0 : J 0 [] news)
    (step : ∀ (i : Nat) (I C D : Addr) (oC : Obj) (ys : List Value) (m₃ : MP) (h₁ : Heap) (tk₁ : Nat) (t' : Tok) (news₁ : Led) (E' : VP),i < k → ys.length = i → J i ys news₁ → LCg.NsObj oC m₃ → m₃ x = some (.int (i : Int) t') → Fr h₀ L h₁ m →
      News h₀ L h₁ ((I,rngO ((i : Int) + 1) ((k : Int) - i - 1)) :: (C,oC) :: (D,LCg.lst ys) :: news₁) → LCg.Off3 I C D news₁ →
      wpAny (model prog w) A (eval elt (compEnvC scope cl C env)) (EltK h₀ L m g d os I C D (rngO ((i : Int) + 1) ((k : Int) - i - 1)) oC (LCg.lst ys) (fun y nw=>J (i + 1) (ys ++ [y]) nw)) E' ⟨h₁,g,d,tk₁,os⟩)
    (hQ : ∀ (D : Addr) (h' : Heap) (tk' : Nat) (ys : List Value) (news' : Led),Fr h₀ L h' (fun z=>if z = y then some (.ref D) else m z) → News h₀ L h' ((D,LCg.lst ys) :: news') → ys.length = k → J k ys news' → Q .next ⟨h',g,d,tk',os⟩)
    (hs : autoParam (∀ x,foldedSetIterable iter env x = pure x) ap._auto_2) :
    wpAny (model prog w) A (exec (.Assign [.Name y py] (.ListComp elt [⟨.Name x px,iter, [], 0⟩] scope pos) spos) env) Q E ⟨h,g,d,tk,os⟩ :=by
  subst hLe
  rw [exec_Assign_Name_used _ _ _ _ hsw]
  refine wpAny_bind (wpAny_standAt (wpAny_bind ?_))
  show wpAny _ A (do let _ ← comprehension (.ListComp elt [⟨.Name x px,iter, [], 0⟩] scope pos) scope env _ (newList []) false (eval iter env) (some (assign (.Name y py) env))) _ _ _
  refine wpAny_bind (wpAny_mono (wpAny_comprehension_free (use :=some (assign (.Name y py) env)) (Q :=fun _ s'=>Q .next s') rfl hs hclos hkind hnames (wpAny_mono hev (fun xv s₁ h₁=>?_) fun _ _ e=>e)) (fun _ s' hq=>wpAny_pure (wpAny_pure hq)) fun _ _ e=>e)
  obtain ⟨r,t,u,v,h1,t1,rfl,rfl,F1,N1,hr⟩ :=h₁
  refine wpAny_pyIter_range hr hsm ?_
  refine wpAny_newList ?_ nil_ok
  refine wpAny_newFunctionEnv hcell (fun _ hy=>nomatch hy) (fun h4 ns4 sb4=>?_) hkind
  dsimp only at ns4 sb4 ⊢
  have old : ∀ b o,h1.get? b = some o → h4.get? b = some o :=fun b o e=>sb4.extBut b o (lt_two (Heap.lt_size e)) (Heap.get?_push_of_some _ (Heap.get?_push_of_some _ (Heap.get?_push_of_some _ e)))
  have fresh : ∀ a : Nat,h1.objs.size ≤ a → h₀.get? a = none :=fun a ha=>Heap.get?_none_of_le (Nat.le_trans (Nat.le_trans F1.above (Nat.le_of_lt F1.ns.lt)) ha)
  have gI : h4.get? h1.objs.size = some (rngO 0 (k : Int)) :=(sb4.extBut _ _ at_two (Heap.get?_push_of_some _ (Heap.get?_push_of_some _ (Heap.get?_push_size _ rfl)))).trans (congrArg (fun z=>some (rngO 0 z)) hn)
  have gD : h4.get? (h1.push _).objs.size = some (LCg.lst []) :=sb4.extBut _ _ at_one (Heap.get?_push_of_some _ (Heap.get?_push_size _ rfl))
  have hLlt : @LT.lt Nat _ env.locals h1.objs.size :=F1.ns.lt
  have lo : ∀ q ∈ news, @LT.lt Nat _ q.1 h1.objs.size :=fun q hq=>Heap.lt_size (N1 q hq).1
  have lp :=fun tk4=>led_loop (E :=E) (elt :=elt) (iter :=iter) (px :=px) (py :=py) (pos :=pos) (tk4 :=tk4) (I :=h1.objs.size) J hh hkind hx hy hp hk (Nat.ne_of_gt hLlt) (Ne.symm (lt_one hLlt)) (Ne.symm (lt_two hLlt)) (fresh _ (Nat.le_refl _)) (fresh _ (by rw [Heap.size_push];exact Nat.le_succ _)) (fresh _ (by rw [Heap.size_push,Heap.size_push];omega)) at_one at_two (lt_self) gI ns4 (F1.keeps old)
    (List.forall_mem_cons.mpr ⟨⟨gD,Ne.symm (lt_one hLlt),fresh _ (by rw [Heap.size_push];exact Nat.le_succ _)⟩,fun p hp=>⟨old _ _ (N1 p hp).1,(N1 p hp).2⟩⟩) (LCg.Off3.of fun p hp=>⟨Nat.ne_of_lt (lo p hp),lt_two (lo p hp),lt_one (lo p hp)⟩) h0 (fun i oC ys m₃ h₁ tk₁ t' news₁ E'=>step i _ _ _ oC ys m₃ h₁ tk₁ t' news₁ E') (fun h' tk' ys news'=>hQ _ h' tk' ys news')
  have W :=LCg.range_walks (prog :=prog) (w :=w) (A :=A) (I :=h1.objs.size) hh 0 k
  refine codeAny_compStart_list (lp _) (W.self 0 _ _ _ ?_ (lp _))
  show h4.get? h1.objs.size = some _
  rw [gI]
  simp
end
end
section
open PySem.Calls
noncomputable def LK (w : World) (L dv dd tr lf lp : Addr) (ky : Array UInt8) (n bk d : Nat) (p c : Int) (i : Nat) (news : Led) : Prop :=
  LM news L n dv tr lp (pad54 (fun o=>hashB o n) ky bk) (pad92 (fun o=>hashB o n) ky bk) c ∧ DevIs w news dv dd tr lf (fun o=>hashB o n) ky n bk d p ∧ TabF news ∧ (∃ ps,(518,tabObj ps) ∈ news) ∧ T504 i news
section
variable {w : World} {h h' h₀ : Heap} {L dv dd tr lf lp : Addr} {ky : Array UInt8} {n bk d : Nat} {p c : Int} {i : Nat} {news news' : Led}
theorem told_next {I C D : Addr} {a b : Int} {oC : Obj} {m₃ : MP} {ys : List Value} (hi : i < 24) (x : LK w L dv dd tr lf lp ky n bk d p c i news) (hC : LCg.NsObj oC m₃) (N : News h₀ L h ((I,rngO a b) :: (C,oC) :: (D,LCg.lst ys) :: news)) (off : LCg.Off3 I C D news)
    (N' : News h₀ L h' news') (r : R504 i ((I,rngO a b) :: (C,oC) :: (D,LCg.lst ys) :: news) news') :
    ∃ nw,News h₀ L h' ((I,rngO a b) :: (C,oC) :: (D,LCg.lst ys) :: nw) ∧ LCg.Off3 I C D nw ∧ LK w L dv dd tr lf lp ky n bk d p c (i + 1) nw :=by
  k_extra "G"
  obtain ⟨hM,⟨h1,h2,h3,u,t1,t2,nt,kh,h4,h5,h6⟩,hF,⟨p5,hp5⟩,ps,a1,a2,a3⟩ :=x
  k_unfold
  k_extra "G"
  obtain ⟨r1,r2,r3⟩ :=r
  k_unfold
  have of3 :=off.mem
  have N1 : News h₀ L h news :=fun q hq=>N q (.tail _ (.tail _ (.tail _ hq)))
  have o504 :=of3 _ a1
  obtain ⟨o,ho,hot⟩ : ∃ o,(204,o) ∈ news ∧ turned o = true :=by
    rcases h3 with h | ⟨_,_,_,_,h,_⟩
    · exact ⟨_,h,rfl⟩
    · exact ⟨_,h,rfl⟩
  have o204 :=of3 _ ho
  have mI : (I,rngO a b) ∈ news' :=r1 _ (.head _) o204.1.symm o504.1.symm
  have mC : (C,oC) ∈ news' :=r1 _ (.tail _ (.head _)) o204.2.1.symm o504.2.1.symm
  have mD : (D,LCg.lst ys) ∈ news' :=r1 _ (.tail _ (.tail _ (.head _))) o204.2.2.symm o504.2.2.symm
  k_extra "G"
  obtain ⟨ec,ep,dC,_⟩ :=hC
  k_unfold
  let nw :=news'.filter fun q=>decide (q.1 ≠ I ∧ q.1 ≠ C ∧ q.1 ≠ D)
  have inw : ∀ q ∈ news',q.1 ≠ I → q.1 ≠ C → q.1 ≠ D → q ∈ nw :=fun q hq x1 x2 x3=>List.mem_filter.mpr ⟨hq,decide_eq_true ⟨x1,x2,x3⟩⟩
  have up : ∀ q ∈ news, @Ne Nat q.1 204 → @Ne Nat q.1 504 → q ∈ nw :=fun q hq x1 x2=>inw q (r1 q (.tail _ (.tail _ (.tail _ hq))) x1 x2) (of3 q hq).1 (of3 q hq).2.1 (of3 q hq).2.2
  have t504 :=turned_tab (a3 (by exact Om.n2 ‹_› (by kernel_rfl!))).1
  have kp : Keep news nw :=fun q hq ht=>up q hq (fun e=>by
      have e1 :=(N1 _ hq).1
      rw [e,(N1 _ ho).1] at e1
      rw [← Option.some.inj e1,hot] at ht
      cases ht) (fun e=>by
      have e1 :=(N1 _ hq).1
      rw [e,(N1 _ a1).1] at e1
      rw [← Option.some.inj e1,t504] at ht
      cases ht)
  have hDd : (dd,devObj w.params u tr ky kh d p) ∈ nw :=up _ h5 (h3.ne N1 (b :=dd) h5 fun _ e=>by cases e) (News.ne N1 h5 a1 fun e=>by cases congrArg (·.cls) e)
  have T2 : TabSt nw 204 (posOf hmS) hmQ :=by
    rcases r2 with h | ⟨c',oc,vs,t,g1,g2,g3,g4⟩
    · exact .inl (inw _ h o204.1 o204.2.1 o204.2.2)
    · refine .inr ⟨c',oc,vs,t,inw _ g1 o204.1 o204.2.1 o204.2.2,inw _ g2 ?_ ?_ ?_,g3,g4⟩
      · refine News.ne N' g2 mI fun e=>?_
        rw [e] at g3
        cases g3
        cases g4
      · refine News.ne N' g2 mC fun e=>?_
        rw [e,dC] at g3
        cases g3
      · refine News.ne N' g2 mD fun e=>?_
        rw [e] at g3
        cases g3
  refine ⟨nw,fun q hq=>?_,LCg.Off3.of fun q hq=>of_decide_eq_true (List.mem_filter.mp hq).2,hM.mono kp,⟨kp _ h1 rfl,h2.mono kp,T2,u,t1,t2,nt,kh,kp _ h4 rfl,hDd, ?_⟩,hF.turn (fun o ho=>up _ ho (show (352 : Nat) ≠ 204 by decide) (show (352 : Nat) ≠ 504 by decide)) kp,⟨p5,up _ hp5 (show (518 : Nat) ≠ 204 by decide) (show (518 : Nat) ≠ 504 by decide)⟩, ?_⟩
  · rcases List.mem_cons.mp hq with rfl | hq
    · exact N' _ mI
    rcases List.mem_cons.mp hq with rfl | hq
    · exact N' _ mC
    rcases List.mem_cons.mp hq with rfl | hq
    · exact N' _ mD
    exact N' _ (List.mem_filter.mp hq).1
  · rcases h6 with h6 | ⟨hf,e,h6⟩
    · exact .inl h6
    · exact .inr ⟨hf,e,h6.mono kp⟩
  · obtain ⟨ps',b1,b2,b3⟩ :=r3
    exact ⟨ps',inw _ b1 o504.1 o504.2.1 o504.2.2,b2,b3⟩
end
end
section
open PySem.Calls
theorem strsAre_snoc {ys : List Value} {ws : List PySem.Str} {x : PySem.Str} {u : Tok} (h : StrsAre ys ws) : StrsAre (ys ++ [.str x u]) (ws ++ [x]) :=by
  induction h with
  | nil=>exact .cons _ _ .nil
  | cons a b _ ih=>exact .cons _ _ ih
theorem far_bound (c : Int) : 0 ≤ Int.fmod c 100000000000000000000 ∧ Int.fmod c 100000000000000000000 < 10 ^ 20 :=⟨Int.fmod_nonneg_of_pos _ (by decide),Int.fmod_lt_of_pos _ (by decide)⟩
section
variable {w : World} {A : Around} {D : SD} {hp h₀ : Heap} {gs : Array GenState} {dr : Drawn} {tk : Nat} {os : OsState} {L : Addr} {m : MP} {news : Led} {E : VP} {Q : FP}
variable {fa dv dd tr lf lp : Addr} {ky : Array UInt8} {n bk d : Nat} {p c : Int} {tp' td tb tk1 : Tok}
theorem law_h (hn : (n : Int) = 20 ∨ (n : Int) = 32) (hO : DevOk (fun o=>hashB o n) ky n bk d p)
  (hS : Site w A D h₀ L) (hDo : D.outer = []) (hR : Room A 60) (hF : Fr h₀ L hp m) (hN : News h₀ L hp news)
  (hK : LK w L dv dd tr lf lp ky n bk d p c 0 news)
  (hk : ∀ (xt : Addr) (ys : List Value) (h' : Heap) (tk' : Nat) (news' : Led),Fr h₀ L h' (fun z=>if z = ofString "told" then some (.ref xt) else m z) → News h₀ L h' ((xt,LCg.lst ys) :: news') →
     StrsAre ys ((List.range 24).map ansT) → LK w L dv dd tr lf lp ky n bk d p c 24 news' →
     wpAny (model pw w) A (execs ((bodyS (tp 33)).drop 15) (lwE L fa)) Q E ⟨h',gs,dr,tk',os⟩) :
  wpAny (model pw w) A (execs ((bodyS (tp 33)).drop 14) (lwE L fa)) Q E ⟨hp,gs,dr,tk,os⟩ :=by
  k_extra "mx"
  k_extra "s67"
  refine led_comp (k :=24) (fun i ys nw=>LK w L dv dd tr lf lp ky n bk d p c i nw ∧ StrsAre ys ((List.range i).map ansT)) (Room.h hR) hF rfl (by kernel_rfl) (by with_unfolding_all rfl) (by decide) (by rfl) (by decide) (by rfl) (by kernel_rfl) (by kernel_rfl) ?_ (rangeN (by decide)).1 (by decide) (by decide) ⟨hK, .nil⟩ ?_ ?_
  · repeat' ((fail_if_success (with_reducible show RngK _ _ _ _ _ _ _ _ _ _));k_extra "step")
    exact ⟨_,_,_,_,_,_,rfl,rfl,by assumption,by assumption,by assumption⟩
  · intro i I C D' oC ys m₃ h₁ tk₁ t' news₁ E' hi hyl hJ hoC hm F N off
    k_extra "G"
    obtain ⟨J,hst⟩ :=hJ
    k_unfold
    k_extra "G"
    obtain ⟨⟨⟨o6,u6,a6,d6⟩,⟨o5,a5,d5⟩,⟨o4,a4,d4⟩,⟨o3,u3,a3,d3⟩,pd⟩,hD,hTF,h518,hT5⟩ :=id J
    k_unfold
    have hns :=hoC.ns (N _ (.tail _ (.head _))).1
    have keep : ∀ b o,h₁.get? b = some o → h₁.get? b = some o :=fun _ _ e=>e
    have k3 : h₁.IsCell (L + 1 + 1 + 1) (some (.int c u3)) :=cell_at (N _ (.tail _ (.tail _ (.tail _ a3)))).1 d3
    have k4 : h₁.IsCell (L + 1 + 1 + 1 + 1) (some (.ref tr)) :=cell_at (N _ (.tail _ (.tail _ (.tail _ a4)))).1 d4
    have k5 : h₁.IsCell (L + 1 + 1 + 1 + 1 + 1) (some (.ref dv)) :=cell_at (N _ (.tail _ (.tail _ (.tail _ a5)))).1 d5
    clear hk
    k_extra "s65"
    refine pow20 ?_
    intro _ _
    k_extra "s68"
    have up : ∀ q ∈ news₁,q ∈ (I,rngO ((i : Int) + 1) ((24 : Nat) - (i : Int) - 1)) :: (C,oC) :: (D',LCg.lst ys) :: news₁ :=fun q hq=>.tail _ (.tail _ (.tail _ hq))
    refine answer_all _ _ hi hn (hD.mono up) hO (far_bound _).1 (far_bound _).2 (let ⟨ps,a,b⟩ :=hT5;⟨ps,up _ a,b⟩) hS hDo (Room.le hR (by decide)) F N ?_
    intro u h' tk' news' F' N' r
    k_extra "G"
    obtain ⟨nw,N2,off2,K2⟩ :=told_next hi J hoC N off N' r
    k_unfold
    exact ⟨h',tk',nw,rfl,F',N2,off2,K2,by rw [List.range_succ,List.map_append];exact strsAre_snoc hst⟩
  · intro xt h' tk' ys news' F' N' hyl hJ
    exact hk xt ys h' tk' news' F' N' hJ.2 hJ.1
end
end
section
open PySem.Calls
theorem StrsAre.rep {vs : List Value} {ws : List PySem.Str} (h : StrsAre vs ws) : ∀ k,StrsAre (List.replicate k vs).flatten (List.replicate k ws).flatten
  | 0=>.nil
  | k + 1=>by
    rw [List.replicate_succ,List.replicate_succ,List.flatten_cons,List.flatten_cons]
    exact StrsAre.append' h (StrsAre.rep h k)
section
variable {w : World} {prog : Program} {A : Around} {E : VP} {h h₀ : Heap} {g : Array GenState} {d : Drawn} {t : Nat} {os : OsState} {L : Addr} {m : MP} {news : Led} {Q : VP} {a b : Addr}
theorem mulLS {x : PySem.Str} {u v : Tok} {k : Int} (F : Fr h₀ L h m) (N : News h₀ L h news) (hm : (a,W.listOf #[.str x u] 0) ∈ news) (h0 : 0 ≤ k) (hk : k ≤ 20)
    (hq : ∀ D vs h',Fr h₀ L h' m → News h₀ L h' ((D,W.listOf (List.toArray vs) 0) :: news) → StrsAre vs (List.replicate k.toNat x) → Q (.ref D) ⟨h',g,d,t,os⟩) :
    wpAny (model prog w) A (binaryOp .Mult (.ref a) (.int k v)) Q E ⟨h,g,d,t,os⟩ :=by
  refine KMa.mul (s :=⟨h,g,d,t,os⟩) (vs :=[.str x u]) F N (News.isList N hm) (by exact Om.i5 ‹_› (by kernel_rfl!)) (by exact Om.i3 ‹_› (by kernel_rfl!)) (by show 1 * _ ≤ _;omega) rfl fun D h' F' N' _=>hq D _ h' F' N' ?_
  have e :=StrsAre.rep (.cons x u .nil) k.toNat
  rwa [show (List.replicate k.toNat [x]).flatten = List.replicate k.toNat x by rw [List.flatten_replicate_singleton]] at e
theorem addLS {va vb : List Value} {wa wb : List PySem.Str} {na nb : Nat} (F : Fr h₀ L h m) (N : News h₀ L h news) (ma : (a,W.listOf (List.toArray va) na) ∈ news) (mb : (b,W.listOf (List.toArray vb) nb) ∈ news) (sa : StrsAre va wa) (sb : StrsAre vb wb) (hz : wa.length + wb.length ≤ 1000)
    (hq : ∀ D vs h',Fr h₀ L h' m → News h₀ L h' ((D,W.listOf (List.toArray vs) 0) :: news) → StrsAre vs (wa ++ wb) → Q (.ref D) ⟨h',g,d,t,os⟩) :
    wpAny (model prog w) A (binaryOp .Add (.ref a) (.ref b)) Q E ⟨h,g,d,t,os⟩ :=
  add_lists (s :=⟨h,g,d,t,os⟩) F N (News.isList N ma) (News.isList N mb) (fun h' F' N'=>hq _ _ h' F' N' (StrsAre.append' sa sb)) (by rw [sa.len_eq,sb.len_eq,sizeLine_eq];exact Om.n1 ‹_› (by kernel_rfl!))
theorem neLS {va vb : List Value} {ws : List PySem.Str} {na nb : Nat} (N : News h₀ L h news) (ma : (a,W.listOf (List.toArray va) na) ∈ news) (mb : (b,W.listOf (List.toArray vb) nb) ∈ news) (sa : StrsAre va ws) (sb : StrsAre vb ws) (hx : ∀ x ∈ ws,scal (.str x) = true) (hu : A.units + 64 < cLine) (hq : Q (.bool false) ⟨h,g,d,t,os⟩) :
    wpAny (model prog w) A (compareOp .NotEq (.ref a) (.ref b)) Q E ⟨h,g,d,t,os⟩ :=
  neLL (s :=⟨h,g,d,t,os⟩) (ds :=ws.map .str) N ma rfl rfl mb rfl rfl sa.carried sb.carried (fun q he=>by obtain ⟨k,hk,rfl⟩ :=List.mem_map.mp he;exact hx k hk) hu hq
end
theorem ans_all : (List.range 24).map ansT = List.replicate 7 (ofString "ValueError") ++ List.replicate 6 (ofString "MalformedTokenError") ++ List.replicate 8 (ofString "TypeError") ++ [ofString "RuntimeError",ofString "AssertionError",ofString "AssertionError"] :=by decide +kernel
theorem ans_scal : ∀ x ∈ List.replicate 7 (ofString "ValueError") ++ List.replicate 6 (ofString "MalformedTokenError") ++ List.replicate 8 (ofString "TypeError") ++ [ofString "RuntimeError",ofString "AssertionError",ofString "AssertionError"],scal (.str x) = true :=by decide +kernel
section
variable {w : World} {A : Around} {D : SD} {hp h₀ : Heap} {gs : Array GenState} {dr : Drawn} {tk : Nat} {os : OsState} {L : Addr} {m : MP} {news : Led} {E : VP} {Q : FP}
variable {fa : Addr}
theorem law_i {xt : Addr} {ys : List Value} (hS : Site w A D h₀ L) (hR : Room A 60) (hF : Fr h₀ L hp (fun z=>if z = ofString "told" then some (.ref xt) else m z)) (hN : News h₀ L hp ((xt,LCg.lst ys) :: news))
  (hys : StrsAre ys ((List.range 24).map ansT))
  (hk : ∀ (h' : Heap) (tk' : Nat),Fr h₀ L h' (fun z=>if z = ofString "told" then some (.ref xt) else m z) → News h₀ L h' news →
     wpAny (model pw w) A (execs ((bodyS (tp 33)).drop 16) (lwE L fa)) Q E ⟨h',gs,dr,tk',os⟩) :
  wpAny (model pw w) A (execs ((bodyS (tp 33)).drop 15) (lwE L fa)) Q E ⟨hp,gs,dr,tk,os⟩ :=by
  k_extra "mx"
  have hu64 : A.units + 64 < cLine :=Om.r2 (d :=8) hR.u (by decide)
  rw [ans_all] at hys
  obtain ⟨NN,hNN⟩ : ∃ nn,nn = (xt,LCg.lst ys) :: news :=⟨_,rfl⟩
  k_extra "s69"
  k_dflt (refine mulLS ‹_› ‹_› (.head _) (by decide) (by decide) ?_)
  intro D1 v1 h1 F1 N1 s1
  clear F' N'
  k_extra "s69"
  k_dflt (refine mulLS ‹_› ‹_› (.head _) (by decide) (by decide) ?_)
  intro D2 v2 h2 F2 N2 s2
  k_extra "s70"
  k_dflt (refine addLS ‹_› ‹_› (by k_mem) (by k_mem) s1 s2 (by decide) ?_)
  intro D3 v3 h3 F3 N3 s3
  clear F2 N2 F' N'
  k_extra "s69"
  k_dflt (refine mulLS ‹_› ‹_› (.head _) (by decide) (by decide) ?_)
  intro D4 v4 h4 F4 N4 s4
  k_extra "s70"
  k_dflt (refine addLS ‹_› ‹_› (by k_mem) (by k_mem) s3 s4 (by decide) ?_)
  intro D5 v5 h5 F5 N5 s5
  k_extra "s70"
  k_dflt (refine addLS ‹_› ‹_› (by k_mem) (by k_mem) s5 (.cons _ _ (.cons _ _ (.cons _ _ .nil))) (by decide) ?_)
  intro D6 v6 h6 F6 N6 s6
  k_extra "s11"
  k_dflt (refine neLS ‹_› (by k_mem) (.head _) hys s6 ans_scal hu64 ?_)
  k_extra "s71"
  exact hk _ _ ‹_› (fun q hq=>N6 q (by k_mem))
end
end
section
open PySem.Calls
section
variable {w : World} {A : Around} {D : SD} {hp h₀ : Heap} {gs : Array GenState} {dr : Drawn} {tk : Nat} {os : OsState} {L : Addr} {m : MP} {news : Led} {E : VP} {Q : FP}
variable {fa dv dd tr lf lp : Addr} {ky : Array UInt8} {n bk d : Nat} {p c : Int} {tp' td tb tk1 : Tok}
theorem key_set {Q : Unit → Shared → Prop} {E : VP} {H : Array UInt8 → Array UInt8} (k2 : Array UInt8) (t2 : Tok)
  (hS : Site w A D h₀ L) (hR : Room A 60) (hF : Fr h₀ L hp m) (hN : News h₀ L hp news) (hD : DevIs w news dv dd tr lf H ky n bk d p)
  (hk : ∀ (h' : Heap) (tk' : Nat) (news' : Led),Fr h₀ L h' m → News h₀ L h' news' → (∀ q ∈ news,q.1 ≠ dd → q ∈ news') → DevIs w news' dv dd tr lf H k2 n bk d p → Q () ⟨h',gs,dr,tk',os⟩) :
  wpAny (model pw w) A (setAttr (.ref dv) (ofString "key") (.bytes k2 t2)) Q E ⟨hp,gs,dr,tk,os⟩ :=by
  k_extra "mx"
  k_extra "G"
  obtain ⟨h1,h2,h3,u,t5,t6,nt,kh,h4,hdd,h6⟩ :=id hD
  k_unfold
  have hne : dv ≠ dd :=News.ne hN h1 hdd fun e=>by cases congrArg (·.data) e
  have hNN :=hN
  k_extra "s72"
  have K1 :=KU'
  have i1 :=KU' _ h1 hne
  k_extra "step"
  k_extra "s73"
  have K2 :=KU'
  have i2 :=KU' _ i1 hne
  k_extra "step"
  have K3 :=KU'
  have M3 :=MU'
  repeat' ((fail_if_success (with_reducible show Q _ _));k_extra "step")
  have kA : ∀ q ∈ news,q.1 ≠ dd → q ∈ _ :=fun q hq hn=>K3 _ (K2 _ (K1 _ hq hn) hn) hn
  have kp : Keep news _ :=keep_of hNN hdd rfl kA
  exact hk _ _ _ ‹_› ‹_› kA ⟨kA _ h1 hne,h2.mono kp,h3.turn (fun o ho=>kA _ ho (Ne.symm (h3.ne hNN (b :=dd) hdd fun _ e=>by cases e))) kp,fun i=>if i = 8 then t2 else u i,t5,t6,nt, .none,kp _ h4 rfl,M3, .inl rfl⟩
theorem law_j (hk2 : ky.size ≤ 24)
  (hS : Site w A D h₀ L) (hR : Room A 60) (hF : Fr h₀ L hp m) (hN : News h₀ L hp news) 
  (hky : m (ofString "key") = some (.bytes ky tk1)) {o5 : Obj} (a5 : (L + 1 + 1 + 1 + 1 + 1,o5) ∈ news) (h5 : o5.data = .cell (some (.ref dv)))
  (hD : DevIs w news dv dd tr lf (fun o=>hashB o n) ky n bk d p)
  (hk : ∀ (ko : Tok) (h' : Heap) (tk' : Nat) (news' : Led),Fr h₀ L h' (fun z=>if z = ofString "other" then some (.bytes (ky ++ #[0, 1]) ko) else m z) → News h₀ L h' news' → (∀ q ∈ news,q.1 ≠ dd → q ∈ news') →
     DevIs w news' dv dd tr lf (fun o=>hashB o n) (ky ++ #[0, 1]) n bk d p → 
     wpAny (model pw w) A (execs ((bodyS (tp 33)).drop 18) (lwE L fa)) Q E ⟨h',gs,dr,tk',os⟩) :
  wpAny (model pw w) A (execs ((bodyS (tp 33)).drop 16) (lwE L fa)) Q E ⟨hp,gs,dr,tk,os⟩ :=by
  k_extra "mx"
  k_extra "s70"
  refine addBy (by have : (#[0, 1] : Array UInt8).size = 2 :=rfl;omega) ?_
  intro _ _
  k_extra "s74"
  refine key_set _ _ hS hR ‹_› ‹_› hD ?_
  intro h' tk' news' F' N' kA D'
  k_extra "s75"
  exact hk _ _ _ _ F' N' kA D'
end
end
section
open PySem.Calls
theorem eqSameS {w : World} {prog : Program} {A : Around} {E : VP} {h : Heap} {g : Array GenState} {d : Drawn} {t : Nat} {os : OsState} {Q : VP} {x y : PySem.Str} {u v : Tok} (e : x = y) (hq : Q (.bool true) ⟨h,g,d,t,os⟩) : wpAny (model prog w) A (compareOp .Eq (.str x u) (.str y v)) Q E ⟨h,g,d,t,os⟩ :=
  P.eq_str (by subst e;rw [beq_self_eq_true];exact hq)
section
variable {w : World} {A : Around} {D : SD} {hp h₀ : Heap} {gs : Array GenState} {dr : Drawn} {tk : Nat} {os : OsState} {L : Addr} {m : MP} {news : Led} {E : VP} {Q : FP}
variable {fa dv dd tr lf lp : Addr} {ky : Array UInt8} {n bk d : Nat} {p c : Int} {tp' td tb tk1 : Tok}
theorem law_k {mo : Int} {tm ko tn : Tok} {o5 o6 : Obj} (hn : n = 20 ∧ bk = 22 ∨ n = 32 ∧ bk = 36) (hd6 : 6 ≤ d) (hd10 : d ≤ 10) (hO : DevOk (fun o=>hashB o n) ky n bk d p) (hks : ky.size < 2 ^ 10)
  (hS : Site w A D h₀ L) (hR : Room A 60) (hF : Fr h₀ L hp m) (hN : News h₀ L hp news) (hm0 : 0 ≤ mo) (hm1 : mo ≤ 2 ^ 41)
  (hmo : m (ofString "moment") = some (.int mo tm)) (hpe : m (ofString "period") = some (.int p tp')) (hdi : m (ofString "digits") = some (.int (d : Int) td)) (hbl : m (ofString "block") = some (.int (bk : Int) tb)) (hot : m (ofString "other") = some (.bytes ky ko))
  (a5 : (L + 1 + 1 + 1 + 1 + 1,o5) ∈ news) (h5 : o5.data = .cell (some (.ref dv))) (a6 : (L + 1 + 1 + 1 + 1 + 1 + 1,o6) ∈ news) (h6 : o6.data = .cell (some (.int (n : Int) tn)))
  (hD : DevIs w news dv dd tr lf (fun o=>hashB o n) ky n bk d p)
  (hk : ∀ (h' : Heap) (tk' : Nat) (news' : Led),Fr h₀ L h' m → News h₀ L h' news' → Turns dd news news' → TabSt news' 204 (posOf hmS) hmQ → Q (.ret (.bool true)) ⟨h',gs,dr,tk',os⟩) :
  wpAny (model pw w) A (execs ((bodyS (tp 33)).drop 18) (lwE L fa)) Q E ⟨hp,gs,dr,tk,os⟩ :=by
  k_extra "mx"
  have hn' : n = 20 ∨ n = 32 :=Om.h1 hn
  have hd' : 6 ≤ d ∧ d ≤ 10 :=⟨hd6,hd10⟩
  have hs0 : (pad54 (fun o=>hashB o n) ky bk).size < 2 ^ 10 :=Nat.lt_of_le_of_lt (padB_size 54 (keyP_size hO.hH hO.hnb) hO.hbk) (by decide)
  have hs1 : (pad92 (fun o=>hashB o n) ky bk).size < 2 ^ 10 :=Nat.lt_of_le_of_lt (padB_size 92 (keyP_size hO.hH hO.hnb) hO.hbk) (by decide)
  have hp1 :=hO.hp
  have hp2 :=hO.hp2
  have hpne : p ≠ 0 :=Om.i14 ‹_›
  k_extra "G"
  obtain ⟨hq0,hq1⟩ :=fdiv_bounds (b :=p) hm0 hp1
  k_unfold
  k_extra "G"
  obtain ⟨e1,e2,e3,u,t5,t6,nt,kh,e4,e5,e6⟩ :=id hD
  k_unfold
  k_extra "s19"
  refine generate_spec hD hO _ _ (by omega) (by exact Om.i3 ‹_› (by kernel_rfl!)) (by k_extra "site") (by k_extra "roomle") ‹_› ‹_› ?_
  intro news' xx dx v0 v1 v2 v3 v4 h' tk' F' N' KT' DV'
  have e :=devT_tok (ky :=ky) (n :=n) (bk :=bk) (d :=d) (c :=mo.fdiv p) (Om.h4 hn') (by exact Om.n10 ‹_› (by kernel_rfl!)) hd10 hq0 (by omega)
  have b5 :=KT'.keep hN hD _ a5 (cell_turned h5)
  have b6 :=KT'.keep hN hD _ a6 (cell_turned h6)
  clear a5 a6 e1 e2 e3 e4 e5 e6
  k_extra "s38"
  refine pads_any ky n bk _ _ _ hn hks (by k_extra "site") (by k_extra "roomle") ‹_› ‹_› ?_
  intro lp ua ub ne h' tk' F' N'
  k_extra "s76"
  refine eqSameS e ?_
  repeat' ((fail_if_success (with_reducible show Q _ _));k_extra "step")
  exact hk _ _ _ F' N' (fun q hq a b=>.tail _ (.tail _ (.tail _ (KT' q hq a b)))) (TabSt.mono (fun q hq=>.tail _ (.tail _ (.tail _ hq))) DV'.2.2.1)
end
end
section
open PySem.Calls
theorem devOk_of {ky : Array UInt8} {n bk d : Nat} {p : Int} (hn : n = 20 ∧ bk = 22 ∨ n = 32 ∧ bk = 36) (hd6 : 6 ≤ d) (hd10 : d ≤ 10) (hp1 : 1 ≤ p) (hp2 : p ≤ 61) (hk : ky.size ≤ 26) : DevOk (fun o=>hashB o n) ky n bk d p :=
  ⟨(Om.h3 hn).2.2.2.2.1,(Om.h3 hn).2.1,by exact Om.n5 ‹_› (by kernel_rfl!),(Om.h3 hn).2.2.1,fun x=>hashB_size _ _,(Om.h3 hn).2.2.2.2.2.1,(Om.h3 hn).2.2.2.2.2.2,by exact Om.c7 ‹_›,by exact Om.c7 ‹_›,hp1,hp2⟩
theorem tab_at {news : Led} {P : Addr} {pos : Pos} {q : PySem.Str} (h : TabSt news P pos q) : ∃ ps,(P,tabObj ps) ∈ news :=by
  rcases h with h | ⟨_,_,_,_,h,_⟩
  · exact ⟨_,h⟩
  · exact ⟨_,h⟩
theorem law_walk : LawWalk :=by
  intro w A D h₀ hp dr tk os L fa la o1 o2 o3 o4 o5 o6 m vs ns Q E hS hDo hDe hR hF hN d1 d2 d3 d4 d5 d6 hl hi hlen hL hret
  refine law_a hS hR hF hN d1 d2 d3 hl hi hlen hL ?_
  intro a b c ta tb tc h1 k1 p2 p3 F1 N1 e2 e3
  refine law_b hS hR F1 N1 d6 hL ?_
  intro n bk d p tn tb' td tp' h2 k2 p6 hn hd6 hd10 hp1 hp2 F2 N2 e6
  refine law_c hS hR F2 N2 e2 hL ?_
  intro ky tk1 h3 k3 hk1 hk2 F3 N3
  refine law_d hS hR F3 N3 e6 d4 d5 rfl hL ?_
  intro lf tr t1 t2 nt p4 h4 k4 news F4 N4 a6 a5 a4 a3 a2 a1 b504 b352 b204 b518 hLam hT e4
  refine law_e hn hd6 hd10 hp1 hp2 hk1 hk2 hS hR F4 N4 hL rfl rfl rfl rfl a6 e6 a5 d5 a4 e4 b204 hLam hT ?_
  intro dv dd p5 h5 k5 news5 F5 N5 kk m5 e5 hD
  k_extra "G"
  obtain ⟨ps,b518⟩ :=b518
  k_unfold
  have a6' :=kk _ a6 (neN (by exact Om.n23))
  have a4' :=kk _ a4 (neN (by exact Om.n22))
  have a3' :=kk _ a3 (neN (by exact Om.n24))
  have a1' :=kk _ a1 (neN (Om.l6 1 5 rfl))
  have c504 :=kk _ b504 (neN (Om.l5 5 hL rfl))
  have c352 :=kk _ b352 (neN (Om.l5 5 hL rfl))
  have c518 :=kk _ b518 (neN (Om.l5 5 hL rfl))
  refine law_f hn hk1 hk2 hS hR F5 N5 rfl rfl a6' e6 m5 e5 hD ?_
  intro lp ua ub ne h6 k6 F6 N6
  have hO : DevOk (fun o=>hashB o n) ky n bk d p :=devOk_of hn hd6 hd10 hp1 hp2 (by exact Om.n1 ‹_› (by kernel_rfl!))
  refine law_g hn hd6 hd10 hO hS hDo hR F6 N6 rfl rfl rfl rfl rfl (.tail _ a1') d1 hl hi hlen ⟨⟨p6,tn, .tail _ a6',e6⟩,⟨p5, .tail _ m5,e5⟩,⟨p4, .tail _ a4',e4⟩,⟨p3,tc, .tail _ a3',e3⟩,⟨ua,ub,ne, .head _⟩⟩ (hD.mono fun q hq=>.tail _ hq) ⟨.inl (.tail _ c352), .tail _ c504,ps, .tail _ c518⟩ AllBare.empty ?_
  intro j mo tm lv h7 gs7 k7 news7 q0 q1 F7 N7 M7 D7 T7 B7
  refine law_h (Om.h2 hn) hO hS hDo hR F7 N7 ⟨M7,D7,T7.1,T7.2.2,⟨#[],T7.2.1,fun _=>rfl,fun _=>⟨trivial,rfl⟩⟩⟩ ?_
  intro xt ys h8 k8 news8 F8 N8 hys K8
  refine law_i hS hR F8 N8 hys ?_
  intro h9 k9 F9 N9
  k_extra "G"
  obtain ⟨⟨⟨o6,u6,g6,f6⟩,⟨o5,g5,f5⟩,_,_,_⟩,D8,TF8,⟨p518,h518⟩,p504,h504,_⟩ :=K8
  k_unfold
  k_extra "G"
  obtain ⟨_,_,_,u,t5,t6,nt,kh,_,hdd,_⟩ :=id D8
  k_unfold
  k_extra "G"
  obtain ⟨p352,h352⟩ :=tab_at TF8
  k_unfold
  refine law_j hk2 hS hR F9 N9 rfl g5 f5 D8 ?_
  intro ko h10 k10 news10 F10 N10 kA D10
  have ks : (ky ++ #[0, 1]).size = ky.size + 2 :=Array.size_append ..
  have n5 : (L + 1 + 1 + 1 + 1 + 1 : Addr) ≠ dd :=News.ne N9 g5 hdd fun e=>by rw [e] at f5;cases f5
  have n6 : (L + 1 + 1 + 1 + 1 + 1 + 1 : Addr) ≠ dd :=News.ne N9 g6 hdd fun e=>by rw [e] at f6;cases f6
  refine law_k hn hd6 hd10 (devOk_of hn hd6 hd10 hp1 hp2 (by lia)) (by omega) hS hR F10 N10 q0 q1 rfl rfl rfl rfl rfl (kA _ g5 n5) f5 (kA _ g6 n6) f6 D10 ?_
  intro h11 k11 news11 F11 N11 U11 T11
  have up : ∀ P ps,(P,tabObj ps) ∈ news8 → @Ne Nat P 204 → GrownAt P h11 :=fun P ps hm h2=>by
    have nd : P ≠ dd :=News.ne N9 hm hdd fun e=>by cases congrArg (·.cls) e
    exact ⟨ps,(N11 _ (U11 _ (kA _ hm nd) h2 nd)).1⟩
  k_extra "G"
  obtain ⟨p204,h204⟩ :=tab_at T11
  k_unfold
  exact hret _ _ _ _ _ F11 B7 ⟨up _ _ h504 (by decide),up _ _ h352 (by decide),⟨p204,(N11 _ h204).1⟩,up _ _ h518 (by decide),trivial⟩
end
noncomputable abbrev lawD : DefRec :=⟨ofString "law",fP (tp 33),(match fB (tp 33) with | .stmts b=>b | _=>[]),fS (tp 33),⟨431, 0, 483, 117⟩⟩
theorem top (walk : WalkO vq loose (XL vq []) (Hook.says Hk) rr.toRowW lawD [] (fun f vs=>PySem.call f vs)) : PySem.Challenge.rw_iw0012_01.Holds :=by
  w_on
  refine holds_law ws fun said=>?_
  refine holds_open (q :=vq) (loose :=loose) (Xt :=XtH) (XP :=XL vq []) (Yf :=Hook.obs Hk) (Ya :=Hook.val Hk) (YP :=Hook.says Hk) (d :=lawD) (kwd :=[]) (N :=70000) left (Hook.of Hk) (Hook.keeps Hk) (fun s e=>xl_of s (Bool.and_eq_true_iff.mp e).1) XL.keeps (by kernel_rfl) (by kernel_rfl) (by kernel_rfl) (fun s e=>recFacts_of (Bool.and_eq_true_iff.mp e).2) (by first | rfl | fail "writes") (by first | assumption | decide +kernel) (by decide +kernel) ⟨rfl,rfl,rfl,rfl,rfl,by decide +kernel⟩ ?hw walk
  w_witness2
section
open PySem.Calls
theorem law_end {M : Model} {A : Around} {cd : Code} {s s₁ : Shared} {cw : ClaimW} {cl : Str → Option Addr} {mean : ExcName → Option Value} {args : List WData} {tabs : List (Addr × Addr)} (hT : TabsAt tabs s₁.heap) (hr : ∀ a x,cw.raises a x = false) (hp : ∀ a,cw.post a (.bool true) a = true)
    (h : codeAny M A cd (fun r s'=>r = .ok (.ret (.bool true)) ∧ (∀ b o,(ghostOf s₁.heap tabs).get? b = some o → s'.heap.get? b = some o) ∧ s'.os = s₁.os ∧ AllBare s'.gens ∧ GrownAll tabs s'.heap) s) : codeAny M A cd (GoodWG cw cl mean args s₁) s :=by
  refine codeAny_mono h ?_
  rintro r s' ⟨rfl,hk,hos,hb,hgr⟩
  have grown : ∀ b o,b ∈ tabs.map (·.2) → s₁.heap.get? b = some o → isCodeTable s₁.heap b ∧ o = tabObj #[] ∧ ∃ ps,s'.heap.get? b = some (tabObj ps) :=fun b o hm e=>by
    obtain ⟨q,hq,rfl⟩ :=List.mem_map.mp hm
    obtain ⟨a1,a2⟩ :=hT q hq
    exact ⟨(a1.tab a2).isCodeTable,Option.some.inj (e.symm.trans a2),hgr.get q hq⟩
  refine ⟨.inl ⟨_, .bool true, [],rfl,fun _=>hr _ _, .bool true,hp _,fun _=>⟨.nil,fun _ ha=>nomatch ha⟩⟩,⟨fun b o e=>?_,fun b o e=>?_⟩,hos,hb⟩
  · by_cases hm : b ∈ tabs.map (·.2)
    · obtain ⟨ht,e2,ps,hP⟩ :=grown b o hm e
      subst e2
      exact .inr (.inl ⟨ht,rfl, #[],ps,rfl,by rw [Array.empty_append];exact hP⟩)
    · exact .inl (hk b o (ghost_ne e hm))
  · by_cases hm : b ∈ tabs.map (·.2)
    · obtain ⟨_,_,ps,hP⟩ :=grown b o hm e
      exact ⟨_,hP⟩
    · exact ⟨o,hk b o (ghost_ne e hm)⟩
theorem walk0 (hwalk : LawWalk) : WalkO vq loose (XL vq []) (Hook.says Hk) rr.toRowW lawD [] (fun f vs=>PySem.call f vs) :=by
  intro w s₀ s₁ mg mb G Y fa o pm cd doc dV kV ho hd hcd hD hmg hg args vals as hpre hlay hrd hwl hlo
  have KX :=km_in_of Y
  km_tabs Y
  have X :=(Ground.X G).1
  have V :=(Ground.X G).2
  refine Ground.open G ?_
  intro T B D TE TW
  try (refine guard_noD D (by decide +kernel) ?_;clear D)
  change mg (ofString "law") = _ at hmg
  km_lay T hmg ho hd cd
  clear hmg
  wrow_args hpre hlay hrd hwl hlo
  refine enter_call ?_
  w_top on
  refine law_end hT9 (fun _ _=>rfl) (fun _=>by kernel_rfl) ?_
  w_call any ho hd hcd hD T F
  clear hd
  kn_ghosts F T
  k_drop
  rename (Top topProg _ _ _ _ _)=>T1
  rename Frag.In _ _=>X1
  rename Below _ _ _ _=>B1
  rw [hg]
  refine wpAny_mono (hwalk w (callerA.deeper (lwE s₁.heap.objs.size fa)) ⟨callerA,ghostOf s₁.heap lwTabs,lwE s₁.heap.objs.size fa, []⟩ (ghostOf s₁.heap lwTabs) _ s₁.drawn _ s₁.os s₁.heap.objs.size fa _ _ _ _ _ _ _ _ _ _ (fun f s'=>f = .ret (.bool true) ∧ (∀ b o,(ghostOf s₁.heap lwTabs).get? b = some o → s'.heap.get? b = some o) ∧ s'.os = s₁.os ∧ AllBare s'.gens ∧ GrownAll lwTabs s'.heap) (fun _ _=>False) ⟨B1,rfl,rfl,rfl,X1,⟨_,_,_,T1⟩,X1,⟨_,_,_,T1⟩,fun b hb=>nomatch hb⟩ rfl rfl ⟨of_decide_eq_true (by kernel_rfl),of_decide_eq_true (by kernel_rfl),rfl⟩ ‹_› ‹_› (Eq.trans ‹_› (by kernel_rfl)) (Eq.trans ‹_› (by kernel_rfl)) (Eq.trans ‹_› (by kernel_rfl)) (Eq.trans ‹_› (by kernel_rfl)) (Eq.trans ‹_› (by kernel_rfl)) (Eq.trans ‹_› (by kernel_rfl)) ‹_› ‹_› (by omega) (by omega) ?_) ?_ ?_
  · intro h' gs' dr' tk' m' F2 b2 g2
    exact ⟨rfl,F2.keep,rfl,b2,g2⟩
  · rintro f s' ⟨rfl,h2⟩
    exact ⟨rfl,h2⟩
  · exact fun _ _ h=>h.elim
theorem holds_of (hwalk : LawWalk) : PySem.Challenge.rw_iw0012_01.Holds :=top (walk0 hwalk)
end
end Hd
theorem PySem.Challenge.cw_iw0012_01_holds : PySem.Challenge.rw_iw0012_01.Holds :=
  Hd.holds_of Hd.law_walk

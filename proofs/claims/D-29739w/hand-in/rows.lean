section
/-! THE CIPHER IN PLAIN LEAN: what encryptBlock and decryptBlock compute of four words, and that each undoes the other (on the words' low 16 bits) -/
/-- rotateWordLeft -/
def rc_rot (x y : Int32) : Int32 := ((x &&& 65535) <<< (y &&& 31)) ||| ((x &&& 65535) >>> ((16 - y) &&& 31))
/-- a step of mixing; a step of unmixing -/
def rc_m (x y z w k r : Int32) : Int32 := rc_rot (x + (y &&& (w ^^^ (-1))) + (z &&& w) + k) r
def rc_u (x y z w k r : Int32) : Int32 := rc_rot x r - ((y &&& (w ^^^ (-1))) + (z &&& w) + k)
/-- the place that a mashing step reads -/
def rc_ix (x : Int32) : Nat := (x &&& 63).toNatClampNeg
/-- the words x10, x32, x54, x76 -/
abbrev rc_V : Type := Int32 × Int32 × Int32 × Int32
def rc_ma (K : Nat → Int32) (i : Nat) (v : rc_V) : Int32 := rc_m v.1 v.2.1 v.2.2.1 v.2.2.2 (K i) 1
def rc_mb (K : Nat → Int32) (i : Nat) (v : rc_V) : Int32 := rc_m v.2.1 v.2.2.1 v.2.2.2 (rc_ma K i v) (K (i + 1)) 2
def rc_mc (K : Nat → Int32) (i : Nat) (v : rc_V) : Int32 := rc_m v.2.2.1 v.2.2.2 (rc_ma K i v) (rc_mb K i v) (K (i + 2)) 3
def rc_md (K : Nat → Int32) (i : Nat) (v : rc_V) : Int32 := rc_m v.2.2.2 (rc_ma K i v) (rc_mb K i v) (rc_mc K i v) (K (i + 3)) 5
def rc_mix (K : Nat → Int32) (i : Nat) (v : rc_V) : rc_V := (rc_ma K i v, rc_mb K i v, rc_mc K i v, rc_md K i v)
def rc_ud (K : Nat → Int32) (i : Nat) (v : rc_V) : Int32 := rc_u v.2.2.2 v.1 v.2.1 v.2.2.1 (K (i + 3)) 11
def rc_uc (K : Nat → Int32) (i : Nat) (v : rc_V) : Int32 := rc_u v.2.2.1 (rc_ud K i v) v.1 v.2.1 (K (i + 2)) 13
def rc_ub (K : Nat → Int32) (i : Nat) (v : rc_V) : Int32 := rc_u v.2.1 (rc_uc K i v) (rc_ud K i v) v.1 (K (i + 1)) 14
def rc_ua (K : Nat → Int32) (i : Nat) (v : rc_V) : Int32 := rc_u v.1 (rc_ub K i v) (rc_uc K i v) (rc_ud K i v) (K i) 15
def rc_umix (K : Nat → Int32) (i : Nat) (v : rc_V) : rc_V := (rc_ua K i v, rc_ub K i v, rc_uc K i v, rc_ud K i v)
def rc_ha (K : Nat → Int32) (v : rc_V) : Int32 := v.1 + K (rc_ix v.2.2.2)
def rc_hb (K : Nat → Int32) (v : rc_V) : Int32 := v.2.1 + K (rc_ix (rc_ha K v))
def rc_hc (K : Nat → Int32) (v : rc_V) : Int32 := v.2.2.1 + K (rc_ix (rc_hb K v))
def rc_hd (K : Nat → Int32) (v : rc_V) : Int32 := v.2.2.2 + K (rc_ix (rc_hc K v))
def rc_mash (K : Nat → Int32) (v : rc_V) : rc_V := (rc_ha K v, rc_hb K v, rc_hc K v, rc_hd K v)
def rc_gd (K : Nat → Int32) (v : rc_V) : Int32 := v.2.2.2 - K (rc_ix v.2.2.1)
def rc_gc (K : Nat → Int32) (v : rc_V) : Int32 := v.2.2.1 - K (rc_ix v.2.1)
def rc_gb (K : Nat → Int32) (v : rc_V) : Int32 := v.2.1 - K (rc_ix v.1)
def rc_ga (K : Nat → Int32) (v : rc_V) : Int32 := v.1 - K (rc_ix (rc_gd K v))
def rc_umash (K : Nat → Int32) (v : rc_V) : rc_V := (rc_ga K v, rc_gb K v, rc_gc K v, rc_gd K v)
/-- n mixing rounds from round j on; n unmixing rounds down to round j -/
def rc_mixN (K : Nat → Int32) (j : Nat) (v : rc_V) : Nat → rc_V
  | 0 => v
  | n + 1 => rc_mix K (4 * (j + n)) (rc_mixN K j v n)
def rc_umixN (K : Nat → Int32) (j : Nat) : Nat → rc_V → rc_V
  | 0, v => v
  | n + 1, v => rc_umixN K j n (rc_umix K (4 * (j + n)) v)
def rc_E (K : Nat → Int32) (v : rc_V) : rc_V := rc_mixN K 11 (rc_mash K (rc_mixN K 5 (rc_mash K (rc_mixN K 0 v 5)) 6)) 5
def rc_D (K : Nat → Int32) (v : rc_V) : rc_V := rc_umixN K 0 5 (rc_umash K (rc_umixN K 5 6 (rc_umash K (rc_umixN K 11 5 v))))
/-- a block read and written -/
def rc_w (hi lo : Int32) : Int32 := ((hi &&& 255) <<< (8 &&& 31)) + (lo &&& 255)
def rc_ld (f : Nat → Int32) : rc_V := (rc_w (f 1) (f 0), rc_w (f 3) (f 2), rc_w (f 5) (f 4), rc_w (f 7) (f 6))
def rc_nb (x : Int32) : Int32 := x.toInt8.toInt32
def rc_s8 (x : Int32) : Int32 := x >>> (8 &&& 31)
def rc_st (v : rc_V) : Nat → Int32 := fun j => match j with
  | 0 => rc_nb v.1
  | 1 => rc_nb (rc_s8 v.1)
  | 2 => rc_nb v.2.1
  | 3 => rc_nb (rc_s8 v.2.1)
  | 4 => rc_nb v.2.2.1
  | 5 => rc_nb (rc_s8 v.2.2.1)
  | 6 => rc_nb v.2.2.2
  | 7 => rc_nb (rc_s8 v.2.2.2)
  | _ => 0
def rc_enc (K f : Nat → Int32) : Nat → Int32 := rc_st (rc_E K (rc_ld f))
def rc_dec (K f : Nat → Int32) : Nat → Int32 := rc_st (rc_D K (rc_ld f))
/-! the low 16 bits -/
def rc_lo (x : Int32) : BitVec 16 := x.toBitVec.setWidth 16
theorem rc_lo_nat (x : Int32) : (rc_lo x).toNat = x.toBitVec.toNat % 65536 := by
  unfold rc_lo
  rw [BitVec.toNat_setWidth]
theorem rc_lo_add (x y : Int32) : rc_lo (x + y) = rc_lo x + rc_lo y := by
  unfold rc_lo
  rw [Int32.toBitVec_add, BitVec.setWidth_add _ _ (by omega)]
theorem rc_lo_and (x y : Int32) : rc_lo (x &&& y) = rc_lo x &&& rc_lo y := by
  unfold rc_lo
  rw [Int32.toBitVec_and, BitVec.setWidth_and]
theorem rc_lo_not (x : Int32) : rc_lo (x ^^^ (-1)) = rc_lo x ^^^ 65535#16 := by
  unfold rc_lo
  rw [Int32.toBitVec_xor, BitVec.setWidth_xor]
  rfl
theorem rc_lo_sub (x y : Int32) : rc_lo (x - y) = rc_lo x - rc_lo y := by
  have h : rc_lo (x - y) + rc_lo y = rc_lo x := by rw [← rc_lo_add, Int32.sub_add_cancel]
  rw [← h, BitVec.add_sub_cancel]
theorem rc_of (x : Int32) : x = nI x.toBitVec.toNat := by
  apply Int32.toBitVec_inj.1
  show x.toBitVec = BitVec.ofNat 32 x.toBitVec.toNat
  simp
theorem rc_or (a b : Nat) : nI a ||| nI b = nI (a ||| b) := by
  apply Int32.toBitVec_inj.1
  show BitVec.ofNat 32 a ||| BitVec.ofNat 32 b = BitVec.ofNat 32 (a ||| b)
  rw [BitVec.ofNat_or]
def b_rot (t : BitVec 16) (n : Nat) : BitVec 16 := BitVec.ofNat 16 (t.toNat * 2 ^ n + t.toNat / 2 ^ (16 - n))
theorem rc_lo_rot (x r : Int32) (n : Nat) (h0 : n < 16) (h1 : ((r &&& 31).toBitVec.smod 32).toNat = n) (h2 : (((16 - r) &&& 31).toBitVec.smod 32).toNat = 16 - n) : rc_lo (rc_rot x r) = b_rot (rc_lo x) n := by
  have e0 : x &&& 65535 = nI (x.toBitVec.toNat % 65536) := pk_and x 16 (by decide)
  have hlt : x.toBitVec.toNat % 65536 < 65536 := Nat.mod_lt _ (by omega)
  unfold rc_rot b_rot
  rw [e0, rc_lo_nat]
  generalize x.toBitVec.toNat % 65536 = t at hlt
  have hp : 2 ^ n ≤ 2 ^ 15 := Nat.pow_le_pow_right (by omega) (by omega)
  have hm : t * 2 ^ n ≤ 65535 * 2 ^ 15 := Nat.mul_le_mul (by omega) hp
  rw [pk_shlN _ n h1 (by omega), pk_shrN (by omega) _ (16 - n) h2, rc_or]
  have hd : t / 2 ^ (16 - n) < 2 ^ n := by
    rw [Nat.div_lt_iff_lt_mul (Nat.two_pow_pos _), ← Nat.pow_add]
    rw [show n + (16 - n) = 16 by omega]
    exact hlt
  have e1 : t * 2 ^ n ||| t / 2 ^ (16 - n) = t * 2 ^ n + t / 2 ^ (16 - n) := by
    rw [← Nat.shiftLeft_eq, Nat.shiftLeft_add_eq_or_of_lt hd]
  rw [e1]
  apply BitVec.eq_of_toNat_eq
  rw [rc_lo_nat, pk_tn (by omega), BitVec.toNat_ofNat]
theorem b_r1 {p q hi lo : Nat} (hpq : p * q = 65536) (h1 : hi < p) (h2 : lo < q) : ((hi * q + lo) * p + (hi * q + lo) / q) % 65536 = lo * p + hi := by
  have hq : 0 < q := by omega
  have e1 : (hi * q + lo) / q = hi := by
    rw [Nat.mul_comm, Nat.mul_add_div hq, Nat.div_eq_of_lt h2, Nat.add_zero]
  have e2 : (hi * q + lo) * p = 65536 * hi + lo * p := by
    rw [Nat.add_mul, Nat.mul_assoc, Nat.mul_comm q p, hpq, Nat.mul_comm hi]
  have h3 : (lo + 1) * p ≤ q * p := Nat.mul_le_mul_right p h2
  rw [Nat.add_mul, Nat.one_mul, Nat.mul_comm q p, hpq] at h3
  rw [e1, e2, Nat.add_assoc, Nat.mul_add_mod, Nat.mod_eq_of_lt (by omega)]
theorem b_r2 (t p q : Nat) (hpq : p * q = 65536) (ht : t < 65536) : ((t * p + t / q) % 65536 * q + (t * p + t / q) % 65536 / p) % 65536 = t := by
  have hq : 0 < q := by
    rcases Nat.eq_zero_or_pos q with h | h
    · rw [h] at hpq
      omega
    · exact h
  have h1 : t / q < p := Nat.div_lt_of_lt_mul (by rw [Nat.mul_comm, hpq]; exact ht)
  have h2 : t % q < q := Nat.mod_lt _ hq
  have e := b_r1 hpq h1 h2
  rw [Nat.div_add_mod' t q] at e
  rw [e, b_r1 (by rw [Nat.mul_comm]; exact hpq) h2 h1, Nat.div_add_mod' t q]
theorem b_rot_nat (t : BitVec 16) (n : Nat) : (b_rot t n).toNat = (t.toNat * 2 ^ n + t.toNat / 2 ^ (16 - n)) % 65536 := BitVec.toNat_ofNat _ _
theorem b_rr (t : BitVec 16) (n : Nat) (h : n = 1 ∨ n = 2 ∨ n = 3 ∨ n = 5) : b_rot (b_rot t n) (16 - n) = t ∧ b_rot (b_rot t (16 - n)) n = t := by
  have ht := t.isLt
  have e : 16 - (16 - n) = n := by omega
  have hp : 2 ^ n * 2 ^ (16 - n) = 65536 := by
    rw [← Nat.pow_add, show n + (16 - n) = 16 by omega]
  constructor
  · apply BitVec.eq_of_toNat_eq
    rw [b_rot_nat, b_rot_nat, e]
    exact b_r2 t.toNat (2 ^ n) (2 ^ (16 - n)) hp ht
  · apply BitVec.eq_of_toNat_eq
    rw [b_rot_nat, b_rot_nat, e]
    exact b_r2 t.toNat (2 ^ (16 - n)) (2 ^ n) (by rw [Nat.mul_comm]; exact hp) ht
def b_m (x y z w k : BitVec 16) (n : Nat) : BitVec 16 := b_rot (x + (y &&& (w ^^^ 65535#16)) + (z &&& w) + k) n
def b_u (x y z w k : BitVec 16) (n : Nat) : BitVec 16 := b_rot x (16 - n) - ((y &&& (w ^^^ 65535#16)) + (z &&& w) + k)
theorem b_um (x y z w k : BitVec 16) (n : Nat) (h : n = 1 ∨ n = 2 ∨ n = 3 ∨ n = 5) : b_u (b_m x y z w k n) y z w k n = x := by
  unfold b_u b_m
  rw [(b_rr _ n h).1, BitVec.add_assoc, BitVec.add_assoc, ← BitVec.add_assoc (y &&& (w ^^^ 65535#16)), BitVec.add_sub_cancel]
theorem b_mu (x y z w k : BitVec 16) (n : Nat) (h : n = 1 ∨ n = 2 ∨ n = 3 ∨ n = 5) : b_m (b_u x y z w k n) y z w k n = x := by
  unfold b_u b_m
  rw [BitVec.add_assoc, BitVec.add_assoc, ← BitVec.add_assoc (y &&& (w ^^^ 65535#16)), BitVec.sub_add_cancel, (b_rr _ n h).2]
theorem rc_lo_m (x y z w k r : Int32) (n : Nat) (h0 : n < 16) (h1 : ((r &&& 31).toBitVec.smod 32).toNat = n) (h2 : (((16 - r) &&& 31).toBitVec.smod 32).toNat = 16 - n) : rc_lo (rc_m x y z w k r) = b_m (rc_lo x) (rc_lo y) (rc_lo z) (rc_lo w) (rc_lo k) n := by
  unfold rc_m b_m
  rw [rc_lo_rot _ r n h0 h1 h2, rc_lo_add, rc_lo_add, rc_lo_add, rc_lo_and, rc_lo_and, rc_lo_not]
theorem rc_lo_u (x y z w k r : Int32) (n : Nat) (h0 : 16 - n < 16) (h1 : ((r &&& 31).toBitVec.smod 32).toNat = 16 - n) (h2 : (((16 - r) &&& 31).toBitVec.smod 32).toNat = 16 - (16 - n)) : rc_lo (rc_u x y z w k r) = b_u (rc_lo x) (rc_lo y) (rc_lo z) (rc_lo w) (rc_lo k) n := by
  unfold rc_u b_u
  rw [rc_lo_sub, rc_lo_rot _ r (16 - n) h0 h1 h2, rc_lo_add, rc_lo_add, rc_lo_and, rc_lo_and, rc_lo_not]
theorem rc_lm1 (x y z w k : Int32) : rc_lo (rc_m x y z w k 1) = b_m (rc_lo x) (rc_lo y) (rc_lo z) (rc_lo w) (rc_lo k) 1 := rc_lo_m _ _ _ _ _ _ 1 (by decide) (by decide) (by decide)
theorem rc_lm2 (x y z w k : Int32) : rc_lo (rc_m x y z w k 2) = b_m (rc_lo x) (rc_lo y) (rc_lo z) (rc_lo w) (rc_lo k) 2 := rc_lo_m _ _ _ _ _ _ 2 (by decide) (by decide) (by decide)
theorem rc_lm3 (x y z w k : Int32) : rc_lo (rc_m x y z w k 3) = b_m (rc_lo x) (rc_lo y) (rc_lo z) (rc_lo w) (rc_lo k) 3 := rc_lo_m _ _ _ _ _ _ 3 (by decide) (by decide) (by decide)
theorem rc_lm5 (x y z w k : Int32) : rc_lo (rc_m x y z w k 5) = b_m (rc_lo x) (rc_lo y) (rc_lo z) (rc_lo w) (rc_lo k) 5 := rc_lo_m _ _ _ _ _ _ 5 (by decide) (by decide) (by decide)
theorem rc_lu1 (x y z w k : Int32) : rc_lo (rc_u x y z w k 15) = b_u (rc_lo x) (rc_lo y) (rc_lo z) (rc_lo w) (rc_lo k) 1 := rc_lo_u _ _ _ _ _ _ 1 (by decide) (by decide) (by decide)
theorem rc_lu2 (x y z w k : Int32) : rc_lo (rc_u x y z w k 14) = b_u (rc_lo x) (rc_lo y) (rc_lo z) (rc_lo w) (rc_lo k) 2 := rc_lo_u _ _ _ _ _ _ 2 (by decide) (by decide) (by decide)
theorem rc_lu3 (x y z w k : Int32) : rc_lo (rc_u x y z w k 13) = b_u (rc_lo x) (rc_lo y) (rc_lo z) (rc_lo w) (rc_lo k) 3 := rc_lo_u _ _ _ _ _ _ 3 (by decide) (by decide) (by decide)
theorem rc_lu5 (x y z w k : Int32) : rc_lo (rc_u x y z w k 11) = b_u (rc_lo x) (rc_lo y) (rc_lo z) (rc_lo w) (rc_lo k) 5 := rc_lo_u _ _ _ _ _ _ 5 (by decide) (by decide) (by decide)
theorem rc_ix_lo (x : Int32) : rc_ix x = (rc_lo x).toNat % 64 := by
  unfold rc_ix
  rw [pk_and x 6 (by decide), nI_clamp (by omega), rc_lo_nat]
  omega
theorem rc_ix_lt (x : Int32) : rc_ix x < 64 := by
  rw [rc_ix_lo]
  omega
/-! the same over 16 bits, and there it is undone -/
abbrev b_V : Type := BitVec 16 × BitVec 16 × BitVec 16 × BitVec 16
def rc_l4 (v : rc_V) : b_V := (rc_lo v.1, rc_lo v.2.1, rc_lo v.2.2.1, rc_lo v.2.2.2)
def b_mix (K : Nat → BitVec 16) (i : Nat) (v : b_V) : b_V :=
  (b_m v.1 v.2.1 v.2.2.1 v.2.2.2 (K i) 1,
   b_m v.2.1 v.2.2.1 v.2.2.2 (b_m v.1 v.2.1 v.2.2.1 v.2.2.2 (K i) 1) (K (i + 1)) 2,
   b_m v.2.2.1 v.2.2.2 (b_m v.1 v.2.1 v.2.2.1 v.2.2.2 (K i) 1) (b_m v.2.1 v.2.2.1 v.2.2.2 (b_m v.1 v.2.1 v.2.2.1 v.2.2.2 (K i) 1) (K (i + 1)) 2) (K (i + 2)) 3,
   b_m v.2.2.2 (b_m v.1 v.2.1 v.2.2.1 v.2.2.2 (K i) 1) (b_m v.2.1 v.2.2.1 v.2.2.2 (b_m v.1 v.2.1 v.2.2.1 v.2.2.2 (K i) 1) (K (i + 1)) 2) (b_m v.2.2.1 v.2.2.2 (b_m v.1 v.2.1 v.2.2.1 v.2.2.2 (K i) 1) (b_m v.2.1 v.2.2.1 v.2.2.2 (b_m v.1 v.2.1 v.2.2.1 v.2.2.2 (K i) 1) (K (i + 1)) 2) (K (i + 2)) 3) (K (i + 3)) 5)
def b_ud (K : Nat → BitVec 16) (i : Nat) (v : b_V) : BitVec 16 := b_u v.2.2.2 v.1 v.2.1 v.2.2.1 (K (i + 3)) 5
def b_uc (K : Nat → BitVec 16) (i : Nat) (v : b_V) : BitVec 16 := b_u v.2.2.1 (b_ud K i v) v.1 v.2.1 (K (i + 2)) 3
def b_ub (K : Nat → BitVec 16) (i : Nat) (v : b_V) : BitVec 16 := b_u v.2.1 (b_uc K i v) (b_ud K i v) v.1 (K (i + 1)) 2
def b_ua (K : Nat → BitVec 16) (i : Nat) (v : b_V) : BitVec 16 := b_u v.1 (b_ub K i v) (b_uc K i v) (b_ud K i v) (K i) 1
def b_umix (K : Nat → BitVec 16) (i : Nat) (v : b_V) : b_V := (b_ua K i v, b_ub K i v, b_uc K i v, b_ud K i v)
theorem b_um1 (x y z w k : BitVec 16) : b_u (b_m x y z w k 1) y z w k 1 = x := b_um _ _ _ _ _ 1 (by decide)
theorem b_um2 (x y z w k : BitVec 16) : b_u (b_m x y z w k 2) y z w k 2 = x := b_um _ _ _ _ _ 2 (by decide)
theorem b_um3 (x y z w k : BitVec 16) : b_u (b_m x y z w k 3) y z w k 3 = x := b_um _ _ _ _ _ 3 (by decide)
theorem b_um5 (x y z w k : BitVec 16) : b_u (b_m x y z w k 5) y z w k 5 = x := b_um _ _ _ _ _ 5 (by decide)
theorem b_mu1 (x y z w k : BitVec 16) : b_m (b_u x y z w k 1) y z w k 1 = x := b_mu _ _ _ _ _ 1 (by decide)
theorem b_mu2 (x y z w k : BitVec 16) : b_m (b_u x y z w k 2) y z w k 2 = x := b_mu _ _ _ _ _ 2 (by decide)
theorem b_mu3 (x y z w k : BitVec 16) : b_m (b_u x y z w k 3) y z w k 3 = x := b_mu _ _ _ _ _ 3 (by decide)
theorem b_mu5 (x y z w k : BitVec 16) : b_m (b_u x y z w k 5) y z w k 5 = x := b_mu _ _ _ _ _ 5 (by decide)
theorem b_mix_l (K : Nat → BitVec 16) (i : Nat) (v : b_V) : b_umix K i (b_mix K i v) = v := by
  obtain ⟨a, b, c, d⟩ := v
  simp only [b_umix, b_ua, b_ub, b_uc, b_ud, b_mix, b_um1, b_um2, b_um3, b_um5]
theorem b_mix_r (K : Nat → BitVec 16) (i : Nat) (v : b_V) : b_mix K i (b_umix K i v) = v := by
  obtain ⟨a, b, c, d⟩ := v
  have e1 : b_m (b_ua K i (a, b, c, d)) (b_ub K i (a, b, c, d)) (b_uc K i (a, b, c, d)) (b_ud K i (a, b, c, d)) (K i) 1 = a := b_mu1 _ _ _ _ _
  have e2 : b_m (b_ub K i (a, b, c, d)) (b_uc K i (a, b, c, d)) (b_ud K i (a, b, c, d)) a (K (i + 1)) 2 = b := b_mu2 _ _ _ _ _
  have e3 : b_m (b_uc K i (a, b, c, d)) (b_ud K i (a, b, c, d)) a b (K (i + 2)) 3 = c := b_mu3 _ _ _ _ _
  have e4 : b_m (b_ud K i (a, b, c, d)) a b c (K (i + 3)) 5 = d := b_mu5 _ _ _ _ _
  simp only [b_mix, b_umix, e1, e2, e3, e4]
def b_ha (K : Nat → BitVec 16) (v : b_V) : BitVec 16 := v.1 + K (v.2.2.2.toNat % 64)
def b_hb (K : Nat → BitVec 16) (v : b_V) : BitVec 16 := v.2.1 + K ((b_ha K v).toNat % 64)
def b_hc (K : Nat → BitVec 16) (v : b_V) : BitVec 16 := v.2.2.1 + K ((b_hb K v).toNat % 64)
def b_hd (K : Nat → BitVec 16) (v : b_V) : BitVec 16 := v.2.2.2 + K ((b_hc K v).toNat % 64)
def b_mash (K : Nat → BitVec 16) (v : b_V) : b_V := (b_ha K v, b_hb K v, b_hc K v, b_hd K v)
def b_gd (K : Nat → BitVec 16) (v : b_V) : BitVec 16 := v.2.2.2 - K (v.2.2.1.toNat % 64)
def b_gc (K : Nat → BitVec 16) (v : b_V) : BitVec 16 := v.2.2.1 - K (v.2.1.toNat % 64)
def b_gb (K : Nat → BitVec 16) (v : b_V) : BitVec 16 := v.2.1 - K (v.1.toNat % 64)
def b_ga (K : Nat → BitVec 16) (v : b_V) : BitVec 16 := v.1 - K ((b_gd K v).toNat % 64)
def b_umash (K : Nat → BitVec 16) (v : b_V) : b_V := (b_ga K v, b_gb K v, b_gc K v, b_gd K v)
theorem b_mash_l (K : Nat → BitVec 16) (v : b_V) : b_umash K (b_mash K v) = v := by
  obtain ⟨a, b, c, d⟩ := v
  have e4 : b_gd K (b_mash K (a, b, c, d)) = d := BitVec.add_sub_cancel _ _
  have e3 : b_gc K (b_mash K (a, b, c, d)) = c := BitVec.add_sub_cancel _ _
  have e2 : b_gb K (b_mash K (a, b, c, d)) = b := BitVec.add_sub_cancel _ _
  have e1 : b_ga K (b_mash K (a, b, c, d)) = a := by
    unfold b_ga
    rw [e4]
    exact BitVec.add_sub_cancel _ _
  unfold b_umash
  rw [e1, e2, e3, e4]
theorem b_mash_r (K : Nat → BitVec 16) (v : b_V) : b_mash K (b_umash K v) = v := by
  obtain ⟨a, b, c, d⟩ := v
  have e1 : b_ha K (b_umash K (a, b, c, d)) = a := BitVec.sub_add_cancel _ _
  have e2 : b_hb K (b_umash K (a, b, c, d)) = b := by
    unfold b_hb
    rw [e1]
    exact BitVec.sub_add_cancel _ _
  have e3 : b_hc K (b_umash K (a, b, c, d)) = c := by
    unfold b_hc
    rw [e2]
    exact BitVec.sub_add_cancel _ _
  have e4 : b_hd K (b_umash K (a, b, c, d)) = d := by
    unfold b_hd
    rw [e3]
    exact BitVec.sub_add_cancel _ _
  unfold b_mash
  rw [e1, e2, e3, e4]
def b_mixN (K : Nat → BitVec 16) (j : Nat) (v : b_V) : Nat → b_V
  | 0 => v
  | n + 1 => b_mix K (4 * (j + n)) (b_mixN K j v n)
def b_umixN (K : Nat → BitVec 16) (j : Nat) : Nat → b_V → b_V
  | 0, v => v
  | n + 1, v => b_umixN K j n (b_umix K (4 * (j + n)) v)
theorem b_mixN_l (K : Nat → BitVec 16) (j : Nat) (v : b_V) : ∀ n, b_umixN K j n (b_mixN K j v n) = v
  | 0 => rfl
  | n + 1 => by
    show b_umixN K j n (b_umix K (4 * (j + n)) (b_mix K (4 * (j + n)) (b_mixN K j v n))) = v
    rw [b_mix_l, b_mixN_l K j v n]
theorem b_mixN_r (K : Nat → BitVec 16) (j : Nat) : ∀ (n : Nat) (v : b_V), b_mixN K j (b_umixN K j n v) n = v
  | 0, _ => rfl
  | n + 1, v => by
    show b_mix K (4 * (j + n)) (b_mixN K j (b_umixN K j n (b_umix K (4 * (j + n)) v)) n) = v
    rw [b_mixN_r K j n, b_mix_r]
def b_E (K : Nat → BitVec 16) (v : b_V) : b_V := b_mixN K 11 (b_mash K (b_mixN K 5 (b_mash K (b_mixN K 0 v 5)) 6)) 5
def b_D (K : Nat → BitVec 16) (v : b_V) : b_V := b_umixN K 0 5 (b_umash K (b_umixN K 5 6 (b_umash K (b_umixN K 11 5 v))))
theorem b_DE (K : Nat → BitVec 16) (v : b_V) : b_D K (b_E K v) = v := by
  unfold b_D b_E
  rw [b_mixN_l, b_mash_l, b_mixN_l, b_mash_l, b_mixN_l]
theorem b_ED (K : Nat → BitVec 16) (v : b_V) : b_E K (b_D K v) = v := by
  unfold b_D b_E
  rw [b_mixN_r, b_mash_r, b_mixN_r, b_mash_r, b_mixN_r]
/-! the machine's words, seen by their low 16 bits -/
def rc_lk (K : Nat → Int32) : Nat → BitVec 16 := fun j => rc_lo (K j)
theorem rc_l4_mix (K : Nat → Int32) (i : Nat) (v : rc_V) : rc_l4 (rc_mix K i v) = b_mix (rc_lk K) i (rc_l4 v) := by
  simp only [rc_l4, rc_mix, rc_ma, rc_mb, rc_mc, rc_md, b_mix, rc_lk, rc_lm1, rc_lm2, rc_lm3, rc_lm5]
theorem rc_l4_umix (K : Nat → Int32) (i : Nat) (v : rc_V) : rc_l4 (rc_umix K i v) = b_umix (rc_lk K) i (rc_l4 v) := by
  simp only [rc_l4, rc_umix, rc_ua, rc_ub, rc_uc, rc_ud, b_umix, b_ua, b_ub, b_uc, b_ud, rc_lk, rc_lu1, rc_lu2, rc_lu3, rc_lu5]
theorem rc_l4_mash (K : Nat → Int32) (v : rc_V) : rc_l4 (rc_mash K v) = b_mash (rc_lk K) (rc_l4 v) := by
  simp only [rc_l4, rc_mash, rc_ha, rc_hb, rc_hc, rc_hd, b_mash, b_ha, b_hb, b_hc, b_hd, rc_lk, rc_lo_add, rc_ix_lo]
theorem rc_l4_umash (K : Nat → Int32) (v : rc_V) : rc_l4 (rc_umash K v) = b_umash (rc_lk K) (rc_l4 v) := by
  simp only [rc_l4, rc_umash, rc_ga, rc_gb, rc_gc, rc_gd, b_umash, b_ga, b_gb, b_gc, b_gd, rc_lk, rc_lo_sub, rc_ix_lo]
theorem rc_l4_mixN (K : Nat → Int32) (j : Nat) (v : rc_V) : ∀ n, rc_l4 (rc_mixN K j v n) = b_mixN (rc_lk K) j (rc_l4 v) n
  | 0 => rfl
  | n + 1 => by
    show rc_l4 (rc_mix K (4 * (j + n)) (rc_mixN K j v n)) = b_mix (rc_lk K) (4 * (j + n)) (b_mixN (rc_lk K) j (rc_l4 v) n)
    rw [rc_l4_mix, rc_l4_mixN K j v n]
theorem rc_l4_umixN (K : Nat → Int32) (j : Nat) : ∀ (n : Nat) (v : rc_V), rc_l4 (rc_umixN K j n v) = b_umixN (rc_lk K) j n (rc_l4 v)
  | 0, _ => rfl
  | n + 1, v => by
    show rc_l4 (rc_umixN K j n (rc_umix K (4 * (j + n)) v)) = b_umixN (rc_lk K) j n (b_umix (rc_lk K) (4 * (j + n)) (rc_l4 v))
    rw [rc_l4_umixN K j n, rc_l4_umix]
theorem rc_l4_E (K : Nat → Int32) (v : rc_V) : rc_l4 (rc_E K v) = b_E (rc_lk K) (rc_l4 v) := by
  unfold rc_E b_E
  rw [rc_l4_mixN, rc_l4_mash, rc_l4_mixN, rc_l4_mash, rc_l4_mixN]
theorem rc_l4_D (K : Nat → Int32) (v : rc_V) : rc_l4 (rc_D K v) = b_D (rc_lk K) (rc_l4 v) := by
  unfold rc_D b_D
  rw [rc_l4_umixN, rc_l4_umash, rc_l4_umixN, rc_l4_umash, rc_l4_umixN]
/-! bytes -/
theorem rc_nb_and (x : Int32) : rc_nb x &&& 255 = x &&& 255 := by
  unfold rc_nb
  apply Int32.toBitVec_inj.mp
  rw [Int32.toBitVec_and, Int32.toBitVec_and, Int8.toBitVec_toInt32, Int32.toBitVec_toInt8]
  apply BitVec.eq_of_getLsbD_eq
  intro i hi
  rw [BitVec.getLsbD_and, BitVec.getLsbD_and]
  have hm : ∀ i < 32, 8 ≤ i → (255 : Int32).toBitVec.getLsbD i = false := by decide
  rcases Nat.lt_or_ge i 8 with z | z
  · rw [BitVec.getLsbD_signExtend, BitVec.getLsbD_signExtend, if_pos z, if_pos hi]
    simp only [z, hi, decide_true, Bool.true_and]
  · rw [hm i hi z, Bool.and_false, Bool.and_false]
theorem rc_nb_255 (x : Int32) : rc_nb x &&& 255 = nI (x.toBitVec.toNat % 256) := by
  rw [rc_nb_and, pk_and x 8 (by decide)]
theorem rc_nb_eq {x y : Int32} (h : x.toBitVec.toNat % 256 = y.toBitVec.toNat % 256) : rc_nb x = rc_nb y := by
  unfold rc_nb
  have e : x.toInt8 = y.toInt8 := by
    apply Int8.toBitVec_inj.mp
    rw [Int32.toBitVec_toInt8, Int32.toBitVec_toInt8, BitVec.signExtend_eq_setWidth_of_le _ (by omega), BitVec.signExtend_eq_setWidth_of_le _ (by omega)]
    apply BitVec.eq_of_toNat_eq
    rw [BitVec.toNat_setWidth, BitVec.toNat_setWidth]
    exact h
  rw [e]
theorem rc_nb_nb (x : Int32) : rc_nb (rc_nb x) = rc_nb x := by
  apply rc_nb_eq
  have h := rc_nb_255 x
  rw [pk_and _ 8 (by decide), nI_eq (by omega) (by omega)] at h
  exact h
theorem rc_shr (x s : Int32) (k : Nat) (hk : k = 8 ∨ k = 16 ∨ k = 24) (hs : (s.toBitVec.smod 32).toNat = k) : (x >>> s).toBitVec.toNat % 256 = x.toBitVec.toNat / 2 ^ k % 256 := by
  have h := pk_shr x s k hs
  have h1 := BitVec.toInt_eq_toNat_cond x.toBitVec
  have h2 := BitVec.toInt_eq_toNat_cond (x >>> s).toBitVec
  have e1 : x.toInt = x.toBitVec.toInt := rfl
  have e2 : (x >>> s).toInt = (x >>> s).toBitVec.toInt := rfl
  rw [e1, e2, Int.shiftRight_eq_div_pow, h1, h2] at h
  have l1 := x.toBitVec.isLt
  have l2 := (x >>> s).toBitVec.isLt
  generalize x.toBitVec.toNat = a at *
  generalize (x >>> s).toBitVec.toNat = b at *
  rcases hk with rfl | rfl | rfl
  all_goals
    simp only [Nat.reducePow] at *
    split at h <;> split at h <;> omega
theorem rc_s8_m (x : Int32) : (rc_s8 x).toBitVec.toNat % 256 = x.toBitVec.toNat / 256 % 256 := rc_shr x _ 8 (by decide) (by decide)
/-- a word that was written is read again -/
theorem rc_w_lo (x : Int32) : rc_lo (rc_w (rc_nb (rc_s8 x)) (rc_nb x)) = rc_lo x := by
  unfold rc_w
  rw [rc_nb_255, rc_nb_255, rc_s8_m, pk_shlN _ 8 (by decide) (by omega), nI_add]
  apply BitVec.eq_of_toNat_eq
  rw [rc_lo_nat, rc_lo_nat, pk_tn (by omega)]
  omega
theorem rc_ld_st (v : rc_V) : rc_l4 (rc_ld (rc_st v)) = rc_l4 v := by
  obtain ⟨a, b, c, d⟩ := v
  show (rc_lo (rc_w (rc_nb (rc_s8 a)) (rc_nb a)), rc_lo (rc_w (rc_nb (rc_s8 b)) (rc_nb b)), rc_lo (rc_w (rc_nb (rc_s8 c)) (rc_nb c)), rc_lo (rc_w (rc_nb (rc_s8 d)) (rc_nb d))) = _
  rw [rc_w_lo, rc_w_lo, rc_w_lo, rc_w_lo]
  rfl
theorem rc_lo_m16 {x y : Int32} (h : rc_lo x = rc_lo y) : x.toBitVec.toNat % 65536 = y.toBitVec.toNat % 65536 := by
  rw [← rc_lo_nat, ← rc_lo_nat, h]
theorem rc_nb_lo {x y : Int32} (h : rc_lo x = rc_lo y) : rc_nb x = rc_nb y := rc_nb_eq (by have := rc_lo_m16 h; omega)
theorem rc_n8_lo {x y : Int32} (h : rc_lo x = rc_lo y) : rc_nb (rc_s8 x) = rc_nb (rc_s8 y) := rc_nb_eq (by rw [rc_s8_m, rc_s8_m]; have := rc_lo_m16 h; omega)
theorem rc_st_lo {v u : rc_V} (h : rc_l4 v = rc_l4 u) : rc_st v = rc_st u := by
  obtain ⟨a, b, c, d⟩ := v
  obtain ⟨a2, b2, c2, d2⟩ := u
  have h1 : rc_lo a = rc_lo a2 := congrArg (fun q => q.1) h
  have h2 : rc_lo b = rc_lo b2 := congrArg (fun q => q.2.1) h
  have h3 : rc_lo c = rc_lo c2 := congrArg (fun q => q.2.2.1) h
  have h4 : rc_lo d = rc_lo d2 := congrArg (fun q => q.2.2.2) h
  funext j
  unfold rc_st
  split
  · exact rc_nb_lo h1
  · exact rc_n8_lo h1
  · exact rc_nb_lo h2
  · exact rc_n8_lo h2
  · exact rc_nb_lo h3
  · exact rc_n8_lo h3
  · exact rc_nb_lo h4
  · exact rc_n8_lo h4
  · rfl
/-- bytes that are read are written again -/
theorem rc_nb_w0 (h l : Int32) (hl : rc_nb l = l) : rc_nb (rc_w h l) = l := by
  rw [← hl]
  apply rc_nb_eq
  unfold rc_w
  rw [pk_and h 8 (by decide), rc_nb_255, pk_shlN _ 8 (by decide) (by omega), nI_add, pk_tn (by omega)]
  omega
theorem rc_nb_w1 (h l : Int32) (hh : rc_nb h = h) : rc_nb (rc_s8 (rc_w h l)) = h := by
  rw [← hh]
  apply rc_nb_eq
  rw [rc_s8_m]
  unfold rc_w
  rw [pk_and l 8 (by decide), rc_nb_255, pk_shlN _ 8 (by decide) (by omega), nI_add, pk_tn (by omega)]
  omega
/-- every value is a byte's -/
def rc_bt (f : Nat → Int32) : Prop := ∀ j, rc_nb (f j) = f j
theorem rc_st_ld {f : Nat → Int32} (hf : rc_bt f) {j : Nat} (hj : j < 8) : rc_st (rc_ld f) j = f j := by
  rcases (by omega : j = 0 ∨ j = 1 ∨ j = 2 ∨ j = 3 ∨ j = 4 ∨ j = 5 ∨ j = 6 ∨ j = 7) with rfl | rfl | rfl | rfl | rfl | rfl | rfl | rfl
  · exact rc_nb_w0 _ _ (hf 0)
  · exact rc_nb_w1 _ _ (hf 1)
  · exact rc_nb_w0 _ _ (hf 2)
  · exact rc_nb_w1 _ _ (hf 3)
  · exact rc_nb_w0 _ _ (hf 4)
  · exact rc_nb_w1 _ _ (hf 5)
  · exact rc_nb_w0 _ _ (hf 6)
  · exact rc_nb_w1 _ _ (hf 7)
theorem rc_bt_st (v : rc_V) : rc_bt (rc_st v) := by
  intro j
  unfold rc_st
  split
  · exact rc_nb_nb _
  · exact rc_nb_nb _
  · exact rc_nb_nb _
  · exact rc_nb_nb _
  · exact rc_nb_nb _
  · exact rc_nb_nb _
  · exact rc_nb_nb _
  · exact rc_nb_nb _
  · decide
/-- THE LAW, PLAIN: what was locked is opened, what was opened is locked -/
theorem rc_law_de (K : Nat → Int32) {f : Nat → Int32} (hf : rc_bt f) {j : Nat} (hj : j < 8) : rc_dec K (rc_enc K f) j = f j := by
  unfold rc_dec rc_enc
  rw [rc_st_lo (u := rc_ld f), rc_st_ld hf hj]
  rw [rc_l4_D, rc_ld_st, rc_l4_E, b_DE]
theorem rc_law_ed (K : Nat → Int32) {f : Nat → Int32} (hf : rc_bt f) {j : Nat} (hj : j < 8) : rc_enc K (rc_dec K f) j = f j := by
  unfold rc_dec rc_enc
  rw [rc_st_lo (u := rc_ld f), rc_st_ld hf hj]
  rw [rc_l4_E, rc_ld_st, rc_l4_D, b_ED]
/-- the block is read at its 8 places alone -/
theorem rc_ld_eq {f g : Nat → Int32} (h : ∀ j, j < 8 → f j = g j) : rc_ld f = rc_ld g := by
  unfold rc_ld
  rw [h 0 (by omega), h 1 (by omega), h 2 (by omega), h 3 (by omega), h 4 (by omega), h 5 (by omega), h 6 (by omega), h 7 (by omega)]
end
section
/-! THE KEY SCHEDULE IN PLAIN LEAN: what generateWorkingKey computes of 16 bytes; its value on the known key; the known answer -/
def rc_piL : List Int32 := [-39, 120, -7, -60, 25, -35, -75, -19, 40, -23, -3, 121, 74, -96, -40, -99, -58, 126, 55, -125, 43, 118, 83, -114, 98, 76, 100, -120, 68, -117, -5, -94, 23, -102, 89, -11, -121, -77, 79, 19, 97, 69, 109, -115, 9, -127, 125, 50, -67, -113, 64, -21, -122, -73, 123, 11, -16, -107, 33, 34, 92, 107, 78, -126, 84, -42, 101, -109, -50, 96, -78, 28, 115, 86, -64, 20, -89, -116, -15, -36, 18, 117, -54, 31, 59, -66, -28, -47, 66, 61, -44, 48, -93, 60, -74, 38, 111, -65, 14, -38, 70, 105, 7, 87, 39, -14, 29, -101, -68, -108, 67, 3, -8, 17, -57, -10, -112, -17, 62, -25, 6, -61, -43, 47, -56, 102, 30, -41, 8, -24, -22, -34, -128, 82, -18, -9, -124, -86, 114, -84, 53, 77, 106, 42, -106, 26, -46, 113, 90, 21, 73, 116, 75, -97, -48, 94, 4, 24, -92, -20, -62, -32, 65, 110, 15, 81, -53, -52, 36, -111, -81, 80, -95, -12, 112, 57, -103, 124, 58, -123, 35, -72, -76, 122, -4, 2, 54, 91, 37, 85, -105, 49, 45, 93, -6, -104, -29, -118, -110, -82, 5, -33, 41, 16, 103, 108, -70, -55, -45, 0, -26, -49, -31, -98, -88, 44, 99, 22, 1, 63, 88, -30, -119, -87, 13, 56, 52, 27, -85, 51, -1, -80, -69, 72, 12, 95, -71, -79, -51, 46, -59, -13, -37, 71, -27, -91, -100, 119, 10, -90, 32, 104, -2, 127, -63, -83]
/-- the table, as the Statement gives it -/
def rc_pi (j : Nat) : Int32 := rc_piL.getD j 0
def rc_p (x : Int32) : Int32 := rc_pi x.toNatClampNeg &&& 255
def rc_x0 (key : Nat → Int32) : Nat → Int32 := fun j => if j < 16 then key j &&& 255 else 0
/-- the first loop's last value and array after n turns (from place 16 on) -/
def rc_g1 (key : Nat → Int32) : Nat → Int32 × (Nat → Int32)
  | 0 => (rc_x0 key 15, rc_x0 key)
  | n + 1 => (rc_p (((rc_g1 key n).1 + (rc_g1 key n).2 n) &&& 255), upd (rc_g1 key n).2 (16 + n) (rc_p (((rc_g1 key n).1 + (rc_g1 key n).2 n) &&& 255)))
/-- the second loop's after n turns (from place 111 down) -/
def rc_g2 (key : Nat → Int32) : Nat → Int32 × (Nat → Int32)
  | 0 => (rc_p ((rc_g1 key 112).2 112 &&& 255), upd (rc_g1 key 112).2 112 (rc_p ((rc_g1 key 112).2 112 &&& 255)))
  | n + 1 => (rc_p ((rc_g2 key n).1 ^^^ (rc_g2 key n).2 (111 - n + 16)), upd (rc_g2 key n).2 (111 - n) (rc_p ((rc_g2 key n).1 ^^^ (rc_g2 key n).2 (111 - n + 16))))
/-- the working key -/
def rc_exp (key : Nat → Int32) : Nat → Int32 := fun j => (rc_g2 key 112).2 (2 * j) + ((rc_g2 key 112).2 (2 * j + 1) <<< (8 &&& 31))
/-- a byte read unsigned -/
def rc_by (x : Int32) : Prop := ∃ n : Nat, n < 256 ∧ x = nI n
theorem rc_by_and (x : Int32) : rc_by (x &&& 255) := pk_andE x 8 (by decide)
theorem rc_by_p (x : Int32) : rc_by (rc_p x) := rc_by_and _
theorem rc_by_x0 (key : Nat → Int32) (j : Nat) : rc_by (rc_x0 key j) := by
  unfold rc_x0
  split
  · exact rc_by_and _
  · exact ⟨0, by omega, nI_0.symm⟩
theorem rc_by_g1 (key : Nat → Int32) : ∀ n, rc_by (rc_g1 key n).1 ∧ ∀ j, rc_by ((rc_g1 key n).2 j)
  | 0 => ⟨rc_by_x0 key 15, rc_by_x0 key⟩
  | n + 1 => by
    refine ⟨rc_by_p _, fun j => ?_⟩
    show rc_by (upd (rc_g1 key n).2 (16 + n) _ j)
    unfold upd
    split
    · exact rc_by_p _
    · exact (rc_by_g1 key n).2 j
theorem rc_by_g2 (key : Nat → Int32) : ∀ n, rc_by (rc_g2 key n).1 ∧ ∀ j, rc_by ((rc_g2 key n).2 j)
  | 0 => by
    refine ⟨rc_by_p _, fun j => ?_⟩
    show rc_by (upd (rc_g1 key 112).2 112 _ j)
    unfold upd
    split
    · exact rc_by_p _
    · exact (rc_by_g1 key 112).2 j
  | n + 1 => by
    refine ⟨rc_by_p _, fun j => ?_⟩
    show rc_by (upd (rc_g2 key n).2 (111 - n) _ j)
    unfold upd
    split
    · exact rc_by_p _
    · exact (rc_by_g2 key n).2 j
theorem rc_nxor (a b : Nat) : nI a ^^^ nI b = nI (a ^^^ b) := by
  apply Int32.toBitVec_inj.1
  show BitVec.ofNat 32 a ^^^ BitVec.ofNat 32 b = BitVec.ofNat 32 (a ^^^ b)
  apply BitVec.eq_of_getLsbD_eq
  intro i hi
  simp [hi]
theorem rc_by_xor {x y : Int32} (hx : rc_by x) (hy : rc_by y) : ∃ n : Nat, n < 256 ∧ x ^^^ y = nI n := by
  obtain ⟨a, ha, rfl⟩ := hx
  obtain ⟨b, hb, rfl⟩ := hy
  exact ⟨a ^^^ b, Nat.xor_lt_two_pow (n := 8) ha hb, rc_nxor a b⟩
/-! a desk's arrays -/
def rc_word (f : Nat → Int32) (a : Nat) (w : Int32) : Nat → Int32 := upd (upd (upd (upd f a (rc_nb (w >>> (24 &&& 31)))) (a + 1) (rc_nb (w >>> (16 &&& 31)))) (a + 2) (rc_nb (w >>> (8 &&& 31)))) (a + 3) (rc_nb w)
def rc_key (f : Nat → Int32) (at_ : Nat) (a b c d : Int32) : Nat → Int32 := rc_word (rc_word (rc_word (rc_word f at_ a) (at_ + 4) b) (at_ + 8) c) (at_ + 12) d
def rc_blk (f : Nat → Int32) (a b : Int32) : Nat → Int32 := rc_word (rc_word f 0 a) 4 b
theorem rc_bt_0 : rc_bt (fun _ => 0) := fun _ => (by decide : rc_nb 0 = 0)
theorem rc_bt_upd {f : Nat → Int32} (h : rc_bt f) (k : Nat) (x : Int32) : rc_bt (upd f k (rc_nb x)) := by
  intro j
  unfold upd
  split
  · exact rc_nb_nb x
  · exact h j
theorem rc_bt_word {f : Nat → Int32} (h : rc_bt f) (a : Nat) (w : Int32) : rc_bt (rc_word f a w) := rc_bt_upd (rc_bt_upd (rc_bt_upd (rc_bt_upd h _ _) _ _) _ _) _ _
theorem rc_bt_key {f : Nat → Int32} (h : rc_bt f) (at_ : Nat) (a b c d : Int32) : rc_bt (rc_key f at_ a b c d) := rc_bt_word (rc_bt_word (rc_bt_word (rc_bt_word h _ _) _ _) _ _) _ _
theorem rc_bt_blk {f : Nat → Int32} (h : rc_bt f) (a b : Int32) : rc_bt (rc_blk f a b) := rc_bt_word (rc_bt_word h _ _) _ _
/-- the block's byte j of the two words a, b, and how the law reads it -/
def rc_sh (j : Nat) : Int32 := 24 - 8 * nI (j % 4)
def rc_want (w : Int32) (j : Nat) : Int32 := (w.toUInt32 >>> ((rc_sh j).toUInt32 &&& Int32.toUInt32 31)).toInt32 &&& 255
theorem rc_want_eq (w : Int32) (j k : Nat) (hk : (((rc_sh j).toUInt32 &&& Int32.toUInt32 31).toBitVec % 32).toNat = k) : rc_want w j = nI (w.toBitVec.toNat / 2 ^ k % 256) := by
  unfold rc_want
  rw [pk_and _ 8 (by decide), pk_ushr w _ k hk]
theorem rc_read (w s : Int32) (j k : Nat) (hk : k = 8 ∨ k = 16 ∨ k = 24) (hs : (s.toBitVec.smod 32).toNat = k) (hj : (((rc_sh j).toUInt32 &&& Int32.toUInt32 31).toBitVec % 32).toNat = k) : rc_nb (w >>> s) &&& 255 = rc_want w j := by
  rw [rc_want_eq w j k hj, rc_nb_255, rc_shr w s k hk hs]
theorem rc_read0 (w : Int32) (j : Nat) (hj : (((rc_sh j).toUInt32 &&& Int32.toUInt32 31).toBitVec % 32).toNat = 0) : rc_nb w &&& 255 = rc_want w j := by
  rw [rc_want_eq w j 0 hj, rc_nb_255, Nat.pow_zero, Nat.div_one]
theorem rc_blk_read (f : Nat → Int32) (a b : Int32) {j : Nat} (hj : j < 8) : rc_blk f a b j &&& 255 = rc_want (if j < 4 then a else b) j := by
  rcases (by omega : j = 0 ∨ j = 1 ∨ j = 2 ∨ j = 3 ∨ j = 4 ∨ j = 5 ∨ j = 6 ∨ j = 7) with rfl | rfl | rfl | rfl | rfl | rfl | rfl | rfl
  · exact rc_read a _ 0 24 (by decide) (by decide) (by decide)
  · exact rc_read a _ 1 16 (by decide) (by decide) (by decide)
  · exact rc_read a _ 2 8 (by decide) (by decide) (by decide)
  · exact rc_read0 a 3 (by decide)
  · exact rc_read b _ 4 24 (by decide) (by decide) (by decide)
  · exact rc_read b _ 5 16 (by decide) (by decide) (by decide)
  · exact rc_read b _ 6 8 (by decide) (by decide) (by decide)
  · exact rc_read0 b 7 (by decide)

/-! the known answer -/
def rc_kb : List Int32 := [-120, -68, -87, 14, -112, -121, 90, 127, 15, 121, -61, -124, 98, 123, -81, -78]
def rc_LL : List Int32 := [136, 188, 169, 14, 144, 135, 90, 127, 15, 121, 195, 132, 98, 123, 175, 178, 33, 226, 172, 54, 146, 76, 203, 192, 201, 101, 97, 51, 21, 150, 96, 55, 66, 135, 235, 154, 9, 190, 170, 29, 255, 70, 204, 173, 250, 150, 156, 207, 126, 221, 5, 236, 165, 218, 128, 24, 142, 225, 244, 224, 1, 116, 198, 21, 113, 241, 156, 132, 69, 162, 89, 17, 236, 108, 111, 220, 226, 228, 175, 227, 59, 9, 81, 158, 27, 85, 112, 232, 225, 140, 104, 206, 153, 102, 118, 61, 6, 157, 205, 155, 180, 233, 61, 179, 90, 255, 87, 179, 167, 160, 83, 150, 4, 224, 244, 42, 137, 199, 25, 103, 93, 163, 32, 207, 62, 137, 88, 205]
def rc_ML : List Int32 := [113, 171, 38, 70, 47, 11, 147, 51, 96, 157, 68, 118, 228, 138, 183, 36, 56, 194, 25, 75, 112, 164, 112, 133, 216, 75, 106, 241, 220, 114, 17, 144, 35, 185, 79, 232, 10, 238, 43, 107, 69, 242, 127, 146, 61, 155, 225, 87, 13, 163, 206, 139, 22, 173, 127, 120, 219, 22, 111, 251, 194, 138, 131, 106, 67, 146, 207, 11, 116, 128, 133, 218, 228, 182, 155, 220, 42, 70, 121, 205, 252, 9, 216, 67, 23, 1, 105, 135, 224, 197, 183, 101, 201, 29, 198, 18, 177, 244, 77, 121, 33, 179, 226, 196, 100, 71, 80, 139, 210, 172, 2, 225, 25, 224, 244, 42, 137, 199, 25, 103, 93, 163, 32, 207, 62, 137, 88, 205]
def rc_KL : List Int32 := [43889, 17958, 2863, 13203, 40288, 30276, 35556, 9399, 49720, 19225, 42096, 34160, 19416, 61802, 29404, 36881, 47395, 59471, 60938, 27435, 62021, 37503, 39741, 22497, 41741, 35790, 44310, 30847, 5851, 64367, 35522, 27267, 37443, 3023, 32884, 55941, 46820, 56475, 17962, 52601, 2556, 17368, 279, 34665, 50656, 26039, 7625, 4806, 62641, 31053, 45857, 50402, 18276, 35664, 44242, 57602, 57369, 10996, 51081, 26393, 41821, 53024, 35134, 52568]
def rc_KF (j : Nat) : Int32 := rc_KL.getD j 0
set_option maxRecDepth 100000 in
theorem rc_t0 : ∀ j, j < 16 → rc_kb.getD j 0 &&& 255 = rc_LL.getD j 0 := by decide +kernel
set_option maxRecDepth 100000 in
theorem rc_t1 : ∀ n, n < 112 → rc_p ((rc_LL.getD (15 + n) 0 + rc_LL.getD n 0) &&& 255) = rc_LL.getD (16 + n) 0 := by decide +kernel
set_option maxRecDepth 100000 in
theorem rc_t2 : rc_p (rc_LL.getD 112 0 &&& 255) = rc_ML.getD 112 0 := by decide +kernel
set_option maxRecDepth 100000 in
theorem rc_t3 : ∀ j, j < 128 → 112 < j → rc_LL.getD j 0 = rc_ML.getD j 0 := by decide +kernel
set_option maxRecDepth 100000 in
theorem rc_t4 : ∀ n, n < 112 → rc_p (rc_ML.getD (112 - n) 0 ^^^ rc_ML.getD (111 - n + 16) 0) = rc_ML.getD (111 - n) 0 := by decide +kernel
set_option maxRecDepth 100000 in
theorem rc_t5 : ∀ j, j < 64 → rc_ML.getD (2 * j) 0 + (rc_ML.getD (2 * j + 1) 0 <<< (8 &&& 31)) = rc_KF j := by decide +kernel
theorem rc_k1 {key : Nat → Int32} (hk : ∀ j, j < 16 → key j = rc_kb.getD j 0) : ∀ n, n ≤ 112 → (rc_g1 key n).1 = rc_LL.getD (15 + n) 0 ∧ ∀ j, (rc_g1 key n).2 j = if j < 16 + n then rc_LL.getD j 0 else 0
  | 0, _ => by
    have h : ∀ j, rc_x0 key j = if j < 16 + 0 then rc_LL.getD j 0 else 0 := by
      intro j
      unfold rc_x0
      by_cases hj : j < 16
      · rw [if_pos hj, if_pos (by omega), hk j hj, rc_t0 j hj]
      · rw [if_neg hj, if_neg (by omega)]
    refine ⟨?_, h⟩
    show rc_x0 key 15 = _
    rw [h 15, if_pos (by omega)]
  | n + 1, hn => by
    obtain ⟨h1, h2⟩ := rc_k1 hk n (by omega)
    have e : rc_p (((rc_g1 key n).1 + (rc_g1 key n).2 n) &&& 255) = rc_LL.getD (16 + n) 0 := by
      rw [h1, h2 n, if_pos (by omega), rc_t1 n (by omega)]
    refine ⟨?_, fun j => ?_⟩
    · show rc_p _ = _
      rw [e, show 16 + n = 15 + (n + 1) by omega]
    · show upd (rc_g1 key n).2 (16 + n) (rc_p _) j = _
      rw [e]
      unfold upd
      by_cases hj : j = 16 + n
      · rw [if_pos hj, if_pos (by omega), hj]
      · rw [if_neg hj, h2 j]
        by_cases h : j < 16 + n
        · rw [if_pos h, if_pos (by omega)]
        · rw [if_neg h, if_neg (by omega)]
theorem rc_k2 {key : Nat → Int32} (hk : ∀ j, j < 16 → key j = rc_kb.getD j 0) : ∀ n, n ≤ 112 → (rc_g2 key n).1 = rc_ML.getD (112 - n) 0 ∧ ∀ j, j < 128 → (rc_g2 key n).2 j = if 112 - n ≤ j then rc_ML.getD j 0 else rc_LL.getD j 0
  | 0, _ => by
    obtain ⟨-, h2⟩ := rc_k1 hk 112 (by omega)
    have e : rc_p ((rc_g1 key 112).2 112 &&& 255) = rc_ML.getD 112 0 := by
      rw [h2 112, if_pos (by omega), rc_t2]
    refine ⟨e, fun j hj => ?_⟩
    show upd (rc_g1 key 112).2 112 (rc_p _) j = _
    rw [e]
    unfold upd
    by_cases h : j = 112
    · rw [if_pos h, if_pos (by omega), h]
    · rw [if_neg h, h2 j, if_pos (by omega)]
      by_cases h3 : 112 - 0 ≤ j
      · rw [if_pos h3, rc_t3 j hj (by omega)]
      · rw [if_neg h3]
  | n + 1, hn => by
    obtain ⟨h1, h2⟩ := rc_k2 hk n (by omega)
    have e : rc_p ((rc_g2 key n).1 ^^^ (rc_g2 key n).2 (111 - n + 16)) = rc_ML.getD (111 - n) 0 := by
      rw [h1, h2 _ (by omega), if_pos (by omega), rc_t4 n (by omega)]
    refine ⟨?_, fun j hj => ?_⟩
    · show rc_p _ = _
      rw [e, show 111 - n = 112 - (n + 1) by omega]
    · show upd (rc_g2 key n).2 (111 - n) (rc_p _) j = _
      rw [e]
      unfold upd
      by_cases h : j = 111 - n
      · rw [if_pos h, if_pos (by omega), h]
      · rw [if_neg h, h2 j hj]
        by_cases h3 : 112 - n ≤ j
        · rw [if_pos h3, if_pos (by omega)]
        · rw [if_neg h3, if_neg (by omega)]
theorem rc_k3 {key : Nat → Int32} (hk : ∀ j, j < 16 → key j = rc_kb.getD j 0) (j : Nat) (hj : j < 64) : rc_exp key j = rc_KF j := by
  obtain ⟨-, h⟩ := rc_k2 hk 112 (by omega)
  unfold rc_exp
  rw [h _ (by omega), h _ (by omega), if_pos (by omega), if_pos (by omega), rc_t5 j hj]
theorem rc_c_mix {K K2 : Nat → Int32} (h : ∀ j, j < 64 → K j = K2 j) (i : Nat) (hi : i + 3 < 64) (v : rc_V) : rc_mix K i v = rc_mix K2 i v := by
  simp only [rc_mix, rc_ma, rc_mb, rc_mc, rc_md, h i (by omega), h (i + 1) (by omega), h (i + 2) (by omega), h (i + 3) (by omega)]
theorem rc_c_mash {K K2 : Nat → Int32} (h : ∀ j, j < 64 → K j = K2 j) (v : rc_V) : rc_mash K v = rc_mash K2 v := by
  simp only [rc_mash, rc_ha, rc_hb, rc_hc, rc_hd, h _ (rc_ix_lt _)]
theorem rc_c_mixN {K K2 : Nat → Int32} (h : ∀ j, j < 64 → K j = K2 j) (j : Nat) (v : rc_V) : ∀ n, j + n ≤ 16 → rc_mixN K j v n = rc_mixN K2 j v n
  | 0, _ => rfl
  | n + 1, hn => by
    show rc_mix K (4 * (j + n)) (rc_mixN K j v n) = rc_mix K2 (4 * (j + n)) (rc_mixN K2 j v n)
    rw [rc_c_mixN h j v n (by omega), rc_c_mix h _ (by omega)]
theorem rc_c_E {K K2 : Nat → Int32} (h : ∀ j, j < 64 → K j = K2 j) (v : rc_V) : rc_E K v = rc_E K2 v := by
  unfold rc_E
  rw [rc_c_mixN h 0 _ 5 (by omega), rc_c_mash h, rc_c_mixN h 5 _ 6 (by omega), rc_c_mash h, rc_c_mixN h 11 _ 5 (by omega)]

set_option maxRecDepth 100000 in
theorem rc_r0 : rc_mix rc_KF 0 (0, 0, 0, 0) = (87779, 71833, 56704, 642761) := by decide +kernel
set_option maxRecDepth 100000 in
theorem rc_r1 : rc_mix rc_KF 4 (87779, 71833, 56704, 642761) = (106919, 109945, 155690, 1222066) := by decide +kernel
set_option maxRecDepth 100000 in
theorem rc_r2 : rc_mix rc_KF 8 (106919, 109945, 155690, 1222066) = (71829, 91441, 272748, 760427) := by decide +kernel
set_option maxRecDepth 100000 in
theorem rc_r3 : rc_mix rc_KF 12 (71829, 91441, 272748, 760427) = (107467, 230443, 111769, 1456374) := by decide +kernel
set_option maxRecDepth 100000 in
theorem rc_r4 : rc_mix rc_KF 16 (107467, 230443, 111769, 1456374) = (8974, 33860, 449230, 568488) := by decide +kernel
set_option maxRecDepth 100000 in
theorem rc_h4 : rc_mash rc_KF (8974, 33860, 449230, 568488) = (11530, 75956, 467506, 614345) := by decide +kernel
set_option maxRecDepth 100000 in
theorem rc_r5 : rc_mix rc_KF 20 (11530, 75956, 467506, 614345) = (33542, 227727, 402862, 747275) := by decide +kernel
set_option maxRecDepth 100000 in
theorem rc_r6 : rc_mix rc_KF 24 (33542, 227727, 402862, 747275) = (51010, 111661, 314932, 826892) := by decide +kernel
set_option maxRecDepth 100000 in
theorem rc_r7 : rc_mix rc_KF 28 (51010, 111661, 314932, 826892) = (71813, 145218, 493591, 205347) := by decide +kernel
set_option maxRecDepth 100000 in
theorem rc_r8 : rc_mix rc_KF 32 (71813, 145218, 493591, 205347) = (98327, 76881, 22000, 1056752) := by decide +kernel
set_option maxRecDepth 100000 in
theorem rc_r9 : rc_mix rc_KF 36 (98327, 76881, 22000, 1056752) = (55768, 39792, 118609, 1124401) := by decide +kernel
set_option maxRecDepth 100000 in
theorem rc_r10 : rc_mix rc_KF 40 (55768, 39792, 118609, 1124401) = (65098, 8548, 509391, 1924061) := by decide +kernel
set_option maxRecDepth 100000 in
theorem rc_h10 : rc_mash rc_KF (65098, 8548, 509391, 1924061) = (129465, 19544, 551132, 1929912) := by decide +kernel
set_option maxRecDepth 100000 in
theorem rc_r11 : rc_mix rc_KF 44 (129465, 19544, 551132, 1929912) = (22754, 35628, 522927, 130369) := by decide +kernel
set_option maxRecDepth 100000 in
theorem rc_r12 : rc_mix rc_KF 48 (22754, 35628, 522927, 130369) = (36736, 1696, 355469, 603241) := by decide +kernel
set_option maxRecDepth 100000 in
theorem rc_r13 : rc_mix rc_KF 52 (36736, 1696, 355469, 603241) = (129755, 202999, 176594, 919758) := by decide +kernel
set_option maxRecDepth 100000 in
theorem rc_r14 : rc_mix rc_KF 56 (129755, 202999, 176594, 919758) = (120783, 103205, 43344, 585416) := by decide +kernel
set_option maxRecDepth 100000 in
theorem rc_r15 : rc_mix rc_KF 60 (120783, 103205, 43344, 585416) = (26914, 76373, 63664, 1877596) := by decide +kernel
theorem rc_e0 : rc_mixN rc_KF 0 (0, 0, 0, 0) 5 = (8974, 33860, 449230, 568488) := by
  show rc_mix rc_KF 16 (rc_mix rc_KF 12 (rc_mix rc_KF 8 (rc_mix rc_KF 4 (rc_mix rc_KF 0 (0, 0, 0, 0))))) = _
  rw [rc_r0, rc_r1, rc_r2, rc_r3, rc_r4]
theorem rc_e1 : rc_mixN rc_KF 5 (11530, 75956, 467506, 614345) 6 = (65098, 8548, 509391, 1924061) := by
  show rc_mix rc_KF 40 (rc_mix rc_KF 36 (rc_mix rc_KF 32 (rc_mix rc_KF 28 (rc_mix rc_KF 24 (rc_mix rc_KF 20 (11530, 75956, 467506, 614345)))))) = _
  rw [rc_r5, rc_r6, rc_r7, rc_r8, rc_r9, rc_r10]
theorem rc_e2 : rc_mixN rc_KF 11 (129465, 19544, 551132, 1929912) 5 = (26914, 76373, 63664, 1877596) := by
  show rc_mix rc_KF 60 (rc_mix rc_KF 56 (rc_mix rc_KF 52 (rc_mix rc_KF 48 (rc_mix rc_KF 44 (129465, 19544, 551132, 1929912))))) = _
  rw [rc_r11, rc_r12, rc_r13, rc_r14, rc_r15]
theorem rc_e3 : rc_E rc_KF (0, 0, 0, 0) = (26914, 76373, 63664, 1877596) := by
  unfold rc_E
  rw [rc_e0, rc_h4, rc_e1, rc_h10, rc_e2]
def rc_ans : List Int32 := [34, 105, 85, 42, 176, 248, 92, 166]
theorem rc_e4 : ∀ j, j < 8 → rc_st (26914, 76373, 63664, 1877596) j &&& 255 = rc_ans.getD j 0 := by decide +kernel
theorem rc_e5 : rc_ld (fun _ => 0) = (0, 0, 0, 0) := by decide +kernel
/-- THE KNOWN ANSWER -/
theorem rc_known {key f : Nat → Int32} (hk : ∀ j, j < 16 → key j = rc_kb.getD j 0) (hf : ∀ j, j < 8 → f j = 0) {j : Nat} (hj : j < 8) : rc_enc (rc_exp key) f j &&& 255 = rc_ans.getD j 0 := by
  unfold rc_enc
  rw [rc_ld_eq (g := fun _ => 0) hf, rc_e5, rc_c_E (rc_k3 hk), rc_e3, rc_e4 j hj]
set_option maxRecDepth 100000 in
theorem rc_kkey : ∀ j, j < 16 → rc_key (rc_key (fun _ => 0) 0 (-2000901874) (-1870177665) 259638148 1652273074) 16 0 0 0 0 j = rc_kb.getD j 0 := by decide +kernel
theorem rc_kblk : ∀ j, j < 8 → rc_blk (fun _ => 0) 0 0 j = 0 := by decide +kernel
end
section
-- ===== PART A: goes FIRST, ahead of the names: the tables' words, and 'selects' of the private methods out of them =====
/-- a private method of a class that the tables say can be made, by its rows of tables_1 -/
def lw_okq (q : MethodName × Nat) : Prop := (q.1.cls ≠ "java/lang/invoke/MethodHandle" ∧ q.1.cls ≠ "java/lang/invoke/VarHandle") ∧ Cond.instantiable q.1.cls q.2 ∈ tables_1 ∧ Cond.privateMethod q.1 ∈ tables_1 ∧ Cond.instanceMethod q.1 ∈ tables_1
set_option maxRecDepth 100000
theorem lw_t1 {w : Cond} (h : w ∈ tables_1_1) : w ∈ tables_1 := List.mem_append_left _ h
theorem lw_t2 {w : Cond} (h : w ∈ tables_1_2) : w ∈ tables_1 := List.mem_append_right _ h
theorem lw_p0 : lw_okq (⟨"RcTwoDesk", "run", "(ZI)V"⟩, 3) := ⟨⟨by decide +kernel, by decide +kernel⟩, lw_t1 (List.mem_of_getElem? (i := 20) rfl), lw_t1 (List.mem_of_getElem? (i := 18) rfl), lw_t1 (List.mem_of_getElem? (i := 19) rfl)⟩
theorem lw_p1 : lw_okq (⟨"RC2Engine", "generateWorkingKey", "([BI)[I"⟩, 2) := ⟨⟨by decide +kernel, by decide +kernel⟩, lw_t1 (List.mem_of_getElem? (i := 26) rfl), lw_t1 (List.mem_of_getElem? (i := 81) rfl), lw_t1 (List.mem_of_getElem? (i := 82) rfl)⟩
theorem lw_p2 : lw_okq (⟨"java/lang/Throwable", "fillInStackTrace", "(I)Ljava/lang/Throwable;"⟩, 6) := ⟨⟨by decide +kernel, by decide +kernel⟩, lw_t1 (List.mem_of_getElem? (i := 128) rfl), lw_t1 (List.mem_of_getElem? (i := 126) rfl), lw_t1 (List.mem_of_getElem? (i := 127) rfl)⟩
theorem lw_p3 : lw_okq (⟨"RC2Engine", "encryptBlock", "([BI[BI)V"⟩, 2) := ⟨⟨by decide +kernel, by decide +kernel⟩, lw_t1 (List.mem_of_getElem? (i := 26) rfl), lw_t1 (List.mem_of_getElem? (i := 220) rfl), lw_t1 (List.mem_of_getElem? (i := 221) rfl)⟩
theorem lw_p4 : lw_okq (⟨"RC2Engine", "rotateWordLeft", "(II)I"⟩, 2) := ⟨⟨by decide +kernel, by decide +kernel⟩, lw_t1 (List.mem_of_getElem? (i := 26) rfl), lw_t1 (List.mem_of_getElem? (i := 224) rfl), lw_t1 (List.mem_of_getElem? (i := 225) rfl)⟩
theorem lw_p5 : lw_okq (⟨"RC2Engine", "decryptBlock", "([BI[BI)V"⟩, 2) := ⟨⟨by decide +kernel, by decide +kernel⟩, lw_t1 (List.mem_of_getElem? (i := 26) rfl), lw_t1 (List.mem_of_getElem? (i := 229) rfl), lw_t1 (List.mem_of_getElem? (i := 230) rfl)⟩
def lw_privs_1 : List (MethodName × Nat) := [(⟨"RcTwoDesk", "run", "(ZI)V"⟩, 3), (⟨"RC2Engine", "generateWorkingKey", "([BI)[I"⟩, 2), (⟨"java/lang/Throwable", "fillInStackTrace", "(I)Ljava/lang/Throwable;"⟩, 6), (⟨"RC2Engine", "encryptBlock", "([BI[BI)V"⟩, 2), (⟨"RC2Engine", "rotateWordLeft", "(II)I"⟩, 2), (⟨"RC2Engine", "decryptBlock", "([BI[BI)V"⟩, 2)]
theorem lw_r1 : ∀ q ∈ lw_privs_1, lw_okq q := List.forall_mem_cons.mpr ⟨lw_p0, List.forall_mem_cons.mpr ⟨lw_p1, List.forall_mem_cons.mpr ⟨lw_p2, List.forall_mem_cons.mpr ⟨lw_p3, List.forall_mem_cons.mpr ⟨lw_p4, List.forall_mem_cons.mpr ⟨lw_p5, fun _ h => absurd h List.not_mem_nil⟩⟩⟩⟩⟩⟩
def lw_privs : List (MethodName × Nat) := lw_privs_1
def lw_tbl : List Cond := k2_sels lw_privs ++ tables_1
theorem lw_privs_ok : ∀ q ∈ lw_privs, lw_okq q := lw_r1
-- ===== ONE list of words for every method: the tables' words that hold all through a run =====
def lw_all : List Cond := lw_tbl.filter goodWord
/-- a word of the tables by its place: claim/WORDS.tsv -/
theorem lw_w {w : Cond} (i : Nat) (h : lw_tbl[i]? = some w) (g : goodWord w = true) : w ∈ lw_all := List.mem_filter.mpr ⟨List.mem_of_getElem? h, g⟩
theorem lw_all_tbl {w : Cond} (h : w ∈ lw_all) : w ∈ lw_tbl := (List.mem_filter.mp h).1
theorem lw_self : GoodIn lw_all lw_all := fun w h => ⟨h, good_of_word (List.mem_filter.mp h).2⟩
/-- a class's field words, by their places -/
theorem lw_in (ws : List Cond) (ps : List Nat) (hp : ws = ps.filterMap (fun i => lw_tbl[i]?)) (hg : ws.all goodWord = true) : ∀ w ∈ ws, w ∈ lw_all := by
  intro w h
  have h1 := List.all_eq_true.mp hg w h
  rw [hp] at h
  obtain ⟨i, -, hi⟩ := List.mem_filterMap.mp h
  exact lw_w i hi h1
/-- the words of a contract for the method y with code b, L locals, answer r -/
abbrev ws_ (y : MethodName) (b : ByteArray) (L : Nat) (r : Option FieldType) : List Cond := Cond.code y b L r :: lw_all
theorem lw_meth {y : MethodName} {b : ByteArray} {L : Nat} {r : Option FieldType} (h : Cond.code y b L r ∈ lw_all) : GoodIn lw_all (ws_ y b L r) := by
  intro w hw
  rcases List.mem_cons.mp hw with e | e
  · rw [e]
    exact lw_self _ h
  · exact lw_self _ e
theorem lw_app {a c : List Cond} (ha : ∀ w ∈ a, w ∈ lw_all) (hc : GoodIn lw_all c) : GoodIn lw_all (a ++ c) := by
  intro w hw
  rcases List.mem_append.mp hw with e | e
  · exact lw_self w (ha w e)
  · exact hc w e
/-- what a call through an object asks: cwV n hts (lw_V ..) -/
theorem lw_V {own : String} {idx : Nat} {C : String} {y : MethodName} {b : ByteArray} {L : Nat} {r : Option FieldType} (h1 : Cond.methodLink own idx y ∈ lw_all) (h2 : Cond.instanceMethod y ∈ lw_all) (h3 : Cond.selects C y y ∈ lw_all) (h4 : Cond.initialized C ∈ lw_all) (h5 : Cond.code y b L r ∈ lw_all) : GoodIn lw_all (wsV own idx C y (ws_ y b L r)) := by
  refine lw_app ?_ (lw_meth h5)
  intro w hw
  simp only [List.mem_cons, List.not_mem_nil, or_false] at hw
  rcases hw with e | e | e | e
  · rw [e]; exact h1
  · rw [e]; exact h2
  · rw [e]; exact h3
  · rw [e]; exact h4
/-- what a static call asks: va_cwS n hts (lw_S ..) -/
theorem lw_S {own : String} {idx : Nat} {y : MethodName} {b : ByteArray} {L : Nat} {r : Option FieldType} (h1 : Cond.methodLink own idx y ∈ lw_all) (h2 : Cond.static y ∈ lw_all) (h3 : Cond.initialized y.cls ∈ lw_all) (h4 : Cond.code y b L r ∈ lw_all) : GoodIn lw_all (va_wsS own idx y (ws_ y b L r)) := by
  refine lw_app ?_ (lw_meth h4)
  intro w hw
  simp only [List.mem_cons, List.not_mem_nil, or_false] at hw
  rcases hw with e | e | e
  · rw [e]; exact h1
  · rw [e]; exact h2
  · rw [e]; exact h3
/-- the words of a contract for a method WITH HANDLERS (hh: its table) -/
abbrev wsW_ (y : MethodName) (b : ByteArray) (L : Nat) (r : Option FieldType) (hh : List (Nat × Nat × Nat × Nat)) : List Cond := Cond.codeWith y b L r hh :: lw_all
theorem lw_methW {y : MethodName} {b : ByteArray} {L : Nat} {r : Option FieldType} {hh : List (Nat × Nat × Nat × Nat)} (h : Cond.codeWith y b L r hh ∈ lw_all) : GoodIn lw_all (wsW_ y b L r hh) := by
  intro w hw
  rcases List.mem_cons.mp hw with e | e
  · rw [e]
    exact lw_self _ h
  · exact lw_self _ e
/-- any list of words by their places (lw_in), good -/
theorem lw_good {ws : List Cond} (h : ∀ w ∈ ws, w ∈ lw_all) : GoodIn lw_all ws := fun w hw => lw_self w (h w hw)
/-- what a call of a method with handlers asks: vx_cwVW n hts (lw_VW ..), vx_cwSW n hts (lw_SW ..) -/
theorem lw_VW {own : String} {idx : Nat} {C : String} {y : MethodName} {b : ByteArray} {L : Nat} {r : Option FieldType} {hh : List (Nat × Nat × Nat × Nat)} (h1 : Cond.methodLink own idx y ∈ lw_all) (h2 : Cond.instanceMethod y ∈ lw_all) (h3 : Cond.selects C y y ∈ lw_all) (h4 : Cond.initialized C ∈ lw_all) (h5 : Cond.codeWith y b L r hh ∈ lw_all) : GoodIn lw_all (wsV own idx C y (wsW_ y b L r hh)) := by
  refine lw_app ?_ (lw_methW h5)
  intro w hw
  simp only [List.mem_cons, List.not_mem_nil, or_false] at hw
  rcases hw with e | e | e | e
  · rw [e]; exact h1
  · rw [e]; exact h2
  · rw [e]; exact h3
  · rw [e]; exact h4
theorem lw_SW {own : String} {idx : Nat} {y : MethodName} {b : ByteArray} {L : Nat} {r : Option FieldType} {hh : List (Nat × Nat × Nat × Nat)} (h1 : Cond.methodLink own idx y ∈ lw_all) (h2 : Cond.static y ∈ lw_all) (h3 : Cond.initialized y.cls ∈ lw_all) (h4 : Cond.codeWith y b L r hh ∈ lw_all) : GoodIn lw_all (va_wsS own idx y (wsW_ y b L r hh)) := by
  refine lw_app ?_ (lw_methW h4)
  intro w hw
  simp only [List.mem_cons, List.not_mem_nil, or_false] at hw
  rcases hw with e | e | e
  · rw [e]; exact h1
  · rw [e]; exact h2
  · rw [e]; exact h3
/-- a word by its place in its run of the tables -/
theorem lw_at {r : List Cond} (hr : ∀ w ∈ r, w ∈ lw_tbl) {w : Cond} (i : Nat) (h : r[i]? = some w) : w ∈ lw_tbl := hr w (List.mem_of_getElem? h)
theorem lw_g {w : Cond} (h : w ∈ lw_tbl) (g : goodWord w = true) : w ∈ lw_all := List.mem_filter.mpr ⟨h, g⟩
theorem lw_ms : ∀ w ∈ k2_sels lw_privs, w ∈ lw_tbl := fun w h => show w ∈ k2_sels lw_privs ++ tables_1 from List.mem_append_left _ h
theorem lw_m1 : ∀ w ∈ tables_1_1, w ∈ lw_tbl := fun w h => show w ∈ k2_sels lw_privs ++ tables_1 from List.mem_append_right (k2_sels lw_privs) (show w ∈ tables_1 from List.mem_append_left _ h)
theorem lw_m2 : ∀ w ∈ tables_1_2, w ∈ lw_tbl := fun w h => show w ∈ k2_sels lw_privs ++ tables_1 from List.mem_append_right (k2_sels lw_privs) (show w ∈ tables_1 from List.mem_append_right _ h)
theorem qs0 : (Cond.selects "RcTwoDesk" ⟨"RcTwoDesk", "run", "(ZI)V"⟩ ⟨"RcTwoDesk", "run", "(ZI)V"⟩) ∈ lw_all := lw_g (lw_at lw_ms 0 rfl) rfl
theorem qs1 : (Cond.selects "RC2Engine" ⟨"RC2Engine", "generateWorkingKey", "([BI)[I"⟩ ⟨"RC2Engine", "generateWorkingKey", "([BI)[I"⟩) ∈ lw_all := lw_g (lw_at lw_ms 1 rfl) rfl
theorem qs2 : (Cond.selects "java/lang/Throwable" ⟨"java/lang/Throwable", "fillInStackTrace", "(I)Ljava/lang/Throwable;"⟩ ⟨"java/lang/Throwable", "fillInStackTrace", "(I)Ljava/lang/Throwable;"⟩) ∈ lw_all := lw_g (lw_at lw_ms 2 rfl) rfl
theorem qs3 : (Cond.selects "RC2Engine" ⟨"RC2Engine", "encryptBlock", "([BI[BI)V"⟩ ⟨"RC2Engine", "encryptBlock", "([BI[BI)V"⟩) ∈ lw_all := lw_g (lw_at lw_ms 3 rfl) rfl
theorem qs4 : (Cond.selects "RC2Engine" ⟨"RC2Engine", "rotateWordLeft", "(II)I"⟩ ⟨"RC2Engine", "rotateWordLeft", "(II)I"⟩) ∈ lw_all := lw_g (lw_at lw_ms 4 rfl) rfl
theorem qs5 : (Cond.selects "RC2Engine" ⟨"RC2Engine", "decryptBlock", "([BI[BI)V"⟩ ⟨"RC2Engine", "decryptBlock", "([BI[BI)V"⟩) ∈ lw_all := lw_g (lw_at lw_ms 5 rfl) rfl
-- ===== end of PART A; then your names; then what follows =====
end
section
/-! DECODE ROWS BY BYTES: one lemma an opcode; a method's code is cut into short pieces once, and a row reads its own piece alone. -/
set_option maxRecDepth 100000
/-- the code has just these bytes from pc on -/
def DkAt (code : ByteArray) (pc : Nat) (bs : List UInt8) : Prop := ∀ (j : Nat) (b : UInt8), bs[j]? = some b → code.data.toList[pc + j]? = some b
/-- the piece W has the bytes bs from its place j on -/
def dkIn (W : List UInt8) (j : Nat) (bs : List UInt8) : Bool := decide ((W.drop j).take bs.length = bs)
theorem dk_seg {l W T : List UInt8} {o o2 : Nat} (h : l.drop o = W ++ T) (n : Nat) (hn : W.length = n) (ho : o + n = o2) : l.drop o2 = T := by
  subst ho
  rw [← List.drop_drop, h, List.drop_left' hn]
theorem dk_at {code : ByteArray} {W T bs : List UInt8} {o pc : Nat} (h : code.data.toList.drop o = W ++ T) (j : Nat) (hp : o + j = pc) (hw : dkIn W j bs = true) : DkAt code pc bs := by
  subst hp
  intro i b e
  have h1 := of_decide_eq_true hw
  have h2 : i < bs.length := (List.getElem?_eq_some_iff.mp e).1
  have h3 : W[j + i]? = some b := by
    rw [← h1, List.getElem?_take, if_pos h2, List.getElem?_drop] at e
    exact e
  have h4 : j + i < W.length := (List.getElem?_eq_some_iff.mp h3).1
  have h5 : (code.data.toList.drop o)[j + i]? = some b := by
    rw [h, List.getElem?_append_left h4]
    exact h3
  rw [List.getElem?_drop, ← Nat.add_assoc] at h5
  exact h5
theorem dk_u1 {A : ByteArray} {p : Nat} {b : UInt8} (h : A.data.toList[p]? = some b) : (Reader.u1 : Reader DecodeError Nat) A p = .ok (b.toNat, p + 1) := by
  obtain ⟨h1, h2⟩ := List.getElem?_eq_some_iff.mp h
  have h3 : p < A.size := by simpa using h1
  have h4 : A[p]'h3 = b := h2
  have e : (Reader.u1 : Reader DecodeError Nat) A p = (if h : p < A.size then .ok (A[p].toNat, p + 1) else .error (HasTruncated.truncated p)) := by
    show (do if h : p < A.size then do set (p + 1); Pure.pure A[p].toNat else MonadExcept.throw (HasTruncated.truncated p) : Reader DecodeError Nat) A p = _
    by_cases hi : p < A.size
    · rw [dif_pos hi, dif_pos hi]; rfl
    · rw [dif_neg hi, dif_neg hi]; rfl
  rw [e, dif_pos h3, h4]
theorem dk_bind {α β : Type} {r : Reader DecodeError α} {f : α → Reader DecodeError β} {A : ByteArray} {p s : Nat} {a : α} (h : r A p = .ok (a, s)) : (r >>= f) A p = f a A s := by
  show (do let (a, s) ← r A p; f a A s : Except DecodeError (β × Nat)) = _
  rw [h]
  rfl
theorem dk_map {α β : Type} {r : Reader DecodeError α} {g : α → β} {A : ByteArray} {p s : Nat} {a : α} (h : r A p = .ok (a, s)) : (g <$> r) A p = .ok (g a, s) := by
  show (do let (a, s) ← r A p; .ok (g a, s) : Except DecodeError (β × Nat)) = _
  rw [h]
  rfl
theorem dk_u2 {A : ByteArray} {p : Nat} {a b : UInt8} (h : A.data.toList[p]? = some a) (h2 : A.data.toList[p + 1]? = some b) : (Reader.u2 : Reader DecodeError Nat) A p = .ok (a.toNat * 256 + b.toNat, p + 2) := by
  show (Reader.u1 >>= fun hi => Reader.u1 >>= fun lo => Pure.pure (hi * 256 + lo) : Reader DecodeError Nat) A p = _
  rw [dk_bind (dk_u1 h), dk_bind (dk_u1 h2)]
  rfl
theorem dk_of {code : ByteArray} {pc n : Nat} {i : Instr} (h : Decoder.instr pc code pc = .ok (i, pc + n)) : decode code pc = .ok (i, n) := by
  have e : decode code pc = (match Decoder.instr pc code pc with | .error x => .error x | .ok (j, s) => .ok (j, s - pc)) := by
    show (do let (j, s) ← Decoder.instr pc code pc; Pure.pure (j, s - pc) : Except DecodeError (Instr × Nat)) = _
    cases Decoder.instr pc code pc <;> rfl
  rw [e, h]
  show Except.ok (i, pc + n - pc) = _
  rw [Nat.add_sub_cancel_left]
theorem dk_2 {code : ByteArray} {pc : Nat} (h : DkAt code pc [2]) : decode code pc = .ok (.iconst (-1), 1) := dk_of ((dk_bind (dk_u1 (h 0 _ rfl))).trans rfl)
theorem dk_3 {code : ByteArray} {pc : Nat} (h : DkAt code pc [3]) : decode code pc = .ok (.iconst 0, 1) := dk_of ((dk_bind (dk_u1 (h 0 _ rfl))).trans rfl)
theorem dk_4 {code : ByteArray} {pc : Nat} (h : DkAt code pc [4]) : decode code pc = .ok (.iconst 1, 1) := dk_of ((dk_bind (dk_u1 (h 0 _ rfl))).trans rfl)
theorem dk_5 {code : ByteArray} {pc : Nat} (h : DkAt code pc [5]) : decode code pc = .ok (.iconst 2, 1) := dk_of ((dk_bind (dk_u1 (h 0 _ rfl))).trans rfl)
theorem dk_6 {code : ByteArray} {pc : Nat} (h : DkAt code pc [6]) : decode code pc = .ok (.iconst 3, 1) := dk_of ((dk_bind (dk_u1 (h 0 _ rfl))).trans rfl)
theorem dk_7 {code : ByteArray} {pc : Nat} (h : DkAt code pc [7]) : decode code pc = .ok (.iconst 4, 1) := dk_of ((dk_bind (dk_u1 (h 0 _ rfl))).trans rfl)
theorem dk_8 {code : ByteArray} {pc : Nat} (h : DkAt code pc [8]) : decode code pc = .ok (.iconst 5, 1) := dk_of ((dk_bind (dk_u1 (h 0 _ rfl))).trans rfl)
theorem dk_16 {code : ByteArray} {pc : Nat} (a : UInt8) (h : DkAt code pc [16, a]) : decode code pc = .ok (.bipush (Reader.signed 8 a.toNat), 2) := dk_of ((dk_bind (dk_u1 (h 0 _ rfl))).trans ((dk_bind (dk_map (dk_u1 (h 1 _ rfl)))).trans rfl))
theorem dk_17 {code : ByteArray} {pc : Nat} (a b : UInt8) (h : DkAt code pc [17, a, b]) : decode code pc = .ok (.sipush (Reader.signed 16 (a.toNat * 256 + b.toNat)), 3) := dk_of ((dk_bind (dk_u1 (h 0 _ rfl))).trans ((dk_bind (dk_map (dk_u2 (h 1 _ rfl) (h 2 _ rfl)))).trans rfl))
theorem dk_18 {code : ByteArray} {pc : Nat} (a : UInt8) (h : DkAt code pc [18, a]) : decode code pc = .ok (.ldc a.toNat, 2) := dk_of ((dk_bind (dk_u1 (h 0 _ rfl))).trans ((dk_bind (dk_u1 (h 1 _ rfl))).trans rfl))
theorem dk_21 {code : ByteArray} {pc : Nat} (a : UInt8) (h : DkAt code pc [21, a]) : decode code pc = .ok (.iload a.toNat, 2) := dk_of ((dk_bind (dk_u1 (h 0 _ rfl))).trans ((dk_bind (dk_u1 (h 1 _ rfl))).trans rfl))
theorem dk_25 {code : ByteArray} {pc : Nat} (a : UInt8) (h : DkAt code pc [25, a]) : decode code pc = .ok (.aload a.toNat, 2) := dk_of ((dk_bind (dk_u1 (h 0 _ rfl))).trans ((dk_bind (dk_u1 (h 1 _ rfl))).trans rfl))
theorem dk_27 {code : ByteArray} {pc : Nat} (h : DkAt code pc [27]) : decode code pc = .ok (.iload_n 1, 1) := dk_of ((dk_bind (dk_u1 (h 0 _ rfl))).trans rfl)
theorem dk_28 {code : ByteArray} {pc : Nat} (h : DkAt code pc [28]) : decode code pc = .ok (.iload_n 2, 1) := dk_of ((dk_bind (dk_u1 (h 0 _ rfl))).trans rfl)
theorem dk_29 {code : ByteArray} {pc : Nat} (h : DkAt code pc [29]) : decode code pc = .ok (.iload_n 3, 1) := dk_of ((dk_bind (dk_u1 (h 0 _ rfl))).trans rfl)
theorem dk_42 {code : ByteArray} {pc : Nat} (h : DkAt code pc [42]) : decode code pc = .ok (.aload_n 0, 1) := dk_of ((dk_bind (dk_u1 (h 0 _ rfl))).trans rfl)
theorem dk_43 {code : ByteArray} {pc : Nat} (h : DkAt code pc [43]) : decode code pc = .ok (.aload_n 1, 1) := dk_of ((dk_bind (dk_u1 (h 0 _ rfl))).trans rfl)
theorem dk_44 {code : ByteArray} {pc : Nat} (h : DkAt code pc [44]) : decode code pc = .ok (.aload_n 2, 1) := dk_of ((dk_bind (dk_u1 (h 0 _ rfl))).trans rfl)
theorem dk_45 {code : ByteArray} {pc : Nat} (h : DkAt code pc [45]) : decode code pc = .ok (.aload_n 3, 1) := dk_of ((dk_bind (dk_u1 (h 0 _ rfl))).trans rfl)
theorem dk_46 {code : ByteArray} {pc : Nat} (h : DkAt code pc [46]) : decode code pc = .ok (.iaload, 1) := dk_of ((dk_bind (dk_u1 (h 0 _ rfl))).trans rfl)
theorem dk_51 {code : ByteArray} {pc : Nat} (h : DkAt code pc [51]) : decode code pc = .ok (.baload, 1) := dk_of ((dk_bind (dk_u1 (h 0 _ rfl))).trans rfl)
theorem dk_54 {code : ByteArray} {pc : Nat} (a : UInt8) (h : DkAt code pc [54, a]) : decode code pc = .ok (.istore a.toNat, 2) := dk_of ((dk_bind (dk_u1 (h 0 _ rfl))).trans ((dk_bind (dk_u1 (h 1 _ rfl))).trans rfl))
theorem dk_58 {code : ByteArray} {pc : Nat} (a : UInt8) (h : DkAt code pc [58, a]) : decode code pc = .ok (.astore a.toNat, 2) := dk_of ((dk_bind (dk_u1 (h 0 _ rfl))).trans ((dk_bind (dk_u1 (h 1 _ rfl))).trans rfl))
theorem dk_60 {code : ByteArray} {pc : Nat} (h : DkAt code pc [60]) : decode code pc = .ok (.istore_n 1, 1) := dk_of ((dk_bind (dk_u1 (h 0 _ rfl))).trans rfl)
theorem dk_61 {code : ByteArray} {pc : Nat} (h : DkAt code pc [61]) : decode code pc = .ok (.istore_n 2, 1) := dk_of ((dk_bind (dk_u1 (h 0 _ rfl))).trans rfl)
theorem dk_62 {code : ByteArray} {pc : Nat} (h : DkAt code pc [62]) : decode code pc = .ok (.istore_n 3, 1) := dk_of ((dk_bind (dk_u1 (h 0 _ rfl))).trans rfl)
theorem dk_75 {code : ByteArray} {pc : Nat} (h : DkAt code pc [75]) : decode code pc = .ok (.astore_n 0, 1) := dk_of ((dk_bind (dk_u1 (h 0 _ rfl))).trans rfl)
theorem dk_76 {code : ByteArray} {pc : Nat} (h : DkAt code pc [76]) : decode code pc = .ok (.astore_n 1, 1) := dk_of ((dk_bind (dk_u1 (h 0 _ rfl))).trans rfl)
theorem dk_77 {code : ByteArray} {pc : Nat} (h : DkAt code pc [77]) : decode code pc = .ok (.astore_n 2, 1) := dk_of ((dk_bind (dk_u1 (h 0 _ rfl))).trans rfl)
theorem dk_78 {code : ByteArray} {pc : Nat} (h : DkAt code pc [78]) : decode code pc = .ok (.astore_n 3, 1) := dk_of ((dk_bind (dk_u1 (h 0 _ rfl))).trans rfl)
theorem dk_79 {code : ByteArray} {pc : Nat} (h : DkAt code pc [79]) : decode code pc = .ok (.iastore, 1) := dk_of ((dk_bind (dk_u1 (h 0 _ rfl))).trans rfl)
theorem dk_84 {code : ByteArray} {pc : Nat} (h : DkAt code pc [84]) : decode code pc = .ok (.bastore, 1) := dk_of ((dk_bind (dk_u1 (h 0 _ rfl))).trans rfl)
theorem dk_87 {code : ByteArray} {pc : Nat} (h : DkAt code pc [87]) : decode code pc = .ok (.pop, 1) := dk_of ((dk_bind (dk_u1 (h 0 _ rfl))).trans rfl)
theorem dk_89 {code : ByteArray} {pc : Nat} (h : DkAt code pc [89]) : decode code pc = .ok (.dup, 1) := dk_of ((dk_bind (dk_u1 (h 0 _ rfl))).trans rfl)
theorem dk_96 {code : ByteArray} {pc : Nat} (h : DkAt code pc [96]) : decode code pc = .ok (.iadd, 1) := dk_of ((dk_bind (dk_u1 (h 0 _ rfl))).trans rfl)
theorem dk_100 {code : ByteArray} {pc : Nat} (h : DkAt code pc [100]) : decode code pc = .ok (.isub, 1) := dk_of ((dk_bind (dk_u1 (h 0 _ rfl))).trans rfl)
theorem dk_104 {code : ByteArray} {pc : Nat} (h : DkAt code pc [104]) : decode code pc = .ok (.imul, 1) := dk_of ((dk_bind (dk_u1 (h 0 _ rfl))).trans rfl)
theorem dk_108 {code : ByteArray} {pc : Nat} (h : DkAt code pc [108]) : decode code pc = .ok (.idiv, 1) := dk_of ((dk_bind (dk_u1 (h 0 _ rfl))).trans rfl)
theorem dk_112 {code : ByteArray} {pc : Nat} (h : DkAt code pc [112]) : decode code pc = .ok (.irem, 1) := dk_of ((dk_bind (dk_u1 (h 0 _ rfl))).trans rfl)
theorem dk_116 {code : ByteArray} {pc : Nat} (h : DkAt code pc [116]) : decode code pc = .ok (.ineg, 1) := dk_of ((dk_bind (dk_u1 (h 0 _ rfl))).trans rfl)
theorem dk_120 {code : ByteArray} {pc : Nat} (h : DkAt code pc [120]) : decode code pc = .ok (.ishl, 1) := dk_of ((dk_bind (dk_u1 (h 0 _ rfl))).trans rfl)
theorem dk_122 {code : ByteArray} {pc : Nat} (h : DkAt code pc [122]) : decode code pc = .ok (.ishr, 1) := dk_of ((dk_bind (dk_u1 (h 0 _ rfl))).trans rfl)
theorem dk_124 {code : ByteArray} {pc : Nat} (h : DkAt code pc [124]) : decode code pc = .ok (.iushr, 1) := dk_of ((dk_bind (dk_u1 (h 0 _ rfl))).trans rfl)
theorem dk_126 {code : ByteArray} {pc : Nat} (h : DkAt code pc [126]) : decode code pc = .ok (.iand, 1) := dk_of ((dk_bind (dk_u1 (h 0 _ rfl))).trans rfl)
theorem dk_128 {code : ByteArray} {pc : Nat} (h : DkAt code pc [128]) : decode code pc = .ok (.ior, 1) := dk_of ((dk_bind (dk_u1 (h 0 _ rfl))).trans rfl)
theorem dk_130 {code : ByteArray} {pc : Nat} (h : DkAt code pc [130]) : decode code pc = .ok (.ixor, 1) := dk_of ((dk_bind (dk_u1 (h 0 _ rfl))).trans rfl)
theorem dk_132 {code : ByteArray} {pc : Nat} (a b : UInt8) (h : DkAt code pc [132, a, b]) : decode code pc = .ok (.iinc a.toNat (Reader.signed 8 b.toNat), 3) := dk_of ((dk_bind (dk_u1 (h 0 _ rfl))).trans ((dk_bind (dk_u1 (h 1 _ rfl))).trans ((dk_bind (dk_map (dk_u1 (h 2 _ rfl)))).trans rfl)))
theorem dk_145 {code : ByteArray} {pc : Nat} (h : DkAt code pc [145]) : decode code pc = .ok (.i2b, 1) := dk_of ((dk_bind (dk_u1 (h 0 _ rfl))).trans rfl)
theorem dk_153 {code : ByteArray} {pc : Nat} (a b : UInt8) (h : DkAt code pc [153, a, b]) : decode code pc = .ok (.ifCond .eq (Reader.signed 16 (a.toNat * 256 + b.toNat)), 3) := dk_of ((dk_bind (dk_u1 (h 0 _ rfl))).trans ((dk_bind (dk_map (dk_u2 (h 1 _ rfl) (h 2 _ rfl)))).trans rfl))
theorem dk_154 {code : ByteArray} {pc : Nat} (a b : UInt8) (h : DkAt code pc [154, a, b]) : decode code pc = .ok (.ifCond .ne (Reader.signed 16 (a.toNat * 256 + b.toNat)), 3) := dk_of ((dk_bind (dk_u1 (h 0 _ rfl))).trans ((dk_bind (dk_map (dk_u2 (h 1 _ rfl) (h 2 _ rfl)))).trans rfl))
theorem dk_155 {code : ByteArray} {pc : Nat} (a b : UInt8) (h : DkAt code pc [155, a, b]) : decode code pc = .ok (.ifCond .lt (Reader.signed 16 (a.toNat * 256 + b.toNat)), 3) := dk_of ((dk_bind (dk_u1 (h 0 _ rfl))).trans ((dk_bind (dk_map (dk_u2 (h 1 _ rfl) (h 2 _ rfl)))).trans rfl))
theorem dk_159 {code : ByteArray} {pc : Nat} (a b : UInt8) (h : DkAt code pc [159, a, b]) : decode code pc = .ok (.if_icmp .eq (Reader.signed 16 (a.toNat * 256 + b.toNat)), 3) := dk_of ((dk_bind (dk_u1 (h 0 _ rfl))).trans ((dk_bind (dk_map (dk_u2 (h 1 _ rfl) (h 2 _ rfl)))).trans rfl))
theorem dk_161 {code : ByteArray} {pc : Nat} (a b : UInt8) (h : DkAt code pc [161, a, b]) : decode code pc = .ok (.if_icmp .lt (Reader.signed 16 (a.toNat * 256 + b.toNat)), 3) := dk_of ((dk_bind (dk_u1 (h 0 _ rfl))).trans ((dk_bind (dk_map (dk_u2 (h 1 _ rfl) (h 2 _ rfl)))).trans rfl))
theorem dk_162 {code : ByteArray} {pc : Nat} (a b : UInt8) (h : DkAt code pc [162, a, b]) : decode code pc = .ok (.if_icmp .ge (Reader.signed 16 (a.toNat * 256 + b.toNat)), 3) := dk_of ((dk_bind (dk_u1 (h 0 _ rfl))).trans ((dk_bind (dk_map (dk_u2 (h 1 _ rfl) (h 2 _ rfl)))).trans rfl))
theorem dk_163 {code : ByteArray} {pc : Nat} (a b : UInt8) (h : DkAt code pc [163, a, b]) : decode code pc = .ok (.if_icmp .gt (Reader.signed 16 (a.toNat * 256 + b.toNat)), 3) := dk_of ((dk_bind (dk_u1 (h 0 _ rfl))).trans ((dk_bind (dk_map (dk_u2 (h 1 _ rfl) (h 2 _ rfl)))).trans rfl))
theorem dk_164 {code : ByteArray} {pc : Nat} (a b : UInt8) (h : DkAt code pc [164, a, b]) : decode code pc = .ok (.if_icmp .le (Reader.signed 16 (a.toNat * 256 + b.toNat)), 3) := dk_of ((dk_bind (dk_u1 (h 0 _ rfl))).trans ((dk_bind (dk_map (dk_u2 (h 1 _ rfl) (h 2 _ rfl)))).trans rfl))
theorem dk_167 {code : ByteArray} {pc : Nat} (a b : UInt8) (h : DkAt code pc [167, a, b]) : decode code pc = .ok (.goto (Reader.signed 16 (a.toNat * 256 + b.toNat)), 3) := dk_of ((dk_bind (dk_u1 (h 0 _ rfl))).trans ((dk_bind (dk_map (dk_u2 (h 1 _ rfl) (h 2 _ rfl)))).trans rfl))
theorem dk_172 {code : ByteArray} {pc : Nat} (h : DkAt code pc [172]) : decode code pc = .ok (.ireturn, 1) := dk_of ((dk_bind (dk_u1 (h 0 _ rfl))).trans rfl)
theorem dk_176 {code : ByteArray} {pc : Nat} (h : DkAt code pc [176]) : decode code pc = .ok (.areturn, 1) := dk_of ((dk_bind (dk_u1 (h 0 _ rfl))).trans rfl)
theorem dk_177 {code : ByteArray} {pc : Nat} (h : DkAt code pc [177]) : decode code pc = .ok (.return_, 1) := dk_of ((dk_bind (dk_u1 (h 0 _ rfl))).trans rfl)
theorem dk_178 {code : ByteArray} {pc : Nat} (a b : UInt8) (h : DkAt code pc [178, a, b]) : decode code pc = .ok (.getstatic (a.toNat * 256 + b.toNat), 3) := dk_of ((dk_bind (dk_u1 (h 0 _ rfl))).trans ((dk_bind (dk_u2 (h 1 _ rfl) (h 2 _ rfl))).trans rfl))
theorem dk_180 {code : ByteArray} {pc : Nat} (a b : UInt8) (h : DkAt code pc [180, a, b]) : decode code pc = .ok (.getfield (a.toNat * 256 + b.toNat), 3) := dk_of ((dk_bind (dk_u1 (h 0 _ rfl))).trans ((dk_bind (dk_u2 (h 1 _ rfl) (h 2 _ rfl))).trans rfl))
theorem dk_181 {code : ByteArray} {pc : Nat} (a b : UInt8) (h : DkAt code pc [181, a, b]) : decode code pc = .ok (.putfield (a.toNat * 256 + b.toNat), 3) := dk_of ((dk_bind (dk_u1 (h 0 _ rfl))).trans ((dk_bind (dk_u2 (h 1 _ rfl) (h 2 _ rfl))).trans rfl))
theorem dk_182 {code : ByteArray} {pc : Nat} (a b : UInt8) (h : DkAt code pc [182, a, b]) : decode code pc = .ok (.invokevirtual (a.toNat * 256 + b.toNat), 3) := dk_of ((dk_bind (dk_u1 (h 0 _ rfl))).trans ((dk_bind (dk_u2 (h 1 _ rfl) (h 2 _ rfl))).trans rfl))
theorem dk_183 {code : ByteArray} {pc : Nat} (a b : UInt8) (h : DkAt code pc [183, a, b]) : decode code pc = .ok (.invokespecial (a.toNat * 256 + b.toNat), 3) := dk_of ((dk_bind (dk_u1 (h 0 _ rfl))).trans ((dk_bind (dk_u2 (h 1 _ rfl) (h 2 _ rfl))).trans rfl))
theorem dk_184 {code : ByteArray} {pc : Nat} (a b : UInt8) (h : DkAt code pc [184, a, b]) : decode code pc = .ok (.invokestatic (a.toNat * 256 + b.toNat), 3) := dk_of ((dk_bind (dk_u1 (h 0 _ rfl))).trans ((dk_bind (dk_u2 (h 1 _ rfl) (h 2 _ rfl))).trans rfl))
theorem dk_187 {code : ByteArray} {pc : Nat} (a b : UInt8) (h : DkAt code pc [187, a, b]) : decode code pc = .ok (.new (a.toNat * 256 + b.toNat), 3) := dk_of ((dk_bind (dk_u1 (h 0 _ rfl))).trans ((dk_bind (dk_u2 (h 1 _ rfl) (h 2 _ rfl))).trans rfl))
theorem dk_188_8 {code : ByteArray} {pc : Nat} (h : DkAt code pc [188, 8]) : decode code pc = .ok (.newarray .byte, 2) := dk_of ((dk_bind (dk_u1 (h 0 _ rfl))).trans ((dk_bind (dk_u1 (h 1 _ rfl))).trans rfl))
theorem dk_188_10 {code : ByteArray} {pc : Nat} (h : DkAt code pc [188, 10]) : decode code pc = .ok (.newarray .int, 2) := dk_of ((dk_bind (dk_u1 (h 0 _ rfl))).trans ((dk_bind (dk_u1 (h 1 _ rfl))).trans rfl))
theorem dk_190 {code : ByteArray} {pc : Nat} (h : DkAt code pc [190]) : decode code pc = .ok (.arraylength, 1) := dk_of ((dk_bind (dk_u1 (h 0 _ rfl))).trans rfl)
theorem dk_191 {code : ByteArray} {pc : Nat} (h : DkAt code pc [191]) : decode code pc = .ok (.athrow, 1) := dk_of ((dk_bind (dk_u1 (h 0 _ rfl))).trans rfl)
theorem dk_192 {code : ByteArray} {pc : Nat} (a b : UInt8) (h : DkAt code pc [192, a, b]) : decode code pc = .ok (.checkcast (a.toNat * 256 + b.toNat), 3) := dk_of ((dk_bind (dk_u1 (h 0 _ rfl))).trans ((dk_bind (dk_u2 (h 1 _ rfl) (h 2 _ rfl))).trans rfl))
theorem dk_193 {code : ByteArray} {pc : Nat} (a b : UInt8) (h : DkAt code pc [193, a, b]) : decode code pc = .ok (.instanceof (a.toNat * 256 + b.toNat), 3) := dk_of ((dk_bind (dk_u1 (h 0 _ rfl))).trans ((dk_bind (dk_u2 (h 1 _ rfl) (h 2 _ rfl))).trans rfl))
theorem dk_199 {code : ByteArray} {pc : Nat} (a b : UInt8) (h : DkAt code pc [199, a, b]) : decode code pc = .ok (.ifnonnull (Reader.signed 16 (a.toNat * 256 + b.toNat)), 3) := dk_of ((dk_bind (dk_u1 (h 0 _ rfl))).trans ((dk_bind (dk_map (dk_u2 (h 1 _ rfl) (h 2 _ rfl)))).trans rfl))
/-! RcTwoDeskLaw -/
set_option maxRecDepth 100000
def RX0 : String := "RcTwoDeskLaw"
abbrev cX0_with : ByteArray := method_3_code
def yX0_with : MethodName := ⟨RX0, "with", "([I)LRcTwoDesk;"⟩
def dkwX0_with_3 : List UInt8 := [184, 0, 10, 182, 0, 20, 43, 176]
abbrev dktX0_with_3 : List UInt8 := dkwX0_with_3 ++ []
def dkwX0_with_2 : List UInt8 := [16, 6, 184, 0, 10, 42, 16, 7, 184, 0, 10, 182, 0, 16, 43, 42, 16, 8, 184, 0, 10, 42, 16, 9]
abbrev dktX0_with_2 : List UInt8 := dkwX0_with_2 ++ dktX0_with_3
def dkwX0_with_1 : List UInt8 := [184, 0, 10, 42, 6, 184, 0, 10, 182, 0, 16, 43, 4, 42, 7, 184, 0, 10, 42, 8, 184, 0, 10, 42]
abbrev dktX0_with_1 : List UInt8 := dkwX0_with_1 ++ dktX0_with_2
def dkwX0_with_0 : List UInt8 := [187, 0, 7, 89, 183, 0, 9, 76, 43, 3, 42, 3, 184, 0, 10, 42, 4, 184, 0, 10, 42, 5]
abbrev dktX0_with_0 : List UInt8 := dkwX0_with_0 ++ dktX0_with_1
theorem dksX0_with_0 : cX0_with.data.toList.drop 0 = dktX0_with_0 := by decide +kernel
theorem dksX0_with_1 : cX0_with.data.toList.drop 22 = dktX0_with_1 := dk_seg dksX0_with_0 22 rfl rfl
theorem dksX0_with_2 : cX0_with.data.toList.drop 46 = dktX0_with_2 := dk_seg dksX0_with_1 24 rfl rfl
theorem dksX0_with_3 : cX0_with.data.toList.drop 70 = dktX0_with_3 := dk_seg dksX0_with_2 24 rfl rfl
theorem dX0_with_0 : decode cX0_with 0 = .ok (.new 7, 3) := dk_187 0 7 (dk_at dksX0_with_0 0 rfl rfl)
theorem dX0_with_3 : decode cX0_with 3 = .ok (.dup, 1) := dk_89 (dk_at dksX0_with_0 3 rfl rfl)
theorem dX0_with_4 : decode cX0_with 4 = .ok (.invokespecial 9, 3) := dk_183 0 9 (dk_at dksX0_with_0 4 rfl rfl)
theorem dX0_with_7 : decode cX0_with 7 = .ok (.astore_n 1, 1) := dk_76 (dk_at dksX0_with_0 7 rfl rfl)
theorem dX0_with_8 : decode cX0_with 8 = .ok (.aload_n 1, 1) := dk_43 (dk_at dksX0_with_0 8 rfl rfl)
theorem dX0_with_9 : decode cX0_with 9 = .ok (.iconst 0, 1) := dk_3 (dk_at dksX0_with_0 9 rfl rfl)
theorem dX0_with_10 : decode cX0_with 10 = .ok (.aload_n 0, 1) := dk_42 (dk_at dksX0_with_0 10 rfl rfl)
theorem dX0_with_11 : decode cX0_with 11 = .ok (.iconst 0, 1) := dk_3 (dk_at dksX0_with_0 11 rfl rfl)
theorem dX0_with_12 : decode cX0_with 12 = .ok (.invokestatic 10, 3) := dk_184 0 10 (dk_at dksX0_with_0 12 rfl rfl)
theorem dX0_with_15 : decode cX0_with 15 = .ok (.aload_n 0, 1) := dk_42 (dk_at dksX0_with_0 15 rfl rfl)
theorem dX0_with_16 : decode cX0_with 16 = .ok (.iconst 1, 1) := dk_4 (dk_at dksX0_with_0 16 rfl rfl)
theorem dX0_with_17 : decode cX0_with 17 = .ok (.invokestatic 10, 3) := dk_184 0 10 (dk_at dksX0_with_0 17 rfl rfl)
theorem dX0_with_20 : decode cX0_with 20 = .ok (.aload_n 0, 1) := dk_42 (dk_at dksX0_with_0 20 rfl rfl)
theorem dX0_with_21 : decode cX0_with 21 = .ok (.iconst 2, 1) := dk_5 (dk_at dksX0_with_0 21 rfl rfl)
theorem dX0_with_22 : decode cX0_with 22 = .ok (.invokestatic 10, 3) := dk_184 0 10 (dk_at dksX0_with_1 0 rfl rfl)
theorem dX0_with_25 : decode cX0_with 25 = .ok (.aload_n 0, 1) := dk_42 (dk_at dksX0_with_1 3 rfl rfl)
theorem dX0_with_26 : decode cX0_with 26 = .ok (.iconst 3, 1) := dk_6 (dk_at dksX0_with_1 4 rfl rfl)
theorem dX0_with_27 : decode cX0_with 27 = .ok (.invokestatic 10, 3) := dk_184 0 10 (dk_at dksX0_with_1 5 rfl rfl)
theorem dX0_with_30 : decode cX0_with 30 = .ok (.invokevirtual 16, 3) := dk_182 0 16 (dk_at dksX0_with_1 8 rfl rfl)
theorem dX0_with_33 : decode cX0_with 33 = .ok (.aload_n 1, 1) := dk_43 (dk_at dksX0_with_1 11 rfl rfl)
theorem dX0_with_34 : decode cX0_with 34 = .ok (.iconst 1, 1) := dk_4 (dk_at dksX0_with_1 12 rfl rfl)
theorem dX0_with_35 : decode cX0_with 35 = .ok (.aload_n 0, 1) := dk_42 (dk_at dksX0_with_1 13 rfl rfl)
theorem dX0_with_36 : decode cX0_with 36 = .ok (.iconst 4, 1) := dk_7 (dk_at dksX0_with_1 14 rfl rfl)
theorem dX0_with_37 : decode cX0_with 37 = .ok (.invokestatic 10, 3) := dk_184 0 10 (dk_at dksX0_with_1 15 rfl rfl)
theorem dX0_with_40 : decode cX0_with 40 = .ok (.aload_n 0, 1) := dk_42 (dk_at dksX0_with_1 18 rfl rfl)
theorem dX0_with_41 : decode cX0_with 41 = .ok (.iconst 5, 1) := dk_8 (dk_at dksX0_with_1 19 rfl rfl)
theorem dX0_with_42 : decode cX0_with 42 = .ok (.invokestatic 10, 3) := dk_184 0 10 (dk_at dksX0_with_1 20 rfl rfl)
theorem dX0_with_45 : decode cX0_with 45 = .ok (.aload_n 0, 1) := dk_42 (dk_at dksX0_with_1 23 rfl rfl)
theorem dX0_with_46 : decode cX0_with 46 = .ok (.bipush 6, 2) := dk_16 6 (dk_at dksX0_with_2 0 rfl rfl)
theorem dX0_with_48 : decode cX0_with 48 = .ok (.invokestatic 10, 3) := dk_184 0 10 (dk_at dksX0_with_2 2 rfl rfl)
theorem dX0_with_51 : decode cX0_with 51 = .ok (.aload_n 0, 1) := dk_42 (dk_at dksX0_with_2 5 rfl rfl)
theorem dX0_with_52 : decode cX0_with 52 = .ok (.bipush 7, 2) := dk_16 7 (dk_at dksX0_with_2 6 rfl rfl)
theorem dX0_with_54 : decode cX0_with 54 = .ok (.invokestatic 10, 3) := dk_184 0 10 (dk_at dksX0_with_2 8 rfl rfl)
theorem dX0_with_57 : decode cX0_with 57 = .ok (.invokevirtual 16, 3) := dk_182 0 16 (dk_at dksX0_with_2 11 rfl rfl)
theorem dX0_with_60 : decode cX0_with 60 = .ok (.aload_n 1, 1) := dk_43 (dk_at dksX0_with_2 14 rfl rfl)
theorem dX0_with_61 : decode cX0_with 61 = .ok (.aload_n 0, 1) := dk_42 (dk_at dksX0_with_2 15 rfl rfl)
theorem dX0_with_62 : decode cX0_with 62 = .ok (.bipush 8, 2) := dk_16 8 (dk_at dksX0_with_2 16 rfl rfl)
theorem dX0_with_64 : decode cX0_with 64 = .ok (.invokestatic 10, 3) := dk_184 0 10 (dk_at dksX0_with_2 18 rfl rfl)
theorem dX0_with_67 : decode cX0_with 67 = .ok (.aload_n 0, 1) := dk_42 (dk_at dksX0_with_2 21 rfl rfl)
theorem dX0_with_68 : decode cX0_with 68 = .ok (.bipush 9, 2) := dk_16 9 (dk_at dksX0_with_2 22 rfl rfl)
theorem dX0_with_70 : decode cX0_with 70 = .ok (.invokestatic 10, 3) := dk_184 0 10 (dk_at dksX0_with_3 0 rfl rfl)
theorem dX0_with_73 : decode cX0_with 73 = .ok (.invokevirtual 20, 3) := dk_182 0 20 (dk_at dksX0_with_3 3 rfl rfl)
theorem dX0_with_76 : decode cX0_with 76 = .ok (.aload_n 1, 1) := dk_43 (dk_at dksX0_with_3 6 rfl rfl)
theorem dX0_with_77 : decode cX0_with 77 = .ok (.areturn, 1) := dk_176 (dk_at dksX0_with_3 7 rfl rfl)
abbrev cX0_cell : ByteArray := method_2_code
def yX0_cell : MethodName := ⟨RX0, "cell", "([II)I"⟩
def dkwX0_cell_0 : List UInt8 := [27, 42, 190, 162, 0, 9, 42, 27, 46, 167, 0, 4, 3, 172]
abbrev dktX0_cell_0 : List UInt8 := dkwX0_cell_0 ++ []
theorem dksX0_cell_0 : cX0_cell.data.toList.drop 0 = dktX0_cell_0 := by decide +kernel
theorem dX0_cell_0 : decode cX0_cell 0 = .ok (.iload_n 1, 1) := dk_27 (dk_at dksX0_cell_0 0 rfl rfl)
theorem dX0_cell_1 : decode cX0_cell 1 = .ok (.aload_n 0, 1) := dk_42 (dk_at dksX0_cell_0 1 rfl rfl)
theorem dX0_cell_2 : decode cX0_cell 2 = .ok (.arraylength, 1) := dk_190 (dk_at dksX0_cell_0 2 rfl rfl)
theorem dX0_cell_3 : decode cX0_cell 3 = .ok (.if_icmp .ge 9, 3) := dk_162 0 9 (dk_at dksX0_cell_0 3 rfl rfl)
theorem dX0_cell_6 : decode cX0_cell 6 = .ok (.aload_n 0, 1) := dk_42 (dk_at dksX0_cell_0 6 rfl rfl)
theorem dX0_cell_7 : decode cX0_cell 7 = .ok (.iload_n 1, 1) := dk_27 (dk_at dksX0_cell_0 7 rfl rfl)
theorem dX0_cell_8 : decode cX0_cell 8 = .ok (.iaload, 1) := dk_46 (dk_at dksX0_cell_0 8 rfl rfl)
theorem dX0_cell_9 : decode cX0_cell 9 = .ok (.goto 4, 3) := dk_167 0 4 (dk_at dksX0_cell_0 9 rfl rfl)
theorem dX0_cell_12 : decode cX0_cell 12 = .ok (.iconst 0, 1) := dk_3 (dk_at dksX0_cell_0 12 rfl rfl)
theorem dX0_cell_13 : decode cX0_cell 13 = .ok (.ireturn, 1) := dk_172 (dk_at dksX0_cell_0 13 rfl rfl)
abbrev cX0_same : ByteArray := method_4_code
def yX0_same : MethodName := ⟨RX0, "same", "(LRcTwoDesk;[I)Z"⟩
def dkwX0_same_2 : List UInt8 := [167, 255, 213, 4, 172]
abbrev dktX0_same_2 : List UInt8 := dkwX0_same_2 ++ []
def dkwX0_same_1 : List UInt8 := [16, 24, 16, 8, 28, 7, 112, 104, 100, 124, 17, 0, 255, 126, 159, 0, 5, 3, 172, 132, 2, 1]
abbrev dktX0_same_1 : List UInt8 := dkwX0_same_1 ++ dktX0_same_2
def dkwX0_same_0 : List UInt8 := [3, 61, 28, 16, 8, 162, 0, 43, 42, 28, 182, 0, 24, 43, 16, 8, 28, 7, 108, 96, 184, 0, 10]
abbrev dktX0_same_0 : List UInt8 := dkwX0_same_0 ++ dktX0_same_1
theorem dksX0_same_0 : cX0_same.data.toList.drop 0 = dktX0_same_0 := by decide +kernel
theorem dksX0_same_1 : cX0_same.data.toList.drop 23 = dktX0_same_1 := dk_seg dksX0_same_0 23 rfl rfl
theorem dksX0_same_2 : cX0_same.data.toList.drop 45 = dktX0_same_2 := dk_seg dksX0_same_1 22 rfl rfl
theorem dX0_same_0 : decode cX0_same 0 = .ok (.iconst 0, 1) := dk_3 (dk_at dksX0_same_0 0 rfl rfl)
theorem dX0_same_1 : decode cX0_same 1 = .ok (.istore_n 2, 1) := dk_61 (dk_at dksX0_same_0 1 rfl rfl)
theorem dX0_same_2 : decode cX0_same 2 = .ok (.iload_n 2, 1) := dk_28 (dk_at dksX0_same_0 2 rfl rfl)
theorem dX0_same_3 : decode cX0_same 3 = .ok (.bipush 8, 2) := dk_16 8 (dk_at dksX0_same_0 3 rfl rfl)
theorem dX0_same_5 : decode cX0_same 5 = .ok (.if_icmp .ge 43, 3) := dk_162 0 43 (dk_at dksX0_same_0 5 rfl rfl)
theorem dX0_same_8 : decode cX0_same 8 = .ok (.aload_n 0, 1) := dk_42 (dk_at dksX0_same_0 8 rfl rfl)
theorem dX0_same_9 : decode cX0_same 9 = .ok (.iload_n 2, 1) := dk_28 (dk_at dksX0_same_0 9 rfl rfl)
theorem dX0_same_10 : decode cX0_same 10 = .ok (.invokevirtual 24, 3) := dk_182 0 24 (dk_at dksX0_same_0 10 rfl rfl)
theorem dX0_same_13 : decode cX0_same 13 = .ok (.aload_n 1, 1) := dk_43 (dk_at dksX0_same_0 13 rfl rfl)
theorem dX0_same_14 : decode cX0_same 14 = .ok (.bipush 8, 2) := dk_16 8 (dk_at dksX0_same_0 14 rfl rfl)
theorem dX0_same_16 : decode cX0_same 16 = .ok (.iload_n 2, 1) := dk_28 (dk_at dksX0_same_0 16 rfl rfl)
theorem dX0_same_17 : decode cX0_same 17 = .ok (.iconst 4, 1) := dk_7 (dk_at dksX0_same_0 17 rfl rfl)
theorem dX0_same_18 : decode cX0_same 18 = .ok (.idiv, 1) := dk_108 (dk_at dksX0_same_0 18 rfl rfl)
theorem dX0_same_19 : decode cX0_same 19 = .ok (.iadd, 1) := dk_96 (dk_at dksX0_same_0 19 rfl rfl)
theorem dX0_same_20 : decode cX0_same 20 = .ok (.invokestatic 10, 3) := dk_184 0 10 (dk_at dksX0_same_0 20 rfl rfl)
theorem dX0_same_23 : decode cX0_same 23 = .ok (.bipush 24, 2) := dk_16 24 (dk_at dksX0_same_1 0 rfl rfl)
theorem dX0_same_25 : decode cX0_same 25 = .ok (.bipush 8, 2) := dk_16 8 (dk_at dksX0_same_1 2 rfl rfl)
theorem dX0_same_27 : decode cX0_same 27 = .ok (.iload_n 2, 1) := dk_28 (dk_at dksX0_same_1 4 rfl rfl)
theorem dX0_same_28 : decode cX0_same 28 = .ok (.iconst 4, 1) := dk_7 (dk_at dksX0_same_1 5 rfl rfl)
theorem dX0_same_29 : decode cX0_same 29 = .ok (.irem, 1) := dk_112 (dk_at dksX0_same_1 6 rfl rfl)
theorem dX0_same_30 : decode cX0_same 30 = .ok (.imul, 1) := dk_104 (dk_at dksX0_same_1 7 rfl rfl)
theorem dX0_same_31 : decode cX0_same 31 = .ok (.isub, 1) := dk_100 (dk_at dksX0_same_1 8 rfl rfl)
theorem dX0_same_32 : decode cX0_same 32 = .ok (.iushr, 1) := dk_124 (dk_at dksX0_same_1 9 rfl rfl)
theorem dX0_same_33 : decode cX0_same 33 = .ok (.sipush 255, 3) := dk_17 0 255 (dk_at dksX0_same_1 10 rfl rfl)
theorem dX0_same_36 : decode cX0_same 36 = .ok (.iand, 1) := dk_126 (dk_at dksX0_same_1 13 rfl rfl)
theorem dX0_same_37 : decode cX0_same 37 = .ok (.if_icmp .eq 5, 3) := dk_159 0 5 (dk_at dksX0_same_1 14 rfl rfl)
theorem dX0_same_40 : decode cX0_same 40 = .ok (.iconst 0, 1) := dk_3 (dk_at dksX0_same_1 17 rfl rfl)
theorem dX0_same_41 : decode cX0_same 41 = .ok (.ireturn, 1) := dk_172 (dk_at dksX0_same_1 18 rfl rfl)
theorem dX0_same_42 : decode cX0_same 42 = .ok (.iinc 2 1, 3) := dk_132 2 1 (dk_at dksX0_same_1 19 rfl rfl)
theorem dX0_same_45 : decode cX0_same 45 = .ok (.goto (-43), 3) := dk_167 255 213 (dk_at dksX0_same_2 0 rfl rfl)
theorem dX0_same_48 : decode cX0_same 48 = .ok (.iconst 1, 1) := dk_4 (dk_at dksX0_same_2 3 rfl rfl)
theorem dX0_same_49 : decode cX0_same 49 = .ok (.ireturn, 1) := dk_172 (dk_at dksX0_same_2 4 rfl rfl)
abbrev cX0_known : ByteArray := method_5_code
def yX0_known : MethodName := ⟨RX0, "known", "()Z"⟩
def dkwX0_known_5 : List UInt8 := [4, 172]
abbrev dktX0_known_5 : List UInt8 := dkwX0_known_5 ++ []
def dkwX0_known_4 : List UInt8 := [16, 8, 162, 0, 22, 42, 28, 182, 0, 24, 43, 28, 46, 159, 0, 5, 3, 172, 132, 2, 1, 167, 255, 234]
abbrev dktX0_known_4 : List UInt8 := dkwX0_known_4 ++ dktX0_known_5
def dkwX0_known_3 : List UInt8 := [89, 8, 17, 0, 248, 79, 89, 16, 6, 16, 92, 79, 89, 16, 7, 17, 0, 166, 79, 76, 3, 61, 28]
abbrev dktX0_known_3 : List UInt8 := dkwX0_known_3 ++ dktX0_known_4
def dkwX0_known_2 : List UInt8 := [16, 34, 79, 89, 4, 16, 105, 79, 89, 5, 16, 85, 79, 89, 6, 16, 42, 79, 89, 7, 17, 0, 176, 79]
abbrev dktX0_known_2 : List UInt8 := dkwX0_known_2 ++ dktX0_known_3
def dkwX0_known_1 : List UInt8 := [3, 3, 3, 182, 0, 16, 42, 3, 3, 182, 0, 20, 42, 3, 182, 0, 32, 16, 8, 188, 10, 89, 3]
abbrev dktX0_known_1 : List UInt8 := dkwX0_known_1 ++ dktX0_known_2
def dkwX0_known_0 : List UInt8 := [187, 0, 7, 89, 183, 0, 9, 75, 42, 3, 18, 28, 18, 29, 18, 30, 18, 31, 182, 0, 16, 42, 4, 3]
abbrev dktX0_known_0 : List UInt8 := dkwX0_known_0 ++ dktX0_known_1
theorem dksX0_known_0 : cX0_known.data.toList.drop 0 = dktX0_known_0 := by decide +kernel
theorem dksX0_known_1 : cX0_known.data.toList.drop 24 = dktX0_known_1 := dk_seg dksX0_known_0 24 rfl rfl
theorem dksX0_known_2 : cX0_known.data.toList.drop 47 = dktX0_known_2 := dk_seg dksX0_known_1 23 rfl rfl
theorem dksX0_known_3 : cX0_known.data.toList.drop 71 = dktX0_known_3 := dk_seg dksX0_known_2 24 rfl rfl
theorem dksX0_known_4 : cX0_known.data.toList.drop 94 = dktX0_known_4 := dk_seg dksX0_known_3 23 rfl rfl
theorem dksX0_known_5 : cX0_known.data.toList.drop 118 = dktX0_known_5 := dk_seg dksX0_known_4 24 rfl rfl
theorem dX0_known_0 : decode cX0_known 0 = .ok (.new 7, 3) := dk_187 0 7 (dk_at dksX0_known_0 0 rfl rfl)
theorem dX0_known_3 : decode cX0_known 3 = .ok (.dup, 1) := dk_89 (dk_at dksX0_known_0 3 rfl rfl)
theorem dX0_known_4 : decode cX0_known 4 = .ok (.invokespecial 9, 3) := dk_183 0 9 (dk_at dksX0_known_0 4 rfl rfl)
theorem dX0_known_7 : decode cX0_known 7 = .ok (.astore_n 0, 1) := dk_75 (dk_at dksX0_known_0 7 rfl rfl)
theorem dX0_known_8 : decode cX0_known 8 = .ok (.aload_n 0, 1) := dk_42 (dk_at dksX0_known_0 8 rfl rfl)
theorem dX0_known_9 : decode cX0_known 9 = .ok (.iconst 0, 1) := dk_3 (dk_at dksX0_known_0 9 rfl rfl)
theorem dX0_known_10 : decode cX0_known 10 = .ok (.ldc 28, 2) := dk_18 28 (dk_at dksX0_known_0 10 rfl rfl)
theorem dX0_known_12 : decode cX0_known 12 = .ok (.ldc 29, 2) := dk_18 29 (dk_at dksX0_known_0 12 rfl rfl)
theorem dX0_known_14 : decode cX0_known 14 = .ok (.ldc 30, 2) := dk_18 30 (dk_at dksX0_known_0 14 rfl rfl)
theorem dX0_known_16 : decode cX0_known 16 = .ok (.ldc 31, 2) := dk_18 31 (dk_at dksX0_known_0 16 rfl rfl)
theorem dX0_known_18 : decode cX0_known 18 = .ok (.invokevirtual 16, 3) := dk_182 0 16 (dk_at dksX0_known_0 18 rfl rfl)
theorem dX0_known_21 : decode cX0_known 21 = .ok (.aload_n 0, 1) := dk_42 (dk_at dksX0_known_0 21 rfl rfl)
theorem dX0_known_22 : decode cX0_known 22 = .ok (.iconst 1, 1) := dk_4 (dk_at dksX0_known_0 22 rfl rfl)
theorem dX0_known_23 : decode cX0_known 23 = .ok (.iconst 0, 1) := dk_3 (dk_at dksX0_known_0 23 rfl rfl)
theorem dX0_known_24 : decode cX0_known 24 = .ok (.iconst 0, 1) := dk_3 (dk_at dksX0_known_1 0 rfl rfl)
theorem dX0_known_25 : decode cX0_known 25 = .ok (.iconst 0, 1) := dk_3 (dk_at dksX0_known_1 1 rfl rfl)
theorem dX0_known_26 : decode cX0_known 26 = .ok (.iconst 0, 1) := dk_3 (dk_at dksX0_known_1 2 rfl rfl)
theorem dX0_known_27 : decode cX0_known 27 = .ok (.invokevirtual 16, 3) := dk_182 0 16 (dk_at dksX0_known_1 3 rfl rfl)
theorem dX0_known_30 : decode cX0_known 30 = .ok (.aload_n 0, 1) := dk_42 (dk_at dksX0_known_1 6 rfl rfl)
theorem dX0_known_31 : decode cX0_known 31 = .ok (.iconst 0, 1) := dk_3 (dk_at dksX0_known_1 7 rfl rfl)
theorem dX0_known_32 : decode cX0_known 32 = .ok (.iconst 0, 1) := dk_3 (dk_at dksX0_known_1 8 rfl rfl)
theorem dX0_known_33 : decode cX0_known 33 = .ok (.invokevirtual 20, 3) := dk_182 0 20 (dk_at dksX0_known_1 9 rfl rfl)
theorem dX0_known_36 : decode cX0_known 36 = .ok (.aload_n 0, 1) := dk_42 (dk_at dksX0_known_1 12 rfl rfl)
theorem dX0_known_37 : decode cX0_known 37 = .ok (.iconst 0, 1) := dk_3 (dk_at dksX0_known_1 13 rfl rfl)
theorem dX0_known_38 : decode cX0_known 38 = .ok (.invokevirtual 32, 3) := dk_182 0 32 (dk_at dksX0_known_1 14 rfl rfl)
theorem dX0_known_41 : decode cX0_known 41 = .ok (.bipush 8, 2) := dk_16 8 (dk_at dksX0_known_1 17 rfl rfl)
theorem dX0_known_43 : decode cX0_known 43 = .ok (.newarray .int, 2) := dk_188_10 (dk_at dksX0_known_1 19 rfl rfl)
theorem dX0_known_45 : decode cX0_known 45 = .ok (.dup, 1) := dk_89 (dk_at dksX0_known_1 21 rfl rfl)
theorem dX0_known_46 : decode cX0_known 46 = .ok (.iconst 0, 1) := dk_3 (dk_at dksX0_known_1 22 rfl rfl)
theorem dX0_known_47 : decode cX0_known 47 = .ok (.bipush 34, 2) := dk_16 34 (dk_at dksX0_known_2 0 rfl rfl)
theorem dX0_known_49 : decode cX0_known 49 = .ok (.iastore, 1) := dk_79 (dk_at dksX0_known_2 2 rfl rfl)
theorem dX0_known_50 : decode cX0_known 50 = .ok (.dup, 1) := dk_89 (dk_at dksX0_known_2 3 rfl rfl)
theorem dX0_known_51 : decode cX0_known 51 = .ok (.iconst 1, 1) := dk_4 (dk_at dksX0_known_2 4 rfl rfl)
theorem dX0_known_52 : decode cX0_known 52 = .ok (.bipush 105, 2) := dk_16 105 (dk_at dksX0_known_2 5 rfl rfl)
theorem dX0_known_54 : decode cX0_known 54 = .ok (.iastore, 1) := dk_79 (dk_at dksX0_known_2 7 rfl rfl)
theorem dX0_known_55 : decode cX0_known 55 = .ok (.dup, 1) := dk_89 (dk_at dksX0_known_2 8 rfl rfl)
theorem dX0_known_56 : decode cX0_known 56 = .ok (.iconst 2, 1) := dk_5 (dk_at dksX0_known_2 9 rfl rfl)
theorem dX0_known_57 : decode cX0_known 57 = .ok (.bipush 85, 2) := dk_16 85 (dk_at dksX0_known_2 10 rfl rfl)
theorem dX0_known_59 : decode cX0_known 59 = .ok (.iastore, 1) := dk_79 (dk_at dksX0_known_2 12 rfl rfl)
theorem dX0_known_60 : decode cX0_known 60 = .ok (.dup, 1) := dk_89 (dk_at dksX0_known_2 13 rfl rfl)
theorem dX0_known_61 : decode cX0_known 61 = .ok (.iconst 3, 1) := dk_6 (dk_at dksX0_known_2 14 rfl rfl)
theorem dX0_known_62 : decode cX0_known 62 = .ok (.bipush 42, 2) := dk_16 42 (dk_at dksX0_known_2 15 rfl rfl)
theorem dX0_known_64 : decode cX0_known 64 = .ok (.iastore, 1) := dk_79 (dk_at dksX0_known_2 17 rfl rfl)
theorem dX0_known_65 : decode cX0_known 65 = .ok (.dup, 1) := dk_89 (dk_at dksX0_known_2 18 rfl rfl)
theorem dX0_known_66 : decode cX0_known 66 = .ok (.iconst 4, 1) := dk_7 (dk_at dksX0_known_2 19 rfl rfl)
theorem dX0_known_67 : decode cX0_known 67 = .ok (.sipush 176, 3) := dk_17 0 176 (dk_at dksX0_known_2 20 rfl rfl)
theorem dX0_known_70 : decode cX0_known 70 = .ok (.iastore, 1) := dk_79 (dk_at dksX0_known_2 23 rfl rfl)
theorem dX0_known_71 : decode cX0_known 71 = .ok (.dup, 1) := dk_89 (dk_at dksX0_known_3 0 rfl rfl)
theorem dX0_known_72 : decode cX0_known 72 = .ok (.iconst 5, 1) := dk_8 (dk_at dksX0_known_3 1 rfl rfl)
theorem dX0_known_73 : decode cX0_known 73 = .ok (.sipush 248, 3) := dk_17 0 248 (dk_at dksX0_known_3 2 rfl rfl)
theorem dX0_known_76 : decode cX0_known 76 = .ok (.iastore, 1) := dk_79 (dk_at dksX0_known_3 5 rfl rfl)
theorem dX0_known_77 : decode cX0_known 77 = .ok (.dup, 1) := dk_89 (dk_at dksX0_known_3 6 rfl rfl)
theorem dX0_known_78 : decode cX0_known 78 = .ok (.bipush 6, 2) := dk_16 6 (dk_at dksX0_known_3 7 rfl rfl)
theorem dX0_known_80 : decode cX0_known 80 = .ok (.bipush 92, 2) := dk_16 92 (dk_at dksX0_known_3 9 rfl rfl)
theorem dX0_known_82 : decode cX0_known 82 = .ok (.iastore, 1) := dk_79 (dk_at dksX0_known_3 11 rfl rfl)
theorem dX0_known_83 : decode cX0_known 83 = .ok (.dup, 1) := dk_89 (dk_at dksX0_known_3 12 rfl rfl)
theorem dX0_known_84 : decode cX0_known 84 = .ok (.bipush 7, 2) := dk_16 7 (dk_at dksX0_known_3 13 rfl rfl)
theorem dX0_known_86 : decode cX0_known 86 = .ok (.sipush 166, 3) := dk_17 0 166 (dk_at dksX0_known_3 15 rfl rfl)
theorem dX0_known_89 : decode cX0_known 89 = .ok (.iastore, 1) := dk_79 (dk_at dksX0_known_3 18 rfl rfl)
theorem dX0_known_90 : decode cX0_known 90 = .ok (.astore_n 1, 1) := dk_76 (dk_at dksX0_known_3 19 rfl rfl)
theorem dX0_known_91 : decode cX0_known 91 = .ok (.iconst 0, 1) := dk_3 (dk_at dksX0_known_3 20 rfl rfl)
theorem dX0_known_92 : decode cX0_known 92 = .ok (.istore_n 2, 1) := dk_61 (dk_at dksX0_known_3 21 rfl rfl)
theorem dX0_known_93 : decode cX0_known 93 = .ok (.iload_n 2, 1) := dk_28 (dk_at dksX0_known_3 22 rfl rfl)
theorem dX0_known_94 : decode cX0_known 94 = .ok (.bipush 8, 2) := dk_16 8 (dk_at dksX0_known_4 0 rfl rfl)
theorem dX0_known_96 : decode cX0_known 96 = .ok (.if_icmp .ge 22, 3) := dk_162 0 22 (dk_at dksX0_known_4 2 rfl rfl)
theorem dX0_known_99 : decode cX0_known 99 = .ok (.aload_n 0, 1) := dk_42 (dk_at dksX0_known_4 5 rfl rfl)
theorem dX0_known_100 : decode cX0_known 100 = .ok (.iload_n 2, 1) := dk_28 (dk_at dksX0_known_4 6 rfl rfl)
theorem dX0_known_101 : decode cX0_known 101 = .ok (.invokevirtual 24, 3) := dk_182 0 24 (dk_at dksX0_known_4 7 rfl rfl)
theorem dX0_known_104 : decode cX0_known 104 = .ok (.aload_n 1, 1) := dk_43 (dk_at dksX0_known_4 10 rfl rfl)
theorem dX0_known_105 : decode cX0_known 105 = .ok (.iload_n 2, 1) := dk_28 (dk_at dksX0_known_4 11 rfl rfl)
theorem dX0_known_106 : decode cX0_known 106 = .ok (.iaload, 1) := dk_46 (dk_at dksX0_known_4 12 rfl rfl)
theorem dX0_known_107 : decode cX0_known 107 = .ok (.if_icmp .eq 5, 3) := dk_159 0 5 (dk_at dksX0_known_4 13 rfl rfl)
theorem dX0_known_110 : decode cX0_known 110 = .ok (.iconst 0, 1) := dk_3 (dk_at dksX0_known_4 16 rfl rfl)
theorem dX0_known_111 : decode cX0_known 111 = .ok (.ireturn, 1) := dk_172 (dk_at dksX0_known_4 17 rfl rfl)
theorem dX0_known_112 : decode cX0_known 112 = .ok (.iinc 2 1, 3) := dk_132 2 1 (dk_at dksX0_known_4 18 rfl rfl)
theorem dX0_known_115 : decode cX0_known 115 = .ok (.goto (-22), 3) := dk_167 255 234 (dk_at dksX0_known_4 21 rfl rfl)
theorem dX0_known_118 : decode cX0_known 118 = .ok (.iconst 1, 1) := dk_4 (dk_at dksX0_known_5 0 rfl rfl)
theorem dX0_known_119 : decode cX0_known 119 = .ok (.ireturn, 1) := dk_172 (dk_at dksX0_known_5 1 rfl rfl)
theorem q6 : (Jvm.Cond.initialized "RcTwoDeskLaw") ∈ lw_all := lw_g (lw_at lw_m1 0 rfl) rfl
theorem q19 : (Jvm.Cond.methodLink "RcTwoDeskLaw" (32 : Nat) ({ cls := "RcTwoDesk", name := "lock", desc := "(I)V" } : Jvm.MethodName)) ∈ lw_all := lw_g (lw_at lw_m1 13 rfl) rfl
theorem q238 : (Jvm.Cond.methodLink "RcTwoDeskLaw" (44 : Nat) ({ cls := "RcTwoDesk", name := "open", desc := "(I)V" } : Jvm.MethodName)) ∈ lw_all := lw_g (lw_at lw_m1 232 rfl) rfl
theorem q242 : (Jvm.Cond.methodLink "RcTwoDeskLaw" (47 : Nat) ({ cls := "RcTwoDesk", name := "again", desc := "()V" } : Jvm.MethodName)) ∈ lw_all := lw_g (lw_at lw_m1 236 rfl) rfl
theorem q246 : (Jvm.Cond.methodLink "RcTwoDeskLaw" (40 : Nat) ({ cls := "RcTwoDeskLaw", name := "with", desc := "([I)LRcTwoDesk;" } : Jvm.MethodName)) ∈ lw_all := lw_g (lw_at lw_m2 0 rfl) rfl
theorem q247 : (Jvm.Cond.static ({ cls := "RcTwoDeskLaw", name := "with", desc := "([I)LRcTwoDesk;" } : Jvm.MethodName)) ∈ lw_all := lw_g (lw_at lw_m2 1 rfl) rfl
theorem q248 : (Jvm.Cond.code ({ cls := "RcTwoDeskLaw", name := "with", desc := "([I)LRcTwoDesk;" } : Jvm.MethodName) method_3_code (2 : Nat) (Option.some (Jvm.ClassFile.FieldType.object "RcTwoDesk"))) ∈ lw_all := lw_g (lw_at lw_m2 2 rfl) rfl
theorem q249 : (Jvm.Cond.classLink "RcTwoDeskLaw" (7 : Nat) "RcTwoDesk") ∈ lw_all := lw_g (lw_at lw_m2 3 rfl) rfl
theorem q250 : (Jvm.Cond.methodLink "RcTwoDeskLaw" (9 : Nat) ({ cls := "RcTwoDesk", name := "<init>", desc := "()V" } : Jvm.MethodName)) ∈ lw_all := lw_g (lw_at lw_m2 4 rfl) rfl
theorem q264 : (Jvm.Cond.methodLink "RcTwoDeskLaw" (10 : Nat) ({ cls := "RcTwoDeskLaw", name := "cell", desc := "([II)I" } : Jvm.MethodName)) ∈ lw_all := lw_g (lw_at lw_m2 18 rfl) rfl
theorem q265 : (Jvm.Cond.static ({ cls := "RcTwoDeskLaw", name := "cell", desc := "([II)I" } : Jvm.MethodName)) ∈ lw_all := lw_g (lw_at lw_m2 19 rfl) rfl
theorem q266 : (Jvm.Cond.code ({ cls := "RcTwoDeskLaw", name := "cell", desc := "([II)I" } : Jvm.MethodName) method_2_code (2 : Nat) (Option.some Jvm.ClassFile.FieldType.int)) ∈ lw_all := lw_g (lw_at lw_m2 20 rfl) rfl
theorem q267 : (Jvm.Cond.methodLink "RcTwoDeskLaw" (16 : Nat) ({ cls := "RcTwoDesk", name := "key", desc := "(IIIII)V" } : Jvm.MethodName)) ∈ lw_all := lw_g (lw_at lw_m2 21 rfl) rfl
theorem q274 : (Jvm.Cond.methodLink "RcTwoDeskLaw" (20 : Nat) ({ cls := "RcTwoDesk", name := "block", desc := "(II)V" } : Jvm.MethodName)) ∈ lw_all := lw_g (lw_at lw_m2 28 rfl) rfl
theorem q278 : (Jvm.Cond.methodLink "RcTwoDeskLaw" (50 : Nat) ({ cls := "RcTwoDeskLaw", name := "same", desc := "(LRcTwoDesk;[I)Z" } : Jvm.MethodName)) ∈ lw_all := lw_g (lw_at lw_m2 32 rfl) rfl
theorem q279 : (Jvm.Cond.static ({ cls := "RcTwoDeskLaw", name := "same", desc := "(LRcTwoDesk;[I)Z" } : Jvm.MethodName)) ∈ lw_all := lw_g (lw_at lw_m2 33 rfl) rfl
theorem q280 : (Jvm.Cond.code ({ cls := "RcTwoDeskLaw", name := "same", desc := "(LRcTwoDesk;[I)Z" } : Jvm.MethodName) method_4_code (3 : Nat) (Option.some Jvm.ClassFile.FieldType.boolean)) ∈ lw_all := lw_g (lw_at lw_m2 34 rfl) rfl
theorem q281 : (Jvm.Cond.methodLink "RcTwoDeskLaw" (24 : Nat) ({ cls := "RcTwoDesk", name := "out", desc := "(I)I" } : Jvm.MethodName)) ∈ lw_all := lw_g (lw_at lw_m2 35 rfl) rfl
theorem q285 : (Jvm.Cond.methodLink "RcTwoDeskLaw" (36 : Nat) ({ cls := "RcTwoDeskLaw", name := "known", desc := "()Z" } : Jvm.MethodName)) ∈ lw_all := lw_g (lw_at lw_m2 39 rfl) rfl
theorem q286 : (Jvm.Cond.static ({ cls := "RcTwoDeskLaw", name := "known", desc := "()Z" } : Jvm.MethodName)) ∈ lw_all := lw_g (lw_at lw_m2 40 rfl) rfl
theorem q287 : (Jvm.Cond.code ({ cls := "RcTwoDeskLaw", name := "known", desc := "()Z" } : Jvm.MethodName) method_5_code (3 : Nat) (Option.some Jvm.ClassFile.FieldType.boolean)) ∈ lw_all := lw_g (lw_at lw_m2 41 rfl) rfl
theorem q288 : (Jvm.Cond.constant "RcTwoDeskLaw" (28 : Nat) (-2000901874 : Int32)) ∈ lw_all := lw_g (lw_at lw_m2 42 rfl) rfl
theorem q289 : (Jvm.Cond.constant "RcTwoDeskLaw" (29 : Nat) (-1870177665 : Int32)) ∈ lw_all := lw_g (lw_at lw_m2 43 rfl) rfl
theorem q290 : (Jvm.Cond.constant "RcTwoDeskLaw" (30 : Nat) (259638148 : Int32)) ∈ lw_all := lw_g (lw_at lw_m2 44 rfl) rfl
theorem q291 : (Jvm.Cond.constant "RcTwoDeskLaw" (31 : Nat) (1652273074 : Int32)) ∈ lw_all := lw_g (lw_at lw_m2 45 rfl) rfl
/-! RcTwoDesk -/
set_option maxRecDepth 100000
def RX1 : String := "RcTwoDesk"
def TX1 : u_T := fun k => match k with
  | 0 => ("RcTwoDesk", "key", "[B", true)
  | 1 => ("RcTwoDesk", "block", "[B", true)
  | _ => ("RcTwoDesk", "out", "[B", true)
def tyX1 : Nat → FieldType := fun k => match k with
  | 0 => .array .byte
  | 1 => .array .byte
  | _ => .array .byte
abbrev wsX10 : List Cond := u_ws RX1 TX1 3
theorem nmX1 : ∀ a, a < 3 → ∀ b, b < 3 → a ≠ b → (TX1 a).2.1 ≠ (TX1 b).2.1 := by decide +kernel
theorem tyX1_ok : ∀ k, k < 3 → parseFieldDescriptor (TX1 k).2.2.1 = some (tyX1 k) := by decide +kernel
abbrev cX1_lock : ByteArray := prog_8_method_7_code
def yX1_lock : MethodName := ⟨RX1, "lock", "(I)V"⟩
def dkwX1_lock_0 : List UInt8 := [42, 4, 27, 182, 0, 45, 177]
abbrev dktX1_lock_0 : List UInt8 := dkwX1_lock_0 ++ []
theorem dksX1_lock_0 : cX1_lock.data.toList.drop 0 = dktX1_lock_0 := by decide +kernel
theorem dX1_lock_0 : decode cX1_lock 0 = .ok (.aload_n 0, 1) := dk_42 (dk_at dksX1_lock_0 0 rfl rfl)
theorem dX1_lock_1 : decode cX1_lock 1 = .ok (.iconst 1, 1) := dk_4 (dk_at dksX1_lock_0 1 rfl rfl)
theorem dX1_lock_2 : decode cX1_lock 2 = .ok (.iload_n 1, 1) := dk_27 (dk_at dksX1_lock_0 2 rfl rfl)
theorem dX1_lock_3 : decode cX1_lock 3 = .ok (.invokevirtual 45, 3) := dk_182 0 45 (dk_at dksX1_lock_0 3 rfl rfl)
theorem dX1_lock_6 : decode cX1_lock 6 = .ok (.return_, 1) := dk_177 (dk_at dksX1_lock_0 6 rfl rfl)
abbrev cX1_run : ByteArray := prog_8_method_5_code
def yX1_run : MethodName := ⟨RX1, "run", "(ZI)V"⟩
def dkwX1_run_3 : List UInt8 := [180, 0, 13, 3, 42, 180, 0, 16, 3, 185, 0, 41, 5, 0, 87, 177]
abbrev dktX1_run_3 : List UInt8 := dkwX1_run_3 ++ []
def dkwX1_run_2 : List UInt8 := [58, 5, 25, 5, 27, 187, 0, 30, 89, 25, 4, 183, 0, 32, 185, 0, 35, 3, 0, 25, 5, 42]
abbrev dktX1_run_2 : List UInt8 := dkwX1_run_2 ++ dktX1_run_3
def dkwX1_run_1 : List UInt8 := [21, 5, 42, 180, 0, 7, 21, 5, 51, 84, 132, 5, 1, 167, 255, 235, 187, 0, 27, 89, 183, 0, 29]
abbrev dktX1_run_1 : List UInt8 := dkwX1_run_1 ++ dktX1_run_2
def dkwX1_run_0 : List UInt8 := [28, 6, 126, 184, 0, 23, 62, 29, 188, 8, 58, 4, 3, 54, 5, 21, 5, 29, 162, 0, 21, 25, 4]
abbrev dktX1_run_0 : List UInt8 := dkwX1_run_0 ++ dktX1_run_1
theorem dksX1_run_0 : cX1_run.data.toList.drop 0 = dktX1_run_0 := by decide +kernel
theorem dksX1_run_1 : cX1_run.data.toList.drop 23 = dktX1_run_1 := dk_seg dksX1_run_0 23 rfl rfl
theorem dksX1_run_2 : cX1_run.data.toList.drop 46 = dktX1_run_2 := dk_seg dksX1_run_1 23 rfl rfl
theorem dksX1_run_3 : cX1_run.data.toList.drop 68 = dktX1_run_3 := dk_seg dksX1_run_2 22 rfl rfl
theorem dX1_run_0 : decode cX1_run 0 = .ok (.iload_n 2, 1) := dk_28 (dk_at dksX1_run_0 0 rfl rfl)
theorem dX1_run_1 : decode cX1_run 1 = .ok (.iconst 3, 1) := dk_6 (dk_at dksX1_run_0 1 rfl rfl)
theorem dX1_run_2 : decode cX1_run 2 = .ok (.iand, 1) := dk_126 (dk_at dksX1_run_0 2 rfl rfl)
theorem dX1_run_3 : decode cX1_run 3 = .ok (.invokestatic 23, 3) := dk_184 0 23 (dk_at dksX1_run_0 3 rfl rfl)
theorem dX1_run_6 : decode cX1_run 6 = .ok (.istore_n 3, 1) := dk_62 (dk_at dksX1_run_0 6 rfl rfl)
theorem dX1_run_7 : decode cX1_run 7 = .ok (.iload_n 3, 1) := dk_29 (dk_at dksX1_run_0 7 rfl rfl)
theorem dX1_run_8 : decode cX1_run 8 = .ok (.newarray .byte, 2) := dk_188_8 (dk_at dksX1_run_0 8 rfl rfl)
theorem dX1_run_10 : decode cX1_run 10 = .ok (.astore 4, 2) := dk_58 4 (dk_at dksX1_run_0 10 rfl rfl)
theorem dX1_run_12 : decode cX1_run 12 = .ok (.iconst 0, 1) := dk_3 (dk_at dksX1_run_0 12 rfl rfl)
theorem dX1_run_13 : decode cX1_run 13 = .ok (.istore 5, 2) := dk_54 5 (dk_at dksX1_run_0 13 rfl rfl)
theorem dX1_run_15 : decode cX1_run 15 = .ok (.iload 5, 2) := dk_21 5 (dk_at dksX1_run_0 15 rfl rfl)
theorem dX1_run_17 : decode cX1_run 17 = .ok (.iload_n 3, 1) := dk_29 (dk_at dksX1_run_0 17 rfl rfl)
theorem dX1_run_18 : decode cX1_run 18 = .ok (.if_icmp .ge 21, 3) := dk_162 0 21 (dk_at dksX1_run_0 18 rfl rfl)
theorem dX1_run_21 : decode cX1_run 21 = .ok (.aload 4, 2) := dk_25 4 (dk_at dksX1_run_0 21 rfl rfl)
theorem dX1_run_23 : decode cX1_run 23 = .ok (.iload 5, 2) := dk_21 5 (dk_at dksX1_run_1 0 rfl rfl)
theorem dX1_run_25 : decode cX1_run 25 = .ok (.aload_n 0, 1) := dk_42 (dk_at dksX1_run_1 2 rfl rfl)
theorem dX1_run_26 : decode cX1_run 26 = .ok (.getfield 7, 3) := dk_180 0 7 (dk_at dksX1_run_1 3 rfl rfl)
theorem dX1_run_29 : decode cX1_run 29 = .ok (.iload 5, 2) := dk_21 5 (dk_at dksX1_run_1 6 rfl rfl)
theorem dX1_run_31 : decode cX1_run 31 = .ok (.baload, 1) := dk_51 (dk_at dksX1_run_1 8 rfl rfl)
theorem dX1_run_32 : decode cX1_run 32 = .ok (.bastore, 1) := dk_84 (dk_at dksX1_run_1 9 rfl rfl)
theorem dX1_run_33 : decode cX1_run 33 = .ok (.iinc 5 1, 3) := dk_132 5 1 (dk_at dksX1_run_1 10 rfl rfl)
theorem dX1_run_36 : decode cX1_run 36 = .ok (.goto (-21), 3) := dk_167 255 235 (dk_at dksX1_run_1 13 rfl rfl)
theorem dX1_run_39 : decode cX1_run 39 = .ok (.new 27, 3) := dk_187 0 27 (dk_at dksX1_run_1 16 rfl rfl)
theorem dX1_run_42 : decode cX1_run 42 = .ok (.dup, 1) := dk_89 (dk_at dksX1_run_1 19 rfl rfl)
theorem dX1_run_43 : decode cX1_run 43 = .ok (.invokespecial 29, 3) := dk_183 0 29 (dk_at dksX1_run_1 20 rfl rfl)
theorem dX1_run_46 : decode cX1_run 46 = .ok (.astore 5, 2) := dk_58 5 (dk_at dksX1_run_2 0 rfl rfl)
theorem dX1_run_48 : decode cX1_run 48 = .ok (.aload 5, 2) := dk_25 5 (dk_at dksX1_run_2 2 rfl rfl)
theorem dX1_run_50 : decode cX1_run 50 = .ok (.iload_n 1, 1) := dk_27 (dk_at dksX1_run_2 4 rfl rfl)
theorem dX1_run_51 : decode cX1_run 51 = .ok (.new 30, 3) := dk_187 0 30 (dk_at dksX1_run_2 5 rfl rfl)
theorem dX1_run_54 : decode cX1_run 54 = .ok (.dup, 1) := dk_89 (dk_at dksX1_run_2 8 rfl rfl)
theorem dX1_run_55 : decode cX1_run 55 = .ok (.aload 4, 2) := dk_25 4 (dk_at dksX1_run_2 9 rfl rfl)
theorem dX1_run_57 : decode cX1_run 57 = .ok (.invokespecial 32, 3) := dk_183 0 32 (dk_at dksX1_run_2 11 rfl rfl)
theorem dX1_run_60 : decode cX1_run 60 = .ok (.invokeinterface 35 3, 5) := by decide +kernel
theorem dX1_run_65 : decode cX1_run 65 = .ok (.aload 5, 2) := dk_25 5 (dk_at dksX1_run_2 19 rfl rfl)
theorem dX1_run_67 : decode cX1_run 67 = .ok (.aload_n 0, 1) := dk_42 (dk_at dksX1_run_2 21 rfl rfl)
theorem dX1_run_68 : decode cX1_run 68 = .ok (.getfield 13, 3) := dk_180 0 13 (dk_at dksX1_run_3 0 rfl rfl)
theorem dX1_run_71 : decode cX1_run 71 = .ok (.iconst 0, 1) := dk_3 (dk_at dksX1_run_3 3 rfl rfl)
theorem dX1_run_72 : decode cX1_run 72 = .ok (.aload_n 0, 1) := dk_42 (dk_at dksX1_run_3 4 rfl rfl)
theorem dX1_run_73 : decode cX1_run 73 = .ok (.getfield 16, 3) := dk_180 0 16 (dk_at dksX1_run_3 5 rfl rfl)
theorem dX1_run_76 : decode cX1_run 76 = .ok (.iconst 0, 1) := dk_3 (dk_at dksX1_run_3 8 rfl rfl)
theorem dX1_run_77 : decode cX1_run 77 = .ok (.invokeinterface 41 5, 5) := by decide +kernel
theorem dX1_run_82 : decode cX1_run 82 = .ok (.pop, 1) := dk_87 (dk_at dksX1_run_3 14 rfl rfl)
theorem dX1_run_83 : decode cX1_run 83 = .ok (.return_, 1) := dk_177 (dk_at dksX1_run_3 15 rfl rfl)
abbrev cX1_size : ByteArray := prog_8_method_6_code
def yX1_size : MethodName := ⟨RX1, "size", "(I)I"⟩
theorem dX1_size_0 : decode cX1_size 0 = .ok (.bipush 16, 2) := by decide +kernel
theorem dX1_size_2 : decode cX1_size 2 = .ok (.ireturn, 1) := by decide +kernel
abbrev cX1_open : ByteArray := prog_8_method_8_code
def yX1_open : MethodName := ⟨RX1, "open", "(I)V"⟩
def dkwX1_open_0 : List UInt8 := [42, 3, 27, 182, 0, 45, 177]
abbrev dktX1_open_0 : List UInt8 := dkwX1_open_0 ++ []
theorem dksX1_open_0 : cX1_open.data.toList.drop 0 = dktX1_open_0 := by decide +kernel
theorem dX1_open_0 : decode cX1_open 0 = .ok (.aload_n 0, 1) := dk_42 (dk_at dksX1_open_0 0 rfl rfl)
theorem dX1_open_1 : decode cX1_open 1 = .ok (.iconst 0, 1) := dk_3 (dk_at dksX1_open_0 1 rfl rfl)
theorem dX1_open_2 : decode cX1_open 2 = .ok (.iload_n 1, 1) := dk_27 (dk_at dksX1_open_0 2 rfl rfl)
theorem dX1_open_3 : decode cX1_open 3 = .ok (.invokevirtual 45, 3) := dk_182 0 45 (dk_at dksX1_open_0 3 rfl rfl)
theorem dX1_open_6 : decode cX1_open 6 = .ok (.return_, 1) := dk_177 (dk_at dksX1_open_0 6 rfl rfl)
abbrev cX1_again : ByteArray := prog_8_method_9_code
def yX1_again : MethodName := ⟨RX1, "again", "()V"⟩
def dkwX1_again_1 : List UInt8 := [167, 255, 235, 177]
abbrev dktX1_again_1 : List UInt8 := dkwX1_again_1 ++ []
def dkwX1_again_0 : List UInt8 := [3, 60, 27, 16, 8, 162, 0, 21, 42, 180, 0, 13, 27, 42, 180, 0, 16, 27, 51, 84, 132, 1, 1]
abbrev dktX1_again_0 : List UInt8 := dkwX1_again_0 ++ dktX1_again_1
theorem dksX1_again_0 : cX1_again.data.toList.drop 0 = dktX1_again_0 := by decide +kernel
theorem dksX1_again_1 : cX1_again.data.toList.drop 23 = dktX1_again_1 := dk_seg dksX1_again_0 23 rfl rfl
theorem dX1_again_0 : decode cX1_again 0 = .ok (.iconst 0, 1) := dk_3 (dk_at dksX1_again_0 0 rfl rfl)
theorem dX1_again_1 : decode cX1_again 1 = .ok (.istore_n 1, 1) := dk_60 (dk_at dksX1_again_0 1 rfl rfl)
theorem dX1_again_2 : decode cX1_again 2 = .ok (.iload_n 1, 1) := dk_27 (dk_at dksX1_again_0 2 rfl rfl)
theorem dX1_again_3 : decode cX1_again 3 = .ok (.bipush 8, 2) := dk_16 8 (dk_at dksX1_again_0 3 rfl rfl)
theorem dX1_again_5 : decode cX1_again 5 = .ok (.if_icmp .ge 21, 3) := dk_162 0 21 (dk_at dksX1_again_0 5 rfl rfl)
theorem dX1_again_8 : decode cX1_again 8 = .ok (.aload_n 0, 1) := dk_42 (dk_at dksX1_again_0 8 rfl rfl)
theorem dX1_again_9 : decode cX1_again 9 = .ok (.getfield 13, 3) := dk_180 0 13 (dk_at dksX1_again_0 9 rfl rfl)
theorem dX1_again_12 : decode cX1_again 12 = .ok (.iload_n 1, 1) := dk_27 (dk_at dksX1_again_0 12 rfl rfl)
theorem dX1_again_13 : decode cX1_again 13 = .ok (.aload_n 0, 1) := dk_42 (dk_at dksX1_again_0 13 rfl rfl)
theorem dX1_again_14 : decode cX1_again 14 = .ok (.getfield 16, 3) := dk_180 0 16 (dk_at dksX1_again_0 14 rfl rfl)
theorem dX1_again_17 : decode cX1_again 17 = .ok (.iload_n 1, 1) := dk_27 (dk_at dksX1_again_0 17 rfl rfl)
theorem dX1_again_18 : decode cX1_again 18 = .ok (.baload, 1) := dk_51 (dk_at dksX1_again_0 18 rfl rfl)
theorem dX1_again_19 : decode cX1_again 19 = .ok (.bastore, 1) := dk_84 (dk_at dksX1_again_0 19 rfl rfl)
theorem dX1_again_20 : decode cX1_again 20 = .ok (.iinc 1 1, 3) := dk_132 1 1 (dk_at dksX1_again_0 20 rfl rfl)
theorem dX1_again_23 : decode cX1_again 23 = .ok (.goto (-21), 3) := dk_167 255 235 (dk_at dksX1_again_1 0 rfl rfl)
theorem dX1_again_26 : decode cX1_again 26 = .ok (.return_, 1) := dk_177 (dk_at dksX1_again_1 3 rfl rfl)
abbrev cX1_init : ByteArray := prog_8_method_1_code
def yX1_init : MethodName := ⟨RX1, "<init>", "()V"⟩
def dkwX1_init_1 : List UInt8 := [188, 8, 181, 0, 16, 177]
abbrev dktX1_init_1 : List UInt8 := dkwX1_init_1 ++ []
def dkwX1_init_0 : List UInt8 := [42, 183, 0, 1, 42, 16, 32, 188, 8, 181, 0, 7, 42, 16, 8, 188, 8, 181, 0, 13, 42, 16, 8]
abbrev dktX1_init_0 : List UInt8 := dkwX1_init_0 ++ dktX1_init_1
theorem dksX1_init_0 : cX1_init.data.toList.drop 0 = dktX1_init_0 := by decide +kernel
theorem dksX1_init_1 : cX1_init.data.toList.drop 23 = dktX1_init_1 := dk_seg dksX1_init_0 23 rfl rfl
theorem dX1_init_0 : decode cX1_init 0 = .ok (.aload_n 0, 1) := dk_42 (dk_at dksX1_init_0 0 rfl rfl)
theorem dX1_init_1 : decode cX1_init 1 = .ok (.invokespecial 1, 3) := dk_183 0 1 (dk_at dksX1_init_0 1 rfl rfl)
theorem dX1_init_4 : decode cX1_init 4 = .ok (.aload_n 0, 1) := dk_42 (dk_at dksX1_init_0 4 rfl rfl)
theorem dX1_init_5 : decode cX1_init 5 = .ok (.bipush 32, 2) := dk_16 32 (dk_at dksX1_init_0 5 rfl rfl)
theorem dX1_init_7 : decode cX1_init 7 = .ok (.newarray .byte, 2) := dk_188_8 (dk_at dksX1_init_0 7 rfl rfl)
theorem dX1_init_9 : decode cX1_init 9 = .ok (.putfield 7, 3) := dk_181 0 7 (dk_at dksX1_init_0 9 rfl rfl)
theorem dX1_init_12 : decode cX1_init 12 = .ok (.aload_n 0, 1) := dk_42 (dk_at dksX1_init_0 12 rfl rfl)
theorem dX1_init_13 : decode cX1_init 13 = .ok (.bipush 8, 2) := dk_16 8 (dk_at dksX1_init_0 13 rfl rfl)
theorem dX1_init_15 : decode cX1_init 15 = .ok (.newarray .byte, 2) := dk_188_8 (dk_at dksX1_init_0 15 rfl rfl)
theorem dX1_init_17 : decode cX1_init 17 = .ok (.putfield 13, 3) := dk_181 0 13 (dk_at dksX1_init_0 17 rfl rfl)
theorem dX1_init_20 : decode cX1_init 20 = .ok (.aload_n 0, 1) := dk_42 (dk_at dksX1_init_0 20 rfl rfl)
theorem dX1_init_21 : decode cX1_init 21 = .ok (.bipush 8, 2) := dk_16 8 (dk_at dksX1_init_0 21 rfl rfl)
theorem dX1_init_23 : decode cX1_init 23 = .ok (.newarray .byte, 2) := dk_188_8 (dk_at dksX1_init_1 0 rfl rfl)
theorem dX1_init_25 : decode cX1_init 25 = .ok (.putfield 16, 3) := dk_181 0 16 (dk_at dksX1_init_1 2 rfl rfl)
theorem dX1_init_28 : decode cX1_init 28 = .ok (.return_, 1) := dk_177 (dk_at dksX1_init_1 5 rfl rfl)
abbrev cX1_key : ByteArray := prog_8_method_3_code
def yX1_key : MethodName := ⟨RX1, "key", "(IIIII)V"⟩
def dkwX1_key_2 : List UInt8 := [21, 6, 16, 12, 96, 21, 5, 184, 0, 19, 177]
abbrev dktX1_key_2 : List UInt8 := dkwX1_key_2 ++ []
def dkwX1_key_1 : List UInt8 := [96, 29, 184, 0, 19, 42, 180, 0, 7, 21, 6, 16, 8, 96, 21, 4, 184, 0, 19, 42, 180, 0, 7]
abbrev dktX1_key_1 : List UInt8 := dkwX1_key_1 ++ dktX1_key_2
def dkwX1_key_0 : List UInt8 := [27, 4, 126, 7, 120, 54, 6, 42, 180, 0, 7, 21, 6, 28, 184, 0, 19, 42, 180, 0, 7, 21, 6, 7]
abbrev dktX1_key_0 : List UInt8 := dkwX1_key_0 ++ dktX1_key_1
theorem dksX1_key_0 : cX1_key.data.toList.drop 0 = dktX1_key_0 := by decide +kernel
theorem dksX1_key_1 : cX1_key.data.toList.drop 24 = dktX1_key_1 := dk_seg dksX1_key_0 24 rfl rfl
theorem dksX1_key_2 : cX1_key.data.toList.drop 47 = dktX1_key_2 := dk_seg dksX1_key_1 23 rfl rfl
theorem dX1_key_0 : decode cX1_key 0 = .ok (.iload_n 1, 1) := dk_27 (dk_at dksX1_key_0 0 rfl rfl)
theorem dX1_key_1 : decode cX1_key 1 = .ok (.iconst 1, 1) := dk_4 (dk_at dksX1_key_0 1 rfl rfl)
theorem dX1_key_2 : decode cX1_key 2 = .ok (.iand, 1) := dk_126 (dk_at dksX1_key_0 2 rfl rfl)
theorem dX1_key_3 : decode cX1_key 3 = .ok (.iconst 4, 1) := dk_7 (dk_at dksX1_key_0 3 rfl rfl)
theorem dX1_key_4 : decode cX1_key 4 = .ok (.ishl, 1) := dk_120 (dk_at dksX1_key_0 4 rfl rfl)
theorem dX1_key_5 : decode cX1_key 5 = .ok (.istore 6, 2) := dk_54 6 (dk_at dksX1_key_0 5 rfl rfl)
theorem dX1_key_7 : decode cX1_key 7 = .ok (.aload_n 0, 1) := dk_42 (dk_at dksX1_key_0 7 rfl rfl)
theorem dX1_key_8 : decode cX1_key 8 = .ok (.getfield 7, 3) := dk_180 0 7 (dk_at dksX1_key_0 8 rfl rfl)
theorem dX1_key_11 : decode cX1_key 11 = .ok (.iload 6, 2) := dk_21 6 (dk_at dksX1_key_0 11 rfl rfl)
theorem dX1_key_13 : decode cX1_key 13 = .ok (.iload_n 2, 1) := dk_28 (dk_at dksX1_key_0 13 rfl rfl)
theorem dX1_key_14 : decode cX1_key 14 = .ok (.invokestatic 19, 3) := dk_184 0 19 (dk_at dksX1_key_0 14 rfl rfl)
theorem dX1_key_17 : decode cX1_key 17 = .ok (.aload_n 0, 1) := dk_42 (dk_at dksX1_key_0 17 rfl rfl)
theorem dX1_key_18 : decode cX1_key 18 = .ok (.getfield 7, 3) := dk_180 0 7 (dk_at dksX1_key_0 18 rfl rfl)
theorem dX1_key_21 : decode cX1_key 21 = .ok (.iload 6, 2) := dk_21 6 (dk_at dksX1_key_0 21 rfl rfl)
theorem dX1_key_23 : decode cX1_key 23 = .ok (.iconst 4, 1) := dk_7 (dk_at dksX1_key_0 23 rfl rfl)
theorem dX1_key_24 : decode cX1_key 24 = .ok (.iadd, 1) := dk_96 (dk_at dksX1_key_1 0 rfl rfl)
theorem dX1_key_25 : decode cX1_key 25 = .ok (.iload_n 3, 1) := dk_29 (dk_at dksX1_key_1 1 rfl rfl)
theorem dX1_key_26 : decode cX1_key 26 = .ok (.invokestatic 19, 3) := dk_184 0 19 (dk_at dksX1_key_1 2 rfl rfl)
theorem dX1_key_29 : decode cX1_key 29 = .ok (.aload_n 0, 1) := dk_42 (dk_at dksX1_key_1 5 rfl rfl)
theorem dX1_key_30 : decode cX1_key 30 = .ok (.getfield 7, 3) := dk_180 0 7 (dk_at dksX1_key_1 6 rfl rfl)
theorem dX1_key_33 : decode cX1_key 33 = .ok (.iload 6, 2) := dk_21 6 (dk_at dksX1_key_1 9 rfl rfl)
theorem dX1_key_35 : decode cX1_key 35 = .ok (.bipush 8, 2) := dk_16 8 (dk_at dksX1_key_1 11 rfl rfl)
theorem dX1_key_37 : decode cX1_key 37 = .ok (.iadd, 1) := dk_96 (dk_at dksX1_key_1 13 rfl rfl)
theorem dX1_key_38 : decode cX1_key 38 = .ok (.iload 4, 2) := dk_21 4 (dk_at dksX1_key_1 14 rfl rfl)
theorem dX1_key_40 : decode cX1_key 40 = .ok (.invokestatic 19, 3) := dk_184 0 19 (dk_at dksX1_key_1 16 rfl rfl)
theorem dX1_key_43 : decode cX1_key 43 = .ok (.aload_n 0, 1) := dk_42 (dk_at dksX1_key_1 19 rfl rfl)
theorem dX1_key_44 : decode cX1_key 44 = .ok (.getfield 7, 3) := dk_180 0 7 (dk_at dksX1_key_1 20 rfl rfl)
theorem dX1_key_47 : decode cX1_key 47 = .ok (.iload 6, 2) := dk_21 6 (dk_at dksX1_key_2 0 rfl rfl)
theorem dX1_key_49 : decode cX1_key 49 = .ok (.bipush 12, 2) := dk_16 12 (dk_at dksX1_key_2 2 rfl rfl)
theorem dX1_key_51 : decode cX1_key 51 = .ok (.iadd, 1) := dk_96 (dk_at dksX1_key_2 4 rfl rfl)
theorem dX1_key_52 : decode cX1_key 52 = .ok (.iload 5, 2) := dk_21 5 (dk_at dksX1_key_2 5 rfl rfl)
theorem dX1_key_54 : decode cX1_key 54 = .ok (.invokestatic 19, 3) := dk_184 0 19 (dk_at dksX1_key_2 7 rfl rfl)
theorem dX1_key_57 : decode cX1_key 57 = .ok (.return_, 1) := dk_177 (dk_at dksX1_key_2 10 rfl rfl)
abbrev cX1_word : ByteArray := prog_8_method_2_code
def yX1_word : MethodName := ⟨RX1, "word", "([BII)V"⟩
def dkwX1_word_1 : List UInt8 := [16, 8, 122, 145, 84, 42, 27, 6, 96, 28, 145, 84, 177]
abbrev dktX1_word_1 : List UInt8 := dkwX1_word_1 ++ []
def dkwX1_word_0 : List UInt8 := [42, 27, 28, 16, 24, 122, 145, 84, 42, 27, 4, 96, 28, 16, 16, 122, 145, 84, 42, 27, 5, 96, 28]
abbrev dktX1_word_0 : List UInt8 := dkwX1_word_0 ++ dktX1_word_1
theorem dksX1_word_0 : cX1_word.data.toList.drop 0 = dktX1_word_0 := by decide +kernel
theorem dksX1_word_1 : cX1_word.data.toList.drop 23 = dktX1_word_1 := dk_seg dksX1_word_0 23 rfl rfl
theorem dX1_word_0 : decode cX1_word 0 = .ok (.aload_n 0, 1) := dk_42 (dk_at dksX1_word_0 0 rfl rfl)
theorem dX1_word_1 : decode cX1_word 1 = .ok (.iload_n 1, 1) := dk_27 (dk_at dksX1_word_0 1 rfl rfl)
theorem dX1_word_2 : decode cX1_word 2 = .ok (.iload_n 2, 1) := dk_28 (dk_at dksX1_word_0 2 rfl rfl)
theorem dX1_word_3 : decode cX1_word 3 = .ok (.bipush 24, 2) := dk_16 24 (dk_at dksX1_word_0 3 rfl rfl)
theorem dX1_word_5 : decode cX1_word 5 = .ok (.ishr, 1) := dk_122 (dk_at dksX1_word_0 5 rfl rfl)
theorem dX1_word_6 : decode cX1_word 6 = .ok (.i2b, 1) := dk_145 (dk_at dksX1_word_0 6 rfl rfl)
theorem dX1_word_7 : decode cX1_word 7 = .ok (.bastore, 1) := dk_84 (dk_at dksX1_word_0 7 rfl rfl)
theorem dX1_word_8 : decode cX1_word 8 = .ok (.aload_n 0, 1) := dk_42 (dk_at dksX1_word_0 8 rfl rfl)
theorem dX1_word_9 : decode cX1_word 9 = .ok (.iload_n 1, 1) := dk_27 (dk_at dksX1_word_0 9 rfl rfl)
theorem dX1_word_10 : decode cX1_word 10 = .ok (.iconst 1, 1) := dk_4 (dk_at dksX1_word_0 10 rfl rfl)
theorem dX1_word_11 : decode cX1_word 11 = .ok (.iadd, 1) := dk_96 (dk_at dksX1_word_0 11 rfl rfl)
theorem dX1_word_12 : decode cX1_word 12 = .ok (.iload_n 2, 1) := dk_28 (dk_at dksX1_word_0 12 rfl rfl)
theorem dX1_word_13 : decode cX1_word 13 = .ok (.bipush 16, 2) := dk_16 16 (dk_at dksX1_word_0 13 rfl rfl)
theorem dX1_word_15 : decode cX1_word 15 = .ok (.ishr, 1) := dk_122 (dk_at dksX1_word_0 15 rfl rfl)
theorem dX1_word_16 : decode cX1_word 16 = .ok (.i2b, 1) := dk_145 (dk_at dksX1_word_0 16 rfl rfl)
theorem dX1_word_17 : decode cX1_word 17 = .ok (.bastore, 1) := dk_84 (dk_at dksX1_word_0 17 rfl rfl)
theorem dX1_word_18 : decode cX1_word 18 = .ok (.aload_n 0, 1) := dk_42 (dk_at dksX1_word_0 18 rfl rfl)
theorem dX1_word_19 : decode cX1_word 19 = .ok (.iload_n 1, 1) := dk_27 (dk_at dksX1_word_0 19 rfl rfl)
theorem dX1_word_20 : decode cX1_word 20 = .ok (.iconst 2, 1) := dk_5 (dk_at dksX1_word_0 20 rfl rfl)
theorem dX1_word_21 : decode cX1_word 21 = .ok (.iadd, 1) := dk_96 (dk_at dksX1_word_0 21 rfl rfl)
theorem dX1_word_22 : decode cX1_word 22 = .ok (.iload_n 2, 1) := dk_28 (dk_at dksX1_word_0 22 rfl rfl)
theorem dX1_word_23 : decode cX1_word 23 = .ok (.bipush 8, 2) := dk_16 8 (dk_at dksX1_word_1 0 rfl rfl)
theorem dX1_word_25 : decode cX1_word 25 = .ok (.ishr, 1) := dk_122 (dk_at dksX1_word_1 2 rfl rfl)
theorem dX1_word_26 : decode cX1_word 26 = .ok (.i2b, 1) := dk_145 (dk_at dksX1_word_1 3 rfl rfl)
theorem dX1_word_27 : decode cX1_word 27 = .ok (.bastore, 1) := dk_84 (dk_at dksX1_word_1 4 rfl rfl)
theorem dX1_word_28 : decode cX1_word 28 = .ok (.aload_n 0, 1) := dk_42 (dk_at dksX1_word_1 5 rfl rfl)
theorem dX1_word_29 : decode cX1_word 29 = .ok (.iload_n 1, 1) := dk_27 (dk_at dksX1_word_1 6 rfl rfl)
theorem dX1_word_30 : decode cX1_word 30 = .ok (.iconst 3, 1) := dk_6 (dk_at dksX1_word_1 7 rfl rfl)
theorem dX1_word_31 : decode cX1_word 31 = .ok (.iadd, 1) := dk_96 (dk_at dksX1_word_1 8 rfl rfl)
theorem dX1_word_32 : decode cX1_word 32 = .ok (.iload_n 2, 1) := dk_28 (dk_at dksX1_word_1 9 rfl rfl)
theorem dX1_word_33 : decode cX1_word 33 = .ok (.i2b, 1) := dk_145 (dk_at dksX1_word_1 10 rfl rfl)
theorem dX1_word_34 : decode cX1_word 34 = .ok (.bastore, 1) := dk_84 (dk_at dksX1_word_1 11 rfl rfl)
theorem dX1_word_35 : decode cX1_word 35 = .ok (.return_, 1) := dk_177 (dk_at dksX1_word_1 12 rfl rfl)
abbrev cX1_block : ByteArray := prog_8_method_4_code
def yX1_block : MethodName := ⟨RX1, "block", "(II)V"⟩
def dkwX1_block_0 : List UInt8 := [42, 180, 0, 13, 3, 27, 184, 0, 19, 42, 180, 0, 13, 7, 28, 184, 0, 19, 177]
abbrev dktX1_block_0 : List UInt8 := dkwX1_block_0 ++ []
theorem dksX1_block_0 : cX1_block.data.toList.drop 0 = dktX1_block_0 := by decide +kernel
theorem dX1_block_0 : decode cX1_block 0 = .ok (.aload_n 0, 1) := dk_42 (dk_at dksX1_block_0 0 rfl rfl)
theorem dX1_block_1 : decode cX1_block 1 = .ok (.getfield 13, 3) := dk_180 0 13 (dk_at dksX1_block_0 1 rfl rfl)
theorem dX1_block_4 : decode cX1_block 4 = .ok (.iconst 0, 1) := dk_3 (dk_at dksX1_block_0 4 rfl rfl)
theorem dX1_block_5 : decode cX1_block 5 = .ok (.iload_n 1, 1) := dk_27 (dk_at dksX1_block_0 5 rfl rfl)
theorem dX1_block_6 : decode cX1_block 6 = .ok (.invokestatic 19, 3) := dk_184 0 19 (dk_at dksX1_block_0 6 rfl rfl)
theorem dX1_block_9 : decode cX1_block 9 = .ok (.aload_n 0, 1) := dk_42 (dk_at dksX1_block_0 9 rfl rfl)
theorem dX1_block_10 : decode cX1_block 10 = .ok (.getfield 13, 3) := dk_180 0 13 (dk_at dksX1_block_0 10 rfl rfl)
theorem dX1_block_13 : decode cX1_block 13 = .ok (.iconst 4, 1) := dk_7 (dk_at dksX1_block_0 13 rfl rfl)
theorem dX1_block_14 : decode cX1_block 14 = .ok (.iload_n 2, 1) := dk_28 (dk_at dksX1_block_0 14 rfl rfl)
theorem dX1_block_15 : decode cX1_block 15 = .ok (.invokestatic 19, 3) := dk_184 0 19 (dk_at dksX1_block_0 15 rfl rfl)
theorem dX1_block_18 : decode cX1_block 18 = .ok (.return_, 1) := dk_177 (dk_at dksX1_block_0 18 rfl rfl)
abbrev cX1_out : ByteArray := prog_8_method_10_code
def yX1_out : MethodName := ⟨RX1, "out", "(I)I"⟩
def dkwX1_out_0 : List UInt8 := [42, 180, 0, 16, 27, 16, 7, 126, 51, 17, 0, 255, 126, 172]
abbrev dktX1_out_0 : List UInt8 := dkwX1_out_0 ++ []
theorem dksX1_out_0 : cX1_out.data.toList.drop 0 = dktX1_out_0 := by decide +kernel
theorem dX1_out_0 : decode cX1_out 0 = .ok (.aload_n 0, 1) := dk_42 (dk_at dksX1_out_0 0 rfl rfl)
theorem dX1_out_1 : decode cX1_out 1 = .ok (.getfield 16, 3) := dk_180 0 16 (dk_at dksX1_out_0 1 rfl rfl)
theorem dX1_out_4 : decode cX1_out 4 = .ok (.iload_n 1, 1) := dk_27 (dk_at dksX1_out_0 4 rfl rfl)
theorem dX1_out_5 : decode cX1_out 5 = .ok (.bipush 7, 2) := dk_16 7 (dk_at dksX1_out_0 5 rfl rfl)
theorem dX1_out_7 : decode cX1_out 7 = .ok (.iand, 1) := dk_126 (dk_at dksX1_out_0 7 rfl rfl)
theorem dX1_out_8 : decode cX1_out 8 = .ok (.baload, 1) := dk_51 (dk_at dksX1_out_0 8 rfl rfl)
theorem dX1_out_9 : decode cX1_out 9 = .ok (.sipush 255, 3) := dk_17 0 255 (dk_at dksX1_out_0 9 rfl rfl)
theorem dX1_out_12 : decode cX1_out 12 = .ok (.iand, 1) := dk_126 (dk_at dksX1_out_0 12 rfl rfl)
theorem dX1_out_13 : decode cX1_out 13 = .ok (.ireturn, 1) := dk_172 (dk_at dksX1_out_0 13 rfl rfl)
theorem q7 : (Jvm.Cond.initialized "RcTwoDesk") ∈ lw_all := lw_g (lw_at lw_m1 1 rfl) rfl
theorem q20 : (Jvm.Cond.instanceMethod ({ cls := "RcTwoDesk", name := "lock", desc := "(I)V" } : Jvm.MethodName)) ∈ lw_all := lw_g (lw_at lw_m1 14 rfl) rfl
theorem q21 : (Jvm.Cond.selects "RcTwoDesk" ({ cls := "RcTwoDesk", name := "lock", desc := "(I)V" } : Jvm.MethodName) ({ cls := "RcTwoDesk", name := "lock", desc := "(I)V" } : Jvm.MethodName)) ∈ lw_all := lw_g (lw_at lw_m1 15 rfl) rfl
theorem q22 : (Jvm.Cond.code ({ cls := "RcTwoDesk", name := "lock", desc := "(I)V" } : Jvm.MethodName) prog_8_method_7_code (2 : Nat) (Option.none : Option Jvm.ClassFile.FieldType)) ∈ lw_all := lw_g (lw_at lw_m1 16 rfl) rfl
theorem q23 : (Jvm.Cond.methodLink "RcTwoDesk" (45 : Nat) ({ cls := "RcTwoDesk", name := "run", desc := "(ZI)V" } : Jvm.MethodName)) ∈ lw_all := lw_g (lw_at lw_m1 17 rfl) rfl
theorem q24 : (Jvm.Cond.privateMethod ({ cls := "RcTwoDesk", name := "run", desc := "(ZI)V" } : Jvm.MethodName)) ∈ lw_tbl := lw_at lw_m1 18 rfl
theorem q25 : (Jvm.Cond.instanceMethod ({ cls := "RcTwoDesk", name := "run", desc := "(ZI)V" } : Jvm.MethodName)) ∈ lw_all := lw_g (lw_at lw_m1 19 rfl) rfl
theorem q26 : (Jvm.Cond.instantiable "RcTwoDesk" (3 : Nat)) ∈ lw_all := lw_g (lw_at lw_m1 20 rfl) rfl
theorem q27 : (Jvm.Cond.code ({ cls := "RcTwoDesk", name := "run", desc := "(ZI)V" } : Jvm.MethodName) prog_8_method_5_code (6 : Nat) (Option.none : Option Jvm.ClassFile.FieldType)) ∈ lw_all := lw_g (lw_at lw_m1 21 rfl) rfl
theorem q28 : (Jvm.Cond.methodLink "RcTwoDesk" (23 : Nat) ({ cls := "RcTwoDesk", name := "size", desc := "(I)I" } : Jvm.MethodName)) ∈ lw_all := lw_g (lw_at lw_m1 22 rfl) rfl
theorem q29 : (Jvm.Cond.static ({ cls := "RcTwoDesk", name := "size", desc := "(I)I" } : Jvm.MethodName)) ∈ lw_all := lw_g (lw_at lw_m1 23 rfl) rfl
theorem q30 : (Jvm.Cond.code ({ cls := "RcTwoDesk", name := "size", desc := "(I)I" } : Jvm.MethodName) prog_8_method_6_code (1 : Nat) (Option.some Jvm.ClassFile.FieldType.int)) ∈ lw_all := lw_g (lw_at lw_m1 24 rfl) rfl
theorem q31 : (Jvm.Cond.classLink "RcTwoDesk" (27 : Nat) "RC2Engine") ∈ lw_all := lw_g (lw_at lw_m1 25 rfl) rfl
theorem q33 : (Jvm.Cond.methodLink "RcTwoDesk" (29 : Nat) ({ cls := "RC2Engine", name := "<init>", desc := "()V" } : Jvm.MethodName)) ∈ lw_all := lw_g (lw_at lw_m1 27 rfl) rfl
theorem q47 : (Jvm.Cond.classLink "RcTwoDesk" (30 : Nat) "KeyParameter") ∈ lw_all := lw_g (lw_at lw_m1 41 rfl) rfl
theorem q49 : (Jvm.Cond.methodLink "RcTwoDesk" (32 : Nat) ({ cls := "KeyParameter", name := "<init>", desc := "([B)V" } : Jvm.MethodName)) ∈ lw_all := lw_g (lw_at lw_m1 43 rfl) rfl
theorem q66 : (Jvm.Cond.interfaceEntry "RcTwoDesk" (35 : Nat)) ∈ lw_tbl := lw_at lw_m1 60 rfl
theorem q67 : (Jvm.Cond.methodLink "RcTwoDesk" (35 : Nat) ({ cls := "BlockCipher", name := "init", desc := "(ZLCipherParameters;)V" } : Jvm.MethodName)) ∈ lw_all := lw_g (lw_at lw_m1 61 rfl) rfl
theorem q163 : (Jvm.Cond.interfaceEntry "RcTwoDesk" (41 : Nat)) ∈ lw_tbl := lw_at lw_m1 157 rfl
theorem q164 : (Jvm.Cond.methodLink "RcTwoDesk" (41 : Nat) ({ cls := "BlockCipher", name := "processBlock", desc := "([BI[BI)I" } : Jvm.MethodName)) ∈ lw_all := lw_g (lw_at lw_m1 158 rfl) rfl
theorem q239 : (Jvm.Cond.instanceMethod ({ cls := "RcTwoDesk", name := "open", desc := "(I)V" } : Jvm.MethodName)) ∈ lw_all := lw_g (lw_at lw_m1 233 rfl) rfl
theorem q240 : (Jvm.Cond.selects "RcTwoDesk" ({ cls := "RcTwoDesk", name := "open", desc := "(I)V" } : Jvm.MethodName) ({ cls := "RcTwoDesk", name := "open", desc := "(I)V" } : Jvm.MethodName)) ∈ lw_all := lw_g (lw_at lw_m1 234 rfl) rfl
theorem q241 : (Jvm.Cond.code ({ cls := "RcTwoDesk", name := "open", desc := "(I)V" } : Jvm.MethodName) prog_8_method_8_code (2 : Nat) (Option.none : Option Jvm.ClassFile.FieldType)) ∈ lw_all := lw_g (lw_at lw_m1 235 rfl) rfl
theorem q243 : (Jvm.Cond.instanceMethod ({ cls := "RcTwoDesk", name := "again", desc := "()V" } : Jvm.MethodName)) ∈ lw_all := lw_g (lw_at lw_m1 237 rfl) rfl
theorem q244 : (Jvm.Cond.selects "RcTwoDesk" ({ cls := "RcTwoDesk", name := "again", desc := "()V" } : Jvm.MethodName) ({ cls := "RcTwoDesk", name := "again", desc := "()V" } : Jvm.MethodName)) ∈ lw_all := lw_g (lw_at lw_m1 238 rfl) rfl
theorem q245 : (Jvm.Cond.code ({ cls := "RcTwoDesk", name := "again", desc := "()V" } : Jvm.MethodName) prog_8_method_9_code (2 : Nat) (Option.none : Option Jvm.ClassFile.FieldType)) ∈ lw_all := lw_g (lw_at lw_m1 239 rfl) rfl
theorem q251 : (Jvm.Cond.instanceMethod ({ cls := "RcTwoDesk", name := "<init>", desc := "()V" } : Jvm.MethodName)) ∈ lw_all := lw_g (lw_at lw_m2 5 rfl) rfl
theorem q252 : (Jvm.Cond.code ({ cls := "RcTwoDesk", name := "<init>", desc := "()V" } : Jvm.MethodName) prog_8_method_1_code (1 : Nat) (Option.none : Option Jvm.ClassFile.FieldType)) ∈ lw_all := lw_g (lw_at lw_m2 6 rfl) rfl
theorem q253 : (Jvm.Cond.methodLink "RcTwoDesk" (1 : Nat) ({ cls := "java/lang/Object", name := "<init>", desc := "()V" } : Jvm.MethodName)) ∈ lw_all := lw_g (lw_at lw_m2 7 rfl) rfl
theorem q254 : (Jvm.Cond.fieldLink "RcTwoDesk" (7 : Nat) "RcTwoDesk" "key" "[B") ∈ lw_all := lw_g (lw_at lw_m2 8 rfl) rfl
theorem q255 : (Jvm.Cond.fieldLink "RcTwoDesk" (13 : Nat) "RcTwoDesk" "block" "[B") ∈ lw_all := lw_g (lw_at lw_m2 9 rfl) rfl
theorem q256 : (Jvm.Cond.fieldLink "RcTwoDesk" (16 : Nat) "RcTwoDesk" "out" "[B") ∈ lw_all := lw_g (lw_at lw_m2 10 rfl) rfl
theorem q257 : (Jvm.Cond.laysFinal "RcTwoDesk" "RcTwoDesk" "key" "[B") ∈ lw_all := lw_g (lw_at lw_m2 11 rfl) rfl
theorem q258 : (Jvm.Cond.soleField "RcTwoDesk" "key") ∈ lw_all := lw_g (lw_at lw_m2 12 rfl) rfl
theorem q259 : (Jvm.Cond.laysFinal "RcTwoDesk" "RcTwoDesk" "block" "[B") ∈ lw_all := lw_g (lw_at lw_m2 13 rfl) rfl
theorem q260 : (Jvm.Cond.soleField "RcTwoDesk" "block") ∈ lw_all := lw_g (lw_at lw_m2 14 rfl) rfl
theorem q261 : (Jvm.Cond.laysFinal "RcTwoDesk" "RcTwoDesk" "out" "[B") ∈ lw_all := lw_g (lw_at lw_m2 15 rfl) rfl
theorem q262 : (Jvm.Cond.soleField "RcTwoDesk" "out") ∈ lw_all := lw_g (lw_at lw_m2 16 rfl) rfl
theorem q263 : (Jvm.Cond.superclass "RcTwoDesk" "java/lang/Object") ∈ lw_all := lw_g (lw_at lw_m2 17 rfl) rfl
theorem q268 : (Jvm.Cond.instanceMethod ({ cls := "RcTwoDesk", name := "key", desc := "(IIIII)V" } : Jvm.MethodName)) ∈ lw_all := lw_g (lw_at lw_m2 22 rfl) rfl
theorem q269 : (Jvm.Cond.selects "RcTwoDesk" ({ cls := "RcTwoDesk", name := "key", desc := "(IIIII)V" } : Jvm.MethodName) ({ cls := "RcTwoDesk", name := "key", desc := "(IIIII)V" } : Jvm.MethodName)) ∈ lw_all := lw_g (lw_at lw_m2 23 rfl) rfl
theorem q270 : (Jvm.Cond.code ({ cls := "RcTwoDesk", name := "key", desc := "(IIIII)V" } : Jvm.MethodName) prog_8_method_3_code (7 : Nat) (Option.none : Option Jvm.ClassFile.FieldType)) ∈ lw_all := lw_g (lw_at lw_m2 24 rfl) rfl
theorem q271 : (Jvm.Cond.methodLink "RcTwoDesk" (19 : Nat) ({ cls := "RcTwoDesk", name := "word", desc := "([BII)V" } : Jvm.MethodName)) ∈ lw_all := lw_g (lw_at lw_m2 25 rfl) rfl
theorem q272 : (Jvm.Cond.static ({ cls := "RcTwoDesk", name := "word", desc := "([BII)V" } : Jvm.MethodName)) ∈ lw_all := lw_g (lw_at lw_m2 26 rfl) rfl
theorem q273 : (Jvm.Cond.code ({ cls := "RcTwoDesk", name := "word", desc := "([BII)V" } : Jvm.MethodName) prog_8_method_2_code (3 : Nat) (Option.none : Option Jvm.ClassFile.FieldType)) ∈ lw_all := lw_g (lw_at lw_m2 27 rfl) rfl
theorem q275 : (Jvm.Cond.instanceMethod ({ cls := "RcTwoDesk", name := "block", desc := "(II)V" } : Jvm.MethodName)) ∈ lw_all := lw_g (lw_at lw_m2 29 rfl) rfl
theorem q276 : (Jvm.Cond.selects "RcTwoDesk" ({ cls := "RcTwoDesk", name := "block", desc := "(II)V" } : Jvm.MethodName) ({ cls := "RcTwoDesk", name := "block", desc := "(II)V" } : Jvm.MethodName)) ∈ lw_all := lw_g (lw_at lw_m2 30 rfl) rfl
theorem q277 : (Jvm.Cond.code ({ cls := "RcTwoDesk", name := "block", desc := "(II)V" } : Jvm.MethodName) prog_8_method_4_code (3 : Nat) (Option.none : Option Jvm.ClassFile.FieldType)) ∈ lw_all := lw_g (lw_at lw_m2 31 rfl) rfl
theorem q282 : (Jvm.Cond.instanceMethod ({ cls := "RcTwoDesk", name := "out", desc := "(I)I" } : Jvm.MethodName)) ∈ lw_all := lw_g (lw_at lw_m2 36 rfl) rfl
theorem q283 : (Jvm.Cond.selects "RcTwoDesk" ({ cls := "RcTwoDesk", name := "out", desc := "(I)I" } : Jvm.MethodName) ({ cls := "RcTwoDesk", name := "out", desc := "(I)I" } : Jvm.MethodName)) ∈ lw_all := lw_g (lw_at lw_m2 37 rfl) rfl
theorem q284 : (Jvm.Cond.code ({ cls := "RcTwoDesk", name := "out", desc := "(I)I" } : Jvm.MethodName) prog_8_method_10_code (2 : Nat) (Option.some Jvm.ClassFile.FieldType.int)) ∈ lw_all := lw_g (lw_at lw_m2 38 rfl) rfl
theorem in_X1 : ∀ w ∈ wsX10, w ∈ lw_all := lw_in wsX10 [257, 259, 261] (by decide +kernel) (by decide +kernel)
/-! KeyParameter -/
set_option maxRecDepth 100000
def RX3 : String := "KeyParameter"
def TX3 : u_T := fun k => match k with
  | _ => ("KeyParameter", "key", "[B", false)
def tyX3 : Nat → FieldType := fun k => match k with
  | _ => .array .byte
abbrev wsX30 : List Cond := u_ws RX3 TX3 1
theorem nmX3 : ∀ a, a < 1 → ∀ b, b < 1 → a ≠ b → (TX3 a).2.1 ≠ (TX3 b).2.1 := by decide +kernel
theorem tyX3_ok : ∀ k, k < 1 → parseFieldDescriptor (TX3 k).2.2.1 = some (tyX3 k) := by decide +kernel
abbrev cX3_init : ByteArray := prog_4_method_1_code
def yX3_init : MethodName := ⟨RX3, "<init>", "([B)V"⟩
def dkwX3_init_0 : List UInt8 := [42, 43, 3, 43, 190, 183, 0, 1, 177]
abbrev dktX3_init_0 : List UInt8 := dkwX3_init_0 ++ []
theorem dksX3_init_0 : cX3_init.data.toList.drop 0 = dktX3_init_0 := by decide +kernel
theorem dX3_init_0 : decode cX3_init 0 = .ok (.aload_n 0, 1) := dk_42 (dk_at dksX3_init_0 0 rfl rfl)
theorem dX3_init_1 : decode cX3_init 1 = .ok (.aload_n 1, 1) := dk_43 (dk_at dksX3_init_0 1 rfl rfl)
theorem dX3_init_2 : decode cX3_init 2 = .ok (.iconst 0, 1) := dk_3 (dk_at dksX3_init_0 2 rfl rfl)
theorem dX3_init_3 : decode cX3_init 3 = .ok (.aload_n 1, 1) := dk_43 (dk_at dksX3_init_0 3 rfl rfl)
theorem dX3_init_4 : decode cX3_init 4 = .ok (.arraylength, 1) := dk_190 (dk_at dksX3_init_0 4 rfl rfl)
theorem dX3_init_5 : decode cX3_init 5 = .ok (.invokespecial 1, 3) := dk_183 0 1 (dk_at dksX3_init_0 5 rfl rfl)
theorem dX3_init_8 : decode cX3_init 8 = .ok (.return_, 1) := dk_177 (dk_at dksX3_init_0 8 rfl rfl)
abbrev cX3_init_2 : ByteArray := prog_4_method_2_code
def yX3_init_2 : MethodName := ⟨RX3, "<init>", "([BII)V"⟩
def dkwX3_init_2_0 : List UInt8 := [42, 29, 183, 0, 7, 43, 28, 42, 180, 0, 10, 3, 29, 184, 0, 14, 177]
abbrev dktX3_init_2_0 : List UInt8 := dkwX3_init_2_0 ++ []
theorem dksX3_init_2_0 : cX3_init_2.data.toList.drop 0 = dktX3_init_2_0 := by decide +kernel
theorem dX3_init_2_0 : decode cX3_init_2 0 = .ok (.aload_n 0, 1) := dk_42 (dk_at dksX3_init_2_0 0 rfl rfl)
theorem dX3_init_2_1 : decode cX3_init_2 1 = .ok (.iload_n 3, 1) := dk_29 (dk_at dksX3_init_2_0 1 rfl rfl)
theorem dX3_init_2_2 : decode cX3_init_2 2 = .ok (.invokespecial 7, 3) := dk_183 0 7 (dk_at dksX3_init_2_0 2 rfl rfl)
theorem dX3_init_2_5 : decode cX3_init_2 5 = .ok (.aload_n 1, 1) := dk_43 (dk_at dksX3_init_2_0 5 rfl rfl)
theorem dX3_init_2_6 : decode cX3_init_2 6 = .ok (.iload_n 2, 1) := dk_28 (dk_at dksX3_init_2_0 6 rfl rfl)
theorem dX3_init_2_7 : decode cX3_init_2 7 = .ok (.aload_n 0, 1) := dk_42 (dk_at dksX3_init_2_0 7 rfl rfl)
theorem dX3_init_2_8 : decode cX3_init_2 8 = .ok (.getfield 10, 3) := dk_180 0 10 (dk_at dksX3_init_2_0 8 rfl rfl)
theorem dX3_init_2_11 : decode cX3_init_2 11 = .ok (.iconst 0, 1) := dk_3 (dk_at dksX3_init_2_0 11 rfl rfl)
theorem dX3_init_2_12 : decode cX3_init_2 12 = .ok (.iload_n 3, 1) := dk_29 (dk_at dksX3_init_2_0 12 rfl rfl)
theorem dX3_init_2_13 : decode cX3_init_2 13 = .ok (.invokestatic 14, 3) := dk_184 0 14 (dk_at dksX3_init_2_0 13 rfl rfl)
theorem dX3_init_2_16 : decode cX3_init_2 16 = .ok (.return_, 1) := dk_177 (dk_at dksX3_init_2_0 16 rfl rfl)
abbrev cX3_init_3 : ByteArray := prog_4_method_3_code
def yX3_init_3 : MethodName := ⟨RX3, "<init>", "(I)V"⟩
def dkwX3_init_3_0 : List UInt8 := [42, 183, 0, 20, 42, 27, 188, 8, 181, 0, 10, 177]
abbrev dktX3_init_3_0 : List UInt8 := dkwX3_init_3_0 ++ []
theorem dksX3_init_3_0 : cX3_init_3.data.toList.drop 0 = dktX3_init_3_0 := by decide +kernel
theorem dX3_init_3_0 : decode cX3_init_3 0 = .ok (.aload_n 0, 1) := dk_42 (dk_at dksX3_init_3_0 0 rfl rfl)
theorem dX3_init_3_1 : decode cX3_init_3 1 = .ok (.invokespecial 20, 3) := dk_183 0 20 (dk_at dksX3_init_3_0 1 rfl rfl)
theorem dX3_init_3_4 : decode cX3_init_3 4 = .ok (.aload_n 0, 1) := dk_42 (dk_at dksX3_init_3_0 4 rfl rfl)
theorem dX3_init_3_5 : decode cX3_init_3 5 = .ok (.iload_n 1, 1) := dk_27 (dk_at dksX3_init_3_0 5 rfl rfl)
theorem dX3_init_3_6 : decode cX3_init_3 6 = .ok (.newarray .byte, 2) := dk_188_8 (dk_at dksX3_init_3_0 6 rfl rfl)
theorem dX3_init_3_8 : decode cX3_init_3 8 = .ok (.putfield 10, 3) := dk_181 0 10 (dk_at dksX3_init_3_0 8 rfl rfl)
theorem dX3_init_3_11 : decode cX3_init_3 11 = .ok (.return_, 1) := dk_177 (dk_at dksX3_init_3_0 11 rfl rfl)
abbrev cX3_getKey : ByteArray := prog_4_method_4_code
def yX3_getKey : MethodName := ⟨RX3, "getKey", "()[B"⟩
theorem dX3_getKey_0 : decode cX3_getKey 0 = .ok (.aload_n 0, 1) := by decide +kernel
theorem dX3_getKey_1 : decode cX3_getKey 1 = .ok (.getfield 10, 3) := by decide +kernel
theorem dX3_getKey_4 : decode cX3_getKey 4 = .ok (.areturn, 1) := by decide +kernel
theorem q9 : (Jvm.Cond.initialized "KeyParameter") ∈ lw_all := lw_g (lw_at lw_m1 3 rfl) rfl
theorem q48 : (Jvm.Cond.instantiable "KeyParameter" (1 : Nat)) ∈ lw_all := lw_g (lw_at lw_m1 42 rfl) rfl
theorem q50 : (Jvm.Cond.instanceMethod ({ cls := "KeyParameter", name := "<init>", desc := "([B)V" } : Jvm.MethodName)) ∈ lw_all := lw_g (lw_at lw_m1 44 rfl) rfl
theorem q51 : (Jvm.Cond.code ({ cls := "KeyParameter", name := "<init>", desc := "([B)V" } : Jvm.MethodName) prog_4_method_1_code (2 : Nat) (Option.none : Option Jvm.ClassFile.FieldType)) ∈ lw_all := lw_g (lw_at lw_m1 45 rfl) rfl
theorem q52 : (Jvm.Cond.methodLink "KeyParameter" (1 : Nat) ({ cls := "KeyParameter", name := "<init>", desc := "([BII)V" } : Jvm.MethodName)) ∈ lw_all := lw_g (lw_at lw_m1 46 rfl) rfl
theorem q53 : (Jvm.Cond.instanceMethod ({ cls := "KeyParameter", name := "<init>", desc := "([BII)V" } : Jvm.MethodName)) ∈ lw_all := lw_g (lw_at lw_m1 47 rfl) rfl
theorem q54 : (Jvm.Cond.code ({ cls := "KeyParameter", name := "<init>", desc := "([BII)V" } : Jvm.MethodName) prog_4_method_2_code (4 : Nat) (Option.none : Option Jvm.ClassFile.FieldType)) ∈ lw_all := lw_g (lw_at lw_m1 48 rfl) rfl
theorem q55 : (Jvm.Cond.methodLink "KeyParameter" (7 : Nat) ({ cls := "KeyParameter", name := "<init>", desc := "(I)V" } : Jvm.MethodName)) ∈ lw_all := lw_g (lw_at lw_m1 49 rfl) rfl
theorem q56 : (Jvm.Cond.instanceMethod ({ cls := "KeyParameter", name := "<init>", desc := "(I)V" } : Jvm.MethodName)) ∈ lw_all := lw_g (lw_at lw_m1 50 rfl) rfl
theorem q57 : (Jvm.Cond.code ({ cls := "KeyParameter", name := "<init>", desc := "(I)V" } : Jvm.MethodName) prog_4_method_3_code (2 : Nat) (Option.none : Option Jvm.ClassFile.FieldType)) ∈ lw_all := lw_g (lw_at lw_m1 51 rfl) rfl
theorem q58 : (Jvm.Cond.methodLink "KeyParameter" (20 : Nat) ({ cls := "java/lang/Object", name := "<init>", desc := "()V" } : Jvm.MethodName)) ∈ lw_all := lw_g (lw_at lw_m1 52 rfl) rfl
theorem q59 : (Jvm.Cond.fieldLink "KeyParameter" (10 : Nat) "KeyParameter" "key" "[B") ∈ lw_all := lw_g (lw_at lw_m1 53 rfl) rfl
theorem q60 : (Jvm.Cond.lays "KeyParameter" "KeyParameter" "key" "[B") ∈ lw_all := lw_g (lw_at lw_m1 54 rfl) rfl
theorem q61 : (Jvm.Cond.soleField "KeyParameter" "key") ∈ lw_all := lw_g (lw_at lw_m1 55 rfl) rfl
theorem q62 : (Jvm.Cond.superclass "KeyParameter" "java/lang/Object") ∈ lw_all := lw_g (lw_at lw_m1 56 rfl) rfl
theorem q63 : (Jvm.Cond.methodLink "KeyParameter" (14 : Nat) ({ cls := "java/lang/System", name := "arraycopy", desc := "(Ljava/lang/Object;ILjava/lang/Object;II)V" } : Jvm.MethodName)) ∈ lw_all := lw_g (lw_at lw_m1 57 rfl) rfl
theorem q79 : (Jvm.Cond.declares ({ cls := "KeyParameter", name := "getKey", desc := "()[B" } : Jvm.MethodName)) ∈ lw_tbl := lw_at lw_m1 73 rfl
theorem q80 : (Jvm.Cond.instanceMethod ({ cls := "KeyParameter", name := "getKey", desc := "()[B" } : Jvm.MethodName)) ∈ lw_all := lw_g (lw_at lw_m1 74 rfl) rfl
theorem q81 : (Jvm.Cond.code ({ cls := "KeyParameter", name := "getKey", desc := "()[B" } : Jvm.MethodName) prog_4_method_4_code (1 : Nat) (Option.some (Jvm.ClassFile.FieldType.array Jvm.ClassFile.FieldType.byte))) ∈ lw_all := lw_g (lw_at lw_m1 75 rfl) rfl
theorem q292 : (Jvm.Cond.selects "KeyParameter" ({ cls := "KeyParameter", name := "getKey", desc := "()[B" } : Jvm.MethodName) ({ cls := "KeyParameter", name := "getKey", desc := "()[B" } : Jvm.MethodName)) ∈ lw_all := lw_g (lw_at lw_m2 46 rfl) rfl
theorem in_X3 : ∀ w ∈ wsX30, w ∈ lw_all := lw_in wsX30 [60] (by decide +kernel) (by decide +kernel)
/-! the law's own entry -/
set_option maxRecDepth 100000
abbrev cL_law : ByteArray := code
def dkwL_law_4 : List UInt8 := [25, 7, 42, 184, 0, 50, 154, 0, 5, 3, 172, 132, 4, 1, 167, 255, 171, 4, 172]
abbrev dktL_law_4 : List UInt8 := dkwL_law_4 ++ []
def dkwL_law_3 : List UInt8 := [182, 0, 44, 25, 7, 182, 0, 47, 25, 7, 21, 5, 182, 0, 32, 25, 6, 42, 184, 0, 50, 153, 0, 12]
abbrev dktL_law_3 : List UInt8 := dkwL_law_3 ++ dktL_law_4
def dkwL_law_2 : List UInt8 := [25, 6, 21, 5, 182, 0, 32, 25, 7, 21, 5, 182, 0, 44, 25, 6, 182, 0, 47, 25, 6, 21, 5]
abbrev dktL_law_2 : List UInt8 := dkwL_law_2 ++ dktL_law_3
def dkwL_law_1 : List UInt8 := [21, 4, 29, 162, 0, 85, 44, 21, 4, 46, 54, 5, 42, 184, 0, 40, 58, 6, 42, 184, 0, 40, 58, 7]
abbrev dktL_law_1 : List UInt8 := dkwL_law_1 ++ dktL_law_2
def dkwL_law_0 : List UInt8 := [184, 0, 36, 154, 0, 5, 3, 172, 4, 188, 10, 89, 3, 3, 79, 76, 43, 77, 44, 190, 62, 3, 54, 4]
abbrev dktL_law_0 : List UInt8 := dkwL_law_0 ++ dktL_law_1
theorem dksL_law_0 : cL_law.data.toList.drop 0 = dktL_law_0 := by decide +kernel
theorem dksL_law_1 : cL_law.data.toList.drop 24 = dktL_law_1 := dk_seg dksL_law_0 24 rfl rfl
theorem dksL_law_2 : cL_law.data.toList.drop 48 = dktL_law_2 := dk_seg dksL_law_1 24 rfl rfl
theorem dksL_law_3 : cL_law.data.toList.drop 71 = dktL_law_3 := dk_seg dksL_law_2 23 rfl rfl
theorem dksL_law_4 : cL_law.data.toList.drop 95 = dktL_law_4 := dk_seg dksL_law_3 24 rfl rfl
theorem dL_law_0 : decode cL_law 0 = .ok (.invokestatic 36, 3) := dk_184 0 36 (dk_at dksL_law_0 0 rfl rfl)
theorem dL_law_3 : decode cL_law 3 = .ok (.ifCond .ne 5, 3) := dk_154 0 5 (dk_at dksL_law_0 3 rfl rfl)
theorem dL_law_6 : decode cL_law 6 = .ok (.iconst 0, 1) := dk_3 (dk_at dksL_law_0 6 rfl rfl)
theorem dL_law_7 : decode cL_law 7 = .ok (.ireturn, 1) := dk_172 (dk_at dksL_law_0 7 rfl rfl)
theorem dL_law_8 : decode cL_law 8 = .ok (.iconst 1, 1) := dk_4 (dk_at dksL_law_0 8 rfl rfl)
theorem dL_law_9 : decode cL_law 9 = .ok (.newarray .int, 2) := dk_188_10 (dk_at dksL_law_0 9 rfl rfl)
theorem dL_law_11 : decode cL_law 11 = .ok (.dup, 1) := dk_89 (dk_at dksL_law_0 11 rfl rfl)
theorem dL_law_12 : decode cL_law 12 = .ok (.iconst 0, 1) := dk_3 (dk_at dksL_law_0 12 rfl rfl)
theorem dL_law_13 : decode cL_law 13 = .ok (.iconst 0, 1) := dk_3 (dk_at dksL_law_0 13 rfl rfl)
theorem dL_law_14 : decode cL_law 14 = .ok (.iastore, 1) := dk_79 (dk_at dksL_law_0 14 rfl rfl)
theorem dL_law_15 : decode cL_law 15 = .ok (.astore_n 1, 1) := dk_76 (dk_at dksL_law_0 15 rfl rfl)
theorem dL_law_16 : decode cL_law 16 = .ok (.aload_n 1, 1) := dk_43 (dk_at dksL_law_0 16 rfl rfl)
theorem dL_law_17 : decode cL_law 17 = .ok (.astore_n 2, 1) := dk_77 (dk_at dksL_law_0 17 rfl rfl)
theorem dL_law_18 : decode cL_law 18 = .ok (.aload_n 2, 1) := dk_44 (dk_at dksL_law_0 18 rfl rfl)
theorem dL_law_19 : decode cL_law 19 = .ok (.arraylength, 1) := dk_190 (dk_at dksL_law_0 19 rfl rfl)
theorem dL_law_20 : decode cL_law 20 = .ok (.istore_n 3, 1) := dk_62 (dk_at dksL_law_0 20 rfl rfl)
theorem dL_law_21 : decode cL_law 21 = .ok (.iconst 0, 1) := dk_3 (dk_at dksL_law_0 21 rfl rfl)
theorem dL_law_22 : decode cL_law 22 = .ok (.istore 4, 2) := dk_54 4 (dk_at dksL_law_0 22 rfl rfl)
theorem dL_law_24 : decode cL_law 24 = .ok (.iload 4, 2) := dk_21 4 (dk_at dksL_law_1 0 rfl rfl)
theorem dL_law_26 : decode cL_law 26 = .ok (.iload_n 3, 1) := dk_29 (dk_at dksL_law_1 2 rfl rfl)
theorem dL_law_27 : decode cL_law 27 = .ok (.if_icmp .ge 85, 3) := dk_162 0 85 (dk_at dksL_law_1 3 rfl rfl)
theorem dL_law_30 : decode cL_law 30 = .ok (.aload_n 2, 1) := dk_44 (dk_at dksL_law_1 6 rfl rfl)
theorem dL_law_31 : decode cL_law 31 = .ok (.iload 4, 2) := dk_21 4 (dk_at dksL_law_1 7 rfl rfl)
theorem dL_law_33 : decode cL_law 33 = .ok (.iaload, 1) := dk_46 (dk_at dksL_law_1 9 rfl rfl)
theorem dL_law_34 : decode cL_law 34 = .ok (.istore 5, 2) := dk_54 5 (dk_at dksL_law_1 10 rfl rfl)
theorem dL_law_36 : decode cL_law 36 = .ok (.aload_n 0, 1) := dk_42 (dk_at dksL_law_1 12 rfl rfl)
theorem dL_law_37 : decode cL_law 37 = .ok (.invokestatic 40, 3) := dk_184 0 40 (dk_at dksL_law_1 13 rfl rfl)
theorem dL_law_40 : decode cL_law 40 = .ok (.astore 6, 2) := dk_58 6 (dk_at dksL_law_1 16 rfl rfl)
theorem dL_law_42 : decode cL_law 42 = .ok (.aload_n 0, 1) := dk_42 (dk_at dksL_law_1 18 rfl rfl)
theorem dL_law_43 : decode cL_law 43 = .ok (.invokestatic 40, 3) := dk_184 0 40 (dk_at dksL_law_1 19 rfl rfl)
theorem dL_law_46 : decode cL_law 46 = .ok (.astore 7, 2) := dk_58 7 (dk_at dksL_law_1 22 rfl rfl)
theorem dL_law_48 : decode cL_law 48 = .ok (.aload 6, 2) := dk_25 6 (dk_at dksL_law_2 0 rfl rfl)
theorem dL_law_50 : decode cL_law 50 = .ok (.iload 5, 2) := dk_21 5 (dk_at dksL_law_2 2 rfl rfl)
theorem dL_law_52 : decode cL_law 52 = .ok (.invokevirtual 32, 3) := dk_182 0 32 (dk_at dksL_law_2 4 rfl rfl)
theorem dL_law_55 : decode cL_law 55 = .ok (.aload 7, 2) := dk_25 7 (dk_at dksL_law_2 7 rfl rfl)
theorem dL_law_57 : decode cL_law 57 = .ok (.iload 5, 2) := dk_21 5 (dk_at dksL_law_2 9 rfl rfl)
theorem dL_law_59 : decode cL_law 59 = .ok (.invokevirtual 44, 3) := dk_182 0 44 (dk_at dksL_law_2 11 rfl rfl)
theorem dL_law_62 : decode cL_law 62 = .ok (.aload 6, 2) := dk_25 6 (dk_at dksL_law_2 14 rfl rfl)
theorem dL_law_64 : decode cL_law 64 = .ok (.invokevirtual 47, 3) := dk_182 0 47 (dk_at dksL_law_2 16 rfl rfl)
theorem dL_law_67 : decode cL_law 67 = .ok (.aload 6, 2) := dk_25 6 (dk_at dksL_law_2 19 rfl rfl)
theorem dL_law_69 : decode cL_law 69 = .ok (.iload 5, 2) := dk_21 5 (dk_at dksL_law_2 21 rfl rfl)
theorem dL_law_71 : decode cL_law 71 = .ok (.invokevirtual 44, 3) := dk_182 0 44 (dk_at dksL_law_3 0 rfl rfl)
theorem dL_law_74 : decode cL_law 74 = .ok (.aload 7, 2) := dk_25 7 (dk_at dksL_law_3 3 rfl rfl)
theorem dL_law_76 : decode cL_law 76 = .ok (.invokevirtual 47, 3) := dk_182 0 47 (dk_at dksL_law_3 5 rfl rfl)
theorem dL_law_79 : decode cL_law 79 = .ok (.aload 7, 2) := dk_25 7 (dk_at dksL_law_3 8 rfl rfl)
theorem dL_law_81 : decode cL_law 81 = .ok (.iload 5, 2) := dk_21 5 (dk_at dksL_law_3 10 rfl rfl)
theorem dL_law_83 : decode cL_law 83 = .ok (.invokevirtual 32, 3) := dk_182 0 32 (dk_at dksL_law_3 12 rfl rfl)
theorem dL_law_86 : decode cL_law 86 = .ok (.aload 6, 2) := dk_25 6 (dk_at dksL_law_3 15 rfl rfl)
theorem dL_law_88 : decode cL_law 88 = .ok (.aload_n 0, 1) := dk_42 (dk_at dksL_law_3 17 rfl rfl)
theorem dL_law_89 : decode cL_law 89 = .ok (.invokestatic 50, 3) := dk_184 0 50 (dk_at dksL_law_3 18 rfl rfl)
theorem dL_law_92 : decode cL_law 92 = .ok (.ifCond .eq 12, 3) := dk_153 0 12 (dk_at dksL_law_3 21 rfl rfl)
theorem dL_law_95 : decode cL_law 95 = .ok (.aload 7, 2) := dk_25 7 (dk_at dksL_law_4 0 rfl rfl)
theorem dL_law_97 : decode cL_law 97 = .ok (.aload_n 0, 1) := dk_42 (dk_at dksL_law_4 2 rfl rfl)
theorem dL_law_98 : decode cL_law 98 = .ok (.invokestatic 50, 3) := dk_184 0 50 (dk_at dksL_law_4 3 rfl rfl)
theorem dL_law_101 : decode cL_law 101 = .ok (.ifCond .ne 5, 3) := dk_154 0 5 (dk_at dksL_law_4 6 rfl rfl)
theorem dL_law_104 : decode cL_law 104 = .ok (.iconst 0, 1) := dk_3 (dk_at dksL_law_4 9 rfl rfl)
theorem dL_law_105 : decode cL_law 105 = .ok (.ireturn, 1) := dk_172 (dk_at dksL_law_4 10 rfl rfl)
theorem dL_law_106 : decode cL_law 106 = .ok (.iinc 4 1, 3) := dk_132 4 1 (dk_at dksL_law_4 11 rfl rfl)
theorem dL_law_109 : decode cL_law 109 = .ok (.goto (-85), 3) := dk_167 255 171 (dk_at dksL_law_4 14 rfl rfl)
theorem dL_law_112 : decode cL_law 112 = .ok (.iconst 1, 1) := dk_4 (dk_at dksL_law_4 17 rfl rfl)
theorem dL_law_113 : decode cL_law 113 = .ok (.ireturn, 1) := dk_172 (dk_at dksL_law_4 18 rfl rfl)
theorem q68 : (Jvm.Cond.interfaceMethod "BlockCipher" "BlockCipher" "init" "(ZLCipherParameters;)V") ∈ lw_tbl := lw_at lw_m1 62 rfl
set_option maxRecDepth 100000
theorem q69 : (Jvm.Cond.declares ({ cls := "BlockCipher", name := "init", desc := "(ZLCipherParameters;)V" } : Jvm.MethodName)) ∈ lw_tbl := lw_at lw_m1 63 rfl
theorem q165 : (Jvm.Cond.interfaceMethod "BlockCipher" "BlockCipher" "processBlock" "([BI[BI)I") ∈ lw_tbl := lw_at lw_m1 159 rfl
theorem q166 : (Jvm.Cond.declares ({ cls := "BlockCipher", name := "processBlock", desc := "([BI[BI)I" } : Jvm.MethodName)) ∈ lw_tbl := lw_at lw_m1 160 rfl
theorem q10 : (Jvm.Cond.initialized "java/lang/System") ∈ lw_all := lw_g (lw_at lw_m1 4 rfl) rfl
set_option maxRecDepth 100000
theorem q64 : (Jvm.Cond.static ({ cls := "java/lang/System", name := "arraycopy", desc := "(Ljava/lang/Object;ILjava/lang/Object;II)V" } : Jvm.MethodName)) ∈ lw_all := lw_g (lw_at lw_m1 58 rfl) rfl
theorem q65 : (Jvm.Cond.native ({ cls := "java/lang/System", name := "arraycopy", desc := "(Ljava/lang/Object;ILjava/lang/Object;II)V" } : Jvm.MethodName)) ∈ lw_all := lw_g (lw_at lw_m1 59 rfl) rfl
theorem q46 : (Jvm.Cond.arrayClass Jvm.ClassFile.FieldType.byte) ∈ lw_all := lw_g (lw_at lw_m1 40 rfl) rfl
set_option maxRecDepth 100000
theorem q162 : (Jvm.Cond.arrayClass Jvm.ClassFile.FieldType.int) ∈ lw_all := lw_g (lw_at lw_m1 156 rfl) rfl
/-! java/lang/Object -/
set_option maxRecDepth 100000
def RJ5 : String := "java/lang/Object"
abbrev cJ5_init : ByteArray := object_method_1_code
def yJ5_init : MethodName := ⟨RJ5, "<init>", "()V"⟩
theorem dJ5_init_0 : decode cJ5_init 0 = .ok (.return_, 1) := by decide +kernel
theorem q37 : (Jvm.Cond.instanceMethod ({ cls := "java/lang/Object", name := "<init>", desc := "()V" } : Jvm.MethodName)) ∈ lw_all := lw_g (lw_at lw_m1 31 rfl) rfl
theorem q38 : (Jvm.Cond.code ({ cls := "java/lang/Object", name := "<init>", desc := "()V" } : Jvm.MethodName) object_method_1_code (1 : Nat) (Option.none : Option Jvm.ClassFile.FieldType)) ∈ lw_all := lw_g (lw_at lw_m1 32 rfl) rfl
end
section
/-! RC2Engine -/
set_option maxRecDepth 100000
def RX2 : String := "RC2Engine"
def TX2 : u_T := fun k => match k with
  | 0 => ("RC2Engine", "workingKey", "[I", false)
  | _ => ("RC2Engine", "encrypting", "Z", false)
def tyX2 : Nat → FieldType := fun k => match k with
  | 0 => .array .int
  | _ => .boolean
abbrev wsX20 : List Cond := u_ws RX2 TX2 2
theorem nmX2 : ∀ a, a < 2 → ∀ b, b < 2 → a ≠ b → (TX2 a).2.1 ≠ (TX2 b).2.1 := by decide +kernel
theorem tyX2_ok : ∀ k, k < 2 → parseFieldDescriptor (TX2 k).2.2.1 = some (tyX2 k) := by decide +kernel
abbrev cX2_init : ByteArray := prog_6_method_1_code
def yX2_init : MethodName := ⟨RX2, "<init>", "()V"⟩
theorem dX2_init_0 : decode cX2_init 0 = .ok (.aload_n 0, 1) := by decide +kernel
theorem dX2_init_1 : decode cX2_init 1 = .ok (.invokespecial 1, 3) := by decide +kernel
theorem dX2_init_4 : decode cX2_init 4 = .ok (.return_, 1) := by decide +kernel
abbrev cX2_init_2 : ByteArray := prog_6_method_3_code
def yX2_init_2 : MethodName := ⟨RX2, "init", "(ZLCipherParameters;)V"⟩
def dkwX2_init_2_3 : List UInt8 := [182, 0, 27, 181, 0, 31, 167, 0, 13, 187, 0, 38, 89, 18, 40, 183, 0, 42, 191, 177]
abbrev dktX2_init_2_3 : List UInt8 := dkwX2_init_2_3 ++ []
def dkwX2_init_2_2 : List UInt8 := [193, 0, 35, 153, 0, 28, 44, 192, 0, 35, 182, 0, 37, 78, 42, 42, 45, 45, 190, 16, 8, 104]
abbrev dktX2_init_2_2 : List UInt8 := dkwX2_init_2_2 ++ dktX2_init_2_3
def dkwX2_init_2_1 : List UInt8 := [182, 0, 19, 25, 4, 182, 0, 23, 182, 0, 27, 181, 0, 31, 25, 4, 182, 0, 19, 78, 167, 0, 45, 44]
abbrev dktX2_init_2_1 : List UInt8 := dkwX2_init_2_1 ++ dktX2_init_2_2
def dkwX2_init_2_0 : List UInt8 := [42, 27, 181, 0, 13, 44, 193, 0, 17, 153, 0, 36, 44, 192, 0, 17, 58, 4, 42, 42, 25, 4]
abbrev dktX2_init_2_0 : List UInt8 := dkwX2_init_2_0 ++ dktX2_init_2_1
theorem dksX2_init_2_0 : cX2_init_2.data.toList.drop 0 = dktX2_init_2_0 := by decide +kernel
theorem dksX2_init_2_1 : cX2_init_2.data.toList.drop 22 = dktX2_init_2_1 := dk_seg dksX2_init_2_0 22 rfl rfl
theorem dksX2_init_2_2 : cX2_init_2.data.toList.drop 46 = dktX2_init_2_2 := dk_seg dksX2_init_2_1 24 rfl rfl
theorem dksX2_init_2_3 : cX2_init_2.data.toList.drop 68 = dktX2_init_2_3 := dk_seg dksX2_init_2_2 22 rfl rfl
theorem dX2_init_2_0 : decode cX2_init_2 0 = .ok (.aload_n 0, 1) := dk_42 (dk_at dksX2_init_2_0 0 rfl rfl)
theorem dX2_init_2_1 : decode cX2_init_2 1 = .ok (.iload_n 1, 1) := dk_27 (dk_at dksX2_init_2_0 1 rfl rfl)
theorem dX2_init_2_2 : decode cX2_init_2 2 = .ok (.putfield 13, 3) := dk_181 0 13 (dk_at dksX2_init_2_0 2 rfl rfl)
theorem dX2_init_2_5 : decode cX2_init_2 5 = .ok (.aload_n 2, 1) := dk_44 (dk_at dksX2_init_2_0 5 rfl rfl)
theorem dX2_init_2_6 : decode cX2_init_2 6 = .ok (.instanceof 17, 3) := dk_193 0 17 (dk_at dksX2_init_2_0 6 rfl rfl)
theorem dX2_init_2_9 : decode cX2_init_2 9 = .ok (.ifCond .eq 36, 3) := dk_153 0 36 (dk_at dksX2_init_2_0 9 rfl rfl)
theorem dX2_init_2_12 : decode cX2_init_2 12 = .ok (.aload_n 2, 1) := dk_44 (dk_at dksX2_init_2_0 12 rfl rfl)
theorem dX2_init_2_13 : decode cX2_init_2 13 = .ok (.checkcast 17, 3) := dk_192 0 17 (dk_at dksX2_init_2_0 13 rfl rfl)
theorem dX2_init_2_16 : decode cX2_init_2 16 = .ok (.astore 4, 2) := dk_58 4 (dk_at dksX2_init_2_0 16 rfl rfl)
theorem dX2_init_2_18 : decode cX2_init_2 18 = .ok (.aload_n 0, 1) := dk_42 (dk_at dksX2_init_2_0 18 rfl rfl)
theorem dX2_init_2_19 : decode cX2_init_2 19 = .ok (.aload_n 0, 1) := dk_42 (dk_at dksX2_init_2_0 19 rfl rfl)
theorem dX2_init_2_20 : decode cX2_init_2 20 = .ok (.aload 4, 2) := dk_25 4 (dk_at dksX2_init_2_0 20 rfl rfl)
theorem dX2_init_2_22 : decode cX2_init_2 22 = .ok (.invokevirtual 19, 3) := dk_182 0 19 (dk_at dksX2_init_2_1 0 rfl rfl)
theorem dX2_init_2_25 : decode cX2_init_2 25 = .ok (.aload 4, 2) := dk_25 4 (dk_at dksX2_init_2_1 3 rfl rfl)
theorem dX2_init_2_27 : decode cX2_init_2 27 = .ok (.invokevirtual 23, 3) := dk_182 0 23 (dk_at dksX2_init_2_1 5 rfl rfl)
theorem dX2_init_2_30 : decode cX2_init_2 30 = .ok (.invokevirtual 27, 3) := dk_182 0 27 (dk_at dksX2_init_2_1 8 rfl rfl)
theorem dX2_init_2_33 : decode cX2_init_2 33 = .ok (.putfield 31, 3) := dk_181 0 31 (dk_at dksX2_init_2_1 11 rfl rfl)
theorem dX2_init_2_36 : decode cX2_init_2 36 = .ok (.aload 4, 2) := dk_25 4 (dk_at dksX2_init_2_1 14 rfl rfl)
theorem dX2_init_2_38 : decode cX2_init_2 38 = .ok (.invokevirtual 19, 3) := dk_182 0 19 (dk_at dksX2_init_2_1 16 rfl rfl)
theorem dX2_init_2_41 : decode cX2_init_2 41 = .ok (.astore_n 3, 1) := dk_78 (dk_at dksX2_init_2_1 19 rfl rfl)
theorem dX2_init_2_42 : decode cX2_init_2 42 = .ok (.goto 45, 3) := dk_167 0 45 (dk_at dksX2_init_2_1 20 rfl rfl)
theorem dX2_init_2_45 : decode cX2_init_2 45 = .ok (.aload_n 2, 1) := dk_44 (dk_at dksX2_init_2_1 23 rfl rfl)
theorem dX2_init_2_46 : decode cX2_init_2 46 = .ok (.instanceof 35, 3) := dk_193 0 35 (dk_at dksX2_init_2_2 0 rfl rfl)
theorem dX2_init_2_49 : decode cX2_init_2 49 = .ok (.ifCond .eq 28, 3) := dk_153 0 28 (dk_at dksX2_init_2_2 3 rfl rfl)
theorem dX2_init_2_52 : decode cX2_init_2 52 = .ok (.aload_n 2, 1) := dk_44 (dk_at dksX2_init_2_2 6 rfl rfl)
theorem dX2_init_2_53 : decode cX2_init_2 53 = .ok (.checkcast 35, 3) := dk_192 0 35 (dk_at dksX2_init_2_2 7 rfl rfl)
theorem dX2_init_2_56 : decode cX2_init_2 56 = .ok (.invokevirtual 37, 3) := dk_182 0 37 (dk_at dksX2_init_2_2 10 rfl rfl)
theorem dX2_init_2_59 : decode cX2_init_2 59 = .ok (.astore_n 3, 1) := dk_78 (dk_at dksX2_init_2_2 13 rfl rfl)
theorem dX2_init_2_60 : decode cX2_init_2 60 = .ok (.aload_n 0, 1) := dk_42 (dk_at dksX2_init_2_2 14 rfl rfl)
theorem dX2_init_2_61 : decode cX2_init_2 61 = .ok (.aload_n 0, 1) := dk_42 (dk_at dksX2_init_2_2 15 rfl rfl)
theorem dX2_init_2_62 : decode cX2_init_2 62 = .ok (.aload_n 3, 1) := dk_45 (dk_at dksX2_init_2_2 16 rfl rfl)
theorem dX2_init_2_63 : decode cX2_init_2 63 = .ok (.aload_n 3, 1) := dk_45 (dk_at dksX2_init_2_2 17 rfl rfl)
theorem dX2_init_2_64 : decode cX2_init_2 64 = .ok (.arraylength, 1) := dk_190 (dk_at dksX2_init_2_2 18 rfl rfl)
theorem dX2_init_2_65 : decode cX2_init_2 65 = .ok (.bipush 8, 2) := dk_16 8 (dk_at dksX2_init_2_2 19 rfl rfl)
theorem dX2_init_2_67 : decode cX2_init_2 67 = .ok (.imul, 1) := dk_104 (dk_at dksX2_init_2_2 21 rfl rfl)
theorem dX2_init_2_68 : decode cX2_init_2 68 = .ok (.invokevirtual 27, 3) := dk_182 0 27 (dk_at dksX2_init_2_3 0 rfl rfl)
theorem dX2_init_2_71 : decode cX2_init_2 71 = .ok (.putfield 31, 3) := dk_181 0 31 (dk_at dksX2_init_2_3 3 rfl rfl)
theorem dX2_init_2_74 : decode cX2_init_2 74 = .ok (.goto 13, 3) := dk_167 0 13 (dk_at dksX2_init_2_3 6 rfl rfl)
theorem dX2_init_2_77 : decode cX2_init_2 77 = .ok (.new 38, 3) := dk_187 0 38 (dk_at dksX2_init_2_3 9 rfl rfl)
theorem dX2_init_2_80 : decode cX2_init_2 80 = .ok (.dup, 1) := dk_89 (dk_at dksX2_init_2_3 12 rfl rfl)
theorem dX2_init_2_81 : decode cX2_init_2 81 = .ok (.ldc 40, 2) := dk_18 40 (dk_at dksX2_init_2_3 13 rfl rfl)
theorem dX2_init_2_83 : decode cX2_init_2 83 = .ok (.invokespecial 42, 3) := dk_183 0 42 (dk_at dksX2_init_2_3 15 rfl rfl)
theorem dX2_init_2_86 : decode cX2_init_2 86 = .ok (.athrow, 1) := dk_191 (dk_at dksX2_init_2_3 18 rfl rfl)
theorem dX2_init_2_87 : decode cX2_init_2 87 = .ok (.return_, 1) := dk_177 (dk_at dksX2_init_2_3 19 rfl rfl)
abbrev cX2_generateWorkingKey : ByteArray := prog_6_method_2_code
def yX2_generateWorkingKey : MethodName := ⟨RX2, "generateWorkingKey", "([BI)[I"⟩
def dkwX2_generateWorkingKey_10 : List UInt8 := [167, 255, 220, 25, 6, 176]
abbrev dktX2_generateWorkingKey_10 : List UInt8 := dkwX2_generateWorkingKey_10 ++ []
def dkwX2_generateWorkingKey_9 : List UInt8 := [25, 4, 5, 21, 7, 104, 46, 25, 4, 5, 21, 7, 104, 4, 96, 46, 16, 8, 120, 96, 79, 132, 7, 1]
abbrev dktX2_generateWorkingKey_9 : List UInt8 := dkwX2_generateWorkingKey_9 ++ dktX2_generateWorkingKey_10
def dkwX2_generateWorkingKey_8 : List UInt8 := [167, 255, 223, 16, 64, 188, 10, 58, 6, 3, 54, 7, 21, 7, 25, 6, 190, 159, 0, 34, 25, 6, 21, 7]
abbrev dktX2_generateWorkingKey_8 : List UInt8 := dkwX2_generateWorkingKey_8 ++ dktX2_generateWorkingKey_9
def dkwX2_generateWorkingKey_7 : List UInt8 := [21, 6, 21, 5, 96, 46, 130, 51, 17, 0, 255, 126, 62, 25, 4, 21, 6, 29, 79, 132, 6, 255]
abbrev dktX2_generateWorkingKey_7 : List UInt8 := dkwX2_generateWorkingKey_7 ++ dktX2_generateWorkingKey_8
def dkwX2_generateWorkingKey_6 : List UInt8 := [29, 79, 17, 0, 128, 21, 5, 100, 4, 100, 54, 6, 21, 6, 155, 0, 34, 178, 0, 7, 29, 25, 4]
abbrev dktX2_generateWorkingKey_6 : List UInt8 := dkwX2_generateWorkingKey_6 ++ dktX2_generateWorkingKey_7
def dkwX2_generateWorkingKey_5 : List UInt8 := [17, 0, 255, 16, 7, 28, 116, 126, 122, 126, 51, 17, 0, 255, 126, 62, 25, 4, 17, 0, 128, 21, 5, 100]
abbrev dktX2_generateWorkingKey_5 : List UInt8 := dkwX2_generateWorkingKey_5 ++ dktX2_generateWorkingKey_6
def dkwX2_generateWorkingKey_4 : List UInt8 := [161, 255, 219, 28, 16, 7, 96, 6, 122, 54, 5, 178, 0, 7, 25, 4, 17, 0, 128, 21, 5, 100, 46]
abbrev dktX2_generateWorkingKey_4 : List UInt8 := dkwX2_generateWorkingKey_4 ++ dktX2_generateWorkingKey_5
def dkwX2_generateWorkingKey_3 : List UInt8 := [17, 0, 255, 126, 51, 17, 0, 255, 126, 62, 25, 4, 21, 5, 132, 5, 1, 29, 79, 21, 5, 17, 0, 128]
abbrev dktX2_generateWorkingKey_3 : List UInt8 := dkwX2_generateWorkingKey_3 ++ dktX2_generateWorkingKey_4
def dkwX2_generateWorkingKey_2 : List UInt8 := [3, 54, 6, 25, 4, 21, 5, 4, 100, 46, 62, 178, 0, 7, 29, 25, 4, 21, 6, 132, 6, 1, 46, 96]
abbrev dktX2_generateWorkingKey_2 : List UInt8 := dkwX2_generateWorkingKey_2 ++ dktX2_generateWorkingKey_3
def dkwX2_generateWorkingKey_1 : List UInt8 := [51, 17, 0, 255, 126, 79, 132, 5, 1, 167, 255, 233, 43, 190, 54, 5, 21, 5, 17, 0, 128, 162, 0, 54]
abbrev dktX2_generateWorkingKey_1 : List UInt8 := dkwX2_generateWorkingKey_1 ++ dktX2_generateWorkingKey_2
def dkwX2_generateWorkingKey_0 : List UInt8 := [17, 0, 128, 188, 10, 58, 4, 3, 54, 5, 21, 5, 43, 190, 159, 0, 22, 25, 4, 21, 5, 43, 21, 5]
abbrev dktX2_generateWorkingKey_0 : List UInt8 := dkwX2_generateWorkingKey_0 ++ dktX2_generateWorkingKey_1
theorem dksX2_generateWorkingKey_0 : cX2_generateWorkingKey.data.toList.drop 0 = dktX2_generateWorkingKey_0 := by decide +kernel
theorem dksX2_generateWorkingKey_1 : cX2_generateWorkingKey.data.toList.drop 24 = dktX2_generateWorkingKey_1 := dk_seg dksX2_generateWorkingKey_0 24 rfl rfl
theorem dksX2_generateWorkingKey_2 : cX2_generateWorkingKey.data.toList.drop 48 = dktX2_generateWorkingKey_2 := dk_seg dksX2_generateWorkingKey_1 24 rfl rfl
theorem dksX2_generateWorkingKey_3 : cX2_generateWorkingKey.data.toList.drop 72 = dktX2_generateWorkingKey_3 := dk_seg dksX2_generateWorkingKey_2 24 rfl rfl
theorem dksX2_generateWorkingKey_4 : cX2_generateWorkingKey.data.toList.drop 96 = dktX2_generateWorkingKey_4 := dk_seg dksX2_generateWorkingKey_3 24 rfl rfl
theorem dksX2_generateWorkingKey_5 : cX2_generateWorkingKey.data.toList.drop 119 = dktX2_generateWorkingKey_5 := dk_seg dksX2_generateWorkingKey_4 23 rfl rfl
theorem dksX2_generateWorkingKey_6 : cX2_generateWorkingKey.data.toList.drop 143 = dktX2_generateWorkingKey_6 := dk_seg dksX2_generateWorkingKey_5 24 rfl rfl
theorem dksX2_generateWorkingKey_7 : cX2_generateWorkingKey.data.toList.drop 166 = dktX2_generateWorkingKey_7 := dk_seg dksX2_generateWorkingKey_6 23 rfl rfl
theorem dksX2_generateWorkingKey_8 : cX2_generateWorkingKey.data.toList.drop 188 = dktX2_generateWorkingKey_8 := dk_seg dksX2_generateWorkingKey_7 22 rfl rfl
theorem dksX2_generateWorkingKey_9 : cX2_generateWorkingKey.data.toList.drop 212 = dktX2_generateWorkingKey_9 := dk_seg dksX2_generateWorkingKey_8 24 rfl rfl
theorem dksX2_generateWorkingKey_10 : cX2_generateWorkingKey.data.toList.drop 236 = dktX2_generateWorkingKey_10 := dk_seg dksX2_generateWorkingKey_9 24 rfl rfl
theorem dX2_generateWorkingKey_0 : decode cX2_generateWorkingKey 0 = .ok (.sipush 128, 3) := dk_17 0 128 (dk_at dksX2_generateWorkingKey_0 0 rfl rfl)
theorem dX2_generateWorkingKey_3 : decode cX2_generateWorkingKey 3 = .ok (.newarray .int, 2) := dk_188_10 (dk_at dksX2_generateWorkingKey_0 3 rfl rfl)
theorem dX2_generateWorkingKey_5 : decode cX2_generateWorkingKey 5 = .ok (.astore 4, 2) := dk_58 4 (dk_at dksX2_generateWorkingKey_0 5 rfl rfl)
theorem dX2_generateWorkingKey_7 : decode cX2_generateWorkingKey 7 = .ok (.iconst 0, 1) := dk_3 (dk_at dksX2_generateWorkingKey_0 7 rfl rfl)
theorem dX2_generateWorkingKey_8 : decode cX2_generateWorkingKey 8 = .ok (.istore 5, 2) := dk_54 5 (dk_at dksX2_generateWorkingKey_0 8 rfl rfl)
theorem dX2_generateWorkingKey_10 : decode cX2_generateWorkingKey 10 = .ok (.iload 5, 2) := dk_21 5 (dk_at dksX2_generateWorkingKey_0 10 rfl rfl)
theorem dX2_generateWorkingKey_12 : decode cX2_generateWorkingKey 12 = .ok (.aload_n 1, 1) := dk_43 (dk_at dksX2_generateWorkingKey_0 12 rfl rfl)
theorem dX2_generateWorkingKey_13 : decode cX2_generateWorkingKey 13 = .ok (.arraylength, 1) := dk_190 (dk_at dksX2_generateWorkingKey_0 13 rfl rfl)
theorem dX2_generateWorkingKey_14 : decode cX2_generateWorkingKey 14 = .ok (.if_icmp .eq 22, 3) := dk_159 0 22 (dk_at dksX2_generateWorkingKey_0 14 rfl rfl)
theorem dX2_generateWorkingKey_17 : decode cX2_generateWorkingKey 17 = .ok (.aload 4, 2) := dk_25 4 (dk_at dksX2_generateWorkingKey_0 17 rfl rfl)
theorem dX2_generateWorkingKey_19 : decode cX2_generateWorkingKey 19 = .ok (.iload 5, 2) := dk_21 5 (dk_at dksX2_generateWorkingKey_0 19 rfl rfl)
theorem dX2_generateWorkingKey_21 : decode cX2_generateWorkingKey 21 = .ok (.aload_n 1, 1) := dk_43 (dk_at dksX2_generateWorkingKey_0 21 rfl rfl)
theorem dX2_generateWorkingKey_22 : decode cX2_generateWorkingKey 22 = .ok (.iload 5, 2) := dk_21 5 (dk_at dksX2_generateWorkingKey_0 22 rfl rfl)
theorem dX2_generateWorkingKey_24 : decode cX2_generateWorkingKey 24 = .ok (.baload, 1) := dk_51 (dk_at dksX2_generateWorkingKey_1 0 rfl rfl)
theorem dX2_generateWorkingKey_25 : decode cX2_generateWorkingKey 25 = .ok (.sipush 255, 3) := dk_17 0 255 (dk_at dksX2_generateWorkingKey_1 1 rfl rfl)
theorem dX2_generateWorkingKey_28 : decode cX2_generateWorkingKey 28 = .ok (.iand, 1) := dk_126 (dk_at dksX2_generateWorkingKey_1 4 rfl rfl)
theorem dX2_generateWorkingKey_29 : decode cX2_generateWorkingKey 29 = .ok (.iastore, 1) := dk_79 (dk_at dksX2_generateWorkingKey_1 5 rfl rfl)
theorem dX2_generateWorkingKey_30 : decode cX2_generateWorkingKey 30 = .ok (.iinc 5 1, 3) := dk_132 5 1 (dk_at dksX2_generateWorkingKey_1 6 rfl rfl)
theorem dX2_generateWorkingKey_33 : decode cX2_generateWorkingKey 33 = .ok (.goto (-23), 3) := dk_167 255 233 (dk_at dksX2_generateWorkingKey_1 9 rfl rfl)
theorem dX2_generateWorkingKey_36 : decode cX2_generateWorkingKey 36 = .ok (.aload_n 1, 1) := dk_43 (dk_at dksX2_generateWorkingKey_1 12 rfl rfl)
theorem dX2_generateWorkingKey_37 : decode cX2_generateWorkingKey 37 = .ok (.arraylength, 1) := dk_190 (dk_at dksX2_generateWorkingKey_1 13 rfl rfl)
theorem dX2_generateWorkingKey_38 : decode cX2_generateWorkingKey 38 = .ok (.istore 5, 2) := dk_54 5 (dk_at dksX2_generateWorkingKey_1 14 rfl rfl)
theorem dX2_generateWorkingKey_40 : decode cX2_generateWorkingKey 40 = .ok (.iload 5, 2) := dk_21 5 (dk_at dksX2_generateWorkingKey_1 16 rfl rfl)
theorem dX2_generateWorkingKey_42 : decode cX2_generateWorkingKey 42 = .ok (.sipush 128, 3) := dk_17 0 128 (dk_at dksX2_generateWorkingKey_1 18 rfl rfl)
theorem dX2_generateWorkingKey_45 : decode cX2_generateWorkingKey 45 = .ok (.if_icmp .ge 54, 3) := dk_162 0 54 (dk_at dksX2_generateWorkingKey_1 21 rfl rfl)
theorem dX2_generateWorkingKey_48 : decode cX2_generateWorkingKey 48 = .ok (.iconst 0, 1) := dk_3 (dk_at dksX2_generateWorkingKey_2 0 rfl rfl)
theorem dX2_generateWorkingKey_49 : decode cX2_generateWorkingKey 49 = .ok (.istore 6, 2) := dk_54 6 (dk_at dksX2_generateWorkingKey_2 1 rfl rfl)
theorem dX2_generateWorkingKey_51 : decode cX2_generateWorkingKey 51 = .ok (.aload 4, 2) := dk_25 4 (dk_at dksX2_generateWorkingKey_2 3 rfl rfl)
theorem dX2_generateWorkingKey_53 : decode cX2_generateWorkingKey 53 = .ok (.iload 5, 2) := dk_21 5 (dk_at dksX2_generateWorkingKey_2 5 rfl rfl)
theorem dX2_generateWorkingKey_55 : decode cX2_generateWorkingKey 55 = .ok (.iconst 1, 1) := dk_4 (dk_at dksX2_generateWorkingKey_2 7 rfl rfl)
theorem dX2_generateWorkingKey_56 : decode cX2_generateWorkingKey 56 = .ok (.isub, 1) := dk_100 (dk_at dksX2_generateWorkingKey_2 8 rfl rfl)
theorem dX2_generateWorkingKey_57 : decode cX2_generateWorkingKey 57 = .ok (.iaload, 1) := dk_46 (dk_at dksX2_generateWorkingKey_2 9 rfl rfl)
theorem dX2_generateWorkingKey_58 : decode cX2_generateWorkingKey 58 = .ok (.istore_n 3, 1) := dk_62 (dk_at dksX2_generateWorkingKey_2 10 rfl rfl)
theorem dX2_generateWorkingKey_59 : decode cX2_generateWorkingKey 59 = .ok (.getstatic 7, 3) := dk_178 0 7 (dk_at dksX2_generateWorkingKey_2 11 rfl rfl)
theorem dX2_generateWorkingKey_62 : decode cX2_generateWorkingKey 62 = .ok (.iload_n 3, 1) := dk_29 (dk_at dksX2_generateWorkingKey_2 14 rfl rfl)
theorem dX2_generateWorkingKey_63 : decode cX2_generateWorkingKey 63 = .ok (.aload 4, 2) := dk_25 4 (dk_at dksX2_generateWorkingKey_2 15 rfl rfl)
theorem dX2_generateWorkingKey_65 : decode cX2_generateWorkingKey 65 = .ok (.iload 6, 2) := dk_21 6 (dk_at dksX2_generateWorkingKey_2 17 rfl rfl)
theorem dX2_generateWorkingKey_67 : decode cX2_generateWorkingKey 67 = .ok (.iinc 6 1, 3) := dk_132 6 1 (dk_at dksX2_generateWorkingKey_2 19 rfl rfl)
theorem dX2_generateWorkingKey_70 : decode cX2_generateWorkingKey 70 = .ok (.iaload, 1) := dk_46 (dk_at dksX2_generateWorkingKey_2 22 rfl rfl)
theorem dX2_generateWorkingKey_71 : decode cX2_generateWorkingKey 71 = .ok (.iadd, 1) := dk_96 (dk_at dksX2_generateWorkingKey_2 23 rfl rfl)
theorem dX2_generateWorkingKey_72 : decode cX2_generateWorkingKey 72 = .ok (.sipush 255, 3) := dk_17 0 255 (dk_at dksX2_generateWorkingKey_3 0 rfl rfl)
theorem dX2_generateWorkingKey_75 : decode cX2_generateWorkingKey 75 = .ok (.iand, 1) := dk_126 (dk_at dksX2_generateWorkingKey_3 3 rfl rfl)
theorem dX2_generateWorkingKey_76 : decode cX2_generateWorkingKey 76 = .ok (.baload, 1) := dk_51 (dk_at dksX2_generateWorkingKey_3 4 rfl rfl)
theorem dX2_generateWorkingKey_77 : decode cX2_generateWorkingKey 77 = .ok (.sipush 255, 3) := dk_17 0 255 (dk_at dksX2_generateWorkingKey_3 5 rfl rfl)
theorem dX2_generateWorkingKey_80 : decode cX2_generateWorkingKey 80 = .ok (.iand, 1) := dk_126 (dk_at dksX2_generateWorkingKey_3 8 rfl rfl)
theorem dX2_generateWorkingKey_81 : decode cX2_generateWorkingKey 81 = .ok (.istore_n 3, 1) := dk_62 (dk_at dksX2_generateWorkingKey_3 9 rfl rfl)
theorem dX2_generateWorkingKey_82 : decode cX2_generateWorkingKey 82 = .ok (.aload 4, 2) := dk_25 4 (dk_at dksX2_generateWorkingKey_3 10 rfl rfl)
theorem dX2_generateWorkingKey_84 : decode cX2_generateWorkingKey 84 = .ok (.iload 5, 2) := dk_21 5 (dk_at dksX2_generateWorkingKey_3 12 rfl rfl)
theorem dX2_generateWorkingKey_86 : decode cX2_generateWorkingKey 86 = .ok (.iinc 5 1, 3) := dk_132 5 1 (dk_at dksX2_generateWorkingKey_3 14 rfl rfl)
theorem dX2_generateWorkingKey_89 : decode cX2_generateWorkingKey 89 = .ok (.iload_n 3, 1) := dk_29 (dk_at dksX2_generateWorkingKey_3 17 rfl rfl)
theorem dX2_generateWorkingKey_90 : decode cX2_generateWorkingKey 90 = .ok (.iastore, 1) := dk_79 (dk_at dksX2_generateWorkingKey_3 18 rfl rfl)
theorem dX2_generateWorkingKey_91 : decode cX2_generateWorkingKey 91 = .ok (.iload 5, 2) := dk_21 5 (dk_at dksX2_generateWorkingKey_3 19 rfl rfl)
theorem dX2_generateWorkingKey_93 : decode cX2_generateWorkingKey 93 = .ok (.sipush 128, 3) := dk_17 0 128 (dk_at dksX2_generateWorkingKey_3 21 rfl rfl)
theorem dX2_generateWorkingKey_96 : decode cX2_generateWorkingKey 96 = .ok (.if_icmp .lt (-37), 3) := dk_161 255 219 (dk_at dksX2_generateWorkingKey_4 0 rfl rfl)
theorem dX2_generateWorkingKey_99 : decode cX2_generateWorkingKey 99 = .ok (.iload_n 2, 1) := dk_28 (dk_at dksX2_generateWorkingKey_4 3 rfl rfl)
theorem dX2_generateWorkingKey_100 : decode cX2_generateWorkingKey 100 = .ok (.bipush 7, 2) := dk_16 7 (dk_at dksX2_generateWorkingKey_4 4 rfl rfl)
theorem dX2_generateWorkingKey_102 : decode cX2_generateWorkingKey 102 = .ok (.iadd, 1) := dk_96 (dk_at dksX2_generateWorkingKey_4 6 rfl rfl)
theorem dX2_generateWorkingKey_103 : decode cX2_generateWorkingKey 103 = .ok (.iconst 3, 1) := dk_6 (dk_at dksX2_generateWorkingKey_4 7 rfl rfl)
theorem dX2_generateWorkingKey_104 : decode cX2_generateWorkingKey 104 = .ok (.ishr, 1) := dk_122 (dk_at dksX2_generateWorkingKey_4 8 rfl rfl)
theorem dX2_generateWorkingKey_105 : decode cX2_generateWorkingKey 105 = .ok (.istore 5, 2) := dk_54 5 (dk_at dksX2_generateWorkingKey_4 9 rfl rfl)
theorem dX2_generateWorkingKey_107 : decode cX2_generateWorkingKey 107 = .ok (.getstatic 7, 3) := dk_178 0 7 (dk_at dksX2_generateWorkingKey_4 11 rfl rfl)
theorem dX2_generateWorkingKey_110 : decode cX2_generateWorkingKey 110 = .ok (.aload 4, 2) := dk_25 4 (dk_at dksX2_generateWorkingKey_4 14 rfl rfl)
theorem dX2_generateWorkingKey_112 : decode cX2_generateWorkingKey 112 = .ok (.sipush 128, 3) := dk_17 0 128 (dk_at dksX2_generateWorkingKey_4 16 rfl rfl)
theorem dX2_generateWorkingKey_115 : decode cX2_generateWorkingKey 115 = .ok (.iload 5, 2) := dk_21 5 (dk_at dksX2_generateWorkingKey_4 19 rfl rfl)
theorem dX2_generateWorkingKey_117 : decode cX2_generateWorkingKey 117 = .ok (.isub, 1) := dk_100 (dk_at dksX2_generateWorkingKey_4 21 rfl rfl)
theorem dX2_generateWorkingKey_118 : decode cX2_generateWorkingKey 118 = .ok (.iaload, 1) := dk_46 (dk_at dksX2_generateWorkingKey_4 22 rfl rfl)
theorem dX2_generateWorkingKey_119 : decode cX2_generateWorkingKey 119 = .ok (.sipush 255, 3) := dk_17 0 255 (dk_at dksX2_generateWorkingKey_5 0 rfl rfl)
theorem dX2_generateWorkingKey_122 : decode cX2_generateWorkingKey 122 = .ok (.bipush 7, 2) := dk_16 7 (dk_at dksX2_generateWorkingKey_5 3 rfl rfl)
theorem dX2_generateWorkingKey_124 : decode cX2_generateWorkingKey 124 = .ok (.iload_n 2, 1) := dk_28 (dk_at dksX2_generateWorkingKey_5 5 rfl rfl)
theorem dX2_generateWorkingKey_125 : decode cX2_generateWorkingKey 125 = .ok (.ineg, 1) := dk_116 (dk_at dksX2_generateWorkingKey_5 6 rfl rfl)
theorem dX2_generateWorkingKey_126 : decode cX2_generateWorkingKey 126 = .ok (.iand, 1) := dk_126 (dk_at dksX2_generateWorkingKey_5 7 rfl rfl)
theorem dX2_generateWorkingKey_127 : decode cX2_generateWorkingKey 127 = .ok (.ishr, 1) := dk_122 (dk_at dksX2_generateWorkingKey_5 8 rfl rfl)
theorem dX2_generateWorkingKey_128 : decode cX2_generateWorkingKey 128 = .ok (.iand, 1) := dk_126 (dk_at dksX2_generateWorkingKey_5 9 rfl rfl)
theorem dX2_generateWorkingKey_129 : decode cX2_generateWorkingKey 129 = .ok (.baload, 1) := dk_51 (dk_at dksX2_generateWorkingKey_5 10 rfl rfl)
theorem dX2_generateWorkingKey_130 : decode cX2_generateWorkingKey 130 = .ok (.sipush 255, 3) := dk_17 0 255 (dk_at dksX2_generateWorkingKey_5 11 rfl rfl)
theorem dX2_generateWorkingKey_133 : decode cX2_generateWorkingKey 133 = .ok (.iand, 1) := dk_126 (dk_at dksX2_generateWorkingKey_5 14 rfl rfl)
theorem dX2_generateWorkingKey_134 : decode cX2_generateWorkingKey 134 = .ok (.istore_n 3, 1) := dk_62 (dk_at dksX2_generateWorkingKey_5 15 rfl rfl)
theorem dX2_generateWorkingKey_135 : decode cX2_generateWorkingKey 135 = .ok (.aload 4, 2) := dk_25 4 (dk_at dksX2_generateWorkingKey_5 16 rfl rfl)
theorem dX2_generateWorkingKey_137 : decode cX2_generateWorkingKey 137 = .ok (.sipush 128, 3) := dk_17 0 128 (dk_at dksX2_generateWorkingKey_5 18 rfl rfl)
theorem dX2_generateWorkingKey_140 : decode cX2_generateWorkingKey 140 = .ok (.iload 5, 2) := dk_21 5 (dk_at dksX2_generateWorkingKey_5 21 rfl rfl)
theorem dX2_generateWorkingKey_142 : decode cX2_generateWorkingKey 142 = .ok (.isub, 1) := dk_100 (dk_at dksX2_generateWorkingKey_5 23 rfl rfl)
theorem dX2_generateWorkingKey_143 : decode cX2_generateWorkingKey 143 = .ok (.iload_n 3, 1) := dk_29 (dk_at dksX2_generateWorkingKey_6 0 rfl rfl)
theorem dX2_generateWorkingKey_144 : decode cX2_generateWorkingKey 144 = .ok (.iastore, 1) := dk_79 (dk_at dksX2_generateWorkingKey_6 1 rfl rfl)
theorem dX2_generateWorkingKey_145 : decode cX2_generateWorkingKey 145 = .ok (.sipush 128, 3) := dk_17 0 128 (dk_at dksX2_generateWorkingKey_6 2 rfl rfl)
theorem dX2_generateWorkingKey_148 : decode cX2_generateWorkingKey 148 = .ok (.iload 5, 2) := dk_21 5 (dk_at dksX2_generateWorkingKey_6 5 rfl rfl)
theorem dX2_generateWorkingKey_150 : decode cX2_generateWorkingKey 150 = .ok (.isub, 1) := dk_100 (dk_at dksX2_generateWorkingKey_6 7 rfl rfl)
theorem dX2_generateWorkingKey_151 : decode cX2_generateWorkingKey 151 = .ok (.iconst 1, 1) := dk_4 (dk_at dksX2_generateWorkingKey_6 8 rfl rfl)
theorem dX2_generateWorkingKey_152 : decode cX2_generateWorkingKey 152 = .ok (.isub, 1) := dk_100 (dk_at dksX2_generateWorkingKey_6 9 rfl rfl)
theorem dX2_generateWorkingKey_153 : decode cX2_generateWorkingKey 153 = .ok (.istore 6, 2) := dk_54 6 (dk_at dksX2_generateWorkingKey_6 10 rfl rfl)
theorem dX2_generateWorkingKey_155 : decode cX2_generateWorkingKey 155 = .ok (.iload 6, 2) := dk_21 6 (dk_at dksX2_generateWorkingKey_6 12 rfl rfl)
theorem dX2_generateWorkingKey_157 : decode cX2_generateWorkingKey 157 = .ok (.ifCond .lt 34, 3) := dk_155 0 34 (dk_at dksX2_generateWorkingKey_6 14 rfl rfl)
theorem dX2_generateWorkingKey_160 : decode cX2_generateWorkingKey 160 = .ok (.getstatic 7, 3) := dk_178 0 7 (dk_at dksX2_generateWorkingKey_6 17 rfl rfl)
theorem dX2_generateWorkingKey_163 : decode cX2_generateWorkingKey 163 = .ok (.iload_n 3, 1) := dk_29 (dk_at dksX2_generateWorkingKey_6 20 rfl rfl)
theorem dX2_generateWorkingKey_164 : decode cX2_generateWorkingKey 164 = .ok (.aload 4, 2) := dk_25 4 (dk_at dksX2_generateWorkingKey_6 21 rfl rfl)
theorem dX2_generateWorkingKey_166 : decode cX2_generateWorkingKey 166 = .ok (.iload 6, 2) := dk_21 6 (dk_at dksX2_generateWorkingKey_7 0 rfl rfl)
theorem dX2_generateWorkingKey_168 : decode cX2_generateWorkingKey 168 = .ok (.iload 5, 2) := dk_21 5 (dk_at dksX2_generateWorkingKey_7 2 rfl rfl)
theorem dX2_generateWorkingKey_170 : decode cX2_generateWorkingKey 170 = .ok (.iadd, 1) := dk_96 (dk_at dksX2_generateWorkingKey_7 4 rfl rfl)
theorem dX2_generateWorkingKey_171 : decode cX2_generateWorkingKey 171 = .ok (.iaload, 1) := dk_46 (dk_at dksX2_generateWorkingKey_7 5 rfl rfl)
theorem dX2_generateWorkingKey_172 : decode cX2_generateWorkingKey 172 = .ok (.ixor, 1) := dk_130 (dk_at dksX2_generateWorkingKey_7 6 rfl rfl)
theorem dX2_generateWorkingKey_173 : decode cX2_generateWorkingKey 173 = .ok (.baload, 1) := dk_51 (dk_at dksX2_generateWorkingKey_7 7 rfl rfl)
theorem dX2_generateWorkingKey_174 : decode cX2_generateWorkingKey 174 = .ok (.sipush 255, 3) := dk_17 0 255 (dk_at dksX2_generateWorkingKey_7 8 rfl rfl)
theorem dX2_generateWorkingKey_177 : decode cX2_generateWorkingKey 177 = .ok (.iand, 1) := dk_126 (dk_at dksX2_generateWorkingKey_7 11 rfl rfl)
theorem dX2_generateWorkingKey_178 : decode cX2_generateWorkingKey 178 = .ok (.istore_n 3, 1) := dk_62 (dk_at dksX2_generateWorkingKey_7 12 rfl rfl)
theorem dX2_generateWorkingKey_179 : decode cX2_generateWorkingKey 179 = .ok (.aload 4, 2) := dk_25 4 (dk_at dksX2_generateWorkingKey_7 13 rfl rfl)
theorem dX2_generateWorkingKey_181 : decode cX2_generateWorkingKey 181 = .ok (.iload 6, 2) := dk_21 6 (dk_at dksX2_generateWorkingKey_7 15 rfl rfl)
theorem dX2_generateWorkingKey_183 : decode cX2_generateWorkingKey 183 = .ok (.iload_n 3, 1) := dk_29 (dk_at dksX2_generateWorkingKey_7 17 rfl rfl)
theorem dX2_generateWorkingKey_184 : decode cX2_generateWorkingKey 184 = .ok (.iastore, 1) := dk_79 (dk_at dksX2_generateWorkingKey_7 18 rfl rfl)
theorem dX2_generateWorkingKey_185 : decode cX2_generateWorkingKey 185 = .ok (.iinc 6 (-1), 3) := dk_132 6 255 (dk_at dksX2_generateWorkingKey_7 19 rfl rfl)
theorem dX2_generateWorkingKey_188 : decode cX2_generateWorkingKey 188 = .ok (.goto (-33), 3) := dk_167 255 223 (dk_at dksX2_generateWorkingKey_8 0 rfl rfl)
theorem dX2_generateWorkingKey_191 : decode cX2_generateWorkingKey 191 = .ok (.bipush 64, 2) := dk_16 64 (dk_at dksX2_generateWorkingKey_8 3 rfl rfl)
theorem dX2_generateWorkingKey_193 : decode cX2_generateWorkingKey 193 = .ok (.newarray .int, 2) := dk_188_10 (dk_at dksX2_generateWorkingKey_8 5 rfl rfl)
theorem dX2_generateWorkingKey_195 : decode cX2_generateWorkingKey 195 = .ok (.astore 6, 2) := dk_58 6 (dk_at dksX2_generateWorkingKey_8 7 rfl rfl)
theorem dX2_generateWorkingKey_197 : decode cX2_generateWorkingKey 197 = .ok (.iconst 0, 1) := dk_3 (dk_at dksX2_generateWorkingKey_8 9 rfl rfl)
theorem dX2_generateWorkingKey_198 : decode cX2_generateWorkingKey 198 = .ok (.istore 7, 2) := dk_54 7 (dk_at dksX2_generateWorkingKey_8 10 rfl rfl)
theorem dX2_generateWorkingKey_200 : decode cX2_generateWorkingKey 200 = .ok (.iload 7, 2) := dk_21 7 (dk_at dksX2_generateWorkingKey_8 12 rfl rfl)
theorem dX2_generateWorkingKey_202 : decode cX2_generateWorkingKey 202 = .ok (.aload 6, 2) := dk_25 6 (dk_at dksX2_generateWorkingKey_8 14 rfl rfl)
theorem dX2_generateWorkingKey_204 : decode cX2_generateWorkingKey 204 = .ok (.arraylength, 1) := dk_190 (dk_at dksX2_generateWorkingKey_8 16 rfl rfl)
theorem dX2_generateWorkingKey_205 : decode cX2_generateWorkingKey 205 = .ok (.if_icmp .eq 34, 3) := dk_159 0 34 (dk_at dksX2_generateWorkingKey_8 17 rfl rfl)
theorem dX2_generateWorkingKey_208 : decode cX2_generateWorkingKey 208 = .ok (.aload 6, 2) := dk_25 6 (dk_at dksX2_generateWorkingKey_8 20 rfl rfl)
theorem dX2_generateWorkingKey_210 : decode cX2_generateWorkingKey 210 = .ok (.iload 7, 2) := dk_21 7 (dk_at dksX2_generateWorkingKey_8 22 rfl rfl)
theorem dX2_generateWorkingKey_212 : decode cX2_generateWorkingKey 212 = .ok (.aload 4, 2) := dk_25 4 (dk_at dksX2_generateWorkingKey_9 0 rfl rfl)
theorem dX2_generateWorkingKey_214 : decode cX2_generateWorkingKey 214 = .ok (.iconst 2, 1) := dk_5 (dk_at dksX2_generateWorkingKey_9 2 rfl rfl)
theorem dX2_generateWorkingKey_215 : decode cX2_generateWorkingKey 215 = .ok (.iload 7, 2) := dk_21 7 (dk_at dksX2_generateWorkingKey_9 3 rfl rfl)
theorem dX2_generateWorkingKey_217 : decode cX2_generateWorkingKey 217 = .ok (.imul, 1) := dk_104 (dk_at dksX2_generateWorkingKey_9 5 rfl rfl)
theorem dX2_generateWorkingKey_218 : decode cX2_generateWorkingKey 218 = .ok (.iaload, 1) := dk_46 (dk_at dksX2_generateWorkingKey_9 6 rfl rfl)
theorem dX2_generateWorkingKey_219 : decode cX2_generateWorkingKey 219 = .ok (.aload 4, 2) := dk_25 4 (dk_at dksX2_generateWorkingKey_9 7 rfl rfl)
theorem dX2_generateWorkingKey_221 : decode cX2_generateWorkingKey 221 = .ok (.iconst 2, 1) := dk_5 (dk_at dksX2_generateWorkingKey_9 9 rfl rfl)
theorem dX2_generateWorkingKey_222 : decode cX2_generateWorkingKey 222 = .ok (.iload 7, 2) := dk_21 7 (dk_at dksX2_generateWorkingKey_9 10 rfl rfl)
theorem dX2_generateWorkingKey_224 : decode cX2_generateWorkingKey 224 = .ok (.imul, 1) := dk_104 (dk_at dksX2_generateWorkingKey_9 12 rfl rfl)
theorem dX2_generateWorkingKey_225 : decode cX2_generateWorkingKey 225 = .ok (.iconst 1, 1) := dk_4 (dk_at dksX2_generateWorkingKey_9 13 rfl rfl)
theorem dX2_generateWorkingKey_226 : decode cX2_generateWorkingKey 226 = .ok (.iadd, 1) := dk_96 (dk_at dksX2_generateWorkingKey_9 14 rfl rfl)
theorem dX2_generateWorkingKey_227 : decode cX2_generateWorkingKey 227 = .ok (.iaload, 1) := dk_46 (dk_at dksX2_generateWorkingKey_9 15 rfl rfl)
theorem dX2_generateWorkingKey_228 : decode cX2_generateWorkingKey 228 = .ok (.bipush 8, 2) := dk_16 8 (dk_at dksX2_generateWorkingKey_9 16 rfl rfl)
theorem dX2_generateWorkingKey_230 : decode cX2_generateWorkingKey 230 = .ok (.ishl, 1) := dk_120 (dk_at dksX2_generateWorkingKey_9 18 rfl rfl)
theorem dX2_generateWorkingKey_231 : decode cX2_generateWorkingKey 231 = .ok (.iadd, 1) := dk_96 (dk_at dksX2_generateWorkingKey_9 19 rfl rfl)
theorem dX2_generateWorkingKey_232 : decode cX2_generateWorkingKey 232 = .ok (.iastore, 1) := dk_79 (dk_at dksX2_generateWorkingKey_9 20 rfl rfl)
theorem dX2_generateWorkingKey_233 : decode cX2_generateWorkingKey 233 = .ok (.iinc 7 1, 3) := dk_132 7 1 (dk_at dksX2_generateWorkingKey_9 21 rfl rfl)
theorem dX2_generateWorkingKey_236 : decode cX2_generateWorkingKey 236 = .ok (.goto (-36), 3) := dk_167 255 220 (dk_at dksX2_generateWorkingKey_10 0 rfl rfl)
theorem dX2_generateWorkingKey_239 : decode cX2_generateWorkingKey 239 = .ok (.aload 6, 2) := dk_25 6 (dk_at dksX2_generateWorkingKey_10 3 rfl rfl)
theorem dX2_generateWorkingKey_241 : decode cX2_generateWorkingKey 241 = .ok (.areturn, 1) := dk_176 (dk_at dksX2_generateWorkingKey_10 5 rfl rfl)
abbrev cX2_processBlock : ByteArray := prog_6_method_4_code
def yX2_processBlock : MethodName := ⟨RX2, "processBlock", "([BI[BI)I"⟩
def dkwX2_processBlock_3 : List UInt8 := [182, 0, 60, 167, 0, 12, 42, 43, 28, 45, 21, 4, 182, 0, 64, 16, 8, 172]
abbrev dktX2_processBlock_3 : List UInt8 := dkwX2_processBlock_3 ++ []
def dkwX2_processBlock_2 : List UInt8 := [187, 0, 55, 89, 18, 57, 183, 0, 59, 191, 42, 180, 0, 13, 153, 0, 15, 42, 43, 28, 45, 21, 4]
abbrev dktX2_processBlock_2 : List UInt8 := dkwX2_processBlock_2 ++ dktX2_processBlock_3
def dkwX2_processBlock_1 : List UInt8 := [164, 0, 13, 187, 0, 50, 89, 18, 52, 183, 0, 54, 191, 21, 4, 16, 8, 96, 45, 190, 164, 0, 13]
abbrev dktX2_processBlock_1 : List UInt8 := dkwX2_processBlock_1 ++ dktX2_processBlock_2
def dkwX2_processBlock_0 : List UInt8 := [42, 180, 0, 31, 199, 0, 13, 187, 0, 45, 89, 18, 47, 183, 0, 49, 191, 28, 16, 8, 96, 43, 190]
abbrev dktX2_processBlock_0 : List UInt8 := dkwX2_processBlock_0 ++ dktX2_processBlock_1
theorem dksX2_processBlock_0 : cX2_processBlock.data.toList.drop 0 = dktX2_processBlock_0 := by decide +kernel
theorem dksX2_processBlock_1 : cX2_processBlock.data.toList.drop 23 = dktX2_processBlock_1 := dk_seg dksX2_processBlock_0 23 rfl rfl
theorem dksX2_processBlock_2 : cX2_processBlock.data.toList.drop 46 = dktX2_processBlock_2 := dk_seg dksX2_processBlock_1 23 rfl rfl
theorem dksX2_processBlock_3 : cX2_processBlock.data.toList.drop 69 = dktX2_processBlock_3 := dk_seg dksX2_processBlock_2 23 rfl rfl
theorem dX2_processBlock_0 : decode cX2_processBlock 0 = .ok (.aload_n 0, 1) := dk_42 (dk_at dksX2_processBlock_0 0 rfl rfl)
theorem dX2_processBlock_1 : decode cX2_processBlock 1 = .ok (.getfield 31, 3) := dk_180 0 31 (dk_at dksX2_processBlock_0 1 rfl rfl)
theorem dX2_processBlock_4 : decode cX2_processBlock 4 = .ok (.ifnonnull 13, 3) := dk_199 0 13 (dk_at dksX2_processBlock_0 4 rfl rfl)
theorem dX2_processBlock_7 : decode cX2_processBlock 7 = .ok (.new 45, 3) := dk_187 0 45 (dk_at dksX2_processBlock_0 7 rfl rfl)
theorem dX2_processBlock_10 : decode cX2_processBlock 10 = .ok (.dup, 1) := dk_89 (dk_at dksX2_processBlock_0 10 rfl rfl)
theorem dX2_processBlock_11 : decode cX2_processBlock 11 = .ok (.ldc 47, 2) := dk_18 47 (dk_at dksX2_processBlock_0 11 rfl rfl)
theorem dX2_processBlock_13 : decode cX2_processBlock 13 = .ok (.invokespecial 49, 3) := dk_183 0 49 (dk_at dksX2_processBlock_0 13 rfl rfl)
theorem dX2_processBlock_16 : decode cX2_processBlock 16 = .ok (.athrow, 1) := dk_191 (dk_at dksX2_processBlock_0 16 rfl rfl)
theorem dX2_processBlock_17 : decode cX2_processBlock 17 = .ok (.iload_n 2, 1) := dk_28 (dk_at dksX2_processBlock_0 17 rfl rfl)
theorem dX2_processBlock_18 : decode cX2_processBlock 18 = .ok (.bipush 8, 2) := dk_16 8 (dk_at dksX2_processBlock_0 18 rfl rfl)
theorem dX2_processBlock_20 : decode cX2_processBlock 20 = .ok (.iadd, 1) := dk_96 (dk_at dksX2_processBlock_0 20 rfl rfl)
theorem dX2_processBlock_21 : decode cX2_processBlock 21 = .ok (.aload_n 1, 1) := dk_43 (dk_at dksX2_processBlock_0 21 rfl rfl)
theorem dX2_processBlock_22 : decode cX2_processBlock 22 = .ok (.arraylength, 1) := dk_190 (dk_at dksX2_processBlock_0 22 rfl rfl)
theorem dX2_processBlock_23 : decode cX2_processBlock 23 = .ok (.if_icmp .le 13, 3) := dk_164 0 13 (dk_at dksX2_processBlock_1 0 rfl rfl)
theorem dX2_processBlock_26 : decode cX2_processBlock 26 = .ok (.new 50, 3) := dk_187 0 50 (dk_at dksX2_processBlock_1 3 rfl rfl)
theorem dX2_processBlock_29 : decode cX2_processBlock 29 = .ok (.dup, 1) := dk_89 (dk_at dksX2_processBlock_1 6 rfl rfl)
theorem dX2_processBlock_30 : decode cX2_processBlock 30 = .ok (.ldc 52, 2) := dk_18 52 (dk_at dksX2_processBlock_1 7 rfl rfl)
theorem dX2_processBlock_32 : decode cX2_processBlock 32 = .ok (.invokespecial 54, 3) := dk_183 0 54 (dk_at dksX2_processBlock_1 9 rfl rfl)
theorem dX2_processBlock_35 : decode cX2_processBlock 35 = .ok (.athrow, 1) := dk_191 (dk_at dksX2_processBlock_1 12 rfl rfl)
theorem dX2_processBlock_36 : decode cX2_processBlock 36 = .ok (.iload 4, 2) := dk_21 4 (dk_at dksX2_processBlock_1 13 rfl rfl)
theorem dX2_processBlock_38 : decode cX2_processBlock 38 = .ok (.bipush 8, 2) := dk_16 8 (dk_at dksX2_processBlock_1 15 rfl rfl)
theorem dX2_processBlock_40 : decode cX2_processBlock 40 = .ok (.iadd, 1) := dk_96 (dk_at dksX2_processBlock_1 17 rfl rfl)
theorem dX2_processBlock_41 : decode cX2_processBlock 41 = .ok (.aload_n 3, 1) := dk_45 (dk_at dksX2_processBlock_1 18 rfl rfl)
theorem dX2_processBlock_42 : decode cX2_processBlock 42 = .ok (.arraylength, 1) := dk_190 (dk_at dksX2_processBlock_1 19 rfl rfl)
theorem dX2_processBlock_43 : decode cX2_processBlock 43 = .ok (.if_icmp .le 13, 3) := dk_164 0 13 (dk_at dksX2_processBlock_1 20 rfl rfl)
theorem dX2_processBlock_46 : decode cX2_processBlock 46 = .ok (.new 55, 3) := dk_187 0 55 (dk_at dksX2_processBlock_2 0 rfl rfl)
theorem dX2_processBlock_49 : decode cX2_processBlock 49 = .ok (.dup, 1) := dk_89 (dk_at dksX2_processBlock_2 3 rfl rfl)
theorem dX2_processBlock_50 : decode cX2_processBlock 50 = .ok (.ldc 57, 2) := dk_18 57 (dk_at dksX2_processBlock_2 4 rfl rfl)
theorem dX2_processBlock_52 : decode cX2_processBlock 52 = .ok (.invokespecial 59, 3) := dk_183 0 59 (dk_at dksX2_processBlock_2 6 rfl rfl)
theorem dX2_processBlock_55 : decode cX2_processBlock 55 = .ok (.athrow, 1) := dk_191 (dk_at dksX2_processBlock_2 9 rfl rfl)
theorem dX2_processBlock_56 : decode cX2_processBlock 56 = .ok (.aload_n 0, 1) := dk_42 (dk_at dksX2_processBlock_2 10 rfl rfl)
theorem dX2_processBlock_57 : decode cX2_processBlock 57 = .ok (.getfield 13, 3) := dk_180 0 13 (dk_at dksX2_processBlock_2 11 rfl rfl)
theorem dX2_processBlock_60 : decode cX2_processBlock 60 = .ok (.ifCond .eq 15, 3) := dk_153 0 15 (dk_at dksX2_processBlock_2 14 rfl rfl)
theorem dX2_processBlock_63 : decode cX2_processBlock 63 = .ok (.aload_n 0, 1) := dk_42 (dk_at dksX2_processBlock_2 17 rfl rfl)
theorem dX2_processBlock_64 : decode cX2_processBlock 64 = .ok (.aload_n 1, 1) := dk_43 (dk_at dksX2_processBlock_2 18 rfl rfl)
theorem dX2_processBlock_65 : decode cX2_processBlock 65 = .ok (.iload_n 2, 1) := dk_28 (dk_at dksX2_processBlock_2 19 rfl rfl)
theorem dX2_processBlock_66 : decode cX2_processBlock 66 = .ok (.aload_n 3, 1) := dk_45 (dk_at dksX2_processBlock_2 20 rfl rfl)
theorem dX2_processBlock_67 : decode cX2_processBlock 67 = .ok (.iload 4, 2) := dk_21 4 (dk_at dksX2_processBlock_2 21 rfl rfl)
theorem dX2_processBlock_69 : decode cX2_processBlock 69 = .ok (.invokevirtual 60, 3) := dk_182 0 60 (dk_at dksX2_processBlock_3 0 rfl rfl)
theorem dX2_processBlock_72 : decode cX2_processBlock 72 = .ok (.goto 12, 3) := dk_167 0 12 (dk_at dksX2_processBlock_3 3 rfl rfl)
theorem dX2_processBlock_75 : decode cX2_processBlock 75 = .ok (.aload_n 0, 1) := dk_42 (dk_at dksX2_processBlock_3 6 rfl rfl)
theorem dX2_processBlock_76 : decode cX2_processBlock 76 = .ok (.aload_n 1, 1) := dk_43 (dk_at dksX2_processBlock_3 7 rfl rfl)
theorem dX2_processBlock_77 : decode cX2_processBlock 77 = .ok (.iload_n 2, 1) := dk_28 (dk_at dksX2_processBlock_3 8 rfl rfl)
theorem dX2_processBlock_78 : decode cX2_processBlock 78 = .ok (.aload_n 3, 1) := dk_45 (dk_at dksX2_processBlock_3 9 rfl rfl)
theorem dX2_processBlock_79 : decode cX2_processBlock 79 = .ok (.iload 4, 2) := dk_21 4 (dk_at dksX2_processBlock_3 10 rfl rfl)
theorem dX2_processBlock_81 : decode cX2_processBlock 81 = .ok (.invokevirtual 64, 3) := dk_182 0 64 (dk_at dksX2_processBlock_3 12 rfl rfl)
theorem dX2_processBlock_84 : decode cX2_processBlock 84 = .ok (.bipush 8, 2) := dk_16 8 (dk_at dksX2_processBlock_3 15 rfl rfl)
theorem dX2_processBlock_86 : decode cX2_processBlock 86 = .ok (.ireturn, 1) := dk_172 (dk_at dksX2_processBlock_3 17 rfl rfl)
abbrev cX2_encryptBlock : ByteArray := prog_6_method_6_code
def yX2_encryptBlock : MethodName := ⟨RX2, "encryptBlock", "([BI[BI)V"⟩
def dkwX2_encryptBlock_31 : List UInt8 := [16, 7, 96, 21, 5, 16, 8, 122, 145, 84, 177]
abbrev dktX2_encryptBlock_31 : List UInt8 := dkwX2_encryptBlock_31 ++ []
def dkwX2_encryptBlock_30 : List UInt8 := [21, 4, 8, 96, 21, 6, 16, 8, 122, 145, 84, 45, 21, 4, 16, 6, 96, 21, 5, 145, 84, 45, 21, 4]
abbrev dktX2_encryptBlock_30 : List UInt8 := dkwX2_encryptBlock_30 ++ dktX2_encryptBlock_31
def dkwX2_encryptBlock_29 : List UInt8 := [84, 45, 21, 4, 6, 96, 21, 7, 16, 8, 122, 145, 84, 45, 21, 4, 7, 96, 21, 6, 145, 84, 45]
abbrev dktX2_encryptBlock_29 : List UInt8 := dkwX2_encryptBlock_29 ++ dktX2_encryptBlock_30
def dkwX2_encryptBlock_28 : List UInt8 := [21, 8, 145, 84, 45, 21, 4, 4, 96, 21, 8, 16, 8, 122, 145, 84, 45, 21, 4, 5, 96, 21, 7, 145]
abbrev dktX2_encryptBlock_28 : List UInt8 := dkwX2_encryptBlock_28 ++ dktX2_encryptBlock_29
def dkwX2_encryptBlock_27 : List UInt8 := [21, 9, 6, 96, 46, 96, 8, 182, 0, 68, 54, 5, 132, 9, 4, 167, 255, 116, 45, 21, 4, 3, 96]
abbrev dktX2_encryptBlock_27 : List UInt8 := dkwX2_encryptBlock_27 ++ dktX2_encryptBlock_28
def dkwX2_encryptBlock_26 : List UInt8 := [54, 6, 42, 21, 5, 21, 8, 21, 6, 2, 130, 126, 96, 21, 7, 21, 6, 126, 96, 42, 180, 0, 31]
abbrev dktX2_encryptBlock_26 : List UInt8 := dkwX2_encryptBlock_26 ++ dktX2_encryptBlock_27
def dkwX2_encryptBlock_25 : List UInt8 := [130, 126, 96, 21, 8, 21, 7, 126, 96, 42, 180, 0, 31, 21, 9, 5, 96, 46, 96, 6, 182, 0, 68]
abbrev dktX2_encryptBlock_25 : List UInt8 := dkwX2_encryptBlock_25 ++ dktX2_encryptBlock_26
def dkwX2_encryptBlock_24 : List UInt8 := [42, 180, 0, 31, 21, 9, 4, 96, 46, 96, 5, 182, 0, 68, 54, 7, 42, 21, 6, 21, 5, 21, 7, 2]
abbrev dktX2_encryptBlock_24 : List UInt8 := dkwX2_encryptBlock_24 ++ dktX2_encryptBlock_25
def dkwX2_encryptBlock_23 : List UInt8 := [96, 4, 182, 0, 68, 54, 8, 42, 21, 7, 21, 6, 21, 8, 2, 130, 126, 96, 21, 5, 21, 8, 126, 96]
abbrev dktX2_encryptBlock_23 : List UInt8 := dkwX2_encryptBlock_23 ++ dktX2_encryptBlock_24
def dkwX2_encryptBlock_22 : List UInt8 := [42, 21, 8, 21, 7, 21, 5, 2, 130, 126, 96, 21, 6, 21, 5, 126, 96, 42, 180, 0, 31, 21, 9, 46]
abbrev dktX2_encryptBlock_22 : List UInt8 := dkwX2_encryptBlock_22 ++ dktX2_encryptBlock_23
def dkwX2_encryptBlock_21 : List UInt8 := [42, 180, 0, 31, 21, 6, 16, 63, 126, 46, 96, 54, 5, 16, 44, 54, 9, 21, 9, 16, 64, 162, 0, 139]
abbrev dktX2_encryptBlock_21 : List UInt8 := dkwX2_encryptBlock_21 ++ dktX2_encryptBlock_22
def dkwX2_encryptBlock_20 : List UInt8 := [16, 63, 126, 46, 96, 54, 7, 21, 6, 42, 180, 0, 31, 21, 7, 16, 63, 126, 46, 96, 54, 6, 21, 5]
abbrev dktX2_encryptBlock_20 : List UInt8 := dkwX2_encryptBlock_20 ++ dktX2_encryptBlock_21
def dkwX2_encryptBlock_19 : List UInt8 := [21, 8, 42, 180, 0, 31, 21, 5, 16, 63, 126, 46, 96, 54, 8, 21, 7, 42, 180, 0, 31, 21, 8]
abbrev dktX2_encryptBlock_19 : List UInt8 := dkwX2_encryptBlock_19 ++ dktX2_encryptBlock_20
def dkwX2_encryptBlock_18 : List UInt8 := [96, 42, 180, 0, 31, 21, 9, 6, 96, 46, 96, 8, 182, 0, 68, 54, 5, 132, 9, 4, 167, 255, 116]
abbrev dktX2_encryptBlock_18 : List UInt8 := dkwX2_encryptBlock_18 ++ dktX2_encryptBlock_19
def dkwX2_encryptBlock_17 : List UInt8 := [46, 96, 6, 182, 0, 68, 54, 6, 42, 21, 5, 21, 8, 21, 6, 2, 130, 126, 96, 21, 7, 21, 6, 126]
abbrev dktX2_encryptBlock_17 : List UInt8 := dkwX2_encryptBlock_17 ++ dktX2_encryptBlock_18
def dkwX2_encryptBlock_16 : List UInt8 := [21, 6, 21, 5, 21, 7, 2, 130, 126, 96, 21, 8, 21, 7, 126, 96, 42, 180, 0, 31, 21, 9, 5, 96]
abbrev dktX2_encryptBlock_16 : List UInt8 := dkwX2_encryptBlock_16 ++ dktX2_encryptBlock_17
def dkwX2_encryptBlock_15 : List UInt8 := [21, 5, 21, 8, 126, 96, 42, 180, 0, 31, 21, 9, 4, 96, 46, 96, 5, 182, 0, 68, 54, 7, 42]
abbrev dktX2_encryptBlock_15 : List UInt8 := dkwX2_encryptBlock_15 ++ dktX2_encryptBlock_16
def dkwX2_encryptBlock_14 : List UInt8 := [180, 0, 31, 21, 9, 46, 96, 4, 182, 0, 68, 54, 8, 42, 21, 7, 21, 6, 21, 8, 2, 130, 126, 96]
abbrev dktX2_encryptBlock_14 : List UInt8 := dkwX2_encryptBlock_14 ++ dktX2_encryptBlock_15
def dkwX2_encryptBlock_13 : List UInt8 := [16, 40, 163, 0, 139, 42, 21, 8, 21, 7, 21, 5, 2, 130, 126, 96, 21, 6, 21, 5, 126, 96, 42]
abbrev dktX2_encryptBlock_13 : List UInt8 := dkwX2_encryptBlock_13 ++ dktX2_encryptBlock_14
def dkwX2_encryptBlock_12 : List UInt8 := [96, 54, 6, 21, 5, 42, 180, 0, 31, 21, 6, 16, 63, 126, 46, 96, 54, 5, 16, 20, 54, 9, 21, 9]
abbrev dktX2_encryptBlock_12 : List UInt8 := dkwX2_encryptBlock_12 ++ dktX2_encryptBlock_13
def dkwX2_encryptBlock_11 : List UInt8 := [180, 0, 31, 21, 8, 16, 63, 126, 46, 96, 54, 7, 21, 6, 42, 180, 0, 31, 21, 7, 16, 63, 126, 46]
abbrev dktX2_encryptBlock_11 : List UInt8 := dkwX2_encryptBlock_11 ++ dktX2_encryptBlock_12
def dkwX2_encryptBlock_10 : List UInt8 := [132, 9, 4, 167, 255, 116, 21, 8, 42, 180, 0, 31, 21, 5, 16, 63, 126, 46, 96, 54, 8, 21, 7, 42]
abbrev dktX2_encryptBlock_10 : List UInt8 := dkwX2_encryptBlock_10 ++ dktX2_encryptBlock_11
def dkwX2_encryptBlock_9 : List UInt8 := [126, 96, 21, 7, 21, 6, 126, 96, 42, 180, 0, 31, 21, 9, 6, 96, 46, 96, 8, 182, 0, 68, 54, 5]
abbrev dktX2_encryptBlock_9 : List UInt8 := dkwX2_encryptBlock_9 ++ dktX2_encryptBlock_10
def dkwX2_encryptBlock_8 : List UInt8 := [180, 0, 31, 21, 9, 5, 96, 46, 96, 6, 182, 0, 68, 54, 6, 42, 21, 5, 21, 8, 21, 6, 2, 130]
abbrev dktX2_encryptBlock_8 : List UInt8 := dkwX2_encryptBlock_8 ++ dktX2_encryptBlock_9
def dkwX2_encryptBlock_7 : List UInt8 := [5, 182, 0, 68, 54, 7, 42, 21, 6, 21, 5, 21, 7, 2, 130, 126, 96, 21, 8, 21, 7, 126, 96, 42]
abbrev dktX2_encryptBlock_7 : List UInt8 := dkwX2_encryptBlock_7 ++ dktX2_encryptBlock_8
def dkwX2_encryptBlock_6 : List UInt8 := [21, 6, 21, 8, 2, 130, 126, 96, 21, 5, 21, 8, 126, 96, 42, 180, 0, 31, 21, 9, 4, 96, 46, 96]
abbrev dktX2_encryptBlock_6 : List UInt8 := dkwX2_encryptBlock_6 ++ dktX2_encryptBlock_7
def dkwX2_encryptBlock_5 : List UInt8 := [21, 6, 21, 5, 126, 96, 42, 180, 0, 31, 21, 9, 46, 96, 4, 182, 0, 68, 54, 8, 42, 21, 7]
abbrev dktX2_encryptBlock_5 : List UInt8 := dkwX2_encryptBlock_5 ++ dktX2_encryptBlock_6
def dkwX2_encryptBlock_4 : List UInt8 := [54, 8, 3, 54, 9, 21, 9, 16, 16, 163, 0, 139, 42, 21, 8, 21, 7, 21, 5, 2, 130, 126, 96]
abbrev dktX2_encryptBlock_4 : List UInt8 := dkwX2_encryptBlock_4 ++ dktX2_encryptBlock_5
def dkwX2_encryptBlock_3 : List UInt8 := [54, 7, 43, 28, 4, 96, 51, 17, 0, 255, 126, 16, 8, 120, 43, 28, 3, 96, 51, 17, 0, 255, 126, 96]
abbrev dktX2_encryptBlock_3 : List UInt8 := dkwX2_encryptBlock_3 ++ dktX2_encryptBlock_4
def dkwX2_encryptBlock_2 : List UInt8 := [54, 6, 43, 28, 6, 96, 51, 17, 0, 255, 126, 16, 8, 120, 43, 28, 5, 96, 51, 17, 0, 255, 126, 96]
abbrev dktX2_encryptBlock_2 : List UInt8 := dkwX2_encryptBlock_2 ++ dktX2_encryptBlock_3
def dkwX2_encryptBlock_1 : List UInt8 := [54, 5, 43, 28, 8, 96, 51, 17, 0, 255, 126, 16, 8, 120, 43, 28, 7, 96, 51, 17, 0, 255, 126, 96]
abbrev dktX2_encryptBlock_1 : List UInt8 := dkwX2_encryptBlock_1 ++ dktX2_encryptBlock_2
def dkwX2_encryptBlock_0 : List UInt8 := [43, 28, 16, 7, 96, 51, 17, 0, 255, 126, 16, 8, 120, 43, 28, 16, 6, 96, 51, 17, 0, 255, 126, 96]
abbrev dktX2_encryptBlock_0 : List UInt8 := dkwX2_encryptBlock_0 ++ dktX2_encryptBlock_1
theorem dksX2_encryptBlock_0 : cX2_encryptBlock.data.toList.drop 0 = dktX2_encryptBlock_0 := by decide +kernel
theorem dksX2_encryptBlock_1 : cX2_encryptBlock.data.toList.drop 24 = dktX2_encryptBlock_1 := dk_seg dksX2_encryptBlock_0 24 rfl rfl
theorem dksX2_encryptBlock_2 : cX2_encryptBlock.data.toList.drop 48 = dktX2_encryptBlock_2 := dk_seg dksX2_encryptBlock_1 24 rfl rfl
theorem dksX2_encryptBlock_3 : cX2_encryptBlock.data.toList.drop 72 = dktX2_encryptBlock_3 := dk_seg dksX2_encryptBlock_2 24 rfl rfl
theorem dksX2_encryptBlock_4 : cX2_encryptBlock.data.toList.drop 96 = dktX2_encryptBlock_4 := dk_seg dksX2_encryptBlock_3 24 rfl rfl
theorem dksX2_encryptBlock_5 : cX2_encryptBlock.data.toList.drop 119 = dktX2_encryptBlock_5 := dk_seg dksX2_encryptBlock_4 23 rfl rfl
theorem dksX2_encryptBlock_6 : cX2_encryptBlock.data.toList.drop 142 = dktX2_encryptBlock_6 := dk_seg dksX2_encryptBlock_5 23 rfl rfl
theorem dksX2_encryptBlock_7 : cX2_encryptBlock.data.toList.drop 166 = dktX2_encryptBlock_7 := dk_seg dksX2_encryptBlock_6 24 rfl rfl
theorem dksX2_encryptBlock_8 : cX2_encryptBlock.data.toList.drop 190 = dktX2_encryptBlock_8 := dk_seg dksX2_encryptBlock_7 24 rfl rfl
theorem dksX2_encryptBlock_9 : cX2_encryptBlock.data.toList.drop 214 = dktX2_encryptBlock_9 := dk_seg dksX2_encryptBlock_8 24 rfl rfl
theorem dksX2_encryptBlock_10 : cX2_encryptBlock.data.toList.drop 238 = dktX2_encryptBlock_10 := dk_seg dksX2_encryptBlock_9 24 rfl rfl
theorem dksX2_encryptBlock_11 : cX2_encryptBlock.data.toList.drop 262 = dktX2_encryptBlock_11 := dk_seg dksX2_encryptBlock_10 24 rfl rfl
theorem dksX2_encryptBlock_12 : cX2_encryptBlock.data.toList.drop 286 = dktX2_encryptBlock_12 := dk_seg dksX2_encryptBlock_11 24 rfl rfl
theorem dksX2_encryptBlock_13 : cX2_encryptBlock.data.toList.drop 310 = dktX2_encryptBlock_13 := dk_seg dksX2_encryptBlock_12 24 rfl rfl
theorem dksX2_encryptBlock_14 : cX2_encryptBlock.data.toList.drop 333 = dktX2_encryptBlock_14 := dk_seg dksX2_encryptBlock_13 23 rfl rfl
theorem dksX2_encryptBlock_15 : cX2_encryptBlock.data.toList.drop 357 = dktX2_encryptBlock_15 := dk_seg dksX2_encryptBlock_14 24 rfl rfl
theorem dksX2_encryptBlock_16 : cX2_encryptBlock.data.toList.drop 380 = dktX2_encryptBlock_16 := dk_seg dksX2_encryptBlock_15 23 rfl rfl
theorem dksX2_encryptBlock_17 : cX2_encryptBlock.data.toList.drop 404 = dktX2_encryptBlock_17 := dk_seg dksX2_encryptBlock_16 24 rfl rfl
theorem dksX2_encryptBlock_18 : cX2_encryptBlock.data.toList.drop 428 = dktX2_encryptBlock_18 := dk_seg dksX2_encryptBlock_17 24 rfl rfl
theorem dksX2_encryptBlock_19 : cX2_encryptBlock.data.toList.drop 451 = dktX2_encryptBlock_19 := dk_seg dksX2_encryptBlock_18 23 rfl rfl
theorem dksX2_encryptBlock_20 : cX2_encryptBlock.data.toList.drop 474 = dktX2_encryptBlock_20 := dk_seg dksX2_encryptBlock_19 23 rfl rfl
theorem dksX2_encryptBlock_21 : cX2_encryptBlock.data.toList.drop 498 = dktX2_encryptBlock_21 := dk_seg dksX2_encryptBlock_20 24 rfl rfl
theorem dksX2_encryptBlock_22 : cX2_encryptBlock.data.toList.drop 522 = dktX2_encryptBlock_22 := dk_seg dksX2_encryptBlock_21 24 rfl rfl
theorem dksX2_encryptBlock_23 : cX2_encryptBlock.data.toList.drop 546 = dktX2_encryptBlock_23 := dk_seg dksX2_encryptBlock_22 24 rfl rfl
theorem dksX2_encryptBlock_24 : cX2_encryptBlock.data.toList.drop 570 = dktX2_encryptBlock_24 := dk_seg dksX2_encryptBlock_23 24 rfl rfl
theorem dksX2_encryptBlock_25 : cX2_encryptBlock.data.toList.drop 594 = dktX2_encryptBlock_25 := dk_seg dksX2_encryptBlock_24 24 rfl rfl
theorem dksX2_encryptBlock_26 : cX2_encryptBlock.data.toList.drop 617 = dktX2_encryptBlock_26 := dk_seg dksX2_encryptBlock_25 23 rfl rfl
theorem dksX2_encryptBlock_27 : cX2_encryptBlock.data.toList.drop 640 = dktX2_encryptBlock_27 := dk_seg dksX2_encryptBlock_26 23 rfl rfl
theorem dksX2_encryptBlock_28 : cX2_encryptBlock.data.toList.drop 663 = dktX2_encryptBlock_28 := dk_seg dksX2_encryptBlock_27 23 rfl rfl
theorem dksX2_encryptBlock_29 : cX2_encryptBlock.data.toList.drop 687 = dktX2_encryptBlock_29 := dk_seg dksX2_encryptBlock_28 24 rfl rfl
theorem dksX2_encryptBlock_30 : cX2_encryptBlock.data.toList.drop 710 = dktX2_encryptBlock_30 := dk_seg dksX2_encryptBlock_29 23 rfl rfl
theorem dksX2_encryptBlock_31 : cX2_encryptBlock.data.toList.drop 734 = dktX2_encryptBlock_31 := dk_seg dksX2_encryptBlock_30 24 rfl rfl
theorem dX2_encryptBlock_0 : decode cX2_encryptBlock 0 = .ok (.aload_n 1, 1) := dk_43 (dk_at dksX2_encryptBlock_0 0 rfl rfl)
theorem dX2_encryptBlock_1 : decode cX2_encryptBlock 1 = .ok (.iload_n 2, 1) := dk_28 (dk_at dksX2_encryptBlock_0 1 rfl rfl)
theorem dX2_encryptBlock_2 : decode cX2_encryptBlock 2 = .ok (.bipush 7, 2) := dk_16 7 (dk_at dksX2_encryptBlock_0 2 rfl rfl)
theorem dX2_encryptBlock_4 : decode cX2_encryptBlock 4 = .ok (.iadd, 1) := dk_96 (dk_at dksX2_encryptBlock_0 4 rfl rfl)
theorem dX2_encryptBlock_5 : decode cX2_encryptBlock 5 = .ok (.baload, 1) := dk_51 (dk_at dksX2_encryptBlock_0 5 rfl rfl)
theorem dX2_encryptBlock_6 : decode cX2_encryptBlock 6 = .ok (.sipush 255, 3) := dk_17 0 255 (dk_at dksX2_encryptBlock_0 6 rfl rfl)
theorem dX2_encryptBlock_9 : decode cX2_encryptBlock 9 = .ok (.iand, 1) := dk_126 (dk_at dksX2_encryptBlock_0 9 rfl rfl)
theorem dX2_encryptBlock_10 : decode cX2_encryptBlock 10 = .ok (.bipush 8, 2) := dk_16 8 (dk_at dksX2_encryptBlock_0 10 rfl rfl)
theorem dX2_encryptBlock_12 : decode cX2_encryptBlock 12 = .ok (.ishl, 1) := dk_120 (dk_at dksX2_encryptBlock_0 12 rfl rfl)
theorem dX2_encryptBlock_13 : decode cX2_encryptBlock 13 = .ok (.aload_n 1, 1) := dk_43 (dk_at dksX2_encryptBlock_0 13 rfl rfl)
theorem dX2_encryptBlock_14 : decode cX2_encryptBlock 14 = .ok (.iload_n 2, 1) := dk_28 (dk_at dksX2_encryptBlock_0 14 rfl rfl)
theorem dX2_encryptBlock_15 : decode cX2_encryptBlock 15 = .ok (.bipush 6, 2) := dk_16 6 (dk_at dksX2_encryptBlock_0 15 rfl rfl)
theorem dX2_encryptBlock_17 : decode cX2_encryptBlock 17 = .ok (.iadd, 1) := dk_96 (dk_at dksX2_encryptBlock_0 17 rfl rfl)
theorem dX2_encryptBlock_18 : decode cX2_encryptBlock 18 = .ok (.baload, 1) := dk_51 (dk_at dksX2_encryptBlock_0 18 rfl rfl)
theorem dX2_encryptBlock_19 : decode cX2_encryptBlock 19 = .ok (.sipush 255, 3) := dk_17 0 255 (dk_at dksX2_encryptBlock_0 19 rfl rfl)
theorem dX2_encryptBlock_22 : decode cX2_encryptBlock 22 = .ok (.iand, 1) := dk_126 (dk_at dksX2_encryptBlock_0 22 rfl rfl)
theorem dX2_encryptBlock_23 : decode cX2_encryptBlock 23 = .ok (.iadd, 1) := dk_96 (dk_at dksX2_encryptBlock_0 23 rfl rfl)
theorem dX2_encryptBlock_24 : decode cX2_encryptBlock 24 = .ok (.istore 5, 2) := dk_54 5 (dk_at dksX2_encryptBlock_1 0 rfl rfl)
theorem dX2_encryptBlock_26 : decode cX2_encryptBlock 26 = .ok (.aload_n 1, 1) := dk_43 (dk_at dksX2_encryptBlock_1 2 rfl rfl)
theorem dX2_encryptBlock_27 : decode cX2_encryptBlock 27 = .ok (.iload_n 2, 1) := dk_28 (dk_at dksX2_encryptBlock_1 3 rfl rfl)
theorem dX2_encryptBlock_28 : decode cX2_encryptBlock 28 = .ok (.iconst 5, 1) := dk_8 (dk_at dksX2_encryptBlock_1 4 rfl rfl)
theorem dX2_encryptBlock_29 : decode cX2_encryptBlock 29 = .ok (.iadd, 1) := dk_96 (dk_at dksX2_encryptBlock_1 5 rfl rfl)
theorem dX2_encryptBlock_30 : decode cX2_encryptBlock 30 = .ok (.baload, 1) := dk_51 (dk_at dksX2_encryptBlock_1 6 rfl rfl)
theorem dX2_encryptBlock_31 : decode cX2_encryptBlock 31 = .ok (.sipush 255, 3) := dk_17 0 255 (dk_at dksX2_encryptBlock_1 7 rfl rfl)
theorem dX2_encryptBlock_34 : decode cX2_encryptBlock 34 = .ok (.iand, 1) := dk_126 (dk_at dksX2_encryptBlock_1 10 rfl rfl)
theorem dX2_encryptBlock_35 : decode cX2_encryptBlock 35 = .ok (.bipush 8, 2) := dk_16 8 (dk_at dksX2_encryptBlock_1 11 rfl rfl)
theorem dX2_encryptBlock_37 : decode cX2_encryptBlock 37 = .ok (.ishl, 1) := dk_120 (dk_at dksX2_encryptBlock_1 13 rfl rfl)
theorem dX2_encryptBlock_38 : decode cX2_encryptBlock 38 = .ok (.aload_n 1, 1) := dk_43 (dk_at dksX2_encryptBlock_1 14 rfl rfl)
theorem dX2_encryptBlock_39 : decode cX2_encryptBlock 39 = .ok (.iload_n 2, 1) := dk_28 (dk_at dksX2_encryptBlock_1 15 rfl rfl)
theorem dX2_encryptBlock_40 : decode cX2_encryptBlock 40 = .ok (.iconst 4, 1) := dk_7 (dk_at dksX2_encryptBlock_1 16 rfl rfl)
theorem dX2_encryptBlock_41 : decode cX2_encryptBlock 41 = .ok (.iadd, 1) := dk_96 (dk_at dksX2_encryptBlock_1 17 rfl rfl)
theorem dX2_encryptBlock_42 : decode cX2_encryptBlock 42 = .ok (.baload, 1) := dk_51 (dk_at dksX2_encryptBlock_1 18 rfl rfl)
theorem dX2_encryptBlock_43 : decode cX2_encryptBlock 43 = .ok (.sipush 255, 3) := dk_17 0 255 (dk_at dksX2_encryptBlock_1 19 rfl rfl)
theorem dX2_encryptBlock_46 : decode cX2_encryptBlock 46 = .ok (.iand, 1) := dk_126 (dk_at dksX2_encryptBlock_1 22 rfl rfl)
theorem dX2_encryptBlock_47 : decode cX2_encryptBlock 47 = .ok (.iadd, 1) := dk_96 (dk_at dksX2_encryptBlock_1 23 rfl rfl)
theorem dX2_encryptBlock_48 : decode cX2_encryptBlock 48 = .ok (.istore 6, 2) := dk_54 6 (dk_at dksX2_encryptBlock_2 0 rfl rfl)
theorem dX2_encryptBlock_50 : decode cX2_encryptBlock 50 = .ok (.aload_n 1, 1) := dk_43 (dk_at dksX2_encryptBlock_2 2 rfl rfl)
theorem dX2_encryptBlock_51 : decode cX2_encryptBlock 51 = .ok (.iload_n 2, 1) := dk_28 (dk_at dksX2_encryptBlock_2 3 rfl rfl)
theorem dX2_encryptBlock_52 : decode cX2_encryptBlock 52 = .ok (.iconst 3, 1) := dk_6 (dk_at dksX2_encryptBlock_2 4 rfl rfl)
theorem dX2_encryptBlock_53 : decode cX2_encryptBlock 53 = .ok (.iadd, 1) := dk_96 (dk_at dksX2_encryptBlock_2 5 rfl rfl)
theorem dX2_encryptBlock_54 : decode cX2_encryptBlock 54 = .ok (.baload, 1) := dk_51 (dk_at dksX2_encryptBlock_2 6 rfl rfl)
theorem dX2_encryptBlock_55 : decode cX2_encryptBlock 55 = .ok (.sipush 255, 3) := dk_17 0 255 (dk_at dksX2_encryptBlock_2 7 rfl rfl)
theorem dX2_encryptBlock_58 : decode cX2_encryptBlock 58 = .ok (.iand, 1) := dk_126 (dk_at dksX2_encryptBlock_2 10 rfl rfl)
theorem dX2_encryptBlock_59 : decode cX2_encryptBlock 59 = .ok (.bipush 8, 2) := dk_16 8 (dk_at dksX2_encryptBlock_2 11 rfl rfl)
theorem dX2_encryptBlock_61 : decode cX2_encryptBlock 61 = .ok (.ishl, 1) := dk_120 (dk_at dksX2_encryptBlock_2 13 rfl rfl)
theorem dX2_encryptBlock_62 : decode cX2_encryptBlock 62 = .ok (.aload_n 1, 1) := dk_43 (dk_at dksX2_encryptBlock_2 14 rfl rfl)
theorem dX2_encryptBlock_63 : decode cX2_encryptBlock 63 = .ok (.iload_n 2, 1) := dk_28 (dk_at dksX2_encryptBlock_2 15 rfl rfl)
theorem dX2_encryptBlock_64 : decode cX2_encryptBlock 64 = .ok (.iconst 2, 1) := dk_5 (dk_at dksX2_encryptBlock_2 16 rfl rfl)
theorem dX2_encryptBlock_65 : decode cX2_encryptBlock 65 = .ok (.iadd, 1) := dk_96 (dk_at dksX2_encryptBlock_2 17 rfl rfl)
theorem dX2_encryptBlock_66 : decode cX2_encryptBlock 66 = .ok (.baload, 1) := dk_51 (dk_at dksX2_encryptBlock_2 18 rfl rfl)
theorem dX2_encryptBlock_67 : decode cX2_encryptBlock 67 = .ok (.sipush 255, 3) := dk_17 0 255 (dk_at dksX2_encryptBlock_2 19 rfl rfl)
theorem dX2_encryptBlock_70 : decode cX2_encryptBlock 70 = .ok (.iand, 1) := dk_126 (dk_at dksX2_encryptBlock_2 22 rfl rfl)
theorem dX2_encryptBlock_71 : decode cX2_encryptBlock 71 = .ok (.iadd, 1) := dk_96 (dk_at dksX2_encryptBlock_2 23 rfl rfl)
theorem dX2_encryptBlock_72 : decode cX2_encryptBlock 72 = .ok (.istore 7, 2) := dk_54 7 (dk_at dksX2_encryptBlock_3 0 rfl rfl)
theorem dX2_encryptBlock_74 : decode cX2_encryptBlock 74 = .ok (.aload_n 1, 1) := dk_43 (dk_at dksX2_encryptBlock_3 2 rfl rfl)
theorem dX2_encryptBlock_75 : decode cX2_encryptBlock 75 = .ok (.iload_n 2, 1) := dk_28 (dk_at dksX2_encryptBlock_3 3 rfl rfl)
theorem dX2_encryptBlock_76 : decode cX2_encryptBlock 76 = .ok (.iconst 1, 1) := dk_4 (dk_at dksX2_encryptBlock_3 4 rfl rfl)
theorem dX2_encryptBlock_77 : decode cX2_encryptBlock 77 = .ok (.iadd, 1) := dk_96 (dk_at dksX2_encryptBlock_3 5 rfl rfl)
theorem dX2_encryptBlock_78 : decode cX2_encryptBlock 78 = .ok (.baload, 1) := dk_51 (dk_at dksX2_encryptBlock_3 6 rfl rfl)
theorem dX2_encryptBlock_79 : decode cX2_encryptBlock 79 = .ok (.sipush 255, 3) := dk_17 0 255 (dk_at dksX2_encryptBlock_3 7 rfl rfl)
theorem dX2_encryptBlock_82 : decode cX2_encryptBlock 82 = .ok (.iand, 1) := dk_126 (dk_at dksX2_encryptBlock_3 10 rfl rfl)
theorem dX2_encryptBlock_83 : decode cX2_encryptBlock 83 = .ok (.bipush 8, 2) := dk_16 8 (dk_at dksX2_encryptBlock_3 11 rfl rfl)
theorem dX2_encryptBlock_85 : decode cX2_encryptBlock 85 = .ok (.ishl, 1) := dk_120 (dk_at dksX2_encryptBlock_3 13 rfl rfl)
theorem dX2_encryptBlock_86 : decode cX2_encryptBlock 86 = .ok (.aload_n 1, 1) := dk_43 (dk_at dksX2_encryptBlock_3 14 rfl rfl)
theorem dX2_encryptBlock_87 : decode cX2_encryptBlock 87 = .ok (.iload_n 2, 1) := dk_28 (dk_at dksX2_encryptBlock_3 15 rfl rfl)
theorem dX2_encryptBlock_88 : decode cX2_encryptBlock 88 = .ok (.iconst 0, 1) := dk_3 (dk_at dksX2_encryptBlock_3 16 rfl rfl)
theorem dX2_encryptBlock_89 : decode cX2_encryptBlock 89 = .ok (.iadd, 1) := dk_96 (dk_at dksX2_encryptBlock_3 17 rfl rfl)
theorem dX2_encryptBlock_90 : decode cX2_encryptBlock 90 = .ok (.baload, 1) := dk_51 (dk_at dksX2_encryptBlock_3 18 rfl rfl)
theorem dX2_encryptBlock_91 : decode cX2_encryptBlock 91 = .ok (.sipush 255, 3) := dk_17 0 255 (dk_at dksX2_encryptBlock_3 19 rfl rfl)
theorem dX2_encryptBlock_94 : decode cX2_encryptBlock 94 = .ok (.iand, 1) := dk_126 (dk_at dksX2_encryptBlock_3 22 rfl rfl)
theorem dX2_encryptBlock_95 : decode cX2_encryptBlock 95 = .ok (.iadd, 1) := dk_96 (dk_at dksX2_encryptBlock_3 23 rfl rfl)
theorem dX2_encryptBlock_96 : decode cX2_encryptBlock 96 = .ok (.istore 8, 2) := dk_54 8 (dk_at dksX2_encryptBlock_4 0 rfl rfl)
theorem dX2_encryptBlock_98 : decode cX2_encryptBlock 98 = .ok (.iconst 0, 1) := dk_3 (dk_at dksX2_encryptBlock_4 2 rfl rfl)
theorem dX2_encryptBlock_99 : decode cX2_encryptBlock 99 = .ok (.istore 9, 2) := dk_54 9 (dk_at dksX2_encryptBlock_4 3 rfl rfl)
theorem dX2_encryptBlock_101 : decode cX2_encryptBlock 101 = .ok (.iload 9, 2) := dk_21 9 (dk_at dksX2_encryptBlock_4 5 rfl rfl)
theorem dX2_encryptBlock_103 : decode cX2_encryptBlock 103 = .ok (.bipush 16, 2) := dk_16 16 (dk_at dksX2_encryptBlock_4 7 rfl rfl)
theorem dX2_encryptBlock_105 : decode cX2_encryptBlock 105 = .ok (.if_icmp .gt 139, 3) := dk_163 0 139 (dk_at dksX2_encryptBlock_4 9 rfl rfl)
theorem dX2_encryptBlock_108 : decode cX2_encryptBlock 108 = .ok (.aload_n 0, 1) := dk_42 (dk_at dksX2_encryptBlock_4 12 rfl rfl)
theorem dX2_encryptBlock_109 : decode cX2_encryptBlock 109 = .ok (.iload 8, 2) := dk_21 8 (dk_at dksX2_encryptBlock_4 13 rfl rfl)
theorem dX2_encryptBlock_111 : decode cX2_encryptBlock 111 = .ok (.iload 7, 2) := dk_21 7 (dk_at dksX2_encryptBlock_4 15 rfl rfl)
theorem dX2_encryptBlock_113 : decode cX2_encryptBlock 113 = .ok (.iload 5, 2) := dk_21 5 (dk_at dksX2_encryptBlock_4 17 rfl rfl)
theorem dX2_encryptBlock_115 : decode cX2_encryptBlock 115 = .ok (.iconst (-1), 1) := dk_2 (dk_at dksX2_encryptBlock_4 19 rfl rfl)
theorem dX2_encryptBlock_116 : decode cX2_encryptBlock 116 = .ok (.ixor, 1) := dk_130 (dk_at dksX2_encryptBlock_4 20 rfl rfl)
theorem dX2_encryptBlock_117 : decode cX2_encryptBlock 117 = .ok (.iand, 1) := dk_126 (dk_at dksX2_encryptBlock_4 21 rfl rfl)
theorem dX2_encryptBlock_118 : decode cX2_encryptBlock 118 = .ok (.iadd, 1) := dk_96 (dk_at dksX2_encryptBlock_4 22 rfl rfl)
theorem dX2_encryptBlock_119 : decode cX2_encryptBlock 119 = .ok (.iload 6, 2) := dk_21 6 (dk_at dksX2_encryptBlock_5 0 rfl rfl)
theorem dX2_encryptBlock_121 : decode cX2_encryptBlock 121 = .ok (.iload 5, 2) := dk_21 5 (dk_at dksX2_encryptBlock_5 2 rfl rfl)
theorem dX2_encryptBlock_123 : decode cX2_encryptBlock 123 = .ok (.iand, 1) := dk_126 (dk_at dksX2_encryptBlock_5 4 rfl rfl)
theorem dX2_encryptBlock_124 : decode cX2_encryptBlock 124 = .ok (.iadd, 1) := dk_96 (dk_at dksX2_encryptBlock_5 5 rfl rfl)
theorem dX2_encryptBlock_125 : decode cX2_encryptBlock 125 = .ok (.aload_n 0, 1) := dk_42 (dk_at dksX2_encryptBlock_5 6 rfl rfl)
theorem dX2_encryptBlock_126 : decode cX2_encryptBlock 126 = .ok (.getfield 31, 3) := dk_180 0 31 (dk_at dksX2_encryptBlock_5 7 rfl rfl)
theorem dX2_encryptBlock_129 : decode cX2_encryptBlock 129 = .ok (.iload 9, 2) := dk_21 9 (dk_at dksX2_encryptBlock_5 10 rfl rfl)
theorem dX2_encryptBlock_131 : decode cX2_encryptBlock 131 = .ok (.iaload, 1) := dk_46 (dk_at dksX2_encryptBlock_5 12 rfl rfl)
theorem dX2_encryptBlock_132 : decode cX2_encryptBlock 132 = .ok (.iadd, 1) := dk_96 (dk_at dksX2_encryptBlock_5 13 rfl rfl)
theorem dX2_encryptBlock_133 : decode cX2_encryptBlock 133 = .ok (.iconst 1, 1) := dk_4 (dk_at dksX2_encryptBlock_5 14 rfl rfl)
theorem dX2_encryptBlock_134 : decode cX2_encryptBlock 134 = .ok (.invokevirtual 68, 3) := dk_182 0 68 (dk_at dksX2_encryptBlock_5 15 rfl rfl)
theorem dX2_encryptBlock_137 : decode cX2_encryptBlock 137 = .ok (.istore 8, 2) := dk_54 8 (dk_at dksX2_encryptBlock_5 18 rfl rfl)
theorem dX2_encryptBlock_139 : decode cX2_encryptBlock 139 = .ok (.aload_n 0, 1) := dk_42 (dk_at dksX2_encryptBlock_5 20 rfl rfl)
theorem dX2_encryptBlock_140 : decode cX2_encryptBlock 140 = .ok (.iload 7, 2) := dk_21 7 (dk_at dksX2_encryptBlock_5 21 rfl rfl)
theorem dX2_encryptBlock_142 : decode cX2_encryptBlock 142 = .ok (.iload 6, 2) := dk_21 6 (dk_at dksX2_encryptBlock_6 0 rfl rfl)
theorem dX2_encryptBlock_144 : decode cX2_encryptBlock 144 = .ok (.iload 8, 2) := dk_21 8 (dk_at dksX2_encryptBlock_6 2 rfl rfl)
theorem dX2_encryptBlock_146 : decode cX2_encryptBlock 146 = .ok (.iconst (-1), 1) := dk_2 (dk_at dksX2_encryptBlock_6 4 rfl rfl)
theorem dX2_encryptBlock_147 : decode cX2_encryptBlock 147 = .ok (.ixor, 1) := dk_130 (dk_at dksX2_encryptBlock_6 5 rfl rfl)
theorem dX2_encryptBlock_148 : decode cX2_encryptBlock 148 = .ok (.iand, 1) := dk_126 (dk_at dksX2_encryptBlock_6 6 rfl rfl)
theorem dX2_encryptBlock_149 : decode cX2_encryptBlock 149 = .ok (.iadd, 1) := dk_96 (dk_at dksX2_encryptBlock_6 7 rfl rfl)
theorem dX2_encryptBlock_150 : decode cX2_encryptBlock 150 = .ok (.iload 5, 2) := dk_21 5 (dk_at dksX2_encryptBlock_6 8 rfl rfl)
theorem dX2_encryptBlock_152 : decode cX2_encryptBlock 152 = .ok (.iload 8, 2) := dk_21 8 (dk_at dksX2_encryptBlock_6 10 rfl rfl)
theorem dX2_encryptBlock_154 : decode cX2_encryptBlock 154 = .ok (.iand, 1) := dk_126 (dk_at dksX2_encryptBlock_6 12 rfl rfl)
theorem dX2_encryptBlock_155 : decode cX2_encryptBlock 155 = .ok (.iadd, 1) := dk_96 (dk_at dksX2_encryptBlock_6 13 rfl rfl)
theorem dX2_encryptBlock_156 : decode cX2_encryptBlock 156 = .ok (.aload_n 0, 1) := dk_42 (dk_at dksX2_encryptBlock_6 14 rfl rfl)
theorem dX2_encryptBlock_157 : decode cX2_encryptBlock 157 = .ok (.getfield 31, 3) := dk_180 0 31 (dk_at dksX2_encryptBlock_6 15 rfl rfl)
theorem dX2_encryptBlock_160 : decode cX2_encryptBlock 160 = .ok (.iload 9, 2) := dk_21 9 (dk_at dksX2_encryptBlock_6 18 rfl rfl)
theorem dX2_encryptBlock_162 : decode cX2_encryptBlock 162 = .ok (.iconst 1, 1) := dk_4 (dk_at dksX2_encryptBlock_6 20 rfl rfl)
theorem dX2_encryptBlock_163 : decode cX2_encryptBlock 163 = .ok (.iadd, 1) := dk_96 (dk_at dksX2_encryptBlock_6 21 rfl rfl)
theorem dX2_encryptBlock_164 : decode cX2_encryptBlock 164 = .ok (.iaload, 1) := dk_46 (dk_at dksX2_encryptBlock_6 22 rfl rfl)
theorem dX2_encryptBlock_165 : decode cX2_encryptBlock 165 = .ok (.iadd, 1) := dk_96 (dk_at dksX2_encryptBlock_6 23 rfl rfl)
theorem dX2_encryptBlock_166 : decode cX2_encryptBlock 166 = .ok (.iconst 2, 1) := dk_5 (dk_at dksX2_encryptBlock_7 0 rfl rfl)
theorem dX2_encryptBlock_167 : decode cX2_encryptBlock 167 = .ok (.invokevirtual 68, 3) := dk_182 0 68 (dk_at dksX2_encryptBlock_7 1 rfl rfl)
theorem dX2_encryptBlock_170 : decode cX2_encryptBlock 170 = .ok (.istore 7, 2) := dk_54 7 (dk_at dksX2_encryptBlock_7 4 rfl rfl)
theorem dX2_encryptBlock_172 : decode cX2_encryptBlock 172 = .ok (.aload_n 0, 1) := dk_42 (dk_at dksX2_encryptBlock_7 6 rfl rfl)
theorem dX2_encryptBlock_173 : decode cX2_encryptBlock 173 = .ok (.iload 6, 2) := dk_21 6 (dk_at dksX2_encryptBlock_7 7 rfl rfl)
theorem dX2_encryptBlock_175 : decode cX2_encryptBlock 175 = .ok (.iload 5, 2) := dk_21 5 (dk_at dksX2_encryptBlock_7 9 rfl rfl)
theorem dX2_encryptBlock_177 : decode cX2_encryptBlock 177 = .ok (.iload 7, 2) := dk_21 7 (dk_at dksX2_encryptBlock_7 11 rfl rfl)
theorem dX2_encryptBlock_179 : decode cX2_encryptBlock 179 = .ok (.iconst (-1), 1) := dk_2 (dk_at dksX2_encryptBlock_7 13 rfl rfl)
theorem dX2_encryptBlock_180 : decode cX2_encryptBlock 180 = .ok (.ixor, 1) := dk_130 (dk_at dksX2_encryptBlock_7 14 rfl rfl)
theorem dX2_encryptBlock_181 : decode cX2_encryptBlock 181 = .ok (.iand, 1) := dk_126 (dk_at dksX2_encryptBlock_7 15 rfl rfl)
theorem dX2_encryptBlock_182 : decode cX2_encryptBlock 182 = .ok (.iadd, 1) := dk_96 (dk_at dksX2_encryptBlock_7 16 rfl rfl)
theorem dX2_encryptBlock_183 : decode cX2_encryptBlock 183 = .ok (.iload 8, 2) := dk_21 8 (dk_at dksX2_encryptBlock_7 17 rfl rfl)
theorem dX2_encryptBlock_185 : decode cX2_encryptBlock 185 = .ok (.iload 7, 2) := dk_21 7 (dk_at dksX2_encryptBlock_7 19 rfl rfl)
theorem dX2_encryptBlock_187 : decode cX2_encryptBlock 187 = .ok (.iand, 1) := dk_126 (dk_at dksX2_encryptBlock_7 21 rfl rfl)
theorem dX2_encryptBlock_188 : decode cX2_encryptBlock 188 = .ok (.iadd, 1) := dk_96 (dk_at dksX2_encryptBlock_7 22 rfl rfl)
theorem dX2_encryptBlock_189 : decode cX2_encryptBlock 189 = .ok (.aload_n 0, 1) := dk_42 (dk_at dksX2_encryptBlock_7 23 rfl rfl)
theorem dX2_encryptBlock_190 : decode cX2_encryptBlock 190 = .ok (.getfield 31, 3) := dk_180 0 31 (dk_at dksX2_encryptBlock_8 0 rfl rfl)
theorem dX2_encryptBlock_193 : decode cX2_encryptBlock 193 = .ok (.iload 9, 2) := dk_21 9 (dk_at dksX2_encryptBlock_8 3 rfl rfl)
theorem dX2_encryptBlock_195 : decode cX2_encryptBlock 195 = .ok (.iconst 2, 1) := dk_5 (dk_at dksX2_encryptBlock_8 5 rfl rfl)
theorem dX2_encryptBlock_196 : decode cX2_encryptBlock 196 = .ok (.iadd, 1) := dk_96 (dk_at dksX2_encryptBlock_8 6 rfl rfl)
theorem dX2_encryptBlock_197 : decode cX2_encryptBlock 197 = .ok (.iaload, 1) := dk_46 (dk_at dksX2_encryptBlock_8 7 rfl rfl)
theorem dX2_encryptBlock_198 : decode cX2_encryptBlock 198 = .ok (.iadd, 1) := dk_96 (dk_at dksX2_encryptBlock_8 8 rfl rfl)
theorem dX2_encryptBlock_199 : decode cX2_encryptBlock 199 = .ok (.iconst 3, 1) := dk_6 (dk_at dksX2_encryptBlock_8 9 rfl rfl)
theorem dX2_encryptBlock_200 : decode cX2_encryptBlock 200 = .ok (.invokevirtual 68, 3) := dk_182 0 68 (dk_at dksX2_encryptBlock_8 10 rfl rfl)
theorem dX2_encryptBlock_203 : decode cX2_encryptBlock 203 = .ok (.istore 6, 2) := dk_54 6 (dk_at dksX2_encryptBlock_8 13 rfl rfl)
theorem dX2_encryptBlock_205 : decode cX2_encryptBlock 205 = .ok (.aload_n 0, 1) := dk_42 (dk_at dksX2_encryptBlock_8 15 rfl rfl)
theorem dX2_encryptBlock_206 : decode cX2_encryptBlock 206 = .ok (.iload 5, 2) := dk_21 5 (dk_at dksX2_encryptBlock_8 16 rfl rfl)
theorem dX2_encryptBlock_208 : decode cX2_encryptBlock 208 = .ok (.iload 8, 2) := dk_21 8 (dk_at dksX2_encryptBlock_8 18 rfl rfl)
theorem dX2_encryptBlock_210 : decode cX2_encryptBlock 210 = .ok (.iload 6, 2) := dk_21 6 (dk_at dksX2_encryptBlock_8 20 rfl rfl)
theorem dX2_encryptBlock_212 : decode cX2_encryptBlock 212 = .ok (.iconst (-1), 1) := dk_2 (dk_at dksX2_encryptBlock_8 22 rfl rfl)
theorem dX2_encryptBlock_213 : decode cX2_encryptBlock 213 = .ok (.ixor, 1) := dk_130 (dk_at dksX2_encryptBlock_8 23 rfl rfl)
theorem dX2_encryptBlock_214 : decode cX2_encryptBlock 214 = .ok (.iand, 1) := dk_126 (dk_at dksX2_encryptBlock_9 0 rfl rfl)
theorem dX2_encryptBlock_215 : decode cX2_encryptBlock 215 = .ok (.iadd, 1) := dk_96 (dk_at dksX2_encryptBlock_9 1 rfl rfl)
theorem dX2_encryptBlock_216 : decode cX2_encryptBlock 216 = .ok (.iload 7, 2) := dk_21 7 (dk_at dksX2_encryptBlock_9 2 rfl rfl)
theorem dX2_encryptBlock_218 : decode cX2_encryptBlock 218 = .ok (.iload 6, 2) := dk_21 6 (dk_at dksX2_encryptBlock_9 4 rfl rfl)
theorem dX2_encryptBlock_220 : decode cX2_encryptBlock 220 = .ok (.iand, 1) := dk_126 (dk_at dksX2_encryptBlock_9 6 rfl rfl)
theorem dX2_encryptBlock_221 : decode cX2_encryptBlock 221 = .ok (.iadd, 1) := dk_96 (dk_at dksX2_encryptBlock_9 7 rfl rfl)
theorem dX2_encryptBlock_222 : decode cX2_encryptBlock 222 = .ok (.aload_n 0, 1) := dk_42 (dk_at dksX2_encryptBlock_9 8 rfl rfl)
theorem dX2_encryptBlock_223 : decode cX2_encryptBlock 223 = .ok (.getfield 31, 3) := dk_180 0 31 (dk_at dksX2_encryptBlock_9 9 rfl rfl)
theorem dX2_encryptBlock_226 : decode cX2_encryptBlock 226 = .ok (.iload 9, 2) := dk_21 9 (dk_at dksX2_encryptBlock_9 12 rfl rfl)
theorem dX2_encryptBlock_228 : decode cX2_encryptBlock 228 = .ok (.iconst 3, 1) := dk_6 (dk_at dksX2_encryptBlock_9 14 rfl rfl)
theorem dX2_encryptBlock_229 : decode cX2_encryptBlock 229 = .ok (.iadd, 1) := dk_96 (dk_at dksX2_encryptBlock_9 15 rfl rfl)
theorem dX2_encryptBlock_230 : decode cX2_encryptBlock 230 = .ok (.iaload, 1) := dk_46 (dk_at dksX2_encryptBlock_9 16 rfl rfl)
theorem dX2_encryptBlock_231 : decode cX2_encryptBlock 231 = .ok (.iadd, 1) := dk_96 (dk_at dksX2_encryptBlock_9 17 rfl rfl)
theorem dX2_encryptBlock_232 : decode cX2_encryptBlock 232 = .ok (.iconst 5, 1) := dk_8 (dk_at dksX2_encryptBlock_9 18 rfl rfl)
theorem dX2_encryptBlock_233 : decode cX2_encryptBlock 233 = .ok (.invokevirtual 68, 3) := dk_182 0 68 (dk_at dksX2_encryptBlock_9 19 rfl rfl)
theorem dX2_encryptBlock_236 : decode cX2_encryptBlock 236 = .ok (.istore 5, 2) := dk_54 5 (dk_at dksX2_encryptBlock_9 22 rfl rfl)
theorem dX2_encryptBlock_238 : decode cX2_encryptBlock 238 = .ok (.iinc 9 4, 3) := dk_132 9 4 (dk_at dksX2_encryptBlock_10 0 rfl rfl)
theorem dX2_encryptBlock_241 : decode cX2_encryptBlock 241 = .ok (.goto (-140), 3) := dk_167 255 116 (dk_at dksX2_encryptBlock_10 3 rfl rfl)
theorem dX2_encryptBlock_244 : decode cX2_encryptBlock 244 = .ok (.iload 8, 2) := dk_21 8 (dk_at dksX2_encryptBlock_10 6 rfl rfl)
theorem dX2_encryptBlock_246 : decode cX2_encryptBlock 246 = .ok (.aload_n 0, 1) := dk_42 (dk_at dksX2_encryptBlock_10 8 rfl rfl)
theorem dX2_encryptBlock_247 : decode cX2_encryptBlock 247 = .ok (.getfield 31, 3) := dk_180 0 31 (dk_at dksX2_encryptBlock_10 9 rfl rfl)
theorem dX2_encryptBlock_250 : decode cX2_encryptBlock 250 = .ok (.iload 5, 2) := dk_21 5 (dk_at dksX2_encryptBlock_10 12 rfl rfl)
theorem dX2_encryptBlock_252 : decode cX2_encryptBlock 252 = .ok (.bipush 63, 2) := dk_16 63 (dk_at dksX2_encryptBlock_10 14 rfl rfl)
theorem dX2_encryptBlock_254 : decode cX2_encryptBlock 254 = .ok (.iand, 1) := dk_126 (dk_at dksX2_encryptBlock_10 16 rfl rfl)
theorem dX2_encryptBlock_255 : decode cX2_encryptBlock 255 = .ok (.iaload, 1) := dk_46 (dk_at dksX2_encryptBlock_10 17 rfl rfl)
theorem dX2_encryptBlock_256 : decode cX2_encryptBlock 256 = .ok (.iadd, 1) := dk_96 (dk_at dksX2_encryptBlock_10 18 rfl rfl)
theorem dX2_encryptBlock_257 : decode cX2_encryptBlock 257 = .ok (.istore 8, 2) := dk_54 8 (dk_at dksX2_encryptBlock_10 19 rfl rfl)
theorem dX2_encryptBlock_259 : decode cX2_encryptBlock 259 = .ok (.iload 7, 2) := dk_21 7 (dk_at dksX2_encryptBlock_10 21 rfl rfl)
theorem dX2_encryptBlock_261 : decode cX2_encryptBlock 261 = .ok (.aload_n 0, 1) := dk_42 (dk_at dksX2_encryptBlock_10 23 rfl rfl)
theorem dX2_encryptBlock_262 : decode cX2_encryptBlock 262 = .ok (.getfield 31, 3) := dk_180 0 31 (dk_at dksX2_encryptBlock_11 0 rfl rfl)
theorem dX2_encryptBlock_265 : decode cX2_encryptBlock 265 = .ok (.iload 8, 2) := dk_21 8 (dk_at dksX2_encryptBlock_11 3 rfl rfl)
theorem dX2_encryptBlock_267 : decode cX2_encryptBlock 267 = .ok (.bipush 63, 2) := dk_16 63 (dk_at dksX2_encryptBlock_11 5 rfl rfl)
theorem dX2_encryptBlock_269 : decode cX2_encryptBlock 269 = .ok (.iand, 1) := dk_126 (dk_at dksX2_encryptBlock_11 7 rfl rfl)
theorem dX2_encryptBlock_270 : decode cX2_encryptBlock 270 = .ok (.iaload, 1) := dk_46 (dk_at dksX2_encryptBlock_11 8 rfl rfl)
theorem dX2_encryptBlock_271 : decode cX2_encryptBlock 271 = .ok (.iadd, 1) := dk_96 (dk_at dksX2_encryptBlock_11 9 rfl rfl)
theorem dX2_encryptBlock_272 : decode cX2_encryptBlock 272 = .ok (.istore 7, 2) := dk_54 7 (dk_at dksX2_encryptBlock_11 10 rfl rfl)
theorem dX2_encryptBlock_274 : decode cX2_encryptBlock 274 = .ok (.iload 6, 2) := dk_21 6 (dk_at dksX2_encryptBlock_11 12 rfl rfl)
theorem dX2_encryptBlock_276 : decode cX2_encryptBlock 276 = .ok (.aload_n 0, 1) := dk_42 (dk_at dksX2_encryptBlock_11 14 rfl rfl)
theorem dX2_encryptBlock_277 : decode cX2_encryptBlock 277 = .ok (.getfield 31, 3) := dk_180 0 31 (dk_at dksX2_encryptBlock_11 15 rfl rfl)
theorem dX2_encryptBlock_280 : decode cX2_encryptBlock 280 = .ok (.iload 7, 2) := dk_21 7 (dk_at dksX2_encryptBlock_11 18 rfl rfl)
theorem dX2_encryptBlock_282 : decode cX2_encryptBlock 282 = .ok (.bipush 63, 2) := dk_16 63 (dk_at dksX2_encryptBlock_11 20 rfl rfl)
theorem dX2_encryptBlock_284 : decode cX2_encryptBlock 284 = .ok (.iand, 1) := dk_126 (dk_at dksX2_encryptBlock_11 22 rfl rfl)
theorem dX2_encryptBlock_285 : decode cX2_encryptBlock 285 = .ok (.iaload, 1) := dk_46 (dk_at dksX2_encryptBlock_11 23 rfl rfl)
theorem dX2_encryptBlock_286 : decode cX2_encryptBlock 286 = .ok (.iadd, 1) := dk_96 (dk_at dksX2_encryptBlock_12 0 rfl rfl)
theorem dX2_encryptBlock_287 : decode cX2_encryptBlock 287 = .ok (.istore 6, 2) := dk_54 6 (dk_at dksX2_encryptBlock_12 1 rfl rfl)
theorem dX2_encryptBlock_289 : decode cX2_encryptBlock 289 = .ok (.iload 5, 2) := dk_21 5 (dk_at dksX2_encryptBlock_12 3 rfl rfl)
theorem dX2_encryptBlock_291 : decode cX2_encryptBlock 291 = .ok (.aload_n 0, 1) := dk_42 (dk_at dksX2_encryptBlock_12 5 rfl rfl)
theorem dX2_encryptBlock_292 : decode cX2_encryptBlock 292 = .ok (.getfield 31, 3) := dk_180 0 31 (dk_at dksX2_encryptBlock_12 6 rfl rfl)
theorem dX2_encryptBlock_295 : decode cX2_encryptBlock 295 = .ok (.iload 6, 2) := dk_21 6 (dk_at dksX2_encryptBlock_12 9 rfl rfl)
theorem dX2_encryptBlock_297 : decode cX2_encryptBlock 297 = .ok (.bipush 63, 2) := dk_16 63 (dk_at dksX2_encryptBlock_12 11 rfl rfl)
theorem dX2_encryptBlock_299 : decode cX2_encryptBlock 299 = .ok (.iand, 1) := dk_126 (dk_at dksX2_encryptBlock_12 13 rfl rfl)
theorem dX2_encryptBlock_300 : decode cX2_encryptBlock 300 = .ok (.iaload, 1) := dk_46 (dk_at dksX2_encryptBlock_12 14 rfl rfl)
theorem dX2_encryptBlock_301 : decode cX2_encryptBlock 301 = .ok (.iadd, 1) := dk_96 (dk_at dksX2_encryptBlock_12 15 rfl rfl)
theorem dX2_encryptBlock_302 : decode cX2_encryptBlock 302 = .ok (.istore 5, 2) := dk_54 5 (dk_at dksX2_encryptBlock_12 16 rfl rfl)
theorem dX2_encryptBlock_304 : decode cX2_encryptBlock 304 = .ok (.bipush 20, 2) := dk_16 20 (dk_at dksX2_encryptBlock_12 18 rfl rfl)
theorem dX2_encryptBlock_306 : decode cX2_encryptBlock 306 = .ok (.istore 9, 2) := dk_54 9 (dk_at dksX2_encryptBlock_12 20 rfl rfl)
theorem dX2_encryptBlock_308 : decode cX2_encryptBlock 308 = .ok (.iload 9, 2) := dk_21 9 (dk_at dksX2_encryptBlock_12 22 rfl rfl)
theorem dX2_encryptBlock_310 : decode cX2_encryptBlock 310 = .ok (.bipush 40, 2) := dk_16 40 (dk_at dksX2_encryptBlock_13 0 rfl rfl)
theorem dX2_encryptBlock_312 : decode cX2_encryptBlock 312 = .ok (.if_icmp .gt 139, 3) := dk_163 0 139 (dk_at dksX2_encryptBlock_13 2 rfl rfl)
theorem dX2_encryptBlock_315 : decode cX2_encryptBlock 315 = .ok (.aload_n 0, 1) := dk_42 (dk_at dksX2_encryptBlock_13 5 rfl rfl)
theorem dX2_encryptBlock_316 : decode cX2_encryptBlock 316 = .ok (.iload 8, 2) := dk_21 8 (dk_at dksX2_encryptBlock_13 6 rfl rfl)
theorem dX2_encryptBlock_318 : decode cX2_encryptBlock 318 = .ok (.iload 7, 2) := dk_21 7 (dk_at dksX2_encryptBlock_13 8 rfl rfl)
theorem dX2_encryptBlock_320 : decode cX2_encryptBlock 320 = .ok (.iload 5, 2) := dk_21 5 (dk_at dksX2_encryptBlock_13 10 rfl rfl)
theorem dX2_encryptBlock_322 : decode cX2_encryptBlock 322 = .ok (.iconst (-1), 1) := dk_2 (dk_at dksX2_encryptBlock_13 12 rfl rfl)
theorem dX2_encryptBlock_323 : decode cX2_encryptBlock 323 = .ok (.ixor, 1) := dk_130 (dk_at dksX2_encryptBlock_13 13 rfl rfl)
theorem dX2_encryptBlock_324 : decode cX2_encryptBlock 324 = .ok (.iand, 1) := dk_126 (dk_at dksX2_encryptBlock_13 14 rfl rfl)
theorem dX2_encryptBlock_325 : decode cX2_encryptBlock 325 = .ok (.iadd, 1) := dk_96 (dk_at dksX2_encryptBlock_13 15 rfl rfl)
theorem dX2_encryptBlock_326 : decode cX2_encryptBlock 326 = .ok (.iload 6, 2) := dk_21 6 (dk_at dksX2_encryptBlock_13 16 rfl rfl)
theorem dX2_encryptBlock_328 : decode cX2_encryptBlock 328 = .ok (.iload 5, 2) := dk_21 5 (dk_at dksX2_encryptBlock_13 18 rfl rfl)
theorem dX2_encryptBlock_330 : decode cX2_encryptBlock 330 = .ok (.iand, 1) := dk_126 (dk_at dksX2_encryptBlock_13 20 rfl rfl)
theorem dX2_encryptBlock_331 : decode cX2_encryptBlock 331 = .ok (.iadd, 1) := dk_96 (dk_at dksX2_encryptBlock_13 21 rfl rfl)
theorem dX2_encryptBlock_332 : decode cX2_encryptBlock 332 = .ok (.aload_n 0, 1) := dk_42 (dk_at dksX2_encryptBlock_13 22 rfl rfl)
theorem dX2_encryptBlock_333 : decode cX2_encryptBlock 333 = .ok (.getfield 31, 3) := dk_180 0 31 (dk_at dksX2_encryptBlock_14 0 rfl rfl)
theorem dX2_encryptBlock_336 : decode cX2_encryptBlock 336 = .ok (.iload 9, 2) := dk_21 9 (dk_at dksX2_encryptBlock_14 3 rfl rfl)
theorem dX2_encryptBlock_338 : decode cX2_encryptBlock 338 = .ok (.iaload, 1) := dk_46 (dk_at dksX2_encryptBlock_14 5 rfl rfl)
theorem dX2_encryptBlock_339 : decode cX2_encryptBlock 339 = .ok (.iadd, 1) := dk_96 (dk_at dksX2_encryptBlock_14 6 rfl rfl)
theorem dX2_encryptBlock_340 : decode cX2_encryptBlock 340 = .ok (.iconst 1, 1) := dk_4 (dk_at dksX2_encryptBlock_14 7 rfl rfl)
theorem dX2_encryptBlock_341 : decode cX2_encryptBlock 341 = .ok (.invokevirtual 68, 3) := dk_182 0 68 (dk_at dksX2_encryptBlock_14 8 rfl rfl)
theorem dX2_encryptBlock_344 : decode cX2_encryptBlock 344 = .ok (.istore 8, 2) := dk_54 8 (dk_at dksX2_encryptBlock_14 11 rfl rfl)
theorem dX2_encryptBlock_346 : decode cX2_encryptBlock 346 = .ok (.aload_n 0, 1) := dk_42 (dk_at dksX2_encryptBlock_14 13 rfl rfl)
theorem dX2_encryptBlock_347 : decode cX2_encryptBlock 347 = .ok (.iload 7, 2) := dk_21 7 (dk_at dksX2_encryptBlock_14 14 rfl rfl)
theorem dX2_encryptBlock_349 : decode cX2_encryptBlock 349 = .ok (.iload 6, 2) := dk_21 6 (dk_at dksX2_encryptBlock_14 16 rfl rfl)
theorem dX2_encryptBlock_351 : decode cX2_encryptBlock 351 = .ok (.iload 8, 2) := dk_21 8 (dk_at dksX2_encryptBlock_14 18 rfl rfl)
theorem dX2_encryptBlock_353 : decode cX2_encryptBlock 353 = .ok (.iconst (-1), 1) := dk_2 (dk_at dksX2_encryptBlock_14 20 rfl rfl)
theorem dX2_encryptBlock_354 : decode cX2_encryptBlock 354 = .ok (.ixor, 1) := dk_130 (dk_at dksX2_encryptBlock_14 21 rfl rfl)
theorem dX2_encryptBlock_355 : decode cX2_encryptBlock 355 = .ok (.iand, 1) := dk_126 (dk_at dksX2_encryptBlock_14 22 rfl rfl)
theorem dX2_encryptBlock_356 : decode cX2_encryptBlock 356 = .ok (.iadd, 1) := dk_96 (dk_at dksX2_encryptBlock_14 23 rfl rfl)
theorem dX2_encryptBlock_357 : decode cX2_encryptBlock 357 = .ok (.iload 5, 2) := dk_21 5 (dk_at dksX2_encryptBlock_15 0 rfl rfl)
theorem dX2_encryptBlock_359 : decode cX2_encryptBlock 359 = .ok (.iload 8, 2) := dk_21 8 (dk_at dksX2_encryptBlock_15 2 rfl rfl)
theorem dX2_encryptBlock_361 : decode cX2_encryptBlock 361 = .ok (.iand, 1) := dk_126 (dk_at dksX2_encryptBlock_15 4 rfl rfl)
theorem dX2_encryptBlock_362 : decode cX2_encryptBlock 362 = .ok (.iadd, 1) := dk_96 (dk_at dksX2_encryptBlock_15 5 rfl rfl)
theorem dX2_encryptBlock_363 : decode cX2_encryptBlock 363 = .ok (.aload_n 0, 1) := dk_42 (dk_at dksX2_encryptBlock_15 6 rfl rfl)
theorem dX2_encryptBlock_364 : decode cX2_encryptBlock 364 = .ok (.getfield 31, 3) := dk_180 0 31 (dk_at dksX2_encryptBlock_15 7 rfl rfl)
theorem dX2_encryptBlock_367 : decode cX2_encryptBlock 367 = .ok (.iload 9, 2) := dk_21 9 (dk_at dksX2_encryptBlock_15 10 rfl rfl)
theorem dX2_encryptBlock_369 : decode cX2_encryptBlock 369 = .ok (.iconst 1, 1) := dk_4 (dk_at dksX2_encryptBlock_15 12 rfl rfl)
theorem dX2_encryptBlock_370 : decode cX2_encryptBlock 370 = .ok (.iadd, 1) := dk_96 (dk_at dksX2_encryptBlock_15 13 rfl rfl)
theorem dX2_encryptBlock_371 : decode cX2_encryptBlock 371 = .ok (.iaload, 1) := dk_46 (dk_at dksX2_encryptBlock_15 14 rfl rfl)
theorem dX2_encryptBlock_372 : decode cX2_encryptBlock 372 = .ok (.iadd, 1) := dk_96 (dk_at dksX2_encryptBlock_15 15 rfl rfl)
theorem dX2_encryptBlock_373 : decode cX2_encryptBlock 373 = .ok (.iconst 2, 1) := dk_5 (dk_at dksX2_encryptBlock_15 16 rfl rfl)
theorem dX2_encryptBlock_374 : decode cX2_encryptBlock 374 = .ok (.invokevirtual 68, 3) := dk_182 0 68 (dk_at dksX2_encryptBlock_15 17 rfl rfl)
theorem dX2_encryptBlock_377 : decode cX2_encryptBlock 377 = .ok (.istore 7, 2) := dk_54 7 (dk_at dksX2_encryptBlock_15 20 rfl rfl)
theorem dX2_encryptBlock_379 : decode cX2_encryptBlock 379 = .ok (.aload_n 0, 1) := dk_42 (dk_at dksX2_encryptBlock_15 22 rfl rfl)
theorem dX2_encryptBlock_380 : decode cX2_encryptBlock 380 = .ok (.iload 6, 2) := dk_21 6 (dk_at dksX2_encryptBlock_16 0 rfl rfl)
theorem dX2_encryptBlock_382 : decode cX2_encryptBlock 382 = .ok (.iload 5, 2) := dk_21 5 (dk_at dksX2_encryptBlock_16 2 rfl rfl)
theorem dX2_encryptBlock_384 : decode cX2_encryptBlock 384 = .ok (.iload 7, 2) := dk_21 7 (dk_at dksX2_encryptBlock_16 4 rfl rfl)
theorem dX2_encryptBlock_386 : decode cX2_encryptBlock 386 = .ok (.iconst (-1), 1) := dk_2 (dk_at dksX2_encryptBlock_16 6 rfl rfl)
theorem dX2_encryptBlock_387 : decode cX2_encryptBlock 387 = .ok (.ixor, 1) := dk_130 (dk_at dksX2_encryptBlock_16 7 rfl rfl)
theorem dX2_encryptBlock_388 : decode cX2_encryptBlock 388 = .ok (.iand, 1) := dk_126 (dk_at dksX2_encryptBlock_16 8 rfl rfl)
theorem dX2_encryptBlock_389 : decode cX2_encryptBlock 389 = .ok (.iadd, 1) := dk_96 (dk_at dksX2_encryptBlock_16 9 rfl rfl)
theorem dX2_encryptBlock_390 : decode cX2_encryptBlock 390 = .ok (.iload 8, 2) := dk_21 8 (dk_at dksX2_encryptBlock_16 10 rfl rfl)
theorem dX2_encryptBlock_392 : decode cX2_encryptBlock 392 = .ok (.iload 7, 2) := dk_21 7 (dk_at dksX2_encryptBlock_16 12 rfl rfl)
theorem dX2_encryptBlock_394 : decode cX2_encryptBlock 394 = .ok (.iand, 1) := dk_126 (dk_at dksX2_encryptBlock_16 14 rfl rfl)
theorem dX2_encryptBlock_395 : decode cX2_encryptBlock 395 = .ok (.iadd, 1) := dk_96 (dk_at dksX2_encryptBlock_16 15 rfl rfl)
theorem dX2_encryptBlock_396 : decode cX2_encryptBlock 396 = .ok (.aload_n 0, 1) := dk_42 (dk_at dksX2_encryptBlock_16 16 rfl rfl)
theorem dX2_encryptBlock_397 : decode cX2_encryptBlock 397 = .ok (.getfield 31, 3) := dk_180 0 31 (dk_at dksX2_encryptBlock_16 17 rfl rfl)
theorem dX2_encryptBlock_400 : decode cX2_encryptBlock 400 = .ok (.iload 9, 2) := dk_21 9 (dk_at dksX2_encryptBlock_16 20 rfl rfl)
theorem dX2_encryptBlock_402 : decode cX2_encryptBlock 402 = .ok (.iconst 2, 1) := dk_5 (dk_at dksX2_encryptBlock_16 22 rfl rfl)
theorem dX2_encryptBlock_403 : decode cX2_encryptBlock 403 = .ok (.iadd, 1) := dk_96 (dk_at dksX2_encryptBlock_16 23 rfl rfl)
theorem dX2_encryptBlock_404 : decode cX2_encryptBlock 404 = .ok (.iaload, 1) := dk_46 (dk_at dksX2_encryptBlock_17 0 rfl rfl)
theorem dX2_encryptBlock_405 : decode cX2_encryptBlock 405 = .ok (.iadd, 1) := dk_96 (dk_at dksX2_encryptBlock_17 1 rfl rfl)
theorem dX2_encryptBlock_406 : decode cX2_encryptBlock 406 = .ok (.iconst 3, 1) := dk_6 (dk_at dksX2_encryptBlock_17 2 rfl rfl)
theorem dX2_encryptBlock_407 : decode cX2_encryptBlock 407 = .ok (.invokevirtual 68, 3) := dk_182 0 68 (dk_at dksX2_encryptBlock_17 3 rfl rfl)
theorem dX2_encryptBlock_410 : decode cX2_encryptBlock 410 = .ok (.istore 6, 2) := dk_54 6 (dk_at dksX2_encryptBlock_17 6 rfl rfl)
theorem dX2_encryptBlock_412 : decode cX2_encryptBlock 412 = .ok (.aload_n 0, 1) := dk_42 (dk_at dksX2_encryptBlock_17 8 rfl rfl)
theorem dX2_encryptBlock_413 : decode cX2_encryptBlock 413 = .ok (.iload 5, 2) := dk_21 5 (dk_at dksX2_encryptBlock_17 9 rfl rfl)
theorem dX2_encryptBlock_415 : decode cX2_encryptBlock 415 = .ok (.iload 8, 2) := dk_21 8 (dk_at dksX2_encryptBlock_17 11 rfl rfl)
theorem dX2_encryptBlock_417 : decode cX2_encryptBlock 417 = .ok (.iload 6, 2) := dk_21 6 (dk_at dksX2_encryptBlock_17 13 rfl rfl)
theorem dX2_encryptBlock_419 : decode cX2_encryptBlock 419 = .ok (.iconst (-1), 1) := dk_2 (dk_at dksX2_encryptBlock_17 15 rfl rfl)
theorem dX2_encryptBlock_420 : decode cX2_encryptBlock 420 = .ok (.ixor, 1) := dk_130 (dk_at dksX2_encryptBlock_17 16 rfl rfl)
theorem dX2_encryptBlock_421 : decode cX2_encryptBlock 421 = .ok (.iand, 1) := dk_126 (dk_at dksX2_encryptBlock_17 17 rfl rfl)
theorem dX2_encryptBlock_422 : decode cX2_encryptBlock 422 = .ok (.iadd, 1) := dk_96 (dk_at dksX2_encryptBlock_17 18 rfl rfl)
theorem dX2_encryptBlock_423 : decode cX2_encryptBlock 423 = .ok (.iload 7, 2) := dk_21 7 (dk_at dksX2_encryptBlock_17 19 rfl rfl)
theorem dX2_encryptBlock_425 : decode cX2_encryptBlock 425 = .ok (.iload 6, 2) := dk_21 6 (dk_at dksX2_encryptBlock_17 21 rfl rfl)
theorem dX2_encryptBlock_427 : decode cX2_encryptBlock 427 = .ok (.iand, 1) := dk_126 (dk_at dksX2_encryptBlock_17 23 rfl rfl)
theorem dX2_encryptBlock_428 : decode cX2_encryptBlock 428 = .ok (.iadd, 1) := dk_96 (dk_at dksX2_encryptBlock_18 0 rfl rfl)
theorem dX2_encryptBlock_429 : decode cX2_encryptBlock 429 = .ok (.aload_n 0, 1) := dk_42 (dk_at dksX2_encryptBlock_18 1 rfl rfl)
theorem dX2_encryptBlock_430 : decode cX2_encryptBlock 430 = .ok (.getfield 31, 3) := dk_180 0 31 (dk_at dksX2_encryptBlock_18 2 rfl rfl)
theorem dX2_encryptBlock_433 : decode cX2_encryptBlock 433 = .ok (.iload 9, 2) := dk_21 9 (dk_at dksX2_encryptBlock_18 5 rfl rfl)
theorem dX2_encryptBlock_435 : decode cX2_encryptBlock 435 = .ok (.iconst 3, 1) := dk_6 (dk_at dksX2_encryptBlock_18 7 rfl rfl)
theorem dX2_encryptBlock_436 : decode cX2_encryptBlock 436 = .ok (.iadd, 1) := dk_96 (dk_at dksX2_encryptBlock_18 8 rfl rfl)
theorem dX2_encryptBlock_437 : decode cX2_encryptBlock 437 = .ok (.iaload, 1) := dk_46 (dk_at dksX2_encryptBlock_18 9 rfl rfl)
theorem dX2_encryptBlock_438 : decode cX2_encryptBlock 438 = .ok (.iadd, 1) := dk_96 (dk_at dksX2_encryptBlock_18 10 rfl rfl)
theorem dX2_encryptBlock_439 : decode cX2_encryptBlock 439 = .ok (.iconst 5, 1) := dk_8 (dk_at dksX2_encryptBlock_18 11 rfl rfl)
theorem dX2_encryptBlock_440 : decode cX2_encryptBlock 440 = .ok (.invokevirtual 68, 3) := dk_182 0 68 (dk_at dksX2_encryptBlock_18 12 rfl rfl)
theorem dX2_encryptBlock_443 : decode cX2_encryptBlock 443 = .ok (.istore 5, 2) := dk_54 5 (dk_at dksX2_encryptBlock_18 15 rfl rfl)
theorem dX2_encryptBlock_445 : decode cX2_encryptBlock 445 = .ok (.iinc 9 4, 3) := dk_132 9 4 (dk_at dksX2_encryptBlock_18 17 rfl rfl)
theorem dX2_encryptBlock_448 : decode cX2_encryptBlock 448 = .ok (.goto (-140), 3) := dk_167 255 116 (dk_at dksX2_encryptBlock_18 20 rfl rfl)
theorem dX2_encryptBlock_451 : decode cX2_encryptBlock 451 = .ok (.iload 8, 2) := dk_21 8 (dk_at dksX2_encryptBlock_19 0 rfl rfl)
theorem dX2_encryptBlock_453 : decode cX2_encryptBlock 453 = .ok (.aload_n 0, 1) := dk_42 (dk_at dksX2_encryptBlock_19 2 rfl rfl)
theorem dX2_encryptBlock_454 : decode cX2_encryptBlock 454 = .ok (.getfield 31, 3) := dk_180 0 31 (dk_at dksX2_encryptBlock_19 3 rfl rfl)
theorem dX2_encryptBlock_457 : decode cX2_encryptBlock 457 = .ok (.iload 5, 2) := dk_21 5 (dk_at dksX2_encryptBlock_19 6 rfl rfl)
theorem dX2_encryptBlock_459 : decode cX2_encryptBlock 459 = .ok (.bipush 63, 2) := dk_16 63 (dk_at dksX2_encryptBlock_19 8 rfl rfl)
theorem dX2_encryptBlock_461 : decode cX2_encryptBlock 461 = .ok (.iand, 1) := dk_126 (dk_at dksX2_encryptBlock_19 10 rfl rfl)
theorem dX2_encryptBlock_462 : decode cX2_encryptBlock 462 = .ok (.iaload, 1) := dk_46 (dk_at dksX2_encryptBlock_19 11 rfl rfl)
theorem dX2_encryptBlock_463 : decode cX2_encryptBlock 463 = .ok (.iadd, 1) := dk_96 (dk_at dksX2_encryptBlock_19 12 rfl rfl)
theorem dX2_encryptBlock_464 : decode cX2_encryptBlock 464 = .ok (.istore 8, 2) := dk_54 8 (dk_at dksX2_encryptBlock_19 13 rfl rfl)
theorem dX2_encryptBlock_466 : decode cX2_encryptBlock 466 = .ok (.iload 7, 2) := dk_21 7 (dk_at dksX2_encryptBlock_19 15 rfl rfl)
theorem dX2_encryptBlock_468 : decode cX2_encryptBlock 468 = .ok (.aload_n 0, 1) := dk_42 (dk_at dksX2_encryptBlock_19 17 rfl rfl)
theorem dX2_encryptBlock_469 : decode cX2_encryptBlock 469 = .ok (.getfield 31, 3) := dk_180 0 31 (dk_at dksX2_encryptBlock_19 18 rfl rfl)
theorem dX2_encryptBlock_472 : decode cX2_encryptBlock 472 = .ok (.iload 8, 2) := dk_21 8 (dk_at dksX2_encryptBlock_19 21 rfl rfl)
theorem dX2_encryptBlock_474 : decode cX2_encryptBlock 474 = .ok (.bipush 63, 2) := dk_16 63 (dk_at dksX2_encryptBlock_20 0 rfl rfl)
theorem dX2_encryptBlock_476 : decode cX2_encryptBlock 476 = .ok (.iand, 1) := dk_126 (dk_at dksX2_encryptBlock_20 2 rfl rfl)
theorem dX2_encryptBlock_477 : decode cX2_encryptBlock 477 = .ok (.iaload, 1) := dk_46 (dk_at dksX2_encryptBlock_20 3 rfl rfl)
theorem dX2_encryptBlock_478 : decode cX2_encryptBlock 478 = .ok (.iadd, 1) := dk_96 (dk_at dksX2_encryptBlock_20 4 rfl rfl)
theorem dX2_encryptBlock_479 : decode cX2_encryptBlock 479 = .ok (.istore 7, 2) := dk_54 7 (dk_at dksX2_encryptBlock_20 5 rfl rfl)
theorem dX2_encryptBlock_481 : decode cX2_encryptBlock 481 = .ok (.iload 6, 2) := dk_21 6 (dk_at dksX2_encryptBlock_20 7 rfl rfl)
theorem dX2_encryptBlock_483 : decode cX2_encryptBlock 483 = .ok (.aload_n 0, 1) := dk_42 (dk_at dksX2_encryptBlock_20 9 rfl rfl)
theorem dX2_encryptBlock_484 : decode cX2_encryptBlock 484 = .ok (.getfield 31, 3) := dk_180 0 31 (dk_at dksX2_encryptBlock_20 10 rfl rfl)
theorem dX2_encryptBlock_487 : decode cX2_encryptBlock 487 = .ok (.iload 7, 2) := dk_21 7 (dk_at dksX2_encryptBlock_20 13 rfl rfl)
theorem dX2_encryptBlock_489 : decode cX2_encryptBlock 489 = .ok (.bipush 63, 2) := dk_16 63 (dk_at dksX2_encryptBlock_20 15 rfl rfl)
theorem dX2_encryptBlock_491 : decode cX2_encryptBlock 491 = .ok (.iand, 1) := dk_126 (dk_at dksX2_encryptBlock_20 17 rfl rfl)
theorem dX2_encryptBlock_492 : decode cX2_encryptBlock 492 = .ok (.iaload, 1) := dk_46 (dk_at dksX2_encryptBlock_20 18 rfl rfl)
theorem dX2_encryptBlock_493 : decode cX2_encryptBlock 493 = .ok (.iadd, 1) := dk_96 (dk_at dksX2_encryptBlock_20 19 rfl rfl)
theorem dX2_encryptBlock_494 : decode cX2_encryptBlock 494 = .ok (.istore 6, 2) := dk_54 6 (dk_at dksX2_encryptBlock_20 20 rfl rfl)
theorem dX2_encryptBlock_496 : decode cX2_encryptBlock 496 = .ok (.iload 5, 2) := dk_21 5 (dk_at dksX2_encryptBlock_20 22 rfl rfl)
theorem dX2_encryptBlock_498 : decode cX2_encryptBlock 498 = .ok (.aload_n 0, 1) := dk_42 (dk_at dksX2_encryptBlock_21 0 rfl rfl)
theorem dX2_encryptBlock_499 : decode cX2_encryptBlock 499 = .ok (.getfield 31, 3) := dk_180 0 31 (dk_at dksX2_encryptBlock_21 1 rfl rfl)
theorem dX2_encryptBlock_502 : decode cX2_encryptBlock 502 = .ok (.iload 6, 2) := dk_21 6 (dk_at dksX2_encryptBlock_21 4 rfl rfl)
theorem dX2_encryptBlock_504 : decode cX2_encryptBlock 504 = .ok (.bipush 63, 2) := dk_16 63 (dk_at dksX2_encryptBlock_21 6 rfl rfl)
theorem dX2_encryptBlock_506 : decode cX2_encryptBlock 506 = .ok (.iand, 1) := dk_126 (dk_at dksX2_encryptBlock_21 8 rfl rfl)
theorem dX2_encryptBlock_507 : decode cX2_encryptBlock 507 = .ok (.iaload, 1) := dk_46 (dk_at dksX2_encryptBlock_21 9 rfl rfl)
theorem dX2_encryptBlock_508 : decode cX2_encryptBlock 508 = .ok (.iadd, 1) := dk_96 (dk_at dksX2_encryptBlock_21 10 rfl rfl)
theorem dX2_encryptBlock_509 : decode cX2_encryptBlock 509 = .ok (.istore 5, 2) := dk_54 5 (dk_at dksX2_encryptBlock_21 11 rfl rfl)
theorem dX2_encryptBlock_511 : decode cX2_encryptBlock 511 = .ok (.bipush 44, 2) := dk_16 44 (dk_at dksX2_encryptBlock_21 13 rfl rfl)
theorem dX2_encryptBlock_513 : decode cX2_encryptBlock 513 = .ok (.istore 9, 2) := dk_54 9 (dk_at dksX2_encryptBlock_21 15 rfl rfl)
theorem dX2_encryptBlock_515 : decode cX2_encryptBlock 515 = .ok (.iload 9, 2) := dk_21 9 (dk_at dksX2_encryptBlock_21 17 rfl rfl)
theorem dX2_encryptBlock_517 : decode cX2_encryptBlock 517 = .ok (.bipush 64, 2) := dk_16 64 (dk_at dksX2_encryptBlock_21 19 rfl rfl)
theorem dX2_encryptBlock_519 : decode cX2_encryptBlock 519 = .ok (.if_icmp .ge 139, 3) := dk_162 0 139 (dk_at dksX2_encryptBlock_21 21 rfl rfl)
theorem dX2_encryptBlock_522 : decode cX2_encryptBlock 522 = .ok (.aload_n 0, 1) := dk_42 (dk_at dksX2_encryptBlock_22 0 rfl rfl)
theorem dX2_encryptBlock_523 : decode cX2_encryptBlock 523 = .ok (.iload 8, 2) := dk_21 8 (dk_at dksX2_encryptBlock_22 1 rfl rfl)
theorem dX2_encryptBlock_525 : decode cX2_encryptBlock 525 = .ok (.iload 7, 2) := dk_21 7 (dk_at dksX2_encryptBlock_22 3 rfl rfl)
theorem dX2_encryptBlock_527 : decode cX2_encryptBlock 527 = .ok (.iload 5, 2) := dk_21 5 (dk_at dksX2_encryptBlock_22 5 rfl rfl)
theorem dX2_encryptBlock_529 : decode cX2_encryptBlock 529 = .ok (.iconst (-1), 1) := dk_2 (dk_at dksX2_encryptBlock_22 7 rfl rfl)
theorem dX2_encryptBlock_530 : decode cX2_encryptBlock 530 = .ok (.ixor, 1) := dk_130 (dk_at dksX2_encryptBlock_22 8 rfl rfl)
theorem dX2_encryptBlock_531 : decode cX2_encryptBlock 531 = .ok (.iand, 1) := dk_126 (dk_at dksX2_encryptBlock_22 9 rfl rfl)
theorem dX2_encryptBlock_532 : decode cX2_encryptBlock 532 = .ok (.iadd, 1) := dk_96 (dk_at dksX2_encryptBlock_22 10 rfl rfl)
theorem dX2_encryptBlock_533 : decode cX2_encryptBlock 533 = .ok (.iload 6, 2) := dk_21 6 (dk_at dksX2_encryptBlock_22 11 rfl rfl)
theorem dX2_encryptBlock_535 : decode cX2_encryptBlock 535 = .ok (.iload 5, 2) := dk_21 5 (dk_at dksX2_encryptBlock_22 13 rfl rfl)
theorem dX2_encryptBlock_537 : decode cX2_encryptBlock 537 = .ok (.iand, 1) := dk_126 (dk_at dksX2_encryptBlock_22 15 rfl rfl)
theorem dX2_encryptBlock_538 : decode cX2_encryptBlock 538 = .ok (.iadd, 1) := dk_96 (dk_at dksX2_encryptBlock_22 16 rfl rfl)
theorem dX2_encryptBlock_539 : decode cX2_encryptBlock 539 = .ok (.aload_n 0, 1) := dk_42 (dk_at dksX2_encryptBlock_22 17 rfl rfl)
theorem dX2_encryptBlock_540 : decode cX2_encryptBlock 540 = .ok (.getfield 31, 3) := dk_180 0 31 (dk_at dksX2_encryptBlock_22 18 rfl rfl)
theorem dX2_encryptBlock_543 : decode cX2_encryptBlock 543 = .ok (.iload 9, 2) := dk_21 9 (dk_at dksX2_encryptBlock_22 21 rfl rfl)
theorem dX2_encryptBlock_545 : decode cX2_encryptBlock 545 = .ok (.iaload, 1) := dk_46 (dk_at dksX2_encryptBlock_22 23 rfl rfl)
theorem dX2_encryptBlock_546 : decode cX2_encryptBlock 546 = .ok (.iadd, 1) := dk_96 (dk_at dksX2_encryptBlock_23 0 rfl rfl)
theorem dX2_encryptBlock_547 : decode cX2_encryptBlock 547 = .ok (.iconst 1, 1) := dk_4 (dk_at dksX2_encryptBlock_23 1 rfl rfl)
theorem dX2_encryptBlock_548 : decode cX2_encryptBlock 548 = .ok (.invokevirtual 68, 3) := dk_182 0 68 (dk_at dksX2_encryptBlock_23 2 rfl rfl)
theorem dX2_encryptBlock_551 : decode cX2_encryptBlock 551 = .ok (.istore 8, 2) := dk_54 8 (dk_at dksX2_encryptBlock_23 5 rfl rfl)
theorem dX2_encryptBlock_553 : decode cX2_encryptBlock 553 = .ok (.aload_n 0, 1) := dk_42 (dk_at dksX2_encryptBlock_23 7 rfl rfl)
theorem dX2_encryptBlock_554 : decode cX2_encryptBlock 554 = .ok (.iload 7, 2) := dk_21 7 (dk_at dksX2_encryptBlock_23 8 rfl rfl)
theorem dX2_encryptBlock_556 : decode cX2_encryptBlock 556 = .ok (.iload 6, 2) := dk_21 6 (dk_at dksX2_encryptBlock_23 10 rfl rfl)
theorem dX2_encryptBlock_558 : decode cX2_encryptBlock 558 = .ok (.iload 8, 2) := dk_21 8 (dk_at dksX2_encryptBlock_23 12 rfl rfl)
theorem dX2_encryptBlock_560 : decode cX2_encryptBlock 560 = .ok (.iconst (-1), 1) := dk_2 (dk_at dksX2_encryptBlock_23 14 rfl rfl)
theorem dX2_encryptBlock_561 : decode cX2_encryptBlock 561 = .ok (.ixor, 1) := dk_130 (dk_at dksX2_encryptBlock_23 15 rfl rfl)
theorem dX2_encryptBlock_562 : decode cX2_encryptBlock 562 = .ok (.iand, 1) := dk_126 (dk_at dksX2_encryptBlock_23 16 rfl rfl)
theorem dX2_encryptBlock_563 : decode cX2_encryptBlock 563 = .ok (.iadd, 1) := dk_96 (dk_at dksX2_encryptBlock_23 17 rfl rfl)
theorem dX2_encryptBlock_564 : decode cX2_encryptBlock 564 = .ok (.iload 5, 2) := dk_21 5 (dk_at dksX2_encryptBlock_23 18 rfl rfl)
theorem dX2_encryptBlock_566 : decode cX2_encryptBlock 566 = .ok (.iload 8, 2) := dk_21 8 (dk_at dksX2_encryptBlock_23 20 rfl rfl)
theorem dX2_encryptBlock_568 : decode cX2_encryptBlock 568 = .ok (.iand, 1) := dk_126 (dk_at dksX2_encryptBlock_23 22 rfl rfl)
theorem dX2_encryptBlock_569 : decode cX2_encryptBlock 569 = .ok (.iadd, 1) := dk_96 (dk_at dksX2_encryptBlock_23 23 rfl rfl)
theorem dX2_encryptBlock_570 : decode cX2_encryptBlock 570 = .ok (.aload_n 0, 1) := dk_42 (dk_at dksX2_encryptBlock_24 0 rfl rfl)
theorem dX2_encryptBlock_571 : decode cX2_encryptBlock 571 = .ok (.getfield 31, 3) := dk_180 0 31 (dk_at dksX2_encryptBlock_24 1 rfl rfl)
theorem dX2_encryptBlock_574 : decode cX2_encryptBlock 574 = .ok (.iload 9, 2) := dk_21 9 (dk_at dksX2_encryptBlock_24 4 rfl rfl)
theorem dX2_encryptBlock_576 : decode cX2_encryptBlock 576 = .ok (.iconst 1, 1) := dk_4 (dk_at dksX2_encryptBlock_24 6 rfl rfl)
theorem dX2_encryptBlock_577 : decode cX2_encryptBlock 577 = .ok (.iadd, 1) := dk_96 (dk_at dksX2_encryptBlock_24 7 rfl rfl)
theorem dX2_encryptBlock_578 : decode cX2_encryptBlock 578 = .ok (.iaload, 1) := dk_46 (dk_at dksX2_encryptBlock_24 8 rfl rfl)
theorem dX2_encryptBlock_579 : decode cX2_encryptBlock 579 = .ok (.iadd, 1) := dk_96 (dk_at dksX2_encryptBlock_24 9 rfl rfl)
theorem dX2_encryptBlock_580 : decode cX2_encryptBlock 580 = .ok (.iconst 2, 1) := dk_5 (dk_at dksX2_encryptBlock_24 10 rfl rfl)
theorem dX2_encryptBlock_581 : decode cX2_encryptBlock 581 = .ok (.invokevirtual 68, 3) := dk_182 0 68 (dk_at dksX2_encryptBlock_24 11 rfl rfl)
theorem dX2_encryptBlock_584 : decode cX2_encryptBlock 584 = .ok (.istore 7, 2) := dk_54 7 (dk_at dksX2_encryptBlock_24 14 rfl rfl)
theorem dX2_encryptBlock_586 : decode cX2_encryptBlock 586 = .ok (.aload_n 0, 1) := dk_42 (dk_at dksX2_encryptBlock_24 16 rfl rfl)
theorem dX2_encryptBlock_587 : decode cX2_encryptBlock 587 = .ok (.iload 6, 2) := dk_21 6 (dk_at dksX2_encryptBlock_24 17 rfl rfl)
theorem dX2_encryptBlock_589 : decode cX2_encryptBlock 589 = .ok (.iload 5, 2) := dk_21 5 (dk_at dksX2_encryptBlock_24 19 rfl rfl)
theorem dX2_encryptBlock_591 : decode cX2_encryptBlock 591 = .ok (.iload 7, 2) := dk_21 7 (dk_at dksX2_encryptBlock_24 21 rfl rfl)
theorem dX2_encryptBlock_593 : decode cX2_encryptBlock 593 = .ok (.iconst (-1), 1) := dk_2 (dk_at dksX2_encryptBlock_24 23 rfl rfl)
theorem dX2_encryptBlock_594 : decode cX2_encryptBlock 594 = .ok (.ixor, 1) := dk_130 (dk_at dksX2_encryptBlock_25 0 rfl rfl)
theorem dX2_encryptBlock_595 : decode cX2_encryptBlock 595 = .ok (.iand, 1) := dk_126 (dk_at dksX2_encryptBlock_25 1 rfl rfl)
theorem dX2_encryptBlock_596 : decode cX2_encryptBlock 596 = .ok (.iadd, 1) := dk_96 (dk_at dksX2_encryptBlock_25 2 rfl rfl)
theorem dX2_encryptBlock_597 : decode cX2_encryptBlock 597 = .ok (.iload 8, 2) := dk_21 8 (dk_at dksX2_encryptBlock_25 3 rfl rfl)
theorem dX2_encryptBlock_599 : decode cX2_encryptBlock 599 = .ok (.iload 7, 2) := dk_21 7 (dk_at dksX2_encryptBlock_25 5 rfl rfl)
theorem dX2_encryptBlock_601 : decode cX2_encryptBlock 601 = .ok (.iand, 1) := dk_126 (dk_at dksX2_encryptBlock_25 7 rfl rfl)
theorem dX2_encryptBlock_602 : decode cX2_encryptBlock 602 = .ok (.iadd, 1) := dk_96 (dk_at dksX2_encryptBlock_25 8 rfl rfl)
theorem dX2_encryptBlock_603 : decode cX2_encryptBlock 603 = .ok (.aload_n 0, 1) := dk_42 (dk_at dksX2_encryptBlock_25 9 rfl rfl)
theorem dX2_encryptBlock_604 : decode cX2_encryptBlock 604 = .ok (.getfield 31, 3) := dk_180 0 31 (dk_at dksX2_encryptBlock_25 10 rfl rfl)
theorem dX2_encryptBlock_607 : decode cX2_encryptBlock 607 = .ok (.iload 9, 2) := dk_21 9 (dk_at dksX2_encryptBlock_25 13 rfl rfl)
theorem dX2_encryptBlock_609 : decode cX2_encryptBlock 609 = .ok (.iconst 2, 1) := dk_5 (dk_at dksX2_encryptBlock_25 15 rfl rfl)
theorem dX2_encryptBlock_610 : decode cX2_encryptBlock 610 = .ok (.iadd, 1) := dk_96 (dk_at dksX2_encryptBlock_25 16 rfl rfl)
theorem dX2_encryptBlock_611 : decode cX2_encryptBlock 611 = .ok (.iaload, 1) := dk_46 (dk_at dksX2_encryptBlock_25 17 rfl rfl)
theorem dX2_encryptBlock_612 : decode cX2_encryptBlock 612 = .ok (.iadd, 1) := dk_96 (dk_at dksX2_encryptBlock_25 18 rfl rfl)
theorem dX2_encryptBlock_613 : decode cX2_encryptBlock 613 = .ok (.iconst 3, 1) := dk_6 (dk_at dksX2_encryptBlock_25 19 rfl rfl)
theorem dX2_encryptBlock_614 : decode cX2_encryptBlock 614 = .ok (.invokevirtual 68, 3) := dk_182 0 68 (dk_at dksX2_encryptBlock_25 20 rfl rfl)
theorem dX2_encryptBlock_617 : decode cX2_encryptBlock 617 = .ok (.istore 6, 2) := dk_54 6 (dk_at dksX2_encryptBlock_26 0 rfl rfl)
theorem dX2_encryptBlock_619 : decode cX2_encryptBlock 619 = .ok (.aload_n 0, 1) := dk_42 (dk_at dksX2_encryptBlock_26 2 rfl rfl)
theorem dX2_encryptBlock_620 : decode cX2_encryptBlock 620 = .ok (.iload 5, 2) := dk_21 5 (dk_at dksX2_encryptBlock_26 3 rfl rfl)
theorem dX2_encryptBlock_622 : decode cX2_encryptBlock 622 = .ok (.iload 8, 2) := dk_21 8 (dk_at dksX2_encryptBlock_26 5 rfl rfl)
theorem dX2_encryptBlock_624 : decode cX2_encryptBlock 624 = .ok (.iload 6, 2) := dk_21 6 (dk_at dksX2_encryptBlock_26 7 rfl rfl)
theorem dX2_encryptBlock_626 : decode cX2_encryptBlock 626 = .ok (.iconst (-1), 1) := dk_2 (dk_at dksX2_encryptBlock_26 9 rfl rfl)
theorem dX2_encryptBlock_627 : decode cX2_encryptBlock 627 = .ok (.ixor, 1) := dk_130 (dk_at dksX2_encryptBlock_26 10 rfl rfl)
theorem dX2_encryptBlock_628 : decode cX2_encryptBlock 628 = .ok (.iand, 1) := dk_126 (dk_at dksX2_encryptBlock_26 11 rfl rfl)
theorem dX2_encryptBlock_629 : decode cX2_encryptBlock 629 = .ok (.iadd, 1) := dk_96 (dk_at dksX2_encryptBlock_26 12 rfl rfl)
theorem dX2_encryptBlock_630 : decode cX2_encryptBlock 630 = .ok (.iload 7, 2) := dk_21 7 (dk_at dksX2_encryptBlock_26 13 rfl rfl)
theorem dX2_encryptBlock_632 : decode cX2_encryptBlock 632 = .ok (.iload 6, 2) := dk_21 6 (dk_at dksX2_encryptBlock_26 15 rfl rfl)
theorem dX2_encryptBlock_634 : decode cX2_encryptBlock 634 = .ok (.iand, 1) := dk_126 (dk_at dksX2_encryptBlock_26 17 rfl rfl)
theorem dX2_encryptBlock_635 : decode cX2_encryptBlock 635 = .ok (.iadd, 1) := dk_96 (dk_at dksX2_encryptBlock_26 18 rfl rfl)
theorem dX2_encryptBlock_636 : decode cX2_encryptBlock 636 = .ok (.aload_n 0, 1) := dk_42 (dk_at dksX2_encryptBlock_26 19 rfl rfl)
theorem dX2_encryptBlock_637 : decode cX2_encryptBlock 637 = .ok (.getfield 31, 3) := dk_180 0 31 (dk_at dksX2_encryptBlock_26 20 rfl rfl)
theorem dX2_encryptBlock_640 : decode cX2_encryptBlock 640 = .ok (.iload 9, 2) := dk_21 9 (dk_at dksX2_encryptBlock_27 0 rfl rfl)
theorem dX2_encryptBlock_642 : decode cX2_encryptBlock 642 = .ok (.iconst 3, 1) := dk_6 (dk_at dksX2_encryptBlock_27 2 rfl rfl)
theorem dX2_encryptBlock_643 : decode cX2_encryptBlock 643 = .ok (.iadd, 1) := dk_96 (dk_at dksX2_encryptBlock_27 3 rfl rfl)
theorem dX2_encryptBlock_644 : decode cX2_encryptBlock 644 = .ok (.iaload, 1) := dk_46 (dk_at dksX2_encryptBlock_27 4 rfl rfl)
theorem dX2_encryptBlock_645 : decode cX2_encryptBlock 645 = .ok (.iadd, 1) := dk_96 (dk_at dksX2_encryptBlock_27 5 rfl rfl)
theorem dX2_encryptBlock_646 : decode cX2_encryptBlock 646 = .ok (.iconst 5, 1) := dk_8 (dk_at dksX2_encryptBlock_27 6 rfl rfl)
theorem dX2_encryptBlock_647 : decode cX2_encryptBlock 647 = .ok (.invokevirtual 68, 3) := dk_182 0 68 (dk_at dksX2_encryptBlock_27 7 rfl rfl)
theorem dX2_encryptBlock_650 : decode cX2_encryptBlock 650 = .ok (.istore 5, 2) := dk_54 5 (dk_at dksX2_encryptBlock_27 10 rfl rfl)
theorem dX2_encryptBlock_652 : decode cX2_encryptBlock 652 = .ok (.iinc 9 4, 3) := dk_132 9 4 (dk_at dksX2_encryptBlock_27 12 rfl rfl)
theorem dX2_encryptBlock_655 : decode cX2_encryptBlock 655 = .ok (.goto (-140), 3) := dk_167 255 116 (dk_at dksX2_encryptBlock_27 15 rfl rfl)
theorem dX2_encryptBlock_658 : decode cX2_encryptBlock 658 = .ok (.aload_n 3, 1) := dk_45 (dk_at dksX2_encryptBlock_27 18 rfl rfl)
theorem dX2_encryptBlock_659 : decode cX2_encryptBlock 659 = .ok (.iload 4, 2) := dk_21 4 (dk_at dksX2_encryptBlock_27 19 rfl rfl)
theorem dX2_encryptBlock_661 : decode cX2_encryptBlock 661 = .ok (.iconst 0, 1) := dk_3 (dk_at dksX2_encryptBlock_27 21 rfl rfl)
theorem dX2_encryptBlock_662 : decode cX2_encryptBlock 662 = .ok (.iadd, 1) := dk_96 (dk_at dksX2_encryptBlock_27 22 rfl rfl)
theorem dX2_encryptBlock_663 : decode cX2_encryptBlock 663 = .ok (.iload 8, 2) := dk_21 8 (dk_at dksX2_encryptBlock_28 0 rfl rfl)
theorem dX2_encryptBlock_665 : decode cX2_encryptBlock 665 = .ok (.i2b, 1) := dk_145 (dk_at dksX2_encryptBlock_28 2 rfl rfl)
theorem dX2_encryptBlock_666 : decode cX2_encryptBlock 666 = .ok (.bastore, 1) := dk_84 (dk_at dksX2_encryptBlock_28 3 rfl rfl)
theorem dX2_encryptBlock_667 : decode cX2_encryptBlock 667 = .ok (.aload_n 3, 1) := dk_45 (dk_at dksX2_encryptBlock_28 4 rfl rfl)
theorem dX2_encryptBlock_668 : decode cX2_encryptBlock 668 = .ok (.iload 4, 2) := dk_21 4 (dk_at dksX2_encryptBlock_28 5 rfl rfl)
theorem dX2_encryptBlock_670 : decode cX2_encryptBlock 670 = .ok (.iconst 1, 1) := dk_4 (dk_at dksX2_encryptBlock_28 7 rfl rfl)
theorem dX2_encryptBlock_671 : decode cX2_encryptBlock 671 = .ok (.iadd, 1) := dk_96 (dk_at dksX2_encryptBlock_28 8 rfl rfl)
theorem dX2_encryptBlock_672 : decode cX2_encryptBlock 672 = .ok (.iload 8, 2) := dk_21 8 (dk_at dksX2_encryptBlock_28 9 rfl rfl)
theorem dX2_encryptBlock_674 : decode cX2_encryptBlock 674 = .ok (.bipush 8, 2) := dk_16 8 (dk_at dksX2_encryptBlock_28 11 rfl rfl)
theorem dX2_encryptBlock_676 : decode cX2_encryptBlock 676 = .ok (.ishr, 1) := dk_122 (dk_at dksX2_encryptBlock_28 13 rfl rfl)
theorem dX2_encryptBlock_677 : decode cX2_encryptBlock 677 = .ok (.i2b, 1) := dk_145 (dk_at dksX2_encryptBlock_28 14 rfl rfl)
theorem dX2_encryptBlock_678 : decode cX2_encryptBlock 678 = .ok (.bastore, 1) := dk_84 (dk_at dksX2_encryptBlock_28 15 rfl rfl)
theorem dX2_encryptBlock_679 : decode cX2_encryptBlock 679 = .ok (.aload_n 3, 1) := dk_45 (dk_at dksX2_encryptBlock_28 16 rfl rfl)
theorem dX2_encryptBlock_680 : decode cX2_encryptBlock 680 = .ok (.iload 4, 2) := dk_21 4 (dk_at dksX2_encryptBlock_28 17 rfl rfl)
theorem dX2_encryptBlock_682 : decode cX2_encryptBlock 682 = .ok (.iconst 2, 1) := dk_5 (dk_at dksX2_encryptBlock_28 19 rfl rfl)
theorem dX2_encryptBlock_683 : decode cX2_encryptBlock 683 = .ok (.iadd, 1) := dk_96 (dk_at dksX2_encryptBlock_28 20 rfl rfl)
theorem dX2_encryptBlock_684 : decode cX2_encryptBlock 684 = .ok (.iload 7, 2) := dk_21 7 (dk_at dksX2_encryptBlock_28 21 rfl rfl)
theorem dX2_encryptBlock_686 : decode cX2_encryptBlock 686 = .ok (.i2b, 1) := dk_145 (dk_at dksX2_encryptBlock_28 23 rfl rfl)
theorem dX2_encryptBlock_687 : decode cX2_encryptBlock 687 = .ok (.bastore, 1) := dk_84 (dk_at dksX2_encryptBlock_29 0 rfl rfl)
theorem dX2_encryptBlock_688 : decode cX2_encryptBlock 688 = .ok (.aload_n 3, 1) := dk_45 (dk_at dksX2_encryptBlock_29 1 rfl rfl)
theorem dX2_encryptBlock_689 : decode cX2_encryptBlock 689 = .ok (.iload 4, 2) := dk_21 4 (dk_at dksX2_encryptBlock_29 2 rfl rfl)
theorem dX2_encryptBlock_691 : decode cX2_encryptBlock 691 = .ok (.iconst 3, 1) := dk_6 (dk_at dksX2_encryptBlock_29 4 rfl rfl)
theorem dX2_encryptBlock_692 : decode cX2_encryptBlock 692 = .ok (.iadd, 1) := dk_96 (dk_at dksX2_encryptBlock_29 5 rfl rfl)
theorem dX2_encryptBlock_693 : decode cX2_encryptBlock 693 = .ok (.iload 7, 2) := dk_21 7 (dk_at dksX2_encryptBlock_29 6 rfl rfl)
theorem dX2_encryptBlock_695 : decode cX2_encryptBlock 695 = .ok (.bipush 8, 2) := dk_16 8 (dk_at dksX2_encryptBlock_29 8 rfl rfl)
theorem dX2_encryptBlock_697 : decode cX2_encryptBlock 697 = .ok (.ishr, 1) := dk_122 (dk_at dksX2_encryptBlock_29 10 rfl rfl)
theorem dX2_encryptBlock_698 : decode cX2_encryptBlock 698 = .ok (.i2b, 1) := dk_145 (dk_at dksX2_encryptBlock_29 11 rfl rfl)
theorem dX2_encryptBlock_699 : decode cX2_encryptBlock 699 = .ok (.bastore, 1) := dk_84 (dk_at dksX2_encryptBlock_29 12 rfl rfl)
theorem dX2_encryptBlock_700 : decode cX2_encryptBlock 700 = .ok (.aload_n 3, 1) := dk_45 (dk_at dksX2_encryptBlock_29 13 rfl rfl)
theorem dX2_encryptBlock_701 : decode cX2_encryptBlock 701 = .ok (.iload 4, 2) := dk_21 4 (dk_at dksX2_encryptBlock_29 14 rfl rfl)
theorem dX2_encryptBlock_703 : decode cX2_encryptBlock 703 = .ok (.iconst 4, 1) := dk_7 (dk_at dksX2_encryptBlock_29 16 rfl rfl)
theorem dX2_encryptBlock_704 : decode cX2_encryptBlock 704 = .ok (.iadd, 1) := dk_96 (dk_at dksX2_encryptBlock_29 17 rfl rfl)
theorem dX2_encryptBlock_705 : decode cX2_encryptBlock 705 = .ok (.iload 6, 2) := dk_21 6 (dk_at dksX2_encryptBlock_29 18 rfl rfl)
theorem dX2_encryptBlock_707 : decode cX2_encryptBlock 707 = .ok (.i2b, 1) := dk_145 (dk_at dksX2_encryptBlock_29 20 rfl rfl)
theorem dX2_encryptBlock_708 : decode cX2_encryptBlock 708 = .ok (.bastore, 1) := dk_84 (dk_at dksX2_encryptBlock_29 21 rfl rfl)
theorem dX2_encryptBlock_709 : decode cX2_encryptBlock 709 = .ok (.aload_n 3, 1) := dk_45 (dk_at dksX2_encryptBlock_29 22 rfl rfl)
theorem dX2_encryptBlock_710 : decode cX2_encryptBlock 710 = .ok (.iload 4, 2) := dk_21 4 (dk_at dksX2_encryptBlock_30 0 rfl rfl)
theorem dX2_encryptBlock_712 : decode cX2_encryptBlock 712 = .ok (.iconst 5, 1) := dk_8 (dk_at dksX2_encryptBlock_30 2 rfl rfl)
theorem dX2_encryptBlock_713 : decode cX2_encryptBlock 713 = .ok (.iadd, 1) := dk_96 (dk_at dksX2_encryptBlock_30 3 rfl rfl)
theorem dX2_encryptBlock_714 : decode cX2_encryptBlock 714 = .ok (.iload 6, 2) := dk_21 6 (dk_at dksX2_encryptBlock_30 4 rfl rfl)
theorem dX2_encryptBlock_716 : decode cX2_encryptBlock 716 = .ok (.bipush 8, 2) := dk_16 8 (dk_at dksX2_encryptBlock_30 6 rfl rfl)
theorem dX2_encryptBlock_718 : decode cX2_encryptBlock 718 = .ok (.ishr, 1) := dk_122 (dk_at dksX2_encryptBlock_30 8 rfl rfl)
theorem dX2_encryptBlock_719 : decode cX2_encryptBlock 719 = .ok (.i2b, 1) := dk_145 (dk_at dksX2_encryptBlock_30 9 rfl rfl)
theorem dX2_encryptBlock_720 : decode cX2_encryptBlock 720 = .ok (.bastore, 1) := dk_84 (dk_at dksX2_encryptBlock_30 10 rfl rfl)
theorem dX2_encryptBlock_721 : decode cX2_encryptBlock 721 = .ok (.aload_n 3, 1) := dk_45 (dk_at dksX2_encryptBlock_30 11 rfl rfl)
theorem dX2_encryptBlock_722 : decode cX2_encryptBlock 722 = .ok (.iload 4, 2) := dk_21 4 (dk_at dksX2_encryptBlock_30 12 rfl rfl)
theorem dX2_encryptBlock_724 : decode cX2_encryptBlock 724 = .ok (.bipush 6, 2) := dk_16 6 (dk_at dksX2_encryptBlock_30 14 rfl rfl)
theorem dX2_encryptBlock_726 : decode cX2_encryptBlock 726 = .ok (.iadd, 1) := dk_96 (dk_at dksX2_encryptBlock_30 16 rfl rfl)
theorem dX2_encryptBlock_727 : decode cX2_encryptBlock 727 = .ok (.iload 5, 2) := dk_21 5 (dk_at dksX2_encryptBlock_30 17 rfl rfl)
theorem dX2_encryptBlock_729 : decode cX2_encryptBlock 729 = .ok (.i2b, 1) := dk_145 (dk_at dksX2_encryptBlock_30 19 rfl rfl)
theorem dX2_encryptBlock_730 : decode cX2_encryptBlock 730 = .ok (.bastore, 1) := dk_84 (dk_at dksX2_encryptBlock_30 20 rfl rfl)
theorem dX2_encryptBlock_731 : decode cX2_encryptBlock 731 = .ok (.aload_n 3, 1) := dk_45 (dk_at dksX2_encryptBlock_30 21 rfl rfl)
theorem dX2_encryptBlock_732 : decode cX2_encryptBlock 732 = .ok (.iload 4, 2) := dk_21 4 (dk_at dksX2_encryptBlock_30 22 rfl rfl)
theorem dX2_encryptBlock_734 : decode cX2_encryptBlock 734 = .ok (.bipush 7, 2) := dk_16 7 (dk_at dksX2_encryptBlock_31 0 rfl rfl)
theorem dX2_encryptBlock_736 : decode cX2_encryptBlock 736 = .ok (.iadd, 1) := dk_96 (dk_at dksX2_encryptBlock_31 2 rfl rfl)
theorem dX2_encryptBlock_737 : decode cX2_encryptBlock 737 = .ok (.iload 5, 2) := dk_21 5 (dk_at dksX2_encryptBlock_31 3 rfl rfl)
theorem dX2_encryptBlock_739 : decode cX2_encryptBlock 739 = .ok (.bipush 8, 2) := dk_16 8 (dk_at dksX2_encryptBlock_31 5 rfl rfl)
theorem dX2_encryptBlock_741 : decode cX2_encryptBlock 741 = .ok (.ishr, 1) := dk_122 (dk_at dksX2_encryptBlock_31 7 rfl rfl)
theorem dX2_encryptBlock_742 : decode cX2_encryptBlock 742 = .ok (.i2b, 1) := dk_145 (dk_at dksX2_encryptBlock_31 8 rfl rfl)
theorem dX2_encryptBlock_743 : decode cX2_encryptBlock 743 = .ok (.bastore, 1) := dk_84 (dk_at dksX2_encryptBlock_31 9 rfl rfl)
theorem dX2_encryptBlock_744 : decode cX2_encryptBlock 744 = .ok (.return_, 1) := dk_177 (dk_at dksX2_encryptBlock_31 10 rfl rfl)
abbrev cX2_rotateWordLeft : ByteArray := prog_6_method_5_code
def yX2_rotateWordLeft : MethodName := ⟨RX2, "rotateWordLeft", "(II)I"⟩
def dkwX2_rotateWordLeft_0 : List UInt8 := [27, 18, 67, 126, 60, 27, 28, 120, 27, 16, 16, 28, 100, 122, 128, 172]
abbrev dktX2_rotateWordLeft_0 : List UInt8 := dkwX2_rotateWordLeft_0 ++ []
theorem dksX2_rotateWordLeft_0 : cX2_rotateWordLeft.data.toList.drop 0 = dktX2_rotateWordLeft_0 := by decide +kernel
theorem dX2_rotateWordLeft_0 : decode cX2_rotateWordLeft 0 = .ok (.iload_n 1, 1) := dk_27 (dk_at dksX2_rotateWordLeft_0 0 rfl rfl)
theorem dX2_rotateWordLeft_1 : decode cX2_rotateWordLeft 1 = .ok (.ldc 67, 2) := dk_18 67 (dk_at dksX2_rotateWordLeft_0 1 rfl rfl)
theorem dX2_rotateWordLeft_3 : decode cX2_rotateWordLeft 3 = .ok (.iand, 1) := dk_126 (dk_at dksX2_rotateWordLeft_0 3 rfl rfl)
theorem dX2_rotateWordLeft_4 : decode cX2_rotateWordLeft 4 = .ok (.istore_n 1, 1) := dk_60 (dk_at dksX2_rotateWordLeft_0 4 rfl rfl)
theorem dX2_rotateWordLeft_5 : decode cX2_rotateWordLeft 5 = .ok (.iload_n 1, 1) := dk_27 (dk_at dksX2_rotateWordLeft_0 5 rfl rfl)
theorem dX2_rotateWordLeft_6 : decode cX2_rotateWordLeft 6 = .ok (.iload_n 2, 1) := dk_28 (dk_at dksX2_rotateWordLeft_0 6 rfl rfl)
theorem dX2_rotateWordLeft_7 : decode cX2_rotateWordLeft 7 = .ok (.ishl, 1) := dk_120 (dk_at dksX2_rotateWordLeft_0 7 rfl rfl)
theorem dX2_rotateWordLeft_8 : decode cX2_rotateWordLeft 8 = .ok (.iload_n 1, 1) := dk_27 (dk_at dksX2_rotateWordLeft_0 8 rfl rfl)
theorem dX2_rotateWordLeft_9 : decode cX2_rotateWordLeft 9 = .ok (.bipush 16, 2) := dk_16 16 (dk_at dksX2_rotateWordLeft_0 9 rfl rfl)
theorem dX2_rotateWordLeft_11 : decode cX2_rotateWordLeft 11 = .ok (.iload_n 2, 1) := dk_28 (dk_at dksX2_rotateWordLeft_0 11 rfl rfl)
theorem dX2_rotateWordLeft_12 : decode cX2_rotateWordLeft 12 = .ok (.isub, 1) := dk_100 (dk_at dksX2_rotateWordLeft_0 12 rfl rfl)
theorem dX2_rotateWordLeft_13 : decode cX2_rotateWordLeft 13 = .ok (.ishr, 1) := dk_122 (dk_at dksX2_rotateWordLeft_0 13 rfl rfl)
theorem dX2_rotateWordLeft_14 : decode cX2_rotateWordLeft 14 = .ok (.ior, 1) := dk_128 (dk_at dksX2_rotateWordLeft_0 14 rfl rfl)
theorem dX2_rotateWordLeft_15 : decode cX2_rotateWordLeft 15 = .ok (.ireturn, 1) := dk_172 (dk_at dksX2_rotateWordLeft_0 15 rfl rfl)
abbrev cX2_decryptBlock : ByteArray := prog_6_method_7_code
def yX2_decryptBlock : MethodName := ⟨RX2, "decryptBlock", "([BI[BI)V"⟩
def dkwX2_decryptBlock_32 : List UInt8 := [84, 177]
abbrev dktX2_decryptBlock_32 : List UInt8 := dkwX2_decryptBlock_32 ++ []
def dkwX2_decryptBlock_31 : List UInt8 := [145, 84, 45, 21, 4, 16, 6, 96, 21, 5, 145, 84, 45, 21, 4, 16, 7, 96, 21, 5, 16, 8, 122, 145]
abbrev dktX2_decryptBlock_31 : List UInt8 := dkwX2_decryptBlock_31 ++ dktX2_decryptBlock_32
def dkwX2_decryptBlock_30 : List UInt8 := [16, 8, 122, 145, 84, 45, 21, 4, 7, 96, 21, 6, 145, 84, 45, 21, 4, 8, 96, 21, 6, 16, 8, 122]
abbrev dktX2_decryptBlock_30 : List UInt8 := dkwX2_decryptBlock_30 ++ dktX2_decryptBlock_31
def dkwX2_decryptBlock_29 : List UInt8 := [21, 8, 16, 8, 122, 145, 84, 45, 21, 4, 5, 96, 21, 7, 145, 84, 45, 21, 4, 6, 96, 21, 7]
abbrev dktX2_decryptBlock_29 : List UInt8 := dkwX2_decryptBlock_29 ++ dktX2_decryptBlock_30
def dkwX2_decryptBlock_28 : List UInt8 := [100, 54, 8, 132, 9, 252, 167, 255, 114, 45, 21, 4, 3, 96, 21, 8, 145, 84, 45, 21, 4, 4, 96]
abbrev dktX2_decryptBlock_28 : List UInt8 := dkwX2_decryptBlock_28 ++ dktX2_decryptBlock_29
def dkwX2_decryptBlock_27 : List UInt8 := [182, 0, 68, 21, 7, 21, 5, 2, 130, 126, 21, 6, 21, 5, 126, 96, 42, 180, 0, 31, 21, 9, 46, 96]
abbrev dktX2_decryptBlock_27 : List UInt8 := dkwX2_decryptBlock_27 ++ dktX2_decryptBlock_28
def dkwX2_decryptBlock_26 : List UInt8 := [21, 5, 21, 8, 126, 96, 42, 180, 0, 31, 21, 9, 4, 96, 46, 96, 100, 54, 7, 42, 21, 8, 16, 15]
abbrev dktX2_decryptBlock_26 : List UInt8 := dkwX2_decryptBlock_26 ++ dktX2_decryptBlock_27
def dkwX2_decryptBlock_25 : List UInt8 := [21, 9, 5, 96, 46, 96, 100, 54, 6, 42, 21, 7, 16, 14, 182, 0, 68, 21, 6, 21, 8, 2, 130, 126]
abbrev dktX2_decryptBlock_25 : List UInt8 := dkwX2_decryptBlock_25 ++ dktX2_decryptBlock_26
def dkwX2_decryptBlock_24 : List UInt8 := [21, 6, 16, 13, 182, 0, 68, 21, 5, 21, 7, 2, 130, 126, 21, 8, 21, 7, 126, 96, 42, 180, 0, 31]
abbrev dktX2_decryptBlock_24 : List UInt8 := dkwX2_decryptBlock_24 ++ dktX2_decryptBlock_25
def dkwX2_decryptBlock_23 : List UInt8 := [2, 130, 126, 21, 7, 21, 6, 126, 96, 42, 180, 0, 31, 21, 9, 6, 96, 46, 96, 100, 54, 5, 42]
abbrev dktX2_decryptBlock_23 : List UInt8 := dkwX2_decryptBlock_23 ++ dktX2_decryptBlock_24
def dkwX2_decryptBlock_22 : List UInt8 := [100, 54, 8, 16, 16, 54, 9, 21, 9, 155, 0, 143, 42, 21, 5, 16, 11, 182, 0, 68, 21, 8, 21, 6]
abbrev dktX2_decryptBlock_22 : List UInt8 := dkwX2_decryptBlock_22 ++ dktX2_decryptBlock_23
def dkwX2_decryptBlock_21 : List UInt8 := [180, 0, 31, 21, 8, 16, 63, 126, 46, 100, 54, 7, 21, 8, 42, 180, 0, 31, 21, 5, 16, 63, 126, 46]
abbrev dktX2_decryptBlock_21 : List UInt8 := dkwX2_decryptBlock_21 ++ dktX2_decryptBlock_22
def dkwX2_decryptBlock_20 : List UInt8 := [46, 100, 54, 5, 21, 6, 42, 180, 0, 31, 21, 7, 16, 63, 126, 46, 100, 54, 6, 21, 7, 42]
abbrev dktX2_decryptBlock_20 : List UInt8 := dkwX2_decryptBlock_20 ++ dktX2_decryptBlock_21
def dkwX2_decryptBlock_19 : List UInt8 := [21, 9, 46, 96, 100, 54, 8, 132, 9, 252, 167, 255, 112, 21, 5, 42, 180, 0, 31, 21, 6, 16, 63, 126]
abbrev dktX2_decryptBlock_19 : List UInt8 := dkwX2_decryptBlock_19 ++ dktX2_decryptBlock_20
def dkwX2_decryptBlock_18 : List UInt8 := [21, 8, 16, 15, 182, 0, 68, 21, 7, 21, 5, 2, 130, 126, 21, 6, 21, 5, 126, 96, 42, 180, 0, 31]
abbrev dktX2_decryptBlock_18 : List UInt8 := dkwX2_decryptBlock_18 ++ dktX2_decryptBlock_19
def dkwX2_decryptBlock_17 : List UInt8 := [2, 130, 126, 21, 5, 21, 8, 126, 96, 42, 180, 0, 31, 21, 9, 4, 96, 46, 96, 100, 54, 7, 42]
abbrev dktX2_decryptBlock_17 : List UInt8 := dkwX2_decryptBlock_17 ++ dktX2_decryptBlock_18
def dkwX2_decryptBlock_16 : List UInt8 := [180, 0, 31, 21, 9, 5, 96, 46, 96, 100, 54, 6, 42, 21, 7, 16, 14, 182, 0, 68, 21, 6, 21, 8]
abbrev dktX2_decryptBlock_16 : List UInt8 := dkwX2_decryptBlock_16 ++ dktX2_decryptBlock_17
def dkwX2_decryptBlock_15 : List UInt8 := [42, 21, 6, 16, 13, 182, 0, 68, 21, 5, 21, 7, 2, 130, 126, 21, 8, 21, 7, 126, 96, 42]
abbrev dktX2_decryptBlock_15 : List UInt8 := dkwX2_decryptBlock_15 ++ dktX2_decryptBlock_16
def dkwX2_decryptBlock_14 : List UInt8 := [21, 6, 2, 130, 126, 21, 7, 21, 6, 126, 96, 42, 180, 0, 31, 21, 9, 6, 96, 46, 96, 100, 54, 5]
abbrev dktX2_decryptBlock_14 : List UInt8 := dkwX2_decryptBlock_14 ++ dktX2_decryptBlock_15
def dkwX2_decryptBlock_13 : List UInt8 := [100, 54, 8, 16, 40, 54, 9, 21, 9, 16, 20, 161, 0, 143, 42, 21, 5, 16, 11, 182, 0, 68, 21, 8]
abbrev dktX2_decryptBlock_13 : List UInt8 := dkwX2_decryptBlock_13 ++ dktX2_decryptBlock_14
def dkwX2_decryptBlock_12 : List UInt8 := [180, 0, 31, 21, 8, 16, 63, 126, 46, 100, 54, 7, 21, 8, 42, 180, 0, 31, 21, 5, 16, 63, 126, 46]
abbrev dktX2_decryptBlock_12 : List UInt8 := dkwX2_decryptBlock_12 ++ dktX2_decryptBlock_13
def dkwX2_decryptBlock_11 : List UInt8 := [46, 100, 54, 5, 21, 6, 42, 180, 0, 31, 21, 7, 16, 63, 126, 46, 100, 54, 6, 21, 7, 42]
abbrev dktX2_decryptBlock_11 : List UInt8 := dkwX2_decryptBlock_11 ++ dktX2_decryptBlock_12
def dkwX2_decryptBlock_10 : List UInt8 := [21, 9, 46, 96, 100, 54, 8, 132, 9, 252, 167, 255, 112, 21, 5, 42, 180, 0, 31, 21, 6, 16, 63, 126]
abbrev dktX2_decryptBlock_10 : List UInt8 := dkwX2_decryptBlock_10 ++ dktX2_decryptBlock_11
def dkwX2_decryptBlock_9 : List UInt8 := [21, 8, 16, 15, 182, 0, 68, 21, 7, 21, 5, 2, 130, 126, 21, 6, 21, 5, 126, 96, 42, 180, 0, 31]
abbrev dktX2_decryptBlock_9 : List UInt8 := dkwX2_decryptBlock_9 ++ dktX2_decryptBlock_10
def dkwX2_decryptBlock_8 : List UInt8 := [2, 130, 126, 21, 5, 21, 8, 126, 96, 42, 180, 0, 31, 21, 9, 4, 96, 46, 96, 100, 54, 7, 42]
abbrev dktX2_decryptBlock_8 : List UInt8 := dkwX2_decryptBlock_8 ++ dktX2_decryptBlock_9
def dkwX2_decryptBlock_7 : List UInt8 := [180, 0, 31, 21, 9, 5, 96, 46, 96, 100, 54, 6, 42, 21, 7, 16, 14, 182, 0, 68, 21, 6, 21, 8]
abbrev dktX2_decryptBlock_7 : List UInt8 := dkwX2_decryptBlock_7 ++ dktX2_decryptBlock_8
def dkwX2_decryptBlock_6 : List UInt8 := [42, 21, 6, 16, 13, 182, 0, 68, 21, 5, 21, 7, 2, 130, 126, 21, 8, 21, 7, 126, 96, 42]
abbrev dktX2_decryptBlock_6 : List UInt8 := dkwX2_decryptBlock_6 ++ dktX2_decryptBlock_7
def dkwX2_decryptBlock_5 : List UInt8 := [21, 6, 2, 130, 126, 21, 7, 21, 6, 126, 96, 42, 180, 0, 31, 21, 9, 6, 96, 46, 96, 100, 54, 5]
abbrev dktX2_decryptBlock_5 : List UInt8 := dkwX2_decryptBlock_5 ++ dktX2_decryptBlock_6
def dkwX2_decryptBlock_4 : List UInt8 := [54, 8, 16, 60, 54, 9, 21, 9, 16, 44, 161, 0, 143, 42, 21, 5, 16, 11, 182, 0, 68, 21, 8]
abbrev dktX2_decryptBlock_4 : List UInt8 := dkwX2_decryptBlock_4 ++ dktX2_decryptBlock_5
def dkwX2_decryptBlock_3 : List UInt8 := [54, 7, 43, 28, 4, 96, 51, 17, 0, 255, 126, 16, 8, 120, 43, 28, 3, 96, 51, 17, 0, 255, 126, 96]
abbrev dktX2_decryptBlock_3 : List UInt8 := dkwX2_decryptBlock_3 ++ dktX2_decryptBlock_4
def dkwX2_decryptBlock_2 : List UInt8 := [54, 6, 43, 28, 6, 96, 51, 17, 0, 255, 126, 16, 8, 120, 43, 28, 5, 96, 51, 17, 0, 255, 126, 96]
abbrev dktX2_decryptBlock_2 : List UInt8 := dkwX2_decryptBlock_2 ++ dktX2_decryptBlock_3
def dkwX2_decryptBlock_1 : List UInt8 := [54, 5, 43, 28, 8, 96, 51, 17, 0, 255, 126, 16, 8, 120, 43, 28, 7, 96, 51, 17, 0, 255, 126, 96]
abbrev dktX2_decryptBlock_1 : List UInt8 := dkwX2_decryptBlock_1 ++ dktX2_decryptBlock_2
def dkwX2_decryptBlock_0 : List UInt8 := [43, 28, 16, 7, 96, 51, 17, 0, 255, 126, 16, 8, 120, 43, 28, 16, 6, 96, 51, 17, 0, 255, 126, 96]
abbrev dktX2_decryptBlock_0 : List UInt8 := dkwX2_decryptBlock_0 ++ dktX2_decryptBlock_1
theorem dksX2_decryptBlock_0 : cX2_decryptBlock.data.toList.drop 0 = dktX2_decryptBlock_0 := by decide +kernel
theorem dksX2_decryptBlock_1 : cX2_decryptBlock.data.toList.drop 24 = dktX2_decryptBlock_1 := dk_seg dksX2_decryptBlock_0 24 rfl rfl
theorem dksX2_decryptBlock_2 : cX2_decryptBlock.data.toList.drop 48 = dktX2_decryptBlock_2 := dk_seg dksX2_decryptBlock_1 24 rfl rfl
theorem dksX2_decryptBlock_3 : cX2_decryptBlock.data.toList.drop 72 = dktX2_decryptBlock_3 := dk_seg dksX2_decryptBlock_2 24 rfl rfl
theorem dksX2_decryptBlock_4 : cX2_decryptBlock.data.toList.drop 96 = dktX2_decryptBlock_4 := dk_seg dksX2_decryptBlock_3 24 rfl rfl
theorem dksX2_decryptBlock_5 : cX2_decryptBlock.data.toList.drop 119 = dktX2_decryptBlock_5 := dk_seg dksX2_decryptBlock_4 23 rfl rfl
theorem dksX2_decryptBlock_6 : cX2_decryptBlock.data.toList.drop 143 = dktX2_decryptBlock_6 := dk_seg dksX2_decryptBlock_5 24 rfl rfl
theorem dksX2_decryptBlock_7 : cX2_decryptBlock.data.toList.drop 165 = dktX2_decryptBlock_7 := dk_seg dksX2_decryptBlock_6 22 rfl rfl
theorem dksX2_decryptBlock_8 : cX2_decryptBlock.data.toList.drop 189 = dktX2_decryptBlock_8 := dk_seg dksX2_decryptBlock_7 24 rfl rfl
theorem dksX2_decryptBlock_9 : cX2_decryptBlock.data.toList.drop 212 = dktX2_decryptBlock_9 := dk_seg dksX2_decryptBlock_8 23 rfl rfl
theorem dksX2_decryptBlock_10 : cX2_decryptBlock.data.toList.drop 236 = dktX2_decryptBlock_10 := dk_seg dksX2_decryptBlock_9 24 rfl rfl
theorem dksX2_decryptBlock_11 : cX2_decryptBlock.data.toList.drop 260 = dktX2_decryptBlock_11 := dk_seg dksX2_decryptBlock_10 24 rfl rfl
theorem dksX2_decryptBlock_12 : cX2_decryptBlock.data.toList.drop 282 = dktX2_decryptBlock_12 := dk_seg dksX2_decryptBlock_11 22 rfl rfl
theorem dksX2_decryptBlock_13 : cX2_decryptBlock.data.toList.drop 306 = dktX2_decryptBlock_13 := dk_seg dksX2_decryptBlock_12 24 rfl rfl
theorem dksX2_decryptBlock_14 : cX2_decryptBlock.data.toList.drop 330 = dktX2_decryptBlock_14 := dk_seg dksX2_decryptBlock_13 24 rfl rfl
theorem dksX2_decryptBlock_15 : cX2_decryptBlock.data.toList.drop 354 = dktX2_decryptBlock_15 := dk_seg dksX2_decryptBlock_14 24 rfl rfl
theorem dksX2_decryptBlock_16 : cX2_decryptBlock.data.toList.drop 376 = dktX2_decryptBlock_16 := dk_seg dksX2_decryptBlock_15 22 rfl rfl
theorem dksX2_decryptBlock_17 : cX2_decryptBlock.data.toList.drop 400 = dktX2_decryptBlock_17 := dk_seg dksX2_decryptBlock_16 24 rfl rfl
theorem dksX2_decryptBlock_18 : cX2_decryptBlock.data.toList.drop 423 = dktX2_decryptBlock_18 := dk_seg dksX2_decryptBlock_17 23 rfl rfl
theorem dksX2_decryptBlock_19 : cX2_decryptBlock.data.toList.drop 447 = dktX2_decryptBlock_19 := dk_seg dksX2_decryptBlock_18 24 rfl rfl
theorem dksX2_decryptBlock_20 : cX2_decryptBlock.data.toList.drop 471 = dktX2_decryptBlock_20 := dk_seg dksX2_decryptBlock_19 24 rfl rfl
theorem dksX2_decryptBlock_21 : cX2_decryptBlock.data.toList.drop 493 = dktX2_decryptBlock_21 := dk_seg dksX2_decryptBlock_20 22 rfl rfl
theorem dksX2_decryptBlock_22 : cX2_decryptBlock.data.toList.drop 517 = dktX2_decryptBlock_22 := dk_seg dksX2_decryptBlock_21 24 rfl rfl
theorem dksX2_decryptBlock_23 : cX2_decryptBlock.data.toList.drop 541 = dktX2_decryptBlock_23 := dk_seg dksX2_decryptBlock_22 24 rfl rfl
theorem dksX2_decryptBlock_24 : cX2_decryptBlock.data.toList.drop 564 = dktX2_decryptBlock_24 := dk_seg dksX2_decryptBlock_23 23 rfl rfl
theorem dksX2_decryptBlock_25 : cX2_decryptBlock.data.toList.drop 588 = dktX2_decryptBlock_25 := dk_seg dksX2_decryptBlock_24 24 rfl rfl
theorem dksX2_decryptBlock_26 : cX2_decryptBlock.data.toList.drop 612 = dktX2_decryptBlock_26 := dk_seg dksX2_decryptBlock_25 24 rfl rfl
theorem dksX2_decryptBlock_27 : cX2_decryptBlock.data.toList.drop 636 = dktX2_decryptBlock_27 := dk_seg dksX2_decryptBlock_26 24 rfl rfl
theorem dksX2_decryptBlock_28 : cX2_decryptBlock.data.toList.drop 660 = dktX2_decryptBlock_28 := dk_seg dksX2_decryptBlock_27 24 rfl rfl
theorem dksX2_decryptBlock_29 : cX2_decryptBlock.data.toList.drop 683 = dktX2_decryptBlock_29 := dk_seg dksX2_decryptBlock_28 23 rfl rfl
theorem dksX2_decryptBlock_30 : cX2_decryptBlock.data.toList.drop 706 = dktX2_decryptBlock_30 := dk_seg dksX2_decryptBlock_29 23 rfl rfl
theorem dksX2_decryptBlock_31 : cX2_decryptBlock.data.toList.drop 730 = dktX2_decryptBlock_31 := dk_seg dksX2_decryptBlock_30 24 rfl rfl
theorem dksX2_decryptBlock_32 : cX2_decryptBlock.data.toList.drop 754 = dktX2_decryptBlock_32 := dk_seg dksX2_decryptBlock_31 24 rfl rfl
theorem dX2_decryptBlock_0 : decode cX2_decryptBlock 0 = .ok (.aload_n 1, 1) := dk_43 (dk_at dksX2_decryptBlock_0 0 rfl rfl)
theorem dX2_decryptBlock_1 : decode cX2_decryptBlock 1 = .ok (.iload_n 2, 1) := dk_28 (dk_at dksX2_decryptBlock_0 1 rfl rfl)
theorem dX2_decryptBlock_2 : decode cX2_decryptBlock 2 = .ok (.bipush 7, 2) := dk_16 7 (dk_at dksX2_decryptBlock_0 2 rfl rfl)
theorem dX2_decryptBlock_4 : decode cX2_decryptBlock 4 = .ok (.iadd, 1) := dk_96 (dk_at dksX2_decryptBlock_0 4 rfl rfl)
theorem dX2_decryptBlock_5 : decode cX2_decryptBlock 5 = .ok (.baload, 1) := dk_51 (dk_at dksX2_decryptBlock_0 5 rfl rfl)
theorem dX2_decryptBlock_6 : decode cX2_decryptBlock 6 = .ok (.sipush 255, 3) := dk_17 0 255 (dk_at dksX2_decryptBlock_0 6 rfl rfl)
theorem dX2_decryptBlock_9 : decode cX2_decryptBlock 9 = .ok (.iand, 1) := dk_126 (dk_at dksX2_decryptBlock_0 9 rfl rfl)
theorem dX2_decryptBlock_10 : decode cX2_decryptBlock 10 = .ok (.bipush 8, 2) := dk_16 8 (dk_at dksX2_decryptBlock_0 10 rfl rfl)
theorem dX2_decryptBlock_12 : decode cX2_decryptBlock 12 = .ok (.ishl, 1) := dk_120 (dk_at dksX2_decryptBlock_0 12 rfl rfl)
theorem dX2_decryptBlock_13 : decode cX2_decryptBlock 13 = .ok (.aload_n 1, 1) := dk_43 (dk_at dksX2_decryptBlock_0 13 rfl rfl)
theorem dX2_decryptBlock_14 : decode cX2_decryptBlock 14 = .ok (.iload_n 2, 1) := dk_28 (dk_at dksX2_decryptBlock_0 14 rfl rfl)
theorem dX2_decryptBlock_15 : decode cX2_decryptBlock 15 = .ok (.bipush 6, 2) := dk_16 6 (dk_at dksX2_decryptBlock_0 15 rfl rfl)
theorem dX2_decryptBlock_17 : decode cX2_decryptBlock 17 = .ok (.iadd, 1) := dk_96 (dk_at dksX2_decryptBlock_0 17 rfl rfl)
theorem dX2_decryptBlock_18 : decode cX2_decryptBlock 18 = .ok (.baload, 1) := dk_51 (dk_at dksX2_decryptBlock_0 18 rfl rfl)
theorem dX2_decryptBlock_19 : decode cX2_decryptBlock 19 = .ok (.sipush 255, 3) := dk_17 0 255 (dk_at dksX2_decryptBlock_0 19 rfl rfl)
theorem dX2_decryptBlock_22 : decode cX2_decryptBlock 22 = .ok (.iand, 1) := dk_126 (dk_at dksX2_decryptBlock_0 22 rfl rfl)
theorem dX2_decryptBlock_23 : decode cX2_decryptBlock 23 = .ok (.iadd, 1) := dk_96 (dk_at dksX2_decryptBlock_0 23 rfl rfl)
theorem dX2_decryptBlock_24 : decode cX2_decryptBlock 24 = .ok (.istore 5, 2) := dk_54 5 (dk_at dksX2_decryptBlock_1 0 rfl rfl)
theorem dX2_decryptBlock_26 : decode cX2_decryptBlock 26 = .ok (.aload_n 1, 1) := dk_43 (dk_at dksX2_decryptBlock_1 2 rfl rfl)
theorem dX2_decryptBlock_27 : decode cX2_decryptBlock 27 = .ok (.iload_n 2, 1) := dk_28 (dk_at dksX2_decryptBlock_1 3 rfl rfl)
theorem dX2_decryptBlock_28 : decode cX2_decryptBlock 28 = .ok (.iconst 5, 1) := dk_8 (dk_at dksX2_decryptBlock_1 4 rfl rfl)
theorem dX2_decryptBlock_29 : decode cX2_decryptBlock 29 = .ok (.iadd, 1) := dk_96 (dk_at dksX2_decryptBlock_1 5 rfl rfl)
theorem dX2_decryptBlock_30 : decode cX2_decryptBlock 30 = .ok (.baload, 1) := dk_51 (dk_at dksX2_decryptBlock_1 6 rfl rfl)
theorem dX2_decryptBlock_31 : decode cX2_decryptBlock 31 = .ok (.sipush 255, 3) := dk_17 0 255 (dk_at dksX2_decryptBlock_1 7 rfl rfl)
theorem dX2_decryptBlock_34 : decode cX2_decryptBlock 34 = .ok (.iand, 1) := dk_126 (dk_at dksX2_decryptBlock_1 10 rfl rfl)
theorem dX2_decryptBlock_35 : decode cX2_decryptBlock 35 = .ok (.bipush 8, 2) := dk_16 8 (dk_at dksX2_decryptBlock_1 11 rfl rfl)
theorem dX2_decryptBlock_37 : decode cX2_decryptBlock 37 = .ok (.ishl, 1) := dk_120 (dk_at dksX2_decryptBlock_1 13 rfl rfl)
theorem dX2_decryptBlock_38 : decode cX2_decryptBlock 38 = .ok (.aload_n 1, 1) := dk_43 (dk_at dksX2_decryptBlock_1 14 rfl rfl)
theorem dX2_decryptBlock_39 : decode cX2_decryptBlock 39 = .ok (.iload_n 2, 1) := dk_28 (dk_at dksX2_decryptBlock_1 15 rfl rfl)
theorem dX2_decryptBlock_40 : decode cX2_decryptBlock 40 = .ok (.iconst 4, 1) := dk_7 (dk_at dksX2_decryptBlock_1 16 rfl rfl)
theorem dX2_decryptBlock_41 : decode cX2_decryptBlock 41 = .ok (.iadd, 1) := dk_96 (dk_at dksX2_decryptBlock_1 17 rfl rfl)
theorem dX2_decryptBlock_42 : decode cX2_decryptBlock 42 = .ok (.baload, 1) := dk_51 (dk_at dksX2_decryptBlock_1 18 rfl rfl)
theorem dX2_decryptBlock_43 : decode cX2_decryptBlock 43 = .ok (.sipush 255, 3) := dk_17 0 255 (dk_at dksX2_decryptBlock_1 19 rfl rfl)
theorem dX2_decryptBlock_46 : decode cX2_decryptBlock 46 = .ok (.iand, 1) := dk_126 (dk_at dksX2_decryptBlock_1 22 rfl rfl)
theorem dX2_decryptBlock_47 : decode cX2_decryptBlock 47 = .ok (.iadd, 1) := dk_96 (dk_at dksX2_decryptBlock_1 23 rfl rfl)
theorem dX2_decryptBlock_48 : decode cX2_decryptBlock 48 = .ok (.istore 6, 2) := dk_54 6 (dk_at dksX2_decryptBlock_2 0 rfl rfl)
theorem dX2_decryptBlock_50 : decode cX2_decryptBlock 50 = .ok (.aload_n 1, 1) := dk_43 (dk_at dksX2_decryptBlock_2 2 rfl rfl)
theorem dX2_decryptBlock_51 : decode cX2_decryptBlock 51 = .ok (.iload_n 2, 1) := dk_28 (dk_at dksX2_decryptBlock_2 3 rfl rfl)
theorem dX2_decryptBlock_52 : decode cX2_decryptBlock 52 = .ok (.iconst 3, 1) := dk_6 (dk_at dksX2_decryptBlock_2 4 rfl rfl)
theorem dX2_decryptBlock_53 : decode cX2_decryptBlock 53 = .ok (.iadd, 1) := dk_96 (dk_at dksX2_decryptBlock_2 5 rfl rfl)
theorem dX2_decryptBlock_54 : decode cX2_decryptBlock 54 = .ok (.baload, 1) := dk_51 (dk_at dksX2_decryptBlock_2 6 rfl rfl)
theorem dX2_decryptBlock_55 : decode cX2_decryptBlock 55 = .ok (.sipush 255, 3) := dk_17 0 255 (dk_at dksX2_decryptBlock_2 7 rfl rfl)
theorem dX2_decryptBlock_58 : decode cX2_decryptBlock 58 = .ok (.iand, 1) := dk_126 (dk_at dksX2_decryptBlock_2 10 rfl rfl)
theorem dX2_decryptBlock_59 : decode cX2_decryptBlock 59 = .ok (.bipush 8, 2) := dk_16 8 (dk_at dksX2_decryptBlock_2 11 rfl rfl)
theorem dX2_decryptBlock_61 : decode cX2_decryptBlock 61 = .ok (.ishl, 1) := dk_120 (dk_at dksX2_decryptBlock_2 13 rfl rfl)
theorem dX2_decryptBlock_62 : decode cX2_decryptBlock 62 = .ok (.aload_n 1, 1) := dk_43 (dk_at dksX2_decryptBlock_2 14 rfl rfl)
theorem dX2_decryptBlock_63 : decode cX2_decryptBlock 63 = .ok (.iload_n 2, 1) := dk_28 (dk_at dksX2_decryptBlock_2 15 rfl rfl)
theorem dX2_decryptBlock_64 : decode cX2_decryptBlock 64 = .ok (.iconst 2, 1) := dk_5 (dk_at dksX2_decryptBlock_2 16 rfl rfl)
theorem dX2_decryptBlock_65 : decode cX2_decryptBlock 65 = .ok (.iadd, 1) := dk_96 (dk_at dksX2_decryptBlock_2 17 rfl rfl)
theorem dX2_decryptBlock_66 : decode cX2_decryptBlock 66 = .ok (.baload, 1) := dk_51 (dk_at dksX2_decryptBlock_2 18 rfl rfl)
theorem dX2_decryptBlock_67 : decode cX2_decryptBlock 67 = .ok (.sipush 255, 3) := dk_17 0 255 (dk_at dksX2_decryptBlock_2 19 rfl rfl)
theorem dX2_decryptBlock_70 : decode cX2_decryptBlock 70 = .ok (.iand, 1) := dk_126 (dk_at dksX2_decryptBlock_2 22 rfl rfl)
theorem dX2_decryptBlock_71 : decode cX2_decryptBlock 71 = .ok (.iadd, 1) := dk_96 (dk_at dksX2_decryptBlock_2 23 rfl rfl)
theorem dX2_decryptBlock_72 : decode cX2_decryptBlock 72 = .ok (.istore 7, 2) := dk_54 7 (dk_at dksX2_decryptBlock_3 0 rfl rfl)
theorem dX2_decryptBlock_74 : decode cX2_decryptBlock 74 = .ok (.aload_n 1, 1) := dk_43 (dk_at dksX2_decryptBlock_3 2 rfl rfl)
theorem dX2_decryptBlock_75 : decode cX2_decryptBlock 75 = .ok (.iload_n 2, 1) := dk_28 (dk_at dksX2_decryptBlock_3 3 rfl rfl)
theorem dX2_decryptBlock_76 : decode cX2_decryptBlock 76 = .ok (.iconst 1, 1) := dk_4 (dk_at dksX2_decryptBlock_3 4 rfl rfl)
theorem dX2_decryptBlock_77 : decode cX2_decryptBlock 77 = .ok (.iadd, 1) := dk_96 (dk_at dksX2_decryptBlock_3 5 rfl rfl)
theorem dX2_decryptBlock_78 : decode cX2_decryptBlock 78 = .ok (.baload, 1) := dk_51 (dk_at dksX2_decryptBlock_3 6 rfl rfl)
theorem dX2_decryptBlock_79 : decode cX2_decryptBlock 79 = .ok (.sipush 255, 3) := dk_17 0 255 (dk_at dksX2_decryptBlock_3 7 rfl rfl)
theorem dX2_decryptBlock_82 : decode cX2_decryptBlock 82 = .ok (.iand, 1) := dk_126 (dk_at dksX2_decryptBlock_3 10 rfl rfl)
theorem dX2_decryptBlock_83 : decode cX2_decryptBlock 83 = .ok (.bipush 8, 2) := dk_16 8 (dk_at dksX2_decryptBlock_3 11 rfl rfl)
theorem dX2_decryptBlock_85 : decode cX2_decryptBlock 85 = .ok (.ishl, 1) := dk_120 (dk_at dksX2_decryptBlock_3 13 rfl rfl)
theorem dX2_decryptBlock_86 : decode cX2_decryptBlock 86 = .ok (.aload_n 1, 1) := dk_43 (dk_at dksX2_decryptBlock_3 14 rfl rfl)
theorem dX2_decryptBlock_87 : decode cX2_decryptBlock 87 = .ok (.iload_n 2, 1) := dk_28 (dk_at dksX2_decryptBlock_3 15 rfl rfl)
theorem dX2_decryptBlock_88 : decode cX2_decryptBlock 88 = .ok (.iconst 0, 1) := dk_3 (dk_at dksX2_decryptBlock_3 16 rfl rfl)
theorem dX2_decryptBlock_89 : decode cX2_decryptBlock 89 = .ok (.iadd, 1) := dk_96 (dk_at dksX2_decryptBlock_3 17 rfl rfl)
theorem dX2_decryptBlock_90 : decode cX2_decryptBlock 90 = .ok (.baload, 1) := dk_51 (dk_at dksX2_decryptBlock_3 18 rfl rfl)
theorem dX2_decryptBlock_91 : decode cX2_decryptBlock 91 = .ok (.sipush 255, 3) := dk_17 0 255 (dk_at dksX2_decryptBlock_3 19 rfl rfl)
theorem dX2_decryptBlock_94 : decode cX2_decryptBlock 94 = .ok (.iand, 1) := dk_126 (dk_at dksX2_decryptBlock_3 22 rfl rfl)
theorem dX2_decryptBlock_95 : decode cX2_decryptBlock 95 = .ok (.iadd, 1) := dk_96 (dk_at dksX2_decryptBlock_3 23 rfl rfl)
theorem dX2_decryptBlock_96 : decode cX2_decryptBlock 96 = .ok (.istore 8, 2) := dk_54 8 (dk_at dksX2_decryptBlock_4 0 rfl rfl)
theorem dX2_decryptBlock_98 : decode cX2_decryptBlock 98 = .ok (.bipush 60, 2) := dk_16 60 (dk_at dksX2_decryptBlock_4 2 rfl rfl)
theorem dX2_decryptBlock_100 : decode cX2_decryptBlock 100 = .ok (.istore 9, 2) := dk_54 9 (dk_at dksX2_decryptBlock_4 4 rfl rfl)
theorem dX2_decryptBlock_102 : decode cX2_decryptBlock 102 = .ok (.iload 9, 2) := dk_21 9 (dk_at dksX2_decryptBlock_4 6 rfl rfl)
theorem dX2_decryptBlock_104 : decode cX2_decryptBlock 104 = .ok (.bipush 44, 2) := dk_16 44 (dk_at dksX2_decryptBlock_4 8 rfl rfl)
theorem dX2_decryptBlock_106 : decode cX2_decryptBlock 106 = .ok (.if_icmp .lt 143, 3) := dk_161 0 143 (dk_at dksX2_decryptBlock_4 10 rfl rfl)
theorem dX2_decryptBlock_109 : decode cX2_decryptBlock 109 = .ok (.aload_n 0, 1) := dk_42 (dk_at dksX2_decryptBlock_4 13 rfl rfl)
theorem dX2_decryptBlock_110 : decode cX2_decryptBlock 110 = .ok (.iload 5, 2) := dk_21 5 (dk_at dksX2_decryptBlock_4 14 rfl rfl)
theorem dX2_decryptBlock_112 : decode cX2_decryptBlock 112 = .ok (.bipush 11, 2) := dk_16 11 (dk_at dksX2_decryptBlock_4 16 rfl rfl)
theorem dX2_decryptBlock_114 : decode cX2_decryptBlock 114 = .ok (.invokevirtual 68, 3) := dk_182 0 68 (dk_at dksX2_decryptBlock_4 18 rfl rfl)
theorem dX2_decryptBlock_117 : decode cX2_decryptBlock 117 = .ok (.iload 8, 2) := dk_21 8 (dk_at dksX2_decryptBlock_4 21 rfl rfl)
theorem dX2_decryptBlock_119 : decode cX2_decryptBlock 119 = .ok (.iload 6, 2) := dk_21 6 (dk_at dksX2_decryptBlock_5 0 rfl rfl)
theorem dX2_decryptBlock_121 : decode cX2_decryptBlock 121 = .ok (.iconst (-1), 1) := dk_2 (dk_at dksX2_decryptBlock_5 2 rfl rfl)
theorem dX2_decryptBlock_122 : decode cX2_decryptBlock 122 = .ok (.ixor, 1) := dk_130 (dk_at dksX2_decryptBlock_5 3 rfl rfl)
theorem dX2_decryptBlock_123 : decode cX2_decryptBlock 123 = .ok (.iand, 1) := dk_126 (dk_at dksX2_decryptBlock_5 4 rfl rfl)
theorem dX2_decryptBlock_124 : decode cX2_decryptBlock 124 = .ok (.iload 7, 2) := dk_21 7 (dk_at dksX2_decryptBlock_5 5 rfl rfl)
theorem dX2_decryptBlock_126 : decode cX2_decryptBlock 126 = .ok (.iload 6, 2) := dk_21 6 (dk_at dksX2_decryptBlock_5 7 rfl rfl)
theorem dX2_decryptBlock_128 : decode cX2_decryptBlock 128 = .ok (.iand, 1) := dk_126 (dk_at dksX2_decryptBlock_5 9 rfl rfl)
theorem dX2_decryptBlock_129 : decode cX2_decryptBlock 129 = .ok (.iadd, 1) := dk_96 (dk_at dksX2_decryptBlock_5 10 rfl rfl)
theorem dX2_decryptBlock_130 : decode cX2_decryptBlock 130 = .ok (.aload_n 0, 1) := dk_42 (dk_at dksX2_decryptBlock_5 11 rfl rfl)
theorem dX2_decryptBlock_131 : decode cX2_decryptBlock 131 = .ok (.getfield 31, 3) := dk_180 0 31 (dk_at dksX2_decryptBlock_5 12 rfl rfl)
theorem dX2_decryptBlock_134 : decode cX2_decryptBlock 134 = .ok (.iload 9, 2) := dk_21 9 (dk_at dksX2_decryptBlock_5 15 rfl rfl)
theorem dX2_decryptBlock_136 : decode cX2_decryptBlock 136 = .ok (.iconst 3, 1) := dk_6 (dk_at dksX2_decryptBlock_5 17 rfl rfl)
theorem dX2_decryptBlock_137 : decode cX2_decryptBlock 137 = .ok (.iadd, 1) := dk_96 (dk_at dksX2_decryptBlock_5 18 rfl rfl)
theorem dX2_decryptBlock_138 : decode cX2_decryptBlock 138 = .ok (.iaload, 1) := dk_46 (dk_at dksX2_decryptBlock_5 19 rfl rfl)
theorem dX2_decryptBlock_139 : decode cX2_decryptBlock 139 = .ok (.iadd, 1) := dk_96 (dk_at dksX2_decryptBlock_5 20 rfl rfl)
theorem dX2_decryptBlock_140 : decode cX2_decryptBlock 140 = .ok (.isub, 1) := dk_100 (dk_at dksX2_decryptBlock_5 21 rfl rfl)
theorem dX2_decryptBlock_141 : decode cX2_decryptBlock 141 = .ok (.istore 5, 2) := dk_54 5 (dk_at dksX2_decryptBlock_5 22 rfl rfl)
theorem dX2_decryptBlock_143 : decode cX2_decryptBlock 143 = .ok (.aload_n 0, 1) := dk_42 (dk_at dksX2_decryptBlock_6 0 rfl rfl)
theorem dX2_decryptBlock_144 : decode cX2_decryptBlock 144 = .ok (.iload 6, 2) := dk_21 6 (dk_at dksX2_decryptBlock_6 1 rfl rfl)
theorem dX2_decryptBlock_146 : decode cX2_decryptBlock 146 = .ok (.bipush 13, 2) := dk_16 13 (dk_at dksX2_decryptBlock_6 3 rfl rfl)
theorem dX2_decryptBlock_148 : decode cX2_decryptBlock 148 = .ok (.invokevirtual 68, 3) := dk_182 0 68 (dk_at dksX2_decryptBlock_6 5 rfl rfl)
theorem dX2_decryptBlock_151 : decode cX2_decryptBlock 151 = .ok (.iload 5, 2) := dk_21 5 (dk_at dksX2_decryptBlock_6 8 rfl rfl)
theorem dX2_decryptBlock_153 : decode cX2_decryptBlock 153 = .ok (.iload 7, 2) := dk_21 7 (dk_at dksX2_decryptBlock_6 10 rfl rfl)
theorem dX2_decryptBlock_155 : decode cX2_decryptBlock 155 = .ok (.iconst (-1), 1) := dk_2 (dk_at dksX2_decryptBlock_6 12 rfl rfl)
theorem dX2_decryptBlock_156 : decode cX2_decryptBlock 156 = .ok (.ixor, 1) := dk_130 (dk_at dksX2_decryptBlock_6 13 rfl rfl)
theorem dX2_decryptBlock_157 : decode cX2_decryptBlock 157 = .ok (.iand, 1) := dk_126 (dk_at dksX2_decryptBlock_6 14 rfl rfl)
theorem dX2_decryptBlock_158 : decode cX2_decryptBlock 158 = .ok (.iload 8, 2) := dk_21 8 (dk_at dksX2_decryptBlock_6 15 rfl rfl)
theorem dX2_decryptBlock_160 : decode cX2_decryptBlock 160 = .ok (.iload 7, 2) := dk_21 7 (dk_at dksX2_decryptBlock_6 17 rfl rfl)
theorem dX2_decryptBlock_162 : decode cX2_decryptBlock 162 = .ok (.iand, 1) := dk_126 (dk_at dksX2_decryptBlock_6 19 rfl rfl)
theorem dX2_decryptBlock_163 : decode cX2_decryptBlock 163 = .ok (.iadd, 1) := dk_96 (dk_at dksX2_decryptBlock_6 20 rfl rfl)
theorem dX2_decryptBlock_164 : decode cX2_decryptBlock 164 = .ok (.aload_n 0, 1) := dk_42 (dk_at dksX2_decryptBlock_6 21 rfl rfl)
theorem dX2_decryptBlock_165 : decode cX2_decryptBlock 165 = .ok (.getfield 31, 3) := dk_180 0 31 (dk_at dksX2_decryptBlock_7 0 rfl rfl)
theorem dX2_decryptBlock_168 : decode cX2_decryptBlock 168 = .ok (.iload 9, 2) := dk_21 9 (dk_at dksX2_decryptBlock_7 3 rfl rfl)
theorem dX2_decryptBlock_170 : decode cX2_decryptBlock 170 = .ok (.iconst 2, 1) := dk_5 (dk_at dksX2_decryptBlock_7 5 rfl rfl)
theorem dX2_decryptBlock_171 : decode cX2_decryptBlock 171 = .ok (.iadd, 1) := dk_96 (dk_at dksX2_decryptBlock_7 6 rfl rfl)
theorem dX2_decryptBlock_172 : decode cX2_decryptBlock 172 = .ok (.iaload, 1) := dk_46 (dk_at dksX2_decryptBlock_7 7 rfl rfl)
theorem dX2_decryptBlock_173 : decode cX2_decryptBlock 173 = .ok (.iadd, 1) := dk_96 (dk_at dksX2_decryptBlock_7 8 rfl rfl)
theorem dX2_decryptBlock_174 : decode cX2_decryptBlock 174 = .ok (.isub, 1) := dk_100 (dk_at dksX2_decryptBlock_7 9 rfl rfl)
theorem dX2_decryptBlock_175 : decode cX2_decryptBlock 175 = .ok (.istore 6, 2) := dk_54 6 (dk_at dksX2_decryptBlock_7 10 rfl rfl)
theorem dX2_decryptBlock_177 : decode cX2_decryptBlock 177 = .ok (.aload_n 0, 1) := dk_42 (dk_at dksX2_decryptBlock_7 12 rfl rfl)
theorem dX2_decryptBlock_178 : decode cX2_decryptBlock 178 = .ok (.iload 7, 2) := dk_21 7 (dk_at dksX2_decryptBlock_7 13 rfl rfl)
theorem dX2_decryptBlock_180 : decode cX2_decryptBlock 180 = .ok (.bipush 14, 2) := dk_16 14 (dk_at dksX2_decryptBlock_7 15 rfl rfl)
theorem dX2_decryptBlock_182 : decode cX2_decryptBlock 182 = .ok (.invokevirtual 68, 3) := dk_182 0 68 (dk_at dksX2_decryptBlock_7 17 rfl rfl)
theorem dX2_decryptBlock_185 : decode cX2_decryptBlock 185 = .ok (.iload 6, 2) := dk_21 6 (dk_at dksX2_decryptBlock_7 20 rfl rfl)
theorem dX2_decryptBlock_187 : decode cX2_decryptBlock 187 = .ok (.iload 8, 2) := dk_21 8 (dk_at dksX2_decryptBlock_7 22 rfl rfl)
theorem dX2_decryptBlock_189 : decode cX2_decryptBlock 189 = .ok (.iconst (-1), 1) := dk_2 (dk_at dksX2_decryptBlock_8 0 rfl rfl)
theorem dX2_decryptBlock_190 : decode cX2_decryptBlock 190 = .ok (.ixor, 1) := dk_130 (dk_at dksX2_decryptBlock_8 1 rfl rfl)
theorem dX2_decryptBlock_191 : decode cX2_decryptBlock 191 = .ok (.iand, 1) := dk_126 (dk_at dksX2_decryptBlock_8 2 rfl rfl)
theorem dX2_decryptBlock_192 : decode cX2_decryptBlock 192 = .ok (.iload 5, 2) := dk_21 5 (dk_at dksX2_decryptBlock_8 3 rfl rfl)
theorem dX2_decryptBlock_194 : decode cX2_decryptBlock 194 = .ok (.iload 8, 2) := dk_21 8 (dk_at dksX2_decryptBlock_8 5 rfl rfl)
theorem dX2_decryptBlock_196 : decode cX2_decryptBlock 196 = .ok (.iand, 1) := dk_126 (dk_at dksX2_decryptBlock_8 7 rfl rfl)
theorem dX2_decryptBlock_197 : decode cX2_decryptBlock 197 = .ok (.iadd, 1) := dk_96 (dk_at dksX2_decryptBlock_8 8 rfl rfl)
theorem dX2_decryptBlock_198 : decode cX2_decryptBlock 198 = .ok (.aload_n 0, 1) := dk_42 (dk_at dksX2_decryptBlock_8 9 rfl rfl)
theorem dX2_decryptBlock_199 : decode cX2_decryptBlock 199 = .ok (.getfield 31, 3) := dk_180 0 31 (dk_at dksX2_decryptBlock_8 10 rfl rfl)
theorem dX2_decryptBlock_202 : decode cX2_decryptBlock 202 = .ok (.iload 9, 2) := dk_21 9 (dk_at dksX2_decryptBlock_8 13 rfl rfl)
theorem dX2_decryptBlock_204 : decode cX2_decryptBlock 204 = .ok (.iconst 1, 1) := dk_4 (dk_at dksX2_decryptBlock_8 15 rfl rfl)
theorem dX2_decryptBlock_205 : decode cX2_decryptBlock 205 = .ok (.iadd, 1) := dk_96 (dk_at dksX2_decryptBlock_8 16 rfl rfl)
theorem dX2_decryptBlock_206 : decode cX2_decryptBlock 206 = .ok (.iaload, 1) := dk_46 (dk_at dksX2_decryptBlock_8 17 rfl rfl)
theorem dX2_decryptBlock_207 : decode cX2_decryptBlock 207 = .ok (.iadd, 1) := dk_96 (dk_at dksX2_decryptBlock_8 18 rfl rfl)
theorem dX2_decryptBlock_208 : decode cX2_decryptBlock 208 = .ok (.isub, 1) := dk_100 (dk_at dksX2_decryptBlock_8 19 rfl rfl)
theorem dX2_decryptBlock_209 : decode cX2_decryptBlock 209 = .ok (.istore 7, 2) := dk_54 7 (dk_at dksX2_decryptBlock_8 20 rfl rfl)
theorem dX2_decryptBlock_211 : decode cX2_decryptBlock 211 = .ok (.aload_n 0, 1) := dk_42 (dk_at dksX2_decryptBlock_8 22 rfl rfl)
theorem dX2_decryptBlock_212 : decode cX2_decryptBlock 212 = .ok (.iload 8, 2) := dk_21 8 (dk_at dksX2_decryptBlock_9 0 rfl rfl)
theorem dX2_decryptBlock_214 : decode cX2_decryptBlock 214 = .ok (.bipush 15, 2) := dk_16 15 (dk_at dksX2_decryptBlock_9 2 rfl rfl)
theorem dX2_decryptBlock_216 : decode cX2_decryptBlock 216 = .ok (.invokevirtual 68, 3) := dk_182 0 68 (dk_at dksX2_decryptBlock_9 4 rfl rfl)
theorem dX2_decryptBlock_219 : decode cX2_decryptBlock 219 = .ok (.iload 7, 2) := dk_21 7 (dk_at dksX2_decryptBlock_9 7 rfl rfl)
theorem dX2_decryptBlock_221 : decode cX2_decryptBlock 221 = .ok (.iload 5, 2) := dk_21 5 (dk_at dksX2_decryptBlock_9 9 rfl rfl)
theorem dX2_decryptBlock_223 : decode cX2_decryptBlock 223 = .ok (.iconst (-1), 1) := dk_2 (dk_at dksX2_decryptBlock_9 11 rfl rfl)
theorem dX2_decryptBlock_224 : decode cX2_decryptBlock 224 = .ok (.ixor, 1) := dk_130 (dk_at dksX2_decryptBlock_9 12 rfl rfl)
theorem dX2_decryptBlock_225 : decode cX2_decryptBlock 225 = .ok (.iand, 1) := dk_126 (dk_at dksX2_decryptBlock_9 13 rfl rfl)
theorem dX2_decryptBlock_226 : decode cX2_decryptBlock 226 = .ok (.iload 6, 2) := dk_21 6 (dk_at dksX2_decryptBlock_9 14 rfl rfl)
theorem dX2_decryptBlock_228 : decode cX2_decryptBlock 228 = .ok (.iload 5, 2) := dk_21 5 (dk_at dksX2_decryptBlock_9 16 rfl rfl)
theorem dX2_decryptBlock_230 : decode cX2_decryptBlock 230 = .ok (.iand, 1) := dk_126 (dk_at dksX2_decryptBlock_9 18 rfl rfl)
theorem dX2_decryptBlock_231 : decode cX2_decryptBlock 231 = .ok (.iadd, 1) := dk_96 (dk_at dksX2_decryptBlock_9 19 rfl rfl)
theorem dX2_decryptBlock_232 : decode cX2_decryptBlock 232 = .ok (.aload_n 0, 1) := dk_42 (dk_at dksX2_decryptBlock_9 20 rfl rfl)
theorem dX2_decryptBlock_233 : decode cX2_decryptBlock 233 = .ok (.getfield 31, 3) := dk_180 0 31 (dk_at dksX2_decryptBlock_9 21 rfl rfl)
theorem dX2_decryptBlock_236 : decode cX2_decryptBlock 236 = .ok (.iload 9, 2) := dk_21 9 (dk_at dksX2_decryptBlock_10 0 rfl rfl)
theorem dX2_decryptBlock_238 : decode cX2_decryptBlock 238 = .ok (.iaload, 1) := dk_46 (dk_at dksX2_decryptBlock_10 2 rfl rfl)
theorem dX2_decryptBlock_239 : decode cX2_decryptBlock 239 = .ok (.iadd, 1) := dk_96 (dk_at dksX2_decryptBlock_10 3 rfl rfl)
theorem dX2_decryptBlock_240 : decode cX2_decryptBlock 240 = .ok (.isub, 1) := dk_100 (dk_at dksX2_decryptBlock_10 4 rfl rfl)
theorem dX2_decryptBlock_241 : decode cX2_decryptBlock 241 = .ok (.istore 8, 2) := dk_54 8 (dk_at dksX2_decryptBlock_10 5 rfl rfl)
theorem dX2_decryptBlock_243 : decode cX2_decryptBlock 243 = .ok (.iinc 9 (-4), 3) := dk_132 9 252 (dk_at dksX2_decryptBlock_10 7 rfl rfl)
theorem dX2_decryptBlock_246 : decode cX2_decryptBlock 246 = .ok (.goto (-144), 3) := dk_167 255 112 (dk_at dksX2_decryptBlock_10 10 rfl rfl)
theorem dX2_decryptBlock_249 : decode cX2_decryptBlock 249 = .ok (.iload 5, 2) := dk_21 5 (dk_at dksX2_decryptBlock_10 13 rfl rfl)
theorem dX2_decryptBlock_251 : decode cX2_decryptBlock 251 = .ok (.aload_n 0, 1) := dk_42 (dk_at dksX2_decryptBlock_10 15 rfl rfl)
theorem dX2_decryptBlock_252 : decode cX2_decryptBlock 252 = .ok (.getfield 31, 3) := dk_180 0 31 (dk_at dksX2_decryptBlock_10 16 rfl rfl)
theorem dX2_decryptBlock_255 : decode cX2_decryptBlock 255 = .ok (.iload 6, 2) := dk_21 6 (dk_at dksX2_decryptBlock_10 19 rfl rfl)
theorem dX2_decryptBlock_257 : decode cX2_decryptBlock 257 = .ok (.bipush 63, 2) := dk_16 63 (dk_at dksX2_decryptBlock_10 21 rfl rfl)
theorem dX2_decryptBlock_259 : decode cX2_decryptBlock 259 = .ok (.iand, 1) := dk_126 (dk_at dksX2_decryptBlock_10 23 rfl rfl)
theorem dX2_decryptBlock_260 : decode cX2_decryptBlock 260 = .ok (.iaload, 1) := dk_46 (dk_at dksX2_decryptBlock_11 0 rfl rfl)
theorem dX2_decryptBlock_261 : decode cX2_decryptBlock 261 = .ok (.isub, 1) := dk_100 (dk_at dksX2_decryptBlock_11 1 rfl rfl)
theorem dX2_decryptBlock_262 : decode cX2_decryptBlock 262 = .ok (.istore 5, 2) := dk_54 5 (dk_at dksX2_decryptBlock_11 2 rfl rfl)
theorem dX2_decryptBlock_264 : decode cX2_decryptBlock 264 = .ok (.iload 6, 2) := dk_21 6 (dk_at dksX2_decryptBlock_11 4 rfl rfl)
theorem dX2_decryptBlock_266 : decode cX2_decryptBlock 266 = .ok (.aload_n 0, 1) := dk_42 (dk_at dksX2_decryptBlock_11 6 rfl rfl)
theorem dX2_decryptBlock_267 : decode cX2_decryptBlock 267 = .ok (.getfield 31, 3) := dk_180 0 31 (dk_at dksX2_decryptBlock_11 7 rfl rfl)
theorem dX2_decryptBlock_270 : decode cX2_decryptBlock 270 = .ok (.iload 7, 2) := dk_21 7 (dk_at dksX2_decryptBlock_11 10 rfl rfl)
theorem dX2_decryptBlock_272 : decode cX2_decryptBlock 272 = .ok (.bipush 63, 2) := dk_16 63 (dk_at dksX2_decryptBlock_11 12 rfl rfl)
theorem dX2_decryptBlock_274 : decode cX2_decryptBlock 274 = .ok (.iand, 1) := dk_126 (dk_at dksX2_decryptBlock_11 14 rfl rfl)
theorem dX2_decryptBlock_275 : decode cX2_decryptBlock 275 = .ok (.iaload, 1) := dk_46 (dk_at dksX2_decryptBlock_11 15 rfl rfl)
theorem dX2_decryptBlock_276 : decode cX2_decryptBlock 276 = .ok (.isub, 1) := dk_100 (dk_at dksX2_decryptBlock_11 16 rfl rfl)
theorem dX2_decryptBlock_277 : decode cX2_decryptBlock 277 = .ok (.istore 6, 2) := dk_54 6 (dk_at dksX2_decryptBlock_11 17 rfl rfl)
theorem dX2_decryptBlock_279 : decode cX2_decryptBlock 279 = .ok (.iload 7, 2) := dk_21 7 (dk_at dksX2_decryptBlock_11 19 rfl rfl)
theorem dX2_decryptBlock_281 : decode cX2_decryptBlock 281 = .ok (.aload_n 0, 1) := dk_42 (dk_at dksX2_decryptBlock_11 21 rfl rfl)
theorem dX2_decryptBlock_282 : decode cX2_decryptBlock 282 = .ok (.getfield 31, 3) := dk_180 0 31 (dk_at dksX2_decryptBlock_12 0 rfl rfl)
theorem dX2_decryptBlock_285 : decode cX2_decryptBlock 285 = .ok (.iload 8, 2) := dk_21 8 (dk_at dksX2_decryptBlock_12 3 rfl rfl)
theorem dX2_decryptBlock_287 : decode cX2_decryptBlock 287 = .ok (.bipush 63, 2) := dk_16 63 (dk_at dksX2_decryptBlock_12 5 rfl rfl)
theorem dX2_decryptBlock_289 : decode cX2_decryptBlock 289 = .ok (.iand, 1) := dk_126 (dk_at dksX2_decryptBlock_12 7 rfl rfl)
theorem dX2_decryptBlock_290 : decode cX2_decryptBlock 290 = .ok (.iaload, 1) := dk_46 (dk_at dksX2_decryptBlock_12 8 rfl rfl)
theorem dX2_decryptBlock_291 : decode cX2_decryptBlock 291 = .ok (.isub, 1) := dk_100 (dk_at dksX2_decryptBlock_12 9 rfl rfl)
theorem dX2_decryptBlock_292 : decode cX2_decryptBlock 292 = .ok (.istore 7, 2) := dk_54 7 (dk_at dksX2_decryptBlock_12 10 rfl rfl)
theorem dX2_decryptBlock_294 : decode cX2_decryptBlock 294 = .ok (.iload 8, 2) := dk_21 8 (dk_at dksX2_decryptBlock_12 12 rfl rfl)
theorem dX2_decryptBlock_296 : decode cX2_decryptBlock 296 = .ok (.aload_n 0, 1) := dk_42 (dk_at dksX2_decryptBlock_12 14 rfl rfl)
theorem dX2_decryptBlock_297 : decode cX2_decryptBlock 297 = .ok (.getfield 31, 3) := dk_180 0 31 (dk_at dksX2_decryptBlock_12 15 rfl rfl)
theorem dX2_decryptBlock_300 : decode cX2_decryptBlock 300 = .ok (.iload 5, 2) := dk_21 5 (dk_at dksX2_decryptBlock_12 18 rfl rfl)
theorem dX2_decryptBlock_302 : decode cX2_decryptBlock 302 = .ok (.bipush 63, 2) := dk_16 63 (dk_at dksX2_decryptBlock_12 20 rfl rfl)
theorem dX2_decryptBlock_304 : decode cX2_decryptBlock 304 = .ok (.iand, 1) := dk_126 (dk_at dksX2_decryptBlock_12 22 rfl rfl)
theorem dX2_decryptBlock_305 : decode cX2_decryptBlock 305 = .ok (.iaload, 1) := dk_46 (dk_at dksX2_decryptBlock_12 23 rfl rfl)
theorem dX2_decryptBlock_306 : decode cX2_decryptBlock 306 = .ok (.isub, 1) := dk_100 (dk_at dksX2_decryptBlock_13 0 rfl rfl)
theorem dX2_decryptBlock_307 : decode cX2_decryptBlock 307 = .ok (.istore 8, 2) := dk_54 8 (dk_at dksX2_decryptBlock_13 1 rfl rfl)
theorem dX2_decryptBlock_309 : decode cX2_decryptBlock 309 = .ok (.bipush 40, 2) := dk_16 40 (dk_at dksX2_decryptBlock_13 3 rfl rfl)
theorem dX2_decryptBlock_311 : decode cX2_decryptBlock 311 = .ok (.istore 9, 2) := dk_54 9 (dk_at dksX2_decryptBlock_13 5 rfl rfl)
theorem dX2_decryptBlock_313 : decode cX2_decryptBlock 313 = .ok (.iload 9, 2) := dk_21 9 (dk_at dksX2_decryptBlock_13 7 rfl rfl)
theorem dX2_decryptBlock_315 : decode cX2_decryptBlock 315 = .ok (.bipush 20, 2) := dk_16 20 (dk_at dksX2_decryptBlock_13 9 rfl rfl)
theorem dX2_decryptBlock_317 : decode cX2_decryptBlock 317 = .ok (.if_icmp .lt 143, 3) := dk_161 0 143 (dk_at dksX2_decryptBlock_13 11 rfl rfl)
theorem dX2_decryptBlock_320 : decode cX2_decryptBlock 320 = .ok (.aload_n 0, 1) := dk_42 (dk_at dksX2_decryptBlock_13 14 rfl rfl)
theorem dX2_decryptBlock_321 : decode cX2_decryptBlock 321 = .ok (.iload 5, 2) := dk_21 5 (dk_at dksX2_decryptBlock_13 15 rfl rfl)
theorem dX2_decryptBlock_323 : decode cX2_decryptBlock 323 = .ok (.bipush 11, 2) := dk_16 11 (dk_at dksX2_decryptBlock_13 17 rfl rfl)
theorem dX2_decryptBlock_325 : decode cX2_decryptBlock 325 = .ok (.invokevirtual 68, 3) := dk_182 0 68 (dk_at dksX2_decryptBlock_13 19 rfl rfl)
theorem dX2_decryptBlock_328 : decode cX2_decryptBlock 328 = .ok (.iload 8, 2) := dk_21 8 (dk_at dksX2_decryptBlock_13 22 rfl rfl)
theorem dX2_decryptBlock_330 : decode cX2_decryptBlock 330 = .ok (.iload 6, 2) := dk_21 6 (dk_at dksX2_decryptBlock_14 0 rfl rfl)
theorem dX2_decryptBlock_332 : decode cX2_decryptBlock 332 = .ok (.iconst (-1), 1) := dk_2 (dk_at dksX2_decryptBlock_14 2 rfl rfl)
theorem dX2_decryptBlock_333 : decode cX2_decryptBlock 333 = .ok (.ixor, 1) := dk_130 (dk_at dksX2_decryptBlock_14 3 rfl rfl)
theorem dX2_decryptBlock_334 : decode cX2_decryptBlock 334 = .ok (.iand, 1) := dk_126 (dk_at dksX2_decryptBlock_14 4 rfl rfl)
theorem dX2_decryptBlock_335 : decode cX2_decryptBlock 335 = .ok (.iload 7, 2) := dk_21 7 (dk_at dksX2_decryptBlock_14 5 rfl rfl)
theorem dX2_decryptBlock_337 : decode cX2_decryptBlock 337 = .ok (.iload 6, 2) := dk_21 6 (dk_at dksX2_decryptBlock_14 7 rfl rfl)
theorem dX2_decryptBlock_339 : decode cX2_decryptBlock 339 = .ok (.iand, 1) := dk_126 (dk_at dksX2_decryptBlock_14 9 rfl rfl)
theorem dX2_decryptBlock_340 : decode cX2_decryptBlock 340 = .ok (.iadd, 1) := dk_96 (dk_at dksX2_decryptBlock_14 10 rfl rfl)
theorem dX2_decryptBlock_341 : decode cX2_decryptBlock 341 = .ok (.aload_n 0, 1) := dk_42 (dk_at dksX2_decryptBlock_14 11 rfl rfl)
theorem dX2_decryptBlock_342 : decode cX2_decryptBlock 342 = .ok (.getfield 31, 3) := dk_180 0 31 (dk_at dksX2_decryptBlock_14 12 rfl rfl)
theorem dX2_decryptBlock_345 : decode cX2_decryptBlock 345 = .ok (.iload 9, 2) := dk_21 9 (dk_at dksX2_decryptBlock_14 15 rfl rfl)
theorem dX2_decryptBlock_347 : decode cX2_decryptBlock 347 = .ok (.iconst 3, 1) := dk_6 (dk_at dksX2_decryptBlock_14 17 rfl rfl)
theorem dX2_decryptBlock_348 : decode cX2_decryptBlock 348 = .ok (.iadd, 1) := dk_96 (dk_at dksX2_decryptBlock_14 18 rfl rfl)
theorem dX2_decryptBlock_349 : decode cX2_decryptBlock 349 = .ok (.iaload, 1) := dk_46 (dk_at dksX2_decryptBlock_14 19 rfl rfl)
theorem dX2_decryptBlock_350 : decode cX2_decryptBlock 350 = .ok (.iadd, 1) := dk_96 (dk_at dksX2_decryptBlock_14 20 rfl rfl)
theorem dX2_decryptBlock_351 : decode cX2_decryptBlock 351 = .ok (.isub, 1) := dk_100 (dk_at dksX2_decryptBlock_14 21 rfl rfl)
theorem dX2_decryptBlock_352 : decode cX2_decryptBlock 352 = .ok (.istore 5, 2) := dk_54 5 (dk_at dksX2_decryptBlock_14 22 rfl rfl)
theorem dX2_decryptBlock_354 : decode cX2_decryptBlock 354 = .ok (.aload_n 0, 1) := dk_42 (dk_at dksX2_decryptBlock_15 0 rfl rfl)
theorem dX2_decryptBlock_355 : decode cX2_decryptBlock 355 = .ok (.iload 6, 2) := dk_21 6 (dk_at dksX2_decryptBlock_15 1 rfl rfl)
theorem dX2_decryptBlock_357 : decode cX2_decryptBlock 357 = .ok (.bipush 13, 2) := dk_16 13 (dk_at dksX2_decryptBlock_15 3 rfl rfl)
theorem dX2_decryptBlock_359 : decode cX2_decryptBlock 359 = .ok (.invokevirtual 68, 3) := dk_182 0 68 (dk_at dksX2_decryptBlock_15 5 rfl rfl)
theorem dX2_decryptBlock_362 : decode cX2_decryptBlock 362 = .ok (.iload 5, 2) := dk_21 5 (dk_at dksX2_decryptBlock_15 8 rfl rfl)
theorem dX2_decryptBlock_364 : decode cX2_decryptBlock 364 = .ok (.iload 7, 2) := dk_21 7 (dk_at dksX2_decryptBlock_15 10 rfl rfl)
theorem dX2_decryptBlock_366 : decode cX2_decryptBlock 366 = .ok (.iconst (-1), 1) := dk_2 (dk_at dksX2_decryptBlock_15 12 rfl rfl)
theorem dX2_decryptBlock_367 : decode cX2_decryptBlock 367 = .ok (.ixor, 1) := dk_130 (dk_at dksX2_decryptBlock_15 13 rfl rfl)
theorem dX2_decryptBlock_368 : decode cX2_decryptBlock 368 = .ok (.iand, 1) := dk_126 (dk_at dksX2_decryptBlock_15 14 rfl rfl)
theorem dX2_decryptBlock_369 : decode cX2_decryptBlock 369 = .ok (.iload 8, 2) := dk_21 8 (dk_at dksX2_decryptBlock_15 15 rfl rfl)
theorem dX2_decryptBlock_371 : decode cX2_decryptBlock 371 = .ok (.iload 7, 2) := dk_21 7 (dk_at dksX2_decryptBlock_15 17 rfl rfl)
theorem dX2_decryptBlock_373 : decode cX2_decryptBlock 373 = .ok (.iand, 1) := dk_126 (dk_at dksX2_decryptBlock_15 19 rfl rfl)
theorem dX2_decryptBlock_374 : decode cX2_decryptBlock 374 = .ok (.iadd, 1) := dk_96 (dk_at dksX2_decryptBlock_15 20 rfl rfl)
theorem dX2_decryptBlock_375 : decode cX2_decryptBlock 375 = .ok (.aload_n 0, 1) := dk_42 (dk_at dksX2_decryptBlock_15 21 rfl rfl)
theorem dX2_decryptBlock_376 : decode cX2_decryptBlock 376 = .ok (.getfield 31, 3) := dk_180 0 31 (dk_at dksX2_decryptBlock_16 0 rfl rfl)
theorem dX2_decryptBlock_379 : decode cX2_decryptBlock 379 = .ok (.iload 9, 2) := dk_21 9 (dk_at dksX2_decryptBlock_16 3 rfl rfl)
theorem dX2_decryptBlock_381 : decode cX2_decryptBlock 381 = .ok (.iconst 2, 1) := dk_5 (dk_at dksX2_decryptBlock_16 5 rfl rfl)
theorem dX2_decryptBlock_382 : decode cX2_decryptBlock 382 = .ok (.iadd, 1) := dk_96 (dk_at dksX2_decryptBlock_16 6 rfl rfl)
theorem dX2_decryptBlock_383 : decode cX2_decryptBlock 383 = .ok (.iaload, 1) := dk_46 (dk_at dksX2_decryptBlock_16 7 rfl rfl)
theorem dX2_decryptBlock_384 : decode cX2_decryptBlock 384 = .ok (.iadd, 1) := dk_96 (dk_at dksX2_decryptBlock_16 8 rfl rfl)
theorem dX2_decryptBlock_385 : decode cX2_decryptBlock 385 = .ok (.isub, 1) := dk_100 (dk_at dksX2_decryptBlock_16 9 rfl rfl)
theorem dX2_decryptBlock_386 : decode cX2_decryptBlock 386 = .ok (.istore 6, 2) := dk_54 6 (dk_at dksX2_decryptBlock_16 10 rfl rfl)
theorem dX2_decryptBlock_388 : decode cX2_decryptBlock 388 = .ok (.aload_n 0, 1) := dk_42 (dk_at dksX2_decryptBlock_16 12 rfl rfl)
theorem dX2_decryptBlock_389 : decode cX2_decryptBlock 389 = .ok (.iload 7, 2) := dk_21 7 (dk_at dksX2_decryptBlock_16 13 rfl rfl)
theorem dX2_decryptBlock_391 : decode cX2_decryptBlock 391 = .ok (.bipush 14, 2) := dk_16 14 (dk_at dksX2_decryptBlock_16 15 rfl rfl)
theorem dX2_decryptBlock_393 : decode cX2_decryptBlock 393 = .ok (.invokevirtual 68, 3) := dk_182 0 68 (dk_at dksX2_decryptBlock_16 17 rfl rfl)
theorem dX2_decryptBlock_396 : decode cX2_decryptBlock 396 = .ok (.iload 6, 2) := dk_21 6 (dk_at dksX2_decryptBlock_16 20 rfl rfl)
theorem dX2_decryptBlock_398 : decode cX2_decryptBlock 398 = .ok (.iload 8, 2) := dk_21 8 (dk_at dksX2_decryptBlock_16 22 rfl rfl)
theorem dX2_decryptBlock_400 : decode cX2_decryptBlock 400 = .ok (.iconst (-1), 1) := dk_2 (dk_at dksX2_decryptBlock_17 0 rfl rfl)
theorem dX2_decryptBlock_401 : decode cX2_decryptBlock 401 = .ok (.ixor, 1) := dk_130 (dk_at dksX2_decryptBlock_17 1 rfl rfl)
theorem dX2_decryptBlock_402 : decode cX2_decryptBlock 402 = .ok (.iand, 1) := dk_126 (dk_at dksX2_decryptBlock_17 2 rfl rfl)
theorem dX2_decryptBlock_403 : decode cX2_decryptBlock 403 = .ok (.iload 5, 2) := dk_21 5 (dk_at dksX2_decryptBlock_17 3 rfl rfl)
theorem dX2_decryptBlock_405 : decode cX2_decryptBlock 405 = .ok (.iload 8, 2) := dk_21 8 (dk_at dksX2_decryptBlock_17 5 rfl rfl)
theorem dX2_decryptBlock_407 : decode cX2_decryptBlock 407 = .ok (.iand, 1) := dk_126 (dk_at dksX2_decryptBlock_17 7 rfl rfl)
theorem dX2_decryptBlock_408 : decode cX2_decryptBlock 408 = .ok (.iadd, 1) := dk_96 (dk_at dksX2_decryptBlock_17 8 rfl rfl)
theorem dX2_decryptBlock_409 : decode cX2_decryptBlock 409 = .ok (.aload_n 0, 1) := dk_42 (dk_at dksX2_decryptBlock_17 9 rfl rfl)
theorem dX2_decryptBlock_410 : decode cX2_decryptBlock 410 = .ok (.getfield 31, 3) := dk_180 0 31 (dk_at dksX2_decryptBlock_17 10 rfl rfl)
theorem dX2_decryptBlock_413 : decode cX2_decryptBlock 413 = .ok (.iload 9, 2) := dk_21 9 (dk_at dksX2_decryptBlock_17 13 rfl rfl)
theorem dX2_decryptBlock_415 : decode cX2_decryptBlock 415 = .ok (.iconst 1, 1) := dk_4 (dk_at dksX2_decryptBlock_17 15 rfl rfl)
theorem dX2_decryptBlock_416 : decode cX2_decryptBlock 416 = .ok (.iadd, 1) := dk_96 (dk_at dksX2_decryptBlock_17 16 rfl rfl)
theorem dX2_decryptBlock_417 : decode cX2_decryptBlock 417 = .ok (.iaload, 1) := dk_46 (dk_at dksX2_decryptBlock_17 17 rfl rfl)
theorem dX2_decryptBlock_418 : decode cX2_decryptBlock 418 = .ok (.iadd, 1) := dk_96 (dk_at dksX2_decryptBlock_17 18 rfl rfl)
theorem dX2_decryptBlock_419 : decode cX2_decryptBlock 419 = .ok (.isub, 1) := dk_100 (dk_at dksX2_decryptBlock_17 19 rfl rfl)
theorem dX2_decryptBlock_420 : decode cX2_decryptBlock 420 = .ok (.istore 7, 2) := dk_54 7 (dk_at dksX2_decryptBlock_17 20 rfl rfl)
theorem dX2_decryptBlock_422 : decode cX2_decryptBlock 422 = .ok (.aload_n 0, 1) := dk_42 (dk_at dksX2_decryptBlock_17 22 rfl rfl)
theorem dX2_decryptBlock_423 : decode cX2_decryptBlock 423 = .ok (.iload 8, 2) := dk_21 8 (dk_at dksX2_decryptBlock_18 0 rfl rfl)
theorem dX2_decryptBlock_425 : decode cX2_decryptBlock 425 = .ok (.bipush 15, 2) := dk_16 15 (dk_at dksX2_decryptBlock_18 2 rfl rfl)
theorem dX2_decryptBlock_427 : decode cX2_decryptBlock 427 = .ok (.invokevirtual 68, 3) := dk_182 0 68 (dk_at dksX2_decryptBlock_18 4 rfl rfl)
theorem dX2_decryptBlock_430 : decode cX2_decryptBlock 430 = .ok (.iload 7, 2) := dk_21 7 (dk_at dksX2_decryptBlock_18 7 rfl rfl)
theorem dX2_decryptBlock_432 : decode cX2_decryptBlock 432 = .ok (.iload 5, 2) := dk_21 5 (dk_at dksX2_decryptBlock_18 9 rfl rfl)
theorem dX2_decryptBlock_434 : decode cX2_decryptBlock 434 = .ok (.iconst (-1), 1) := dk_2 (dk_at dksX2_decryptBlock_18 11 rfl rfl)
theorem dX2_decryptBlock_435 : decode cX2_decryptBlock 435 = .ok (.ixor, 1) := dk_130 (dk_at dksX2_decryptBlock_18 12 rfl rfl)
theorem dX2_decryptBlock_436 : decode cX2_decryptBlock 436 = .ok (.iand, 1) := dk_126 (dk_at dksX2_decryptBlock_18 13 rfl rfl)
theorem dX2_decryptBlock_437 : decode cX2_decryptBlock 437 = .ok (.iload 6, 2) := dk_21 6 (dk_at dksX2_decryptBlock_18 14 rfl rfl)
theorem dX2_decryptBlock_439 : decode cX2_decryptBlock 439 = .ok (.iload 5, 2) := dk_21 5 (dk_at dksX2_decryptBlock_18 16 rfl rfl)
theorem dX2_decryptBlock_441 : decode cX2_decryptBlock 441 = .ok (.iand, 1) := dk_126 (dk_at dksX2_decryptBlock_18 18 rfl rfl)
theorem dX2_decryptBlock_442 : decode cX2_decryptBlock 442 = .ok (.iadd, 1) := dk_96 (dk_at dksX2_decryptBlock_18 19 rfl rfl)
theorem dX2_decryptBlock_443 : decode cX2_decryptBlock 443 = .ok (.aload_n 0, 1) := dk_42 (dk_at dksX2_decryptBlock_18 20 rfl rfl)
theorem dX2_decryptBlock_444 : decode cX2_decryptBlock 444 = .ok (.getfield 31, 3) := dk_180 0 31 (dk_at dksX2_decryptBlock_18 21 rfl rfl)
theorem dX2_decryptBlock_447 : decode cX2_decryptBlock 447 = .ok (.iload 9, 2) := dk_21 9 (dk_at dksX2_decryptBlock_19 0 rfl rfl)
theorem dX2_decryptBlock_449 : decode cX2_decryptBlock 449 = .ok (.iaload, 1) := dk_46 (dk_at dksX2_decryptBlock_19 2 rfl rfl)
theorem dX2_decryptBlock_450 : decode cX2_decryptBlock 450 = .ok (.iadd, 1) := dk_96 (dk_at dksX2_decryptBlock_19 3 rfl rfl)
theorem dX2_decryptBlock_451 : decode cX2_decryptBlock 451 = .ok (.isub, 1) := dk_100 (dk_at dksX2_decryptBlock_19 4 rfl rfl)
theorem dX2_decryptBlock_452 : decode cX2_decryptBlock 452 = .ok (.istore 8, 2) := dk_54 8 (dk_at dksX2_decryptBlock_19 5 rfl rfl)
theorem dX2_decryptBlock_454 : decode cX2_decryptBlock 454 = .ok (.iinc 9 (-4), 3) := dk_132 9 252 (dk_at dksX2_decryptBlock_19 7 rfl rfl)
theorem dX2_decryptBlock_457 : decode cX2_decryptBlock 457 = .ok (.goto (-144), 3) := dk_167 255 112 (dk_at dksX2_decryptBlock_19 10 rfl rfl)
theorem dX2_decryptBlock_460 : decode cX2_decryptBlock 460 = .ok (.iload 5, 2) := dk_21 5 (dk_at dksX2_decryptBlock_19 13 rfl rfl)
theorem dX2_decryptBlock_462 : decode cX2_decryptBlock 462 = .ok (.aload_n 0, 1) := dk_42 (dk_at dksX2_decryptBlock_19 15 rfl rfl)
theorem dX2_decryptBlock_463 : decode cX2_decryptBlock 463 = .ok (.getfield 31, 3) := dk_180 0 31 (dk_at dksX2_decryptBlock_19 16 rfl rfl)
theorem dX2_decryptBlock_466 : decode cX2_decryptBlock 466 = .ok (.iload 6, 2) := dk_21 6 (dk_at dksX2_decryptBlock_19 19 rfl rfl)
theorem dX2_decryptBlock_468 : decode cX2_decryptBlock 468 = .ok (.bipush 63, 2) := dk_16 63 (dk_at dksX2_decryptBlock_19 21 rfl rfl)
theorem dX2_decryptBlock_470 : decode cX2_decryptBlock 470 = .ok (.iand, 1) := dk_126 (dk_at dksX2_decryptBlock_19 23 rfl rfl)
theorem dX2_decryptBlock_471 : decode cX2_decryptBlock 471 = .ok (.iaload, 1) := dk_46 (dk_at dksX2_decryptBlock_20 0 rfl rfl)
theorem dX2_decryptBlock_472 : decode cX2_decryptBlock 472 = .ok (.isub, 1) := dk_100 (dk_at dksX2_decryptBlock_20 1 rfl rfl)
theorem dX2_decryptBlock_473 : decode cX2_decryptBlock 473 = .ok (.istore 5, 2) := dk_54 5 (dk_at dksX2_decryptBlock_20 2 rfl rfl)
theorem dX2_decryptBlock_475 : decode cX2_decryptBlock 475 = .ok (.iload 6, 2) := dk_21 6 (dk_at dksX2_decryptBlock_20 4 rfl rfl)
theorem dX2_decryptBlock_477 : decode cX2_decryptBlock 477 = .ok (.aload_n 0, 1) := dk_42 (dk_at dksX2_decryptBlock_20 6 rfl rfl)
theorem dX2_decryptBlock_478 : decode cX2_decryptBlock 478 = .ok (.getfield 31, 3) := dk_180 0 31 (dk_at dksX2_decryptBlock_20 7 rfl rfl)
theorem dX2_decryptBlock_481 : decode cX2_decryptBlock 481 = .ok (.iload 7, 2) := dk_21 7 (dk_at dksX2_decryptBlock_20 10 rfl rfl)
theorem dX2_decryptBlock_483 : decode cX2_decryptBlock 483 = .ok (.bipush 63, 2) := dk_16 63 (dk_at dksX2_decryptBlock_20 12 rfl rfl)
theorem dX2_decryptBlock_485 : decode cX2_decryptBlock 485 = .ok (.iand, 1) := dk_126 (dk_at dksX2_decryptBlock_20 14 rfl rfl)
theorem dX2_decryptBlock_486 : decode cX2_decryptBlock 486 = .ok (.iaload, 1) := dk_46 (dk_at dksX2_decryptBlock_20 15 rfl rfl)
theorem dX2_decryptBlock_487 : decode cX2_decryptBlock 487 = .ok (.isub, 1) := dk_100 (dk_at dksX2_decryptBlock_20 16 rfl rfl)
theorem dX2_decryptBlock_488 : decode cX2_decryptBlock 488 = .ok (.istore 6, 2) := dk_54 6 (dk_at dksX2_decryptBlock_20 17 rfl rfl)
theorem dX2_decryptBlock_490 : decode cX2_decryptBlock 490 = .ok (.iload 7, 2) := dk_21 7 (dk_at dksX2_decryptBlock_20 19 rfl rfl)
theorem dX2_decryptBlock_492 : decode cX2_decryptBlock 492 = .ok (.aload_n 0, 1) := dk_42 (dk_at dksX2_decryptBlock_20 21 rfl rfl)
theorem dX2_decryptBlock_493 : decode cX2_decryptBlock 493 = .ok (.getfield 31, 3) := dk_180 0 31 (dk_at dksX2_decryptBlock_21 0 rfl rfl)
theorem dX2_decryptBlock_496 : decode cX2_decryptBlock 496 = .ok (.iload 8, 2) := dk_21 8 (dk_at dksX2_decryptBlock_21 3 rfl rfl)
theorem dX2_decryptBlock_498 : decode cX2_decryptBlock 498 = .ok (.bipush 63, 2) := dk_16 63 (dk_at dksX2_decryptBlock_21 5 rfl rfl)
theorem dX2_decryptBlock_500 : decode cX2_decryptBlock 500 = .ok (.iand, 1) := dk_126 (dk_at dksX2_decryptBlock_21 7 rfl rfl)
theorem dX2_decryptBlock_501 : decode cX2_decryptBlock 501 = .ok (.iaload, 1) := dk_46 (dk_at dksX2_decryptBlock_21 8 rfl rfl)
theorem dX2_decryptBlock_502 : decode cX2_decryptBlock 502 = .ok (.isub, 1) := dk_100 (dk_at dksX2_decryptBlock_21 9 rfl rfl)
theorem dX2_decryptBlock_503 : decode cX2_decryptBlock 503 = .ok (.istore 7, 2) := dk_54 7 (dk_at dksX2_decryptBlock_21 10 rfl rfl)
theorem dX2_decryptBlock_505 : decode cX2_decryptBlock 505 = .ok (.iload 8, 2) := dk_21 8 (dk_at dksX2_decryptBlock_21 12 rfl rfl)
theorem dX2_decryptBlock_507 : decode cX2_decryptBlock 507 = .ok (.aload_n 0, 1) := dk_42 (dk_at dksX2_decryptBlock_21 14 rfl rfl)
theorem dX2_decryptBlock_508 : decode cX2_decryptBlock 508 = .ok (.getfield 31, 3) := dk_180 0 31 (dk_at dksX2_decryptBlock_21 15 rfl rfl)
theorem dX2_decryptBlock_511 : decode cX2_decryptBlock 511 = .ok (.iload 5, 2) := dk_21 5 (dk_at dksX2_decryptBlock_21 18 rfl rfl)
theorem dX2_decryptBlock_513 : decode cX2_decryptBlock 513 = .ok (.bipush 63, 2) := dk_16 63 (dk_at dksX2_decryptBlock_21 20 rfl rfl)
theorem dX2_decryptBlock_515 : decode cX2_decryptBlock 515 = .ok (.iand, 1) := dk_126 (dk_at dksX2_decryptBlock_21 22 rfl rfl)
theorem dX2_decryptBlock_516 : decode cX2_decryptBlock 516 = .ok (.iaload, 1) := dk_46 (dk_at dksX2_decryptBlock_21 23 rfl rfl)
theorem dX2_decryptBlock_517 : decode cX2_decryptBlock 517 = .ok (.isub, 1) := dk_100 (dk_at dksX2_decryptBlock_22 0 rfl rfl)
theorem dX2_decryptBlock_518 : decode cX2_decryptBlock 518 = .ok (.istore 8, 2) := dk_54 8 (dk_at dksX2_decryptBlock_22 1 rfl rfl)
theorem dX2_decryptBlock_520 : decode cX2_decryptBlock 520 = .ok (.bipush 16, 2) := dk_16 16 (dk_at dksX2_decryptBlock_22 3 rfl rfl)
theorem dX2_decryptBlock_522 : decode cX2_decryptBlock 522 = .ok (.istore 9, 2) := dk_54 9 (dk_at dksX2_decryptBlock_22 5 rfl rfl)
theorem dX2_decryptBlock_524 : decode cX2_decryptBlock 524 = .ok (.iload 9, 2) := dk_21 9 (dk_at dksX2_decryptBlock_22 7 rfl rfl)
theorem dX2_decryptBlock_526 : decode cX2_decryptBlock 526 = .ok (.ifCond .lt 143, 3) := dk_155 0 143 (dk_at dksX2_decryptBlock_22 9 rfl rfl)
theorem dX2_decryptBlock_529 : decode cX2_decryptBlock 529 = .ok (.aload_n 0, 1) := dk_42 (dk_at dksX2_decryptBlock_22 12 rfl rfl)
theorem dX2_decryptBlock_530 : decode cX2_decryptBlock 530 = .ok (.iload 5, 2) := dk_21 5 (dk_at dksX2_decryptBlock_22 13 rfl rfl)
theorem dX2_decryptBlock_532 : decode cX2_decryptBlock 532 = .ok (.bipush 11, 2) := dk_16 11 (dk_at dksX2_decryptBlock_22 15 rfl rfl)
theorem dX2_decryptBlock_534 : decode cX2_decryptBlock 534 = .ok (.invokevirtual 68, 3) := dk_182 0 68 (dk_at dksX2_decryptBlock_22 17 rfl rfl)
theorem dX2_decryptBlock_537 : decode cX2_decryptBlock 537 = .ok (.iload 8, 2) := dk_21 8 (dk_at dksX2_decryptBlock_22 20 rfl rfl)
theorem dX2_decryptBlock_539 : decode cX2_decryptBlock 539 = .ok (.iload 6, 2) := dk_21 6 (dk_at dksX2_decryptBlock_22 22 rfl rfl)
theorem dX2_decryptBlock_541 : decode cX2_decryptBlock 541 = .ok (.iconst (-1), 1) := dk_2 (dk_at dksX2_decryptBlock_23 0 rfl rfl)
theorem dX2_decryptBlock_542 : decode cX2_decryptBlock 542 = .ok (.ixor, 1) := dk_130 (dk_at dksX2_decryptBlock_23 1 rfl rfl)
theorem dX2_decryptBlock_543 : decode cX2_decryptBlock 543 = .ok (.iand, 1) := dk_126 (dk_at dksX2_decryptBlock_23 2 rfl rfl)
theorem dX2_decryptBlock_544 : decode cX2_decryptBlock 544 = .ok (.iload 7, 2) := dk_21 7 (dk_at dksX2_decryptBlock_23 3 rfl rfl)
theorem dX2_decryptBlock_546 : decode cX2_decryptBlock 546 = .ok (.iload 6, 2) := dk_21 6 (dk_at dksX2_decryptBlock_23 5 rfl rfl)
theorem dX2_decryptBlock_548 : decode cX2_decryptBlock 548 = .ok (.iand, 1) := dk_126 (dk_at dksX2_decryptBlock_23 7 rfl rfl)
theorem dX2_decryptBlock_549 : decode cX2_decryptBlock 549 = .ok (.iadd, 1) := dk_96 (dk_at dksX2_decryptBlock_23 8 rfl rfl)
theorem dX2_decryptBlock_550 : decode cX2_decryptBlock 550 = .ok (.aload_n 0, 1) := dk_42 (dk_at dksX2_decryptBlock_23 9 rfl rfl)
theorem dX2_decryptBlock_551 : decode cX2_decryptBlock 551 = .ok (.getfield 31, 3) := dk_180 0 31 (dk_at dksX2_decryptBlock_23 10 rfl rfl)
theorem dX2_decryptBlock_554 : decode cX2_decryptBlock 554 = .ok (.iload 9, 2) := dk_21 9 (dk_at dksX2_decryptBlock_23 13 rfl rfl)
theorem dX2_decryptBlock_556 : decode cX2_decryptBlock 556 = .ok (.iconst 3, 1) := dk_6 (dk_at dksX2_decryptBlock_23 15 rfl rfl)
theorem dX2_decryptBlock_557 : decode cX2_decryptBlock 557 = .ok (.iadd, 1) := dk_96 (dk_at dksX2_decryptBlock_23 16 rfl rfl)
theorem dX2_decryptBlock_558 : decode cX2_decryptBlock 558 = .ok (.iaload, 1) := dk_46 (dk_at dksX2_decryptBlock_23 17 rfl rfl)
theorem dX2_decryptBlock_559 : decode cX2_decryptBlock 559 = .ok (.iadd, 1) := dk_96 (dk_at dksX2_decryptBlock_23 18 rfl rfl)
theorem dX2_decryptBlock_560 : decode cX2_decryptBlock 560 = .ok (.isub, 1) := dk_100 (dk_at dksX2_decryptBlock_23 19 rfl rfl)
theorem dX2_decryptBlock_561 : decode cX2_decryptBlock 561 = .ok (.istore 5, 2) := dk_54 5 (dk_at dksX2_decryptBlock_23 20 rfl rfl)
theorem dX2_decryptBlock_563 : decode cX2_decryptBlock 563 = .ok (.aload_n 0, 1) := dk_42 (dk_at dksX2_decryptBlock_23 22 rfl rfl)
theorem dX2_decryptBlock_564 : decode cX2_decryptBlock 564 = .ok (.iload 6, 2) := dk_21 6 (dk_at dksX2_decryptBlock_24 0 rfl rfl)
theorem dX2_decryptBlock_566 : decode cX2_decryptBlock 566 = .ok (.bipush 13, 2) := dk_16 13 (dk_at dksX2_decryptBlock_24 2 rfl rfl)
theorem dX2_decryptBlock_568 : decode cX2_decryptBlock 568 = .ok (.invokevirtual 68, 3) := dk_182 0 68 (dk_at dksX2_decryptBlock_24 4 rfl rfl)
theorem dX2_decryptBlock_571 : decode cX2_decryptBlock 571 = .ok (.iload 5, 2) := dk_21 5 (dk_at dksX2_decryptBlock_24 7 rfl rfl)
theorem dX2_decryptBlock_573 : decode cX2_decryptBlock 573 = .ok (.iload 7, 2) := dk_21 7 (dk_at dksX2_decryptBlock_24 9 rfl rfl)
theorem dX2_decryptBlock_575 : decode cX2_decryptBlock 575 = .ok (.iconst (-1), 1) := dk_2 (dk_at dksX2_decryptBlock_24 11 rfl rfl)
theorem dX2_decryptBlock_576 : decode cX2_decryptBlock 576 = .ok (.ixor, 1) := dk_130 (dk_at dksX2_decryptBlock_24 12 rfl rfl)
theorem dX2_decryptBlock_577 : decode cX2_decryptBlock 577 = .ok (.iand, 1) := dk_126 (dk_at dksX2_decryptBlock_24 13 rfl rfl)
theorem dX2_decryptBlock_578 : decode cX2_decryptBlock 578 = .ok (.iload 8, 2) := dk_21 8 (dk_at dksX2_decryptBlock_24 14 rfl rfl)
theorem dX2_decryptBlock_580 : decode cX2_decryptBlock 580 = .ok (.iload 7, 2) := dk_21 7 (dk_at dksX2_decryptBlock_24 16 rfl rfl)
theorem dX2_decryptBlock_582 : decode cX2_decryptBlock 582 = .ok (.iand, 1) := dk_126 (dk_at dksX2_decryptBlock_24 18 rfl rfl)
theorem dX2_decryptBlock_583 : decode cX2_decryptBlock 583 = .ok (.iadd, 1) := dk_96 (dk_at dksX2_decryptBlock_24 19 rfl rfl)
theorem dX2_decryptBlock_584 : decode cX2_decryptBlock 584 = .ok (.aload_n 0, 1) := dk_42 (dk_at dksX2_decryptBlock_24 20 rfl rfl)
theorem dX2_decryptBlock_585 : decode cX2_decryptBlock 585 = .ok (.getfield 31, 3) := dk_180 0 31 (dk_at dksX2_decryptBlock_24 21 rfl rfl)
theorem dX2_decryptBlock_588 : decode cX2_decryptBlock 588 = .ok (.iload 9, 2) := dk_21 9 (dk_at dksX2_decryptBlock_25 0 rfl rfl)
theorem dX2_decryptBlock_590 : decode cX2_decryptBlock 590 = .ok (.iconst 2, 1) := dk_5 (dk_at dksX2_decryptBlock_25 2 rfl rfl)
theorem dX2_decryptBlock_591 : decode cX2_decryptBlock 591 = .ok (.iadd, 1) := dk_96 (dk_at dksX2_decryptBlock_25 3 rfl rfl)
theorem dX2_decryptBlock_592 : decode cX2_decryptBlock 592 = .ok (.iaload, 1) := dk_46 (dk_at dksX2_decryptBlock_25 4 rfl rfl)
theorem dX2_decryptBlock_593 : decode cX2_decryptBlock 593 = .ok (.iadd, 1) := dk_96 (dk_at dksX2_decryptBlock_25 5 rfl rfl)
theorem dX2_decryptBlock_594 : decode cX2_decryptBlock 594 = .ok (.isub, 1) := dk_100 (dk_at dksX2_decryptBlock_25 6 rfl rfl)
theorem dX2_decryptBlock_595 : decode cX2_decryptBlock 595 = .ok (.istore 6, 2) := dk_54 6 (dk_at dksX2_decryptBlock_25 7 rfl rfl)
theorem dX2_decryptBlock_597 : decode cX2_decryptBlock 597 = .ok (.aload_n 0, 1) := dk_42 (dk_at dksX2_decryptBlock_25 9 rfl rfl)
theorem dX2_decryptBlock_598 : decode cX2_decryptBlock 598 = .ok (.iload 7, 2) := dk_21 7 (dk_at dksX2_decryptBlock_25 10 rfl rfl)
theorem dX2_decryptBlock_600 : decode cX2_decryptBlock 600 = .ok (.bipush 14, 2) := dk_16 14 (dk_at dksX2_decryptBlock_25 12 rfl rfl)
theorem dX2_decryptBlock_602 : decode cX2_decryptBlock 602 = .ok (.invokevirtual 68, 3) := dk_182 0 68 (dk_at dksX2_decryptBlock_25 14 rfl rfl)
theorem dX2_decryptBlock_605 : decode cX2_decryptBlock 605 = .ok (.iload 6, 2) := dk_21 6 (dk_at dksX2_decryptBlock_25 17 rfl rfl)
theorem dX2_decryptBlock_607 : decode cX2_decryptBlock 607 = .ok (.iload 8, 2) := dk_21 8 (dk_at dksX2_decryptBlock_25 19 rfl rfl)
theorem dX2_decryptBlock_609 : decode cX2_decryptBlock 609 = .ok (.iconst (-1), 1) := dk_2 (dk_at dksX2_decryptBlock_25 21 rfl rfl)
theorem dX2_decryptBlock_610 : decode cX2_decryptBlock 610 = .ok (.ixor, 1) := dk_130 (dk_at dksX2_decryptBlock_25 22 rfl rfl)
theorem dX2_decryptBlock_611 : decode cX2_decryptBlock 611 = .ok (.iand, 1) := dk_126 (dk_at dksX2_decryptBlock_25 23 rfl rfl)
theorem dX2_decryptBlock_612 : decode cX2_decryptBlock 612 = .ok (.iload 5, 2) := dk_21 5 (dk_at dksX2_decryptBlock_26 0 rfl rfl)
theorem dX2_decryptBlock_614 : decode cX2_decryptBlock 614 = .ok (.iload 8, 2) := dk_21 8 (dk_at dksX2_decryptBlock_26 2 rfl rfl)
theorem dX2_decryptBlock_616 : decode cX2_decryptBlock 616 = .ok (.iand, 1) := dk_126 (dk_at dksX2_decryptBlock_26 4 rfl rfl)
theorem dX2_decryptBlock_617 : decode cX2_decryptBlock 617 = .ok (.iadd, 1) := dk_96 (dk_at dksX2_decryptBlock_26 5 rfl rfl)
theorem dX2_decryptBlock_618 : decode cX2_decryptBlock 618 = .ok (.aload_n 0, 1) := dk_42 (dk_at dksX2_decryptBlock_26 6 rfl rfl)
theorem dX2_decryptBlock_619 : decode cX2_decryptBlock 619 = .ok (.getfield 31, 3) := dk_180 0 31 (dk_at dksX2_decryptBlock_26 7 rfl rfl)
theorem dX2_decryptBlock_622 : decode cX2_decryptBlock 622 = .ok (.iload 9, 2) := dk_21 9 (dk_at dksX2_decryptBlock_26 10 rfl rfl)
theorem dX2_decryptBlock_624 : decode cX2_decryptBlock 624 = .ok (.iconst 1, 1) := dk_4 (dk_at dksX2_decryptBlock_26 12 rfl rfl)
theorem dX2_decryptBlock_625 : decode cX2_decryptBlock 625 = .ok (.iadd, 1) := dk_96 (dk_at dksX2_decryptBlock_26 13 rfl rfl)
theorem dX2_decryptBlock_626 : decode cX2_decryptBlock 626 = .ok (.iaload, 1) := dk_46 (dk_at dksX2_decryptBlock_26 14 rfl rfl)
theorem dX2_decryptBlock_627 : decode cX2_decryptBlock 627 = .ok (.iadd, 1) := dk_96 (dk_at dksX2_decryptBlock_26 15 rfl rfl)
theorem dX2_decryptBlock_628 : decode cX2_decryptBlock 628 = .ok (.isub, 1) := dk_100 (dk_at dksX2_decryptBlock_26 16 rfl rfl)
theorem dX2_decryptBlock_629 : decode cX2_decryptBlock 629 = .ok (.istore 7, 2) := dk_54 7 (dk_at dksX2_decryptBlock_26 17 rfl rfl)
theorem dX2_decryptBlock_631 : decode cX2_decryptBlock 631 = .ok (.aload_n 0, 1) := dk_42 (dk_at dksX2_decryptBlock_26 19 rfl rfl)
theorem dX2_decryptBlock_632 : decode cX2_decryptBlock 632 = .ok (.iload 8, 2) := dk_21 8 (dk_at dksX2_decryptBlock_26 20 rfl rfl)
theorem dX2_decryptBlock_634 : decode cX2_decryptBlock 634 = .ok (.bipush 15, 2) := dk_16 15 (dk_at dksX2_decryptBlock_26 22 rfl rfl)
theorem dX2_decryptBlock_636 : decode cX2_decryptBlock 636 = .ok (.invokevirtual 68, 3) := dk_182 0 68 (dk_at dksX2_decryptBlock_27 0 rfl rfl)
theorem dX2_decryptBlock_639 : decode cX2_decryptBlock 639 = .ok (.iload 7, 2) := dk_21 7 (dk_at dksX2_decryptBlock_27 3 rfl rfl)
theorem dX2_decryptBlock_641 : decode cX2_decryptBlock 641 = .ok (.iload 5, 2) := dk_21 5 (dk_at dksX2_decryptBlock_27 5 rfl rfl)
theorem dX2_decryptBlock_643 : decode cX2_decryptBlock 643 = .ok (.iconst (-1), 1) := dk_2 (dk_at dksX2_decryptBlock_27 7 rfl rfl)
theorem dX2_decryptBlock_644 : decode cX2_decryptBlock 644 = .ok (.ixor, 1) := dk_130 (dk_at dksX2_decryptBlock_27 8 rfl rfl)
theorem dX2_decryptBlock_645 : decode cX2_decryptBlock 645 = .ok (.iand, 1) := dk_126 (dk_at dksX2_decryptBlock_27 9 rfl rfl)
theorem dX2_decryptBlock_646 : decode cX2_decryptBlock 646 = .ok (.iload 6, 2) := dk_21 6 (dk_at dksX2_decryptBlock_27 10 rfl rfl)
theorem dX2_decryptBlock_648 : decode cX2_decryptBlock 648 = .ok (.iload 5, 2) := dk_21 5 (dk_at dksX2_decryptBlock_27 12 rfl rfl)
theorem dX2_decryptBlock_650 : decode cX2_decryptBlock 650 = .ok (.iand, 1) := dk_126 (dk_at dksX2_decryptBlock_27 14 rfl rfl)
theorem dX2_decryptBlock_651 : decode cX2_decryptBlock 651 = .ok (.iadd, 1) := dk_96 (dk_at dksX2_decryptBlock_27 15 rfl rfl)
theorem dX2_decryptBlock_652 : decode cX2_decryptBlock 652 = .ok (.aload_n 0, 1) := dk_42 (dk_at dksX2_decryptBlock_27 16 rfl rfl)
theorem dX2_decryptBlock_653 : decode cX2_decryptBlock 653 = .ok (.getfield 31, 3) := dk_180 0 31 (dk_at dksX2_decryptBlock_27 17 rfl rfl)
theorem dX2_decryptBlock_656 : decode cX2_decryptBlock 656 = .ok (.iload 9, 2) := dk_21 9 (dk_at dksX2_decryptBlock_27 20 rfl rfl)
theorem dX2_decryptBlock_658 : decode cX2_decryptBlock 658 = .ok (.iaload, 1) := dk_46 (dk_at dksX2_decryptBlock_27 22 rfl rfl)
theorem dX2_decryptBlock_659 : decode cX2_decryptBlock 659 = .ok (.iadd, 1) := dk_96 (dk_at dksX2_decryptBlock_27 23 rfl rfl)
theorem dX2_decryptBlock_660 : decode cX2_decryptBlock 660 = .ok (.isub, 1) := dk_100 (dk_at dksX2_decryptBlock_28 0 rfl rfl)
theorem dX2_decryptBlock_661 : decode cX2_decryptBlock 661 = .ok (.istore 8, 2) := dk_54 8 (dk_at dksX2_decryptBlock_28 1 rfl rfl)
theorem dX2_decryptBlock_663 : decode cX2_decryptBlock 663 = .ok (.iinc 9 (-4), 3) := dk_132 9 252 (dk_at dksX2_decryptBlock_28 3 rfl rfl)
theorem dX2_decryptBlock_666 : decode cX2_decryptBlock 666 = .ok (.goto (-142), 3) := dk_167 255 114 (dk_at dksX2_decryptBlock_28 6 rfl rfl)
theorem dX2_decryptBlock_669 : decode cX2_decryptBlock 669 = .ok (.aload_n 3, 1) := dk_45 (dk_at dksX2_decryptBlock_28 9 rfl rfl)
theorem dX2_decryptBlock_670 : decode cX2_decryptBlock 670 = .ok (.iload 4, 2) := dk_21 4 (dk_at dksX2_decryptBlock_28 10 rfl rfl)
theorem dX2_decryptBlock_672 : decode cX2_decryptBlock 672 = .ok (.iconst 0, 1) := dk_3 (dk_at dksX2_decryptBlock_28 12 rfl rfl)
theorem dX2_decryptBlock_673 : decode cX2_decryptBlock 673 = .ok (.iadd, 1) := dk_96 (dk_at dksX2_decryptBlock_28 13 rfl rfl)
theorem dX2_decryptBlock_674 : decode cX2_decryptBlock 674 = .ok (.iload 8, 2) := dk_21 8 (dk_at dksX2_decryptBlock_28 14 rfl rfl)
theorem dX2_decryptBlock_676 : decode cX2_decryptBlock 676 = .ok (.i2b, 1) := dk_145 (dk_at dksX2_decryptBlock_28 16 rfl rfl)
theorem dX2_decryptBlock_677 : decode cX2_decryptBlock 677 = .ok (.bastore, 1) := dk_84 (dk_at dksX2_decryptBlock_28 17 rfl rfl)
theorem dX2_decryptBlock_678 : decode cX2_decryptBlock 678 = .ok (.aload_n 3, 1) := dk_45 (dk_at dksX2_decryptBlock_28 18 rfl rfl)
theorem dX2_decryptBlock_679 : decode cX2_decryptBlock 679 = .ok (.iload 4, 2) := dk_21 4 (dk_at dksX2_decryptBlock_28 19 rfl rfl)
theorem dX2_decryptBlock_681 : decode cX2_decryptBlock 681 = .ok (.iconst 1, 1) := dk_4 (dk_at dksX2_decryptBlock_28 21 rfl rfl)
theorem dX2_decryptBlock_682 : decode cX2_decryptBlock 682 = .ok (.iadd, 1) := dk_96 (dk_at dksX2_decryptBlock_28 22 rfl rfl)
theorem dX2_decryptBlock_683 : decode cX2_decryptBlock 683 = .ok (.iload 8, 2) := dk_21 8 (dk_at dksX2_decryptBlock_29 0 rfl rfl)
theorem dX2_decryptBlock_685 : decode cX2_decryptBlock 685 = .ok (.bipush 8, 2) := dk_16 8 (dk_at dksX2_decryptBlock_29 2 rfl rfl)
theorem dX2_decryptBlock_687 : decode cX2_decryptBlock 687 = .ok (.ishr, 1) := dk_122 (dk_at dksX2_decryptBlock_29 4 rfl rfl)
theorem dX2_decryptBlock_688 : decode cX2_decryptBlock 688 = .ok (.i2b, 1) := dk_145 (dk_at dksX2_decryptBlock_29 5 rfl rfl)
theorem dX2_decryptBlock_689 : decode cX2_decryptBlock 689 = .ok (.bastore, 1) := dk_84 (dk_at dksX2_decryptBlock_29 6 rfl rfl)
theorem dX2_decryptBlock_690 : decode cX2_decryptBlock 690 = .ok (.aload_n 3, 1) := dk_45 (dk_at dksX2_decryptBlock_29 7 rfl rfl)
theorem dX2_decryptBlock_691 : decode cX2_decryptBlock 691 = .ok (.iload 4, 2) := dk_21 4 (dk_at dksX2_decryptBlock_29 8 rfl rfl)
theorem dX2_decryptBlock_693 : decode cX2_decryptBlock 693 = .ok (.iconst 2, 1) := dk_5 (dk_at dksX2_decryptBlock_29 10 rfl rfl)
theorem dX2_decryptBlock_694 : decode cX2_decryptBlock 694 = .ok (.iadd, 1) := dk_96 (dk_at dksX2_decryptBlock_29 11 rfl rfl)
theorem dX2_decryptBlock_695 : decode cX2_decryptBlock 695 = .ok (.iload 7, 2) := dk_21 7 (dk_at dksX2_decryptBlock_29 12 rfl rfl)
theorem dX2_decryptBlock_697 : decode cX2_decryptBlock 697 = .ok (.i2b, 1) := dk_145 (dk_at dksX2_decryptBlock_29 14 rfl rfl)
theorem dX2_decryptBlock_698 : decode cX2_decryptBlock 698 = .ok (.bastore, 1) := dk_84 (dk_at dksX2_decryptBlock_29 15 rfl rfl)
theorem dX2_decryptBlock_699 : decode cX2_decryptBlock 699 = .ok (.aload_n 3, 1) := dk_45 (dk_at dksX2_decryptBlock_29 16 rfl rfl)
theorem dX2_decryptBlock_700 : decode cX2_decryptBlock 700 = .ok (.iload 4, 2) := dk_21 4 (dk_at dksX2_decryptBlock_29 17 rfl rfl)
theorem dX2_decryptBlock_702 : decode cX2_decryptBlock 702 = .ok (.iconst 3, 1) := dk_6 (dk_at dksX2_decryptBlock_29 19 rfl rfl)
theorem dX2_decryptBlock_703 : decode cX2_decryptBlock 703 = .ok (.iadd, 1) := dk_96 (dk_at dksX2_decryptBlock_29 20 rfl rfl)
theorem dX2_decryptBlock_704 : decode cX2_decryptBlock 704 = .ok (.iload 7, 2) := dk_21 7 (dk_at dksX2_decryptBlock_29 21 rfl rfl)
theorem dX2_decryptBlock_706 : decode cX2_decryptBlock 706 = .ok (.bipush 8, 2) := dk_16 8 (dk_at dksX2_decryptBlock_30 0 rfl rfl)
theorem dX2_decryptBlock_708 : decode cX2_decryptBlock 708 = .ok (.ishr, 1) := dk_122 (dk_at dksX2_decryptBlock_30 2 rfl rfl)
theorem dX2_decryptBlock_709 : decode cX2_decryptBlock 709 = .ok (.i2b, 1) := dk_145 (dk_at dksX2_decryptBlock_30 3 rfl rfl)
theorem dX2_decryptBlock_710 : decode cX2_decryptBlock 710 = .ok (.bastore, 1) := dk_84 (dk_at dksX2_decryptBlock_30 4 rfl rfl)
theorem dX2_decryptBlock_711 : decode cX2_decryptBlock 711 = .ok (.aload_n 3, 1) := dk_45 (dk_at dksX2_decryptBlock_30 5 rfl rfl)
theorem dX2_decryptBlock_712 : decode cX2_decryptBlock 712 = .ok (.iload 4, 2) := dk_21 4 (dk_at dksX2_decryptBlock_30 6 rfl rfl)
theorem dX2_decryptBlock_714 : decode cX2_decryptBlock 714 = .ok (.iconst 4, 1) := dk_7 (dk_at dksX2_decryptBlock_30 8 rfl rfl)
theorem dX2_decryptBlock_715 : decode cX2_decryptBlock 715 = .ok (.iadd, 1) := dk_96 (dk_at dksX2_decryptBlock_30 9 rfl rfl)
theorem dX2_decryptBlock_716 : decode cX2_decryptBlock 716 = .ok (.iload 6, 2) := dk_21 6 (dk_at dksX2_decryptBlock_30 10 rfl rfl)
theorem dX2_decryptBlock_718 : decode cX2_decryptBlock 718 = .ok (.i2b, 1) := dk_145 (dk_at dksX2_decryptBlock_30 12 rfl rfl)
theorem dX2_decryptBlock_719 : decode cX2_decryptBlock 719 = .ok (.bastore, 1) := dk_84 (dk_at dksX2_decryptBlock_30 13 rfl rfl)
theorem dX2_decryptBlock_720 : decode cX2_decryptBlock 720 = .ok (.aload_n 3, 1) := dk_45 (dk_at dksX2_decryptBlock_30 14 rfl rfl)
theorem dX2_decryptBlock_721 : decode cX2_decryptBlock 721 = .ok (.iload 4, 2) := dk_21 4 (dk_at dksX2_decryptBlock_30 15 rfl rfl)
theorem dX2_decryptBlock_723 : decode cX2_decryptBlock 723 = .ok (.iconst 5, 1) := dk_8 (dk_at dksX2_decryptBlock_30 17 rfl rfl)
theorem dX2_decryptBlock_724 : decode cX2_decryptBlock 724 = .ok (.iadd, 1) := dk_96 (dk_at dksX2_decryptBlock_30 18 rfl rfl)
theorem dX2_decryptBlock_725 : decode cX2_decryptBlock 725 = .ok (.iload 6, 2) := dk_21 6 (dk_at dksX2_decryptBlock_30 19 rfl rfl)
theorem dX2_decryptBlock_727 : decode cX2_decryptBlock 727 = .ok (.bipush 8, 2) := dk_16 8 (dk_at dksX2_decryptBlock_30 21 rfl rfl)
theorem dX2_decryptBlock_729 : decode cX2_decryptBlock 729 = .ok (.ishr, 1) := dk_122 (dk_at dksX2_decryptBlock_30 23 rfl rfl)
theorem dX2_decryptBlock_730 : decode cX2_decryptBlock 730 = .ok (.i2b, 1) := dk_145 (dk_at dksX2_decryptBlock_31 0 rfl rfl)
theorem dX2_decryptBlock_731 : decode cX2_decryptBlock 731 = .ok (.bastore, 1) := dk_84 (dk_at dksX2_decryptBlock_31 1 rfl rfl)
theorem dX2_decryptBlock_732 : decode cX2_decryptBlock 732 = .ok (.aload_n 3, 1) := dk_45 (dk_at dksX2_decryptBlock_31 2 rfl rfl)
theorem dX2_decryptBlock_733 : decode cX2_decryptBlock 733 = .ok (.iload 4, 2) := dk_21 4 (dk_at dksX2_decryptBlock_31 3 rfl rfl)
theorem dX2_decryptBlock_735 : decode cX2_decryptBlock 735 = .ok (.bipush 6, 2) := dk_16 6 (dk_at dksX2_decryptBlock_31 5 rfl rfl)
theorem dX2_decryptBlock_737 : decode cX2_decryptBlock 737 = .ok (.iadd, 1) := dk_96 (dk_at dksX2_decryptBlock_31 7 rfl rfl)
theorem dX2_decryptBlock_738 : decode cX2_decryptBlock 738 = .ok (.iload 5, 2) := dk_21 5 (dk_at dksX2_decryptBlock_31 8 rfl rfl)
theorem dX2_decryptBlock_740 : decode cX2_decryptBlock 740 = .ok (.i2b, 1) := dk_145 (dk_at dksX2_decryptBlock_31 10 rfl rfl)
theorem dX2_decryptBlock_741 : decode cX2_decryptBlock 741 = .ok (.bastore, 1) := dk_84 (dk_at dksX2_decryptBlock_31 11 rfl rfl)
theorem dX2_decryptBlock_742 : decode cX2_decryptBlock 742 = .ok (.aload_n 3, 1) := dk_45 (dk_at dksX2_decryptBlock_31 12 rfl rfl)
theorem dX2_decryptBlock_743 : decode cX2_decryptBlock 743 = .ok (.iload 4, 2) := dk_21 4 (dk_at dksX2_decryptBlock_31 13 rfl rfl)
theorem dX2_decryptBlock_745 : decode cX2_decryptBlock 745 = .ok (.bipush 7, 2) := dk_16 7 (dk_at dksX2_decryptBlock_31 15 rfl rfl)
theorem dX2_decryptBlock_747 : decode cX2_decryptBlock 747 = .ok (.iadd, 1) := dk_96 (dk_at dksX2_decryptBlock_31 17 rfl rfl)
theorem dX2_decryptBlock_748 : decode cX2_decryptBlock 748 = .ok (.iload 5, 2) := dk_21 5 (dk_at dksX2_decryptBlock_31 18 rfl rfl)
theorem dX2_decryptBlock_750 : decode cX2_decryptBlock 750 = .ok (.bipush 8, 2) := dk_16 8 (dk_at dksX2_decryptBlock_31 20 rfl rfl)
theorem dX2_decryptBlock_752 : decode cX2_decryptBlock 752 = .ok (.ishr, 1) := dk_122 (dk_at dksX2_decryptBlock_31 22 rfl rfl)
theorem dX2_decryptBlock_753 : decode cX2_decryptBlock 753 = .ok (.i2b, 1) := dk_145 (dk_at dksX2_decryptBlock_31 23 rfl rfl)
theorem dX2_decryptBlock_754 : decode cX2_decryptBlock 754 = .ok (.bastore, 1) := dk_84 (dk_at dksX2_decryptBlock_32 0 rfl rfl)
theorem dX2_decryptBlock_755 : decode cX2_decryptBlock 755 = .ok (.return_, 1) := dk_177 (dk_at dksX2_decryptBlock_32 1 rfl rfl)
theorem q8 : (Jvm.Cond.initialized "RC2Engine") ∈ lw_all := lw_g (lw_at lw_m1 2 rfl) rfl
theorem q32 : (Jvm.Cond.instantiable "RC2Engine" (2 : Nat)) ∈ lw_all := lw_g (lw_at lw_m1 26 rfl) rfl
theorem q34 : (Jvm.Cond.instanceMethod ({ cls := "RC2Engine", name := "<init>", desc := "()V" } : Jvm.MethodName)) ∈ lw_all := lw_g (lw_at lw_m1 28 rfl) rfl
theorem q35 : (Jvm.Cond.code ({ cls := "RC2Engine", name := "<init>", desc := "()V" } : Jvm.MethodName) prog_6_method_1_code (1 : Nat) (Option.none : Option Jvm.ClassFile.FieldType)) ∈ lw_all := lw_g (lw_at lw_m1 29 rfl) rfl
theorem q36 : (Jvm.Cond.methodLink "RC2Engine" (1 : Nat) ({ cls := "java/lang/Object", name := "<init>", desc := "()V" } : Jvm.MethodName)) ∈ lw_all := lw_g (lw_at lw_m1 30 rfl) rfl
theorem q39 : (Jvm.Cond.fieldLink "RC2Engine" (31 : Nat) "RC2Engine" "workingKey" "[I") ∈ lw_all := lw_g (lw_at lw_m1 33 rfl) rfl
theorem q40 : (Jvm.Cond.fieldLink "RC2Engine" (13 : Nat) "RC2Engine" "encrypting" "Z") ∈ lw_all := lw_g (lw_at lw_m1 34 rfl) rfl
theorem q41 : (Jvm.Cond.lays "RC2Engine" "RC2Engine" "workingKey" "[I") ∈ lw_all := lw_g (lw_at lw_m1 35 rfl) rfl
theorem q42 : (Jvm.Cond.soleField "RC2Engine" "workingKey") ∈ lw_all := lw_g (lw_at lw_m1 36 rfl) rfl
theorem q43 : (Jvm.Cond.lays "RC2Engine" "RC2Engine" "encrypting" "Z") ∈ lw_all := lw_g (lw_at lw_m1 37 rfl) rfl
theorem q44 : (Jvm.Cond.soleField "RC2Engine" "encrypting") ∈ lw_all := lw_g (lw_at lw_m1 38 rfl) rfl
theorem q45 : (Jvm.Cond.superclass "RC2Engine" "java/lang/Object") ∈ lw_all := lw_g (lw_at lw_m1 39 rfl) rfl
theorem q70 : (Jvm.Cond.castable "RC2Engine" "BlockCipher") ∈ lw_tbl := lw_at lw_m1 64 rfl
theorem q71 : (Jvm.Cond.selects "RC2Engine" ({ cls := "BlockCipher", name := "init", desc := "(ZLCipherParameters;)V" } : Jvm.MethodName) ({ cls := "RC2Engine", name := "init", desc := "(ZLCipherParameters;)V" } : Jvm.MethodName)) ∈ lw_all := lw_g (lw_at lw_m1 65 rfl) rfl
theorem q72 : (Jvm.Cond.unhidden "RC2Engine" "init" "(ZLCipherParameters;)V") ∈ lw_tbl := lw_at lw_m1 66 rfl
theorem q73 : (Jvm.Cond.instanceMethod ({ cls := "RC2Engine", name := "init", desc := "(ZLCipherParameters;)V" } : Jvm.MethodName)) ∈ lw_all := lw_g (lw_at lw_m1 67 rfl) rfl
theorem q74 : (Jvm.Cond.publicMethod ({ cls := "RC2Engine", name := "init", desc := "(ZLCipherParameters;)V" } : Jvm.MethodName)) ∈ lw_tbl := lw_at lw_m1 68 rfl
theorem q75 : (Jvm.Cond.code ({ cls := "RC2Engine", name := "init", desc := "(ZLCipherParameters;)V" } : Jvm.MethodName) prog_6_method_3_code (5 : Nat) (Option.none : Option Jvm.ClassFile.FieldType)) ∈ lw_all := lw_g (lw_at lw_m1 69 rfl) rfl
theorem q76 : (Jvm.Cond.classLink "RC2Engine" (17 : Nat) "RC2Parameters") ∈ lw_all := lw_g (lw_at lw_m1 70 rfl) rfl
theorem q77 : (Jvm.Cond.methodLink "RC2Engine" (19 : Nat) ({ cls := "RC2Parameters", name := "getKey", desc := "()[B" } : Jvm.MethodName)) ∈ lw_all := lw_g (lw_at lw_m1 71 rfl) rfl
theorem q82 : (Jvm.Cond.methodLink "RC2Engine" (23 : Nat) ({ cls := "RC2Parameters", name := "getEffectiveKeyBits", desc := "()I" } : Jvm.MethodName)) ∈ lw_all := lw_g (lw_at lw_m1 76 rfl) rfl
theorem q86 : (Jvm.Cond.methodLink "RC2Engine" (27 : Nat) ({ cls := "RC2Engine", name := "generateWorkingKey", desc := "([BI)[I" } : Jvm.MethodName)) ∈ lw_all := lw_g (lw_at lw_m1 80 rfl) rfl
theorem q87 : (Jvm.Cond.privateMethod ({ cls := "RC2Engine", name := "generateWorkingKey", desc := "([BI)[I" } : Jvm.MethodName)) ∈ lw_tbl := lw_at lw_m1 81 rfl
theorem q88 : (Jvm.Cond.instanceMethod ({ cls := "RC2Engine", name := "generateWorkingKey", desc := "([BI)[I" } : Jvm.MethodName)) ∈ lw_all := lw_g (lw_at lw_m1 82 rfl) rfl
theorem q89 : (Jvm.Cond.code ({ cls := "RC2Engine", name := "generateWorkingKey", desc := "([BI)[I" } : Jvm.MethodName) prog_6_method_2_code (8 : Nat) (Option.some (Jvm.ClassFile.FieldType.array Jvm.ClassFile.FieldType.int))) ∈ lw_all := lw_g (lw_at lw_m1 83 rfl) rfl
theorem q90 : (Jvm.Cond.fieldLink "RC2Engine" (7 : Nat) "RC2Engine" "piTable" "[B") ∈ lw_all := lw_g (lw_at lw_m1 84 rfl) rfl
theorem q91 : (Jvm.Cond.laysStatic "RC2Engine" "piTable" "[B") ∈ lw_tbl := lw_at lw_m1 85 rfl
theorem q92 : (Jvm.Cond.classLink "RC2Engine" (35 : Nat) "KeyParameter") ∈ lw_all := lw_g (lw_at lw_m1 86 rfl) rfl
theorem q93 : (Jvm.Cond.methodLink "RC2Engine" (37 : Nat) ({ cls := "KeyParameter", name := "getKey", desc := "()[B" } : Jvm.MethodName)) ∈ lw_all := lw_g (lw_at lw_m1 87 rfl) rfl
theorem q94 : (Jvm.Cond.classLink "RC2Engine" (38 : Nat) "java/lang/IllegalArgumentException") ∈ lw_all := lw_g (lw_at lw_m1 88 rfl) rfl
theorem q136 : (Jvm.Cond.stringRef "RC2Engine" (40 : Nat) "left out") ∈ lw_tbl := lw_at lw_m1 130 rfl
theorem q137 : (Jvm.Cond.methodLink "RC2Engine" (42 : Nat) ({ cls := "java/lang/IllegalArgumentException", name := "<init>", desc := "(Ljava/lang/String;)V" } : Jvm.MethodName)) ∈ lw_all := lw_g (lw_at lw_m1 131 rfl) rfl
theorem q167 : (Jvm.Cond.selects "RC2Engine" ({ cls := "BlockCipher", name := "processBlock", desc := "([BI[BI)I" } : Jvm.MethodName) ({ cls := "RC2Engine", name := "processBlock", desc := "([BI[BI)I" } : Jvm.MethodName)) ∈ lw_all := lw_g (lw_at lw_m1 161 rfl) rfl
theorem q168 : (Jvm.Cond.unhidden "RC2Engine" "processBlock" "([BI[BI)I") ∈ lw_tbl := lw_at lw_m1 162 rfl
theorem q169 : (Jvm.Cond.instanceMethod ({ cls := "RC2Engine", name := "processBlock", desc := "([BI[BI)I" } : Jvm.MethodName)) ∈ lw_all := lw_g (lw_at lw_m1 163 rfl) rfl
theorem q170 : (Jvm.Cond.publicMethod ({ cls := "RC2Engine", name := "processBlock", desc := "([BI[BI)I" } : Jvm.MethodName)) ∈ lw_tbl := lw_at lw_m1 164 rfl
theorem q171 : (Jvm.Cond.code ({ cls := "RC2Engine", name := "processBlock", desc := "([BI[BI)I" } : Jvm.MethodName) prog_6_method_4_code (5 : Nat) (Option.some Jvm.ClassFile.FieldType.int)) ∈ lw_all := lw_g (lw_at lw_m1 165 rfl) rfl
theorem q172 : (Jvm.Cond.classLink "RC2Engine" (45 : Nat) "java/lang/IllegalStateException") ∈ lw_all := lw_g (lw_at lw_m1 166 rfl) rfl
theorem q181 : (Jvm.Cond.stringRef "RC2Engine" (47 : Nat) "RC2 engine not initialised") ∈ lw_tbl := lw_at lw_m1 175 rfl
theorem q182 : (Jvm.Cond.methodLink "RC2Engine" (49 : Nat) ({ cls := "java/lang/IllegalStateException", name := "<init>", desc := "(Ljava/lang/String;)V" } : Jvm.MethodName)) ∈ lw_all := lw_g (lw_at lw_m1 176 rfl) rfl
theorem q188 : (Jvm.Cond.classLink "RC2Engine" (50 : Nat) "DataLengthException") ∈ lw_all := lw_g (lw_at lw_m1 182 rfl) rfl
theorem q198 : (Jvm.Cond.stringRef "RC2Engine" (52 : Nat) "input buffer too short") ∈ lw_tbl := lw_at lw_m1 192 rfl
theorem q199 : (Jvm.Cond.methodLink "RC2Engine" (54 : Nat) ({ cls := "DataLengthException", name := "<init>", desc := "(Ljava/lang/String;)V" } : Jvm.MethodName)) ∈ lw_all := lw_g (lw_at lw_m1 193 rfl) rfl
theorem q208 : (Jvm.Cond.classLink "RC2Engine" (55 : Nat) "OutputLengthException") ∈ lw_all := lw_g (lw_at lw_m1 202 rfl) rfl
theorem q218 : (Jvm.Cond.stringRef "RC2Engine" (57 : Nat) "output buffer too short") ∈ lw_tbl := lw_at lw_m1 212 rfl
theorem q219 : (Jvm.Cond.methodLink "RC2Engine" (59 : Nat) ({ cls := "OutputLengthException", name := "<init>", desc := "(Ljava/lang/String;)V" } : Jvm.MethodName)) ∈ lw_all := lw_g (lw_at lw_m1 213 rfl) rfl
theorem q225 : (Jvm.Cond.methodLink "RC2Engine" (60 : Nat) ({ cls := "RC2Engine", name := "encryptBlock", desc := "([BI[BI)V" } : Jvm.MethodName)) ∈ lw_all := lw_g (lw_at lw_m1 219 rfl) rfl
theorem q226 : (Jvm.Cond.privateMethod ({ cls := "RC2Engine", name := "encryptBlock", desc := "([BI[BI)V" } : Jvm.MethodName)) ∈ lw_tbl := lw_at lw_m1 220 rfl
theorem q227 : (Jvm.Cond.instanceMethod ({ cls := "RC2Engine", name := "encryptBlock", desc := "([BI[BI)V" } : Jvm.MethodName)) ∈ lw_all := lw_g (lw_at lw_m1 221 rfl) rfl
theorem q228 : (Jvm.Cond.code ({ cls := "RC2Engine", name := "encryptBlock", desc := "([BI[BI)V" } : Jvm.MethodName) prog_6_method_6_code (10 : Nat) (Option.none : Option Jvm.ClassFile.FieldType)) ∈ lw_all := lw_g (lw_at lw_m1 222 rfl) rfl
theorem q229 : (Jvm.Cond.methodLink "RC2Engine" (68 : Nat) ({ cls := "RC2Engine", name := "rotateWordLeft", desc := "(II)I" } : Jvm.MethodName)) ∈ lw_all := lw_g (lw_at lw_m1 223 rfl) rfl
theorem q230 : (Jvm.Cond.privateMethod ({ cls := "RC2Engine", name := "rotateWordLeft", desc := "(II)I" } : Jvm.MethodName)) ∈ lw_tbl := lw_at lw_m1 224 rfl
theorem q231 : (Jvm.Cond.instanceMethod ({ cls := "RC2Engine", name := "rotateWordLeft", desc := "(II)I" } : Jvm.MethodName)) ∈ lw_all := lw_g (lw_at lw_m1 225 rfl) rfl
theorem q232 : (Jvm.Cond.code ({ cls := "RC2Engine", name := "rotateWordLeft", desc := "(II)I" } : Jvm.MethodName) prog_6_method_5_code (3 : Nat) (Option.some Jvm.ClassFile.FieldType.int)) ∈ lw_all := lw_g (lw_at lw_m1 226 rfl) rfl
theorem q233 : (Jvm.Cond.constant "RC2Engine" (67 : Nat) (65535 : Int32)) ∈ lw_all := lw_g (lw_at lw_m1 227 rfl) rfl
theorem q234 : (Jvm.Cond.methodLink "RC2Engine" (64 : Nat) ({ cls := "RC2Engine", name := "decryptBlock", desc := "([BI[BI)V" } : Jvm.MethodName)) ∈ lw_all := lw_g (lw_at lw_m1 228 rfl) rfl
theorem q235 : (Jvm.Cond.privateMethod ({ cls := "RC2Engine", name := "decryptBlock", desc := "([BI[BI)V" } : Jvm.MethodName)) ∈ lw_tbl := lw_at lw_m1 229 rfl
theorem q236 : (Jvm.Cond.instanceMethod ({ cls := "RC2Engine", name := "decryptBlock", desc := "([BI[BI)V" } : Jvm.MethodName)) ∈ lw_all := lw_g (lw_at lw_m1 230 rfl) rfl
theorem q237 : (Jvm.Cond.code ({ cls := "RC2Engine", name := "decryptBlock", desc := "([BI[BI)V" } : Jvm.MethodName) prog_6_method_7_code (10 : Nat) (Option.none : Option Jvm.ClassFile.FieldType)) ∈ lw_all := lw_g (lw_at lw_m1 231 rfl) rfl
theorem in_X2 : ∀ w ∈ wsX20, w ∈ lw_all := lw_in wsX20 [41, 43] (by decide +kernel) (by decide +kernel)
end
section
/-! OUR OWN ROWS over the kit's: the classes, the array classes, what every method's start says, a world behind a method, array rows by Nat places -/
abbrev vwCl : List vw_C := [(RX1, TX1, 3), (RX2, TX2, 2), (RX3, TX3, 1)]
abbrev rc_ty (cb ci : ClassId) : List (ClassId × FieldType) := [(cb, .byte), (ci, .int)]
abbrev rm_ (k c n : Nat) : Room := { frames := k, cells := c, slots := n, locals := 50 * k }
def xInit : MethodName := ⟨"BlockCipher", "init", "(ZLCipherParameters;)V"⟩
def xProc : MethodName := ⟨"BlockCipher", "processBlock", "([BI[BI)I"⟩
/-- what holds all through a run: the table (nobody writes it), the interface's entries, KeyParameter is no RC2Parameters -/
def rc_X (t : Nat) (A : Nat → Prop) (U : State) : Prop := va_Z "RC2Engine" "piTable" "[B" (.ref t) A U U.heap ∧ va_T .byte t 256 (fun j => .int (rc_pi j)) A U U.heap ∧ va_Fw RX2 xInit yX2_init_2 U ∧ va_Fw RX2 xProc yX2_processBlock U ∧ va_Nc RX3 "RC2Parameters" U
theorem rc_X.pass {t : Nat} {A B : Nat → Prop} {s U : State} {H : Heap} {locs : List Loc} (h : rc_X t A s) (hS : va_S A s.heap H locs) (hAB : ∀ q, B q → A q) (hU : U.heap = H) (hvm : s.vm.Alike U.vm) : rc_X t B U := by
  obtain ⟨h1, h2, h3, h4, h5⟩ := h
  refine ⟨?_, ?_, va_Fw.moved ⟨by decide, by decide⟩ hvm h3, va_Fw.moved ⟨by decide, by decide⟩ hvm h4, va_Nc.moved hvm h5⟩
  · rw [hU]
    exact va_Z.moved hvm ((h1.kept hS.2.1).narrow hAB)
  · rw [hU]
    exact va_T.moved hvm ((h2.kept hS.2.1).narrow hAB)
/-- a method's start: the heap's size, its world, the classes, and rc_X -/
def rc_Pre (D : va_G) (ty : List (ClassId × FieldType)) (t : Nat) (ws : va_W) (sz : Nat) (U : State) : Prop := U.heap.size = sz ∧ va_P D vwCl ws U.heap ∧ va_K D vwCl ty U ∧ va_D (fun _ => True) ws ∧ rc_X t (va_A ws sz) U
theorem rc_Pre.blind {As : List Value} {D : va_G} {ty : List (ClassId × FieldType)} {t : Nat} {ws : va_W} {sz : Nat} : FrameBlind (va_Pc As (rc_Pre D ty t ws sz)) := by
  intro a U g mk q
  obtain ⟨q0, q1, qP, qK, qD, x1, x2, x3, x4, x5⟩ := q
  have hvm : U.vm.Alike (U.calling g mk a).vm := Vm.Alike.refl U.vm
  exact ⟨q0, q1, qP, va_K.moved (u := U) hvm qK, qD, va_Z.moved (u := U) hvm x1, va_T.moved (u := U) hvm x2, va_Fw.moved (u := U) ⟨by decide, by decide⟩ hvm x3, va_Fw.moved (u := U) ⟨by decide, by decide⟩ hvm x4, va_Nc.moved (u := U) hvm x5⟩
theorem rc_Pre.pass {D : va_G} {ty : List (ClassId × FieldType)} {t : Nat} {A : Nat → Prop} {ws wc : va_W} {s : State} {H : Heap} {locs : List Loc} (hP : va_P D vwCl ws H) (hD : va_D A ws) (hK : va_K D vwCl ty s) (hS : va_S A s.heap H locs) (hA : ∀ q, s.heap.size ≤ q → A q) (hX : rc_X t A s) (isC : List Nat) (hC : isC.map (fun i => ws[i]?) = wc.map some) (hF : isC.filterMap (fun i => ws[i]?) = wc) (hn : va_nd isC = true) (U : State) (hU : U.heap = H) (hW : s.WarmedH U.vm) : rc_Pre D ty t wc H.size U := by
  have hFc := va_free (wc := wc) hD hS hA isC hC
  refine ⟨by rw [hU], by rw [hU]; exact hP.sub isC hF, va_K.moved hW.alike hK, (hD.sub isC hn hC).weaken (fun _ _ _ _ => trivial), hX.pass hS hFc hU hW.alike⟩
/-- a world behind a method -/
abbrev rc_B (D : va_G) (A : Nat → Prop) (ws : va_W) (U : State) : Prop := va_P D vwCl ws U.heap ∧ va_D A ws
theorem rc_join {A0 : Nat → Prop} {D : va_G} {ws wc wr w1 : va_W} {H H1 : Heap} {t9 : State} (hP : va_P D vwCl ws H) (hD : va_D A0 ws) (isC isR : List Nat) (hC : isC.map (fun i => ws[i]?) = wc.map some) (hR : isR.map (fun i => ws[i]?) = wr.map some) (hn : va_nd isR = true) (hdis : ∀ i ∈ isR, i ∉ isC)
    (hk : ∀ q : Nat, q < H.size → ¬ va_A wc H.size q → H1[q]? = H[q]?) (hF : ∀ q, va_A wc H.size q → A0 q) (ht : t9.heap = H1) (hB : rc_B D (va_A wc H.size) w1 t9) : va_P D vwCl (wr ++ w1) H1 ∧ va_D A0 (wr ++ w1) :=
  va_join hP hD isC isR hC hR hn hdis hk hF (by rw [← ht]; exact hB.1) hB.2
/-- an array's contents matter at its places alone -/
theorem rc_fn {D : va_G} {cl : List vw_C} {ws : va_W} {H : Heap} (hP : va_P D cl ws H) (p : Nat) {a : Nat} {cA : ClassId} {n : Nat} {f : Nat → Int32} (g : Nat → Int32) (h : ws[p]? = some (a, .inl (cA, n, .inl f))) (hfg : ∀ j, j < n → f j = g j) : va_P D cl (ws.set p (a, .inl (cA, n, .inl g))) H := by
  intro k q hk
  by_cases hkp : p = k
  · subst hkp
    have hl : p < ws.length := (List.getElem?_eq_some_iff.mp h).1
    rw [List.getElem?_set_self hl] at hk
    cases hk
    have h1 : H[a]? = some (vp_cell cA (n, .inl f)) := hP p _ h
    have e : vp_cell cA (n, .inl f) = vp_cell cA (n, .inl g) := by
      have e1 : (fun j : Fin n => Value.int (f j.val)) = fun j : Fin n => Value.int (g j.val) := funext fun j => by rw [hfg j.val j.isLt]
      show arrV cA n (fun j => .int (f j)) = arrV cA n (fun j => .int (g j))
      unfold arrV
      rw [e1]
    show H[a]? = some (vp_cell cA (n, .inl g))
    rw [← e]
    exact h1
  · rw [List.getElem?_set_ne hkp] at hk
    exact hP k q hk
section RCO
variable {p : Program} {l : Launch} {e : Env} {R : Room} {s : State} {m : MethodId} {args : Array Value} {below : List Frame} {meth : Method} {c : Code} {H : Heap} {locs : List Loc} {cells slots : Nat} {Q : State → Prop}
variable {cc : ByteArray} {pc : Nat} {ls : Array Slot} {rest : List Value} {D : va_G} {cl : List vw_C} {A : Nat → Prop} {a : Nat} {tys : List (ClassId × FieldType)} {ws : va_W} {H0 : Heap} {cb ci : ClassId}
/-- the number on top is written otherwise -/
theorem rc_top {x : Int32} (y : Int32) (h : x = y) (k : W p l e R s m args below meth c H locs cells slots Q (F0 m pc ls (.int y :: rest))) : W p l e R s m args below meth c H locs cells slots Q (F0 m pc ls (.int x :: rest)) := by
  rw [h]
  exact k
theorem rc_bald (hexec : p.tables.exec = Jvm.exec) (hb : c.code = cc) (hK : va_K D cl tys s) (hP : va_P D cl ws H) (q0 t0 : Nat) {cA : ClassId} {n : Nat} {f : Nat → Int32} (ha : ws[q0]? = some (a, .inl (cA, n, .inl f))) (ht : tys[t0]? = some (cA, .byte)) {i : Int32} (j : Nat) (hi : i = nI j) (hj : j < n) (hn : n < 2 ^ 31) (hdg : decode cc pc = .ok (.baload, 1))
    (kk : W p l e R s m args below meth c H locs cells slots Q (F0 m (pc + 1) ls (.int (f j) :: rest))) : W p l e R s m args below meth c H locs cells slots Q (F0 m pc ls (.int i :: .ref a :: rest)) := by
  subst hi
  refine va_bald hexec hb hK hP q0 t0 ha ht (vp_in_nI hj hn) hdg ?_
  rw [nI_clamp (by omega)]
  exact kk
theorem rc_iald (hexec : p.tables.exec = Jvm.exec) (hb : c.code = cc) (hK : va_K D cl tys s) (hP : va_P D cl ws H) (q0 t0 : Nat) {cA : ClassId} {n : Nat} {f : Nat → Int32} (ha : ws[q0]? = some (a, .inl (cA, n, .inl f))) (ht : tys[t0]? = some (cA, .int)) {i : Int32} (j : Nat) (hi : i = nI j) (hj : j < n) (hn : n < 2 ^ 31) (hdg : decode cc pc = .ok (.iaload, 1))
    (kk : W p l e R s m args below meth c H locs cells slots Q (F0 m (pc + 1) ls (.int (f j) :: rest))) : W p l e R s m args below meth c H locs cells slots Q (F0 m pc ls (.int i :: .ref a :: rest)) := by
  subst hi
  refine va_iald hexec hb hK hP q0 t0 ha ht (vp_in_nI hj hn) hdg ?_
  rw [nI_clamp (by omega)]
  exact kk
theorem rc_bast (hexec : p.tables.exec = Jvm.exec) (hb : c.code = cc) (hK : va_K D cl tys s) (hP : va_P D cl ws H) (hD : va_D A ws) (hS : va_S A H0 H locs) (q0 t0 : Nat) {cA : ClassId} {n : Nat} {f : Nat → Int32} (ha : ws[q0]? = some (a, .inl (cA, n, .inl f))) (ht : tys[t0]? = some (cA, .byte)) {i x v : Int32} (j : Nat) (hi : i = nI j) (hj : j < n) (hn : n < 2 ^ 31) (hv : vp_nar .byte x = v) (hdg : decode cc pc = .ok (.bastore, 1))
    (kk : ∀ (H1 : Heap) (locs1 : List Loc), va_P D cl (ws.set q0 (a, .inl (cA, n, .inl (upd f j v)))) H1 → va_D A (ws.set q0 (a, .inl (cA, n, .inl (upd f j v)))) → va_S A H0 H1 locs1 → W p l e R s m args below meth c H1 locs1 cells slots Q (F0 m (pc + 1) ls rest)) : W p l e R s m args below meth c H locs cells slots Q (F0 m pc ls (.int x :: .int i :: .ref a :: rest)) := by
  subst hi
  subst hv
  refine va_bast hexec hb hK hP hD hS q0 t0 ha ht (vp_in_nI hj hn) hdg ?_
  rw [nI_clamp (by omega)]
  exact kk
theorem rc_iast (hexec : p.tables.exec = Jvm.exec) (hb : c.code = cc) (hK : va_K D cl tys s) (hP : va_P D cl ws H) (hD : va_D A ws) (hS : va_S A H0 H locs) (q0 t0 : Nat) {cA : ClassId} {n : Nat} {f : Nat → Int32} (ha : ws[q0]? = some (a, .inl (cA, n, .inl f))) (ht : tys[t0]? = some (cA, .int)) {i x : Int32} (j : Nat) (hi : i = nI j) (hj : j < n) (hn : n < 2 ^ 31) (hdg : decode cc pc = .ok (.iastore, 1))
    (kk : ∀ (H1 : Heap) (locs1 : List Loc), va_P D cl (ws.set q0 (a, .inl (cA, n, .inl (upd f j x)))) H1 → va_D A (ws.set q0 (a, .inl (cA, n, .inl (upd f j x)))) → va_S A H0 H1 locs1 → W p l e R s m args below meth c H1 locs1 cells slots Q (F0 m (pc + 1) ls rest)) : W p l e R s m args below meth c H locs cells slots Q (F0 m pc ls (.int x :: .int i :: .ref a :: rest)) := by
  subst hi
  refine va_iast hexec hb hK hP hD hS q0 t0 ha ht (vp_in_nI hj hn) hdg ?_
  rw [nI_clamp (by omega)]
  exact kk
/-- the static table: its address; a place read -/
theorem rc_gets {t : Nat} (hexec : p.tables.exec = Jvm.exec) (hb : c.code = cc) (hX : rc_X t A s) (hS : va_S A s.heap H locs) {own : String} {index : Nat} (hown : s.vm.findClass own = some m.cls) (hlink : (Cond.fieldLink own index "RC2Engine" "piTable" "[B").before args s = true) (hdg : decode cc pc = .ok (.getstatic index, 3))
    (kk : W p l e R s m args below meth c H locs cells slots Q (F0 m (pc + 3) ls (.ref t :: rest))) : W p l e R s m args below meth c H locs cells slots Q (F0 m pc ls rest) :=
  va_gets hexec hb hX.1 hS hown hlink (fun _ h => h) hdg kk
theorem rc_tb {t : Nat} (hexec : p.tables.exec = Jvm.exec) (hb : c.code = cc) (hX : rc_X t A s) (hS : va_S A s.heap H locs) {i : Int32} (hi : ∃ j : Nat, j < 256 ∧ i = nI j) (hdg : decode cc pc = .ok (.baload, 1))
    (kk : W p l e R s m args below meth c H locs cells slots Q (F0 m (pc + 1) ls (.int (rc_pi i.toNatClampNeg) :: rest))) : W p l e R s m args below meth c H locs cells slots Q (F0 m pc ls (.int i :: .ref t :: rest)) := by
  obtain ⟨j, hj, e⟩ := hi
  exact va_tb hexec hb hX.2.1 hS (by rw [e]; exact vp_in_nI hj (by omega)) rfl hdg kk
theorem rc_cls {U : State} {ty : FieldType} {c1 c2 : ClassId} (hty : ty = .byte ∨ ty = .int) (h1 : va_RA U c1 ty) (h2 : va_RA U c2 ty) : c1 = c2 := by
  rcases hty with rfl | rfl
  · exact Option.some.inj (Eq.trans (Eq.symm (show U.vm.findClass _ = some c1 from h1)) (show U.vm.findClass _ = some c2 from h2))
  · exact Option.some.inj (Eq.trans (Eq.symm (show U.vm.findClass _ = some c1 from h1)) (show U.vm.findClass _ = some c2 from h2))
theorem rc_newb (hexec : p.tables.exec = Jvm.exec) (hb : c.code = cc) (harr : (Cond.arrayClass .byte).before args s = true) (hK : va_K D cl (rc_ty cb ci) s) (hP : va_P D cl ws H) (hD : va_D A ws) (hS : va_S A H0 H locs) (hA : ∀ q, H0.size ≤ q → A q) {n : Int32} (N : Nat) (hN : n = nI N) (hN2 : N ≤ 1000) (hcells : cells + 1 ≤ R.cells) (hslots : slots + N ≤ R.slots) (hdg : decode cc pc = .ok (.newarray .byte, 2))
    (kk : ∀ (q : Nat) (H1 : Heap), va_P D cl (ws ++ [(q, .inl (cb, N, .inl (fun _ => 0)))]) H1 → va_D A (ws ++ [(q, .inl (cb, N, .inl (fun _ => 0)))]) → va_S A H0 H1 locs → W p l e R s m args below meth c H1 locs (cells + 1) (slots + N) Q (F0 m (pc + 2) ls (.ref q :: rest))) : W p l e R s m args below meth c H locs cells slots Q (F0 m pc ls (.int n :: rest)) := by
  subst hN
  refine va_newa (atype := .byte) (ty := .byte) (N' := N) (a0 := (N, .inl (fun _ => 0))) hexec hb harr rfl hK hP hD hS hA (fun _ => rfl) (nI_pos (by omega)) (nI_clamp (by omega)) ?_ hcells hslots hdg (fun q cA H1 hK1 hP1 hD1 hS1 => ?_)
  · show N * 1 ≤ 536870912
    omega
  · have e : cb = cA := rc_cls (Or.inl rfl) (hK.2 0 _ rfl).2 (hK1.2 2 _ rfl).2
    subst e
    exact kk q H1 hP1 hD1 hS1
theorem rc_newi (hexec : p.tables.exec = Jvm.exec) (hb : c.code = cc) (harr : (Cond.arrayClass .int).before args s = true) (hK : va_K D cl (rc_ty cb ci) s) (hP : va_P D cl ws H) (hD : va_D A ws) (hS : va_S A H0 H locs) (hA : ∀ q, H0.size ≤ q → A q) {n : Int32} (N : Nat) (hN : n = nI N) (hN2 : N ≤ 1000) (hcells : cells + 1 ≤ R.cells) (hslots : slots + N ≤ R.slots) (hdg : decode cc pc = .ok (.newarray .int, 2))
    (kk : ∀ (q : Nat) (H1 : Heap), va_P D cl (ws ++ [(q, .inl (ci, N, .inl (fun _ => 0)))]) H1 → va_D A (ws ++ [(q, .inl (ci, N, .inl (fun _ => 0)))]) → va_S A H0 H1 locs → W p l e R s m args below meth c H1 locs (cells + 1) (slots + N) Q (F0 m (pc + 2) ls (.ref q :: rest))) : W p l e R s m args below meth c H locs cells slots Q (F0 m pc ls (.int n :: rest)) := by
  subst hN
  refine va_newa (atype := .int) (ty := .int) (N' := N) (a0 := (N, .inl (fun _ => 0))) hexec hb harr rfl hK hP hD hS hA (fun _ => rfl) (nI_pos (by omega)) (nI_clamp (by omega)) ?_ hcells hslots hdg (fun q cA H1 hK1 hP1 hD1 hS1 => ?_)
  · show N * 4 ≤ 536870912
    omega
  · have e : ci = cA := rc_cls (Or.inr rfl) (hK.2 1 _ rfl).2 (hK1.2 2 _ rfl).2
    subst e
    exact kk q H1 hP1 hD1 hS1
end RCO
/-- n bytes copied so far -/
def rc_cp (f g : Nat → Int32) (n : Nat) : Nat → Int32 := fun j => if j < n then g j else f j
theorem rc_cp_0 (f g : Nat → Int32) : rc_cp f g 0 = f := by
  funext j
  unfold rc_cp
  rw [if_neg (by omega)]
theorem rc_cp_s (f g : Nat → Int32) (n : Nat) : upd (rc_cp f g n) n (g n) = rc_cp f g (n + 1) := by
  funext j
  unfold upd rc_cp
  by_cases h : j = n
  · rw [if_pos h, if_pos (by omega), h]
  · rw [if_neg h]
    by_cases h2 : j < n
    · rw [if_pos h2, if_pos (by omega)]
    · rw [if_neg h2, if_neg (by omega)]
theorem rc_cp_lt (f g : Nat → Int32) {n j : Nat} (h : j < n) : rc_cp f g n j = g j := by
  unfold rc_cp
  rw [if_pos h]
theorem rc_nar {x : Int32} (h : rc_nb x = x) : vp_nar .byte x = x := h
theorem rc_nI4 (j : Nat) : nI (4 * j) + Int32.ofInt 4 = nI (4 * (j + 1)) := nI_add (4 * j) 4
theorem rc_fit {x : Int32} (h : rc_nb x = x) : fits .byte (.int x) = true := by
  rw [← h]
  exact pk_fb x
end
section
/-! RC2Engine.rotateWordLeft -/
set_option maxHeartbeats 4000000 in
set_option maxRecDepth 100000 in
/-- rotateWordLeft(x, y): no cell is read or written -/
theorem met_rot (l : Launch) (h : Nat) (x y : Int32) : Met l yX2_rotateWordLeft (ws_ yX2_rotateWordLeft cX2_rotateWordLeft 3 (some .int)) (rm_ 0 0 0) (fun v _ => v = ([.ref h, .int x, .int y] : List Value).toArray) (vp_Si (fun r => r = rc_rot x y)) 0 0 (fun _ => False) := by
  refine Met.ofW (cc := cX2_rotateWordLeft) (maxL := 3) (ret := (some .int)) (by decide) rfl ?_
  intro p e s m args below meth c s₁ B hml hv
  subst hv
  have hx := B.exec
  have hb := B.bytes
  have hr := B.returns
  have hts := atoms_spec (ws := ws_ yX2_rotateWordLeft cX2_rotateWordLeft 3 (some .int)) B.pre
  have hts : ∀ w ∈ lw_all, w.before _ s = true := fun w h => hts w (List.mem_cons_of_mem _ h)
  have hown : s.vm.findClass RX2 = some m.cls := findClass_of_methodNamed B.named
  have hlocks := B.notSynchronized
  have hl := lv_entry ([.ref h, .int x, .int y]) (n := 3) (Nat.le_of_ble_eq_true rfl)
  rw [lg_entry_eq]
  generalize (lg_sl ([.ref h, .int x, .int y]) ++ List.replicate (3 - (lg_sl ([.ref h, .int x, .int y])).length) Slot.unset).toArray = ls at hl ⊢
  have hl : lv_has ls 3 [(0, .ref h), (1, .int x), (2, .int y)] := hl
  refine lv_iload_n hx hb dX2_rotateWordLeft_0 rfl (lv_at hl 1 rfl) ?_
  refine lv_ldc (v := 65535) hx hb hown (hts _ q233) dX2_rotateWordLeft_1 ?_
  refine lv_iand hx hb dX2_rotateWordLeft_3 ?_
  refine lv_istore_n (lv' := [(1, .int (x &&& 65535)), (0, .ref h), (2, .int y)]) hx hb dX2_rotateWordLeft_4 rfl hl (by decide) rfl (fun ls hl => ?_)
  refine lv_iload_n hx hb dX2_rotateWordLeft_5 rfl (lv_at hl 0 rfl) ?_
  refine lv_iload_n hx hb dX2_rotateWordLeft_6 rfl (lv_at hl 2 rfl) ?_
  refine lv_ishl hx hb dX2_rotateWordLeft_7 ?_
  refine lv_iload_n hx hb dX2_rotateWordLeft_8 rfl (lv_at hl 0 rfl) ?_
  refine lv_bipush (v := 16) hx hb dX2_rotateWordLeft_9 (by decide) ?_
  refine lv_iload_n hx hb dX2_rotateWordLeft_11 rfl (lv_at hl 2 rfl) ?_
  refine lv_isub hx hb dX2_rotateWordLeft_12 ?_
  refine lv_ishr hx hb dX2_rotateWordLeft_13 ?_
  refine lv_ior hx hb dX2_rotateWordLeft_14 ?_
  exact W.iret (v := rc_rot x y) hx hb hr (fun t9 ht hW => ⟨_, rfl, rfl, ht⟩) (fun _ h => by cases h) dX2_rotateWordLeft_15
end
section
/-! RC2Engine.encryptBlock: its three loops, and the method -/
set_option maxHeartbeats 4000000 in
set_option maxRecDepth 100000 in
theorem enc_loop1 {p : Program} {l : Launch} {e : Env} {R : Room} {s : State} {m : MethodId} {args : Array Value} {below : List Frame} {meth : Method} {c : Code} {cells slots : Nat} {Q : State → Prop} {D : va_G} {cb ci : ClassId} {e0 w0 b0 o0 : Nat} {lk : Int32} {K fb fo : Nat → Int32} {H : Heap} {locs : List Loc} (hx : p.tables.exec = Jvm.exec) (hb : c.code = cX2_encryptBlock) (hml : c.maxLocals = 10) (hown : s.vm.findClass RX2 = some m.cls) (hts : ∀ w ∈ lw_all, w.before args s = true) (hK : va_K D vwCl (rc_ty cb ci) s) (hR1 : 1 ≤ R.frames) (hR2 : 22 ≤ R.locals) (hc : cells ≤ R.cells) (hs : slots ≤ R.slots) (hP : va_P D vwCl [(e0, .inr (1, [.ref w0, .int lk])), (w0, .inl (ci, 64, .inl K)), (b0, .inl (cb, 8, .inl fb)), (o0, .inl (cb, 8, .inl fo))] H) (v0 : rc_V)
    (kk : ∀ ls : Array Slot, lv_has ls 10 [(9, .int (nI 20)), (5, .int ((rc_mixN K 0 v0 5).2.2.2)), (6, .int ((rc_mixN K 0 v0 5).2.2.1)), (7, .int ((rc_mixN K 0 v0 5).2.1)), (8, .int ((rc_mixN K 0 v0 5).1)), (0, .ref e0), (1, .ref b0), (2, .int 0), (3, .ref o0), (4, .int 0)] → W p l e R s m args below meth c H locs cells slots Q (F0 m 244 ls [])) :
    ∀ (k n : Nat), n + k = 5 → ∀ ls : Array Slot, lv_has ls 10 [(9, .int (nI (4 * (0 + n)))), (5, .int ((rc_mixN K 0 v0 n).2.2.2)), (6, .int ((rc_mixN K 0 v0 n).2.2.1)), (7, .int ((rc_mixN K 0 v0 n).2.1)), (8, .int ((rc_mixN K 0 v0 n).1)), (0, .ref e0), (1, .ref b0), (2, .int 0), (3, .ref o0), (4, .int 0)] → W p l e R s m args below meth c H locs cells slots Q (F0 m 101 ls []) := by
  intro k
  induction k with
  | zero =>
    intro n hn ls hl
    obtain rfl : n = 5 := hn
    refine lv_iload hx hb dX2_encryptBlock_101 (lv_at hl 0 rfl) ?_
    refine lv_bipush (v := 16) hx hb dX2_encryptBlock_103 (by decide) ?_
    refine lv_icmp_gt (tgt := 244) hx hb dX2_encryptBlock_105 (by decide) (fun c1 => ?_) (fun c1 => ?_)
    · exact kk ls hl
    · exact absurd (by decide) c1
  | succ k ih =>
    intro n hn ls hl
    generalize hv : rc_mixN K 0 v0 n = v at hl
    refine lv_iload hx hb dX2_encryptBlock_101 (lv_at hl 0 rfl) ?_
    refine lv_bipush (v := 16) hx hb dX2_encryptBlock_103 (by decide) ?_
    refine lv_icmp_gt (tgt := 244) hx hb dX2_encryptBlock_105 (by decide) (fun c1 => ?_) (fun c1 => ?_)
    · exact absurd c1 (nI_nlt (a := 16) (b := 4 * (0 + n)) (by omega) (by omega))
    · skip
      refine lv_aload_n hx hb dX2_encryptBlock_108 rfl (lv_at hl 5 rfl) ?_
      refine lv_iload hx hb dX2_encryptBlock_109 (lv_at hl 4 rfl) ?_
      refine lv_iload hx hb dX2_encryptBlock_111 (lv_at hl 3 rfl) ?_
      refine lv_iload hx hb dX2_encryptBlock_113 (lv_at hl 1 rfl) ?_
      refine lv_iconst (v := (-1)) hx hb dX2_encryptBlock_115 (by decide) ?_
      refine lv_ixor hx hb dX2_encryptBlock_116 ?_
      refine lv_iand hx hb dX2_encryptBlock_117 ?_
      refine lv_iadd hx hb dX2_encryptBlock_118 ?_
      refine lv_iload hx hb dX2_encryptBlock_119 (lv_at hl 2 rfl) ?_
      refine lv_iload hx hb dX2_encryptBlock_121 (lv_at hl 1 rfl) ?_
      refine lv_iand hx hb dX2_encryptBlock_123 ?_
      refine lv_iadd hx hb dX2_encryptBlock_124 ?_
      refine lv_aload_n hx hb dX2_encryptBlock_125 rfl (lv_at hl 5 rfl) ?_
      refine va_get (D := D) (ci := 1) (v := .ref w0) (C := RX2) (T := TX2) (N := 2) hx hb hts in_X2 hown hK hP 0 rfl rfl 0 (by decide) (hts _ q39) (fun _ h9 => h9) rfl dX2_encryptBlock_126 ?_
      refine lv_iload hx hb dX2_encryptBlock_129 (lv_at hl 0 rfl) ?_
      refine rc_iald hx hb hK hP 1 1 rfl rfl (4 * (0 + n)) rfl (by omega) (by decide) dX2_encryptBlock_131 ?_
      refine lv_iadd hx hb dX2_encryptBlock_132 ?_
      refine lv_iconst (v := 1) hx hb dX2_encryptBlock_133 (by decide) ?_
      refine vp_callSi (W.runV (As := [.int (((v.1 + (v.2.1 &&& (v.2.2.2 ^^^ (-1)))) + (v.2.2.1 &&& v.2.2.2)) + (K (4 * (0 + n)))), .int 1]) (rest := []) ⟨hx, hb, hml, hown, hts⟩ (met_rot l e0 (((v.1 + (v.2.1 &&& (v.2.2.2 ^^^ (-1)))) + (v.2.2.1 &&& v.2.2.2)) + (K (4 * (0 + n)))) 1) (cwV 2 hts (lw_V q229 q231 qs4 q8 q232) rfl rfl rfl (by decide +kernel) ⟨hR1, hR2⟩) ⟨fun _ _ _ _ q => q, va_recv hK hP (ci := 1) (q0 := 0) rfl rfl, fun _ _ _ => rfl⟩ rfl rfl hl.1 rfl (lv_room (Nat.le_of_ble_eq_true rfl)) dX2_encryptBlock_134 ⟨hc, hs⟩) (fun r hr => ?_)
      obtain rfl : r = rc_ma K (4 * (0 + n)) v := hr
      refine lv_istore (lv' := [(8, .int (rc_ma K (4 * (0 + n)) v)), (9, .int (nI (4 * (0 + n)))), (5, .int v.2.2.2), (6, .int v.2.2.1), (7, .int v.2.1), (0, .ref e0), (1, .ref b0), (2, .int 0), (3, .ref o0), (4, .int 0)]) hx hb dX2_encryptBlock_137 hl (by decide) rfl (fun ls hl => ?_)
      refine lv_aload_n hx hb dX2_encryptBlock_139 rfl (lv_at hl 5 rfl) ?_
      refine lv_iload hx hb dX2_encryptBlock_140 (lv_at hl 4 rfl) ?_
      refine lv_iload hx hb dX2_encryptBlock_142 (lv_at hl 3 rfl) ?_
      refine lv_iload hx hb dX2_encryptBlock_144 (lv_at hl 0 rfl) ?_
      refine lv_iconst (v := (-1)) hx hb dX2_encryptBlock_146 (by decide) ?_
      refine lv_ixor hx hb dX2_encryptBlock_147 ?_
      refine lv_iand hx hb dX2_encryptBlock_148 ?_
      refine lv_iadd hx hb dX2_encryptBlock_149 ?_
      refine lv_iload hx hb dX2_encryptBlock_150 (lv_at hl 2 rfl) ?_
      refine lv_iload hx hb dX2_encryptBlock_152 (lv_at hl 0 rfl) ?_
      refine lv_iand hx hb dX2_encryptBlock_154 ?_
      refine lv_iadd hx hb dX2_encryptBlock_155 ?_
      refine lv_aload_n hx hb dX2_encryptBlock_156 rfl (lv_at hl 5 rfl) ?_
      refine va_get (D := D) (ci := 1) (v := .ref w0) (C := RX2) (T := TX2) (N := 2) hx hb hts in_X2 hown hK hP 0 rfl rfl 0 (by decide) (hts _ q39) (fun _ h9 => h9) rfl dX2_encryptBlock_157 ?_
      refine lv_iload hx hb dX2_encryptBlock_160 (lv_at hl 1 rfl) ?_
      refine lv_iconst (v := 1) hx hb dX2_encryptBlock_162 (by decide) ?_
      refine lv_iadd hx hb dX2_encryptBlock_163 ?_
      refine rc_iald hx hb hK hP 1 1 rfl rfl (4 * (0 + n) + 1) (nI_add _ 1) (by omega) (by decide) dX2_encryptBlock_164 ?_
      refine lv_iadd hx hb dX2_encryptBlock_165 ?_
      refine lv_iconst (v := 2) hx hb dX2_encryptBlock_166 (by decide) ?_
      refine vp_callSi (W.runV (As := [.int (((v.2.1 + (v.2.2.1 &&& ((rc_ma K (4 * (0 + n)) v) ^^^ (-1)))) + (v.2.2.2 &&& (rc_ma K (4 * (0 + n)) v))) + (K (4 * (0 + n) + 1))), .int 2]) (rest := []) ⟨hx, hb, hml, hown, hts⟩ (met_rot l e0 (((v.2.1 + (v.2.2.1 &&& ((rc_ma K (4 * (0 + n)) v) ^^^ (-1)))) + (v.2.2.2 &&& (rc_ma K (4 * (0 + n)) v))) + (K (4 * (0 + n) + 1))) 2) (cwV 2 hts (lw_V q229 q231 qs4 q8 q232) rfl rfl rfl (by decide +kernel) ⟨hR1, hR2⟩) ⟨fun _ _ _ _ q => q, va_recv hK hP (ci := 1) (q0 := 0) rfl rfl, fun _ _ _ => rfl⟩ rfl rfl hl.1 rfl (lv_room (Nat.le_of_ble_eq_true rfl)) dX2_encryptBlock_167 ⟨hc, hs⟩) (fun r hr => ?_)
      obtain rfl : r = rc_mb K (4 * (0 + n)) v := hr
      refine lv_istore (lv' := [(7, .int (rc_mb K (4 * (0 + n)) v)), (8, .int (rc_ma K (4 * (0 + n)) v)), (9, .int (nI (4 * (0 + n)))), (5, .int v.2.2.2), (6, .int v.2.2.1), (0, .ref e0), (1, .ref b0), (2, .int 0), (3, .ref o0), (4, .int 0)]) hx hb dX2_encryptBlock_170 hl (by decide) rfl (fun ls hl => ?_)
      refine lv_aload_n hx hb dX2_encryptBlock_172 rfl (lv_at hl 5 rfl) ?_
      refine lv_iload hx hb dX2_encryptBlock_173 (lv_at hl 4 rfl) ?_
      refine lv_iload hx hb dX2_encryptBlock_175 (lv_at hl 3 rfl) ?_
      refine lv_iload hx hb dX2_encryptBlock_177 (lv_at hl 0 rfl) ?_
      refine lv_iconst (v := (-1)) hx hb dX2_encryptBlock_179 (by decide) ?_
      refine lv_ixor hx hb dX2_encryptBlock_180 ?_
      refine lv_iand hx hb dX2_encryptBlock_181 ?_
      refine lv_iadd hx hb dX2_encryptBlock_182 ?_
      refine lv_iload hx hb dX2_encryptBlock_183 (lv_at hl 1 rfl) ?_
      refine lv_iload hx hb dX2_encryptBlock_185 (lv_at hl 0 rfl) ?_
      refine lv_iand hx hb dX2_encryptBlock_187 ?_
      refine lv_iadd hx hb dX2_encryptBlock_188 ?_
      refine lv_aload_n hx hb dX2_encryptBlock_189 rfl (lv_at hl 5 rfl) ?_
      refine va_get (D := D) (ci := 1) (v := .ref w0) (C := RX2) (T := TX2) (N := 2) hx hb hts in_X2 hown hK hP 0 rfl rfl 0 (by decide) (hts _ q39) (fun _ h9 => h9) rfl dX2_encryptBlock_190 ?_
      refine lv_iload hx hb dX2_encryptBlock_193 (lv_at hl 2 rfl) ?_
      refine lv_iconst (v := 2) hx hb dX2_encryptBlock_195 (by decide) ?_
      refine lv_iadd hx hb dX2_encryptBlock_196 ?_
      refine rc_iald hx hb hK hP 1 1 rfl rfl (4 * (0 + n) + 2) (nI_add _ 2) (by omega) (by decide) dX2_encryptBlock_197 ?_
      refine lv_iadd hx hb dX2_encryptBlock_198 ?_
      refine lv_iconst (v := 3) hx hb dX2_encryptBlock_199 (by decide) ?_
      refine vp_callSi (W.runV (As := [.int (((v.2.2.1 + (v.2.2.2 &&& ((rc_mb K (4 * (0 + n)) v) ^^^ (-1)))) + ((rc_ma K (4 * (0 + n)) v) &&& (rc_mb K (4 * (0 + n)) v))) + (K (4 * (0 + n) + 2))), .int 3]) (rest := []) ⟨hx, hb, hml, hown, hts⟩ (met_rot l e0 (((v.2.2.1 + (v.2.2.2 &&& ((rc_mb K (4 * (0 + n)) v) ^^^ (-1)))) + ((rc_ma K (4 * (0 + n)) v) &&& (rc_mb K (4 * (0 + n)) v))) + (K (4 * (0 + n) + 2))) 3) (cwV 2 hts (lw_V q229 q231 qs4 q8 q232) rfl rfl rfl (by decide +kernel) ⟨hR1, hR2⟩) ⟨fun _ _ _ _ q => q, va_recv hK hP (ci := 1) (q0 := 0) rfl rfl, fun _ _ _ => rfl⟩ rfl rfl hl.1 rfl (lv_room (Nat.le_of_ble_eq_true rfl)) dX2_encryptBlock_200 ⟨hc, hs⟩) (fun r hr => ?_)
      obtain rfl : r = rc_mc K (4 * (0 + n)) v := hr
      refine lv_istore (lv' := [(6, .int (rc_mc K (4 * (0 + n)) v)), (7, .int (rc_mb K (4 * (0 + n)) v)), (8, .int (rc_ma K (4 * (0 + n)) v)), (9, .int (nI (4 * (0 + n)))), (5, .int v.2.2.2), (0, .ref e0), (1, .ref b0), (2, .int 0), (3, .ref o0), (4, .int 0)]) hx hb dX2_encryptBlock_203 hl (by decide) rfl (fun ls hl => ?_)
      refine lv_aload_n hx hb dX2_encryptBlock_205 rfl (lv_at hl 5 rfl) ?_
      refine lv_iload hx hb dX2_encryptBlock_206 (lv_at hl 4 rfl) ?_
      refine lv_iload hx hb dX2_encryptBlock_208 (lv_at hl 2 rfl) ?_
      refine lv_iload hx hb dX2_encryptBlock_210 (lv_at hl 0 rfl) ?_
      refine lv_iconst (v := (-1)) hx hb dX2_encryptBlock_212 (by decide) ?_
      refine lv_ixor hx hb dX2_encryptBlock_213 ?_
      refine lv_iand hx hb dX2_encryptBlock_214 ?_
      refine lv_iadd hx hb dX2_encryptBlock_215 ?_
      refine lv_iload hx hb dX2_encryptBlock_216 (lv_at hl 1 rfl) ?_
      refine lv_iload hx hb dX2_encryptBlock_218 (lv_at hl 0 rfl) ?_
      refine lv_iand hx hb dX2_encryptBlock_220 ?_
      refine lv_iadd hx hb dX2_encryptBlock_221 ?_
      refine lv_aload_n hx hb dX2_encryptBlock_222 rfl (lv_at hl 5 rfl) ?_
      refine va_get (D := D) (ci := 1) (v := .ref w0) (C := RX2) (T := TX2) (N := 2) hx hb hts in_X2 hown hK hP 0 rfl rfl 0 (by decide) (hts _ q39) (fun _ h9 => h9) rfl dX2_encryptBlock_223 ?_
      refine lv_iload hx hb dX2_encryptBlock_226 (lv_at hl 3 rfl) ?_
      refine lv_iconst (v := 3) hx hb dX2_encryptBlock_228 (by decide) ?_
      refine lv_iadd hx hb dX2_encryptBlock_229 ?_
      refine rc_iald hx hb hK hP 1 1 rfl rfl (4 * (0 + n) + 3) (nI_add _ 3) (by omega) (by decide) dX2_encryptBlock_230 ?_
      refine lv_iadd hx hb dX2_encryptBlock_231 ?_
      refine lv_iconst (v := 5) hx hb dX2_encryptBlock_232 (by decide) ?_
      refine vp_callSi (W.runV (As := [.int (((v.2.2.2 + ((rc_ma K (4 * (0 + n)) v) &&& ((rc_mc K (4 * (0 + n)) v) ^^^ (-1)))) + ((rc_mb K (4 * (0 + n)) v) &&& (rc_mc K (4 * (0 + n)) v))) + (K (4 * (0 + n) + 3))), .int 5]) (rest := []) ⟨hx, hb, hml, hown, hts⟩ (met_rot l e0 (((v.2.2.2 + ((rc_ma K (4 * (0 + n)) v) &&& ((rc_mc K (4 * (0 + n)) v) ^^^ (-1)))) + ((rc_mb K (4 * (0 + n)) v) &&& (rc_mc K (4 * (0 + n)) v))) + (K (4 * (0 + n) + 3))) 5) (cwV 2 hts (lw_V q229 q231 qs4 q8 q232) rfl rfl rfl (by decide +kernel) ⟨hR1, hR2⟩) ⟨fun _ _ _ _ q => q, va_recv hK hP (ci := 1) (q0 := 0) rfl rfl, fun _ _ _ => rfl⟩ rfl rfl hl.1 rfl (lv_room (Nat.le_of_ble_eq_true rfl)) dX2_encryptBlock_233 ⟨hc, hs⟩) (fun r hr => ?_)
      obtain rfl : r = rc_md K (4 * (0 + n)) v := hr
      refine lv_istore (lv' := [(5, .int (rc_md K (4 * (0 + n)) v)), (6, .int (rc_mc K (4 * (0 + n)) v)), (7, .int (rc_mb K (4 * (0 + n)) v)), (8, .int (rc_ma K (4 * (0 + n)) v)), (9, .int (nI (4 * (0 + n)))), (0, .ref e0), (1, .ref b0), (2, .int 0), (3, .ref o0), (4, .int 0)]) hx hb dX2_encryptBlock_236 hl (by decide) rfl (fun ls hl => ?_)
      refine lv_iinc (v := (nI (4 * (0 + (n + 1))))) (lv' := [(9, .int (nI (4 * (0 + (n + 1))))), (5, .int (rc_md K (4 * (0 + n)) v)), (6, .int (rc_mc K (4 * (0 + n)) v)), (7, .int (rc_mb K (4 * (0 + n)) v)), (8, .int (rc_ma K (4 * (0 + n)) v)), (0, .ref e0), (1, .ref b0), (2, .int 0), (3, .ref o0), (4, .int 0)]) hx hb dX2_encryptBlock_238 hl (k := 4) rfl (rc_nI4 (0 + n)) (by decide) rfl (fun ls hl => ?_)
      refine lv_goto (tgt := 101) hx hb dX2_encryptBlock_241 (by decide) ?_
      subst hv
      exact ih (n + 1) (by omega) ls (lv_sub hl [0, 1, 2, 3, 4, 5, 6, 7, 8, 9] rfl)
set_option maxHeartbeats 4000000 in
set_option maxRecDepth 100000 in
theorem enc_loop2 {p : Program} {l : Launch} {e : Env} {R : Room} {s : State} {m : MethodId} {args : Array Value} {below : List Frame} {meth : Method} {c : Code} {cells slots : Nat} {Q : State → Prop} {D : va_G} {cb ci : ClassId} {e0 w0 b0 o0 : Nat} {lk : Int32} {K fb fo : Nat → Int32} {H : Heap} {locs : List Loc} (hx : p.tables.exec = Jvm.exec) (hb : c.code = cX2_encryptBlock) (hml : c.maxLocals = 10) (hown : s.vm.findClass RX2 = some m.cls) (hts : ∀ w ∈ lw_all, w.before args s = true) (hK : va_K D vwCl (rc_ty cb ci) s) (hR1 : 1 ≤ R.frames) (hR2 : 22 ≤ R.locals) (hc : cells ≤ R.cells) (hs : slots ≤ R.slots) (hP : va_P D vwCl [(e0, .inr (1, [.ref w0, .int lk])), (w0, .inl (ci, 64, .inl K)), (b0, .inl (cb, 8, .inl fb)), (o0, .inl (cb, 8, .inl fo))] H) (v0 : rc_V)
    (kk : ∀ ls : Array Slot, lv_has ls 10 [(9, .int (nI 44)), (5, .int ((rc_mixN K 5 v0 6).2.2.2)), (6, .int ((rc_mixN K 5 v0 6).2.2.1)), (7, .int ((rc_mixN K 5 v0 6).2.1)), (8, .int ((rc_mixN K 5 v0 6).1)), (0, .ref e0), (1, .ref b0), (2, .int 0), (3, .ref o0), (4, .int 0)] → W p l e R s m args below meth c H locs cells slots Q (F0 m 451 ls [])) :
    ∀ (k n : Nat), n + k = 6 → ∀ ls : Array Slot, lv_has ls 10 [(9, .int (nI (4 * (5 + n)))), (5, .int ((rc_mixN K 5 v0 n).2.2.2)), (6, .int ((rc_mixN K 5 v0 n).2.2.1)), (7, .int ((rc_mixN K 5 v0 n).2.1)), (8, .int ((rc_mixN K 5 v0 n).1)), (0, .ref e0), (1, .ref b0), (2, .int 0), (3, .ref o0), (4, .int 0)] → W p l e R s m args below meth c H locs cells slots Q (F0 m 308 ls []) := by
  intro k
  induction k with
  | zero =>
    intro n hn ls hl
    obtain rfl : n = 6 := hn
    refine lv_iload hx hb dX2_encryptBlock_308 (lv_at hl 0 rfl) ?_
    refine lv_bipush (v := 40) hx hb dX2_encryptBlock_310 (by decide) ?_
    refine lv_icmp_gt (tgt := 451) hx hb dX2_encryptBlock_312 (by decide) (fun c1 => ?_) (fun c1 => ?_)
    · exact kk ls hl
    · exact absurd (by decide) c1
  | succ k ih =>
    intro n hn ls hl
    generalize hv : rc_mixN K 5 v0 n = v at hl
    refine lv_iload hx hb dX2_encryptBlock_308 (lv_at hl 0 rfl) ?_
    refine lv_bipush (v := 40) hx hb dX2_encryptBlock_310 (by decide) ?_
    refine lv_icmp_gt (tgt := 451) hx hb dX2_encryptBlock_312 (by decide) (fun c1 => ?_) (fun c1 => ?_)
    · exact absurd c1 (nI_nlt (a := 40) (b := 4 * (5 + n)) (by omega) (by omega))
    · skip
      refine lv_aload_n hx hb dX2_encryptBlock_315 rfl (lv_at hl 5 rfl) ?_
      refine lv_iload hx hb dX2_encryptBlock_316 (lv_at hl 4 rfl) ?_
      refine lv_iload hx hb dX2_encryptBlock_318 (lv_at hl 3 rfl) ?_
      refine lv_iload hx hb dX2_encryptBlock_320 (lv_at hl 1 rfl) ?_
      refine lv_iconst (v := (-1)) hx hb dX2_encryptBlock_322 (by decide) ?_
      refine lv_ixor hx hb dX2_encryptBlock_323 ?_
      refine lv_iand hx hb dX2_encryptBlock_324 ?_
      refine lv_iadd hx hb dX2_encryptBlock_325 ?_
      refine lv_iload hx hb dX2_encryptBlock_326 (lv_at hl 2 rfl) ?_
      refine lv_iload hx hb dX2_encryptBlock_328 (lv_at hl 1 rfl) ?_
      refine lv_iand hx hb dX2_encryptBlock_330 ?_
      refine lv_iadd hx hb dX2_encryptBlock_331 ?_
      refine lv_aload_n hx hb dX2_encryptBlock_332 rfl (lv_at hl 5 rfl) ?_
      refine va_get (D := D) (ci := 1) (v := .ref w0) (C := RX2) (T := TX2) (N := 2) hx hb hts in_X2 hown hK hP 0 rfl rfl 0 (by decide) (hts _ q39) (fun _ h9 => h9) rfl dX2_encryptBlock_333 ?_
      refine lv_iload hx hb dX2_encryptBlock_336 (lv_at hl 0 rfl) ?_
      refine rc_iald hx hb hK hP 1 1 rfl rfl (4 * (5 + n)) rfl (by omega) (by decide) dX2_encryptBlock_338 ?_
      refine lv_iadd hx hb dX2_encryptBlock_339 ?_
      refine lv_iconst (v := 1) hx hb dX2_encryptBlock_340 (by decide) ?_
      refine vp_callSi (W.runV (As := [.int (((v.1 + (v.2.1 &&& (v.2.2.2 ^^^ (-1)))) + (v.2.2.1 &&& v.2.2.2)) + (K (4 * (5 + n)))), .int 1]) (rest := []) ⟨hx, hb, hml, hown, hts⟩ (met_rot l e0 (((v.1 + (v.2.1 &&& (v.2.2.2 ^^^ (-1)))) + (v.2.2.1 &&& v.2.2.2)) + (K (4 * (5 + n)))) 1) (cwV 2 hts (lw_V q229 q231 qs4 q8 q232) rfl rfl rfl (by decide +kernel) ⟨hR1, hR2⟩) ⟨fun _ _ _ _ q => q, va_recv hK hP (ci := 1) (q0 := 0) rfl rfl, fun _ _ _ => rfl⟩ rfl rfl hl.1 rfl (lv_room (Nat.le_of_ble_eq_true rfl)) dX2_encryptBlock_341 ⟨hc, hs⟩) (fun r hr => ?_)
      obtain rfl : r = rc_ma K (4 * (5 + n)) v := hr
      refine lv_istore (lv' := [(8, .int (rc_ma K (4 * (5 + n)) v)), (9, .int (nI (4 * (5 + n)))), (5, .int v.2.2.2), (6, .int v.2.2.1), (7, .int v.2.1), (0, .ref e0), (1, .ref b0), (2, .int 0), (3, .ref o0), (4, .int 0)]) hx hb dX2_encryptBlock_344 hl (by decide) rfl (fun ls hl => ?_)
      refine lv_aload_n hx hb dX2_encryptBlock_346 rfl (lv_at hl 5 rfl) ?_
      refine lv_iload hx hb dX2_encryptBlock_347 (lv_at hl 4 rfl) ?_
      refine lv_iload hx hb dX2_encryptBlock_349 (lv_at hl 3 rfl) ?_
      refine lv_iload hx hb dX2_encryptBlock_351 (lv_at hl 0 rfl) ?_
      refine lv_iconst (v := (-1)) hx hb dX2_encryptBlock_353 (by decide) ?_
      refine lv_ixor hx hb dX2_encryptBlock_354 ?_
      refine lv_iand hx hb dX2_encryptBlock_355 ?_
      refine lv_iadd hx hb dX2_encryptBlock_356 ?_
      refine lv_iload hx hb dX2_encryptBlock_357 (lv_at hl 2 rfl) ?_
      refine lv_iload hx hb dX2_encryptBlock_359 (lv_at hl 0 rfl) ?_
      refine lv_iand hx hb dX2_encryptBlock_361 ?_
      refine lv_iadd hx hb dX2_encryptBlock_362 ?_
      refine lv_aload_n hx hb dX2_encryptBlock_363 rfl (lv_at hl 5 rfl) ?_
      refine va_get (D := D) (ci := 1) (v := .ref w0) (C := RX2) (T := TX2) (N := 2) hx hb hts in_X2 hown hK hP 0 rfl rfl 0 (by decide) (hts _ q39) (fun _ h9 => h9) rfl dX2_encryptBlock_364 ?_
      refine lv_iload hx hb dX2_encryptBlock_367 (lv_at hl 1 rfl) ?_
      refine lv_iconst (v := 1) hx hb dX2_encryptBlock_369 (by decide) ?_
      refine lv_iadd hx hb dX2_encryptBlock_370 ?_
      refine rc_iald hx hb hK hP 1 1 rfl rfl (4 * (5 + n) + 1) (nI_add _ 1) (by omega) (by decide) dX2_encryptBlock_371 ?_
      refine lv_iadd hx hb dX2_encryptBlock_372 ?_
      refine lv_iconst (v := 2) hx hb dX2_encryptBlock_373 (by decide) ?_
      refine vp_callSi (W.runV (As := [.int (((v.2.1 + (v.2.2.1 &&& ((rc_ma K (4 * (5 + n)) v) ^^^ (-1)))) + (v.2.2.2 &&& (rc_ma K (4 * (5 + n)) v))) + (K (4 * (5 + n) + 1))), .int 2]) (rest := []) ⟨hx, hb, hml, hown, hts⟩ (met_rot l e0 (((v.2.1 + (v.2.2.1 &&& ((rc_ma K (4 * (5 + n)) v) ^^^ (-1)))) + (v.2.2.2 &&& (rc_ma K (4 * (5 + n)) v))) + (K (4 * (5 + n) + 1))) 2) (cwV 2 hts (lw_V q229 q231 qs4 q8 q232) rfl rfl rfl (by decide +kernel) ⟨hR1, hR2⟩) ⟨fun _ _ _ _ q => q, va_recv hK hP (ci := 1) (q0 := 0) rfl rfl, fun _ _ _ => rfl⟩ rfl rfl hl.1 rfl (lv_room (Nat.le_of_ble_eq_true rfl)) dX2_encryptBlock_374 ⟨hc, hs⟩) (fun r hr => ?_)
      obtain rfl : r = rc_mb K (4 * (5 + n)) v := hr
      refine lv_istore (lv' := [(7, .int (rc_mb K (4 * (5 + n)) v)), (8, .int (rc_ma K (4 * (5 + n)) v)), (9, .int (nI (4 * (5 + n)))), (5, .int v.2.2.2), (6, .int v.2.2.1), (0, .ref e0), (1, .ref b0), (2, .int 0), (3, .ref o0), (4, .int 0)]) hx hb dX2_encryptBlock_377 hl (by decide) rfl (fun ls hl => ?_)
      refine lv_aload_n hx hb dX2_encryptBlock_379 rfl (lv_at hl 5 rfl) ?_
      refine lv_iload hx hb dX2_encryptBlock_380 (lv_at hl 4 rfl) ?_
      refine lv_iload hx hb dX2_encryptBlock_382 (lv_at hl 3 rfl) ?_
      refine lv_iload hx hb dX2_encryptBlock_384 (lv_at hl 0 rfl) ?_
      refine lv_iconst (v := (-1)) hx hb dX2_encryptBlock_386 (by decide) ?_
      refine lv_ixor hx hb dX2_encryptBlock_387 ?_
      refine lv_iand hx hb dX2_encryptBlock_388 ?_
      refine lv_iadd hx hb dX2_encryptBlock_389 ?_
      refine lv_iload hx hb dX2_encryptBlock_390 (lv_at hl 1 rfl) ?_
      refine lv_iload hx hb dX2_encryptBlock_392 (lv_at hl 0 rfl) ?_
      refine lv_iand hx hb dX2_encryptBlock_394 ?_
      refine lv_iadd hx hb dX2_encryptBlock_395 ?_
      refine lv_aload_n hx hb dX2_encryptBlock_396 rfl (lv_at hl 5 rfl) ?_
      refine va_get (D := D) (ci := 1) (v := .ref w0) (C := RX2) (T := TX2) (N := 2) hx hb hts in_X2 hown hK hP 0 rfl rfl 0 (by decide) (hts _ q39) (fun _ h9 => h9) rfl dX2_encryptBlock_397 ?_
      refine lv_iload hx hb dX2_encryptBlock_400 (lv_at hl 2 rfl) ?_
      refine lv_iconst (v := 2) hx hb dX2_encryptBlock_402 (by decide) ?_
      refine lv_iadd hx hb dX2_encryptBlock_403 ?_
      refine rc_iald hx hb hK hP 1 1 rfl rfl (4 * (5 + n) + 2) (nI_add _ 2) (by omega) (by decide) dX2_encryptBlock_404 ?_
      refine lv_iadd hx hb dX2_encryptBlock_405 ?_
      refine lv_iconst (v := 3) hx hb dX2_encryptBlock_406 (by decide) ?_
      refine vp_callSi (W.runV (As := [.int (((v.2.2.1 + (v.2.2.2 &&& ((rc_mb K (4 * (5 + n)) v) ^^^ (-1)))) + ((rc_ma K (4 * (5 + n)) v) &&& (rc_mb K (4 * (5 + n)) v))) + (K (4 * (5 + n) + 2))), .int 3]) (rest := []) ⟨hx, hb, hml, hown, hts⟩ (met_rot l e0 (((v.2.2.1 + (v.2.2.2 &&& ((rc_mb K (4 * (5 + n)) v) ^^^ (-1)))) + ((rc_ma K (4 * (5 + n)) v) &&& (rc_mb K (4 * (5 + n)) v))) + (K (4 * (5 + n) + 2))) 3) (cwV 2 hts (lw_V q229 q231 qs4 q8 q232) rfl rfl rfl (by decide +kernel) ⟨hR1, hR2⟩) ⟨fun _ _ _ _ q => q, va_recv hK hP (ci := 1) (q0 := 0) rfl rfl, fun _ _ _ => rfl⟩ rfl rfl hl.1 rfl (lv_room (Nat.le_of_ble_eq_true rfl)) dX2_encryptBlock_407 ⟨hc, hs⟩) (fun r hr => ?_)
      obtain rfl : r = rc_mc K (4 * (5 + n)) v := hr
      refine lv_istore (lv' := [(6, .int (rc_mc K (4 * (5 + n)) v)), (7, .int (rc_mb K (4 * (5 + n)) v)), (8, .int (rc_ma K (4 * (5 + n)) v)), (9, .int (nI (4 * (5 + n)))), (5, .int v.2.2.2), (0, .ref e0), (1, .ref b0), (2, .int 0), (3, .ref o0), (4, .int 0)]) hx hb dX2_encryptBlock_410 hl (by decide) rfl (fun ls hl => ?_)
      refine lv_aload_n hx hb dX2_encryptBlock_412 rfl (lv_at hl 5 rfl) ?_
      refine lv_iload hx hb dX2_encryptBlock_413 (lv_at hl 4 rfl) ?_
      refine lv_iload hx hb dX2_encryptBlock_415 (lv_at hl 2 rfl) ?_
      refine lv_iload hx hb dX2_encryptBlock_417 (lv_at hl 0 rfl) ?_
      refine lv_iconst (v := (-1)) hx hb dX2_encryptBlock_419 (by decide) ?_
      refine lv_ixor hx hb dX2_encryptBlock_420 ?_
      refine lv_iand hx hb dX2_encryptBlock_421 ?_
      refine lv_iadd hx hb dX2_encryptBlock_422 ?_
      refine lv_iload hx hb dX2_encryptBlock_423 (lv_at hl 1 rfl) ?_
      refine lv_iload hx hb dX2_encryptBlock_425 (lv_at hl 0 rfl) ?_
      refine lv_iand hx hb dX2_encryptBlock_427 ?_
      refine lv_iadd hx hb dX2_encryptBlock_428 ?_
      refine lv_aload_n hx hb dX2_encryptBlock_429 rfl (lv_at hl 5 rfl) ?_
      refine va_get (D := D) (ci := 1) (v := .ref w0) (C := RX2) (T := TX2) (N := 2) hx hb hts in_X2 hown hK hP 0 rfl rfl 0 (by decide) (hts _ q39) (fun _ h9 => h9) rfl dX2_encryptBlock_430 ?_
      refine lv_iload hx hb dX2_encryptBlock_433 (lv_at hl 3 rfl) ?_
      refine lv_iconst (v := 3) hx hb dX2_encryptBlock_435 (by decide) ?_
      refine lv_iadd hx hb dX2_encryptBlock_436 ?_
      refine rc_iald hx hb hK hP 1 1 rfl rfl (4 * (5 + n) + 3) (nI_add _ 3) (by omega) (by decide) dX2_encryptBlock_437 ?_
      refine lv_iadd hx hb dX2_encryptBlock_438 ?_
      refine lv_iconst (v := 5) hx hb dX2_encryptBlock_439 (by decide) ?_
      refine vp_callSi (W.runV (As := [.int (((v.2.2.2 + ((rc_ma K (4 * (5 + n)) v) &&& ((rc_mc K (4 * (5 + n)) v) ^^^ (-1)))) + ((rc_mb K (4 * (5 + n)) v) &&& (rc_mc K (4 * (5 + n)) v))) + (K (4 * (5 + n) + 3))), .int 5]) (rest := []) ⟨hx, hb, hml, hown, hts⟩ (met_rot l e0 (((v.2.2.2 + ((rc_ma K (4 * (5 + n)) v) &&& ((rc_mc K (4 * (5 + n)) v) ^^^ (-1)))) + ((rc_mb K (4 * (5 + n)) v) &&& (rc_mc K (4 * (5 + n)) v))) + (K (4 * (5 + n) + 3))) 5) (cwV 2 hts (lw_V q229 q231 qs4 q8 q232) rfl rfl rfl (by decide +kernel) ⟨hR1, hR2⟩) ⟨fun _ _ _ _ q => q, va_recv hK hP (ci := 1) (q0 := 0) rfl rfl, fun _ _ _ => rfl⟩ rfl rfl hl.1 rfl (lv_room (Nat.le_of_ble_eq_true rfl)) dX2_encryptBlock_440 ⟨hc, hs⟩) (fun r hr => ?_)
      obtain rfl : r = rc_md K (4 * (5 + n)) v := hr
      refine lv_istore (lv' := [(5, .int (rc_md K (4 * (5 + n)) v)), (6, .int (rc_mc K (4 * (5 + n)) v)), (7, .int (rc_mb K (4 * (5 + n)) v)), (8, .int (rc_ma K (4 * (5 + n)) v)), (9, .int (nI (4 * (5 + n)))), (0, .ref e0), (1, .ref b0), (2, .int 0), (3, .ref o0), (4, .int 0)]) hx hb dX2_encryptBlock_443 hl (by decide) rfl (fun ls hl => ?_)
      refine lv_iinc (v := (nI (4 * (5 + (n + 1))))) (lv' := [(9, .int (nI (4 * (5 + (n + 1))))), (5, .int (rc_md K (4 * (5 + n)) v)), (6, .int (rc_mc K (4 * (5 + n)) v)), (7, .int (rc_mb K (4 * (5 + n)) v)), (8, .int (rc_ma K (4 * (5 + n)) v)), (0, .ref e0), (1, .ref b0), (2, .int 0), (3, .ref o0), (4, .int 0)]) hx hb dX2_encryptBlock_445 hl (k := 4) rfl (rc_nI4 (5 + n)) (by decide) rfl (fun ls hl => ?_)
      refine lv_goto (tgt := 308) hx hb dX2_encryptBlock_448 (by decide) ?_
      subst hv
      exact ih (n + 1) (by omega) ls (lv_sub hl [0, 1, 2, 3, 4, 5, 6, 7, 8, 9] rfl)
set_option maxHeartbeats 4000000 in
set_option maxRecDepth 100000 in
theorem enc_loop3 {p : Program} {l : Launch} {e : Env} {R : Room} {s : State} {m : MethodId} {args : Array Value} {below : List Frame} {meth : Method} {c : Code} {cells slots : Nat} {Q : State → Prop} {D : va_G} {cb ci : ClassId} {e0 w0 b0 o0 : Nat} {lk : Int32} {K fb fo : Nat → Int32} {H : Heap} {locs : List Loc} (hx : p.tables.exec = Jvm.exec) (hb : c.code = cX2_encryptBlock) (hml : c.maxLocals = 10) (hown : s.vm.findClass RX2 = some m.cls) (hts : ∀ w ∈ lw_all, w.before args s = true) (hK : va_K D vwCl (rc_ty cb ci) s) (hR1 : 1 ≤ R.frames) (hR2 : 22 ≤ R.locals) (hc : cells ≤ R.cells) (hs : slots ≤ R.slots) (hP : va_P D vwCl [(e0, .inr (1, [.ref w0, .int lk])), (w0, .inl (ci, 64, .inl K)), (b0, .inl (cb, 8, .inl fb)), (o0, .inl (cb, 8, .inl fo))] H) (v0 : rc_V)
    (kk : ∀ ls : Array Slot, lv_has ls 10 [(9, .int (nI 64)), (5, .int ((rc_mixN K 11 v0 5).2.2.2)), (6, .int ((rc_mixN K 11 v0 5).2.2.1)), (7, .int ((rc_mixN K 11 v0 5).2.1)), (8, .int ((rc_mixN K 11 v0 5).1)), (0, .ref e0), (1, .ref b0), (2, .int 0), (3, .ref o0), (4, .int 0)] → W p l e R s m args below meth c H locs cells slots Q (F0 m 658 ls [])) :
    ∀ (k n : Nat), n + k = 5 → ∀ ls : Array Slot, lv_has ls 10 [(9, .int (nI (4 * (11 + n)))), (5, .int ((rc_mixN K 11 v0 n).2.2.2)), (6, .int ((rc_mixN K 11 v0 n).2.2.1)), (7, .int ((rc_mixN K 11 v0 n).2.1)), (8, .int ((rc_mixN K 11 v0 n).1)), (0, .ref e0), (1, .ref b0), (2, .int 0), (3, .ref o0), (4, .int 0)] → W p l e R s m args below meth c H locs cells slots Q (F0 m 515 ls []) := by
  intro k
  induction k with
  | zero =>
    intro n hn ls hl
    obtain rfl : n = 5 := hn
    refine lv_iload hx hb dX2_encryptBlock_515 (lv_at hl 0 rfl) ?_
    refine lv_bipush (v := 64) hx hb dX2_encryptBlock_517 (by decide) ?_
    refine lv_icmp_ge (tgt := 658) hx hb dX2_encryptBlock_519 (by decide) (fun c1 => ?_) (fun c1 => ?_)
    · exact kk ls hl
    · exact absurd (by decide) c1
  | succ k ih =>
    intro n hn ls hl
    generalize hv : rc_mixN K 11 v0 n = v at hl
    refine lv_iload hx hb dX2_encryptBlock_515 (lv_at hl 0 rfl) ?_
    refine lv_bipush (v := 64) hx hb dX2_encryptBlock_517 (by decide) ?_
    refine lv_icmp_ge (tgt := 658) hx hb dX2_encryptBlock_519 (by decide) (fun c1 => ?_) (fun c1 => ?_)
    · exact absurd c1 (nI_ge (a := 4 * (11 + n)) (b := 64) (by omega) (by omega))
    · skip
      refine lv_aload_n hx hb dX2_encryptBlock_522 rfl (lv_at hl 5 rfl) ?_
      refine lv_iload hx hb dX2_encryptBlock_523 (lv_at hl 4 rfl) ?_
      refine lv_iload hx hb dX2_encryptBlock_525 (lv_at hl 3 rfl) ?_
      refine lv_iload hx hb dX2_encryptBlock_527 (lv_at hl 1 rfl) ?_
      refine lv_iconst (v := (-1)) hx hb dX2_encryptBlock_529 (by decide) ?_
      refine lv_ixor hx hb dX2_encryptBlock_530 ?_
      refine lv_iand hx hb dX2_encryptBlock_531 ?_
      refine lv_iadd hx hb dX2_encryptBlock_532 ?_
      refine lv_iload hx hb dX2_encryptBlock_533 (lv_at hl 2 rfl) ?_
      refine lv_iload hx hb dX2_encryptBlock_535 (lv_at hl 1 rfl) ?_
      refine lv_iand hx hb dX2_encryptBlock_537 ?_
      refine lv_iadd hx hb dX2_encryptBlock_538 ?_
      refine lv_aload_n hx hb dX2_encryptBlock_539 rfl (lv_at hl 5 rfl) ?_
      refine va_get (D := D) (ci := 1) (v := .ref w0) (C := RX2) (T := TX2) (N := 2) hx hb hts in_X2 hown hK hP 0 rfl rfl 0 (by decide) (hts _ q39) (fun _ h9 => h9) rfl dX2_encryptBlock_540 ?_
      refine lv_iload hx hb dX2_encryptBlock_543 (lv_at hl 0 rfl) ?_
      refine rc_iald hx hb hK hP 1 1 rfl rfl (4 * (11 + n)) rfl (by omega) (by decide) dX2_encryptBlock_545 ?_
      refine lv_iadd hx hb dX2_encryptBlock_546 ?_
      refine lv_iconst (v := 1) hx hb dX2_encryptBlock_547 (by decide) ?_
      refine vp_callSi (W.runV (As := [.int (((v.1 + (v.2.1 &&& (v.2.2.2 ^^^ (-1)))) + (v.2.2.1 &&& v.2.2.2)) + (K (4 * (11 + n)))), .int 1]) (rest := []) ⟨hx, hb, hml, hown, hts⟩ (met_rot l e0 (((v.1 + (v.2.1 &&& (v.2.2.2 ^^^ (-1)))) + (v.2.2.1 &&& v.2.2.2)) + (K (4 * (11 + n)))) 1) (cwV 2 hts (lw_V q229 q231 qs4 q8 q232) rfl rfl rfl (by decide +kernel) ⟨hR1, hR2⟩) ⟨fun _ _ _ _ q => q, va_recv hK hP (ci := 1) (q0 := 0) rfl rfl, fun _ _ _ => rfl⟩ rfl rfl hl.1 rfl (lv_room (Nat.le_of_ble_eq_true rfl)) dX2_encryptBlock_548 ⟨hc, hs⟩) (fun r hr => ?_)
      obtain rfl : r = rc_ma K (4 * (11 + n)) v := hr
      refine lv_istore (lv' := [(8, .int (rc_ma K (4 * (11 + n)) v)), (9, .int (nI (4 * (11 + n)))), (5, .int v.2.2.2), (6, .int v.2.2.1), (7, .int v.2.1), (0, .ref e0), (1, .ref b0), (2, .int 0), (3, .ref o0), (4, .int 0)]) hx hb dX2_encryptBlock_551 hl (by decide) rfl (fun ls hl => ?_)
      refine lv_aload_n hx hb dX2_encryptBlock_553 rfl (lv_at hl 5 rfl) ?_
      refine lv_iload hx hb dX2_encryptBlock_554 (lv_at hl 4 rfl) ?_
      refine lv_iload hx hb dX2_encryptBlock_556 (lv_at hl 3 rfl) ?_
      refine lv_iload hx hb dX2_encryptBlock_558 (lv_at hl 0 rfl) ?_
      refine lv_iconst (v := (-1)) hx hb dX2_encryptBlock_560 (by decide) ?_
      refine lv_ixor hx hb dX2_encryptBlock_561 ?_
      refine lv_iand hx hb dX2_encryptBlock_562 ?_
      refine lv_iadd hx hb dX2_encryptBlock_563 ?_
      refine lv_iload hx hb dX2_encryptBlock_564 (lv_at hl 2 rfl) ?_
      refine lv_iload hx hb dX2_encryptBlock_566 (lv_at hl 0 rfl) ?_
      refine lv_iand hx hb dX2_encryptBlock_568 ?_
      refine lv_iadd hx hb dX2_encryptBlock_569 ?_
      refine lv_aload_n hx hb dX2_encryptBlock_570 rfl (lv_at hl 5 rfl) ?_
      refine va_get (D := D) (ci := 1) (v := .ref w0) (C := RX2) (T := TX2) (N := 2) hx hb hts in_X2 hown hK hP 0 rfl rfl 0 (by decide) (hts _ q39) (fun _ h9 => h9) rfl dX2_encryptBlock_571 ?_
      refine lv_iload hx hb dX2_encryptBlock_574 (lv_at hl 1 rfl) ?_
      refine lv_iconst (v := 1) hx hb dX2_encryptBlock_576 (by decide) ?_
      refine lv_iadd hx hb dX2_encryptBlock_577 ?_
      refine rc_iald hx hb hK hP 1 1 rfl rfl (4 * (11 + n) + 1) (nI_add _ 1) (by omega) (by decide) dX2_encryptBlock_578 ?_
      refine lv_iadd hx hb dX2_encryptBlock_579 ?_
      refine lv_iconst (v := 2) hx hb dX2_encryptBlock_580 (by decide) ?_
      refine vp_callSi (W.runV (As := [.int (((v.2.1 + (v.2.2.1 &&& ((rc_ma K (4 * (11 + n)) v) ^^^ (-1)))) + (v.2.2.2 &&& (rc_ma K (4 * (11 + n)) v))) + (K (4 * (11 + n) + 1))), .int 2]) (rest := []) ⟨hx, hb, hml, hown, hts⟩ (met_rot l e0 (((v.2.1 + (v.2.2.1 &&& ((rc_ma K (4 * (11 + n)) v) ^^^ (-1)))) + (v.2.2.2 &&& (rc_ma K (4 * (11 + n)) v))) + (K (4 * (11 + n) + 1))) 2) (cwV 2 hts (lw_V q229 q231 qs4 q8 q232) rfl rfl rfl (by decide +kernel) ⟨hR1, hR2⟩) ⟨fun _ _ _ _ q => q, va_recv hK hP (ci := 1) (q0 := 0) rfl rfl, fun _ _ _ => rfl⟩ rfl rfl hl.1 rfl (lv_room (Nat.le_of_ble_eq_true rfl)) dX2_encryptBlock_581 ⟨hc, hs⟩) (fun r hr => ?_)
      obtain rfl : r = rc_mb K (4 * (11 + n)) v := hr
      refine lv_istore (lv' := [(7, .int (rc_mb K (4 * (11 + n)) v)), (8, .int (rc_ma K (4 * (11 + n)) v)), (9, .int (nI (4 * (11 + n)))), (5, .int v.2.2.2), (6, .int v.2.2.1), (0, .ref e0), (1, .ref b0), (2, .int 0), (3, .ref o0), (4, .int 0)]) hx hb dX2_encryptBlock_584 hl (by decide) rfl (fun ls hl => ?_)
      refine lv_aload_n hx hb dX2_encryptBlock_586 rfl (lv_at hl 5 rfl) ?_
      refine lv_iload hx hb dX2_encryptBlock_587 (lv_at hl 4 rfl) ?_
      refine lv_iload hx hb dX2_encryptBlock_589 (lv_at hl 3 rfl) ?_
      refine lv_iload hx hb dX2_encryptBlock_591 (lv_at hl 0 rfl) ?_
      refine lv_iconst (v := (-1)) hx hb dX2_encryptBlock_593 (by decide) ?_
      refine lv_ixor hx hb dX2_encryptBlock_594 ?_
      refine lv_iand hx hb dX2_encryptBlock_595 ?_
      refine lv_iadd hx hb dX2_encryptBlock_596 ?_
      refine lv_iload hx hb dX2_encryptBlock_597 (lv_at hl 1 rfl) ?_
      refine lv_iload hx hb dX2_encryptBlock_599 (lv_at hl 0 rfl) ?_
      refine lv_iand hx hb dX2_encryptBlock_601 ?_
      refine lv_iadd hx hb dX2_encryptBlock_602 ?_
      refine lv_aload_n hx hb dX2_encryptBlock_603 rfl (lv_at hl 5 rfl) ?_
      refine va_get (D := D) (ci := 1) (v := .ref w0) (C := RX2) (T := TX2) (N := 2) hx hb hts in_X2 hown hK hP 0 rfl rfl 0 (by decide) (hts _ q39) (fun _ h9 => h9) rfl dX2_encryptBlock_604 ?_
      refine lv_iload hx hb dX2_encryptBlock_607 (lv_at hl 2 rfl) ?_
      refine lv_iconst (v := 2) hx hb dX2_encryptBlock_609 (by decide) ?_
      refine lv_iadd hx hb dX2_encryptBlock_610 ?_
      refine rc_iald hx hb hK hP 1 1 rfl rfl (4 * (11 + n) + 2) (nI_add _ 2) (by omega) (by decide) dX2_encryptBlock_611 ?_
      refine lv_iadd hx hb dX2_encryptBlock_612 ?_
      refine lv_iconst (v := 3) hx hb dX2_encryptBlock_613 (by decide) ?_
      refine vp_callSi (W.runV (As := [.int (((v.2.2.1 + (v.2.2.2 &&& ((rc_mb K (4 * (11 + n)) v) ^^^ (-1)))) + ((rc_ma K (4 * (11 + n)) v) &&& (rc_mb K (4 * (11 + n)) v))) + (K (4 * (11 + n) + 2))), .int 3]) (rest := []) ⟨hx, hb, hml, hown, hts⟩ (met_rot l e0 (((v.2.2.1 + (v.2.2.2 &&& ((rc_mb K (4 * (11 + n)) v) ^^^ (-1)))) + ((rc_ma K (4 * (11 + n)) v) &&& (rc_mb K (4 * (11 + n)) v))) + (K (4 * (11 + n) + 2))) 3) (cwV 2 hts (lw_V q229 q231 qs4 q8 q232) rfl rfl rfl (by decide +kernel) ⟨hR1, hR2⟩) ⟨fun _ _ _ _ q => q, va_recv hK hP (ci := 1) (q0 := 0) rfl rfl, fun _ _ _ => rfl⟩ rfl rfl hl.1 rfl (lv_room (Nat.le_of_ble_eq_true rfl)) dX2_encryptBlock_614 ⟨hc, hs⟩) (fun r hr => ?_)
      obtain rfl : r = rc_mc K (4 * (11 + n)) v := hr
      refine lv_istore (lv' := [(6, .int (rc_mc K (4 * (11 + n)) v)), (7, .int (rc_mb K (4 * (11 + n)) v)), (8, .int (rc_ma K (4 * (11 + n)) v)), (9, .int (nI (4 * (11 + n)))), (5, .int v.2.2.2), (0, .ref e0), (1, .ref b0), (2, .int 0), (3, .ref o0), (4, .int 0)]) hx hb dX2_encryptBlock_617 hl (by decide) rfl (fun ls hl => ?_)
      refine lv_aload_n hx hb dX2_encryptBlock_619 rfl (lv_at hl 5 rfl) ?_
      refine lv_iload hx hb dX2_encryptBlock_620 (lv_at hl 4 rfl) ?_
      refine lv_iload hx hb dX2_encryptBlock_622 (lv_at hl 2 rfl) ?_
      refine lv_iload hx hb dX2_encryptBlock_624 (lv_at hl 0 rfl) ?_
      refine lv_iconst (v := (-1)) hx hb dX2_encryptBlock_626 (by decide) ?_
      refine lv_ixor hx hb dX2_encryptBlock_627 ?_
      refine lv_iand hx hb dX2_encryptBlock_628 ?_
      refine lv_iadd hx hb dX2_encryptBlock_629 ?_
      refine lv_iload hx hb dX2_encryptBlock_630 (lv_at hl 1 rfl) ?_
      refine lv_iload hx hb dX2_encryptBlock_632 (lv_at hl 0 rfl) ?_
      refine lv_iand hx hb dX2_encryptBlock_634 ?_
      refine lv_iadd hx hb dX2_encryptBlock_635 ?_
      refine lv_aload_n hx hb dX2_encryptBlock_636 rfl (lv_at hl 5 rfl) ?_
      refine va_get (D := D) (ci := 1) (v := .ref w0) (C := RX2) (T := TX2) (N := 2) hx hb hts in_X2 hown hK hP 0 rfl rfl 0 (by decide) (hts _ q39) (fun _ h9 => h9) rfl dX2_encryptBlock_637 ?_
      refine lv_iload hx hb dX2_encryptBlock_640 (lv_at hl 3 rfl) ?_
      refine lv_iconst (v := 3) hx hb dX2_encryptBlock_642 (by decide) ?_
      refine lv_iadd hx hb dX2_encryptBlock_643 ?_
      refine rc_iald hx hb hK hP 1 1 rfl rfl (4 * (11 + n) + 3) (nI_add _ 3) (by omega) (by decide) dX2_encryptBlock_644 ?_
      refine lv_iadd hx hb dX2_encryptBlock_645 ?_
      refine lv_iconst (v := 5) hx hb dX2_encryptBlock_646 (by decide) ?_
      refine vp_callSi (W.runV (As := [.int (((v.2.2.2 + ((rc_ma K (4 * (11 + n)) v) &&& ((rc_mc K (4 * (11 + n)) v) ^^^ (-1)))) + ((rc_mb K (4 * (11 + n)) v) &&& (rc_mc K (4 * (11 + n)) v))) + (K (4 * (11 + n) + 3))), .int 5]) (rest := []) ⟨hx, hb, hml, hown, hts⟩ (met_rot l e0 (((v.2.2.2 + ((rc_ma K (4 * (11 + n)) v) &&& ((rc_mc K (4 * (11 + n)) v) ^^^ (-1)))) + ((rc_mb K (4 * (11 + n)) v) &&& (rc_mc K (4 * (11 + n)) v))) + (K (4 * (11 + n) + 3))) 5) (cwV 2 hts (lw_V q229 q231 qs4 q8 q232) rfl rfl rfl (by decide +kernel) ⟨hR1, hR2⟩) ⟨fun _ _ _ _ q => q, va_recv hK hP (ci := 1) (q0 := 0) rfl rfl, fun _ _ _ => rfl⟩ rfl rfl hl.1 rfl (lv_room (Nat.le_of_ble_eq_true rfl)) dX2_encryptBlock_647 ⟨hc, hs⟩) (fun r hr => ?_)
      obtain rfl : r = rc_md K (4 * (11 + n)) v := hr
      refine lv_istore (lv' := [(5, .int (rc_md K (4 * (11 + n)) v)), (6, .int (rc_mc K (4 * (11 + n)) v)), (7, .int (rc_mb K (4 * (11 + n)) v)), (8, .int (rc_ma K (4 * (11 + n)) v)), (9, .int (nI (4 * (11 + n)))), (0, .ref e0), (1, .ref b0), (2, .int 0), (3, .ref o0), (4, .int 0)]) hx hb dX2_encryptBlock_650 hl (by decide) rfl (fun ls hl => ?_)
      refine lv_iinc (v := (nI (4 * (11 + (n + 1))))) (lv' := [(9, .int (nI (4 * (11 + (n + 1))))), (5, .int (rc_md K (4 * (11 + n)) v)), (6, .int (rc_mc K (4 * (11 + n)) v)), (7, .int (rc_mb K (4 * (11 + n)) v)), (8, .int (rc_ma K (4 * (11 + n)) v)), (0, .ref e0), (1, .ref b0), (2, .int 0), (3, .ref o0), (4, .int 0)]) hx hb dX2_encryptBlock_652 hl (k := 4) rfl (rc_nI4 (11 + n)) (by decide) rfl (fun ls hl => ?_)
      refine lv_goto (tgt := 515) hx hb dX2_encryptBlock_655 (by decide) ?_
      subst hv
      exact ih (n + 1) (by omega) ls (lv_sub hl [0, 1, 2, 3, 4, 5, 6, 7, 8, 9] rfl)
end
section
set_option maxHeartbeats 4000000 in
set_option maxRecDepth 100000 in
/-- encryptBlock(in, 0, out, 0): out is the locked block -/
theorem met_enc (l : Launch) (D : va_G) (cb ci : ClassId) (t sz : Nat) (e0 w0 b0 o0 : Nat) (lk : Int32) (K fb fo : Nat → Int32)  : Met l yX2_encryptBlock (ws_ yX2_encryptBlock cX2_encryptBlock 10 none) (rm_ 1 0 0) (va_Pc [.ref e0, .ref b0, .int 0, .ref o0, .int 0] (rc_Pre D (rc_ty cb ci) t [(e0, .inr (1, [.ref w0, .int lk])), (w0, .inl (ci, 64, .inl K)), (b0, .inl (cb, 8, .inl fb)), (o0, .inl (cb, 8, .inl fo))] sz)) (va_Qv (fun _ : Unit => True) (fun _ U => rc_B D (va_A [(e0, .inr (1, [.ref w0, .int lk])), (w0, .inl (ci, 64, .inl K)), (b0, .inl (cb, 8, .inl fb)), (o0, .inl (cb, 8, .inl fo))] sz) [(e0, .inr (1, [.ref w0, .int lk])), (w0, .inl (ci, 64, .inl K)), (b0, .inl (cb, 8, .inl fb)), (o0, .inl (cb, 8, .inl (rc_enc K fb)))] U) (va_A [(e0, .inr (1, [.ref w0, .int lk])), (w0, .inl (ci, 64, .inl K)), (b0, .inl (cb, 8, .inl fb)), (o0, .inl (cb, 8, .inl fo))] sz)) 0 0 (va_A [(e0, .inr (1, [.ref w0, .int lk])), (w0, .inl (ci, 64, .inl K)), (b0, .inl (cb, 8, .inl fb)), (o0, .inl (cb, 8, .inl fo))] sz) := by
  refine Met.ofW (cc := cX2_encryptBlock) (maxL := 10) (ret := none) (by decide) rfl ?_
  intro p e s m args below meth c s₁ B hml hv
  obtain ⟨rfl, hsz, hP, hK, hD0, hX⟩ := hv
  have hx := B.exec
  have hb := B.bytes
  have hr := B.returns
  have hts := atoms_spec (ws := ws_ yX2_encryptBlock cX2_encryptBlock 10 none) B.pre
  have hts : ∀ w ∈ lw_all, w.before _ s = true := fun w h => hts w (List.mem_cons_of_mem _ h)
  have hown : s.vm.findClass RX2 = some m.cls := findClass_of_methodNamed B.named
  have hlocks := B.notSynchronized
  subst hsz
  have hD := hD0.self (sz := s.heap.size)
  generalize hAe : va_A [(e0, .inr (1, [.ref w0, .int lk])), (w0, .inl (ci, 64, .inl K)), (b0, .inl (cb, 8, .inl fb)), (o0, .inl (cb, 8, .inl fo))] s.heap.size = A at hD hX ⊢
  have hA : ∀ q : Nat, s.heap.size ≤ q → A q := fun q h => by rw [← hAe]; exact Or.inr h
  have hS : va_S A s.heap s.heap [] := va_S.rf
  have hP : va_P D vwCl [(e0, .inr (1, [.ref w0, .int lk])), (w0, .inl (ci, 64, .inl K)), (b0, .inl (cb, 8, .inl fb)), (o0, .inl (cb, 8, .inl fo))] s.heap := hP
  have hl := lv_entry ([.ref e0, .ref b0, .int 0, .ref o0, .int 0]) (n := 10) (Nat.le_of_ble_eq_true rfl)
  rw [lg_entry_eq]
  generalize (lg_sl ([.ref e0, .ref b0, .int 0, .ref o0, .int 0]) ++ List.replicate (10 - (lg_sl ([.ref e0, .ref b0, .int 0, .ref o0, .int 0])).length) Slot.unset).toArray = ls at hl ⊢
  have hl : lv_has ls 10 [(0, .ref e0), (1, .ref b0), (2, .int 0), (3, .ref o0), (4, .int 0)] := hl
  refine lv_aload_n hx hb dX2_encryptBlock_0 rfl (lv_at hl 1 rfl) ?_
  refine lv_iload_n hx hb dX2_encryptBlock_1 rfl (lv_at hl 2 rfl) ?_
  refine lv_bipush (v := 7) hx hb dX2_encryptBlock_2 (by decide) ?_
  refine lv_iadd hx hb dX2_encryptBlock_4 ?_
  refine rc_bald hx hb hK hP 2 0 rfl rfl 7 (by decide) (by decide) (by decide) dX2_encryptBlock_5 ?_
  refine lv_sipush (v := 255) hx hb dX2_encryptBlock_6 (by decide) ?_
  refine lv_iand hx hb dX2_encryptBlock_9 ?_
  refine lv_bipush (v := 8) hx hb dX2_encryptBlock_10 (by decide) ?_
  refine lv_ishl hx hb dX2_encryptBlock_12 ?_
  refine lv_aload_n hx hb dX2_encryptBlock_13 rfl (lv_at hl 1 rfl) ?_
  refine lv_iload_n hx hb dX2_encryptBlock_14 rfl (lv_at hl 2 rfl) ?_
  refine lv_bipush (v := 6) hx hb dX2_encryptBlock_15 (by decide) ?_
  refine lv_iadd hx hb dX2_encryptBlock_17 ?_
  refine rc_bald hx hb hK hP 2 0 rfl rfl 6 (by decide) (by decide) (by decide) dX2_encryptBlock_18 ?_
  refine lv_sipush (v := 255) hx hb dX2_encryptBlock_19 (by decide) ?_
  refine lv_iand hx hb dX2_encryptBlock_22 ?_
  refine lv_iadd hx hb dX2_encryptBlock_23 ?_
  refine rc_top ((rc_ld fb).2.2.2) rfl ?_
  refine lv_istore (lv' := [(5, .int ((rc_ld fb).2.2.2)), (0, .ref e0), (1, .ref b0), (2, .int 0), (3, .ref o0), (4, .int 0)]) hx hb dX2_encryptBlock_24 hl (by decide) rfl (fun ls hl => ?_)
  refine lv_aload_n hx hb dX2_encryptBlock_26 rfl (lv_at hl 2 rfl) ?_
  refine lv_iload_n hx hb dX2_encryptBlock_27 rfl (lv_at hl 3 rfl) ?_
  refine lv_iconst (v := 5) hx hb dX2_encryptBlock_28 (by decide) ?_
  refine lv_iadd hx hb dX2_encryptBlock_29 ?_
  refine rc_bald hx hb hK hP 2 0 rfl rfl 5 (by decide) (by decide) (by decide) dX2_encryptBlock_30 ?_
  refine lv_sipush (v := 255) hx hb dX2_encryptBlock_31 (by decide) ?_
  refine lv_iand hx hb dX2_encryptBlock_34 ?_
  refine lv_bipush (v := 8) hx hb dX2_encryptBlock_35 (by decide) ?_
  refine lv_ishl hx hb dX2_encryptBlock_37 ?_
  refine lv_aload_n hx hb dX2_encryptBlock_38 rfl (lv_at hl 2 rfl) ?_
  refine lv_iload_n hx hb dX2_encryptBlock_39 rfl (lv_at hl 3 rfl) ?_
  refine lv_iconst (v := 4) hx hb dX2_encryptBlock_40 (by decide) ?_
  refine lv_iadd hx hb dX2_encryptBlock_41 ?_
  refine rc_bald hx hb hK hP 2 0 rfl rfl 4 (by decide) (by decide) (by decide) dX2_encryptBlock_42 ?_
  refine lv_sipush (v := 255) hx hb dX2_encryptBlock_43 (by decide) ?_
  refine lv_iand hx hb dX2_encryptBlock_46 ?_
  refine lv_iadd hx hb dX2_encryptBlock_47 ?_
  refine rc_top ((rc_ld fb).2.2.1) rfl ?_
  refine lv_istore (lv' := [(6, .int ((rc_ld fb).2.2.1)), (5, .int ((rc_ld fb).2.2.2)), (0, .ref e0), (1, .ref b0), (2, .int 0), (3, .ref o0), (4, .int 0)]) hx hb dX2_encryptBlock_48 hl (by decide) rfl (fun ls hl => ?_)
  refine lv_aload_n hx hb dX2_encryptBlock_50 rfl (lv_at hl 3 rfl) ?_
  refine lv_iload_n hx hb dX2_encryptBlock_51 rfl (lv_at hl 4 rfl) ?_
  refine lv_iconst (v := 3) hx hb dX2_encryptBlock_52 (by decide) ?_
  refine lv_iadd hx hb dX2_encryptBlock_53 ?_
  refine rc_bald hx hb hK hP 2 0 rfl rfl 3 (by decide) (by decide) (by decide) dX2_encryptBlock_54 ?_
  refine lv_sipush (v := 255) hx hb dX2_encryptBlock_55 (by decide) ?_
  refine lv_iand hx hb dX2_encryptBlock_58 ?_
  refine lv_bipush (v := 8) hx hb dX2_encryptBlock_59 (by decide) ?_
  refine lv_ishl hx hb dX2_encryptBlock_61 ?_
  refine lv_aload_n hx hb dX2_encryptBlock_62 rfl (lv_at hl 3 rfl) ?_
  refine lv_iload_n hx hb dX2_encryptBlock_63 rfl (lv_at hl 4 rfl) ?_
  refine lv_iconst (v := 2) hx hb dX2_encryptBlock_64 (by decide) ?_
  refine lv_iadd hx hb dX2_encryptBlock_65 ?_
  refine rc_bald hx hb hK hP 2 0 rfl rfl 2 (by decide) (by decide) (by decide) dX2_encryptBlock_66 ?_
  refine lv_sipush (v := 255) hx hb dX2_encryptBlock_67 (by decide) ?_
  refine lv_iand hx hb dX2_encryptBlock_70 ?_
  refine lv_iadd hx hb dX2_encryptBlock_71 ?_
  refine rc_top ((rc_ld fb).2.1) rfl ?_
  refine lv_istore (lv' := [(7, .int ((rc_ld fb).2.1)), (6, .int ((rc_ld fb).2.2.1)), (5, .int ((rc_ld fb).2.2.2)), (0, .ref e0), (1, .ref b0), (2, .int 0), (3, .ref o0), (4, .int 0)]) hx hb dX2_encryptBlock_72 hl (by decide) rfl (fun ls hl => ?_)
  refine lv_aload_n hx hb dX2_encryptBlock_74 rfl (lv_at hl 4 rfl) ?_
  refine lv_iload_n hx hb dX2_encryptBlock_75 rfl (lv_at hl 5 rfl) ?_
  refine lv_iconst (v := 1) hx hb dX2_encryptBlock_76 (by decide) ?_
  refine lv_iadd hx hb dX2_encryptBlock_77 ?_
  refine rc_bald hx hb hK hP 2 0 rfl rfl 1 (by decide) (by decide) (by decide) dX2_encryptBlock_78 ?_
  refine lv_sipush (v := 255) hx hb dX2_encryptBlock_79 (by decide) ?_
  refine lv_iand hx hb dX2_encryptBlock_82 ?_
  refine lv_bipush (v := 8) hx hb dX2_encryptBlock_83 (by decide) ?_
  refine lv_ishl hx hb dX2_encryptBlock_85 ?_
  refine lv_aload_n hx hb dX2_encryptBlock_86 rfl (lv_at hl 4 rfl) ?_
  refine lv_iload_n hx hb dX2_encryptBlock_87 rfl (lv_at hl 5 rfl) ?_
  refine lv_iconst (v := 0) hx hb dX2_encryptBlock_88 (by decide) ?_
  refine lv_iadd hx hb dX2_encryptBlock_89 ?_
  refine rc_bald hx hb hK hP 2 0 rfl rfl 0 (by decide) (by decide) (by decide) dX2_encryptBlock_90 ?_
  refine lv_sipush (v := 255) hx hb dX2_encryptBlock_91 (by decide) ?_
  refine lv_iand hx hb dX2_encryptBlock_94 ?_
  refine lv_iadd hx hb dX2_encryptBlock_95 ?_
  refine rc_top ((rc_ld fb).1) rfl ?_
  refine lv_istore (lv' := [(8, .int ((rc_ld fb).1)), (7, .int ((rc_ld fb).2.1)), (6, .int ((rc_ld fb).2.2.1)), (5, .int ((rc_ld fb).2.2.2)), (0, .ref e0), (1, .ref b0), (2, .int 0), (3, .ref o0), (4, .int 0)]) hx hb dX2_encryptBlock_96 hl (by decide) rfl (fun ls hl => ?_)
  refine lv_iconst (v := 0) hx hb dX2_encryptBlock_98 (by decide) ?_
  refine lv_istore (lv' := [(9, .int 0), (8, .int ((rc_ld fb).1)), (7, .int ((rc_ld fb).2.1)), (6, .int ((rc_ld fb).2.2.1)), (5, .int ((rc_ld fb).2.2.2)), (0, .ref e0), (1, .ref b0), (2, .int 0), (3, .ref o0), (4, .int 0)]) hx hb dX2_encryptBlock_99 hl (by decide) rfl (fun ls hl => ?_)
  refine enc_loop1 hx hb hml hown hts hK (Nat.le_of_ble_eq_true rfl) (Nat.le_of_ble_eq_true rfl) (Nat.le_of_ble_eq_true rfl) (Nat.le_of_ble_eq_true rfl) hP (rc_ld fb) (fun ls hl => ?_) 5 0 rfl ls (lv_sub hl [0, 4, 3, 2, 1, 5, 6, 7, 8, 9] rfl)
  generalize hv1 : rc_mixN K 0 (rc_ld fb) 5 = v1 at hl
  refine lv_iload hx hb dX2_encryptBlock_244 (lv_at hl 4 rfl) ?_
  refine lv_aload_n hx hb dX2_encryptBlock_246 rfl (lv_at hl 5 rfl) ?_
  refine va_get (D := D) (ci := 1) (v := .ref w0) (C := RX2) (T := TX2) (N := 2) hx hb hts in_X2 hown hK hP 0 rfl rfl 0 (by decide) (hts _ q39) (fun _ h9 => h9) rfl dX2_encryptBlock_247 ?_
  refine lv_iload hx hb dX2_encryptBlock_250 (lv_at hl 1 rfl) ?_
  refine lv_bipush (v := 63) hx hb dX2_encryptBlock_252 (by decide) ?_
  refine lv_iand hx hb dX2_encryptBlock_254 ?_
  refine va_iald hx hb hK hP 1 1 rfl rfl (pk_andIn _ 6 (by decide) (by decide)) dX2_encryptBlock_255 ?_
  refine lv_iadd hx hb dX2_encryptBlock_256 ?_
  refine rc_top (rc_ha K v1) rfl ?_
  refine lv_istore (lv' := [(8, .int (rc_ha K v1)), (9, .int (nI 20)), (5, .int v1.2.2.2), (6, .int v1.2.2.1), (7, .int v1.2.1), (0, .ref e0), (1, .ref b0), (2, .int 0), (3, .ref o0), (4, .int 0)]) hx hb dX2_encryptBlock_257 hl (by decide) rfl (fun ls hl => ?_)
  refine lv_iload hx hb dX2_encryptBlock_259 (lv_at hl 4 rfl) ?_
  refine lv_aload_n hx hb dX2_encryptBlock_261 rfl (lv_at hl 5 rfl) ?_
  refine va_get (D := D) (ci := 1) (v := .ref w0) (C := RX2) (T := TX2) (N := 2) hx hb hts in_X2 hown hK hP 0 rfl rfl 0 (by decide) (hts _ q39) (fun _ h9 => h9) rfl dX2_encryptBlock_262 ?_
  refine lv_iload hx hb dX2_encryptBlock_265 (lv_at hl 0 rfl) ?_
  refine lv_bipush (v := 63) hx hb dX2_encryptBlock_267 (by decide) ?_
  refine lv_iand hx hb dX2_encryptBlock_269 ?_
  refine va_iald hx hb hK hP 1 1 rfl rfl (pk_andIn _ 6 (by decide) (by decide)) dX2_encryptBlock_270 ?_
  refine lv_iadd hx hb dX2_encryptBlock_271 ?_
  refine rc_top (rc_hb K v1) rfl ?_
  refine lv_istore (lv' := [(7, .int (rc_hb K v1)), (8, .int (rc_ha K v1)), (9, .int (nI 20)), (5, .int v1.2.2.2), (6, .int v1.2.2.1), (0, .ref e0), (1, .ref b0), (2, .int 0), (3, .ref o0), (4, .int 0)]) hx hb dX2_encryptBlock_272 hl (by decide) rfl (fun ls hl => ?_)
  refine lv_iload hx hb dX2_encryptBlock_274 (lv_at hl 4 rfl) ?_
  refine lv_aload_n hx hb dX2_encryptBlock_276 rfl (lv_at hl 5 rfl) ?_
  refine va_get (D := D) (ci := 1) (v := .ref w0) (C := RX2) (T := TX2) (N := 2) hx hb hts in_X2 hown hK hP 0 rfl rfl 0 (by decide) (hts _ q39) (fun _ h9 => h9) rfl dX2_encryptBlock_277 ?_
  refine lv_iload hx hb dX2_encryptBlock_280 (lv_at hl 0 rfl) ?_
  refine lv_bipush (v := 63) hx hb dX2_encryptBlock_282 (by decide) ?_
  refine lv_iand hx hb dX2_encryptBlock_284 ?_
  refine va_iald hx hb hK hP 1 1 rfl rfl (pk_andIn _ 6 (by decide) (by decide)) dX2_encryptBlock_285 ?_
  refine lv_iadd hx hb dX2_encryptBlock_286 ?_
  refine rc_top (rc_hc K v1) rfl ?_
  refine lv_istore (lv' := [(6, .int (rc_hc K v1)), (7, .int (rc_hb K v1)), (8, .int (rc_ha K v1)), (9, .int (nI 20)), (5, .int v1.2.2.2), (0, .ref e0), (1, .ref b0), (2, .int 0), (3, .ref o0), (4, .int 0)]) hx hb dX2_encryptBlock_287 hl (by decide) rfl (fun ls hl => ?_)
  refine lv_iload hx hb dX2_encryptBlock_289 (lv_at hl 4 rfl) ?_
  refine lv_aload_n hx hb dX2_encryptBlock_291 rfl (lv_at hl 5 rfl) ?_
  refine va_get (D := D) (ci := 1) (v := .ref w0) (C := RX2) (T := TX2) (N := 2) hx hb hts in_X2 hown hK hP 0 rfl rfl 0 (by decide) (hts _ q39) (fun _ h9 => h9) rfl dX2_encryptBlock_292 ?_
  refine lv_iload hx hb dX2_encryptBlock_295 (lv_at hl 0 rfl) ?_
  refine lv_bipush (v := 63) hx hb dX2_encryptBlock_297 (by decide) ?_
  refine lv_iand hx hb dX2_encryptBlock_299 ?_
  refine va_iald hx hb hK hP 1 1 rfl rfl (pk_andIn _ 6 (by decide) (by decide)) dX2_encryptBlock_300 ?_
  refine lv_iadd hx hb dX2_encryptBlock_301 ?_
  refine rc_top (rc_hd K v1) rfl ?_
  refine lv_istore (lv' := [(5, .int (rc_hd K v1)), (6, .int (rc_hc K v1)), (7, .int (rc_hb K v1)), (8, .int (rc_ha K v1)), (9, .int (nI 20)), (0, .ref e0), (1, .ref b0), (2, .int 0), (3, .ref o0), (4, .int 0)]) hx hb dX2_encryptBlock_302 hl (by decide) rfl (fun ls hl => ?_)
  refine lv_bipush (v := 20) hx hb dX2_encryptBlock_304 (by decide) ?_
  refine lv_istore (lv' := [(9, .int 20), (5, .int (rc_hd K v1)), (6, .int (rc_hc K v1)), (7, .int (rc_hb K v1)), (8, .int (rc_ha K v1)), (0, .ref e0), (1, .ref b0), (2, .int 0), (3, .ref o0), (4, .int 0)]) hx hb dX2_encryptBlock_306 hl (by decide) rfl (fun ls hl => ?_)
  refine enc_loop2 hx hb hml hown hts hK (Nat.le_of_ble_eq_true rfl) (Nat.le_of_ble_eq_true rfl) (Nat.le_of_ble_eq_true rfl) (Nat.le_of_ble_eq_true rfl) hP (rc_mash K v1) (fun ls hl => ?_) 6 0 rfl ls (lv_sub hl [0, 1, 2, 3, 4, 5, 6, 7, 8, 9] rfl)
  generalize hv2 : rc_mixN K 5 (rc_mash K v1) 6 = v2 at hl
  refine lv_iload hx hb dX2_encryptBlock_451 (lv_at hl 4 rfl) ?_
  refine lv_aload_n hx hb dX2_encryptBlock_453 rfl (lv_at hl 5 rfl) ?_
  refine va_get (D := D) (ci := 1) (v := .ref w0) (C := RX2) (T := TX2) (N := 2) hx hb hts in_X2 hown hK hP 0 rfl rfl 0 (by decide) (hts _ q39) (fun _ h9 => h9) rfl dX2_encryptBlock_454 ?_
  refine lv_iload hx hb dX2_encryptBlock_457 (lv_at hl 1 rfl) ?_
  refine lv_bipush (v := 63) hx hb dX2_encryptBlock_459 (by decide) ?_
  refine lv_iand hx hb dX2_encryptBlock_461 ?_
  refine va_iald hx hb hK hP 1 1 rfl rfl (pk_andIn _ 6 (by decide) (by decide)) dX2_encryptBlock_462 ?_
  refine lv_iadd hx hb dX2_encryptBlock_463 ?_
  refine rc_top (rc_ha K v2) rfl ?_
  refine lv_istore (lv' := [(8, .int (rc_ha K v2)), (9, .int (nI 44)), (5, .int v2.2.2.2), (6, .int v2.2.2.1), (7, .int v2.2.1), (0, .ref e0), (1, .ref b0), (2, .int 0), (3, .ref o0), (4, .int 0)]) hx hb dX2_encryptBlock_464 hl (by decide) rfl (fun ls hl => ?_)
  refine lv_iload hx hb dX2_encryptBlock_466 (lv_at hl 4 rfl) ?_
  refine lv_aload_n hx hb dX2_encryptBlock_468 rfl (lv_at hl 5 rfl) ?_
  refine va_get (D := D) (ci := 1) (v := .ref w0) (C := RX2) (T := TX2) (N := 2) hx hb hts in_X2 hown hK hP 0 rfl rfl 0 (by decide) (hts _ q39) (fun _ h9 => h9) rfl dX2_encryptBlock_469 ?_
  refine lv_iload hx hb dX2_encryptBlock_472 (lv_at hl 0 rfl) ?_
  refine lv_bipush (v := 63) hx hb dX2_encryptBlock_474 (by decide) ?_
  refine lv_iand hx hb dX2_encryptBlock_476 ?_
  refine va_iald hx hb hK hP 1 1 rfl rfl (pk_andIn _ 6 (by decide) (by decide)) dX2_encryptBlock_477 ?_
  refine lv_iadd hx hb dX2_encryptBlock_478 ?_
  refine rc_top (rc_hb K v2) rfl ?_
  refine lv_istore (lv' := [(7, .int (rc_hb K v2)), (8, .int (rc_ha K v2)), (9, .int (nI 44)), (5, .int v2.2.2.2), (6, .int v2.2.2.1), (0, .ref e0), (1, .ref b0), (2, .int 0), (3, .ref o0), (4, .int 0)]) hx hb dX2_encryptBlock_479 hl (by decide) rfl (fun ls hl => ?_)
  refine lv_iload hx hb dX2_encryptBlock_481 (lv_at hl 4 rfl) ?_
  refine lv_aload_n hx hb dX2_encryptBlock_483 rfl (lv_at hl 5 rfl) ?_
  refine va_get (D := D) (ci := 1) (v := .ref w0) (C := RX2) (T := TX2) (N := 2) hx hb hts in_X2 hown hK hP 0 rfl rfl 0 (by decide) (hts _ q39) (fun _ h9 => h9) rfl dX2_encryptBlock_484 ?_
  refine lv_iload hx hb dX2_encryptBlock_487 (lv_at hl 0 rfl) ?_
  refine lv_bipush (v := 63) hx hb dX2_encryptBlock_489 (by decide) ?_
  refine lv_iand hx hb dX2_encryptBlock_491 ?_
  refine va_iald hx hb hK hP 1 1 rfl rfl (pk_andIn _ 6 (by decide) (by decide)) dX2_encryptBlock_492 ?_
  refine lv_iadd hx hb dX2_encryptBlock_493 ?_
  refine rc_top (rc_hc K v2) rfl ?_
  refine lv_istore (lv' := [(6, .int (rc_hc K v2)), (7, .int (rc_hb K v2)), (8, .int (rc_ha K v2)), (9, .int (nI 44)), (5, .int v2.2.2.2), (0, .ref e0), (1, .ref b0), (2, .int 0), (3, .ref o0), (4, .int 0)]) hx hb dX2_encryptBlock_494 hl (by decide) rfl (fun ls hl => ?_)
  refine lv_iload hx hb dX2_encryptBlock_496 (lv_at hl 4 rfl) ?_
  refine lv_aload_n hx hb dX2_encryptBlock_498 rfl (lv_at hl 5 rfl) ?_
  refine va_get (D := D) (ci := 1) (v := .ref w0) (C := RX2) (T := TX2) (N := 2) hx hb hts in_X2 hown hK hP 0 rfl rfl 0 (by decide) (hts _ q39) (fun _ h9 => h9) rfl dX2_encryptBlock_499 ?_
  refine lv_iload hx hb dX2_encryptBlock_502 (lv_at hl 0 rfl) ?_
  refine lv_bipush (v := 63) hx hb dX2_encryptBlock_504 (by decide) ?_
  refine lv_iand hx hb dX2_encryptBlock_506 ?_
  refine va_iald hx hb hK hP 1 1 rfl rfl (pk_andIn _ 6 (by decide) (by decide)) dX2_encryptBlock_507 ?_
  refine lv_iadd hx hb dX2_encryptBlock_508 ?_
  refine rc_top (rc_hd K v2) rfl ?_
  refine lv_istore (lv' := [(5, .int (rc_hd K v2)), (6, .int (rc_hc K v2)), (7, .int (rc_hb K v2)), (8, .int (rc_ha K v2)), (9, .int (nI 44)), (0, .ref e0), (1, .ref b0), (2, .int 0), (3, .ref o0), (4, .int 0)]) hx hb dX2_encryptBlock_509 hl (by decide) rfl (fun ls hl => ?_)
  refine lv_bipush (v := 44) hx hb dX2_encryptBlock_511 (by decide) ?_
  refine lv_istore (lv' := [(9, .int 44), (5, .int (rc_hd K v2)), (6, .int (rc_hc K v2)), (7, .int (rc_hb K v2)), (8, .int (rc_ha K v2)), (0, .ref e0), (1, .ref b0), (2, .int 0), (3, .ref o0), (4, .int 0)]) hx hb dX2_encryptBlock_513 hl (by decide) rfl (fun ls hl => ?_)
  refine enc_loop3 hx hb hml hown hts hK (Nat.le_of_ble_eq_true rfl) (Nat.le_of_ble_eq_true rfl) (Nat.le_of_ble_eq_true rfl) (Nat.le_of_ble_eq_true rfl) hP (rc_mash K v2) (fun ls hl => ?_) 5 0 rfl ls (lv_sub hl [0, 1, 2, 3, 4, 5, 6, 7, 8, 9] rfl)
  generalize hv3 : rc_mixN K 11 (rc_mash K v2) 5 = v3 at hl
  refine lv_aload_n hx hb dX2_encryptBlock_658 rfl (lv_at hl 8 rfl) ?_
  refine lv_iload hx hb dX2_encryptBlock_659 (lv_at hl 9 rfl) ?_
  refine lv_iconst (v := 0) hx hb dX2_encryptBlock_661 (by decide) ?_
  refine lv_iadd hx hb dX2_encryptBlock_662 ?_
  refine lv_iload hx hb dX2_encryptBlock_663 (lv_at hl 4 rfl) ?_
  refine lv_i2b (v := (rc_nb v3.1)) hx hb dX2_encryptBlock_665 rfl ?_
  refine rc_bast (v := (rc_nb v3.1)) hx hb hK hP hD hS 3 0 rfl rfl 0 (by decide) (by decide) (by decide) (pk_vb _) dX2_encryptBlock_666 (fun H locs hP hD hS => ?_)
  have hP : va_P D vwCl [(e0, .inr (1, [.ref w0, .int lk])), (w0, .inl (ci, 64, .inl K)), (b0, .inl (cb, 8, .inl fb)), (o0, .inl (cb, 8, .inl (upd fo 0 (rc_nb v3.1))))] H := hP
  have hD : va_D A [(e0, .inr (1, [.ref w0, .int lk])), (w0, .inl (ci, 64, .inl K)), (b0, .inl (cb, 8, .inl fb)), (o0, .inl (cb, 8, .inl (upd fo 0 (rc_nb v3.1))))] := hD
  refine lv_aload_n hx hb dX2_encryptBlock_667 rfl (lv_at hl 8 rfl) ?_
  refine lv_iload hx hb dX2_encryptBlock_668 (lv_at hl 9 rfl) ?_
  refine lv_iconst (v := 1) hx hb dX2_encryptBlock_670 (by decide) ?_
  refine lv_iadd hx hb dX2_encryptBlock_671 ?_
  refine lv_iload hx hb dX2_encryptBlock_672 (lv_at hl 4 rfl) ?_
  refine lv_bipush (v := 8) hx hb dX2_encryptBlock_674 (by decide) ?_
  refine lv_ishr hx hb dX2_encryptBlock_676 ?_
  refine lv_i2b (v := (rc_nb (rc_s8 v3.1))) hx hb dX2_encryptBlock_677 rfl ?_
  refine rc_bast (v := (rc_nb (rc_s8 v3.1))) hx hb hK hP hD hS 3 0 rfl rfl 1 (by decide) (by decide) (by decide) (pk_vb _) dX2_encryptBlock_678 (fun H locs hP hD hS => ?_)
  have hP : va_P D vwCl [(e0, .inr (1, [.ref w0, .int lk])), (w0, .inl (ci, 64, .inl K)), (b0, .inl (cb, 8, .inl fb)), (o0, .inl (cb, 8, .inl (upd (upd fo 0 (rc_nb v3.1)) 1 (rc_nb (rc_s8 v3.1)))))] H := hP
  have hD : va_D A [(e0, .inr (1, [.ref w0, .int lk])), (w0, .inl (ci, 64, .inl K)), (b0, .inl (cb, 8, .inl fb)), (o0, .inl (cb, 8, .inl (upd (upd fo 0 (rc_nb v3.1)) 1 (rc_nb (rc_s8 v3.1)))))] := hD
  refine lv_aload_n hx hb dX2_encryptBlock_679 rfl (lv_at hl 8 rfl) ?_
  refine lv_iload hx hb dX2_encryptBlock_680 (lv_at hl 9 rfl) ?_
  refine lv_iconst (v := 2) hx hb dX2_encryptBlock_682 (by decide) ?_
  refine lv_iadd hx hb dX2_encryptBlock_683 ?_
  refine lv_iload hx hb dX2_encryptBlock_684 (lv_at hl 3 rfl) ?_
  refine lv_i2b (v := (rc_nb v3.2.1)) hx hb dX2_encryptBlock_686 rfl ?_
  refine rc_bast (v := (rc_nb v3.2.1)) hx hb hK hP hD hS 3 0 rfl rfl 2 (by decide) (by decide) (by decide) (pk_vb _) dX2_encryptBlock_687 (fun H locs hP hD hS => ?_)
  have hP : va_P D vwCl [(e0, .inr (1, [.ref w0, .int lk])), (w0, .inl (ci, 64, .inl K)), (b0, .inl (cb, 8, .inl fb)), (o0, .inl (cb, 8, .inl (upd (upd (upd fo 0 (rc_nb v3.1)) 1 (rc_nb (rc_s8 v3.1))) 2 (rc_nb v3.2.1))))] H := hP
  have hD : va_D A [(e0, .inr (1, [.ref w0, .int lk])), (w0, .inl (ci, 64, .inl K)), (b0, .inl (cb, 8, .inl fb)), (o0, .inl (cb, 8, .inl (upd (upd (upd fo 0 (rc_nb v3.1)) 1 (rc_nb (rc_s8 v3.1))) 2 (rc_nb v3.2.1))))] := hD
  refine lv_aload_n hx hb dX2_encryptBlock_688 rfl (lv_at hl 8 rfl) ?_
  refine lv_iload hx hb dX2_encryptBlock_689 (lv_at hl 9 rfl) ?_
  refine lv_iconst (v := 3) hx hb dX2_encryptBlock_691 (by decide) ?_
  refine lv_iadd hx hb dX2_encryptBlock_692 ?_
  refine lv_iload hx hb dX2_encryptBlock_693 (lv_at hl 3 rfl) ?_
  refine lv_bipush (v := 8) hx hb dX2_encryptBlock_695 (by decide) ?_
  refine lv_ishr hx hb dX2_encryptBlock_697 ?_
  refine lv_i2b (v := (rc_nb (rc_s8 v3.2.1))) hx hb dX2_encryptBlock_698 rfl ?_
  refine rc_bast (v := (rc_nb (rc_s8 v3.2.1))) hx hb hK hP hD hS 3 0 rfl rfl 3 (by decide) (by decide) (by decide) (pk_vb _) dX2_encryptBlock_699 (fun H locs hP hD hS => ?_)
  have hP : va_P D vwCl [(e0, .inr (1, [.ref w0, .int lk])), (w0, .inl (ci, 64, .inl K)), (b0, .inl (cb, 8, .inl fb)), (o0, .inl (cb, 8, .inl (upd (upd (upd (upd fo 0 (rc_nb v3.1)) 1 (rc_nb (rc_s8 v3.1))) 2 (rc_nb v3.2.1)) 3 (rc_nb (rc_s8 v3.2.1)))))] H := hP
  have hD : va_D A [(e0, .inr (1, [.ref w0, .int lk])), (w0, .inl (ci, 64, .inl K)), (b0, .inl (cb, 8, .inl fb)), (o0, .inl (cb, 8, .inl (upd (upd (upd (upd fo 0 (rc_nb v3.1)) 1 (rc_nb (rc_s8 v3.1))) 2 (rc_nb v3.2.1)) 3 (rc_nb (rc_s8 v3.2.1)))))] := hD
  refine lv_aload_n hx hb dX2_encryptBlock_700 rfl (lv_at hl 8 rfl) ?_
  refine lv_iload hx hb dX2_encryptBlock_701 (lv_at hl 9 rfl) ?_
  refine lv_iconst (v := 4) hx hb dX2_encryptBlock_703 (by decide) ?_
  refine lv_iadd hx hb dX2_encryptBlock_704 ?_
  refine lv_iload hx hb dX2_encryptBlock_705 (lv_at hl 2 rfl) ?_
  refine lv_i2b (v := (rc_nb v3.2.2.1)) hx hb dX2_encryptBlock_707 rfl ?_
  refine rc_bast (v := (rc_nb v3.2.2.1)) hx hb hK hP hD hS 3 0 rfl rfl 4 (by decide) (by decide) (by decide) (pk_vb _) dX2_encryptBlock_708 (fun H locs hP hD hS => ?_)
  have hP : va_P D vwCl [(e0, .inr (1, [.ref w0, .int lk])), (w0, .inl (ci, 64, .inl K)), (b0, .inl (cb, 8, .inl fb)), (o0, .inl (cb, 8, .inl (upd (upd (upd (upd (upd fo 0 (rc_nb v3.1)) 1 (rc_nb (rc_s8 v3.1))) 2 (rc_nb v3.2.1)) 3 (rc_nb (rc_s8 v3.2.1))) 4 (rc_nb v3.2.2.1))))] H := hP
  have hD : va_D A [(e0, .inr (1, [.ref w0, .int lk])), (w0, .inl (ci, 64, .inl K)), (b0, .inl (cb, 8, .inl fb)), (o0, .inl (cb, 8, .inl (upd (upd (upd (upd (upd fo 0 (rc_nb v3.1)) 1 (rc_nb (rc_s8 v3.1))) 2 (rc_nb v3.2.1)) 3 (rc_nb (rc_s8 v3.2.1))) 4 (rc_nb v3.2.2.1))))] := hD
  refine lv_aload_n hx hb dX2_encryptBlock_709 rfl (lv_at hl 8 rfl) ?_
  refine lv_iload hx hb dX2_encryptBlock_710 (lv_at hl 9 rfl) ?_
  refine lv_iconst (v := 5) hx hb dX2_encryptBlock_712 (by decide) ?_
  refine lv_iadd hx hb dX2_encryptBlock_713 ?_
  refine lv_iload hx hb dX2_encryptBlock_714 (lv_at hl 2 rfl) ?_
  refine lv_bipush (v := 8) hx hb dX2_encryptBlock_716 (by decide) ?_
  refine lv_ishr hx hb dX2_encryptBlock_718 ?_
  refine lv_i2b (v := (rc_nb (rc_s8 v3.2.2.1))) hx hb dX2_encryptBlock_719 rfl ?_
  refine rc_bast (v := (rc_nb (rc_s8 v3.2.2.1))) hx hb hK hP hD hS 3 0 rfl rfl 5 (by decide) (by decide) (by decide) (pk_vb _) dX2_encryptBlock_720 (fun H locs hP hD hS => ?_)
  have hP : va_P D vwCl [(e0, .inr (1, [.ref w0, .int lk])), (w0, .inl (ci, 64, .inl K)), (b0, .inl (cb, 8, .inl fb)), (o0, .inl (cb, 8, .inl (upd (upd (upd (upd (upd (upd fo 0 (rc_nb v3.1)) 1 (rc_nb (rc_s8 v3.1))) 2 (rc_nb v3.2.1)) 3 (rc_nb (rc_s8 v3.2.1))) 4 (rc_nb v3.2.2.1)) 5 (rc_nb (rc_s8 v3.2.2.1)))))] H := hP
  have hD : va_D A [(e0, .inr (1, [.ref w0, .int lk])), (w0, .inl (ci, 64, .inl K)), (b0, .inl (cb, 8, .inl fb)), (o0, .inl (cb, 8, .inl (upd (upd (upd (upd (upd (upd fo 0 (rc_nb v3.1)) 1 (rc_nb (rc_s8 v3.1))) 2 (rc_nb v3.2.1)) 3 (rc_nb (rc_s8 v3.2.1))) 4 (rc_nb v3.2.2.1)) 5 (rc_nb (rc_s8 v3.2.2.1)))))] := hD
  refine lv_aload_n hx hb dX2_encryptBlock_721 rfl (lv_at hl 8 rfl) ?_
  refine lv_iload hx hb dX2_encryptBlock_722 (lv_at hl 9 rfl) ?_
  refine lv_bipush (v := 6) hx hb dX2_encryptBlock_724 (by decide) ?_
  refine lv_iadd hx hb dX2_encryptBlock_726 ?_
  refine lv_iload hx hb dX2_encryptBlock_727 (lv_at hl 1 rfl) ?_
  refine lv_i2b (v := (rc_nb v3.2.2.2)) hx hb dX2_encryptBlock_729 rfl ?_
  refine rc_bast (v := (rc_nb v3.2.2.2)) hx hb hK hP hD hS 3 0 rfl rfl 6 (by decide) (by decide) (by decide) (pk_vb _) dX2_encryptBlock_730 (fun H locs hP hD hS => ?_)
  have hP : va_P D vwCl [(e0, .inr (1, [.ref w0, .int lk])), (w0, .inl (ci, 64, .inl K)), (b0, .inl (cb, 8, .inl fb)), (o0, .inl (cb, 8, .inl (upd (upd (upd (upd (upd (upd (upd fo 0 (rc_nb v3.1)) 1 (rc_nb (rc_s8 v3.1))) 2 (rc_nb v3.2.1)) 3 (rc_nb (rc_s8 v3.2.1))) 4 (rc_nb v3.2.2.1)) 5 (rc_nb (rc_s8 v3.2.2.1))) 6 (rc_nb v3.2.2.2))))] H := hP
  have hD : va_D A [(e0, .inr (1, [.ref w0, .int lk])), (w0, .inl (ci, 64, .inl K)), (b0, .inl (cb, 8, .inl fb)), (o0, .inl (cb, 8, .inl (upd (upd (upd (upd (upd (upd (upd fo 0 (rc_nb v3.1)) 1 (rc_nb (rc_s8 v3.1))) 2 (rc_nb v3.2.1)) 3 (rc_nb (rc_s8 v3.2.1))) 4 (rc_nb v3.2.2.1)) 5 (rc_nb (rc_s8 v3.2.2.1))) 6 (rc_nb v3.2.2.2))))] := hD
  refine lv_aload_n hx hb dX2_encryptBlock_731 rfl (lv_at hl 8 rfl) ?_
  refine lv_iload hx hb dX2_encryptBlock_732 (lv_at hl 9 rfl) ?_
  refine lv_bipush (v := 7) hx hb dX2_encryptBlock_734 (by decide) ?_
  refine lv_iadd hx hb dX2_encryptBlock_736 ?_
  refine lv_iload hx hb dX2_encryptBlock_737 (lv_at hl 1 rfl) ?_
  refine lv_bipush (v := 8) hx hb dX2_encryptBlock_739 (by decide) ?_
  refine lv_ishr hx hb dX2_encryptBlock_741 ?_
  refine lv_i2b (v := (rc_nb (rc_s8 v3.2.2.2))) hx hb dX2_encryptBlock_742 rfl ?_
  refine rc_bast (v := (rc_nb (rc_s8 v3.2.2.2))) hx hb hK hP hD hS 3 0 rfl rfl 7 (by decide) (by decide) (by decide) (pk_vb _) dX2_encryptBlock_743 (fun H locs hP hD hS => ?_)
  have hP : va_P D vwCl [(e0, .inr (1, [.ref w0, .int lk])), (w0, .inl (ci, 64, .inl K)), (b0, .inl (cb, 8, .inl fb)), (o0, .inl (cb, 8, .inl (upd (upd (upd (upd (upd (upd (upd (upd fo 0 (rc_nb v3.1)) 1 (rc_nb (rc_s8 v3.1))) 2 (rc_nb v3.2.1)) 3 (rc_nb (rc_s8 v3.2.1))) 4 (rc_nb v3.2.2.1)) 5 (rc_nb (rc_s8 v3.2.2.1))) 6 (rc_nb v3.2.2.2)) 7 (rc_nb (rc_s8 v3.2.2.2)))))] H := hP
  have hD : va_D A [(e0, .inr (1, [.ref w0, .int lk])), (w0, .inl (ci, 64, .inl K)), (b0, .inl (cb, 8, .inl fb)), (o0, .inl (cb, 8, .inl (upd (upd (upd (upd (upd (upd (upd (upd fo 0 (rc_nb v3.1)) 1 (rc_nb (rc_s8 v3.1))) 2 (rc_nb v3.2.1)) 3 (rc_nb (rc_s8 v3.2.1))) 4 (rc_nb v3.2.2.1)) 5 (rc_nb (rc_s8 v3.2.2.1))) 6 (rc_nb v3.2.2.2)) 7 (rc_nb (rc_s8 v3.2.2.2)))))] := hD
  have e9 : ∀ j, j < 8 → (upd (upd (upd (upd (upd (upd (upd (upd fo 0 (rc_nb v3.1)) 1 (rc_nb (rc_s8 v3.1))) 2 (rc_nb v3.2.1)) 3 (rc_nb (rc_s8 v3.2.1))) 4 (rc_nb v3.2.2.1)) 5 (rc_nb (rc_s8 v3.2.2.1))) 6 (rc_nb v3.2.2.2)) 7 (rc_nb (rc_s8 v3.2.2.2))) j = rc_enc K fb j := by
    intro j hj
    have e8 : rc_enc K fb = rc_st v3 := by
      rw [← hv3, ← hv2, ← hv1]
      rfl
    rw [e8]
    rcases (by omega : j = 0 ∨ j = 1 ∨ j = 2 ∨ j = 3 ∨ j = 4 ∨ j = 5 ∨ j = 6 ∨ j = 7) with rfl | rfl | rfl | rfl | rfl | rfl | rfl | rfl <;> rfl
  have hP9 : va_P D vwCl [(e0, .inr (1, [.ref w0, .int lk])), (w0, .inl (ci, 64, .inl K)), (b0, .inl (cb, 8, .inl fb)), (o0, .inl (cb, 8, .inl (rc_enc K fb)))] _ := rc_fn hP 3 (rc_enc K fb) rfl e9
  have hD9 : va_D A [(e0, .inr (1, [.ref w0, .int lk])), (w0, .inl (ci, 64, .inl K)), (b0, .inl (cb, 8, .inl fb)), (o0, .inl (cb, 8, .inl (rc_enc K fb)))] := hD.set (p := 3) rfl
  exact W.vret hx hb hr (fun t9 ht hW => ⟨⟨(), rfl, trivial, by rw [ht]; exact hP9, hD9⟩, hS.F ht⟩) hS.2.2 dX2_encryptBlock_744
end
section
/-! RC2Engine.decryptBlock: its three loops, and the method -/
def rc_dn (k : Nat) : Int32 := nI k + Int32.ofInt (-4)
theorem rc_dn_s (j : Nat) : rc_dn (4 * (j + 1)) = nI (4 * j) := by
  have h : nI (4 * (j + 1)) = nI (4 * j) + 4 := (nI_add (4 * j) 4).symm
  unfold rc_dn
  rw [h, show Int32.ofInt (-4) = -4 from rfl, ← Int32.sub_eq_add_neg, Int32.add_sub_cancel]
set_option maxHeartbeats 4000000 in
set_option maxRecDepth 100000 in
theorem dec_loop1 {p : Program} {l : Launch} {e : Env} {R : Room} {s : State} {m : MethodId} {args : Array Value} {below : List Frame} {meth : Method} {c : Code} {cells slots : Nat} {Q : State → Prop} {D : va_G} {cb ci : ClassId} {e0 w0 b0 o0 : Nat} {lk : Int32} {K fb fo : Nat → Int32} {H : Heap} {locs : List Loc} (hx : p.tables.exec = Jvm.exec) (hb : c.code = cX2_decryptBlock) (hml : c.maxLocals = 10) (hown : s.vm.findClass RX2 = some m.cls) (hts : ∀ w ∈ lw_all, w.before args s = true) (hK : va_K D vwCl (rc_ty cb ci) s) (hR1 : 1 ≤ R.frames) (hR2 : 22 ≤ R.locals) (hc : cells ≤ R.cells) (hs : slots ≤ R.slots) (hP : va_P D vwCl [(e0, .inr (1, [.ref w0, .int lk])), (w0, .inl (ci, 64, .inl K)), (b0, .inl (cb, 8, .inl fb)), (o0, .inl (cb, 8, .inl fo))] H) (u : rc_V)
    (kk : ∀ ls : Array Slot, lv_has ls 10 [(9, .int (rc_dn 44)), (5, .int u.2.2.2), (6, .int u.2.2.1), (7, .int u.2.1), (8, .int u.1), (0, .ref e0), (1, .ref b0), (2, .int 0), (3, .ref o0), (4, .int 0)] → W p l e R s m args below meth c H locs cells slots Q (F0 m 249 ls [])) :
    ∀ (k : Nat) (v : rc_V), k ≤ 5 → rc_umixN K 11 k v = u → ∀ ls : Array Slot, lv_has ls 10 [(9, .int (rc_dn (4 * (11 + k)))), (5, .int v.2.2.2), (6, .int v.2.2.1), (7, .int v.2.1), (8, .int v.1), (0, .ref e0), (1, .ref b0), (2, .int 0), (3, .ref o0), (4, .int 0)] → W p l e R s m args below meth c H locs cells slots Q (F0 m 102 ls []) := by
  intro k
  induction k with
  | zero =>
    intro v hn hu ls hl
    obtain rfl : v = u := hu
    refine lv_iload hx hb dX2_decryptBlock_102 (lv_at hl 0 rfl) ?_
    refine lv_bipush (v := 44) hx hb dX2_decryptBlock_104 (by decide) ?_
    refine lv_icmp_lt (tgt := 249) hx hb dX2_decryptBlock_106 (by decide) (fun c1 => ?_) (fun c1 => ?_)
    · exact kk ls hl
    · exact absurd (by decide) c1
  | succ k ih =>
    intro v hn hu ls hl
    rw [show rc_dn (4 * (11 + (k + 1))) = nI (4 * (11 + k)) from rc_dn_s (11 + k)] at hl
    refine lv_iload hx hb dX2_decryptBlock_102 (lv_at hl 0 rfl) ?_
    refine lv_bipush (v := 44) hx hb dX2_decryptBlock_104 (by decide) ?_
    refine lv_icmp_lt (tgt := 249) hx hb dX2_decryptBlock_106 (by decide) (fun c1 => ?_) (fun c1 => ?_)
    · exact absurd c1 (nI_nlt (a := 4 * (11 + k)) (b := 44) (by omega) (by omega))
    · skip
      refine lv_aload_n hx hb dX2_decryptBlock_109 rfl (lv_at hl 5 rfl) ?_
      refine lv_iload hx hb dX2_decryptBlock_110 (lv_at hl 1 rfl) ?_
      refine lv_bipush (v := 11) hx hb dX2_decryptBlock_112 (by decide) ?_
      refine vp_callSi (W.runV (As := [.int v.2.2.2, .int 11]) (rest := []) ⟨hx, hb, hml, hown, hts⟩ (met_rot l e0 v.2.2.2 11) (cwV 2 hts (lw_V q229 q231 qs4 q8 q232) rfl rfl rfl (by decide +kernel) ⟨hR1, hR2⟩) ⟨fun _ _ _ _ q => q, va_recv hK hP (ci := 1) (q0 := 0) rfl rfl, fun _ _ _ => rfl⟩ rfl rfl hl.1 rfl (lv_room (Nat.le_of_ble_eq_true rfl)) dX2_decryptBlock_114 ⟨hc, hs⟩) (fun r hr => ?_)
      obtain rfl : r = (rc_rot v.2.2.2 11) := hr
      refine lv_iload hx hb dX2_decryptBlock_117 (lv_at hl 4 rfl) ?_
      refine lv_iload hx hb dX2_decryptBlock_119 (lv_at hl 2 rfl) ?_
      refine lv_iconst (v := (-1)) hx hb dX2_decryptBlock_121 (by decide) ?_
      refine lv_ixor hx hb dX2_decryptBlock_122 ?_
      refine lv_iand hx hb dX2_decryptBlock_123 ?_
      refine lv_iload hx hb dX2_decryptBlock_124 (lv_at hl 3 rfl) ?_
      refine lv_iload hx hb dX2_decryptBlock_126 (lv_at hl 2 rfl) ?_
      refine lv_iand hx hb dX2_decryptBlock_128 ?_
      refine lv_iadd hx hb dX2_decryptBlock_129 ?_
      refine lv_aload_n hx hb dX2_decryptBlock_130 rfl (lv_at hl 5 rfl) ?_
      refine va_get (D := D) (ci := 1) (v := .ref w0) (C := RX2) (T := TX2) (N := 2) hx hb hts in_X2 hown hK hP 0 rfl rfl 0 (by decide) (hts _ q39) (fun _ h9 => h9) rfl dX2_decryptBlock_131 ?_
      refine lv_iload hx hb dX2_decryptBlock_134 (lv_at hl 0 rfl) ?_
      refine lv_iconst (v := 3) hx hb dX2_decryptBlock_136 (by decide) ?_
      refine lv_iadd hx hb dX2_decryptBlock_137 ?_
      refine rc_iald hx hb hK hP 1 1 rfl rfl (4 * (11 + k) + 3) (nI_add _ 3) (by omega) (by decide) dX2_decryptBlock_138 ?_
      refine lv_iadd hx hb dX2_decryptBlock_139 ?_
      refine lv_isub hx hb dX2_decryptBlock_140 ?_
      refine rc_top (rc_ud K (4 * (11 + k)) v) rfl ?_
      refine lv_istore (lv' := [(5, .int (rc_ud K (4 * (11 + k)) v)), (9, .int (nI (4 * (11 + k)))), (6, .int v.2.2.1), (7, .int v.2.1), (8, .int v.1), (0, .ref e0), (1, .ref b0), (2, .int 0), (3, .ref o0), (4, .int 0)]) hx hb dX2_decryptBlock_141 hl (by decide) rfl (fun ls hl => ?_)
      refine lv_aload_n hx hb dX2_decryptBlock_143 rfl (lv_at hl 5 rfl) ?_
      refine lv_iload hx hb dX2_decryptBlock_144 (lv_at hl 2 rfl) ?_
      refine lv_bipush (v := 13) hx hb dX2_decryptBlock_146 (by decide) ?_
      refine vp_callSi (W.runV (As := [.int v.2.2.1, .int 13]) (rest := []) ⟨hx, hb, hml, hown, hts⟩ (met_rot l e0 v.2.2.1 13) (cwV 2 hts (lw_V q229 q231 qs4 q8 q232) rfl rfl rfl (by decide +kernel) ⟨hR1, hR2⟩) ⟨fun _ _ _ _ q => q, va_recv hK hP (ci := 1) (q0 := 0) rfl rfl, fun _ _ _ => rfl⟩ rfl rfl hl.1 rfl (lv_room (Nat.le_of_ble_eq_true rfl)) dX2_decryptBlock_148 ⟨hc, hs⟩) (fun r hr => ?_)
      obtain rfl : r = (rc_rot v.2.2.1 13) := hr
      refine lv_iload hx hb dX2_decryptBlock_151 (lv_at hl 0 rfl) ?_
      refine lv_iload hx hb dX2_decryptBlock_153 (lv_at hl 3 rfl) ?_
      refine lv_iconst (v := (-1)) hx hb dX2_decryptBlock_155 (by decide) ?_
      refine lv_ixor hx hb dX2_decryptBlock_156 ?_
      refine lv_iand hx hb dX2_decryptBlock_157 ?_
      refine lv_iload hx hb dX2_decryptBlock_158 (lv_at hl 4 rfl) ?_
      refine lv_iload hx hb dX2_decryptBlock_160 (lv_at hl 3 rfl) ?_
      refine lv_iand hx hb dX2_decryptBlock_162 ?_
      refine lv_iadd hx hb dX2_decryptBlock_163 ?_
      refine lv_aload_n hx hb dX2_decryptBlock_164 rfl (lv_at hl 5 rfl) ?_
      refine va_get (D := D) (ci := 1) (v := .ref w0) (C := RX2) (T := TX2) (N := 2) hx hb hts in_X2 hown hK hP 0 rfl rfl 0 (by decide) (hts _ q39) (fun _ h9 => h9) rfl dX2_decryptBlock_165 ?_
      refine lv_iload hx hb dX2_decryptBlock_168 (lv_at hl 1 rfl) ?_
      refine lv_iconst (v := 2) hx hb dX2_decryptBlock_170 (by decide) ?_
      refine lv_iadd hx hb dX2_decryptBlock_171 ?_
      refine rc_iald hx hb hK hP 1 1 rfl rfl (4 * (11 + k) + 2) (nI_add _ 2) (by omega) (by decide) dX2_decryptBlock_172 ?_
      refine lv_iadd hx hb dX2_decryptBlock_173 ?_
      refine lv_isub hx hb dX2_decryptBlock_174 ?_
      refine rc_top (rc_uc K (4 * (11 + k)) v) rfl ?_
      refine lv_istore (lv' := [(6, .int (rc_uc K (4 * (11 + k)) v)), (5, .int (rc_ud K (4 * (11 + k)) v)), (9, .int (nI (4 * (11 + k)))), (7, .int v.2.1), (8, .int v.1), (0, .ref e0), (1, .ref b0), (2, .int 0), (3, .ref o0), (4, .int 0)]) hx hb dX2_decryptBlock_175 hl (by decide) rfl (fun ls hl => ?_)
      refine lv_aload_n hx hb dX2_decryptBlock_177 rfl (lv_at hl 5 rfl) ?_
      refine lv_iload hx hb dX2_decryptBlock_178 (lv_at hl 3 rfl) ?_
      refine lv_bipush (v := 14) hx hb dX2_decryptBlock_180 (by decide) ?_
      refine vp_callSi (W.runV (As := [.int v.2.1, .int 14]) (rest := []) ⟨hx, hb, hml, hown, hts⟩ (met_rot l e0 v.2.1 14) (cwV 2 hts (lw_V q229 q231 qs4 q8 q232) rfl rfl rfl (by decide +kernel) ⟨hR1, hR2⟩) ⟨fun _ _ _ _ q => q, va_recv hK hP (ci := 1) (q0 := 0) rfl rfl, fun _ _ _ => rfl⟩ rfl rfl hl.1 rfl (lv_room (Nat.le_of_ble_eq_true rfl)) dX2_decryptBlock_182 ⟨hc, hs⟩) (fun r hr => ?_)
      obtain rfl : r = (rc_rot v.2.1 14) := hr
      refine lv_iload hx hb dX2_decryptBlock_185 (lv_at hl 0 rfl) ?_
      refine lv_iload hx hb dX2_decryptBlock_187 (lv_at hl 4 rfl) ?_
      refine lv_iconst (v := (-1)) hx hb dX2_decryptBlock_189 (by decide) ?_
      refine lv_ixor hx hb dX2_decryptBlock_190 ?_
      refine lv_iand hx hb dX2_decryptBlock_191 ?_
      refine lv_iload hx hb dX2_decryptBlock_192 (lv_at hl 1 rfl) ?_
      refine lv_iload hx hb dX2_decryptBlock_194 (lv_at hl 4 rfl) ?_
      refine lv_iand hx hb dX2_decryptBlock_196 ?_
      refine lv_iadd hx hb dX2_decryptBlock_197 ?_
      refine lv_aload_n hx hb dX2_decryptBlock_198 rfl (lv_at hl 5 rfl) ?_
      refine va_get (D := D) (ci := 1) (v := .ref w0) (C := RX2) (T := TX2) (N := 2) hx hb hts in_X2 hown hK hP 0 rfl rfl 0 (by decide) (hts _ q39) (fun _ h9 => h9) rfl dX2_decryptBlock_199 ?_
      refine lv_iload hx hb dX2_decryptBlock_202 (lv_at hl 2 rfl) ?_
      refine lv_iconst (v := 1) hx hb dX2_decryptBlock_204 (by decide) ?_
      refine lv_iadd hx hb dX2_decryptBlock_205 ?_
      refine rc_iald hx hb hK hP 1 1 rfl rfl (4 * (11 + k) + 1) (nI_add _ 1) (by omega) (by decide) dX2_decryptBlock_206 ?_
      refine lv_iadd hx hb dX2_decryptBlock_207 ?_
      refine lv_isub hx hb dX2_decryptBlock_208 ?_
      refine rc_top (rc_ub K (4 * (11 + k)) v) rfl ?_
      refine lv_istore (lv' := [(7, .int (rc_ub K (4 * (11 + k)) v)), (6, .int (rc_uc K (4 * (11 + k)) v)), (5, .int (rc_ud K (4 * (11 + k)) v)), (9, .int (nI (4 * (11 + k)))), (8, .int v.1), (0, .ref e0), (1, .ref b0), (2, .int 0), (3, .ref o0), (4, .int 0)]) hx hb dX2_decryptBlock_209 hl (by decide) rfl (fun ls hl => ?_)
      refine lv_aload_n hx hb dX2_decryptBlock_211 rfl (lv_at hl 5 rfl) ?_
      refine lv_iload hx hb dX2_decryptBlock_212 (lv_at hl 4 rfl) ?_
      refine lv_bipush (v := 15) hx hb dX2_decryptBlock_214 (by decide) ?_
      refine vp_callSi (W.runV (As := [.int v.1, .int 15]) (rest := []) ⟨hx, hb, hml, hown, hts⟩ (met_rot l e0 v.1 15) (cwV 2 hts (lw_V q229 q231 qs4 q8 q232) rfl rfl rfl (by decide +kernel) ⟨hR1, hR2⟩) ⟨fun _ _ _ _ q => q, va_recv hK hP (ci := 1) (q0 := 0) rfl rfl, fun _ _ _ => rfl⟩ rfl rfl hl.1 rfl (lv_room (Nat.le_of_ble_eq_true rfl)) dX2_decryptBlock_216 ⟨hc, hs⟩) (fun r hr => ?_)
      obtain rfl : r = (rc_rot v.1 15) := hr
      refine lv_iload hx hb dX2_decryptBlock_219 (lv_at hl 0 rfl) ?_
      refine lv_iload hx hb dX2_decryptBlock_221 (lv_at hl 2 rfl) ?_
      refine lv_iconst (v := (-1)) hx hb dX2_decryptBlock_223 (by decide) ?_
      refine lv_ixor hx hb dX2_decryptBlock_224 ?_
      refine lv_iand hx hb dX2_decryptBlock_225 ?_
      refine lv_iload hx hb dX2_decryptBlock_226 (lv_at hl 1 rfl) ?_
      refine lv_iload hx hb dX2_decryptBlock_228 (lv_at hl 2 rfl) ?_
      refine lv_iand hx hb dX2_decryptBlock_230 ?_
      refine lv_iadd hx hb dX2_decryptBlock_231 ?_
      refine lv_aload_n hx hb dX2_decryptBlock_232 rfl (lv_at hl 5 rfl) ?_
      refine va_get (D := D) (ci := 1) (v := .ref w0) (C := RX2) (T := TX2) (N := 2) hx hb hts in_X2 hown hK hP 0 rfl rfl 0 (by decide) (hts _ q39) (fun _ h9 => h9) rfl dX2_decryptBlock_233 ?_
      refine lv_iload hx hb dX2_decryptBlock_236 (lv_at hl 3 rfl) ?_
      refine rc_iald hx hb hK hP 1 1 rfl rfl (4 * (11 + k)) rfl (by omega) (by decide) dX2_decryptBlock_238 ?_
      refine lv_iadd hx hb dX2_decryptBlock_239 ?_
      refine lv_isub hx hb dX2_decryptBlock_240 ?_
      refine rc_top (rc_ua K (4 * (11 + k)) v) rfl ?_
      refine lv_istore (lv' := [(8, .int (rc_ua K (4 * (11 + k)) v)), (7, .int (rc_ub K (4 * (11 + k)) v)), (6, .int (rc_uc K (4 * (11 + k)) v)), (5, .int (rc_ud K (4 * (11 + k)) v)), (9, .int (nI (4 * (11 + k)))), (0, .ref e0), (1, .ref b0), (2, .int 0), (3, .ref o0), (4, .int 0)]) hx hb dX2_decryptBlock_241 hl (by decide) rfl (fun ls hl => ?_)
      refine lv_iinc (v := (rc_dn (4 * (11 + k)))) (lv' := [(9, .int (rc_dn (4 * (11 + k)))), (8, .int (rc_ua K (4 * (11 + k)) v)), (7, .int (rc_ub K (4 * (11 + k)) v)), (6, .int (rc_uc K (4 * (11 + k)) v)), (5, .int (rc_ud K (4 * (11 + k)) v)), (0, .ref e0), (1, .ref b0), (2, .int 0), (3, .ref o0), (4, .int 0)]) hx hb dX2_decryptBlock_243 hl (k := 4) rfl (rfl) (by decide) rfl (fun ls hl => ?_)
      refine lv_goto (tgt := 102) hx hb dX2_decryptBlock_246 (by decide) ?_
      exact ih (rc_umix K (4 * (11 + k)) v) (by omega) hu ls (lv_sub hl [0, 4, 3, 2, 1, 5, 6, 7, 8, 9] rfl)
set_option maxHeartbeats 4000000 in
set_option maxRecDepth 100000 in
theorem dec_loop2 {p : Program} {l : Launch} {e : Env} {R : Room} {s : State} {m : MethodId} {args : Array Value} {below : List Frame} {meth : Method} {c : Code} {cells slots : Nat} {Q : State → Prop} {D : va_G} {cb ci : ClassId} {e0 w0 b0 o0 : Nat} {lk : Int32} {K fb fo : Nat → Int32} {H : Heap} {locs : List Loc} (hx : p.tables.exec = Jvm.exec) (hb : c.code = cX2_decryptBlock) (hml : c.maxLocals = 10) (hown : s.vm.findClass RX2 = some m.cls) (hts : ∀ w ∈ lw_all, w.before args s = true) (hK : va_K D vwCl (rc_ty cb ci) s) (hR1 : 1 ≤ R.frames) (hR2 : 22 ≤ R.locals) (hc : cells ≤ R.cells) (hs : slots ≤ R.slots) (hP : va_P D vwCl [(e0, .inr (1, [.ref w0, .int lk])), (w0, .inl (ci, 64, .inl K)), (b0, .inl (cb, 8, .inl fb)), (o0, .inl (cb, 8, .inl fo))] H) (u : rc_V)
    (kk : ∀ ls : Array Slot, lv_has ls 10 [(9, .int (rc_dn 20)), (5, .int u.2.2.2), (6, .int u.2.2.1), (7, .int u.2.1), (8, .int u.1), (0, .ref e0), (1, .ref b0), (2, .int 0), (3, .ref o0), (4, .int 0)] → W p l e R s m args below meth c H locs cells slots Q (F0 m 460 ls [])) :
    ∀ (k : Nat) (v : rc_V), k ≤ 6 → rc_umixN K 5 k v = u → ∀ ls : Array Slot, lv_has ls 10 [(9, .int (rc_dn (4 * (5 + k)))), (5, .int v.2.2.2), (6, .int v.2.2.1), (7, .int v.2.1), (8, .int v.1), (0, .ref e0), (1, .ref b0), (2, .int 0), (3, .ref o0), (4, .int 0)] → W p l e R s m args below meth c H locs cells slots Q (F0 m 313 ls []) := by
  intro k
  induction k with
  | zero =>
    intro v hn hu ls hl
    obtain rfl : v = u := hu
    refine lv_iload hx hb dX2_decryptBlock_313 (lv_at hl 0 rfl) ?_
    refine lv_bipush (v := 20) hx hb dX2_decryptBlock_315 (by decide) ?_
    refine lv_icmp_lt (tgt := 460) hx hb dX2_decryptBlock_317 (by decide) (fun c1 => ?_) (fun c1 => ?_)
    · exact kk ls hl
    · exact absurd (by decide) c1
  | succ k ih =>
    intro v hn hu ls hl
    rw [show rc_dn (4 * (5 + (k + 1))) = nI (4 * (5 + k)) from rc_dn_s (5 + k)] at hl
    refine lv_iload hx hb dX2_decryptBlock_313 (lv_at hl 0 rfl) ?_
    refine lv_bipush (v := 20) hx hb dX2_decryptBlock_315 (by decide) ?_
    refine lv_icmp_lt (tgt := 460) hx hb dX2_decryptBlock_317 (by decide) (fun c1 => ?_) (fun c1 => ?_)
    · exact absurd c1 (nI_nlt (a := 4 * (5 + k)) (b := 20) (by omega) (by omega))
    · skip
      refine lv_aload_n hx hb dX2_decryptBlock_320 rfl (lv_at hl 5 rfl) ?_
      refine lv_iload hx hb dX2_decryptBlock_321 (lv_at hl 1 rfl) ?_
      refine lv_bipush (v := 11) hx hb dX2_decryptBlock_323 (by decide) ?_
      refine vp_callSi (W.runV (As := [.int v.2.2.2, .int 11]) (rest := []) ⟨hx, hb, hml, hown, hts⟩ (met_rot l e0 v.2.2.2 11) (cwV 2 hts (lw_V q229 q231 qs4 q8 q232) rfl rfl rfl (by decide +kernel) ⟨hR1, hR2⟩) ⟨fun _ _ _ _ q => q, va_recv hK hP (ci := 1) (q0 := 0) rfl rfl, fun _ _ _ => rfl⟩ rfl rfl hl.1 rfl (lv_room (Nat.le_of_ble_eq_true rfl)) dX2_decryptBlock_325 ⟨hc, hs⟩) (fun r hr => ?_)
      obtain rfl : r = (rc_rot v.2.2.2 11) := hr
      refine lv_iload hx hb dX2_decryptBlock_328 (lv_at hl 4 rfl) ?_
      refine lv_iload hx hb dX2_decryptBlock_330 (lv_at hl 2 rfl) ?_
      refine lv_iconst (v := (-1)) hx hb dX2_decryptBlock_332 (by decide) ?_
      refine lv_ixor hx hb dX2_decryptBlock_333 ?_
      refine lv_iand hx hb dX2_decryptBlock_334 ?_
      refine lv_iload hx hb dX2_decryptBlock_335 (lv_at hl 3 rfl) ?_
      refine lv_iload hx hb dX2_decryptBlock_337 (lv_at hl 2 rfl) ?_
      refine lv_iand hx hb dX2_decryptBlock_339 ?_
      refine lv_iadd hx hb dX2_decryptBlock_340 ?_
      refine lv_aload_n hx hb dX2_decryptBlock_341 rfl (lv_at hl 5 rfl) ?_
      refine va_get (D := D) (ci := 1) (v := .ref w0) (C := RX2) (T := TX2) (N := 2) hx hb hts in_X2 hown hK hP 0 rfl rfl 0 (by decide) (hts _ q39) (fun _ h9 => h9) rfl dX2_decryptBlock_342 ?_
      refine lv_iload hx hb dX2_decryptBlock_345 (lv_at hl 0 rfl) ?_
      refine lv_iconst (v := 3) hx hb dX2_decryptBlock_347 (by decide) ?_
      refine lv_iadd hx hb dX2_decryptBlock_348 ?_
      refine rc_iald hx hb hK hP 1 1 rfl rfl (4 * (5 + k) + 3) (nI_add _ 3) (by omega) (by decide) dX2_decryptBlock_349 ?_
      refine lv_iadd hx hb dX2_decryptBlock_350 ?_
      refine lv_isub hx hb dX2_decryptBlock_351 ?_
      refine rc_top (rc_ud K (4 * (5 + k)) v) rfl ?_
      refine lv_istore (lv' := [(5, .int (rc_ud K (4 * (5 + k)) v)), (9, .int (nI (4 * (5 + k)))), (6, .int v.2.2.1), (7, .int v.2.1), (8, .int v.1), (0, .ref e0), (1, .ref b0), (2, .int 0), (3, .ref o0), (4, .int 0)]) hx hb dX2_decryptBlock_352 hl (by decide) rfl (fun ls hl => ?_)
      refine lv_aload_n hx hb dX2_decryptBlock_354 rfl (lv_at hl 5 rfl) ?_
      refine lv_iload hx hb dX2_decryptBlock_355 (lv_at hl 2 rfl) ?_
      refine lv_bipush (v := 13) hx hb dX2_decryptBlock_357 (by decide) ?_
      refine vp_callSi (W.runV (As := [.int v.2.2.1, .int 13]) (rest := []) ⟨hx, hb, hml, hown, hts⟩ (met_rot l e0 v.2.2.1 13) (cwV 2 hts (lw_V q229 q231 qs4 q8 q232) rfl rfl rfl (by decide +kernel) ⟨hR1, hR2⟩) ⟨fun _ _ _ _ q => q, va_recv hK hP (ci := 1) (q0 := 0) rfl rfl, fun _ _ _ => rfl⟩ rfl rfl hl.1 rfl (lv_room (Nat.le_of_ble_eq_true rfl)) dX2_decryptBlock_359 ⟨hc, hs⟩) (fun r hr => ?_)
      obtain rfl : r = (rc_rot v.2.2.1 13) := hr
      refine lv_iload hx hb dX2_decryptBlock_362 (lv_at hl 0 rfl) ?_
      refine lv_iload hx hb dX2_decryptBlock_364 (lv_at hl 3 rfl) ?_
      refine lv_iconst (v := (-1)) hx hb dX2_decryptBlock_366 (by decide) ?_
      refine lv_ixor hx hb dX2_decryptBlock_367 ?_
      refine lv_iand hx hb dX2_decryptBlock_368 ?_
      refine lv_iload hx hb dX2_decryptBlock_369 (lv_at hl 4 rfl) ?_
      refine lv_iload hx hb dX2_decryptBlock_371 (lv_at hl 3 rfl) ?_
      refine lv_iand hx hb dX2_decryptBlock_373 ?_
      refine lv_iadd hx hb dX2_decryptBlock_374 ?_
      refine lv_aload_n hx hb dX2_decryptBlock_375 rfl (lv_at hl 5 rfl) ?_
      refine va_get (D := D) (ci := 1) (v := .ref w0) (C := RX2) (T := TX2) (N := 2) hx hb hts in_X2 hown hK hP 0 rfl rfl 0 (by decide) (hts _ q39) (fun _ h9 => h9) rfl dX2_decryptBlock_376 ?_
      refine lv_iload hx hb dX2_decryptBlock_379 (lv_at hl 1 rfl) ?_
      refine lv_iconst (v := 2) hx hb dX2_decryptBlock_381 (by decide) ?_
      refine lv_iadd hx hb dX2_decryptBlock_382 ?_
      refine rc_iald hx hb hK hP 1 1 rfl rfl (4 * (5 + k) + 2) (nI_add _ 2) (by omega) (by decide) dX2_decryptBlock_383 ?_
      refine lv_iadd hx hb dX2_decryptBlock_384 ?_
      refine lv_isub hx hb dX2_decryptBlock_385 ?_
      refine rc_top (rc_uc K (4 * (5 + k)) v) rfl ?_
      refine lv_istore (lv' := [(6, .int (rc_uc K (4 * (5 + k)) v)), (5, .int (rc_ud K (4 * (5 + k)) v)), (9, .int (nI (4 * (5 + k)))), (7, .int v.2.1), (8, .int v.1), (0, .ref e0), (1, .ref b0), (2, .int 0), (3, .ref o0), (4, .int 0)]) hx hb dX2_decryptBlock_386 hl (by decide) rfl (fun ls hl => ?_)
      refine lv_aload_n hx hb dX2_decryptBlock_388 rfl (lv_at hl 5 rfl) ?_
      refine lv_iload hx hb dX2_decryptBlock_389 (lv_at hl 3 rfl) ?_
      refine lv_bipush (v := 14) hx hb dX2_decryptBlock_391 (by decide) ?_
      refine vp_callSi (W.runV (As := [.int v.2.1, .int 14]) (rest := []) ⟨hx, hb, hml, hown, hts⟩ (met_rot l e0 v.2.1 14) (cwV 2 hts (lw_V q229 q231 qs4 q8 q232) rfl rfl rfl (by decide +kernel) ⟨hR1, hR2⟩) ⟨fun _ _ _ _ q => q, va_recv hK hP (ci := 1) (q0 := 0) rfl rfl, fun _ _ _ => rfl⟩ rfl rfl hl.1 rfl (lv_room (Nat.le_of_ble_eq_true rfl)) dX2_decryptBlock_393 ⟨hc, hs⟩) (fun r hr => ?_)
      obtain rfl : r = (rc_rot v.2.1 14) := hr
      refine lv_iload hx hb dX2_decryptBlock_396 (lv_at hl 0 rfl) ?_
      refine lv_iload hx hb dX2_decryptBlock_398 (lv_at hl 4 rfl) ?_
      refine lv_iconst (v := (-1)) hx hb dX2_decryptBlock_400 (by decide) ?_
      refine lv_ixor hx hb dX2_decryptBlock_401 ?_
      refine lv_iand hx hb dX2_decryptBlock_402 ?_
      refine lv_iload hx hb dX2_decryptBlock_403 (lv_at hl 1 rfl) ?_
      refine lv_iload hx hb dX2_decryptBlock_405 (lv_at hl 4 rfl) ?_
      refine lv_iand hx hb dX2_decryptBlock_407 ?_
      refine lv_iadd hx hb dX2_decryptBlock_408 ?_
      refine lv_aload_n hx hb dX2_decryptBlock_409 rfl (lv_at hl 5 rfl) ?_
      refine va_get (D := D) (ci := 1) (v := .ref w0) (C := RX2) (T := TX2) (N := 2) hx hb hts in_X2 hown hK hP 0 rfl rfl 0 (by decide) (hts _ q39) (fun _ h9 => h9) rfl dX2_decryptBlock_410 ?_
      refine lv_iload hx hb dX2_decryptBlock_413 (lv_at hl 2 rfl) ?_
      refine lv_iconst (v := 1) hx hb dX2_decryptBlock_415 (by decide) ?_
      refine lv_iadd hx hb dX2_decryptBlock_416 ?_
      refine rc_iald hx hb hK hP 1 1 rfl rfl (4 * (5 + k) + 1) (nI_add _ 1) (by omega) (by decide) dX2_decryptBlock_417 ?_
      refine lv_iadd hx hb dX2_decryptBlock_418 ?_
      refine lv_isub hx hb dX2_decryptBlock_419 ?_
      refine rc_top (rc_ub K (4 * (5 + k)) v) rfl ?_
      refine lv_istore (lv' := [(7, .int (rc_ub K (4 * (5 + k)) v)), (6, .int (rc_uc K (4 * (5 + k)) v)), (5, .int (rc_ud K (4 * (5 + k)) v)), (9, .int (nI (4 * (5 + k)))), (8, .int v.1), (0, .ref e0), (1, .ref b0), (2, .int 0), (3, .ref o0), (4, .int 0)]) hx hb dX2_decryptBlock_420 hl (by decide) rfl (fun ls hl => ?_)
      refine lv_aload_n hx hb dX2_decryptBlock_422 rfl (lv_at hl 5 rfl) ?_
      refine lv_iload hx hb dX2_decryptBlock_423 (lv_at hl 4 rfl) ?_
      refine lv_bipush (v := 15) hx hb dX2_decryptBlock_425 (by decide) ?_
      refine vp_callSi (W.runV (As := [.int v.1, .int 15]) (rest := []) ⟨hx, hb, hml, hown, hts⟩ (met_rot l e0 v.1 15) (cwV 2 hts (lw_V q229 q231 qs4 q8 q232) rfl rfl rfl (by decide +kernel) ⟨hR1, hR2⟩) ⟨fun _ _ _ _ q => q, va_recv hK hP (ci := 1) (q0 := 0) rfl rfl, fun _ _ _ => rfl⟩ rfl rfl hl.1 rfl (lv_room (Nat.le_of_ble_eq_true rfl)) dX2_decryptBlock_427 ⟨hc, hs⟩) (fun r hr => ?_)
      obtain rfl : r = (rc_rot v.1 15) := hr
      refine lv_iload hx hb dX2_decryptBlock_430 (lv_at hl 0 rfl) ?_
      refine lv_iload hx hb dX2_decryptBlock_432 (lv_at hl 2 rfl) ?_
      refine lv_iconst (v := (-1)) hx hb dX2_decryptBlock_434 (by decide) ?_
      refine lv_ixor hx hb dX2_decryptBlock_435 ?_
      refine lv_iand hx hb dX2_decryptBlock_436 ?_
      refine lv_iload hx hb dX2_decryptBlock_437 (lv_at hl 1 rfl) ?_
      refine lv_iload hx hb dX2_decryptBlock_439 (lv_at hl 2 rfl) ?_
      refine lv_iand hx hb dX2_decryptBlock_441 ?_
      refine lv_iadd hx hb dX2_decryptBlock_442 ?_
      refine lv_aload_n hx hb dX2_decryptBlock_443 rfl (lv_at hl 5 rfl) ?_
      refine va_get (D := D) (ci := 1) (v := .ref w0) (C := RX2) (T := TX2) (N := 2) hx hb hts in_X2 hown hK hP 0 rfl rfl 0 (by decide) (hts _ q39) (fun _ h9 => h9) rfl dX2_decryptBlock_444 ?_
      refine lv_iload hx hb dX2_decryptBlock_447 (lv_at hl 3 rfl) ?_
      refine rc_iald hx hb hK hP 1 1 rfl rfl (4 * (5 + k)) rfl (by omega) (by decide) dX2_decryptBlock_449 ?_
      refine lv_iadd hx hb dX2_decryptBlock_450 ?_
      refine lv_isub hx hb dX2_decryptBlock_451 ?_
      refine rc_top (rc_ua K (4 * (5 + k)) v) rfl ?_
      refine lv_istore (lv' := [(8, .int (rc_ua K (4 * (5 + k)) v)), (7, .int (rc_ub K (4 * (5 + k)) v)), (6, .int (rc_uc K (4 * (5 + k)) v)), (5, .int (rc_ud K (4 * (5 + k)) v)), (9, .int (nI (4 * (5 + k)))), (0, .ref e0), (1, .ref b0), (2, .int 0), (3, .ref o0), (4, .int 0)]) hx hb dX2_decryptBlock_452 hl (by decide) rfl (fun ls hl => ?_)
      refine lv_iinc (v := (rc_dn (4 * (5 + k)))) (lv' := [(9, .int (rc_dn (4 * (5 + k)))), (8, .int (rc_ua K (4 * (5 + k)) v)), (7, .int (rc_ub K (4 * (5 + k)) v)), (6, .int (rc_uc K (4 * (5 + k)) v)), (5, .int (rc_ud K (4 * (5 + k)) v)), (0, .ref e0), (1, .ref b0), (2, .int 0), (3, .ref o0), (4, .int 0)]) hx hb dX2_decryptBlock_454 hl (k := 4) rfl (rfl) (by decide) rfl (fun ls hl => ?_)
      refine lv_goto (tgt := 313) hx hb dX2_decryptBlock_457 (by decide) ?_
      exact ih (rc_umix K (4 * (5 + k)) v) (by omega) hu ls (lv_sub hl [0, 4, 3, 2, 1, 5, 6, 7, 8, 9] rfl)
set_option maxHeartbeats 4000000 in
set_option maxRecDepth 100000 in
theorem dec_loop3 {p : Program} {l : Launch} {e : Env} {R : Room} {s : State} {m : MethodId} {args : Array Value} {below : List Frame} {meth : Method} {c : Code} {cells slots : Nat} {Q : State → Prop} {D : va_G} {cb ci : ClassId} {e0 w0 b0 o0 : Nat} {lk : Int32} {K fb fo : Nat → Int32} {H : Heap} {locs : List Loc} (hx : p.tables.exec = Jvm.exec) (hb : c.code = cX2_decryptBlock) (hml : c.maxLocals = 10) (hown : s.vm.findClass RX2 = some m.cls) (hts : ∀ w ∈ lw_all, w.before args s = true) (hK : va_K D vwCl (rc_ty cb ci) s) (hR1 : 1 ≤ R.frames) (hR2 : 22 ≤ R.locals) (hc : cells ≤ R.cells) (hs : slots ≤ R.slots) (hP : va_P D vwCl [(e0, .inr (1, [.ref w0, .int lk])), (w0, .inl (ci, 64, .inl K)), (b0, .inl (cb, 8, .inl fb)), (o0, .inl (cb, 8, .inl fo))] H) (u : rc_V)
    (kk : ∀ ls : Array Slot, lv_has ls 10 [(9, .int (rc_dn 0)), (5, .int u.2.2.2), (6, .int u.2.2.1), (7, .int u.2.1), (8, .int u.1), (0, .ref e0), (1, .ref b0), (2, .int 0), (3, .ref o0), (4, .int 0)] → W p l e R s m args below meth c H locs cells slots Q (F0 m 669 ls [])) :
    ∀ (k : Nat) (v : rc_V), k ≤ 5 → rc_umixN K 0 k v = u → ∀ ls : Array Slot, lv_has ls 10 [(9, .int (rc_dn (4 * (0 + k)))), (5, .int v.2.2.2), (6, .int v.2.2.1), (7, .int v.2.1), (8, .int v.1), (0, .ref e0), (1, .ref b0), (2, .int 0), (3, .ref o0), (4, .int 0)] → W p l e R s m args below meth c H locs cells slots Q (F0 m 524 ls []) := by
  intro k
  induction k with
  | zero =>
    intro v hn hu ls hl
    obtain rfl : v = u := hu
    refine lv_iload hx hb dX2_decryptBlock_524 (lv_at hl 0 rfl) ?_
    refine lv_if_lt (tgt := 669) hx hb dX2_decryptBlock_526 (by decide) (fun c1 => ?_) (fun c1 => ?_)
    · exact kk ls hl
    · exact absurd (by decide) c1
  | succ k ih =>
    intro v hn hu ls hl
    rw [show rc_dn (4 * (0 + (k + 1))) = nI (4 * (0 + k)) from rc_dn_s (0 + k)] at hl
    refine lv_iload hx hb dX2_decryptBlock_524 (lv_at hl 0 rfl) ?_
    refine lv_if_lt (tgt := 669) hx hb dX2_decryptBlock_526 (by decide) (fun c1 => ?_) (fun c1 => ?_)
    · exact absurd c1 (nI_pos (by omega))
    · skip
      refine lv_aload_n hx hb dX2_decryptBlock_529 rfl (lv_at hl 5 rfl) ?_
      refine lv_iload hx hb dX2_decryptBlock_530 (lv_at hl 1 rfl) ?_
      refine lv_bipush (v := 11) hx hb dX2_decryptBlock_532 (by decide) ?_
      refine vp_callSi (W.runV (As := [.int v.2.2.2, .int 11]) (rest := []) ⟨hx, hb, hml, hown, hts⟩ (met_rot l e0 v.2.2.2 11) (cwV 2 hts (lw_V q229 q231 qs4 q8 q232) rfl rfl rfl (by decide +kernel) ⟨hR1, hR2⟩) ⟨fun _ _ _ _ q => q, va_recv hK hP (ci := 1) (q0 := 0) rfl rfl, fun _ _ _ => rfl⟩ rfl rfl hl.1 rfl (lv_room (Nat.le_of_ble_eq_true rfl)) dX2_decryptBlock_534 ⟨hc, hs⟩) (fun r hr => ?_)
      obtain rfl : r = (rc_rot v.2.2.2 11) := hr
      refine lv_iload hx hb dX2_decryptBlock_537 (lv_at hl 4 rfl) ?_
      refine lv_iload hx hb dX2_decryptBlock_539 (lv_at hl 2 rfl) ?_
      refine lv_iconst (v := (-1)) hx hb dX2_decryptBlock_541 (by decide) ?_
      refine lv_ixor hx hb dX2_decryptBlock_542 ?_
      refine lv_iand hx hb dX2_decryptBlock_543 ?_
      refine lv_iload hx hb dX2_decryptBlock_544 (lv_at hl 3 rfl) ?_
      refine lv_iload hx hb dX2_decryptBlock_546 (lv_at hl 2 rfl) ?_
      refine lv_iand hx hb dX2_decryptBlock_548 ?_
      refine lv_iadd hx hb dX2_decryptBlock_549 ?_
      refine lv_aload_n hx hb dX2_decryptBlock_550 rfl (lv_at hl 5 rfl) ?_
      refine va_get (D := D) (ci := 1) (v := .ref w0) (C := RX2) (T := TX2) (N := 2) hx hb hts in_X2 hown hK hP 0 rfl rfl 0 (by decide) (hts _ q39) (fun _ h9 => h9) rfl dX2_decryptBlock_551 ?_
      refine lv_iload hx hb dX2_decryptBlock_554 (lv_at hl 0 rfl) ?_
      refine lv_iconst (v := 3) hx hb dX2_decryptBlock_556 (by decide) ?_
      refine lv_iadd hx hb dX2_decryptBlock_557 ?_
      refine rc_iald hx hb hK hP 1 1 rfl rfl (4 * (0 + k) + 3) (nI_add _ 3) (by omega) (by decide) dX2_decryptBlock_558 ?_
      refine lv_iadd hx hb dX2_decryptBlock_559 ?_
      refine lv_isub hx hb dX2_decryptBlock_560 ?_
      refine rc_top (rc_ud K (4 * (0 + k)) v) rfl ?_
      refine lv_istore (lv' := [(5, .int (rc_ud K (4 * (0 + k)) v)), (9, .int (nI (4 * (0 + k)))), (6, .int v.2.2.1), (7, .int v.2.1), (8, .int v.1), (0, .ref e0), (1, .ref b0), (2, .int 0), (3, .ref o0), (4, .int 0)]) hx hb dX2_decryptBlock_561 hl (by decide) rfl (fun ls hl => ?_)
      refine lv_aload_n hx hb dX2_decryptBlock_563 rfl (lv_at hl 5 rfl) ?_
      refine lv_iload hx hb dX2_decryptBlock_564 (lv_at hl 2 rfl) ?_
      refine lv_bipush (v := 13) hx hb dX2_decryptBlock_566 (by decide) ?_
      refine vp_callSi (W.runV (As := [.int v.2.2.1, .int 13]) (rest := []) ⟨hx, hb, hml, hown, hts⟩ (met_rot l e0 v.2.2.1 13) (cwV 2 hts (lw_V q229 q231 qs4 q8 q232) rfl rfl rfl (by decide +kernel) ⟨hR1, hR2⟩) ⟨fun _ _ _ _ q => q, va_recv hK hP (ci := 1) (q0 := 0) rfl rfl, fun _ _ _ => rfl⟩ rfl rfl hl.1 rfl (lv_room (Nat.le_of_ble_eq_true rfl)) dX2_decryptBlock_568 ⟨hc, hs⟩) (fun r hr => ?_)
      obtain rfl : r = (rc_rot v.2.2.1 13) := hr
      refine lv_iload hx hb dX2_decryptBlock_571 (lv_at hl 0 rfl) ?_
      refine lv_iload hx hb dX2_decryptBlock_573 (lv_at hl 3 rfl) ?_
      refine lv_iconst (v := (-1)) hx hb dX2_decryptBlock_575 (by decide) ?_
      refine lv_ixor hx hb dX2_decryptBlock_576 ?_
      refine lv_iand hx hb dX2_decryptBlock_577 ?_
      refine lv_iload hx hb dX2_decryptBlock_578 (lv_at hl 4 rfl) ?_
      refine lv_iload hx hb dX2_decryptBlock_580 (lv_at hl 3 rfl) ?_
      refine lv_iand hx hb dX2_decryptBlock_582 ?_
      refine lv_iadd hx hb dX2_decryptBlock_583 ?_
      refine lv_aload_n hx hb dX2_decryptBlock_584 rfl (lv_at hl 5 rfl) ?_
      refine va_get (D := D) (ci := 1) (v := .ref w0) (C := RX2) (T := TX2) (N := 2) hx hb hts in_X2 hown hK hP 0 rfl rfl 0 (by decide) (hts _ q39) (fun _ h9 => h9) rfl dX2_decryptBlock_585 ?_
      refine lv_iload hx hb dX2_decryptBlock_588 (lv_at hl 1 rfl) ?_
      refine lv_iconst (v := 2) hx hb dX2_decryptBlock_590 (by decide) ?_
      refine lv_iadd hx hb dX2_decryptBlock_591 ?_
      refine rc_iald hx hb hK hP 1 1 rfl rfl (4 * (0 + k) + 2) (nI_add _ 2) (by omega) (by decide) dX2_decryptBlock_592 ?_
      refine lv_iadd hx hb dX2_decryptBlock_593 ?_
      refine lv_isub hx hb dX2_decryptBlock_594 ?_
      refine rc_top (rc_uc K (4 * (0 + k)) v) rfl ?_
      refine lv_istore (lv' := [(6, .int (rc_uc K (4 * (0 + k)) v)), (5, .int (rc_ud K (4 * (0 + k)) v)), (9, .int (nI (4 * (0 + k)))), (7, .int v.2.1), (8, .int v.1), (0, .ref e0), (1, .ref b0), (2, .int 0), (3, .ref o0), (4, .int 0)]) hx hb dX2_decryptBlock_595 hl (by decide) rfl (fun ls hl => ?_)
      refine lv_aload_n hx hb dX2_decryptBlock_597 rfl (lv_at hl 5 rfl) ?_
      refine lv_iload hx hb dX2_decryptBlock_598 (lv_at hl 3 rfl) ?_
      refine lv_bipush (v := 14) hx hb dX2_decryptBlock_600 (by decide) ?_
      refine vp_callSi (W.runV (As := [.int v.2.1, .int 14]) (rest := []) ⟨hx, hb, hml, hown, hts⟩ (met_rot l e0 v.2.1 14) (cwV 2 hts (lw_V q229 q231 qs4 q8 q232) rfl rfl rfl (by decide +kernel) ⟨hR1, hR2⟩) ⟨fun _ _ _ _ q => q, va_recv hK hP (ci := 1) (q0 := 0) rfl rfl, fun _ _ _ => rfl⟩ rfl rfl hl.1 rfl (lv_room (Nat.le_of_ble_eq_true rfl)) dX2_decryptBlock_602 ⟨hc, hs⟩) (fun r hr => ?_)
      obtain rfl : r = (rc_rot v.2.1 14) := hr
      refine lv_iload hx hb dX2_decryptBlock_605 (lv_at hl 0 rfl) ?_
      refine lv_iload hx hb dX2_decryptBlock_607 (lv_at hl 4 rfl) ?_
      refine lv_iconst (v := (-1)) hx hb dX2_decryptBlock_609 (by decide) ?_
      refine lv_ixor hx hb dX2_decryptBlock_610 ?_
      refine lv_iand hx hb dX2_decryptBlock_611 ?_
      refine lv_iload hx hb dX2_decryptBlock_612 (lv_at hl 1 rfl) ?_
      refine lv_iload hx hb dX2_decryptBlock_614 (lv_at hl 4 rfl) ?_
      refine lv_iand hx hb dX2_decryptBlock_616 ?_
      refine lv_iadd hx hb dX2_decryptBlock_617 ?_
      refine lv_aload_n hx hb dX2_decryptBlock_618 rfl (lv_at hl 5 rfl) ?_
      refine va_get (D := D) (ci := 1) (v := .ref w0) (C := RX2) (T := TX2) (N := 2) hx hb hts in_X2 hown hK hP 0 rfl rfl 0 (by decide) (hts _ q39) (fun _ h9 => h9) rfl dX2_decryptBlock_619 ?_
      refine lv_iload hx hb dX2_decryptBlock_622 (lv_at hl 2 rfl) ?_
      refine lv_iconst (v := 1) hx hb dX2_decryptBlock_624 (by decide) ?_
      refine lv_iadd hx hb dX2_decryptBlock_625 ?_
      refine rc_iald hx hb hK hP 1 1 rfl rfl (4 * (0 + k) + 1) (nI_add _ 1) (by omega) (by decide) dX2_decryptBlock_626 ?_
      refine lv_iadd hx hb dX2_decryptBlock_627 ?_
      refine lv_isub hx hb dX2_decryptBlock_628 ?_
      refine rc_top (rc_ub K (4 * (0 + k)) v) rfl ?_
      refine lv_istore (lv' := [(7, .int (rc_ub K (4 * (0 + k)) v)), (6, .int (rc_uc K (4 * (0 + k)) v)), (5, .int (rc_ud K (4 * (0 + k)) v)), (9, .int (nI (4 * (0 + k)))), (8, .int v.1), (0, .ref e0), (1, .ref b0), (2, .int 0), (3, .ref o0), (4, .int 0)]) hx hb dX2_decryptBlock_629 hl (by decide) rfl (fun ls hl => ?_)
      refine lv_aload_n hx hb dX2_decryptBlock_631 rfl (lv_at hl 5 rfl) ?_
      refine lv_iload hx hb dX2_decryptBlock_632 (lv_at hl 4 rfl) ?_
      refine lv_bipush (v := 15) hx hb dX2_decryptBlock_634 (by decide) ?_
      refine vp_callSi (W.runV (As := [.int v.1, .int 15]) (rest := []) ⟨hx, hb, hml, hown, hts⟩ (met_rot l e0 v.1 15) (cwV 2 hts (lw_V q229 q231 qs4 q8 q232) rfl rfl rfl (by decide +kernel) ⟨hR1, hR2⟩) ⟨fun _ _ _ _ q => q, va_recv hK hP (ci := 1) (q0 := 0) rfl rfl, fun _ _ _ => rfl⟩ rfl rfl hl.1 rfl (lv_room (Nat.le_of_ble_eq_true rfl)) dX2_decryptBlock_636 ⟨hc, hs⟩) (fun r hr => ?_)
      obtain rfl : r = (rc_rot v.1 15) := hr
      refine lv_iload hx hb dX2_decryptBlock_639 (lv_at hl 0 rfl) ?_
      refine lv_iload hx hb dX2_decryptBlock_641 (lv_at hl 2 rfl) ?_
      refine lv_iconst (v := (-1)) hx hb dX2_decryptBlock_643 (by decide) ?_
      refine lv_ixor hx hb dX2_decryptBlock_644 ?_
      refine lv_iand hx hb dX2_decryptBlock_645 ?_
      refine lv_iload hx hb dX2_decryptBlock_646 (lv_at hl 1 rfl) ?_
      refine lv_iload hx hb dX2_decryptBlock_648 (lv_at hl 2 rfl) ?_
      refine lv_iand hx hb dX2_decryptBlock_650 ?_
      refine lv_iadd hx hb dX2_decryptBlock_651 ?_
      refine lv_aload_n hx hb dX2_decryptBlock_652 rfl (lv_at hl 5 rfl) ?_
      refine va_get (D := D) (ci := 1) (v := .ref w0) (C := RX2) (T := TX2) (N := 2) hx hb hts in_X2 hown hK hP 0 rfl rfl 0 (by decide) (hts _ q39) (fun _ h9 => h9) rfl dX2_decryptBlock_653 ?_
      refine lv_iload hx hb dX2_decryptBlock_656 (lv_at hl 3 rfl) ?_
      refine rc_iald hx hb hK hP 1 1 rfl rfl (4 * (0 + k)) rfl (by omega) (by decide) dX2_decryptBlock_658 ?_
      refine lv_iadd hx hb dX2_decryptBlock_659 ?_
      refine lv_isub hx hb dX2_decryptBlock_660 ?_
      refine rc_top (rc_ua K (4 * (0 + k)) v) rfl ?_
      refine lv_istore (lv' := [(8, .int (rc_ua K (4 * (0 + k)) v)), (7, .int (rc_ub K (4 * (0 + k)) v)), (6, .int (rc_uc K (4 * (0 + k)) v)), (5, .int (rc_ud K (4 * (0 + k)) v)), (9, .int (nI (4 * (0 + k)))), (0, .ref e0), (1, .ref b0), (2, .int 0), (3, .ref o0), (4, .int 0)]) hx hb dX2_decryptBlock_661 hl (by decide) rfl (fun ls hl => ?_)
      refine lv_iinc (v := (rc_dn (4 * (0 + k)))) (lv' := [(9, .int (rc_dn (4 * (0 + k)))), (8, .int (rc_ua K (4 * (0 + k)) v)), (7, .int (rc_ub K (4 * (0 + k)) v)), (6, .int (rc_uc K (4 * (0 + k)) v)), (5, .int (rc_ud K (4 * (0 + k)) v)), (0, .ref e0), (1, .ref b0), (2, .int 0), (3, .ref o0), (4, .int 0)]) hx hb dX2_decryptBlock_663 hl (k := 4) rfl (rfl) (by decide) rfl (fun ls hl => ?_)
      refine lv_goto (tgt := 524) hx hb dX2_decryptBlock_666 (by decide) ?_
      exact ih (rc_umix K (4 * (0 + k)) v) (by omega) hu ls (lv_sub hl [0, 4, 3, 2, 1, 5, 6, 7, 8, 9] rfl)
end
section
set_option maxHeartbeats 4000000 in
set_option maxRecDepth 100000 in
/-- decryptBlock(in, 0, out, 0): out is the opened block -/
theorem met_dec (l : Launch) (D : va_G) (cb ci : ClassId) (t sz : Nat) (e0 w0 b0 o0 : Nat) (lk : Int32) (K fb fo : Nat → Int32)  : Met l yX2_decryptBlock (ws_ yX2_decryptBlock cX2_decryptBlock 10 none) (rm_ 1 0 0) (va_Pc [.ref e0, .ref b0, .int 0, .ref o0, .int 0] (rc_Pre D (rc_ty cb ci) t [(e0, .inr (1, [.ref w0, .int lk])), (w0, .inl (ci, 64, .inl K)), (b0, .inl (cb, 8, .inl fb)), (o0, .inl (cb, 8, .inl fo))] sz)) (va_Qv (fun _ : Unit => True) (fun _ U => rc_B D (va_A [(e0, .inr (1, [.ref w0, .int lk])), (w0, .inl (ci, 64, .inl K)), (b0, .inl (cb, 8, .inl fb)), (o0, .inl (cb, 8, .inl fo))] sz) [(e0, .inr (1, [.ref w0, .int lk])), (w0, .inl (ci, 64, .inl K)), (b0, .inl (cb, 8, .inl fb)), (o0, .inl (cb, 8, .inl (rc_dec K fb)))] U) (va_A [(e0, .inr (1, [.ref w0, .int lk])), (w0, .inl (ci, 64, .inl K)), (b0, .inl (cb, 8, .inl fb)), (o0, .inl (cb, 8, .inl fo))] sz)) 0 0 (va_A [(e0, .inr (1, [.ref w0, .int lk])), (w0, .inl (ci, 64, .inl K)), (b0, .inl (cb, 8, .inl fb)), (o0, .inl (cb, 8, .inl fo))] sz) := by
  refine Met.ofW (cc := cX2_decryptBlock) (maxL := 10) (ret := none) (by decide) rfl ?_
  intro p e s m args below meth c s₁ B hml hv
  obtain ⟨rfl, hsz, hP, hK, hD0, hX⟩ := hv
  have hx := B.exec
  have hb := B.bytes
  have hr := B.returns
  have hts := atoms_spec (ws := ws_ yX2_decryptBlock cX2_decryptBlock 10 none) B.pre
  have hts : ∀ w ∈ lw_all, w.before _ s = true := fun w h => hts w (List.mem_cons_of_mem _ h)
  have hown : s.vm.findClass RX2 = some m.cls := findClass_of_methodNamed B.named
  have hlocks := B.notSynchronized
  subst hsz
  have hD := hD0.self (sz := s.heap.size)
  generalize hAe : va_A [(e0, .inr (1, [.ref w0, .int lk])), (w0, .inl (ci, 64, .inl K)), (b0, .inl (cb, 8, .inl fb)), (o0, .inl (cb, 8, .inl fo))] s.heap.size = A at hD hX ⊢
  have hA : ∀ q : Nat, s.heap.size ≤ q → A q := fun q h => by rw [← hAe]; exact Or.inr h
  have hS : va_S A s.heap s.heap [] := va_S.rf
  have hP : va_P D vwCl [(e0, .inr (1, [.ref w0, .int lk])), (w0, .inl (ci, 64, .inl K)), (b0, .inl (cb, 8, .inl fb)), (o0, .inl (cb, 8, .inl fo))] s.heap := hP
  have hl := lv_entry ([.ref e0, .ref b0, .int 0, .ref o0, .int 0]) (n := 10) (Nat.le_of_ble_eq_true rfl)
  rw [lg_entry_eq]
  generalize (lg_sl ([.ref e0, .ref b0, .int 0, .ref o0, .int 0]) ++ List.replicate (10 - (lg_sl ([.ref e0, .ref b0, .int 0, .ref o0, .int 0])).length) Slot.unset).toArray = ls at hl ⊢
  have hl : lv_has ls 10 [(0, .ref e0), (1, .ref b0), (2, .int 0), (3, .ref o0), (4, .int 0)] := hl
  refine lv_aload_n hx hb dX2_decryptBlock_0 rfl (lv_at hl 1 rfl) ?_
  refine lv_iload_n hx hb dX2_decryptBlock_1 rfl (lv_at hl 2 rfl) ?_
  refine lv_bipush (v := 7) hx hb dX2_decryptBlock_2 (by decide) ?_
  refine lv_iadd hx hb dX2_decryptBlock_4 ?_
  refine rc_bald hx hb hK hP 2 0 rfl rfl 7 (by decide) (by decide) (by decide) dX2_decryptBlock_5 ?_
  refine lv_sipush (v := 255) hx hb dX2_decryptBlock_6 (by decide) ?_
  refine lv_iand hx hb dX2_decryptBlock_9 ?_
  refine lv_bipush (v := 8) hx hb dX2_decryptBlock_10 (by decide) ?_
  refine lv_ishl hx hb dX2_decryptBlock_12 ?_
  refine lv_aload_n hx hb dX2_decryptBlock_13 rfl (lv_at hl 1 rfl) ?_
  refine lv_iload_n hx hb dX2_decryptBlock_14 rfl (lv_at hl 2 rfl) ?_
  refine lv_bipush (v := 6) hx hb dX2_decryptBlock_15 (by decide) ?_
  refine lv_iadd hx hb dX2_decryptBlock_17 ?_
  refine rc_bald hx hb hK hP 2 0 rfl rfl 6 (by decide) (by decide) (by decide) dX2_decryptBlock_18 ?_
  refine lv_sipush (v := 255) hx hb dX2_decryptBlock_19 (by decide) ?_
  refine lv_iand hx hb dX2_decryptBlock_22 ?_
  refine lv_iadd hx hb dX2_decryptBlock_23 ?_
  refine rc_top ((rc_ld fb).2.2.2) rfl ?_
  refine lv_istore (lv' := [(5, .int ((rc_ld fb).2.2.2)), (0, .ref e0), (1, .ref b0), (2, .int 0), (3, .ref o0), (4, .int 0)]) hx hb dX2_decryptBlock_24 hl (by decide) rfl (fun ls hl => ?_)
  refine lv_aload_n hx hb dX2_decryptBlock_26 rfl (lv_at hl 2 rfl) ?_
  refine lv_iload_n hx hb dX2_decryptBlock_27 rfl (lv_at hl 3 rfl) ?_
  refine lv_iconst (v := 5) hx hb dX2_decryptBlock_28 (by decide) ?_
  refine lv_iadd hx hb dX2_decryptBlock_29 ?_
  refine rc_bald hx hb hK hP 2 0 rfl rfl 5 (by decide) (by decide) (by decide) dX2_decryptBlock_30 ?_
  refine lv_sipush (v := 255) hx hb dX2_decryptBlock_31 (by decide) ?_
  refine lv_iand hx hb dX2_decryptBlock_34 ?_
  refine lv_bipush (v := 8) hx hb dX2_decryptBlock_35 (by decide) ?_
  refine lv_ishl hx hb dX2_decryptBlock_37 ?_
  refine lv_aload_n hx hb dX2_decryptBlock_38 rfl (lv_at hl 2 rfl) ?_
  refine lv_iload_n hx hb dX2_decryptBlock_39 rfl (lv_at hl 3 rfl) ?_
  refine lv_iconst (v := 4) hx hb dX2_decryptBlock_40 (by decide) ?_
  refine lv_iadd hx hb dX2_decryptBlock_41 ?_
  refine rc_bald hx hb hK hP 2 0 rfl rfl 4 (by decide) (by decide) (by decide) dX2_decryptBlock_42 ?_
  refine lv_sipush (v := 255) hx hb dX2_decryptBlock_43 (by decide) ?_
  refine lv_iand hx hb dX2_decryptBlock_46 ?_
  refine lv_iadd hx hb dX2_decryptBlock_47 ?_
  refine rc_top ((rc_ld fb).2.2.1) rfl ?_
  refine lv_istore (lv' := [(6, .int ((rc_ld fb).2.2.1)), (5, .int ((rc_ld fb).2.2.2)), (0, .ref e0), (1, .ref b0), (2, .int 0), (3, .ref o0), (4, .int 0)]) hx hb dX2_decryptBlock_48 hl (by decide) rfl (fun ls hl => ?_)
  refine lv_aload_n hx hb dX2_decryptBlock_50 rfl (lv_at hl 3 rfl) ?_
  refine lv_iload_n hx hb dX2_decryptBlock_51 rfl (lv_at hl 4 rfl) ?_
  refine lv_iconst (v := 3) hx hb dX2_decryptBlock_52 (by decide) ?_
  refine lv_iadd hx hb dX2_decryptBlock_53 ?_
  refine rc_bald hx hb hK hP 2 0 rfl rfl 3 (by decide) (by decide) (by decide) dX2_decryptBlock_54 ?_
  refine lv_sipush (v := 255) hx hb dX2_decryptBlock_55 (by decide) ?_
  refine lv_iand hx hb dX2_decryptBlock_58 ?_
  refine lv_bipush (v := 8) hx hb dX2_decryptBlock_59 (by decide) ?_
  refine lv_ishl hx hb dX2_decryptBlock_61 ?_
  refine lv_aload_n hx hb dX2_decryptBlock_62 rfl (lv_at hl 3 rfl) ?_
  refine lv_iload_n hx hb dX2_decryptBlock_63 rfl (lv_at hl 4 rfl) ?_
  refine lv_iconst (v := 2) hx hb dX2_decryptBlock_64 (by decide) ?_
  refine lv_iadd hx hb dX2_decryptBlock_65 ?_
  refine rc_bald hx hb hK hP 2 0 rfl rfl 2 (by decide) (by decide) (by decide) dX2_decryptBlock_66 ?_
  refine lv_sipush (v := 255) hx hb dX2_decryptBlock_67 (by decide) ?_
  refine lv_iand hx hb dX2_decryptBlock_70 ?_
  refine lv_iadd hx hb dX2_decryptBlock_71 ?_
  refine rc_top ((rc_ld fb).2.1) rfl ?_
  refine lv_istore (lv' := [(7, .int ((rc_ld fb).2.1)), (6, .int ((rc_ld fb).2.2.1)), (5, .int ((rc_ld fb).2.2.2)), (0, .ref e0), (1, .ref b0), (2, .int 0), (3, .ref o0), (4, .int 0)]) hx hb dX2_decryptBlock_72 hl (by decide) rfl (fun ls hl => ?_)
  refine lv_aload_n hx hb dX2_decryptBlock_74 rfl (lv_at hl 4 rfl) ?_
  refine lv_iload_n hx hb dX2_decryptBlock_75 rfl (lv_at hl 5 rfl) ?_
  refine lv_iconst (v := 1) hx hb dX2_decryptBlock_76 (by decide) ?_
  refine lv_iadd hx hb dX2_decryptBlock_77 ?_
  refine rc_bald hx hb hK hP 2 0 rfl rfl 1 (by decide) (by decide) (by decide) dX2_decryptBlock_78 ?_
  refine lv_sipush (v := 255) hx hb dX2_decryptBlock_79 (by decide) ?_
  refine lv_iand hx hb dX2_decryptBlock_82 ?_
  refine lv_bipush (v := 8) hx hb dX2_decryptBlock_83 (by decide) ?_
  refine lv_ishl hx hb dX2_decryptBlock_85 ?_
  refine lv_aload_n hx hb dX2_decryptBlock_86 rfl (lv_at hl 4 rfl) ?_
  refine lv_iload_n hx hb dX2_decryptBlock_87 rfl (lv_at hl 5 rfl) ?_
  refine lv_iconst (v := 0) hx hb dX2_decryptBlock_88 (by decide) ?_
  refine lv_iadd hx hb dX2_decryptBlock_89 ?_
  refine rc_bald hx hb hK hP 2 0 rfl rfl 0 (by decide) (by decide) (by decide) dX2_decryptBlock_90 ?_
  refine lv_sipush (v := 255) hx hb dX2_decryptBlock_91 (by decide) ?_
  refine lv_iand hx hb dX2_decryptBlock_94 ?_
  refine lv_iadd hx hb dX2_decryptBlock_95 ?_
  refine rc_top ((rc_ld fb).1) rfl ?_
  refine lv_istore (lv' := [(8, .int ((rc_ld fb).1)), (7, .int ((rc_ld fb).2.1)), (6, .int ((rc_ld fb).2.2.1)), (5, .int ((rc_ld fb).2.2.2)), (0, .ref e0), (1, .ref b0), (2, .int 0), (3, .ref o0), (4, .int 0)]) hx hb dX2_decryptBlock_96 hl (by decide) rfl (fun ls hl => ?_)
  refine lv_bipush (v := 60) hx hb dX2_decryptBlock_98 (by decide) ?_
  refine lv_istore (lv' := [(9, .int 60), (8, .int ((rc_ld fb).1)), (7, .int ((rc_ld fb).2.1)), (6, .int ((rc_ld fb).2.2.1)), (5, .int ((rc_ld fb).2.2.2)), (0, .ref e0), (1, .ref b0), (2, .int 0), (3, .ref o0), (4, .int 0)]) hx hb dX2_decryptBlock_100 hl (by decide) rfl (fun ls hl => ?_)
  refine dec_loop1 hx hb hml hown hts hK (Nat.le_of_ble_eq_true rfl) (Nat.le_of_ble_eq_true rfl) (Nat.le_of_ble_eq_true rfl) (Nat.le_of_ble_eq_true rfl) hP (rc_umixN K 11 5 (rc_ld fb)) (fun ls hl => ?_) 5 (rc_ld fb) (Nat.le_refl _) rfl ls (lv_sub hl [0, 4, 3, 2, 1, 5, 6, 7, 8, 9] rfl)
  generalize hv1 : rc_umixN K 11 5 (rc_ld fb) = v1 at hl
  refine lv_iload hx hb dX2_decryptBlock_249 (lv_at hl 1 rfl) ?_
  refine lv_aload_n hx hb dX2_decryptBlock_251 rfl (lv_at hl 5 rfl) ?_
  refine va_get (D := D) (ci := 1) (v := .ref w0) (C := RX2) (T := TX2) (N := 2) hx hb hts in_X2 hown hK hP 0 rfl rfl 0 (by decide) (hts _ q39) (fun _ h9 => h9) rfl dX2_decryptBlock_252 ?_
  refine lv_iload hx hb dX2_decryptBlock_255 (lv_at hl 2 rfl) ?_
  refine lv_bipush (v := 63) hx hb dX2_decryptBlock_257 (by decide) ?_
  refine lv_iand hx hb dX2_decryptBlock_259 ?_
  refine va_iald hx hb hK hP 1 1 rfl rfl (pk_andIn _ 6 (by decide) (by decide)) dX2_decryptBlock_260 ?_
  refine lv_isub hx hb dX2_decryptBlock_261 ?_
  refine rc_top (rc_gd K v1) rfl ?_
  refine lv_istore (lv' := [(5, .int (rc_gd K v1)), (9, .int (rc_dn 44)), (6, .int v1.2.2.1), (7, .int v1.2.1), (8, .int v1.1), (0, .ref e0), (1, .ref b0), (2, .int 0), (3, .ref o0), (4, .int 0)]) hx hb dX2_decryptBlock_262 hl (by decide) rfl (fun ls hl => ?_)
  refine lv_iload hx hb dX2_decryptBlock_264 (lv_at hl 2 rfl) ?_
  refine lv_aload_n hx hb dX2_decryptBlock_266 rfl (lv_at hl 5 rfl) ?_
  refine va_get (D := D) (ci := 1) (v := .ref w0) (C := RX2) (T := TX2) (N := 2) hx hb hts in_X2 hown hK hP 0 rfl rfl 0 (by decide) (hts _ q39) (fun _ h9 => h9) rfl dX2_decryptBlock_267 ?_
  refine lv_iload hx hb dX2_decryptBlock_270 (lv_at hl 3 rfl) ?_
  refine lv_bipush (v := 63) hx hb dX2_decryptBlock_272 (by decide) ?_
  refine lv_iand hx hb dX2_decryptBlock_274 ?_
  refine va_iald hx hb hK hP 1 1 rfl rfl (pk_andIn _ 6 (by decide) (by decide)) dX2_decryptBlock_275 ?_
  refine lv_isub hx hb dX2_decryptBlock_276 ?_
  refine rc_top (rc_gc K v1) rfl ?_
  refine lv_istore (lv' := [(6, .int (rc_gc K v1)), (5, .int (rc_gd K v1)), (9, .int (rc_dn 44)), (7, .int v1.2.1), (8, .int v1.1), (0, .ref e0), (1, .ref b0), (2, .int 0), (3, .ref o0), (4, .int 0)]) hx hb dX2_decryptBlock_277 hl (by decide) rfl (fun ls hl => ?_)
  refine lv_iload hx hb dX2_decryptBlock_279 (lv_at hl 3 rfl) ?_
  refine lv_aload_n hx hb dX2_decryptBlock_281 rfl (lv_at hl 5 rfl) ?_
  refine va_get (D := D) (ci := 1) (v := .ref w0) (C := RX2) (T := TX2) (N := 2) hx hb hts in_X2 hown hK hP 0 rfl rfl 0 (by decide) (hts _ q39) (fun _ h9 => h9) rfl dX2_decryptBlock_282 ?_
  refine lv_iload hx hb dX2_decryptBlock_285 (lv_at hl 4 rfl) ?_
  refine lv_bipush (v := 63) hx hb dX2_decryptBlock_287 (by decide) ?_
  refine lv_iand hx hb dX2_decryptBlock_289 ?_
  refine va_iald hx hb hK hP 1 1 rfl rfl (pk_andIn _ 6 (by decide) (by decide)) dX2_decryptBlock_290 ?_
  refine lv_isub hx hb dX2_decryptBlock_291 ?_
  refine rc_top (rc_gb K v1) rfl ?_
  refine lv_istore (lv' := [(7, .int (rc_gb K v1)), (6, .int (rc_gc K v1)), (5, .int (rc_gd K v1)), (9, .int (rc_dn 44)), (8, .int v1.1), (0, .ref e0), (1, .ref b0), (2, .int 0), (3, .ref o0), (4, .int 0)]) hx hb dX2_decryptBlock_292 hl (by decide) rfl (fun ls hl => ?_)
  refine lv_iload hx hb dX2_decryptBlock_294 (lv_at hl 4 rfl) ?_
  refine lv_aload_n hx hb dX2_decryptBlock_296 rfl (lv_at hl 5 rfl) ?_
  refine va_get (D := D) (ci := 1) (v := .ref w0) (C := RX2) (T := TX2) (N := 2) hx hb hts in_X2 hown hK hP 0 rfl rfl 0 (by decide) (hts _ q39) (fun _ h9 => h9) rfl dX2_decryptBlock_297 ?_
  refine lv_iload hx hb dX2_decryptBlock_300 (lv_at hl 2 rfl) ?_
  refine lv_bipush (v := 63) hx hb dX2_decryptBlock_302 (by decide) ?_
  refine lv_iand hx hb dX2_decryptBlock_304 ?_
  refine va_iald hx hb hK hP 1 1 rfl rfl (pk_andIn _ 6 (by decide) (by decide)) dX2_decryptBlock_305 ?_
  refine lv_isub hx hb dX2_decryptBlock_306 ?_
  refine rc_top (rc_ga K v1) rfl ?_
  refine lv_istore (lv' := [(8, .int (rc_ga K v1)), (7, .int (rc_gb K v1)), (6, .int (rc_gc K v1)), (5, .int (rc_gd K v1)), (9, .int (rc_dn 44)), (0, .ref e0), (1, .ref b0), (2, .int 0), (3, .ref o0), (4, .int 0)]) hx hb dX2_decryptBlock_307 hl (by decide) rfl (fun ls hl => ?_)
  refine lv_bipush (v := 40) hx hb dX2_decryptBlock_309 (by decide) ?_
  refine lv_istore (lv' := [(9, .int 40), (8, .int (rc_ga K v1)), (7, .int (rc_gb K v1)), (6, .int (rc_gc K v1)), (5, .int (rc_gd K v1)), (0, .ref e0), (1, .ref b0), (2, .int 0), (3, .ref o0), (4, .int 0)]) hx hb dX2_decryptBlock_311 hl (by decide) rfl (fun ls hl => ?_)
  refine dec_loop2 hx hb hml hown hts hK (Nat.le_of_ble_eq_true rfl) (Nat.le_of_ble_eq_true rfl) (Nat.le_of_ble_eq_true rfl) (Nat.le_of_ble_eq_true rfl) hP (rc_umixN K 5 6 (rc_umash K v1)) (fun ls hl => ?_) 6 (rc_umash K v1) (Nat.le_refl _) rfl ls (lv_sub hl [0, 4, 3, 2, 1, 5, 6, 7, 8, 9] rfl)
  generalize hv2 : rc_umixN K 5 6 (rc_umash K v1) = v2 at hl
  refine lv_iload hx hb dX2_decryptBlock_460 (lv_at hl 1 rfl) ?_
  refine lv_aload_n hx hb dX2_decryptBlock_462 rfl (lv_at hl 5 rfl) ?_
  refine va_get (D := D) (ci := 1) (v := .ref w0) (C := RX2) (T := TX2) (N := 2) hx hb hts in_X2 hown hK hP 0 rfl rfl 0 (by decide) (hts _ q39) (fun _ h9 => h9) rfl dX2_decryptBlock_463 ?_
  refine lv_iload hx hb dX2_decryptBlock_466 (lv_at hl 2 rfl) ?_
  refine lv_bipush (v := 63) hx hb dX2_decryptBlock_468 (by decide) ?_
  refine lv_iand hx hb dX2_decryptBlock_470 ?_
  refine va_iald hx hb hK hP 1 1 rfl rfl (pk_andIn _ 6 (by decide) (by decide)) dX2_decryptBlock_471 ?_
  refine lv_isub hx hb dX2_decryptBlock_472 ?_
  refine rc_top (rc_gd K v2) rfl ?_
  refine lv_istore (lv' := [(5, .int (rc_gd K v2)), (9, .int (rc_dn 20)), (6, .int v2.2.2.1), (7, .int v2.2.1), (8, .int v2.1), (0, .ref e0), (1, .ref b0), (2, .int 0), (3, .ref o0), (4, .int 0)]) hx hb dX2_decryptBlock_473 hl (by decide) rfl (fun ls hl => ?_)
  refine lv_iload hx hb dX2_decryptBlock_475 (lv_at hl 2 rfl) ?_
  refine lv_aload_n hx hb dX2_decryptBlock_477 rfl (lv_at hl 5 rfl) ?_
  refine va_get (D := D) (ci := 1) (v := .ref w0) (C := RX2) (T := TX2) (N := 2) hx hb hts in_X2 hown hK hP 0 rfl rfl 0 (by decide) (hts _ q39) (fun _ h9 => h9) rfl dX2_decryptBlock_478 ?_
  refine lv_iload hx hb dX2_decryptBlock_481 (lv_at hl 3 rfl) ?_
  refine lv_bipush (v := 63) hx hb dX2_decryptBlock_483 (by decide) ?_
  refine lv_iand hx hb dX2_decryptBlock_485 ?_
  refine va_iald hx hb hK hP 1 1 rfl rfl (pk_andIn _ 6 (by decide) (by decide)) dX2_decryptBlock_486 ?_
  refine lv_isub hx hb dX2_decryptBlock_487 ?_
  refine rc_top (rc_gc K v2) rfl ?_
  refine lv_istore (lv' := [(6, .int (rc_gc K v2)), (5, .int (rc_gd K v2)), (9, .int (rc_dn 20)), (7, .int v2.2.1), (8, .int v2.1), (0, .ref e0), (1, .ref b0), (2, .int 0), (3, .ref o0), (4, .int 0)]) hx hb dX2_decryptBlock_488 hl (by decide) rfl (fun ls hl => ?_)
  refine lv_iload hx hb dX2_decryptBlock_490 (lv_at hl 3 rfl) ?_
  refine lv_aload_n hx hb dX2_decryptBlock_492 rfl (lv_at hl 5 rfl) ?_
  refine va_get (D := D) (ci := 1) (v := .ref w0) (C := RX2) (T := TX2) (N := 2) hx hb hts in_X2 hown hK hP 0 rfl rfl 0 (by decide) (hts _ q39) (fun _ h9 => h9) rfl dX2_decryptBlock_493 ?_
  refine lv_iload hx hb dX2_decryptBlock_496 (lv_at hl 4 rfl) ?_
  refine lv_bipush (v := 63) hx hb dX2_decryptBlock_498 (by decide) ?_
  refine lv_iand hx hb dX2_decryptBlock_500 ?_
  refine va_iald hx hb hK hP 1 1 rfl rfl (pk_andIn _ 6 (by decide) (by decide)) dX2_decryptBlock_501 ?_
  refine lv_isub hx hb dX2_decryptBlock_502 ?_
  refine rc_top (rc_gb K v2) rfl ?_
  refine lv_istore (lv' := [(7, .int (rc_gb K v2)), (6, .int (rc_gc K v2)), (5, .int (rc_gd K v2)), (9, .int (rc_dn 20)), (8, .int v2.1), (0, .ref e0), (1, .ref b0), (2, .int 0), (3, .ref o0), (4, .int 0)]) hx hb dX2_decryptBlock_503 hl (by decide) rfl (fun ls hl => ?_)
  refine lv_iload hx hb dX2_decryptBlock_505 (lv_at hl 4 rfl) ?_
  refine lv_aload_n hx hb dX2_decryptBlock_507 rfl (lv_at hl 5 rfl) ?_
  refine va_get (D := D) (ci := 1) (v := .ref w0) (C := RX2) (T := TX2) (N := 2) hx hb hts in_X2 hown hK hP 0 rfl rfl 0 (by decide) (hts _ q39) (fun _ h9 => h9) rfl dX2_decryptBlock_508 ?_
  refine lv_iload hx hb dX2_decryptBlock_511 (lv_at hl 2 rfl) ?_
  refine lv_bipush (v := 63) hx hb dX2_decryptBlock_513 (by decide) ?_
  refine lv_iand hx hb dX2_decryptBlock_515 ?_
  refine va_iald hx hb hK hP 1 1 rfl rfl (pk_andIn _ 6 (by decide) (by decide)) dX2_decryptBlock_516 ?_
  refine lv_isub hx hb dX2_decryptBlock_517 ?_
  refine rc_top (rc_ga K v2) rfl ?_
  refine lv_istore (lv' := [(8, .int (rc_ga K v2)), (7, .int (rc_gb K v2)), (6, .int (rc_gc K v2)), (5, .int (rc_gd K v2)), (9, .int (rc_dn 20)), (0, .ref e0), (1, .ref b0), (2, .int 0), (3, .ref o0), (4, .int 0)]) hx hb dX2_decryptBlock_518 hl (by decide) rfl (fun ls hl => ?_)
  refine lv_bipush (v := 16) hx hb dX2_decryptBlock_520 (by decide) ?_
  refine lv_istore (lv' := [(9, .int 16), (8, .int (rc_ga K v2)), (7, .int (rc_gb K v2)), (6, .int (rc_gc K v2)), (5, .int (rc_gd K v2)), (0, .ref e0), (1, .ref b0), (2, .int 0), (3, .ref o0), (4, .int 0)]) hx hb dX2_decryptBlock_522 hl (by decide) rfl (fun ls hl => ?_)
  refine dec_loop3 hx hb hml hown hts hK (Nat.le_of_ble_eq_true rfl) (Nat.le_of_ble_eq_true rfl) (Nat.le_of_ble_eq_true rfl) (Nat.le_of_ble_eq_true rfl) hP (rc_umixN K 0 5 (rc_umash K v2)) (fun ls hl => ?_) 5 (rc_umash K v2) (Nat.le_refl _) rfl ls (lv_sub hl [0, 4, 3, 2, 1, 5, 6, 7, 8, 9] rfl)
  generalize hv3 : rc_umixN K 0 5 (rc_umash K v2) = v3 at hl
  refine lv_aload_n hx hb dX2_decryptBlock_669 rfl (lv_at hl 8 rfl) ?_
  refine lv_iload hx hb dX2_decryptBlock_670 (lv_at hl 9 rfl) ?_
  refine lv_iconst (v := 0) hx hb dX2_decryptBlock_672 (by decide) ?_
  refine lv_iadd hx hb dX2_decryptBlock_673 ?_
  refine lv_iload hx hb dX2_decryptBlock_674 (lv_at hl 4 rfl) ?_
  refine lv_i2b (v := (rc_nb v3.1)) hx hb dX2_decryptBlock_676 rfl ?_
  refine rc_bast (v := (rc_nb v3.1)) hx hb hK hP hD hS 3 0 rfl rfl 0 (by decide) (by decide) (by decide) (pk_vb _) dX2_decryptBlock_677 (fun H locs hP hD hS => ?_)
  have hP : va_P D vwCl [(e0, .inr (1, [.ref w0, .int lk])), (w0, .inl (ci, 64, .inl K)), (b0, .inl (cb, 8, .inl fb)), (o0, .inl (cb, 8, .inl (upd fo 0 (rc_nb v3.1))))] H := hP
  have hD : va_D A [(e0, .inr (1, [.ref w0, .int lk])), (w0, .inl (ci, 64, .inl K)), (b0, .inl (cb, 8, .inl fb)), (o0, .inl (cb, 8, .inl (upd fo 0 (rc_nb v3.1))))] := hD
  refine lv_aload_n hx hb dX2_decryptBlock_678 rfl (lv_at hl 8 rfl) ?_
  refine lv_iload hx hb dX2_decryptBlock_679 (lv_at hl 9 rfl) ?_
  refine lv_iconst (v := 1) hx hb dX2_decryptBlock_681 (by decide) ?_
  refine lv_iadd hx hb dX2_decryptBlock_682 ?_
  refine lv_iload hx hb dX2_decryptBlock_683 (lv_at hl 4 rfl) ?_
  refine lv_bipush (v := 8) hx hb dX2_decryptBlock_685 (by decide) ?_
  refine lv_ishr hx hb dX2_decryptBlock_687 ?_
  refine lv_i2b (v := (rc_nb (rc_s8 v3.1))) hx hb dX2_decryptBlock_688 rfl ?_
  refine rc_bast (v := (rc_nb (rc_s8 v3.1))) hx hb hK hP hD hS 3 0 rfl rfl 1 (by decide) (by decide) (by decide) (pk_vb _) dX2_decryptBlock_689 (fun H locs hP hD hS => ?_)
  have hP : va_P D vwCl [(e0, .inr (1, [.ref w0, .int lk])), (w0, .inl (ci, 64, .inl K)), (b0, .inl (cb, 8, .inl fb)), (o0, .inl (cb, 8, .inl (upd (upd fo 0 (rc_nb v3.1)) 1 (rc_nb (rc_s8 v3.1)))))] H := hP
  have hD : va_D A [(e0, .inr (1, [.ref w0, .int lk])), (w0, .inl (ci, 64, .inl K)), (b0, .inl (cb, 8, .inl fb)), (o0, .inl (cb, 8, .inl (upd (upd fo 0 (rc_nb v3.1)) 1 (rc_nb (rc_s8 v3.1)))))] := hD
  refine lv_aload_n hx hb dX2_decryptBlock_690 rfl (lv_at hl 8 rfl) ?_
  refine lv_iload hx hb dX2_decryptBlock_691 (lv_at hl 9 rfl) ?_
  refine lv_iconst (v := 2) hx hb dX2_decryptBlock_693 (by decide) ?_
  refine lv_iadd hx hb dX2_decryptBlock_694 ?_
  refine lv_iload hx hb dX2_decryptBlock_695 (lv_at hl 3 rfl) ?_
  refine lv_i2b (v := (rc_nb v3.2.1)) hx hb dX2_decryptBlock_697 rfl ?_
  refine rc_bast (v := (rc_nb v3.2.1)) hx hb hK hP hD hS 3 0 rfl rfl 2 (by decide) (by decide) (by decide) (pk_vb _) dX2_decryptBlock_698 (fun H locs hP hD hS => ?_)
  have hP : va_P D vwCl [(e0, .inr (1, [.ref w0, .int lk])), (w0, .inl (ci, 64, .inl K)), (b0, .inl (cb, 8, .inl fb)), (o0, .inl (cb, 8, .inl (upd (upd (upd fo 0 (rc_nb v3.1)) 1 (rc_nb (rc_s8 v3.1))) 2 (rc_nb v3.2.1))))] H := hP
  have hD : va_D A [(e0, .inr (1, [.ref w0, .int lk])), (w0, .inl (ci, 64, .inl K)), (b0, .inl (cb, 8, .inl fb)), (o0, .inl (cb, 8, .inl (upd (upd (upd fo 0 (rc_nb v3.1)) 1 (rc_nb (rc_s8 v3.1))) 2 (rc_nb v3.2.1))))] := hD
  refine lv_aload_n hx hb dX2_decryptBlock_699 rfl (lv_at hl 8 rfl) ?_
  refine lv_iload hx hb dX2_decryptBlock_700 (lv_at hl 9 rfl) ?_
  refine lv_iconst (v := 3) hx hb dX2_decryptBlock_702 (by decide) ?_
  refine lv_iadd hx hb dX2_decryptBlock_703 ?_
  refine lv_iload hx hb dX2_decryptBlock_704 (lv_at hl 3 rfl) ?_
  refine lv_bipush (v := 8) hx hb dX2_decryptBlock_706 (by decide) ?_
  refine lv_ishr hx hb dX2_decryptBlock_708 ?_
  refine lv_i2b (v := (rc_nb (rc_s8 v3.2.1))) hx hb dX2_decryptBlock_709 rfl ?_
  refine rc_bast (v := (rc_nb (rc_s8 v3.2.1))) hx hb hK hP hD hS 3 0 rfl rfl 3 (by decide) (by decide) (by decide) (pk_vb _) dX2_decryptBlock_710 (fun H locs hP hD hS => ?_)
  have hP : va_P D vwCl [(e0, .inr (1, [.ref w0, .int lk])), (w0, .inl (ci, 64, .inl K)), (b0, .inl (cb, 8, .inl fb)), (o0, .inl (cb, 8, .inl (upd (upd (upd (upd fo 0 (rc_nb v3.1)) 1 (rc_nb (rc_s8 v3.1))) 2 (rc_nb v3.2.1)) 3 (rc_nb (rc_s8 v3.2.1)))))] H := hP
  have hD : va_D A [(e0, .inr (1, [.ref w0, .int lk])), (w0, .inl (ci, 64, .inl K)), (b0, .inl (cb, 8, .inl fb)), (o0, .inl (cb, 8, .inl (upd (upd (upd (upd fo 0 (rc_nb v3.1)) 1 (rc_nb (rc_s8 v3.1))) 2 (rc_nb v3.2.1)) 3 (rc_nb (rc_s8 v3.2.1)))))] := hD
  refine lv_aload_n hx hb dX2_decryptBlock_711 rfl (lv_at hl 8 rfl) ?_
  refine lv_iload hx hb dX2_decryptBlock_712 (lv_at hl 9 rfl) ?_
  refine lv_iconst (v := 4) hx hb dX2_decryptBlock_714 (by decide) ?_
  refine lv_iadd hx hb dX2_decryptBlock_715 ?_
  refine lv_iload hx hb dX2_decryptBlock_716 (lv_at hl 2 rfl) ?_
  refine lv_i2b (v := (rc_nb v3.2.2.1)) hx hb dX2_decryptBlock_718 rfl ?_
  refine rc_bast (v := (rc_nb v3.2.2.1)) hx hb hK hP hD hS 3 0 rfl rfl 4 (by decide) (by decide) (by decide) (pk_vb _) dX2_decryptBlock_719 (fun H locs hP hD hS => ?_)
  have hP : va_P D vwCl [(e0, .inr (1, [.ref w0, .int lk])), (w0, .inl (ci, 64, .inl K)), (b0, .inl (cb, 8, .inl fb)), (o0, .inl (cb, 8, .inl (upd (upd (upd (upd (upd fo 0 (rc_nb v3.1)) 1 (rc_nb (rc_s8 v3.1))) 2 (rc_nb v3.2.1)) 3 (rc_nb (rc_s8 v3.2.1))) 4 (rc_nb v3.2.2.1))))] H := hP
  have hD : va_D A [(e0, .inr (1, [.ref w0, .int lk])), (w0, .inl (ci, 64, .inl K)), (b0, .inl (cb, 8, .inl fb)), (o0, .inl (cb, 8, .inl (upd (upd (upd (upd (upd fo 0 (rc_nb v3.1)) 1 (rc_nb (rc_s8 v3.1))) 2 (rc_nb v3.2.1)) 3 (rc_nb (rc_s8 v3.2.1))) 4 (rc_nb v3.2.2.1))))] := hD
  refine lv_aload_n hx hb dX2_decryptBlock_720 rfl (lv_at hl 8 rfl) ?_
  refine lv_iload hx hb dX2_decryptBlock_721 (lv_at hl 9 rfl) ?_
  refine lv_iconst (v := 5) hx hb dX2_decryptBlock_723 (by decide) ?_
  refine lv_iadd hx hb dX2_decryptBlock_724 ?_
  refine lv_iload hx hb dX2_decryptBlock_725 (lv_at hl 2 rfl) ?_
  refine lv_bipush (v := 8) hx hb dX2_decryptBlock_727 (by decide) ?_
  refine lv_ishr hx hb dX2_decryptBlock_729 ?_
  refine lv_i2b (v := (rc_nb (rc_s8 v3.2.2.1))) hx hb dX2_decryptBlock_730 rfl ?_
  refine rc_bast (v := (rc_nb (rc_s8 v3.2.2.1))) hx hb hK hP hD hS 3 0 rfl rfl 5 (by decide) (by decide) (by decide) (pk_vb _) dX2_decryptBlock_731 (fun H locs hP hD hS => ?_)
  have hP : va_P D vwCl [(e0, .inr (1, [.ref w0, .int lk])), (w0, .inl (ci, 64, .inl K)), (b0, .inl (cb, 8, .inl fb)), (o0, .inl (cb, 8, .inl (upd (upd (upd (upd (upd (upd fo 0 (rc_nb v3.1)) 1 (rc_nb (rc_s8 v3.1))) 2 (rc_nb v3.2.1)) 3 (rc_nb (rc_s8 v3.2.1))) 4 (rc_nb v3.2.2.1)) 5 (rc_nb (rc_s8 v3.2.2.1)))))] H := hP
  have hD : va_D A [(e0, .inr (1, [.ref w0, .int lk])), (w0, .inl (ci, 64, .inl K)), (b0, .inl (cb, 8, .inl fb)), (o0, .inl (cb, 8, .inl (upd (upd (upd (upd (upd (upd fo 0 (rc_nb v3.1)) 1 (rc_nb (rc_s8 v3.1))) 2 (rc_nb v3.2.1)) 3 (rc_nb (rc_s8 v3.2.1))) 4 (rc_nb v3.2.2.1)) 5 (rc_nb (rc_s8 v3.2.2.1)))))] := hD
  refine lv_aload_n hx hb dX2_decryptBlock_732 rfl (lv_at hl 8 rfl) ?_
  refine lv_iload hx hb dX2_decryptBlock_733 (lv_at hl 9 rfl) ?_
  refine lv_bipush (v := 6) hx hb dX2_decryptBlock_735 (by decide) ?_
  refine lv_iadd hx hb dX2_decryptBlock_737 ?_
  refine lv_iload hx hb dX2_decryptBlock_738 (lv_at hl 1 rfl) ?_
  refine lv_i2b (v := (rc_nb v3.2.2.2)) hx hb dX2_decryptBlock_740 rfl ?_
  refine rc_bast (v := (rc_nb v3.2.2.2)) hx hb hK hP hD hS 3 0 rfl rfl 6 (by decide) (by decide) (by decide) (pk_vb _) dX2_decryptBlock_741 (fun H locs hP hD hS => ?_)
  have hP : va_P D vwCl [(e0, .inr (1, [.ref w0, .int lk])), (w0, .inl (ci, 64, .inl K)), (b0, .inl (cb, 8, .inl fb)), (o0, .inl (cb, 8, .inl (upd (upd (upd (upd (upd (upd (upd fo 0 (rc_nb v3.1)) 1 (rc_nb (rc_s8 v3.1))) 2 (rc_nb v3.2.1)) 3 (rc_nb (rc_s8 v3.2.1))) 4 (rc_nb v3.2.2.1)) 5 (rc_nb (rc_s8 v3.2.2.1))) 6 (rc_nb v3.2.2.2))))] H := hP
  have hD : va_D A [(e0, .inr (1, [.ref w0, .int lk])), (w0, .inl (ci, 64, .inl K)), (b0, .inl (cb, 8, .inl fb)), (o0, .inl (cb, 8, .inl (upd (upd (upd (upd (upd (upd (upd fo 0 (rc_nb v3.1)) 1 (rc_nb (rc_s8 v3.1))) 2 (rc_nb v3.2.1)) 3 (rc_nb (rc_s8 v3.2.1))) 4 (rc_nb v3.2.2.1)) 5 (rc_nb (rc_s8 v3.2.2.1))) 6 (rc_nb v3.2.2.2))))] := hD
  refine lv_aload_n hx hb dX2_decryptBlock_742 rfl (lv_at hl 8 rfl) ?_
  refine lv_iload hx hb dX2_decryptBlock_743 (lv_at hl 9 rfl) ?_
  refine lv_bipush (v := 7) hx hb dX2_decryptBlock_745 (by decide) ?_
  refine lv_iadd hx hb dX2_decryptBlock_747 ?_
  refine lv_iload hx hb dX2_decryptBlock_748 (lv_at hl 1 rfl) ?_
  refine lv_bipush (v := 8) hx hb dX2_decryptBlock_750 (by decide) ?_
  refine lv_ishr hx hb dX2_decryptBlock_752 ?_
  refine lv_i2b (v := (rc_nb (rc_s8 v3.2.2.2))) hx hb dX2_decryptBlock_753 rfl ?_
  refine rc_bast (v := (rc_nb (rc_s8 v3.2.2.2))) hx hb hK hP hD hS 3 0 rfl rfl 7 (by decide) (by decide) (by decide) (pk_vb _) dX2_decryptBlock_754 (fun H locs hP hD hS => ?_)
  have hP : va_P D vwCl [(e0, .inr (1, [.ref w0, .int lk])), (w0, .inl (ci, 64, .inl K)), (b0, .inl (cb, 8, .inl fb)), (o0, .inl (cb, 8, .inl (upd (upd (upd (upd (upd (upd (upd (upd fo 0 (rc_nb v3.1)) 1 (rc_nb (rc_s8 v3.1))) 2 (rc_nb v3.2.1)) 3 (rc_nb (rc_s8 v3.2.1))) 4 (rc_nb v3.2.2.1)) 5 (rc_nb (rc_s8 v3.2.2.1))) 6 (rc_nb v3.2.2.2)) 7 (rc_nb (rc_s8 v3.2.2.2)))))] H := hP
  have hD : va_D A [(e0, .inr (1, [.ref w0, .int lk])), (w0, .inl (ci, 64, .inl K)), (b0, .inl (cb, 8, .inl fb)), (o0, .inl (cb, 8, .inl (upd (upd (upd (upd (upd (upd (upd (upd fo 0 (rc_nb v3.1)) 1 (rc_nb (rc_s8 v3.1))) 2 (rc_nb v3.2.1)) 3 (rc_nb (rc_s8 v3.2.1))) 4 (rc_nb v3.2.2.1)) 5 (rc_nb (rc_s8 v3.2.2.1))) 6 (rc_nb v3.2.2.2)) 7 (rc_nb (rc_s8 v3.2.2.2)))))] := hD
  have e9 : ∀ j, j < 8 → (upd (upd (upd (upd (upd (upd (upd (upd fo 0 (rc_nb v3.1)) 1 (rc_nb (rc_s8 v3.1))) 2 (rc_nb v3.2.1)) 3 (rc_nb (rc_s8 v3.2.1))) 4 (rc_nb v3.2.2.1)) 5 (rc_nb (rc_s8 v3.2.2.1))) 6 (rc_nb v3.2.2.2)) 7 (rc_nb (rc_s8 v3.2.2.2))) j = rc_dec K fb j := by
    intro j hj
    have e8 : rc_dec K fb = rc_st v3 := by
      rw [← hv3, ← hv2, ← hv1]
      rfl
    rw [e8]
    rcases (by omega : j = 0 ∨ j = 1 ∨ j = 2 ∨ j = 3 ∨ j = 4 ∨ j = 5 ∨ j = 6 ∨ j = 7) with rfl | rfl | rfl | rfl | rfl | rfl | rfl | rfl <;> rfl
  have hP9 : va_P D vwCl [(e0, .inr (1, [.ref w0, .int lk])), (w0, .inl (ci, 64, .inl K)), (b0, .inl (cb, 8, .inl fb)), (o0, .inl (cb, 8, .inl (rc_dec K fb)))] _ := rc_fn hP 3 (rc_dec K fb) rfl e9
  have hD9 : va_D A [(e0, .inr (1, [.ref w0, .int lk])), (w0, .inl (ci, 64, .inl K)), (b0, .inl (cb, 8, .inl fb)), (o0, .inl (cb, 8, .inl (rc_dec K fb)))] := hD.set (p := 3) rfl
  exact W.vret hx hb hr (fun t9 ht hW => ⟨⟨(), rfl, trivial, by rw [ht]; exact hP9, hD9⟩, hS.F ht⟩) hS.2.2 dX2_decryptBlock_755
end
section
/-! RC2Engine.generateWorkingKey: its four loops, and the method -/
set_option maxHeartbeats 4000000 in
set_option maxRecDepth 100000 in
theorem gwk_loopA {p : Program} {l : Launch} {e : Env} {R : Room} {s : State} {m : MethodId} {args : Array Value} {below : List Frame} {meth : Method} {c : Code} {cells slots : Nat} {Q : State → Prop} {D : va_G} {cb ci : ClassId} {A : Nat → Prop}  {h0 k0 x0 : Nat} {f : Nat → Int32} (hx : p.tables.exec = Jvm.exec) (hb : c.code = cX2_generateWorkingKey) (hml : c.maxLocals = 8) (hown : s.vm.findClass RX2 = some m.cls) (hts : ∀ w ∈ lw_all, w.before args s = true) (hK : va_K D vwCl (rc_ty cb ci) s)  
    (kk : ∀ (H : Heap) (locs : List Loc) (ls : Array Slot), va_P D vwCl [(k0, .inl (cb, 16, .inl f)), (x0, .inl (ci, 128, .inl (rc_cp (fun _ => 0) (fun j => f j &&& 255) 16)))] H → va_D A [(k0, .inl (cb, 16, .inl f)), (x0, .inl (ci, 128, .inl (rc_cp (fun _ => 0) (fun j => f j &&& 255) 16)))] → va_S A s.heap H locs → lv_has ls 8 [(5, .int (nI 16)), (4, .ref x0), (0, .ref h0), (1, .ref k0), (2, .int 128)] → W p l e R s m args below meth c H locs cells slots Q (F0 m 36 ls [])) :
    ∀ (k i : Nat), i + k = 16 → ∀ (H : Heap) (locs : List Loc) (ls : Array Slot), va_P D vwCl [(k0, .inl (cb, 16, .inl f)), (x0, .inl (ci, 128, .inl (rc_cp (fun _ => 0) (fun j => f j &&& 255) i)))] H → va_D A [(k0, .inl (cb, 16, .inl f)), (x0, .inl (ci, 128, .inl (rc_cp (fun _ => 0) (fun j => f j &&& 255) i)))] → va_S A s.heap H locs → lv_has ls 8 [(5, .int (nI i)), (4, .ref x0), (0, .ref h0), (1, .ref k0), (2, .int 128)] → W p l e R s m args below meth c H locs cells slots Q (F0 m 10 ls []) := by
  intro k
  induction k with
  | zero =>
    intro i hn H locs ls hP hD hS hl
    obtain rfl : i = 16 := hn
    refine lv_iload hx hb dX2_generateWorkingKey_10 (lv_at hl 0 rfl) ?_
    refine lv_aload_n hx hb dX2_generateWorkingKey_12 rfl (lv_at hl 3 rfl) ?_
    refine va_alen (v := 16) hx hb hK hP 0 0 rfl rfl rfl dX2_generateWorkingKey_13 ?_
    refine lv_icmp_eq (tgt := 36) hx hb dX2_generateWorkingKey_14 (by decide) (fun c1 => ?_) (fun c1 => ?_)
    · exact kk H locs ls hP hD hS hl
    · exact absurd (by decide) c1
  | succ k ih =>
    intro i hn H locs ls hP hD hS hl
    refine lv_iload hx hb dX2_generateWorkingKey_10 (lv_at hl 0 rfl) ?_
    refine lv_aload_n hx hb dX2_generateWorkingKey_12 rfl (lv_at hl 3 rfl) ?_
    refine va_alen (v := 16) hx hb hK hP 0 0 rfl rfl rfl dX2_generateWorkingKey_13 ?_
    refine lv_icmp_eq (tgt := 36) hx hb dX2_generateWorkingKey_14 (by decide) (fun c1 => ?_) (fun c1 => ?_)
    · exact absurd ((nI_eq (a := i) (b := 16) (by omega) (by omega)).mp c1) (by omega)
    · skip
      refine lv_aload hx hb dX2_generateWorkingKey_17 (lv_at hl 1 rfl) ?_
      refine lv_iload hx hb dX2_generateWorkingKey_19 (lv_at hl 0 rfl) ?_
      refine lv_aload_n hx hb dX2_generateWorkingKey_21 rfl (lv_at hl 3 rfl) ?_
      refine lv_iload hx hb dX2_generateWorkingKey_22 (lv_at hl 0 rfl) ?_
      refine rc_bald hx hb hK hP 0 0 rfl rfl i rfl (by omega) (by decide) dX2_generateWorkingKey_24 ?_
      refine lv_sipush (v := 255) hx hb dX2_generateWorkingKey_25 (by decide) ?_
      refine lv_iand hx hb dX2_generateWorkingKey_28 ?_
      refine rc_iast hx hb hK hP hD hS 1 1 rfl rfl i rfl (by omega) (by decide) dX2_generateWorkingKey_29 (fun H locs hP hD hS => ?_)
      have hP : va_P D vwCl [(k0, .inl (cb, 16, .inl f)), (x0, .inl (ci, 128, .inl (upd (rc_cp (fun _ => 0) (fun j => f j &&& 255) i) i ((f i) &&& 255))))] H := hP
      have hD : va_D A [(k0, .inl (cb, 16, .inl f)), (x0, .inl (ci, 128, .inl (upd (rc_cp (fun _ => 0) (fun j => f j &&& 255) i) i ((f i) &&& 255))))] := hD
      rw [show upd (rc_cp (fun _ => 0) (fun j => f j &&& 255) i) i (f i &&& 255) = rc_cp (fun _ => 0) (fun j => f j &&& 255) (i + 1) from rc_cp_s _ _ _] at hP hD
      refine lv_iinc (v := (nI (i + 1))) (lv' := [(5, .int (nI (i + 1))), (4, .ref x0), (0, .ref h0), (1, .ref k0), (2, .int 128)]) hx hb dX2_generateWorkingKey_30 hl (k := 0) rfl (nI_1 i) (by decide) rfl (fun ls hl => ?_)
      refine lv_goto (tgt := 10) hx hb dX2_generateWorkingKey_33 (by decide) ?_
      exact ih (i + 1) (by omega) H locs ls hP hD hS (lv_sub hl [0, 1, 2, 3, 4] rfl)
set_option maxHeartbeats 4000000 in
set_option maxRecDepth 100000 in
theorem gwk_loopB {p : Program} {l : Launch} {e : Env} {R : Room} {s : State} {m : MethodId} {args : Array Value} {below : List Frame} {meth : Method} {c : Code} {cells slots : Nat} {Q : State → Prop} {D : va_G} {cb ci : ClassId} {A : Nat → Prop} {t : Nat} {h0 k0 x0 : Nat} {f : Nat → Int32} (hx : p.tables.exec = Jvm.exec) (hb : c.code = cX2_generateWorkingKey) (hml : c.maxLocals = 8) (hown : s.vm.findClass RX2 = some m.cls) (hts : ∀ w ∈ lw_all, w.before args s = true) (hK : va_K D vwCl (rc_ty cb ci) s) (hX : rc_X t A s) 
    (kk : ∀ (H : Heap) (locs : List Loc) (ls : Array Slot), va_P D vwCl [(k0, .inl (cb, 16, .inl f)), (x0, .inl (ci, 128, .inl ((rc_g1 f 112).2)))] H → va_D A [(k0, .inl (cb, 16, .inl f)), (x0, .inl (ci, 128, .inl ((rc_g1 f 112).2)))] → va_S A s.heap H locs → lv_has ls 8 [(3, .int ((rc_g1 f 112).1)), (5, .int (nI (16 + 112))), (6, .int (nI 112)), (4, .ref x0), (0, .ref h0), (1, .ref k0), (2, .int 128)] → W p l e R s m args below meth c H locs cells slots Q (F0 m 99 ls [])) :
    ∀ (k n : Nat), n + (k + 1) = 112 → ∀ (H : Heap) (locs : List Loc) (ls : Array Slot), va_P D vwCl [(k0, .inl (cb, 16, .inl f)), (x0, .inl (ci, 128, .inl ((rc_g1 f n).2)))] H → va_D A [(k0, .inl (cb, 16, .inl f)), (x0, .inl (ci, 128, .inl ((rc_g1 f n).2)))] → va_S A s.heap H locs → lv_has ls 8 [(3, .int ((rc_g1 f n).1)), (5, .int (nI (16 + n))), (6, .int (nI n)), (4, .ref x0), (0, .ref h0), (1, .ref k0), (2, .int 128)] → W p l e R s m args below meth c H locs cells slots Q (F0 m 59 ls []) := by
  intro k
  induction k with
  | zero =>
    intro n hn H locs ls hP hD hS hl
    obtain rfl : n = 111 := by omega
    refine rc_gets hx hb hX hS hown (hts _ q90) dX2_generateWorkingKey_59 ?_
    refine lv_iload_n hx hb dX2_generateWorkingKey_62 rfl (lv_at hl 0 rfl) ?_
    refine lv_aload hx hb dX2_generateWorkingKey_63 (lv_at hl 3 rfl) ?_
    refine lv_iload hx hb dX2_generateWorkingKey_65 (lv_at hl 2 rfl) ?_
    refine lv_iinc (v := (nI (111 + 1))) (lv' := [(6, .int (nI (111 + 1))), (3, .int ((rc_g1 f 111).1)), (5, .int (nI (16 + 111))), (4, .ref x0), (0, .ref h0), (1, .ref k0), (2, .int 128)]) hx hb dX2_generateWorkingKey_67 hl (k := 2) rfl (nI_1 111) (by decide) rfl (fun ls hl => ?_)
    refine rc_iald hx hb hK hP 1 1 rfl rfl 111 rfl (by decide) (by decide) dX2_generateWorkingKey_70 ?_
    refine lv_iadd hx hb dX2_generateWorkingKey_71 ?_
    refine lv_sipush (v := 255) hx hb dX2_generateWorkingKey_72 (by decide) ?_
    refine lv_iand hx hb dX2_generateWorkingKey_75 ?_
    refine rc_tb hx hb hX hS (pk_andE _ 8 (by decide)) dX2_generateWorkingKey_76 ?_
    refine lv_sipush (v := 255) hx hb dX2_generateWorkingKey_77 (by decide) ?_
    refine lv_iand hx hb dX2_generateWorkingKey_80 ?_
    refine rc_top ((rc_g1 f (111 + 1)).1) rfl ?_
    refine lv_istore_n (lv' := [(3, .int ((rc_g1 f (111 + 1)).1)), (6, .int (nI (111 + 1))), (5, .int (nI (16 + 111))), (4, .ref x0), (0, .ref h0), (1, .ref k0), (2, .int 128)]) hx hb dX2_generateWorkingKey_81 rfl hl (by decide) rfl (fun ls hl => ?_)
    refine lv_aload hx hb dX2_generateWorkingKey_82 (lv_at hl 3 rfl) ?_
    refine lv_iload hx hb dX2_generateWorkingKey_84 (lv_at hl 2 rfl) ?_
    refine lv_iinc (v := (nI (16 + (111 + 1)))) (lv' := [(5, .int (nI (16 + (111 + 1)))), (3, .int ((rc_g1 f (111 + 1)).1)), (6, .int (nI (111 + 1))), (4, .ref x0), (0, .ref h0), (1, .ref k0), (2, .int 128)]) hx hb dX2_generateWorkingKey_86 hl (k := 2) rfl (nI_1 (16 + 111)) (by decide) rfl (fun ls hl => ?_)
    refine lv_iload_n hx hb dX2_generateWorkingKey_89 rfl (lv_at hl 1 rfl) ?_
    refine rc_iast hx hb hK hP hD hS 1 1 rfl rfl (16 + 111) rfl (by omega) (by decide) dX2_generateWorkingKey_90 (fun H locs hP hD hS => ?_)
    have hP : va_P D vwCl [(k0, .inl (cb, 16, .inl f)), (x0, .inl (ci, 128, .inl (upd ((rc_g1 f 111).2) (16 + 111) ((rc_g1 f (111 + 1)).1))))] H := hP
    have hD : va_D A [(k0, .inl (cb, 16, .inl f)), (x0, .inl (ci, 128, .inl (upd ((rc_g1 f 111).2) (16 + 111) ((rc_g1 f (111 + 1)).1))))] := hD
    refine lv_iload hx hb dX2_generateWorkingKey_91 (lv_at hl 0 rfl) ?_
    refine lv_sipush (v := 128) hx hb dX2_generateWorkingKey_93 (by decide) ?_
    have hP : va_P D vwCl [(k0, .inl (cb, 16, .inl f)), (x0, .inl (ci, 128, .inl ((rc_g1 f (111 + 1)).2)))] H := hP
    have hD : va_D A [(k0, .inl (cb, 16, .inl f)), (x0, .inl (ci, 128, .inl ((rc_g1 f (111 + 1)).2)))] := hD
    refine lv_icmp_lt (tgt := 59) hx hb dX2_generateWorkingKey_96 (by decide) (fun c1 => ?_) (fun c1 => ?_)
    · exact absurd c1 (by decide)
    · exact kk H locs ls hP hD hS (lv_sub hl [1, 0, 2, 3, 4, 5, 6] rfl)
  | succ k ih =>
    intro n hn H locs ls hP hD hS hl
    refine rc_gets hx hb hX hS hown (hts _ q90) dX2_generateWorkingKey_59 ?_
    refine lv_iload_n hx hb dX2_generateWorkingKey_62 rfl (lv_at hl 0 rfl) ?_
    refine lv_aload hx hb dX2_generateWorkingKey_63 (lv_at hl 3 rfl) ?_
    refine lv_iload hx hb dX2_generateWorkingKey_65 (lv_at hl 2 rfl) ?_
    refine lv_iinc (v := (nI (n + 1))) (lv' := [(6, .int (nI (n + 1))), (3, .int ((rc_g1 f n).1)), (5, .int (nI (16 + n))), (4, .ref x0), (0, .ref h0), (1, .ref k0), (2, .int 128)]) hx hb dX2_generateWorkingKey_67 hl (k := 2) rfl (nI_1 n) (by decide) rfl (fun ls hl => ?_)
    refine rc_iald hx hb hK hP 1 1 rfl rfl n rfl (by omega) (by decide) dX2_generateWorkingKey_70 ?_
    refine lv_iadd hx hb dX2_generateWorkingKey_71 ?_
    refine lv_sipush (v := 255) hx hb dX2_generateWorkingKey_72 (by decide) ?_
    refine lv_iand hx hb dX2_generateWorkingKey_75 ?_
    refine rc_tb hx hb hX hS (pk_andE _ 8 (by decide)) dX2_generateWorkingKey_76 ?_
    refine lv_sipush (v := 255) hx hb dX2_generateWorkingKey_77 (by decide) ?_
    refine lv_iand hx hb dX2_generateWorkingKey_80 ?_
    refine rc_top ((rc_g1 f (n + 1)).1) rfl ?_
    refine lv_istore_n (lv' := [(3, .int ((rc_g1 f (n + 1)).1)), (6, .int (nI (n + 1))), (5, .int (nI (16 + n))), (4, .ref x0), (0, .ref h0), (1, .ref k0), (2, .int 128)]) hx hb dX2_generateWorkingKey_81 rfl hl (by decide) rfl (fun ls hl => ?_)
    refine lv_aload hx hb dX2_generateWorkingKey_82 (lv_at hl 3 rfl) ?_
    refine lv_iload hx hb dX2_generateWorkingKey_84 (lv_at hl 2 rfl) ?_
    refine lv_iinc (v := (nI (16 + (n + 1)))) (lv' := [(5, .int (nI (16 + (n + 1)))), (3, .int ((rc_g1 f (n + 1)).1)), (6, .int (nI (n + 1))), (4, .ref x0), (0, .ref h0), (1, .ref k0), (2, .int 128)]) hx hb dX2_generateWorkingKey_86 hl (k := 2) rfl (nI_1 (16 + n)) (by decide) rfl (fun ls hl => ?_)
    refine lv_iload_n hx hb dX2_generateWorkingKey_89 rfl (lv_at hl 1 rfl) ?_
    refine rc_iast hx hb hK hP hD hS 1 1 rfl rfl (16 + n) rfl (by omega) (by decide) dX2_generateWorkingKey_90 (fun H locs hP hD hS => ?_)
    have hP : va_P D vwCl [(k0, .inl (cb, 16, .inl f)), (x0, .inl (ci, 128, .inl (upd ((rc_g1 f n).2) (16 + n) ((rc_g1 f (n + 1)).1))))] H := hP
    have hD : va_D A [(k0, .inl (cb, 16, .inl f)), (x0, .inl (ci, 128, .inl (upd ((rc_g1 f n).2) (16 + n) ((rc_g1 f (n + 1)).1))))] := hD
    refine lv_iload hx hb dX2_generateWorkingKey_91 (lv_at hl 0 rfl) ?_
    refine lv_sipush (v := 128) hx hb dX2_generateWorkingKey_93 (by decide) ?_
    have hP : va_P D vwCl [(k0, .inl (cb, 16, .inl f)), (x0, .inl (ci, 128, .inl ((rc_g1 f (n + 1)).2)))] H := hP
    have hD : va_D A [(k0, .inl (cb, 16, .inl f)), (x0, .inl (ci, 128, .inl ((rc_g1 f (n + 1)).2)))] := hD
    refine lv_icmp_lt (tgt := 59) hx hb dX2_generateWorkingKey_96 (by decide) (fun c1 => ?_) (fun c1 => ?_)
    · exact ih (n + 1) (by omega) H locs ls hP hD hS (lv_sub hl [1, 0, 2, 3, 4, 5, 6] rfl)
    · exact absurd (nI_lt (a := 16 + (n + 1)) (b := 128) (by omega) (by omega)) c1
def rc_d1 (k : Nat) : Int32 := nI k + Int32.ofInt (-1)
theorem rc_d1_s (k : Nat) : rc_d1 (k + 1) = nI k := pk_m1 k
set_option maxHeartbeats 4000000 in
set_option maxRecDepth 100000 in
theorem gwk_loopC {p : Program} {l : Launch} {e : Env} {R : Room} {s : State} {m : MethodId} {args : Array Value} {below : List Frame} {meth : Method} {c : Code} {cells slots : Nat} {Q : State → Prop} {D : va_G} {cb ci : ClassId} {A : Nat → Prop} {t : Nat} {h0 k0 x0 : Nat} {f : Nat → Int32} (hx : p.tables.exec = Jvm.exec) (hb : c.code = cX2_generateWorkingKey) (hml : c.maxLocals = 8) (hown : s.vm.findClass RX2 = some m.cls) (hts : ∀ w ∈ lw_all, w.before args s = true) (hK : va_K D vwCl (rc_ty cb ci) s) (hX : rc_X t A s) 
    (kk : ∀ (H : Heap) (locs : List Loc) (ls : Array Slot), va_P D vwCl [(k0, .inl (cb, 16, .inl f)), (x0, .inl (ci, 128, .inl ((rc_g2 f 112).2)))] H → va_D A [(k0, .inl (cb, 16, .inl f)), (x0, .inl (ci, 128, .inl ((rc_g2 f 112).2)))] → va_S A s.heap H locs → lv_has ls 8 [(3, .int ((rc_g2 f 112).1)), (6, .int (rc_d1 0)), (5, .int 16), (4, .ref x0), (0, .ref h0), (1, .ref k0), (2, .int 128)] → W p l e R s m args below meth c H locs cells slots Q (F0 m 191 ls [])) :
    ∀ (k n : Nat), n + k = 112 → ∀ (H : Heap) (locs : List Loc) (ls : Array Slot), va_P D vwCl [(k0, .inl (cb, 16, .inl f)), (x0, .inl (ci, 128, .inl ((rc_g2 f n).2)))] H → va_D A [(k0, .inl (cb, 16, .inl f)), (x0, .inl (ci, 128, .inl ((rc_g2 f n).2)))] → va_S A s.heap H locs → lv_has ls 8 [(3, .int ((rc_g2 f n).1)), (6, .int (rc_d1 k)), (5, .int 16), (4, .ref x0), (0, .ref h0), (1, .ref k0), (2, .int 128)] → W p l e R s m args below meth c H locs cells slots Q (F0 m 155 ls []) := by
  intro k
  induction k with
  | zero =>
    intro n hn H locs ls hP hD hS hl
    obtain rfl : n = 112 := hn
    refine lv_iload hx hb dX2_generateWorkingKey_155 (lv_at hl 1 rfl) ?_
    refine lv_if_lt (tgt := 191) hx hb dX2_generateWorkingKey_157 (by decide) (fun c1 => ?_) (fun c1 => ?_)
    · exact kk H locs ls hP hD hS hl
    · exact absurd (by decide) c1
  | succ k ih =>
    intro n hn H locs ls hP hD hS hl
    rw [rc_d1_s] at hl
    refine lv_iload hx hb dX2_generateWorkingKey_155 (lv_at hl 1 rfl) ?_
    refine lv_if_lt (tgt := 191) hx hb dX2_generateWorkingKey_157 (by decide) (fun c1 => ?_) (fun c1 => ?_)
    · exact absurd c1 (nI_pos (by omega))
    · skip
      have hk : k = 111 - n := by omega
      have e1 : rc_p ((rc_g2 f n).1 ^^^ (rc_g2 f n).2 (k + 16)) = (rc_g2 f (n + 1)).1 := by
        rw [hk]
        rfl
      have e2 : upd (rc_g2 f n).2 k (rc_g2 f (n + 1)).1 = (rc_g2 f (n + 1)).2 := by
        rw [hk]
        rfl
      refine rc_gets hx hb hX hS hown (hts _ q90) dX2_generateWorkingKey_160 ?_
      refine lv_iload_n hx hb dX2_generateWorkingKey_163 rfl (lv_at hl 0 rfl) ?_
      refine lv_aload hx hb dX2_generateWorkingKey_164 (lv_at hl 3 rfl) ?_
      refine lv_iload hx hb dX2_generateWorkingKey_166 (lv_at hl 1 rfl) ?_
      refine lv_iload hx hb dX2_generateWorkingKey_168 (lv_at hl 2 rfl) ?_
      refine lv_iadd hx hb dX2_generateWorkingKey_170 ?_
      refine rc_iald hx hb hK hP 1 1 rfl rfl (k + 16) (nI_add k 16) (by omega) (by decide) dX2_generateWorkingKey_171 ?_
      refine lv_ixor hx hb dX2_generateWorkingKey_172 ?_
      refine rc_tb hx hb hX hS (rc_by_xor (rc_by_g2 f n).1 ((rc_by_g2 f n).2 _)) dX2_generateWorkingKey_173 ?_
      refine lv_sipush (v := 255) hx hb dX2_generateWorkingKey_174 (by decide) ?_
      refine lv_iand hx hb dX2_generateWorkingKey_177 ?_
      refine rc_top ((rc_g2 f (n + 1)).1) (e1) ?_
      refine lv_istore_n (lv' := [(3, .int ((rc_g2 f (n + 1)).1)), (6, .int (nI k)), (5, .int 16), (4, .ref x0), (0, .ref h0), (1, .ref k0), (2, .int 128)]) hx hb dX2_generateWorkingKey_178 rfl hl (by decide) rfl (fun ls hl => ?_)
      refine lv_aload hx hb dX2_generateWorkingKey_179 (lv_at hl 3 rfl) ?_
      refine lv_iload hx hb dX2_generateWorkingKey_181 (lv_at hl 1 rfl) ?_
      refine lv_iload_n hx hb dX2_generateWorkingKey_183 rfl (lv_at hl 0 rfl) ?_
      refine rc_iast hx hb hK hP hD hS 1 1 rfl rfl k rfl (by omega) (by decide) dX2_generateWorkingKey_184 (fun H locs hP hD hS => ?_)
      have hP : va_P D vwCl [(k0, .inl (cb, 16, .inl f)), (x0, .inl (ci, 128, .inl (upd ((rc_g2 f n).2) k ((rc_g2 f (n + 1)).1))))] H := hP
      have hD : va_D A [(k0, .inl (cb, 16, .inl f)), (x0, .inl (ci, 128, .inl (upd ((rc_g2 f n).2) k ((rc_g2 f (n + 1)).1))))] := hD
      rw [e2] at hP hD
      refine lv_iinc (v := (rc_d1 k)) (lv' := [(6, .int (rc_d1 k)), (3, .int ((rc_g2 f (n + 1)).1)), (5, .int 16), (4, .ref x0), (0, .ref h0), (1, .ref k0), (2, .int 128)]) hx hb dX2_generateWorkingKey_185 hl (k := 1) rfl (rfl) (by decide) rfl (fun ls hl => ?_)
      refine lv_goto (tgt := 155) hx hb dX2_generateWorkingKey_188 (by decide) ?_
      exact ih (n + 1) (by omega) H locs ls hP hD hS (lv_sub hl [1, 0, 2, 3, 4, 5, 6] rfl)
theorem rc_i21 (i : Nat) : 2 * nI i + 1 = nI (2 * i + 1) := by
  rw [show (2 : Int32) * nI i = nI (2 * i) from pk_mul 2 i]
  exact nI_1 _
set_option maxHeartbeats 4000000 in
set_option maxRecDepth 100000 in
theorem gwk_loopD {p : Program} {l : Launch} {e : Env} {R : Room} {s : State} {m : MethodId} {args : Array Value} {below : List Frame} {meth : Method} {c : Code} {cells slots : Nat} {Q : State → Prop} {D : va_G} {cb ci : ClassId} {A : Nat → Prop}  {h0 k0 x0 n0 : Nat} {f : Nat → Int32} (hx : p.tables.exec = Jvm.exec) (hb : c.code = cX2_generateWorkingKey) (hml : c.maxLocals = 8) (hown : s.vm.findClass RX2 = some m.cls) (hts : ∀ w ∈ lw_all, w.before args s = true) (hK : va_K D vwCl (rc_ty cb ci) s)  
    (kk : ∀ (H : Heap) (locs : List Loc) (ls : Array Slot), va_P D vwCl [(k0, .inl (cb, 16, .inl f)), (x0, .inl (ci, 128, .inl ((rc_g2 f 112).2))), (n0, .inl (ci, 64, .inl (rc_cp (fun _ => 0) (rc_exp f) 64)))] H → va_D A [(k0, .inl (cb, 16, .inl f)), (x0, .inl (ci, 128, .inl ((rc_g2 f 112).2))), (n0, .inl (ci, 64, .inl (rc_cp (fun _ => 0) (rc_exp f) 64)))] → va_S A s.heap H locs → lv_has ls 8 [(7, .int (nI 64)), (6, .ref n0), (4, .ref x0), (0, .ref h0), (1, .ref k0), (2, .int 128)] → W p l e R s m args below meth c H locs cells slots Q (F0 m 239 ls [])) :
    ∀ (k i : Nat), i + k = 64 → ∀ (H : Heap) (locs : List Loc) (ls : Array Slot), va_P D vwCl [(k0, .inl (cb, 16, .inl f)), (x0, .inl (ci, 128, .inl ((rc_g2 f 112).2))), (n0, .inl (ci, 64, .inl (rc_cp (fun _ => 0) (rc_exp f) i)))] H → va_D A [(k0, .inl (cb, 16, .inl f)), (x0, .inl (ci, 128, .inl ((rc_g2 f 112).2))), (n0, .inl (ci, 64, .inl (rc_cp (fun _ => 0) (rc_exp f) i)))] → va_S A s.heap H locs → lv_has ls 8 [(7, .int (nI i)), (6, .ref n0), (4, .ref x0), (0, .ref h0), (1, .ref k0), (2, .int 128)] → W p l e R s m args below meth c H locs cells slots Q (F0 m 200 ls []) := by
  intro k
  induction k with
  | zero =>
    intro i hn H locs ls hP hD hS hl
    obtain rfl : i = 64 := hn
    refine lv_iload hx hb dX2_generateWorkingKey_200 (lv_at hl 0 rfl) ?_
    refine lv_aload hx hb dX2_generateWorkingKey_202 (lv_at hl 1 rfl) ?_
    refine va_alen (v := 64) hx hb hK hP 2 1 rfl rfl rfl dX2_generateWorkingKey_204 ?_
    refine lv_icmp_eq (tgt := 239) hx hb dX2_generateWorkingKey_205 (by decide) (fun c1 => ?_) (fun c1 => ?_)
    · exact kk H locs ls hP hD hS hl
    · exact absurd (by decide) c1
  | succ k ih =>
    intro i hn H locs ls hP hD hS hl
    refine lv_iload hx hb dX2_generateWorkingKey_200 (lv_at hl 0 rfl) ?_
    refine lv_aload hx hb dX2_generateWorkingKey_202 (lv_at hl 1 rfl) ?_
    refine va_alen (v := 64) hx hb hK hP 2 1 rfl rfl rfl dX2_generateWorkingKey_204 ?_
    refine lv_icmp_eq (tgt := 239) hx hb dX2_generateWorkingKey_205 (by decide) (fun c1 => ?_) (fun c1 => ?_)
    · exact absurd ((nI_eq (a := i) (b := 64) (by omega) (by omega)).mp c1) (by omega)
    · skip
      refine lv_aload hx hb dX2_generateWorkingKey_208 (lv_at hl 1 rfl) ?_
      refine lv_iload hx hb dX2_generateWorkingKey_210 (lv_at hl 0 rfl) ?_
      refine lv_aload hx hb dX2_generateWorkingKey_212 (lv_at hl 2 rfl) ?_
      refine lv_iconst (v := 2) hx hb dX2_generateWorkingKey_214 (by decide) ?_
      refine lv_iload hx hb dX2_generateWorkingKey_215 (lv_at hl 0 rfl) ?_
      refine lv_imul hx hb dX2_generateWorkingKey_217 ?_
      refine rc_iald hx hb hK hP 1 1 rfl rfl (2 * i) (pk_mul 2 i) (by omega) (by decide) dX2_generateWorkingKey_218 ?_
      refine lv_aload hx hb dX2_generateWorkingKey_219 (lv_at hl 2 rfl) ?_
      refine lv_iconst (v := 2) hx hb dX2_generateWorkingKey_221 (by decide) ?_
      refine lv_iload hx hb dX2_generateWorkingKey_222 (lv_at hl 0 rfl) ?_
      refine lv_imul hx hb dX2_generateWorkingKey_224 ?_
      refine lv_iconst (v := 1) hx hb dX2_generateWorkingKey_225 (by decide) ?_
      refine lv_iadd hx hb dX2_generateWorkingKey_226 ?_
      refine rc_iald hx hb hK hP 1 1 rfl rfl (2 * i + 1) (rc_i21 i) (by omega) (by decide) dX2_generateWorkingKey_227 ?_
      refine lv_bipush (v := 8) hx hb dX2_generateWorkingKey_228 (by decide) ?_
      refine lv_ishl hx hb dX2_generateWorkingKey_230 ?_
      refine lv_iadd hx hb dX2_generateWorkingKey_231 ?_
      refine rc_top (rc_exp f i) rfl ?_
      refine rc_iast hx hb hK hP hD hS 2 1 rfl rfl i rfl (by omega) (by decide) dX2_generateWorkingKey_232 (fun H locs hP hD hS => ?_)
      have hP : va_P D vwCl [(k0, .inl (cb, 16, .inl f)), (x0, .inl (ci, 128, .inl ((rc_g2 f 112).2))), (n0, .inl (ci, 64, .inl (upd (rc_cp (fun _ => 0) (rc_exp f) i) i (rc_exp f i))))] H := hP
      have hD : va_D A [(k0, .inl (cb, 16, .inl f)), (x0, .inl (ci, 128, .inl ((rc_g2 f 112).2))), (n0, .inl (ci, 64, .inl (upd (rc_cp (fun _ => 0) (rc_exp f) i) i (rc_exp f i))))] := hD
      rw [show upd (rc_cp (fun _ => 0) (rc_exp f) i) i (rc_exp f i) = rc_cp (fun _ => 0) (rc_exp f) (i + 1) from rc_cp_s _ _ _] at hP hD
      refine lv_iinc (v := (nI (i + 1))) (lv' := [(7, .int (nI (i + 1))), (6, .ref n0), (4, .ref x0), (0, .ref h0), (1, .ref k0), (2, .int 128)]) hx hb dX2_generateWorkingKey_233 hl (k := 0) rfl (nI_1 i) (by decide) rfl (fun ls hl => ?_)
      refine lv_goto (tgt := 200) hx hb dX2_generateWorkingKey_236 (by decide) ?_
      exact ih (i + 1) (by omega) H locs ls hP hD hS (lv_sub hl [0, 1, 2, 3, 4, 5] rfl)
set_option maxHeartbeats 4000000 in
set_option maxRecDepth 100000 in
/-- generateWorkingKey(key, 128) of 16 bytes: a new array, the working key -/
theorem met_gwk (l : Launch) (D : va_G) (cb ci : ClassId) (t sz : Nat) (h0 k0 : Nat) (f : Nat → Int32)  : Met l yX2_generateWorkingKey (ws_ yX2_generateWorkingKey cX2_generateWorkingKey 8 (some (.array .int))) (rm_ 0 2 192) (va_Pc [.ref h0, .ref k0, .int 128] (rc_Pre D (rc_ty cb ci) t [(k0, .inl (cb, 16, .inl f))] sz)) (va_Qr (S := Unit) (fun _ => True) (fun _ a U => rc_B D (va_A [(k0, .inl (cb, 16, .inl f))] sz) [(k0, .inl (cb, 16, .inl f)), (a, .inl (ci, 64, .inl (rc_exp f)))] U) (va_A [(k0, .inl (cb, 16, .inl f))] sz)) 2 192 (va_A [(k0, .inl (cb, 16, .inl f))] sz) := by
  refine Met.ofW (cc := cX2_generateWorkingKey) (maxL := 8) (ret := (some (.array .int))) (by decide) rfl ?_
  intro p e s m args below meth c s₁ B hml hv
  obtain ⟨rfl, hsz, hP, hK, hD0, hX⟩ := hv
  have hx := B.exec
  have hb := B.bytes
  have hr := B.returns
  have hts := atoms_spec (ws := ws_ yX2_generateWorkingKey cX2_generateWorkingKey 8 (some (.array .int))) B.pre
  have hts : ∀ w ∈ lw_all, w.before _ s = true := fun w h => hts w (List.mem_cons_of_mem _ h)
  have hown : s.vm.findClass RX2 = some m.cls := findClass_of_methodNamed B.named
  have hlocks := B.notSynchronized
  subst hsz
  have hD := hD0.self (sz := s.heap.size)
  generalize hAe : va_A [(k0, .inl (cb, 16, .inl f))] s.heap.size = A at hD hX ⊢
  have hA : ∀ q : Nat, s.heap.size ≤ q → A q := fun q h => by rw [← hAe]; exact Or.inr h
  have hS : va_S A s.heap s.heap [] := va_S.rf
  have hP : va_P D vwCl [(k0, .inl (cb, 16, .inl f))] s.heap := hP
  have hl := lv_entry ([.ref h0, .ref k0, .int 128]) (n := 8) (Nat.le_of_ble_eq_true rfl)
  rw [lg_entry_eq]
  generalize (lg_sl ([.ref h0, .ref k0, .int 128]) ++ List.replicate (8 - (lg_sl ([.ref h0, .ref k0, .int 128])).length) Slot.unset).toArray = ls at hl ⊢
  have hl : lv_has ls 8 [(0, .ref h0), (1, .ref k0), (2, .int 128)] := hl
  refine lv_sipush (v := 128) hx hb dX2_generateWorkingKey_0 (by decide) ?_
  refine rc_newi hx hb (hts _ q162) hK hP hD hS hA 128 (by decide) (by decide) (Nat.le_of_ble_eq_true rfl) (Nat.le_of_ble_eq_true rfl) dX2_generateWorkingKey_3 (fun x0 H hP hD hS => ?_)
  have hP : va_P D vwCl [(k0, .inl (cb, 16, .inl f)), (x0, .inl (ci, 128, .inl (fun _ => 0)))] H := hP
  have hD : va_D A [(k0, .inl (cb, 16, .inl f)), (x0, .inl (ci, 128, .inl (fun _ => 0)))] := hD
  refine lv_astore (lv' := [(4, .ref x0), (0, .ref h0), (1, .ref k0), (2, .int 128)]) hx hb dX2_generateWorkingKey_5 hl (by decide) rfl (fun ls hl => ?_)
  refine lv_iconst (v := 0) hx hb dX2_generateWorkingKey_7 (by decide) ?_
  refine lv_istore (lv' := [(5, .int 0), (4, .ref x0), (0, .ref h0), (1, .ref k0), (2, .int 128)]) hx hb dX2_generateWorkingKey_8 hl (by decide) rfl (fun ls hl => ?_)
  rw [show (fun _ => 0 : Nat → Int32) = rc_cp (fun _ => 0) (fun j => f j &&& 255) 0 from (rc_cp_0 _ _).symm] at hP hD
  refine gwk_loopA hx hb hml hown hts hK (fun H locs ls hP hD hS hl => ?_) 16 0 rfl H _ ls hP hD hS (lv_sub hl [0, 1, 2, 3, 4] rfl)
  have hP : va_P D vwCl [(k0, .inl (cb, 16, .inl f)), (x0, .inl (ci, 128, .inl (rc_x0 f)))] H := hP
  have hD : va_D A [(k0, .inl (cb, 16, .inl f)), (x0, .inl (ci, 128, .inl (rc_x0 f)))] := hD
  refine lv_aload_n hx hb dX2_generateWorkingKey_36 rfl (lv_at hl 3 rfl) ?_
  refine va_alen (v := 16) hx hb hK hP 0 0 rfl rfl rfl dX2_generateWorkingKey_37 ?_
  refine lv_istore (lv' := [(5, .int 16), (4, .ref x0), (0, .ref h0), (1, .ref k0), (2, .int 128)]) hx hb dX2_generateWorkingKey_38 hl (by decide) rfl (fun ls hl => ?_)
  refine lv_iload hx hb dX2_generateWorkingKey_40 (lv_at hl 0 rfl) ?_
  refine lv_sipush (v := 128) hx hb dX2_generateWorkingKey_42 (by decide) ?_
  refine lv_icmp_ge (tgt := 99) hx hb dX2_generateWorkingKey_45 (by decide) (fun c1 => ?_) (fun c1 => ?_)
  · exact absurd c1 (by decide)
  · skip
    refine lv_iconst (v := 0) hx hb dX2_generateWorkingKey_48 (by decide) ?_
    refine lv_istore (lv' := [(6, .int 0), (5, .int 16), (4, .ref x0), (0, .ref h0), (1, .ref k0), (2, .int 128)]) hx hb dX2_generateWorkingKey_49 hl (by decide) rfl (fun ls hl => ?_)
    refine lv_aload hx hb dX2_generateWorkingKey_51 (lv_at hl 2 rfl) ?_
    refine lv_iload hx hb dX2_generateWorkingKey_53 (lv_at hl 1 rfl) ?_
    refine lv_iconst (v := 1) hx hb dX2_generateWorkingKey_55 (by decide) ?_
    refine lv_isub hx hb dX2_generateWorkingKey_56 ?_
    refine rc_iald hx hb hK hP 1 1 rfl rfl 15 (by decide) (by decide) (by decide) dX2_generateWorkingKey_57 ?_
    refine rc_top ((rc_g1 f 0).1) rfl ?_
    refine lv_istore_n (lv' := [(3, .int ((rc_g1 f 0).1)), (6, .int 0), (5, .int 16), (4, .ref x0), (0, .ref h0), (1, .ref k0), (2, .int 128)]) hx hb dX2_generateWorkingKey_58 rfl hl (by decide) rfl (fun ls hl => ?_)
    have hP : va_P D vwCl [(k0, .inl (cb, 16, .inl f)), (x0, .inl (ci, 128, .inl ((rc_g1 f 0).2)))] H := hP
    have hD : va_D A [(k0, .inl (cb, 16, .inl f)), (x0, .inl (ci, 128, .inl ((rc_g1 f 0).2)))] := hD
    refine gwk_loopB hx hb hml hown hts hK hX (fun H locs ls hP hD hS hl => ?_) 111 0 rfl H _ ls hP hD hS (lv_sub hl [0, 2, 1, 3, 4, 5, 6] rfl)
    refine lv_iload_n hx hb dX2_generateWorkingKey_99 rfl (lv_at hl 6 rfl) ?_
    refine lv_bipush (v := 7) hx hb dX2_generateWorkingKey_100 (by decide) ?_
    refine lv_iadd hx hb dX2_generateWorkingKey_102 ?_
    refine lv_iconst (v := 3) hx hb dX2_generateWorkingKey_103 (by decide) ?_
    refine lv_ishr hx hb dX2_generateWorkingKey_104 ?_
    refine rc_top 16 (by decide) ?_
    refine lv_istore (lv' := [(5, .int 16), (3, .int ((rc_g1 f 112).1)), (6, .int (nI 112)), (4, .ref x0), (0, .ref h0), (1, .ref k0), (2, .int 128)]) hx hb dX2_generateWorkingKey_105 hl (by decide) rfl (fun ls hl => ?_)
    refine rc_gets hx hb hX hS hown (hts _ q90) dX2_generateWorkingKey_107 ?_
    refine lv_aload hx hb dX2_generateWorkingKey_110 (lv_at hl 3 rfl) ?_
    refine lv_sipush (v := 128) hx hb dX2_generateWorkingKey_112 (by decide) ?_
    refine lv_iload hx hb dX2_generateWorkingKey_115 (lv_at hl 0 rfl) ?_
    refine lv_isub hx hb dX2_generateWorkingKey_117 ?_
    refine rc_iald hx hb hK hP 1 1 rfl rfl 112 (by decide) (by decide) (by decide) dX2_generateWorkingKey_118 ?_
    refine lv_sipush (v := 255) hx hb dX2_generateWorkingKey_119 (by decide) ?_
    refine lv_bipush (v := 7) hx hb dX2_generateWorkingKey_122 (by decide) ?_
    refine lv_iload_n hx hb dX2_generateWorkingKey_124 rfl (lv_at hl 6 rfl) ?_
    refine lv_ineg hx hb dX2_generateWorkingKey_125 ?_
    refine lv_iand hx hb dX2_generateWorkingKey_126 ?_
    refine lv_ishr hx hb dX2_generateWorkingKey_127 ?_
    refine rc_top 255 (by decide) ?_
    refine lv_iand hx hb dX2_generateWorkingKey_128 ?_
    refine rc_tb hx hb hX hS (pk_andE _ 8 (by decide)) dX2_generateWorkingKey_129 ?_
    refine lv_sipush (v := 255) hx hb dX2_generateWorkingKey_130 (by decide) ?_
    refine lv_iand hx hb dX2_generateWorkingKey_133 ?_
    refine rc_top ((rc_g2 f 0).1) rfl ?_
    refine lv_istore_n (lv' := [(3, .int ((rc_g2 f 0).1)), (5, .int 16), (6, .int (nI 112)), (4, .ref x0), (0, .ref h0), (1, .ref k0), (2, .int 128)]) hx hb dX2_generateWorkingKey_134 rfl hl (by decide) rfl (fun ls hl => ?_)
    refine lv_aload hx hb dX2_generateWorkingKey_135 (lv_at hl 3 rfl) ?_
    refine lv_sipush (v := 128) hx hb dX2_generateWorkingKey_137 (by decide) ?_
    refine lv_iload hx hb dX2_generateWorkingKey_140 (lv_at hl 1 rfl) ?_
    refine lv_isub hx hb dX2_generateWorkingKey_142 ?_
    refine lv_iload_n hx hb dX2_generateWorkingKey_143 rfl (lv_at hl 0 rfl) ?_
    refine rc_iast hx hb hK hP hD hS 1 1 rfl rfl 112 (by decide) (by decide) (by decide) dX2_generateWorkingKey_144 (fun H locs hP hD hS => ?_)
    have hP : va_P D vwCl [(k0, .inl (cb, 16, .inl f)), (x0, .inl (ci, 128, .inl (upd ((rc_g1 f 112).2) 112 ((rc_g2 f 0).1))))] H := hP
    have hD : va_D A [(k0, .inl (cb, 16, .inl f)), (x0, .inl (ci, 128, .inl (upd ((rc_g1 f 112).2) 112 ((rc_g2 f 0).1))))] := hD
    have hP : va_P D vwCl [(k0, .inl (cb, 16, .inl f)), (x0, .inl (ci, 128, .inl ((rc_g2 f 0).2)))] H := hP
    have hD : va_D A [(k0, .inl (cb, 16, .inl f)), (x0, .inl (ci, 128, .inl ((rc_g2 f 0).2)))] := hD
    refine lv_sipush (v := 128) hx hb dX2_generateWorkingKey_145 (by decide) ?_
    refine lv_iload hx hb dX2_generateWorkingKey_148 (lv_at hl 1 rfl) ?_
    refine lv_isub hx hb dX2_generateWorkingKey_150 ?_
    refine lv_iconst (v := 1) hx hb dX2_generateWorkingKey_151 (by decide) ?_
    refine lv_isub hx hb dX2_generateWorkingKey_152 ?_
    refine rc_top (rc_d1 112) (by decide) ?_
    refine lv_istore (lv' := [(6, .int (rc_d1 112)), (3, .int ((rc_g2 f 0).1)), (5, .int 16), (4, .ref x0), (0, .ref h0), (1, .ref k0), (2, .int 128)]) hx hb dX2_generateWorkingKey_153 hl (by decide) rfl (fun ls hl => ?_)
    refine gwk_loopC hx hb hml hown hts hK hX (fun H locs ls hP hD hS hl => ?_) 112 0 rfl H _ ls hP hD hS (lv_sub hl [1, 0, 2, 3, 4, 5, 6] rfl)
    refine lv_bipush (v := 64) hx hb dX2_generateWorkingKey_191 (by decide) ?_
    refine rc_newi hx hb (hts _ q162) hK hP hD hS hA 64 (by decide) (by decide) (Nat.le_of_ble_eq_true rfl) (Nat.le_of_ble_eq_true rfl) dX2_generateWorkingKey_193 (fun n0 H hP hD hS => ?_)
    have hP : va_P D vwCl [(k0, .inl (cb, 16, .inl f)), (x0, .inl (ci, 128, .inl ((rc_g2 f 112).2))), (n0, .inl (ci, 64, .inl (fun _ => 0)))] H := hP
    have hD : va_D A [(k0, .inl (cb, 16, .inl f)), (x0, .inl (ci, 128, .inl ((rc_g2 f 112).2))), (n0, .inl (ci, 64, .inl (fun _ => 0)))] := hD
    refine lv_astore (lv' := [(6, .ref n0), (3, .int ((rc_g2 f 112).1)), (5, .int 16), (4, .ref x0), (0, .ref h0), (1, .ref k0), (2, .int 128)]) hx hb dX2_generateWorkingKey_195 hl (by decide) rfl (fun ls hl => ?_)
    refine lv_iconst (v := 0) hx hb dX2_generateWorkingKey_197 (by decide) ?_
    refine lv_istore (lv' := [(7, .int 0), (6, .ref n0), (3, .int ((rc_g2 f 112).1)), (5, .int 16), (4, .ref x0), (0, .ref h0), (1, .ref k0), (2, .int 128)]) hx hb dX2_generateWorkingKey_198 hl (by decide) rfl (fun ls hl => ?_)
    have hP : va_P D vwCl [(k0, .inl (cb, 16, .inl f)), (x0, .inl (ci, 128, .inl ((rc_g2 f 112).2))), (n0, .inl (ci, 64, .inl (rc_cp (fun _ => 0) (rc_exp f) 0)))] H := by
      rw [rc_cp_0]
      exact hP
    have hD : va_D A [(k0, .inl (cb, 16, .inl f)), (x0, .inl (ci, 128, .inl ((rc_g2 f 112).2))), (n0, .inl (ci, 64, .inl (rc_cp (fun _ => 0) (rc_exp f) 0)))] := by
      rw [rc_cp_0]
      exact hD
    refine gwk_loopD hx hb hml hown hts hK (fun H locs ls hP hD hS hl => ?_) 64 0 rfl H _ ls hP hD hS (lv_sub hl [0, 1, 4, 5, 6, 7] rfl)
    refine lv_aload hx hb dX2_generateWorkingKey_239 (lv_at hl 1 rfl) ?_
    have hP : va_P D vwCl [(k0, .inl (cb, 16, .inl f)), (x0, .inl (ci, 128, .inl ((rc_g2 f 112).2))), (n0, .inl (ci, 64, .inl (rc_exp f)))] H := rc_fn hP 2 (rc_exp f) rfl (fun j hj => rc_cp_lt _ _ hj)
    have hD : va_D A [(k0, .inl (cb, 16, .inl f)), (x0, .inl (ci, 128, .inl ((rc_g2 f 112).2))), (n0, .inl (ci, 64, .inl (rc_exp f)))] := hD.set (p := 2) rfl
    have hP9 := hP.sub (ws' := [(k0, .inl (cb, 16, .inl f)), (n0, .inl (ci, 64, .inl (rc_exp f)))]) [0, 2] rfl
    have hD9 := hD.sub (ws' := [(k0, .inl (cb, 16, .inl f)), (n0, .inl (ci, 64, .inl (rc_exp f)))]) [0, 2] (by decide) rfl
    refine W.widen (k := 2) (n := 192) (by decide) (by decide) ?_
    exact W.aret (v := .ref n0) hx hb hr (Or.inr ⟨_, rfl⟩) (Or.inr ⟨_, rfl⟩) (fun t9 ht hW => ⟨⟨(), n0, rfl, trivial, by rw [ht]; exact hP9, hD9⟩, hS.F ht⟩) hS.2.2 dX2_generateWorkingKey_241
end
section
/-! KeyParameter: its constructors, getKey -/
set_option maxHeartbeats 4000000 in
set_option maxRecDepth 100000 in
/-- KeyParameter(16): a new array of 16 zeros -/
theorem met_kp3 (l : Launch) (D : va_G) (cb ci : ClassId) (t sz : Nat) (h0 : Nat)  : Met l yX3_init_3 (ws_ yX3_init_3 cX3_init_3 2 none) (rm_ 1 1 16) (va_Pc [.ref h0, .int 16] (rc_Pre D (rc_ty cb ci) t [(h0, .inr (2, [.null]))] sz)) (va_Qv (S := Nat) (fun _ => True) (fun a U => rc_B D (va_A [(h0, .inr (2, [.null]))] sz) [(h0, .inr (2, [.ref a])), (a, .inl (cb, 16, .inl (fun _ => 0)))] U) (va_A [(h0, .inr (2, [.null]))] sz)) 1 16 (va_A [(h0, .inr (2, [.null]))] sz) := by
  refine Met.ofW (cc := cX3_init_3) (maxL := 2) (ret := none) (by decide) rfl ?_
  intro p e s m args below meth c s₁ B hml hv
  obtain ⟨rfl, hsz, hP, hK, hD0, hX⟩ := hv
  have hx := B.exec
  have hb := B.bytes
  have hr := B.returns
  have hts := atoms_spec (ws := ws_ yX3_init_3 cX3_init_3 2 none) B.pre
  have hts : ∀ w ∈ lw_all, w.before _ s = true := fun w h => hts w (List.mem_cons_of_mem _ h)
  have hown : s.vm.findClass RX3 = some m.cls := findClass_of_methodNamed B.named
  have hlocks := B.notSynchronized
  have hin : meth.name = "<init>" := (name_of_methodNamed B.named B.method).1
  subst hsz
  have hD := hD0.self (sz := s.heap.size)
  generalize hAe : va_A [(h0, .inr (2, [.null]))] s.heap.size = A at hD hX ⊢
  have hA : ∀ q : Nat, s.heap.size ≤ q → A q := fun q h => by rw [← hAe]; exact Or.inr h
  have hS : va_S A s.heap s.heap [] := va_S.rf
  have hP : va_P D vwCl [(h0, .inr (2, [.null]))] s.heap := hP
  have hl := lv_entry ([.ref h0, .int 16]) (n := 2) (Nat.le_of_ble_eq_true rfl)
  rw [lg_entry_eq]
  generalize (lg_sl ([.ref h0, .int 16]) ++ List.replicate (2 - (lg_sl ([.ref h0, .int 16])).length) Slot.unset).toArray = ls at hl ⊢
  have hl : lv_has ls 2 [(0, .ref h0), (1, .int 16)] := hl
  refine lv_aload_n hx hb dX3_init_3_0 rfl (lv_at hl 0 rfl) ?_
  refine W.objInit hx hb hown (hts _ q58) (hts _ q37) (hts _ q38) rfl (by rw [hml]; exact hl.1) rfl dX3_init_3_1 (Nat.le_of_ble_eq_true rfl) (Nat.le_of_ble_eq_true rfl) ?_
  refine W.eq (g2 := F0 m 4 ls []) rfl ?_
  refine lv_aload_n hx hb dX3_init_3_4 rfl (lv_at hl 0 rfl) ?_
  refine lv_iload_n hx hb dX3_init_3_5 rfl (lv_at hl 1 rfl) ?_
  refine rc_newb hx hb (hts _ q46) hK hP hD hS hA 16 ((by decide)) (by decide) (Nat.le_of_ble_eq_true rfl) (Nat.le_of_ble_eq_true rfl) dX3_init_3_6 (fun a H hP hD hS => ?_)
  have hP : va_P D vwCl [(h0, .inr (2, [.null])), (a, .inl (cb, 16, .inl (fun _ => 0)))] H := hP
  have hD : va_D A [(h0, .inr (2, [.null])), (a, .inl (cb, 16, .inl (fun _ => 0)))] := hD
  refine va_put (D := D) (ci := 2) (v := .ref a) (ty := .array .byte) (C := RX3) (T := TX3) (N := 1) hx hb hts in_X3 tyX3 tyX3_ok nmX3 hown hK hP hD hS 0 rfl rfl 0 (by decide) (hts _ q59) (fun _ h9 => h9) rfl (by decide +kernel) rfl rfl (Nat.le_of_ble_eq_true rfl) dX3_init_3_8 (fun H locs hP hD hS => ?_)
  have hP : va_P D vwCl [(h0, .inr (2, [.ref a])), (a, .inl (cb, 16, .inl (fun _ => 0)))] H := hP
  have hD : va_D A [(h0, .inr (2, [.ref a])), (a, .inl (cb, 16, .inl (fun _ => 0)))] := hD
  have hP9 := hP.sub (ws' := [(h0, .inr (2, [.ref a])), (a, .inl (cb, 16, .inl (fun _ => 0)))]) [0, 1] rfl
  have hD9 := hD.sub (ws' := [(h0, .inr (2, [.ref a])), (a, .inl (cb, 16, .inl (fun _ => 0)))]) [0, 1] (by decide) rfl
  refine W.widen (k := 1) (n := 16) (Nat.le_of_ble_eq_true rfl) (Nat.le_of_ble_eq_true rfl) ?_
  exact W.vret hx hb hr (fun t9 ht hW => ⟨⟨a, rfl, trivial, by rw [ht]; exact hP9, hD9⟩, hS.F ht⟩) hS.2.2 dX3_init_3_11
set_option maxHeartbeats 4000000 in
set_option maxRecDepth 100000 in
/-- KeyParameter(key, 0, 16): a copy of the key -/
theorem met_kp2 (l : Launch) (D : va_G) (cb ci : ClassId) (t sz : Nat) (h0 a0 : Nat) (f : Nat → Int32) (hf : rc_bt f) : Met l yX3_init_2 (ws_ yX3_init_2 cX3_init_2 4 none) (rm_ 2 1 16) (va_Pc [.ref h0, .ref a0, .int 0, .int 16] (rc_Pre D (rc_ty cb ci) t [(h0, .inr (2, [.null])), (a0, .inl (cb, 16, .inl f))] sz)) (va_Qv (S := Nat) (fun _ => True) (fun a U => rc_B D (va_A [(h0, .inr (2, [.null])), (a0, .inl (cb, 16, .inl f))] sz) [(h0, .inr (2, [.ref a])), (a, .inl (cb, 16, .inl f))] U) (va_A [(h0, .inr (2, [.null])), (a0, .inl (cb, 16, .inl f))] sz)) 1 16 (va_A [(h0, .inr (2, [.null])), (a0, .inl (cb, 16, .inl f))] sz) := by
  refine Met.ofW (cc := cX3_init_2) (maxL := 4) (ret := none) (by decide) rfl ?_
  intro p e s m args below meth c s₁ B hml hv
  obtain ⟨rfl, hsz, hP, hK, hD0, hX⟩ := hv
  have hx := B.exec
  have hb := B.bytes
  have hr := B.returns
  have hts := atoms_spec (ws := ws_ yX3_init_2 cX3_init_2 4 none) B.pre
  have hts : ∀ w ∈ lw_all, w.before _ s = true := fun w h => hts w (List.mem_cons_of_mem _ h)
  have hown : s.vm.findClass RX3 = some m.cls := findClass_of_methodNamed B.named
  have hlocks := B.notSynchronized
  have hin : meth.name = "<init>" := (name_of_methodNamed B.named B.method).1
  subst hsz
  have hD := hD0.self (sz := s.heap.size)
  generalize hAe : va_A [(h0, .inr (2, [.null])), (a0, .inl (cb, 16, .inl f))] s.heap.size = A at hD hX ⊢
  have hA : ∀ q : Nat, s.heap.size ≤ q → A q := fun q h => by rw [← hAe]; exact Or.inr h
  have hS : va_S A s.heap s.heap [] := va_S.rf
  have hP : va_P D vwCl [(h0, .inr (2, [.null])), (a0, .inl (cb, 16, .inl f))] s.heap := hP
  have hl := lv_entry ([.ref h0, .ref a0, .int 0, .int 16]) (n := 4) (Nat.le_of_ble_eq_true rfl)
  rw [lg_entry_eq]
  generalize (lg_sl ([.ref h0, .ref a0, .int 0, .int 16]) ++ List.replicate (4 - (lg_sl ([.ref h0, .ref a0, .int 0, .int 16])).length) Slot.unset).toArray = ls at hl ⊢
  have hl : lv_has ls 4 [(0, .ref h0), (1, .ref a0), (2, .int 0), (3, .int 16)] := hl
  refine lv_aload_n hx hb dX3_init_2_0 rfl (lv_at hl 0 rfl) ?_
  refine lv_iload_n hx hb dX3_init_2_1 rfl (lv_at hl 3 rfl) ?_
  have hFc := va_free (wc := [(h0, .inr (2, [.null]))]) hD hS hA [0] rfl
  refine va_callv (va_runI (As := [.int 16]) (rest := []) ⟨hx, hb, hml, hown, hts⟩ (met_kp3 l D cb ci t s.heap.size h0) (cwI 1 hts (lw_meth q57) rfl rfl rfl (hts _ q9) (hts _ q55) (hts _ q56) rfl (by decide +kernel) ⟨Nat.le_of_ble_eq_true rfl, Nat.le_of_ble_eq_true rfl⟩) ⟨rc_Pre.blind, fun U hU hW => ⟨rfl, rc_Pre.pass hP hD hK hS hA hX [0] rfl rfl (by decide) U hU hW⟩⟩ rfl rfl hl.1 rfl (lv_room (Nat.le_of_ble_eq_true rfl)) dX3_init_2_2 ⟨Nat.le_of_ble_eq_true rfl, Nat.le_of_ble_eq_true rfl⟩) hS (fun q _ h => hFc q h) hFc (fun u t9 H1 locs ht hvm hw hB hz hk hS => ?_)
  obtain ⟨a1, rfl⟩ : ∃ z, z = u := ⟨_, rfl⟩
  obtain ⟨hP, hD⟩ := rc_join (wr := [(a0, .inl (cb, 16, .inl f))]) (w1 := [(h0, .inr (2, [.ref a1])), (a1, .inl (cb, 16, .inl (fun _ => 0)))]) hP hD [0] [1] rfl rfl (by decide) (by decide) hk hFc ht hB
  generalize H1 = H at hP hS ⊢
  have hP : va_P D vwCl [(a0, .inl (cb, 16, .inl f)), (h0, .inr (2, [.ref a1])), (a1, .inl (cb, 16, .inl (fun _ => 0)))] H := hP
  have hD : va_D A [(a0, .inl (cb, 16, .inl f)), (h0, .inr (2, [.ref a1])), (a1, .inl (cb, 16, .inl (fun _ => 0)))] := hD
  refine lv_aload_n hx hb dX3_init_2_5 rfl (lv_at hl 1 rfl) ?_
  refine lv_iload_n hx hb dX3_init_2_6 rfl (lv_at hl 2 rfl) ?_
  refine lv_aload_n hx hb dX3_init_2_7 rfl (lv_at hl 0 rfl) ?_
  refine va_get (D := D) (ci := 2) (v := .ref a1) (C := RX3) (T := TX3) (N := 1) hx hb hts in_X3 hown hK hP 1 rfl rfl 0 (by decide) (hts _ q59) (fun _ h9 => h9) rfl dX3_init_2_8 ?_
  refine lv_iconst (v := 0) hx hb dX3_init_2_11 (by decide) ?_
  refine lv_iload_n hx hb dX3_init_2_12 rfl (lv_at hl 3 rfl) ?_
  refine va_copyi (ty := .byte) hx hb (by rw [hml, hl.1]) hown (hts _ q63) (hts _ q65) (hts _ q64) (hts _ q10) hK hP hD hS 0 2 0 0 rfl rfl rfl rfl rfl (by decide) (by decide) (by decide) (by decide) (by decide) (fun i hi => rc_fit (hf _)) (Nat.le_of_ble_eq_true rfl) (by decide +kernel) dX3_init_2_13 (fun H locs hP hD hS => ?_)
  have e9 : ∀ j, j < 16 → va_cpy f (fun _ => 0) 0 0 16 j = f j := by
    intro j hj
    rw [pk_cpy_in (by omega) (by omega)]
    congr 1
    omega
  have hP : va_P D vwCl [(a0, .inl (cb, 16, .inl f)), (h0, .inr (2, [.ref a1])), (a1, .inl (cb, 16, .inl f))] H := rc_fn hP 2 f rfl e9
  have hD : va_D A [(a0, .inl (cb, 16, .inl f)), (h0, .inr (2, [.ref a1])), (a1, .inl (cb, 16, .inl f))] := hD.set (p := 2) rfl
  have hP9 := hP.sub (ws' := [(h0, .inr (2, [.ref a1])), (a1, .inl (cb, 16, .inl f))]) [1, 2] rfl
  have hD9 := hD.sub (ws' := [(h0, .inr (2, [.ref a1])), (a1, .inl (cb, 16, .inl f))]) [1, 2] (by decide) rfl
  refine W.widen (k := 1) (n := 16) (Nat.le_of_ble_eq_true rfl) (Nat.le_of_ble_eq_true rfl) ?_
  exact W.vret hx hb hr (fun t9 ht hW => ⟨⟨a1, rfl, trivial, by rw [ht]; exact hP9, hD9⟩, hS.F ht⟩) hS.2.2 dX3_init_2_16
set_option maxHeartbeats 4000000 in
set_option maxRecDepth 100000 in
/-- KeyParameter(key) of 16 bytes: a copy of the key -/
theorem met_kp (l : Launch) (D : va_G) (cb ci : ClassId) (t sz : Nat) (h0 a0 : Nat) (f : Nat → Int32) (hf : rc_bt f) : Met l yX3_init (ws_ yX3_init cX3_init 2 none) (rm_ 3 1 16) (va_Pc [.ref h0, .ref a0] (rc_Pre D (rc_ty cb ci) t [(h0, .inr (2, [.null])), (a0, .inl (cb, 16, .inl f))] sz)) (va_Qv (S := Nat) (fun _ => True) (fun a U => rc_B D (va_A [(h0, .inr (2, [.null])), (a0, .inl (cb, 16, .inl f))] sz) [(h0, .inr (2, [.ref a])), (a, .inl (cb, 16, .inl f))] U) (va_A [(h0, .inr (2, [.null])), (a0, .inl (cb, 16, .inl f))] sz)) 1 16 (va_A [(h0, .inr (2, [.null])), (a0, .inl (cb, 16, .inl f))] sz) := by
  refine Met.ofW (cc := cX3_init) (maxL := 2) (ret := none) (by decide) rfl ?_
  intro p e s m args below meth c s₁ B hml hv
  obtain ⟨rfl, hsz, hP, hK, hD0, hX⟩ := hv
  have hx := B.exec
  have hb := B.bytes
  have hr := B.returns
  have hts := atoms_spec (ws := ws_ yX3_init cX3_init 2 none) B.pre
  have hts : ∀ w ∈ lw_all, w.before _ s = true := fun w h => hts w (List.mem_cons_of_mem _ h)
  have hown : s.vm.findClass RX3 = some m.cls := findClass_of_methodNamed B.named
  have hlocks := B.notSynchronized
  have hin : meth.name = "<init>" := (name_of_methodNamed B.named B.method).1
  subst hsz
  have hD := hD0.self (sz := s.heap.size)
  generalize hAe : va_A [(h0, .inr (2, [.null])), (a0, .inl (cb, 16, .inl f))] s.heap.size = A at hD hX ⊢
  have hA : ∀ q : Nat, s.heap.size ≤ q → A q := fun q h => by rw [← hAe]; exact Or.inr h
  have hS : va_S A s.heap s.heap [] := va_S.rf
  have hP : va_P D vwCl [(h0, .inr (2, [.null])), (a0, .inl (cb, 16, .inl f))] s.heap := hP
  have hl := lv_entry ([.ref h0, .ref a0]) (n := 2) (Nat.le_of_ble_eq_true rfl)
  rw [lg_entry_eq]
  generalize (lg_sl ([.ref h0, .ref a0]) ++ List.replicate (2 - (lg_sl ([.ref h0, .ref a0])).length) Slot.unset).toArray = ls at hl ⊢
  have hl : lv_has ls 2 [(0, .ref h0), (1, .ref a0)] := hl
  refine lv_aload_n hx hb dX3_init_0 rfl (lv_at hl 0 rfl) ?_
  refine lv_aload_n hx hb dX3_init_1 rfl (lv_at hl 1 rfl) ?_
  refine lv_iconst (v := 0) hx hb dX3_init_2 (by decide) ?_
  refine lv_aload_n hx hb dX3_init_3 rfl (lv_at hl 1 rfl) ?_
  refine va_alen (v := 16) hx hb hK hP 1 0 rfl rfl rfl dX3_init_4 ?_
  have hFc := va_free (wc := [(h0, .inr (2, [.null])), (a0, .inl (cb, 16, .inl f))]) hD hS hA [0, 1] rfl
  refine va_callv (va_runI (As := [.ref a0, .int 0, .int 16]) (rest := []) ⟨hx, hb, hml, hown, hts⟩ (met_kp2 l D cb ci t s.heap.size h0 a0 f hf) (cwI 3 hts (lw_meth q54) rfl rfl rfl (hts _ q9) (hts _ q52) (hts _ q53) rfl (by decide +kernel) ⟨Nat.le_of_ble_eq_true rfl, Nat.le_of_ble_eq_true rfl⟩) ⟨rc_Pre.blind, fun U hU hW => ⟨rfl, rc_Pre.pass hP hD hK hS hA hX [0, 1] rfl rfl (by decide) U hU hW⟩⟩ rfl rfl hl.1 rfl (lv_room (Nat.le_of_ble_eq_true rfl)) dX3_init_5 ⟨Nat.le_of_ble_eq_true rfl, Nat.le_of_ble_eq_true rfl⟩) hS (fun q _ h => hFc q h) hFc (fun u t9 H1 locs ht hvm hw hB hz hk hS => ?_)
  obtain ⟨a1, rfl⟩ : ∃ z, z = u := ⟨_, rfl⟩
  obtain ⟨hP, hD⟩ := rc_join (wr := []) (w1 := [(h0, .inr (2, [.ref a1])), (a1, .inl (cb, 16, .inl f))]) hP hD [0, 1] [] rfl rfl (by decide) (by decide) hk hFc ht hB
  generalize H1 = H at hP hS ⊢
  have hP : va_P D vwCl [(h0, .inr (2, [.ref a1])), (a1, .inl (cb, 16, .inl f))] H := hP
  have hD : va_D A [(h0, .inr (2, [.ref a1])), (a1, .inl (cb, 16, .inl f))] := hD
  have hP9 := hP.sub (ws' := [(h0, .inr (2, [.ref a1])), (a1, .inl (cb, 16, .inl f))]) [0, 1] rfl
  have hD9 := hD.sub (ws' := [(h0, .inr (2, [.ref a1])), (a1, .inl (cb, 16, .inl f))]) [0, 1] (by decide) rfl
  refine W.widen (k := 1) (n := 16) (Nat.le_of_ble_eq_true rfl) (Nat.le_of_ble_eq_true rfl) ?_
  exact W.vret hx hb hr (fun t9 ht hW => ⟨⟨a1, rfl, trivial, by rw [ht]; exact hP9, hD9⟩, hS.F ht⟩) hS.2.2 dX3_init_8
set_option maxHeartbeats 4000000 in
set_option maxRecDepth 100000 in
/-- getKey() -/
theorem met_getKey (l : Launch) (D : va_G) (cb ci : ClassId) (t sz : Nat) (h0 k0 : Nat)  : Met l yX3_getKey (ws_ yX3_getKey cX3_getKey 1 (some (.array .byte))) (rm_ 0 0 0) (va_Pc [.ref h0] (rc_Pre D (rc_ty cb ci) t [(h0, .inr (2, [.ref k0]))] sz)) (va_Qr (S := Unit) (fun _ => True) (fun _ a U => a = k0 ∧ rc_B D (va_A [(h0, .inr (2, [.ref k0]))] sz) [(h0, .inr (2, [.ref k0]))] U) (va_A [(h0, .inr (2, [.ref k0]))] sz)) 0 0 (va_A [(h0, .inr (2, [.ref k0]))] sz) := by
  refine Met.ofW (cc := cX3_getKey) (maxL := 1) (ret := (some (.array .byte))) (by decide) rfl ?_
  intro p e s m args below meth c s₁ B hml hv
  obtain ⟨rfl, hsz, hP, hK, hD0, hX⟩ := hv
  have hx := B.exec
  have hb := B.bytes
  have hr := B.returns
  have hts := atoms_spec (ws := ws_ yX3_getKey cX3_getKey 1 (some (.array .byte))) B.pre
  have hts : ∀ w ∈ lw_all, w.before _ s = true := fun w h => hts w (List.mem_cons_of_mem _ h)
  have hown : s.vm.findClass RX3 = some m.cls := findClass_of_methodNamed B.named
  have hlocks := B.notSynchronized
  subst hsz
  have hD := hD0.self (sz := s.heap.size)
  generalize hAe : va_A [(h0, .inr (2, [.ref k0]))] s.heap.size = A at hD hX ⊢
  have hA : ∀ q : Nat, s.heap.size ≤ q → A q := fun q h => by rw [← hAe]; exact Or.inr h
  have hS : va_S A s.heap s.heap [] := va_S.rf
  have hP : va_P D vwCl [(h0, .inr (2, [.ref k0]))] s.heap := hP
  have hl := lv_entry ([.ref h0]) (n := 1) (Nat.le_of_ble_eq_true rfl)
  rw [lg_entry_eq]
  generalize (lg_sl ([.ref h0]) ++ List.replicate (1 - (lg_sl ([.ref h0])).length) Slot.unset).toArray = ls at hl ⊢
  have hl : lv_has ls 1 [(0, .ref h0)] := hl
  refine lv_aload_n hx hb dX3_getKey_0 rfl (lv_at hl 0 rfl) ?_
  refine va_get (D := D) (ci := 2) (v := .ref k0) (C := RX3) (T := TX3) (N := 1) hx hb hts in_X3 hown hK hP 0 rfl rfl 0 (by decide) (hts _ q59) (fun _ h9 => h9) rfl dX3_getKey_1 ?_
  exact W.aret (v := .ref k0) hx hb hr (Or.inr ⟨_, rfl⟩) (Or.inr ⟨_, rfl⟩) (fun t9 ht hW => ⟨⟨(), k0, rfl, trivial, rfl, by rw [ht]; exact hP, hD⟩, hS.F ht⟩) hS.2.2 dX3_getKey_4
end
section
/-! RC2Engine: constructor, init, processBlock -/
set_option maxHeartbeats 4000000 in
set_option maxRecDepth 100000 in
/-- RC2Engine() -/
theorem met_eng (l : Launch) (D : va_G) (cb ci : ClassId) (t sz : Nat) (e0 : Nat)  : Met l yX2_init (ws_ yX2_init cX2_init 1 none) (rm_ 1 0 0) (va_Pc [.ref e0] (rc_Pre D (rc_ty cb ci) t [(e0, .inr (1, [.null, .int 0]))] sz)) (va_Qv (S := Unit) (fun _ => True) (fun _ U => rc_B D (va_A [(e0, .inr (1, [.null, .int 0]))] sz) [(e0, .inr (1, [.null, .int 0]))] U) (va_A [(e0, .inr (1, [.null, .int 0]))] sz)) 0 0 (va_A [(e0, .inr (1, [.null, .int 0]))] sz) := by
  refine Met.ofW (cc := cX2_init) (maxL := 1) (ret := none) (by decide) rfl ?_
  intro p e s m args below meth c s₁ B hml hv
  obtain ⟨rfl, hsz, hP, hK, hD0, hX⟩ := hv
  have hx := B.exec
  have hb := B.bytes
  have hr := B.returns
  have hts := atoms_spec (ws := ws_ yX2_init cX2_init 1 none) B.pre
  have hts : ∀ w ∈ lw_all, w.before _ s = true := fun w h => hts w (List.mem_cons_of_mem _ h)
  have hown : s.vm.findClass RX2 = some m.cls := findClass_of_methodNamed B.named
  have hlocks := B.notSynchronized
  have hin : meth.name = "<init>" := (name_of_methodNamed B.named B.method).1
  subst hsz
  have hD := hD0.self (sz := s.heap.size)
  generalize hAe : va_A [(e0, .inr (1, [.null, .int 0]))] s.heap.size = A at hD hX ⊢
  have hA : ∀ q : Nat, s.heap.size ≤ q → A q := fun q h => by rw [← hAe]; exact Or.inr h
  have hS : va_S A s.heap s.heap [] := va_S.rf
  have hP : va_P D vwCl [(e0, .inr (1, [.null, .int 0]))] s.heap := hP
  have hl := lv_entry ([.ref e0]) (n := 1) (Nat.le_of_ble_eq_true rfl)
  rw [lg_entry_eq]
  generalize (lg_sl ([.ref e0]) ++ List.replicate (1 - (lg_sl ([.ref e0])).length) Slot.unset).toArray = ls at hl ⊢
  have hl : lv_has ls 1 [(0, .ref e0)] := hl
  refine lv_aload_n hx hb dX2_init_0 rfl (lv_at hl 0 rfl) ?_
  refine W.objInit hx hb hown (hts _ q36) (hts _ q37) (hts _ q38) rfl (by rw [hml]; exact hl.1) rfl dX2_init_1 (Nat.le_of_ble_eq_true rfl) (Nat.le_of_ble_eq_true rfl) ?_
  refine W.eq (g2 := F0 m 4 ls []) rfl ?_
  have hP9 := hP.sub (ws' := [(e0, .inr (1, [.null, .int 0]))]) [0] rfl
  have hD9 := hD.sub (ws' := [(e0, .inr (1, [.null, .int 0]))]) [0] (by decide) rfl
  refine W.widen (k := 0) (n := 0) (Nat.le_of_ble_eq_true rfl) (Nat.le_of_ble_eq_true rfl) ?_
  exact W.vret hx hb hr (fun t9 ht hW => ⟨⟨(), rfl, trivial, by rw [ht]; exact hP9, hD9⟩, hS.F ht⟩) hS.2.2 dX2_init_4
set_option maxHeartbeats 4000000 in
set_option maxRecDepth 100000 in
/-- init(lk, key parameter of 16 bytes): the working key is made -/
theorem met_init (l : Launch) (D : va_G) (cb ci : ClassId) (t sz : Nat) (e0 h0 k0 : Nat) (lk : Int32) (f : Nat → Int32) (hlk : lk = 0 ∨ lk = 1) : Met l yX2_init_2 (ws_ yX2_init_2 cX2_init_2 5 none) (rm_ 1 2 192) (va_Pc [.ref e0, .int lk, .ref h0] (rc_Pre D (rc_ty cb ci) t [(e0, .inr (1, [.null, .int 0])), (h0, .inr (2, [.ref k0])), (k0, .inl (cb, 16, .inl f))] sz)) (va_Qv (S := Nat) (fun _ => True) (fun a U => rc_B D (va_A [(e0, .inr (1, [.null, .int 0])), (h0, .inr (2, [.ref k0])), (k0, .inl (cb, 16, .inl f))] sz) [(e0, .inr (1, [.ref a, .int lk])), (a, .inl (ci, 64, .inl (rc_exp f)))] U) (va_A [(e0, .inr (1, [.null, .int 0])), (h0, .inr (2, [.ref k0])), (k0, .inl (cb, 16, .inl f))] sz)) 2 192 (va_A [(e0, .inr (1, [.null, .int 0])), (h0, .inr (2, [.ref k0])), (k0, .inl (cb, 16, .inl f))] sz) := by
  refine Met.ofW (cc := cX2_init_2) (maxL := 5) (ret := none) (by decide) rfl ?_
  intro p e s m args below meth c s₁ B hml hv
  obtain ⟨rfl, hsz, hP, hK, hD0, hX⟩ := hv
  have hx := B.exec
  have hb := B.bytes
  have hr := B.returns
  have hts := atoms_spec (ws := ws_ yX2_init_2 cX2_init_2 5 none) B.pre
  have hts : ∀ w ∈ lw_all, w.before _ s = true := fun w h => hts w (List.mem_cons_of_mem _ h)
  have hown : s.vm.findClass RX2 = some m.cls := findClass_of_methodNamed B.named
  have hlocks := B.notSynchronized
  subst hsz
  have hD := hD0.self (sz := s.heap.size)
  generalize hAe : va_A [(e0, .inr (1, [.null, .int 0])), (h0, .inr (2, [.ref k0])), (k0, .inl (cb, 16, .inl f))] s.heap.size = A at hD hX ⊢
  have hA : ∀ q : Nat, s.heap.size ≤ q → A q := fun q h => by rw [← hAe]; exact Or.inr h
  have hS : va_S A s.heap s.heap [] := va_S.rf
  have hP : va_P D vwCl [(e0, .inr (1, [.null, .int 0])), (h0, .inr (2, [.ref k0])), (k0, .inl (cb, 16, .inl f))] s.heap := hP
  have hl := lv_entry ([.ref e0, .int lk, .ref h0]) (n := 5) (Nat.le_of_ble_eq_true rfl)
  rw [lg_entry_eq]
  generalize (lg_sl ([.ref e0, .int lk, .ref h0]) ++ List.replicate (5 - (lg_sl ([.ref e0, .int lk, .ref h0])).length) Slot.unset).toArray = ls at hl ⊢
  have hl : lv_has ls 5 [(0, .ref e0), (1, .int lk), (2, .ref h0)] := hl
  refine lv_aload_n hx hb dX2_init_2_0 rfl (lv_at hl 0 rfl) ?_
  refine lv_iload_n hx hb dX2_init_2_1 rfl (lv_at hl 1 rfl) ?_
  refine va_put (D := D) (ci := 1) (v := .int lk) (ty := .boolean) (C := RX2) (T := TX2) (N := 2) hx hb hts in_X2 tyX2 tyX2_ok nmX2 hown hK hP hD hS 0 rfl rfl 1 (by decide) (hts _ q40) (fun _ h9 => h9) rfl (by decide +kernel) (by rcases hlk with rfl | rfl <;> rfl) (by rcases hlk with rfl | rfl <;> rfl) (Nat.le_of_ble_eq_true rfl) dX2_init_2_2 (fun H locs hP hD hS => ?_)
  have hP : va_P D vwCl [(e0, .inr (1, [.null, .int lk])), (h0, .inr (2, [.ref k0])), (k0, .inl (cb, 16, .inl f))] H := hP
  have hD : va_D A [(e0, .inr (1, [.null, .int lk])), (h0, .inr (2, [.ref k0])), (k0, .inl (cb, 16, .inl f))] := hD
  refine lv_aload_n hx hb dX2_init_2_5 rfl (lv_at hl 2 rfl) ?_
  refine va_instNo hx hb hown (hts _ q76) hX.2.2.2.2 (va_recv hK hP (ci := 2) (q0 := 1) rfl rfl) dX2_init_2_6 ?_
  refine lv_if_eq (tgt := 45) hx hb dX2_init_2_9 (by decide) (fun c1 => ?_) (fun c1 => ?_)
  · skip
    refine lv_aload_n hx hb dX2_init_2_45 rfl (lv_at hl 2 rfl) ?_
    refine va_instS hx hb hown (hts _ q92) (hK.1 2 _ rfl).2 (va_recv hK hP (ci := 2) (q0 := 1) rfl rfl) dX2_init_2_46 ?_
    refine lv_if_eq (tgt := 77) hx hb dX2_init_2_49 (by decide) (fun c2 => ?_) (fun c2 => ?_)
    · exact absurd c2 (by decide)
    · skip
      refine lv_aload_n hx hb dX2_init_2_52 rfl (lv_at hl 2 rfl) ?_
      refine va_castS hx hb hown (hts _ q92) (hK.1 2 _ rfl).2 (va_recv hK hP (ci := 2) (q0 := 1) rfl rfl) dX2_init_2_53 ?_
      have hFc := va_free (wc := [(h0, .inr (2, [.ref k0]))]) hD hS hA [1] rfl
      refine va_callr (va_runV (As := []) (rest := []) ⟨hx, hb, hml, hown, hts⟩ (met_getKey l D cb ci t H.size h0 k0) (cwV 0 hts (lw_V q93 q80 q292 q9 q81) rfl rfl rfl (by decide +kernel) ⟨Nat.le_of_ble_eq_true rfl, Nat.le_of_ble_eq_true rfl⟩) ⟨rc_Pre.blind, va_recv hK hP (ci := 2) (q0 := 1) rfl rfl, fun U hU hW => ⟨rfl, rc_Pre.pass hP hD hK hS hA hX [1] rfl rfl (by decide) U hU hW⟩⟩ rfl rfl hl.1 rfl (lv_room (Nat.le_of_ble_eq_true rfl)) dX2_init_2_56 ⟨Nat.le_of_ble_eq_true rfl, Nat.le_of_ble_eq_true rfl⟩) hS (fun q _ h => hFc q h) hFc (fun u ra t9 H1 locs ht hvm hw hB hz hk hS => ?_)
      obtain ⟨e7, hB⟩ := hB
      rw [e7]
      obtain ⟨hP, hD⟩ := rc_join (wr := [(e0, .inr (1, [.null, .int lk])), (k0, .inl (cb, 16, .inl f))]) (w1 := [(h0, .inr (2, [.ref k0]))]) hP hD [1] [0, 2] rfl rfl (by decide) (by decide) hk hFc ht hB
      generalize H1 = H at hP hS ⊢
      have hP : va_P D vwCl [(e0, .inr (1, [.null, .int lk])), (k0, .inl (cb, 16, .inl f)), (h0, .inr (2, [.ref k0]))] H := hP
      have hD : va_D A [(e0, .inr (1, [.null, .int lk])), (k0, .inl (cb, 16, .inl f)), (h0, .inr (2, [.ref k0]))] := hD
      refine lv_astore_n (lv' := [(3, .ref k0), (0, .ref e0), (1, .int lk), (2, .ref h0)]) hx hb dX2_init_2_59 rfl hl (by decide) rfl (fun ls hl => ?_)
      refine lv_aload_n hx hb dX2_init_2_60 rfl (lv_at hl 1 rfl) ?_
      refine lv_aload_n hx hb dX2_init_2_61 rfl (lv_at hl 1 rfl) ?_
      refine lv_aload_n hx hb dX2_init_2_62 rfl (lv_at hl 0 rfl) ?_
      refine lv_aload_n hx hb dX2_init_2_63 rfl (lv_at hl 0 rfl) ?_
      refine va_alen (v := 16) hx hb hK hP 1 0 rfl rfl rfl dX2_init_2_64 ?_
      refine lv_bipush (v := 8) hx hb dX2_init_2_65 (by decide) ?_
      refine lv_imul hx hb dX2_init_2_67 ?_
      refine rc_top 128 (by decide) ?_
      have hFc := va_free (wc := [(k0, .inl (cb, 16, .inl f))]) hD hS hA [1] rfl
      refine va_callr (va_runV (As := [.ref k0, .int 128]) (rest := [.ref e0]) ⟨hx, hb, hml, hown, hts⟩ (met_gwk l D cb ci t H.size e0 k0 f) (cwV 2 hts (lw_V q86 q88 qs1 q8 q89) rfl rfl rfl (by decide +kernel) ⟨Nat.le_of_ble_eq_true rfl, Nat.le_of_ble_eq_true rfl⟩) ⟨rc_Pre.blind, va_recv hK hP (ci := 1) (q0 := 0) rfl rfl, fun U hU hW => ⟨rfl, rc_Pre.pass hP hD hK hS hA hX [1] rfl rfl (by decide) U hU hW⟩⟩ rfl rfl hl.1 rfl (lv_room (Nat.le_of_ble_eq_true rfl)) dX2_init_2_68 ⟨Nat.le_of_ble_eq_true rfl, Nat.le_of_ble_eq_true rfl⟩) hS (fun q _ h => hFc q h) hFc (fun u ra t9 H1 locs ht hvm hw hB hz hk hS => ?_)
      obtain ⟨hP, hD⟩ := rc_join (wr := [(e0, .inr (1, [.null, .int lk])), (h0, .inr (2, [.ref k0]))]) (w1 := [(k0, .inl (cb, 16, .inl f)), (ra, .inl (ci, 64, .inl (rc_exp f)))]) hP hD [1] [0, 2] rfl rfl (by decide) (by decide) hk hFc ht hB
      generalize H1 = H at hP hS ⊢
      have hP : va_P D vwCl [(e0, .inr (1, [.null, .int lk])), (h0, .inr (2, [.ref k0])), (k0, .inl (cb, 16, .inl f)), (ra, .inl (ci, 64, .inl (rc_exp f)))] H := hP
      have hD : va_D A [(e0, .inr (1, [.null, .int lk])), (h0, .inr (2, [.ref k0])), (k0, .inl (cb, 16, .inl f)), (ra, .inl (ci, 64, .inl (rc_exp f)))] := hD
      refine va_put (D := D) (ci := 1) (v := .ref ra) (ty := .array .int) (C := RX2) (T := TX2) (N := 2) hx hb hts in_X2 tyX2 tyX2_ok nmX2 hown hK hP hD hS 0 rfl rfl 0 (by decide) (hts _ q39) (fun _ h9 => h9) rfl (by decide +kernel) rfl rfl (Nat.le_of_ble_eq_true rfl) dX2_init_2_71 (fun H locs hP hD hS => ?_)
      have hP : va_P D vwCl [(e0, .inr (1, [.ref ra, .int lk])), (h0, .inr (2, [.ref k0])), (k0, .inl (cb, 16, .inl f)), (ra, .inl (ci, 64, .inl (rc_exp f)))] H := hP
      have hD : va_D A [(e0, .inr (1, [.ref ra, .int lk])), (h0, .inr (2, [.ref k0])), (k0, .inl (cb, 16, .inl f)), (ra, .inl (ci, 64, .inl (rc_exp f)))] := hD
      refine lv_goto (tgt := 87) hx hb dX2_init_2_74 (by decide) ?_
      have hP9 := hP.sub (ws' := [(e0, .inr (1, [.ref ra, .int lk])), (ra, .inl (ci, 64, .inl (rc_exp f)))]) [0, 3] rfl
      have hD9 := hD.sub (ws' := [(e0, .inr (1, [.ref ra, .int lk])), (ra, .inl (ci, 64, .inl (rc_exp f)))]) [0, 3] (by decide) rfl
      refine W.widen (k := 2) (n := 192) (Nat.le_of_ble_eq_true rfl) (Nat.le_of_ble_eq_true rfl) ?_
      exact W.vret hx hb hr (fun t9 ht hW => ⟨⟨ra, rfl, trivial, by rw [ht]; exact hP9, hD9⟩, hS.F ht⟩) hS.2.2 dX2_init_2_87
  · exact absurd rfl c1
def rc_cr (lk : Int32) (K f : Nat → Int32) : Nat → Int32 := if lk = 0 then rc_dec K f else rc_enc K f
set_option maxHeartbeats 4000000 in
set_option maxRecDepth 100000 in
/-- processBlock(in, 0, out, 0): out is the locked or the opened block -/
theorem met_proc (l : Launch) (D : va_G) (cb ci : ClassId) (t sz : Nat) (e0 w0 b0 o0 : Nat) (lk : Int32) (K fb fo : Nat → Int32)  : Met l yX2_processBlock (ws_ yX2_processBlock cX2_processBlock 5 (some .int)) (rm_ 2 0 0) (va_Pc [.ref e0, .ref b0, .int 0, .ref o0, .int 0] (rc_Pre D (rc_ty cb ci) t [(e0, .inr (1, [.ref w0, .int lk])), (w0, .inl (ci, 64, .inl K)), (b0, .inl (cb, 8, .inl fb)), (o0, .inl (cb, 8, .inl fo))] sz)) (va_Qi (fun (_ : Int32) (_ : Unit) => True) (fun _ U => rc_B D (va_A [(e0, .inr (1, [.ref w0, .int lk])), (w0, .inl (ci, 64, .inl K)), (b0, .inl (cb, 8, .inl fb)), (o0, .inl (cb, 8, .inl fo))] sz) [(e0, .inr (1, [.ref w0, .int lk])), (w0, .inl (ci, 64, .inl K)), (b0, .inl (cb, 8, .inl fb)), (o0, .inl (cb, 8, .inl (rc_cr lk K fb)))] U) (va_A [(e0, .inr (1, [.ref w0, .int lk])), (w0, .inl (ci, 64, .inl K)), (b0, .inl (cb, 8, .inl fb)), (o0, .inl (cb, 8, .inl fo))] sz)) 0 0 (va_A [(e0, .inr (1, [.ref w0, .int lk])), (w0, .inl (ci, 64, .inl K)), (b0, .inl (cb, 8, .inl fb)), (o0, .inl (cb, 8, .inl fo))] sz) := by
  refine Met.ofW (cc := cX2_processBlock) (maxL := 5) (ret := (some .int)) (by decide) rfl ?_
  intro p e s m args below meth c s₁ B hml hv
  obtain ⟨rfl, hsz, hP, hK, hD0, hX⟩ := hv
  have hx := B.exec
  have hb := B.bytes
  have hr := B.returns
  have hts := atoms_spec (ws := ws_ yX2_processBlock cX2_processBlock 5 (some .int)) B.pre
  have hts : ∀ w ∈ lw_all, w.before _ s = true := fun w h => hts w (List.mem_cons_of_mem _ h)
  have hown : s.vm.findClass RX2 = some m.cls := findClass_of_methodNamed B.named
  have hlocks := B.notSynchronized
  subst hsz
  have hD := hD0.self (sz := s.heap.size)
  generalize hAe : va_A [(e0, .inr (1, [.ref w0, .int lk])), (w0, .inl (ci, 64, .inl K)), (b0, .inl (cb, 8, .inl fb)), (o0, .inl (cb, 8, .inl fo))] s.heap.size = A at hD hX ⊢
  have hA : ∀ q : Nat, s.heap.size ≤ q → A q := fun q h => by rw [← hAe]; exact Or.inr h
  have hS : va_S A s.heap s.heap [] := va_S.rf
  have hP : va_P D vwCl [(e0, .inr (1, [.ref w0, .int lk])), (w0, .inl (ci, 64, .inl K)), (b0, .inl (cb, 8, .inl fb)), (o0, .inl (cb, 8, .inl fo))] s.heap := hP
  have hl := lv_entry ([.ref e0, .ref b0, .int 0, .ref o0, .int 0]) (n := 5) (Nat.le_of_ble_eq_true rfl)
  rw [lg_entry_eq]
  generalize (lg_sl ([.ref e0, .ref b0, .int 0, .ref o0, .int 0]) ++ List.replicate (5 - (lg_sl ([.ref e0, .ref b0, .int 0, .ref o0, .int 0])).length) Slot.unset).toArray = ls at hl ⊢
  have hl : lv_has ls 5 [(0, .ref e0), (1, .ref b0), (2, .int 0), (3, .ref o0), (4, .int 0)] := hl
  refine lv_aload_n hx hb dX2_processBlock_0 rfl (lv_at hl 0 rfl) ?_
  refine va_get (D := D) (ci := 1) (v := .ref w0) (C := RX2) (T := TX2) (N := 2) hx hb hts in_X2 hown hK hP 0 rfl rfl 0 (by decide) (hts _ q39) (fun _ h9 => h9) rfl dX2_processBlock_1 ?_
  refine lv_ifnonnull (tgt := 17) hx hb dX2_processBlock_4 (by decide) ?_
  refine lv_iload_n hx hb dX2_processBlock_17 rfl (lv_at hl 2 rfl) ?_
  refine lv_bipush (v := 8) hx hb dX2_processBlock_18 (by decide) ?_
  refine lv_iadd hx hb dX2_processBlock_20 ?_
  refine lv_aload_n hx hb dX2_processBlock_21 rfl (lv_at hl 1 rfl) ?_
  refine va_alen (v := 8) hx hb hK hP 2 0 rfl rfl rfl dX2_processBlock_22 ?_
  refine lv_icmp_le (tgt := 36) hx hb dX2_processBlock_23 (by decide) (fun c1 => ?_) (fun c1 => ?_)
  · skip
    refine lv_iload hx hb dX2_processBlock_36 (lv_at hl 4 rfl) ?_
    refine lv_bipush (v := 8) hx hb dX2_processBlock_38 (by decide) ?_
    refine lv_iadd hx hb dX2_processBlock_40 ?_
    refine lv_aload_n hx hb dX2_processBlock_41 rfl (lv_at hl 3 rfl) ?_
    refine va_alen (v := 8) hx hb hK hP 3 0 rfl rfl rfl dX2_processBlock_42 ?_
    refine lv_icmp_le (tgt := 56) hx hb dX2_processBlock_43 (by decide) (fun c2 => ?_) (fun c2 => ?_)
    · skip
      refine lv_aload_n hx hb dX2_processBlock_56 rfl (lv_at hl 0 rfl) ?_
      refine va_get (D := D) (ci := 1) (v := .int lk) (C := RX2) (T := TX2) (N := 2) hx hb hts in_X2 hown hK hP 0 rfl rfl 1 (by decide) (hts _ q40) (fun _ h9 => h9) rfl dX2_processBlock_57 ?_
      refine lv_if_eq (tgt := 75) hx hb dX2_processBlock_60 (by decide) (fun c3 => ?_) (fun c3 => ?_)
      · skip
        refine lv_aload_n hx hb dX2_processBlock_75 rfl (lv_at hl 0 rfl) ?_
        refine lv_aload_n hx hb dX2_processBlock_76 rfl (lv_at hl 1 rfl) ?_
        refine lv_iload_n hx hb dX2_processBlock_77 rfl (lv_at hl 2 rfl) ?_
        refine lv_aload_n hx hb dX2_processBlock_78 rfl (lv_at hl 3 rfl) ?_
        refine lv_iload hx hb dX2_processBlock_79 (lv_at hl 4 rfl) ?_
        have hFc := va_free (wc := [(e0, .inr (1, [.ref w0, .int lk])), (w0, .inl (ci, 64, .inl K)), (b0, .inl (cb, 8, .inl fb)), (o0, .inl (cb, 8, .inl fo))]) hD hS hA [0, 1, 2, 3] rfl
        refine va_callv (va_runV (As := [.ref b0, .int 0, .ref o0, .int 0]) (rest := []) ⟨hx, hb, hml, hown, hts⟩ (met_dec l D cb ci t s.heap.size e0 w0 b0 o0 lk K fb fo) (cwV 4 hts (lw_V q234 q236 qs5 q8 q237) rfl rfl rfl (by decide +kernel) ⟨Nat.le_of_ble_eq_true rfl, Nat.le_of_ble_eq_true rfl⟩) ⟨rc_Pre.blind, va_recv hK hP (ci := 1) (q0 := 0) rfl rfl, fun U hU hW => ⟨rfl, rc_Pre.pass hP hD hK hS hA hX [0, 1, 2, 3] rfl rfl (by decide) U hU hW⟩⟩ rfl rfl hl.1 rfl (lv_room (Nat.le_of_ble_eq_true rfl)) dX2_processBlock_81 ⟨Nat.le_of_ble_eq_true rfl, Nat.le_of_ble_eq_true rfl⟩) hS (fun q _ h => hFc q h) hFc (fun u t9 H1 locs ht hvm hw hB hz hk hS => ?_)
        obtain ⟨hP, hD⟩ := rc_join (wr := []) (w1 := [(e0, .inr (1, [.ref w0, .int lk])), (w0, .inl (ci, 64, .inl K)), (b0, .inl (cb, 8, .inl fb)), (o0, .inl (cb, 8, .inl (rc_dec K fb)))]) hP hD [0, 1, 2, 3] [] rfl rfl (by decide) (by decide) hk hFc ht hB
        generalize H1 = H at hP hS ⊢
        have hP : va_P D vwCl [(e0, .inr (1, [.ref w0, .int lk])), (w0, .inl (ci, 64, .inl K)), (b0, .inl (cb, 8, .inl fb)), (o0, .inl (cb, 8, .inl (rc_dec K fb)))] H := hP
        have hD : va_D A [(e0, .inr (1, [.ref w0, .int lk])), (w0, .inl (ci, 64, .inl K)), (b0, .inl (cb, 8, .inl fb)), (o0, .inl (cb, 8, .inl (rc_dec K fb)))] := hD
        refine lv_bipush (v := 8) hx hb dX2_processBlock_84 (by decide) ?_
        rw [show rc_dec K fb = rc_cr lk K fb from (if_pos c3).symm] at hP hD
        exact W.iret (v := 8) hx hb hr (fun t9 ht hW => ⟨⟨8, (), rfl, trivial, by rw [ht]; exact hP, hD⟩, hS.F ht⟩) hS.2.2 dX2_processBlock_86
      · skip
        refine lv_aload_n hx hb dX2_processBlock_63 rfl (lv_at hl 0 rfl) ?_
        refine lv_aload_n hx hb dX2_processBlock_64 rfl (lv_at hl 1 rfl) ?_
        refine lv_iload_n hx hb dX2_processBlock_65 rfl (lv_at hl 2 rfl) ?_
        refine lv_aload_n hx hb dX2_processBlock_66 rfl (lv_at hl 3 rfl) ?_
        refine lv_iload hx hb dX2_processBlock_67 (lv_at hl 4 rfl) ?_
        have hFc := va_free (wc := [(e0, .inr (1, [.ref w0, .int lk])), (w0, .inl (ci, 64, .inl K)), (b0, .inl (cb, 8, .inl fb)), (o0, .inl (cb, 8, .inl fo))]) hD hS hA [0, 1, 2, 3] rfl
        refine va_callv (va_runV (As := [.ref b0, .int 0, .ref o0, .int 0]) (rest := []) ⟨hx, hb, hml, hown, hts⟩ (met_enc l D cb ci t s.heap.size e0 w0 b0 o0 lk K fb fo) (cwV 4 hts (lw_V q225 q227 qs3 q8 q228) rfl rfl rfl (by decide +kernel) ⟨Nat.le_of_ble_eq_true rfl, Nat.le_of_ble_eq_true rfl⟩) ⟨rc_Pre.blind, va_recv hK hP (ci := 1) (q0 := 0) rfl rfl, fun U hU hW => ⟨rfl, rc_Pre.pass hP hD hK hS hA hX [0, 1, 2, 3] rfl rfl (by decide) U hU hW⟩⟩ rfl rfl hl.1 rfl (lv_room (Nat.le_of_ble_eq_true rfl)) dX2_processBlock_69 ⟨Nat.le_of_ble_eq_true rfl, Nat.le_of_ble_eq_true rfl⟩) hS (fun q _ h => hFc q h) hFc (fun u t9 H1 locs ht hvm hw hB hz hk hS => ?_)
        obtain ⟨hP, hD⟩ := rc_join (wr := []) (w1 := [(e0, .inr (1, [.ref w0, .int lk])), (w0, .inl (ci, 64, .inl K)), (b0, .inl (cb, 8, .inl fb)), (o0, .inl (cb, 8, .inl (rc_enc K fb)))]) hP hD [0, 1, 2, 3] [] rfl rfl (by decide) (by decide) hk hFc ht hB
        generalize H1 = H at hP hS ⊢
        have hP : va_P D vwCl [(e0, .inr (1, [.ref w0, .int lk])), (w0, .inl (ci, 64, .inl K)), (b0, .inl (cb, 8, .inl fb)), (o0, .inl (cb, 8, .inl (rc_enc K fb)))] H := hP
        have hD : va_D A [(e0, .inr (1, [.ref w0, .int lk])), (w0, .inl (ci, 64, .inl K)), (b0, .inl (cb, 8, .inl fb)), (o0, .inl (cb, 8, .inl (rc_enc K fb)))] := hD
        refine lv_goto (tgt := 84) hx hb dX2_processBlock_72 (by decide) ?_
        refine lv_bipush (v := 8) hx hb dX2_processBlock_84 (by decide) ?_
        rw [show rc_enc K fb = rc_cr lk K fb from (if_neg c3).symm] at hP hD
        exact W.iret (v := 8) hx hb hr (fun t9 ht hW => ⟨⟨8, (), rfl, trivial, by rw [ht]; exact hP, hD⟩, hS.F ht⟩) hS.2.2 dX2_processBlock_86
    · exact absurd (by decide) c2
  · exact absurd (by decide) c1
end
section
/-! RcTwoDesk: word, size, key, block, the constructor, again, out -/
set_option maxHeartbeats 4000000 in
set_option maxRecDepth 100000 in
/-- word(to, at, w): four bytes -/
theorem met_word (l : Launch) (D : va_G) (cb ci : ClassId) (t sz : Nat) (a0 N j : Nat) (x : Int32) (f : Nat → Int32) (hj : j + 4 ≤ N) (hN : N ≤ 1000) : Met l yX1_word (ws_ yX1_word cX1_word 3 none) (rm_ 0 0 0) (va_Pc [.ref a0, .int (nI j), .int x] (rc_Pre D (rc_ty cb ci) t [(a0, .inl (cb, N, .inl f))] sz)) (va_Qv (S := Unit) (fun _ => True) (fun _ U => rc_B D (va_A [(a0, .inl (cb, N, .inl f))] sz) [(a0, .inl (cb, N, .inl (rc_word f j x)))] U) (va_A [(a0, .inl (cb, N, .inl f))] sz)) 0 0 (va_A [(a0, .inl (cb, N, .inl f))] sz) := by
  refine Met.ofW (cc := cX1_word) (maxL := 3) (ret := none) (by decide) rfl ?_
  intro p e s m args below meth c s₁ B hml hv
  obtain ⟨rfl, hsz, hP, hK, hD0, hX⟩ := hv
  have hx := B.exec
  have hb := B.bytes
  have hr := B.returns
  have hts := atoms_spec (ws := ws_ yX1_word cX1_word 3 none) B.pre
  have hts : ∀ w ∈ lw_all, w.before _ s = true := fun w h => hts w (List.mem_cons_of_mem _ h)
  have hown : s.vm.findClass RX1 = some m.cls := findClass_of_methodNamed B.named
  have hlocks := B.notSynchronized
  subst hsz
  have hD := hD0.self (sz := s.heap.size)
  generalize hAe : va_A [(a0, .inl (cb, N, .inl f))] s.heap.size = A at hD hX ⊢
  have hA : ∀ q : Nat, s.heap.size ≤ q → A q := fun q h => by rw [← hAe]; exact Or.inr h
  have hS : va_S A s.heap s.heap [] := va_S.rf
  have hP : va_P D vwCl [(a0, .inl (cb, N, .inl f))] s.heap := hP
  have hl := lv_entry ([.ref a0, .int (nI j), .int x]) (n := 3) (Nat.le_of_ble_eq_true rfl)
  rw [lg_entry_eq]
  generalize (lg_sl ([.ref a0, .int (nI j), .int x]) ++ List.replicate (3 - (lg_sl ([.ref a0, .int (nI j), .int x])).length) Slot.unset).toArray = ls at hl ⊢
  have hl : lv_has ls 3 [(0, .ref a0), (1, .int (nI j)), (2, .int x)] := hl
  refine lv_aload_n hx hb dX1_word_0 rfl (lv_at hl 0 rfl) ?_
  refine lv_iload_n hx hb dX1_word_1 rfl (lv_at hl 1 rfl) ?_
  refine lv_iload_n hx hb dX1_word_2 rfl (lv_at hl 2 rfl) ?_
  refine lv_bipush (v := 24) hx hb dX1_word_3 (by decide) ?_
  refine lv_ishr hx hb dX1_word_5 ?_
  refine lv_i2b (v := (rc_nb (x >>> (24 &&& 31)))) hx hb dX1_word_6 rfl ?_
  refine rc_bast (v := (rc_nb (x >>> (24 &&& 31)))) hx hb hK hP hD hS 0 0 rfl rfl j rfl (by omega) (by omega) (pk_vb _) dX1_word_7 (fun H locs hP hD hS => ?_)
  have hP : va_P D vwCl [(a0, .inl (cb, N, .inl (upd f j (rc_nb (x >>> (24 &&& 31))))))] H := hP
  have hD : va_D A [(a0, .inl (cb, N, .inl (upd f j (rc_nb (x >>> (24 &&& 31))))))] := hD
  refine lv_aload_n hx hb dX1_word_8 rfl (lv_at hl 0 rfl) ?_
  refine lv_iload_n hx hb dX1_word_9 rfl (lv_at hl 1 rfl) ?_
  refine lv_iconst (v := 1) hx hb dX1_word_10 (by decide) ?_
  refine lv_iadd hx hb dX1_word_11 ?_
  refine lv_iload_n hx hb dX1_word_12 rfl (lv_at hl 2 rfl) ?_
  refine lv_bipush (v := 16) hx hb dX1_word_13 (by decide) ?_
  refine lv_ishr hx hb dX1_word_15 ?_
  refine lv_i2b (v := (rc_nb (x >>> (16 &&& 31)))) hx hb dX1_word_16 rfl ?_
  refine rc_bast (v := (rc_nb (x >>> (16 &&& 31)))) hx hb hK hP hD hS 0 0 rfl rfl (j + 1) (nI_add j 1) (by omega) (by omega) (pk_vb _) dX1_word_17 (fun H locs hP hD hS => ?_)
  have hP : va_P D vwCl [(a0, .inl (cb, N, .inl (upd (upd f j (rc_nb (x >>> (24 &&& 31)))) (j + 1) (rc_nb (x >>> (16 &&& 31))))))] H := hP
  have hD : va_D A [(a0, .inl (cb, N, .inl (upd (upd f j (rc_nb (x >>> (24 &&& 31)))) (j + 1) (rc_nb (x >>> (16 &&& 31))))))] := hD
  refine lv_aload_n hx hb dX1_word_18 rfl (lv_at hl 0 rfl) ?_
  refine lv_iload_n hx hb dX1_word_19 rfl (lv_at hl 1 rfl) ?_
  refine lv_iconst (v := 2) hx hb dX1_word_20 (by decide) ?_
  refine lv_iadd hx hb dX1_word_21 ?_
  refine lv_iload_n hx hb dX1_word_22 rfl (lv_at hl 2 rfl) ?_
  refine lv_bipush (v := 8) hx hb dX1_word_23 (by decide) ?_
  refine lv_ishr hx hb dX1_word_25 ?_
  refine lv_i2b (v := (rc_nb (x >>> (8 &&& 31)))) hx hb dX1_word_26 rfl ?_
  refine rc_bast (v := (rc_nb (x >>> (8 &&& 31)))) hx hb hK hP hD hS 0 0 rfl rfl (j + 2) (nI_add j 2) (by omega) (by omega) (pk_vb _) dX1_word_27 (fun H locs hP hD hS => ?_)
  have hP : va_P D vwCl [(a0, .inl (cb, N, .inl (upd (upd (upd f j (rc_nb (x >>> (24 &&& 31)))) (j + 1) (rc_nb (x >>> (16 &&& 31)))) (j + 2) (rc_nb (x >>> (8 &&& 31))))))] H := hP
  have hD : va_D A [(a0, .inl (cb, N, .inl (upd (upd (upd f j (rc_nb (x >>> (24 &&& 31)))) (j + 1) (rc_nb (x >>> (16 &&& 31)))) (j + 2) (rc_nb (x >>> (8 &&& 31))))))] := hD
  refine lv_aload_n hx hb dX1_word_28 rfl (lv_at hl 0 rfl) ?_
  refine lv_iload_n hx hb dX1_word_29 rfl (lv_at hl 1 rfl) ?_
  refine lv_iconst (v := 3) hx hb dX1_word_30 (by decide) ?_
  refine lv_iadd hx hb dX1_word_31 ?_
  refine lv_iload_n hx hb dX1_word_32 rfl (lv_at hl 2 rfl) ?_
  refine lv_i2b (v := (rc_nb x)) hx hb dX1_word_33 rfl ?_
  refine rc_bast (v := (rc_nb x)) hx hb hK hP hD hS 0 0 rfl rfl (j + 3) (nI_add j 3) (by omega) (by omega) (pk_vb _) dX1_word_34 (fun H locs hP hD hS => ?_)
  have hP : va_P D vwCl [(a0, .inl (cb, N, .inl (upd (upd (upd (upd f j (rc_nb (x >>> (24 &&& 31)))) (j + 1) (rc_nb (x >>> (16 &&& 31)))) (j + 2) (rc_nb (x >>> (8 &&& 31)))) (j + 3) (rc_nb x))))] H := hP
  have hD : va_D A [(a0, .inl (cb, N, .inl (upd (upd (upd (upd f j (rc_nb (x >>> (24 &&& 31)))) (j + 1) (rc_nb (x >>> (16 &&& 31)))) (j + 2) (rc_nb (x >>> (8 &&& 31)))) (j + 3) (rc_nb x))))] := hD
  have hP : va_P D vwCl [(a0, .inl (cb, N, .inl (rc_word f j x)))] H := hP
  have hD : va_D A [(a0, .inl (cb, N, .inl (rc_word f j x)))] := hD
  have hP9 := hP.sub (ws' := [(a0, .inl (cb, N, .inl (rc_word f j x)))]) [0] rfl
  have hD9 := hD.sub (ws' := [(a0, .inl (cb, N, .inl (rc_word f j x)))]) [0] (by decide) rfl
  refine W.widen (k := 0) (n := 0) (Nat.le_of_ble_eq_true rfl) (Nat.le_of_ble_eq_true rfl) ?_
  exact W.vret hx hb hr (fun t9 ht hW => ⟨⟨(), rfl, trivial, by rw [ht]; exact hP9, hD9⟩, hS.F ht⟩) hS.2.2 dX1_word_35
set_option maxHeartbeats 4000000 in
set_option maxRecDepth 100000 in
/-- size(kind): 16 -/
theorem met_size (l : Launch) (x : Int32) : Met l yX1_size (ws_ yX1_size cX1_size 1 (some .int)) (rm_ 0 0 0) (fun v _ => v = ([.int x] : List Value).toArray) (vp_Si (fun r => r = 16)) 0 0 (fun _ => False) := by
  refine Met.ofW (cc := cX1_size) (maxL := 1) (ret := (some .int)) (by decide) rfl ?_
  intro p e s m args below meth c s₁ B hml hv
  subst hv
  have hx := B.exec
  have hb := B.bytes
  have hr := B.returns
  have hlocks := B.notSynchronized
  rw [lg_entry_eq]
  refine lv_bipush (v := 16) hx hb dX1_size_0 (by decide) ?_
  exact W.iret (v := 16) hx hb hr (fun t9 ht hW => ⟨_, rfl, rfl, ht⟩) (fun _ h => by cases h) dX1_size_2
set_option maxHeartbeats 4000000 in
set_option maxRecDepth 100000 in
/-- key(half, a, b, c, d): sixteen bytes of the key -/
theorem met_key (l : Launch) (D : va_G) (cb ci : ClassId) (t sz : Nat) (h0 k0 b0 o0 j : Nat) (hf u1 u2 u3 u4 : Int32) (fk : Nat → Int32) (hj : (hf &&& 1) <<< (4 &&& 31) = nI j) (hj2 : j ≤ 16) : Met l yX1_key (ws_ yX1_key cX1_key 7 none) (rm_ 1 0 0) (va_Pc [.ref h0, .int hf, .int u1, .int u2, .int u3, .int u4] (rc_Pre D (rc_ty cb ci) t [(h0, .inr (0, [.ref k0, .ref b0, .ref o0])), (k0, .inl (cb, 32, .inl fk))] sz)) (va_Qv (S := Unit) (fun _ => True) (fun _ U => rc_B D (va_A [(h0, .inr (0, [.ref k0, .ref b0, .ref o0])), (k0, .inl (cb, 32, .inl fk))] sz) [(h0, .inr (0, [.ref k0, .ref b0, .ref o0])), (k0, .inl (cb, 32, .inl (rc_key fk j u1 u2 u3 u4)))] U) (va_A [(h0, .inr (0, [.ref k0, .ref b0, .ref o0])), (k0, .inl (cb, 32, .inl fk))] sz)) 0 0 (va_A [(h0, .inr (0, [.ref k0, .ref b0, .ref o0])), (k0, .inl (cb, 32, .inl fk))] sz) := by
  refine Met.ofW (cc := cX1_key) (maxL := 7) (ret := none) (by decide) rfl ?_
  intro p e s m args below meth c s₁ B hml hv
  obtain ⟨rfl, hsz, hP, hK, hD0, hX⟩ := hv
  have hx := B.exec
  have hb := B.bytes
  have hr := B.returns
  have hts := atoms_spec (ws := ws_ yX1_key cX1_key 7 none) B.pre
  have hts : ∀ w ∈ lw_all, w.before _ s = true := fun w h => hts w (List.mem_cons_of_mem _ h)
  have hown : s.vm.findClass RX1 = some m.cls := findClass_of_methodNamed B.named
  have hlocks := B.notSynchronized
  subst hsz
  have hD := hD0.self (sz := s.heap.size)
  generalize hAe : va_A [(h0, .inr (0, [.ref k0, .ref b0, .ref o0])), (k0, .inl (cb, 32, .inl fk))] s.heap.size = A at hD hX ⊢
  have hA : ∀ q : Nat, s.heap.size ≤ q → A q := fun q h => by rw [← hAe]; exact Or.inr h
  have hS : va_S A s.heap s.heap [] := va_S.rf
  have hP : va_P D vwCl [(h0, .inr (0, [.ref k0, .ref b0, .ref o0])), (k0, .inl (cb, 32, .inl fk))] s.heap := hP
  have hl := lv_entry ([.ref h0, .int hf, .int u1, .int u2, .int u3, .int u4]) (n := 7) (Nat.le_of_ble_eq_true rfl)
  rw [lg_entry_eq]
  generalize (lg_sl ([.ref h0, .int hf, .int u1, .int u2, .int u3, .int u4]) ++ List.replicate (7 - (lg_sl ([.ref h0, .int hf, .int u1, .int u2, .int u3, .int u4])).length) Slot.unset).toArray = ls at hl ⊢
  have hl : lv_has ls 7 [(0, .ref h0), (1, .int hf), (2, .int u1), (3, .int u2), (4, .int u3), (5, .int u4)] := hl
  refine lv_iload_n hx hb dX1_key_0 rfl (lv_at hl 1 rfl) ?_
  refine lv_iconst (v := 1) hx hb dX1_key_1 (by decide) ?_
  refine lv_iand hx hb dX1_key_2 ?_
  refine lv_iconst (v := 4) hx hb dX1_key_3 (by decide) ?_
  refine lv_ishl hx hb dX1_key_4 ?_
  refine rc_top (nI j) (hj) ?_
  refine lv_istore (lv' := [(6, .int (nI j)), (0, .ref h0), (1, .int hf), (2, .int u1), (3, .int u2), (4, .int u3), (5, .int u4)]) hx hb dX1_key_5 hl (by decide) rfl (fun ls hl => ?_)
  refine lv_aload_n hx hb dX1_key_7 rfl (lv_at hl 1 rfl) ?_
  refine va_get (D := D) (ci := 0) (v := .ref k0) (C := RX1) (T := TX1) (N := 3) hx hb hts in_X1 hown hK hP 0 rfl rfl 0 (by decide) (hts _ q254) (fun _ h9 => h9) rfl dX1_key_8 ?_
  refine lv_iload hx hb dX1_key_11 (lv_at hl 0 rfl) ?_
  refine lv_iload_n hx hb dX1_key_13 rfl (lv_at hl 3 rfl) ?_
  have hFc := va_free (wc := [(k0, .inl (cb, 32, .inl fk))]) hD hS hA [1] rfl
  refine va_callv (va_runS (As := [.ref k0, .int (nI j), .int u1]) (rest := []) ⟨hx, hb, hml, hown, hts⟩ (met_word l D cb ci t s.heap.size k0 32 j u1 fk (by omega) (by decide)) (va_cwS 3 hts (lw_S q271 q272 q7 q273) rfl rfl rfl (by decide +kernel) ⟨Nat.le_of_ble_eq_true rfl, Nat.le_of_ble_eq_true rfl⟩) ⟨rc_Pre.blind, fun U hU hW => ⟨rfl, rc_Pre.pass hP hD hK hS hA hX [1] rfl rfl (by decide) U hU hW⟩⟩ rfl rfl hl.1 rfl (lv_room (Nat.le_of_ble_eq_true rfl)) dX1_key_14 ⟨Nat.le_of_ble_eq_true rfl, Nat.le_of_ble_eq_true rfl⟩) hS (fun q _ h => hFc q h) hFc (fun u t9 H1 locs ht hvm hw hB hz hk hS => ?_)
  obtain ⟨hP, hD⟩ := rc_join (wr := [(h0, .inr (0, [.ref k0, .ref b0, .ref o0]))]) (w1 := [(k0, .inl (cb, 32, .inl (rc_word fk j u1)))]) hP hD [1] [0] rfl rfl (by decide) (by decide) hk hFc ht hB
  generalize H1 = H at hP hS ⊢
  have hP : va_P D vwCl [(h0, .inr (0, [.ref k0, .ref b0, .ref o0])), (k0, .inl (cb, 32, .inl (rc_word fk j u1)))] H := hP
  have hD : va_D A [(h0, .inr (0, [.ref k0, .ref b0, .ref o0])), (k0, .inl (cb, 32, .inl (rc_word fk j u1)))] := hD
  refine lv_aload_n hx hb dX1_key_17 rfl (lv_at hl 1 rfl) ?_
  refine va_get (D := D) (ci := 0) (v := .ref k0) (C := RX1) (T := TX1) (N := 3) hx hb hts in_X1 hown hK hP 0 rfl rfl 0 (by decide) (hts _ q254) (fun _ h9 => h9) rfl dX1_key_18 ?_
  refine lv_iload hx hb dX1_key_21 (lv_at hl 0 rfl) ?_
  refine lv_iconst (v := 4) hx hb dX1_key_23 (by decide) ?_
  refine lv_iadd hx hb dX1_key_24 ?_
  refine rc_top (nI (j + 4)) (nI_add j 4) ?_
  refine lv_iload_n hx hb dX1_key_25 rfl (lv_at hl 4 rfl) ?_
  have hFc := va_free (wc := [(k0, .inl (cb, 32, .inl (rc_word fk j u1)))]) hD hS hA [1] rfl
  refine va_callv (va_runS (As := [.ref k0, .int (nI (j + 4)), .int u2]) (rest := []) ⟨hx, hb, hml, hown, hts⟩ (met_word l D cb ci t H.size k0 32 (j + 4) u2 (rc_word fk j u1) (by omega) (by decide)) (va_cwS 3 hts (lw_S q271 q272 q7 q273) rfl rfl rfl (by decide +kernel) ⟨Nat.le_of_ble_eq_true rfl, Nat.le_of_ble_eq_true rfl⟩) ⟨rc_Pre.blind, fun U hU hW => ⟨rfl, rc_Pre.pass hP hD hK hS hA hX [1] rfl rfl (by decide) U hU hW⟩⟩ rfl rfl hl.1 rfl (lv_room (Nat.le_of_ble_eq_true rfl)) dX1_key_26 ⟨Nat.le_of_ble_eq_true rfl, Nat.le_of_ble_eq_true rfl⟩) hS (fun q _ h => hFc q h) hFc (fun u t9 H1 locs ht hvm hw hB hz hk hS => ?_)
  obtain ⟨hP, hD⟩ := rc_join (wr := [(h0, .inr (0, [.ref k0, .ref b0, .ref o0]))]) (w1 := [(k0, .inl (cb, 32, .inl (rc_word (rc_word fk j u1) (j + 4) u2)))]) hP hD [1] [0] rfl rfl (by decide) (by decide) hk hFc ht hB
  generalize H1 = H at hP hS ⊢
  have hP : va_P D vwCl [(h0, .inr (0, [.ref k0, .ref b0, .ref o0])), (k0, .inl (cb, 32, .inl (rc_word (rc_word fk j u1) (j + 4) u2)))] H := hP
  have hD : va_D A [(h0, .inr (0, [.ref k0, .ref b0, .ref o0])), (k0, .inl (cb, 32, .inl (rc_word (rc_word fk j u1) (j + 4) u2)))] := hD
  refine lv_aload_n hx hb dX1_key_29 rfl (lv_at hl 1 rfl) ?_
  refine va_get (D := D) (ci := 0) (v := .ref k0) (C := RX1) (T := TX1) (N := 3) hx hb hts in_X1 hown hK hP 0 rfl rfl 0 (by decide) (hts _ q254) (fun _ h9 => h9) rfl dX1_key_30 ?_
  refine lv_iload hx hb dX1_key_33 (lv_at hl 0 rfl) ?_
  refine lv_bipush (v := 8) hx hb dX1_key_35 (by decide) ?_
  refine lv_iadd hx hb dX1_key_37 ?_
  refine rc_top (nI (j + 8)) (nI_add j 8) ?_
  refine lv_iload hx hb dX1_key_38 (lv_at hl 5 rfl) ?_
  have hFc := va_free (wc := [(k0, .inl (cb, 32, .inl (rc_word (rc_word fk j u1) (j + 4) u2)))]) hD hS hA [1] rfl
  refine va_callv (va_runS (As := [.ref k0, .int (nI (j + 8)), .int u3]) (rest := []) ⟨hx, hb, hml, hown, hts⟩ (met_word l D cb ci t H.size k0 32 (j + 8) u3 (rc_word (rc_word fk j u1) (j + 4) u2) (by omega) (by decide)) (va_cwS 3 hts (lw_S q271 q272 q7 q273) rfl rfl rfl (by decide +kernel) ⟨Nat.le_of_ble_eq_true rfl, Nat.le_of_ble_eq_true rfl⟩) ⟨rc_Pre.blind, fun U hU hW => ⟨rfl, rc_Pre.pass hP hD hK hS hA hX [1] rfl rfl (by decide) U hU hW⟩⟩ rfl rfl hl.1 rfl (lv_room (Nat.le_of_ble_eq_true rfl)) dX1_key_40 ⟨Nat.le_of_ble_eq_true rfl, Nat.le_of_ble_eq_true rfl⟩) hS (fun q _ h => hFc q h) hFc (fun u t9 H1 locs ht hvm hw hB hz hk hS => ?_)
  obtain ⟨hP, hD⟩ := rc_join (wr := [(h0, .inr (0, [.ref k0, .ref b0, .ref o0]))]) (w1 := [(k0, .inl (cb, 32, .inl (rc_word (rc_word (rc_word fk j u1) (j + 4) u2) (j + 8) u3)))]) hP hD [1] [0] rfl rfl (by decide) (by decide) hk hFc ht hB
  generalize H1 = H at hP hS ⊢
  have hP : va_P D vwCl [(h0, .inr (0, [.ref k0, .ref b0, .ref o0])), (k0, .inl (cb, 32, .inl (rc_word (rc_word (rc_word fk j u1) (j + 4) u2) (j + 8) u3)))] H := hP
  have hD : va_D A [(h0, .inr (0, [.ref k0, .ref b0, .ref o0])), (k0, .inl (cb, 32, .inl (rc_word (rc_word (rc_word fk j u1) (j + 4) u2) (j + 8) u3)))] := hD
  refine lv_aload_n hx hb dX1_key_43 rfl (lv_at hl 1 rfl) ?_
  refine va_get (D := D) (ci := 0) (v := .ref k0) (C := RX1) (T := TX1) (N := 3) hx hb hts in_X1 hown hK hP 0 rfl rfl 0 (by decide) (hts _ q254) (fun _ h9 => h9) rfl dX1_key_44 ?_
  refine lv_iload hx hb dX1_key_47 (lv_at hl 0 rfl) ?_
  refine lv_bipush (v := 12) hx hb dX1_key_49 (by decide) ?_
  refine lv_iadd hx hb dX1_key_51 ?_
  refine rc_top (nI (j + 12)) (nI_add j 12) ?_
  refine lv_iload hx hb dX1_key_52 (lv_at hl 6 rfl) ?_
  have hFc := va_free (wc := [(k0, .inl (cb, 32, .inl (rc_word (rc_word (rc_word fk j u1) (j + 4) u2) (j + 8) u3)))]) hD hS hA [1] rfl
  refine va_callv (va_runS (As := [.ref k0, .int (nI (j + 12)), .int u4]) (rest := []) ⟨hx, hb, hml, hown, hts⟩ (met_word l D cb ci t H.size k0 32 (j + 12) u4 (rc_word (rc_word (rc_word fk j u1) (j + 4) u2) (j + 8) u3) (by omega) (by decide)) (va_cwS 3 hts (lw_S q271 q272 q7 q273) rfl rfl rfl (by decide +kernel) ⟨Nat.le_of_ble_eq_true rfl, Nat.le_of_ble_eq_true rfl⟩) ⟨rc_Pre.blind, fun U hU hW => ⟨rfl, rc_Pre.pass hP hD hK hS hA hX [1] rfl rfl (by decide) U hU hW⟩⟩ rfl rfl hl.1 rfl (lv_room (Nat.le_of_ble_eq_true rfl)) dX1_key_54 ⟨Nat.le_of_ble_eq_true rfl, Nat.le_of_ble_eq_true rfl⟩) hS (fun q _ h => hFc q h) hFc (fun u t9 H1 locs ht hvm hw hB hz hk hS => ?_)
  obtain ⟨hP, hD⟩ := rc_join (wr := [(h0, .inr (0, [.ref k0, .ref b0, .ref o0]))]) (w1 := [(k0, .inl (cb, 32, .inl (rc_word (rc_word (rc_word (rc_word fk j u1) (j + 4) u2) (j + 8) u3) (j + 12) u4)))]) hP hD [1] [0] rfl rfl (by decide) (by decide) hk hFc ht hB
  generalize H1 = H at hP hS ⊢
  have hP : va_P D vwCl [(h0, .inr (0, [.ref k0, .ref b0, .ref o0])), (k0, .inl (cb, 32, .inl (rc_word (rc_word (rc_word (rc_word fk j u1) (j + 4) u2) (j + 8) u3) (j + 12) u4)))] H := hP
  have hD : va_D A [(h0, .inr (0, [.ref k0, .ref b0, .ref o0])), (k0, .inl (cb, 32, .inl (rc_word (rc_word (rc_word (rc_word fk j u1) (j + 4) u2) (j + 8) u3) (j + 12) u4)))] := hD
  have hP : va_P D vwCl [(h0, .inr (0, [.ref k0, .ref b0, .ref o0])), (k0, .inl (cb, 32, .inl (rc_key fk j u1 u2 u3 u4)))] H := hP
  have hD : va_D A [(h0, .inr (0, [.ref k0, .ref b0, .ref o0])), (k0, .inl (cb, 32, .inl (rc_key fk j u1 u2 u3 u4)))] := hD
  have hP9 := hP.sub (ws' := [(h0, .inr (0, [.ref k0, .ref b0, .ref o0])), (k0, .inl (cb, 32, .inl (rc_key fk j u1 u2 u3 u4)))]) [0, 1] rfl
  have hD9 := hD.sub (ws' := [(h0, .inr (0, [.ref k0, .ref b0, .ref o0])), (k0, .inl (cb, 32, .inl (rc_key fk j u1 u2 u3 u4)))]) [0, 1] (by decide) rfl
  refine W.widen (k := 0) (n := 0) (Nat.le_of_ble_eq_true rfl) (Nat.le_of_ble_eq_true rfl) ?_
  exact W.vret hx hb hr (fun t9 ht hW => ⟨⟨(), rfl, trivial, by rw [ht]; exact hP9, hD9⟩, hS.F ht⟩) hS.2.2 dX1_key_57
set_option maxHeartbeats 4000000 in
set_option maxRecDepth 100000 in
/-- block(a, b): the block -/
theorem met_block (l : Launch) (D : va_G) (cb ci : ClassId) (t sz : Nat) (h0 k0 b0 o0 : Nat) (u1 u2 : Int32) (fb : Nat → Int32)  : Met l yX1_block (ws_ yX1_block cX1_block 3 none) (rm_ 1 0 0) (va_Pc [.ref h0, .int u1, .int u2] (rc_Pre D (rc_ty cb ci) t [(h0, .inr (0, [.ref k0, .ref b0, .ref o0])), (b0, .inl (cb, 8, .inl fb))] sz)) (va_Qv (S := Unit) (fun _ => True) (fun _ U => rc_B D (va_A [(h0, .inr (0, [.ref k0, .ref b0, .ref o0])), (b0, .inl (cb, 8, .inl fb))] sz) [(h0, .inr (0, [.ref k0, .ref b0, .ref o0])), (b0, .inl (cb, 8, .inl (rc_blk fb u1 u2)))] U) (va_A [(h0, .inr (0, [.ref k0, .ref b0, .ref o0])), (b0, .inl (cb, 8, .inl fb))] sz)) 0 0 (va_A [(h0, .inr (0, [.ref k0, .ref b0, .ref o0])), (b0, .inl (cb, 8, .inl fb))] sz) := by
  refine Met.ofW (cc := cX1_block) (maxL := 3) (ret := none) (by decide) rfl ?_
  intro p e s m args below meth c s₁ B hml hv
  obtain ⟨rfl, hsz, hP, hK, hD0, hX⟩ := hv
  have hx := B.exec
  have hb := B.bytes
  have hr := B.returns
  have hts := atoms_spec (ws := ws_ yX1_block cX1_block 3 none) B.pre
  have hts : ∀ w ∈ lw_all, w.before _ s = true := fun w h => hts w (List.mem_cons_of_mem _ h)
  have hown : s.vm.findClass RX1 = some m.cls := findClass_of_methodNamed B.named
  have hlocks := B.notSynchronized
  subst hsz
  have hD := hD0.self (sz := s.heap.size)
  generalize hAe : va_A [(h0, .inr (0, [.ref k0, .ref b0, .ref o0])), (b0, .inl (cb, 8, .inl fb))] s.heap.size = A at hD hX ⊢
  have hA : ∀ q : Nat, s.heap.size ≤ q → A q := fun q h => by rw [← hAe]; exact Or.inr h
  have hS : va_S A s.heap s.heap [] := va_S.rf
  have hP : va_P D vwCl [(h0, .inr (0, [.ref k0, .ref b0, .ref o0])), (b0, .inl (cb, 8, .inl fb))] s.heap := hP
  have hl := lv_entry ([.ref h0, .int u1, .int u2]) (n := 3) (Nat.le_of_ble_eq_true rfl)
  rw [lg_entry_eq]
  generalize (lg_sl ([.ref h0, .int u1, .int u2]) ++ List.replicate (3 - (lg_sl ([.ref h0, .int u1, .int u2])).length) Slot.unset).toArray = ls at hl ⊢
  have hl : lv_has ls 3 [(0, .ref h0), (1, .int u1), (2, .int u2)] := hl
  refine lv_aload_n hx hb dX1_block_0 rfl (lv_at hl 0 rfl) ?_
  refine va_get (D := D) (ci := 0) (v := .ref b0) (C := RX1) (T := TX1) (N := 3) hx hb hts in_X1 hown hK hP 0 rfl rfl 1 (by decide) (hts _ q255) (fun _ h9 => h9) rfl dX1_block_1 ?_
  refine lv_iconst (v := 0) hx hb dX1_block_4 (by decide) ?_
  refine rc_top (nI 0) (by decide) ?_
  refine lv_iload_n hx hb dX1_block_5 rfl (lv_at hl 1 rfl) ?_
  have hFc := va_free (wc := [(b0, .inl (cb, 8, .inl fb))]) hD hS hA [1] rfl
  refine va_callv (va_runS (As := [.ref b0, .int (nI 0), .int u1]) (rest := []) ⟨hx, hb, hml, hown, hts⟩ (met_word l D cb ci t s.heap.size b0 8 0 u1 fb (by decide) (by decide)) (va_cwS 3 hts (lw_S q271 q272 q7 q273) rfl rfl rfl (by decide +kernel) ⟨Nat.le_of_ble_eq_true rfl, Nat.le_of_ble_eq_true rfl⟩) ⟨rc_Pre.blind, fun U hU hW => ⟨rfl, rc_Pre.pass hP hD hK hS hA hX [1] rfl rfl (by decide) U hU hW⟩⟩ rfl rfl hl.1 rfl (lv_room (Nat.le_of_ble_eq_true rfl)) dX1_block_6 ⟨Nat.le_of_ble_eq_true rfl, Nat.le_of_ble_eq_true rfl⟩) hS (fun q _ h => hFc q h) hFc (fun u t9 H1 locs ht hvm hw hB hz hk hS => ?_)
  obtain ⟨hP, hD⟩ := rc_join (wr := [(h0, .inr (0, [.ref k0, .ref b0, .ref o0]))]) (w1 := [(b0, .inl (cb, 8, .inl (rc_word fb 0 u1)))]) hP hD [1] [0] rfl rfl (by decide) (by decide) hk hFc ht hB
  generalize H1 = H at hP hS ⊢
  have hP : va_P D vwCl [(h0, .inr (0, [.ref k0, .ref b0, .ref o0])), (b0, .inl (cb, 8, .inl (rc_word fb 0 u1)))] H := hP
  have hD : va_D A [(h0, .inr (0, [.ref k0, .ref b0, .ref o0])), (b0, .inl (cb, 8, .inl (rc_word fb 0 u1)))] := hD
  refine lv_aload_n hx hb dX1_block_9 rfl (lv_at hl 0 rfl) ?_
  refine va_get (D := D) (ci := 0) (v := .ref b0) (C := RX1) (T := TX1) (N := 3) hx hb hts in_X1 hown hK hP 0 rfl rfl 1 (by decide) (hts _ q255) (fun _ h9 => h9) rfl dX1_block_10 ?_
  refine lv_iconst (v := 4) hx hb dX1_block_13 (by decide) ?_
  refine rc_top (nI 4) (by decide) ?_
  refine lv_iload_n hx hb dX1_block_14 rfl (lv_at hl 2 rfl) ?_
  have hFc := va_free (wc := [(b0, .inl (cb, 8, .inl (rc_word fb 0 u1)))]) hD hS hA [1] rfl
  refine va_callv (va_runS (As := [.ref b0, .int (nI 4), .int u2]) (rest := []) ⟨hx, hb, hml, hown, hts⟩ (met_word l D cb ci t H.size b0 8 4 u2 (rc_word fb 0 u1) (by decide) (by decide)) (va_cwS 3 hts (lw_S q271 q272 q7 q273) rfl rfl rfl (by decide +kernel) ⟨Nat.le_of_ble_eq_true rfl, Nat.le_of_ble_eq_true rfl⟩) ⟨rc_Pre.blind, fun U hU hW => ⟨rfl, rc_Pre.pass hP hD hK hS hA hX [1] rfl rfl (by decide) U hU hW⟩⟩ rfl rfl hl.1 rfl (lv_room (Nat.le_of_ble_eq_true rfl)) dX1_block_15 ⟨Nat.le_of_ble_eq_true rfl, Nat.le_of_ble_eq_true rfl⟩) hS (fun q _ h => hFc q h) hFc (fun u t9 H1 locs ht hvm hw hB hz hk hS => ?_)
  obtain ⟨hP, hD⟩ := rc_join (wr := [(h0, .inr (0, [.ref k0, .ref b0, .ref o0]))]) (w1 := [(b0, .inl (cb, 8, .inl (rc_word (rc_word fb 0 u1) 4 u2)))]) hP hD [1] [0] rfl rfl (by decide) (by decide) hk hFc ht hB
  generalize H1 = H at hP hS ⊢
  have hP : va_P D vwCl [(h0, .inr (0, [.ref k0, .ref b0, .ref o0])), (b0, .inl (cb, 8, .inl (rc_word (rc_word fb 0 u1) 4 u2)))] H := hP
  have hD : va_D A [(h0, .inr (0, [.ref k0, .ref b0, .ref o0])), (b0, .inl (cb, 8, .inl (rc_word (rc_word fb 0 u1) 4 u2)))] := hD
  have hP : va_P D vwCl [(h0, .inr (0, [.ref k0, .ref b0, .ref o0])), (b0, .inl (cb, 8, .inl (rc_blk fb u1 u2)))] H := hP
  have hD : va_D A [(h0, .inr (0, [.ref k0, .ref b0, .ref o0])), (b0, .inl (cb, 8, .inl (rc_blk fb u1 u2)))] := hD
  have hP9 := hP.sub (ws' := [(h0, .inr (0, [.ref k0, .ref b0, .ref o0])), (b0, .inl (cb, 8, .inl (rc_blk fb u1 u2)))]) [0, 1] rfl
  have hD9 := hD.sub (ws' := [(h0, .inr (0, [.ref k0, .ref b0, .ref o0])), (b0, .inl (cb, 8, .inl (rc_blk fb u1 u2)))]) [0, 1] (by decide) rfl
  refine W.widen (k := 0) (n := 0) (Nat.le_of_ble_eq_true rfl) (Nat.le_of_ble_eq_true rfl) ?_
  exact W.vret hx hb hr (fun t9 ht hW => ⟨⟨(), rfl, trivial, by rw [ht]; exact hP9, hD9⟩, hS.F ht⟩) hS.2.2 dX1_block_18
set_option maxHeartbeats 4000000 in
set_option maxRecDepth 100000 in
/-- RcTwoDesk(): three arrays of zeros -/
theorem met_desk (l : Launch) (D : va_G) (cb ci : ClassId) (t sz : Nat) (h0 : Nat)  : Met l yX1_init (ws_ yX1_init cX1_init 1 none) (rm_ 1 3 48) (va_Pc [.ref h0] (rc_Pre D (rc_ty cb ci) t [(h0, .inr (0, [.null, .null, .null]))] sz)) (va_Qv (S := Nat × Nat × Nat) (fun _ => True) (fun u U => rc_B D (va_A [(h0, .inr (0, [.null, .null, .null]))] sz) [(h0, .inr (0, [.ref u.1, .ref u.2.1, .ref u.2.2])), (u.1, .inl (cb, 32, .inl (fun _ => 0))), (u.2.1, .inl (cb, 8, .inl (fun _ => 0))), (u.2.2, .inl (cb, 8, .inl (fun _ => 0)))] U) (va_A [(h0, .inr (0, [.null, .null, .null]))] sz)) 3 48 (va_A [(h0, .inr (0, [.null, .null, .null]))] sz) := by
  refine Met.ofW (cc := cX1_init) (maxL := 1) (ret := none) (by decide) rfl ?_
  intro p e s m args below meth c s₁ B hml hv
  obtain ⟨rfl, hsz, hP, hK, hD0, hX⟩ := hv
  have hx := B.exec
  have hb := B.bytes
  have hr := B.returns
  have hts := atoms_spec (ws := ws_ yX1_init cX1_init 1 none) B.pre
  have hts : ∀ w ∈ lw_all, w.before _ s = true := fun w h => hts w (List.mem_cons_of_mem _ h)
  have hown : s.vm.findClass RX1 = some m.cls := findClass_of_methodNamed B.named
  have hlocks := B.notSynchronized
  have hin : meth.name = "<init>" := (name_of_methodNamed B.named B.method).1
  subst hsz
  have hD := hD0.self (sz := s.heap.size)
  generalize hAe : va_A [(h0, .inr (0, [.null, .null, .null]))] s.heap.size = A at hD hX ⊢
  have hA : ∀ q : Nat, s.heap.size ≤ q → A q := fun q h => by rw [← hAe]; exact Or.inr h
  have hS : va_S A s.heap s.heap [] := va_S.rf
  have hP : va_P D vwCl [(h0, .inr (0, [.null, .null, .null]))] s.heap := hP
  have hl := lv_entry ([.ref h0]) (n := 1) (Nat.le_of_ble_eq_true rfl)
  rw [lg_entry_eq]
  generalize (lg_sl ([.ref h0]) ++ List.replicate (1 - (lg_sl ([.ref h0])).length) Slot.unset).toArray = ls at hl ⊢
  have hl : lv_has ls 1 [(0, .ref h0)] := hl
  refine lv_aload_n hx hb dX1_init_0 rfl (lv_at hl 0 rfl) ?_
  refine W.objInit hx hb hown (hts _ q253) (hts _ q37) (hts _ q38) rfl (by rw [hml]; exact hl.1) rfl dX1_init_1 (Nat.le_of_ble_eq_true rfl) (Nat.le_of_ble_eq_true rfl) ?_
  refine W.eq (g2 := F0 m 4 ls []) rfl ?_
  refine lv_aload_n hx hb dX1_init_4 rfl (lv_at hl 0 rfl) ?_
  refine lv_bipush (v := 32) hx hb dX1_init_5 (by decide) ?_
  refine rc_newb hx hb (hts _ q46) hK hP hD hS hA 32 ((by decide)) (by decide) (Nat.le_of_ble_eq_true rfl) (Nat.le_of_ble_eq_true rfl) dX1_init_7 (fun k0 H hP hD hS => ?_)
  have hP : va_P D vwCl [(h0, .inr (0, [.null, .null, .null])), (k0, .inl (cb, 32, .inl (fun _ => 0)))] H := hP
  have hD : va_D A [(h0, .inr (0, [.null, .null, .null])), (k0, .inl (cb, 32, .inl (fun _ => 0)))] := hD
  refine va_putF (D := D) (ci := 0) (v := .ref k0) (ty := .array .byte) (C := RX1) (T := TX1) (N := 3) hx hb hts in_X1 tyX1 tyX1_ok nmX1 hown hK hP hD hS 0 rfl rfl 0 (by decide) (hts _ q254) (fun _ h9 => h9) rfl hin rfl (by decide +kernel) rfl rfl (Nat.le_of_ble_eq_true rfl) dX1_init_9 (fun H locs hP hD hS => ?_)
  have hP : va_P D vwCl [(h0, .inr (0, [.ref k0, .null, .null])), (k0, .inl (cb, 32, .inl (fun _ => 0)))] H := hP
  have hD : va_D A [(h0, .inr (0, [.ref k0, .null, .null])), (k0, .inl (cb, 32, .inl (fun _ => 0)))] := hD
  refine lv_aload_n hx hb dX1_init_12 rfl (lv_at hl 0 rfl) ?_
  refine lv_bipush (v := 8) hx hb dX1_init_13 (by decide) ?_
  refine rc_newb hx hb (hts _ q46) hK hP hD hS hA 8 ((by decide)) (by decide) (Nat.le_of_ble_eq_true rfl) (Nat.le_of_ble_eq_true rfl) dX1_init_15 (fun b0 H hP hD hS => ?_)
  have hP : va_P D vwCl [(h0, .inr (0, [.ref k0, .null, .null])), (k0, .inl (cb, 32, .inl (fun _ => 0))), (b0, .inl (cb, 8, .inl (fun _ => 0)))] H := hP
  have hD : va_D A [(h0, .inr (0, [.ref k0, .null, .null])), (k0, .inl (cb, 32, .inl (fun _ => 0))), (b0, .inl (cb, 8, .inl (fun _ => 0)))] := hD
  refine va_putF (D := D) (ci := 0) (v := .ref b0) (ty := .array .byte) (C := RX1) (T := TX1) (N := 3) hx hb hts in_X1 tyX1 tyX1_ok nmX1 hown hK hP hD hS 0 rfl rfl 1 (by decide) (hts _ q255) (fun _ h9 => h9) rfl hin rfl (by decide +kernel) rfl rfl (Nat.le_of_ble_eq_true rfl) dX1_init_17 (fun H locs hP hD hS => ?_)
  have hP : va_P D vwCl [(h0, .inr (0, [.ref k0, .ref b0, .null])), (k0, .inl (cb, 32, .inl (fun _ => 0))), (b0, .inl (cb, 8, .inl (fun _ => 0)))] H := hP
  have hD : va_D A [(h0, .inr (0, [.ref k0, .ref b0, .null])), (k0, .inl (cb, 32, .inl (fun _ => 0))), (b0, .inl (cb, 8, .inl (fun _ => 0)))] := hD
  refine lv_aload_n hx hb dX1_init_20 rfl (lv_at hl 0 rfl) ?_
  refine lv_bipush (v := 8) hx hb dX1_init_21 (by decide) ?_
  refine rc_newb hx hb (hts _ q46) hK hP hD hS hA 8 ((by decide)) (by decide) (Nat.le_of_ble_eq_true rfl) (Nat.le_of_ble_eq_true rfl) dX1_init_23 (fun o0 H hP hD hS => ?_)
  have hP : va_P D vwCl [(h0, .inr (0, [.ref k0, .ref b0, .null])), (k0, .inl (cb, 32, .inl (fun _ => 0))), (b0, .inl (cb, 8, .inl (fun _ => 0))), (o0, .inl (cb, 8, .inl (fun _ => 0)))] H := hP
  have hD : va_D A [(h0, .inr (0, [.ref k0, .ref b0, .null])), (k0, .inl (cb, 32, .inl (fun _ => 0))), (b0, .inl (cb, 8, .inl (fun _ => 0))), (o0, .inl (cb, 8, .inl (fun _ => 0)))] := hD
  refine va_putF (D := D) (ci := 0) (v := .ref o0) (ty := .array .byte) (C := RX1) (T := TX1) (N := 3) hx hb hts in_X1 tyX1 tyX1_ok nmX1 hown hK hP hD hS 0 rfl rfl 2 (by decide) (hts _ q256) (fun _ h9 => h9) rfl hin rfl (by decide +kernel) rfl rfl (Nat.le_of_ble_eq_true rfl) dX1_init_25 (fun H locs hP hD hS => ?_)
  have hP : va_P D vwCl [(h0, .inr (0, [.ref k0, .ref b0, .ref o0])), (k0, .inl (cb, 32, .inl (fun _ => 0))), (b0, .inl (cb, 8, .inl (fun _ => 0))), (o0, .inl (cb, 8, .inl (fun _ => 0)))] H := hP
  have hD : va_D A [(h0, .inr (0, [.ref k0, .ref b0, .ref o0])), (k0, .inl (cb, 32, .inl (fun _ => 0))), (b0, .inl (cb, 8, .inl (fun _ => 0))), (o0, .inl (cb, 8, .inl (fun _ => 0)))] := hD
  have hP9 := hP.sub (ws' := [(h0, .inr (0, [.ref k0, .ref b0, .ref o0])), (k0, .inl (cb, 32, .inl (fun _ => 0))), (b0, .inl (cb, 8, .inl (fun _ => 0))), (o0, .inl (cb, 8, .inl (fun _ => 0)))]) [0, 1, 2, 3] rfl
  have hD9 := hD.sub (ws' := [(h0, .inr (0, [.ref k0, .ref b0, .ref o0])), (k0, .inl (cb, 32, .inl (fun _ => 0))), (b0, .inl (cb, 8, .inl (fun _ => 0))), (o0, .inl (cb, 8, .inl (fun _ => 0)))]) [0, 1, 2, 3] (by decide) rfl
  refine W.widen (k := 3) (n := 48) (Nat.le_of_ble_eq_true rfl) (Nat.le_of_ble_eq_true rfl) ?_
  exact W.vret hx hb hr (fun t9 ht hW => ⟨⟨(k0, b0, o0), rfl, trivial, by rw [ht]; exact hP9, hD9⟩, hS.F ht⟩) hS.2.2 dX1_init_28
set_option maxHeartbeats 4000000 in
set_option maxRecDepth 100000 in
theorem again_loop {p : Program} {l : Launch} {e : Env} {R : Room} {s : State} {m : MethodId} {args : Array Value} {below : List Frame} {meth : Method} {c : Code} {cells slots : Nat} {Q : State → Prop} {D : va_G} {cb ci : ClassId} {A : Nat → Prop}  {h0 k0 b0 o0 : Nat} {fb fo : Nat → Int32} (hx : p.tables.exec = Jvm.exec) (hb : c.code = cX1_again) (hml : c.maxLocals = 2) (hown : s.vm.findClass RX1 = some m.cls) (hts : ∀ w ∈ lw_all, w.before args s = true) (hK : va_K D vwCl (rc_ty cb ci) s)  (hfo : rc_bt fo)
    (kk : ∀ (H : Heap) (locs : List Loc) (ls : Array Slot), va_P D vwCl [(h0, .inr (0, [.ref k0, .ref b0, .ref o0])), (b0, .inl (cb, 8, .inl (rc_cp fb fo 8))), (o0, .inl (cb, 8, .inl fo))] H → va_D A [(h0, .inr (0, [.ref k0, .ref b0, .ref o0])), (b0, .inl (cb, 8, .inl (rc_cp fb fo 8))), (o0, .inl (cb, 8, .inl fo))] → va_S A s.heap H locs → lv_has ls 2 [(1, .int (nI 8)), (0, .ref h0)] → W p l e R s m args below meth c H locs cells slots Q (F0 m 26 ls [])) :
    ∀ (k i : Nat), i + k = 8 → ∀ (H : Heap) (locs : List Loc) (ls : Array Slot), va_P D vwCl [(h0, .inr (0, [.ref k0, .ref b0, .ref o0])), (b0, .inl (cb, 8, .inl (rc_cp fb fo i))), (o0, .inl (cb, 8, .inl fo))] H → va_D A [(h0, .inr (0, [.ref k0, .ref b0, .ref o0])), (b0, .inl (cb, 8, .inl (rc_cp fb fo i))), (o0, .inl (cb, 8, .inl fo))] → va_S A s.heap H locs → lv_has ls 2 [(1, .int (nI i)), (0, .ref h0)] → W p l e R s m args below meth c H locs cells slots Q (F0 m 2 ls []) := by
  intro k
  induction k with
  | zero =>
    intro i hn H locs ls hP hD hS hl
    obtain rfl : i = 8 := hn
    refine lv_iload_n hx hb dX1_again_2 rfl (lv_at hl 0 rfl) ?_
    refine lv_bipush (v := 8) hx hb dX1_again_3 (by decide) ?_
    refine lv_icmp_ge (tgt := 26) hx hb dX1_again_5 (by decide) (fun c1 => ?_) (fun c1 => ?_)
    · exact kk H locs ls hP hD hS hl
    · exact absurd (by decide) c1
  | succ k ih =>
    intro i hn H locs ls hP hD hS hl
    refine lv_iload_n hx hb dX1_again_2 rfl (lv_at hl 0 rfl) ?_
    refine lv_bipush (v := 8) hx hb dX1_again_3 (by decide) ?_
    refine lv_icmp_ge (tgt := 26) hx hb dX1_again_5 (by decide) (fun c1 => ?_) (fun c1 => ?_)
    · exact absurd c1 (nI_ge (a := i) (b := 8) (by omega) (by omega))
    · skip
      refine lv_aload_n hx hb dX1_again_8 rfl (lv_at hl 1 rfl) ?_
      refine va_get (D := D) (ci := 0) (v := .ref b0) (C := RX1) (T := TX1) (N := 3) hx hb hts in_X1 hown hK hP 0 rfl rfl 1 (by decide) (hts _ q255) (fun _ h9 => h9) rfl dX1_again_9 ?_
      refine lv_iload_n hx hb dX1_again_12 rfl (lv_at hl 0 rfl) ?_
      refine lv_aload_n hx hb dX1_again_13 rfl (lv_at hl 1 rfl) ?_
      refine va_get (D := D) (ci := 0) (v := .ref o0) (C := RX1) (T := TX1) (N := 3) hx hb hts in_X1 hown hK hP 0 rfl rfl 2 (by decide) (hts _ q256) (fun _ h9 => h9) rfl dX1_again_14 ?_
      refine lv_iload_n hx hb dX1_again_17 rfl (lv_at hl 0 rfl) ?_
      refine rc_bald hx hb hK hP 2 0 rfl rfl i rfl (by omega) (by decide) dX1_again_18 ?_
      refine rc_bast (v := (fo i)) hx hb hK hP hD hS 1 0 rfl rfl i rfl (by omega) (by decide) (rc_nar (hfo _)) dX1_again_19 (fun H locs hP hD hS => ?_)
      have hP : va_P D vwCl [(h0, .inr (0, [.ref k0, .ref b0, .ref o0])), (b0, .inl (cb, 8, .inl (upd (rc_cp fb fo i) i (fo i)))), (o0, .inl (cb, 8, .inl fo))] H := hP
      have hD : va_D A [(h0, .inr (0, [.ref k0, .ref b0, .ref o0])), (b0, .inl (cb, 8, .inl (upd (rc_cp fb fo i) i (fo i)))), (o0, .inl (cb, 8, .inl fo))] := hD
      rw [show upd (rc_cp fb fo i) i (fo i) = rc_cp fb fo (i + 1) from rc_cp_s _ _ _] at hP hD
      refine lv_iinc (v := (nI (i + 1))) (lv' := [(1, .int (nI (i + 1))), (0, .ref h0)]) hx hb dX1_again_20 hl (k := 0) rfl (nI_1 i) (by decide) rfl (fun ls hl => ?_)
      refine lv_goto (tgt := 2) hx hb dX1_again_23 (by decide) ?_
      exact ih (i + 1) (by omega) H locs ls hP hD hS (lv_sub hl [0, 1] rfl)
set_option maxHeartbeats 4000000 in
set_option maxRecDepth 100000 in
/-- again(): out becomes the block -/
theorem met_again (l : Launch) (D : va_G) (cb ci : ClassId) (t sz : Nat) (h0 k0 b0 o0 : Nat) (fb fo : Nat → Int32) (hfo : rc_bt fo) : Met l yX1_again (ws_ yX1_again cX1_again 2 none) (rm_ 0 0 0) (va_Pc [.ref h0] (rc_Pre D (rc_ty cb ci) t [(h0, .inr (0, [.ref k0, .ref b0, .ref o0])), (b0, .inl (cb, 8, .inl fb)), (o0, .inl (cb, 8, .inl fo))] sz)) (va_Qv (S := Unit) (fun _ => True) (fun _ U => rc_B D (va_A [(h0, .inr (0, [.ref k0, .ref b0, .ref o0])), (b0, .inl (cb, 8, .inl fb)), (o0, .inl (cb, 8, .inl fo))] sz) [(h0, .inr (0, [.ref k0, .ref b0, .ref o0])), (b0, .inl (cb, 8, .inl fo)), (o0, .inl (cb, 8, .inl fo))] U) (va_A [(h0, .inr (0, [.ref k0, .ref b0, .ref o0])), (b0, .inl (cb, 8, .inl fb)), (o0, .inl (cb, 8, .inl fo))] sz)) 0 0 (va_A [(h0, .inr (0, [.ref k0, .ref b0, .ref o0])), (b0, .inl (cb, 8, .inl fb)), (o0, .inl (cb, 8, .inl fo))] sz) := by
  refine Met.ofW (cc := cX1_again) (maxL := 2) (ret := none) (by decide) rfl ?_
  intro p e s m args below meth c s₁ B hml hv
  obtain ⟨rfl, hsz, hP, hK, hD0, hX⟩ := hv
  have hx := B.exec
  have hb := B.bytes
  have hr := B.returns
  have hts := atoms_spec (ws := ws_ yX1_again cX1_again 2 none) B.pre
  have hts : ∀ w ∈ lw_all, w.before _ s = true := fun w h => hts w (List.mem_cons_of_mem _ h)
  have hown : s.vm.findClass RX1 = some m.cls := findClass_of_methodNamed B.named
  have hlocks := B.notSynchronized
  subst hsz
  have hD := hD0.self (sz := s.heap.size)
  generalize hAe : va_A [(h0, .inr (0, [.ref k0, .ref b0, .ref o0])), (b0, .inl (cb, 8, .inl fb)), (o0, .inl (cb, 8, .inl fo))] s.heap.size = A at hD hX ⊢
  have hA : ∀ q : Nat, s.heap.size ≤ q → A q := fun q h => by rw [← hAe]; exact Or.inr h
  have hS : va_S A s.heap s.heap [] := va_S.rf
  have hP : va_P D vwCl [(h0, .inr (0, [.ref k0, .ref b0, .ref o0])), (b0, .inl (cb, 8, .inl fb)), (o0, .inl (cb, 8, .inl fo))] s.heap := hP
  have hl := lv_entry ([.ref h0]) (n := 2) (Nat.le_of_ble_eq_true rfl)
  rw [lg_entry_eq]
  generalize (lg_sl ([.ref h0]) ++ List.replicate (2 - (lg_sl ([.ref h0])).length) Slot.unset).toArray = ls at hl ⊢
  have hl : lv_has ls 2 [(0, .ref h0)] := hl
  refine lv_iconst (v := 0) hx hb dX1_again_0 (by decide) ?_
  refine lv_istore_n (lv' := [(1, .int 0), (0, .ref h0)]) hx hb dX1_again_1 rfl hl (by decide) rfl (fun ls hl => ?_)
  have hP : va_P D vwCl [(h0, .inr (0, [.ref k0, .ref b0, .ref o0])), (b0, .inl (cb, 8, .inl (rc_cp fb fo 0))), (o0, .inl (cb, 8, .inl fo))] s.heap := by
    rw [rc_cp_0]
    exact hP
  have hD : va_D A [(h0, .inr (0, [.ref k0, .ref b0, .ref o0])), (b0, .inl (cb, 8, .inl (rc_cp fb fo 0))), (o0, .inl (cb, 8, .inl fo))] := by
    rw [rc_cp_0]
    exact hD
  refine again_loop hx hb hml hown hts hK hfo (fun H locs ls hP hD hS hl => ?_) 8 0 rfl _ _ ls hP hD hS (lv_sub hl [0, 1] rfl)
  have hP : va_P D vwCl [(h0, .inr (0, [.ref k0, .ref b0, .ref o0])), (b0, .inl (cb, 8, .inl fo)), (o0, .inl (cb, 8, .inl fo))] H := rc_fn hP 1 fo rfl (fun j hj => rc_cp_lt _ _ hj)
  have hD : va_D A [(h0, .inr (0, [.ref k0, .ref b0, .ref o0])), (b0, .inl (cb, 8, .inl fo)), (o0, .inl (cb, 8, .inl fo))] := hD.set (p := 1) rfl
  have hP9 := hP.sub (ws' := [(h0, .inr (0, [.ref k0, .ref b0, .ref o0])), (b0, .inl (cb, 8, .inl fo)), (o0, .inl (cb, 8, .inl fo))]) [0, 1, 2] rfl
  have hD9 := hD.sub (ws' := [(h0, .inr (0, [.ref k0, .ref b0, .ref o0])), (b0, .inl (cb, 8, .inl fo)), (o0, .inl (cb, 8, .inl fo))]) [0, 1, 2] (by decide) rfl
  refine W.widen (k := 0) (n := 0) (Nat.le_of_ble_eq_true rfl) (Nat.le_of_ble_eq_true rfl) ?_
  exact W.vret hx hb hr (fun t9 ht hW => ⟨⟨(), rfl, trivial, by rw [ht]; exact hP9, hD9⟩, hS.F ht⟩) hS.2.2 dX1_again_26
theorem rc_and7 {j : Nat} (hj : j < 8) : nI j &&& 7 = nI j := by
  rw [pk_andN (by omega) 3 (by decide), Nat.mod_eq_of_lt (by omega)]
set_option maxHeartbeats 4000000 in
set_option maxRecDepth 100000 in
/-- out(j): a byte of out, unsigned -/
theorem met_out (l : Launch) (D : va_G) (cb ci : ClassId) (t sz : Nat) (h0 k0 b0 o0 j : Nat) (fo : Nat → Int32) (hj : j < 8) : Met l yX1_out (ws_ yX1_out cX1_out 2 (some .int)) (rm_ 0 0 0) (va_Pc [.ref h0, .int (nI j)] (rc_Pre D (rc_ty cb ci) t [(h0, .inr (0, [.ref k0, .ref b0, .ref o0])), (o0, .inl (cb, 8, .inl fo))] sz)) (va_Qi (S := Unit) (fun r _ => r = fo j &&& 255) (fun _ U => rc_B D (va_A [(h0, .inr (0, [.ref k0, .ref b0, .ref o0])), (o0, .inl (cb, 8, .inl fo))] sz) [(h0, .inr (0, [.ref k0, .ref b0, .ref o0])), (o0, .inl (cb, 8, .inl fo))] U) (va_A [(h0, .inr (0, [.ref k0, .ref b0, .ref o0])), (o0, .inl (cb, 8, .inl fo))] sz)) 0 0 (va_A [(h0, .inr (0, [.ref k0, .ref b0, .ref o0])), (o0, .inl (cb, 8, .inl fo))] sz) := by
  refine Met.ofW (cc := cX1_out) (maxL := 2) (ret := (some .int)) (by decide) rfl ?_
  intro p e s m args below meth c s₁ B hml hv
  obtain ⟨rfl, hsz, hP, hK, hD0, hX⟩ := hv
  have hx := B.exec
  have hb := B.bytes
  have hr := B.returns
  have hts := atoms_spec (ws := ws_ yX1_out cX1_out 2 (some .int)) B.pre
  have hts : ∀ w ∈ lw_all, w.before _ s = true := fun w h => hts w (List.mem_cons_of_mem _ h)
  have hown : s.vm.findClass RX1 = some m.cls := findClass_of_methodNamed B.named
  have hlocks := B.notSynchronized
  subst hsz
  have hD := hD0.self (sz := s.heap.size)
  generalize hAe : va_A [(h0, .inr (0, [.ref k0, .ref b0, .ref o0])), (o0, .inl (cb, 8, .inl fo))] s.heap.size = A at hD hX ⊢
  have hA : ∀ q : Nat, s.heap.size ≤ q → A q := fun q h => by rw [← hAe]; exact Or.inr h
  have hS : va_S A s.heap s.heap [] := va_S.rf
  have hP : va_P D vwCl [(h0, .inr (0, [.ref k0, .ref b0, .ref o0])), (o0, .inl (cb, 8, .inl fo))] s.heap := hP
  have hl := lv_entry ([.ref h0, .int (nI j)]) (n := 2) (Nat.le_of_ble_eq_true rfl)
  rw [lg_entry_eq]
  generalize (lg_sl ([.ref h0, .int (nI j)]) ++ List.replicate (2 - (lg_sl ([.ref h0, .int (nI j)])).length) Slot.unset).toArray = ls at hl ⊢
  have hl : lv_has ls 2 [(0, .ref h0), (1, .int (nI j))] := hl
  refine lv_aload_n hx hb dX1_out_0 rfl (lv_at hl 0 rfl) ?_
  refine va_get (D := D) (ci := 0) (v := .ref o0) (C := RX1) (T := TX1) (N := 3) hx hb hts in_X1 hown hK hP 0 rfl rfl 2 (by decide) (hts _ q256) (fun _ h9 => h9) rfl dX1_out_1 ?_
  refine lv_iload_n hx hb dX1_out_4 rfl (lv_at hl 1 rfl) ?_
  refine lv_bipush (v := 7) hx hb dX1_out_5 (by decide) ?_
  refine lv_iand hx hb dX1_out_7 ?_
  refine rc_bald hx hb hK hP 1 0 rfl rfl j (rc_and7 hj) (by omega) (by decide) dX1_out_8 ?_
  refine lv_sipush (v := 255) hx hb dX1_out_9 (by decide) ?_
  refine lv_iand hx hb dX1_out_12 ?_
  exact W.iret (v := fo j &&& 255) hx hb hr (fun t9 ht hW => ⟨⟨_, (), rfl, rfl, by rw [ht]; exact hP, hD⟩, hS.F ht⟩) hS.2.2 dX1_out_13
end
section
/-! RcTwoDesk: run, lock, open -/
theorem rc_F {own : String} {idx : Nat} {C : String} {x y : MethodName} {b : ByteArray} {L : Nat} {r : Option FieldType} (h1 : Cond.methodLink own idx x ∈ lw_all) (h2 : Cond.selects C x y ∈ lw_all) (h3 : Cond.instanceMethod y ∈ lw_all) (h4 : Cond.initialized y.cls ∈ lw_all) (h5 : Cond.code y b L r ∈ lw_all) : GoodIn lw_all (va_wsF own idx C x y (ws_ y b L r)) := by
  refine lw_app ?_ (lw_meth h5)
  intro w hw
  simp only [List.mem_cons, List.not_mem_nil, or_false] at hw
  rcases hw with e | e | e | e
  · rw [e]; exact h1
  · rw [e]; exact h2
  · rw [e]; exact h3
  · rw [e]; exact h4
set_option maxHeartbeats 4000000 in
set_option maxRecDepth 100000 in
theorem run_loop {p : Program} {l : Launch} {e : Env} {R : Room} {s : State} {m : MethodId} {args : Array Value} {below : List Frame} {meth : Method} {c : Code} {cells slots : Nat} {Q : State → Prop} {D : va_G} {cb ci : ClassId} {A : Nat → Prop}  {h0 k0 b0 o0 y0 : Nat} {lk kd : Int32} {fk fb fo : Nat → Int32} (hx : p.tables.exec = Jvm.exec) (hb : c.code = cX1_run) (hml : c.maxLocals = 6) (hown : s.vm.findClass RX1 = some m.cls) (hts : ∀ w ∈ lw_all, w.before args s = true) (hK : va_K D vwCl (rc_ty cb ci) s)  (hfk : rc_bt fk)
    (kk : ∀ (H : Heap) (locs : List Loc) (ls : Array Slot), va_P D vwCl [(h0, .inr (0, [.ref k0, .ref b0, .ref o0])), (k0, .inl (cb, 32, .inl fk)), (b0, .inl (cb, 8, .inl fb)), (o0, .inl (cb, 8, .inl fo)), (y0, .inl (cb, 16, .inl (rc_cp (fun _ => 0) fk 16)))] H → va_D A [(h0, .inr (0, [.ref k0, .ref b0, .ref o0])), (k0, .inl (cb, 32, .inl fk)), (b0, .inl (cb, 8, .inl fb)), (o0, .inl (cb, 8, .inl fo)), (y0, .inl (cb, 16, .inl (rc_cp (fun _ => 0) fk 16)))] → va_S A s.heap H locs → lv_has ls 6 [(5, .int (nI 16)), (4, .ref y0), (3, .int 16), (0, .ref h0), (1, .int lk), (2, .int kd)] → W p l e R s m args below meth c H locs cells slots Q (F0 m 39 ls [])) :
    ∀ (k i : Nat), i + k = 16 → ∀ (H : Heap) (locs : List Loc) (ls : Array Slot), va_P D vwCl [(h0, .inr (0, [.ref k0, .ref b0, .ref o0])), (k0, .inl (cb, 32, .inl fk)), (b0, .inl (cb, 8, .inl fb)), (o0, .inl (cb, 8, .inl fo)), (y0, .inl (cb, 16, .inl (rc_cp (fun _ => 0) fk i)))] H → va_D A [(h0, .inr (0, [.ref k0, .ref b0, .ref o0])), (k0, .inl (cb, 32, .inl fk)), (b0, .inl (cb, 8, .inl fb)), (o0, .inl (cb, 8, .inl fo)), (y0, .inl (cb, 16, .inl (rc_cp (fun _ => 0) fk i)))] → va_S A s.heap H locs → lv_has ls 6 [(5, .int (nI i)), (4, .ref y0), (3, .int 16), (0, .ref h0), (1, .int lk), (2, .int kd)] → W p l e R s m args below meth c H locs cells slots Q (F0 m 15 ls []) := by
  intro k
  induction k with
  | zero =>
    intro i hn H locs ls hP hD hS hl
    obtain rfl : i = 16 := hn
    refine lv_iload hx hb dX1_run_15 (lv_at hl 0 rfl) ?_
    refine lv_iload_n hx hb dX1_run_17 rfl (lv_at hl 2 rfl) ?_
    refine lv_icmp_ge (tgt := 39) hx hb dX1_run_18 (by decide) (fun c1 => ?_) (fun c1 => ?_)
    · exact kk H locs ls hP hD hS hl
    · exact absurd (by decide) c1
  | succ k ih =>
    intro i hn H locs ls hP hD hS hl
    refine lv_iload hx hb dX1_run_15 (lv_at hl 0 rfl) ?_
    refine lv_iload_n hx hb dX1_run_17 rfl (lv_at hl 2 rfl) ?_
    refine lv_icmp_ge (tgt := 39) hx hb dX1_run_18 (by decide) (fun c1 => ?_) (fun c1 => ?_)
    · exact absurd c1 (nI_ge (a := i) (b := 16) (by omega) (by omega))
    · skip
      refine lv_aload hx hb dX1_run_21 (lv_at hl 1 rfl) ?_
      refine lv_iload hx hb dX1_run_23 (lv_at hl 0 rfl) ?_
      refine lv_aload_n hx hb dX1_run_25 rfl (lv_at hl 3 rfl) ?_
      refine va_get (D := D) (ci := 0) (v := .ref k0) (C := RX1) (T := TX1) (N := 3) hx hb hts in_X1 hown hK hP 0 rfl rfl 0 (by decide) (hts _ q254) (fun _ h9 => h9) rfl dX1_run_26 ?_
      refine lv_iload hx hb dX1_run_29 (lv_at hl 0 rfl) ?_
      refine rc_bald hx hb hK hP 1 0 rfl rfl i rfl (by omega) (by decide) dX1_run_31 ?_
      refine rc_bast (v := (fk i)) hx hb hK hP hD hS 4 0 rfl rfl i rfl (by omega) (by decide) (rc_nar (hfk _)) dX1_run_32 (fun H locs hP hD hS => ?_)
      have hP : va_P D vwCl [(h0, .inr (0, [.ref k0, .ref b0, .ref o0])), (k0, .inl (cb, 32, .inl fk)), (b0, .inl (cb, 8, .inl fb)), (o0, .inl (cb, 8, .inl fo)), (y0, .inl (cb, 16, .inl (upd (rc_cp (fun _ => 0) fk i) i (fk i))))] H := hP
      have hD : va_D A [(h0, .inr (0, [.ref k0, .ref b0, .ref o0])), (k0, .inl (cb, 32, .inl fk)), (b0, .inl (cb, 8, .inl fb)), (o0, .inl (cb, 8, .inl fo)), (y0, .inl (cb, 16, .inl (upd (rc_cp (fun _ => 0) fk i) i (fk i))))] := hD
      rw [show upd (rc_cp (fun _ => 0) fk i) i (fk i) = rc_cp (fun _ => 0) fk (i + 1) from rc_cp_s _ _ _] at hP hD
      refine lv_iinc (v := (nI (i + 1))) (lv' := [(5, .int (nI (i + 1))), (4, .ref y0), (3, .int 16), (0, .ref h0), (1, .int lk), (2, .int kd)]) hx hb dX1_run_33 hl (k := 0) rfl (nI_1 i) (by decide) rfl (fun ls hl => ?_)
      refine lv_goto (tgt := 15) hx hb dX1_run_36 (by decide) ?_
      exact ih (i + 1) (by omega) H locs ls hP hD hS (lv_sub hl [0, 1, 2, 3, 4, 5] rfl)
set_option maxHeartbeats 4000000 in
set_option maxRecDepth 100000 in
/-- run(lk, kind): out becomes the block, locked (1) or opened (0) -/
theorem met_run (l : Launch) (D : va_G) (cb ci : ClassId) (t sz : Nat) (h0 k0 b0 o0 : Nat) (lk kd : Int32) (fk fb fo : Nat → Int32) (hlk : lk = 0 ∨ lk = 1) (hfk : rc_bt fk) : Met l yX1_run (ws_ yX1_run cX1_run 6 none) (rm_ 4 6 227) (va_Pc [.ref h0, .int lk, .int kd] (rc_Pre D (rc_ty cb ci) t [(h0, .inr (0, [.ref k0, .ref b0, .ref o0])), (k0, .inl (cb, 32, .inl fk)), (b0, .inl (cb, 8, .inl fb)), (o0, .inl (cb, 8, .inl fo))] sz)) (va_Qv (S := Unit) (fun _ => True) (fun _ U => rc_B D (va_A [(h0, .inr (0, [.ref k0, .ref b0, .ref o0])), (k0, .inl (cb, 32, .inl fk)), (b0, .inl (cb, 8, .inl fb)), (o0, .inl (cb, 8, .inl fo))] sz) [(h0, .inr (0, [.ref k0, .ref b0, .ref o0])), (k0, .inl (cb, 32, .inl fk)), (b0, .inl (cb, 8, .inl fb)), (o0, .inl (cb, 8, .inl (rc_cr lk (rc_exp fk) fb)))] U) (va_A [(h0, .inr (0, [.ref k0, .ref b0, .ref o0])), (k0, .inl (cb, 32, .inl fk)), (b0, .inl (cb, 8, .inl fb)), (o0, .inl (cb, 8, .inl fo))] sz)) 6 227 (va_A [(h0, .inr (0, [.ref k0, .ref b0, .ref o0])), (k0, .inl (cb, 32, .inl fk)), (b0, .inl (cb, 8, .inl fb)), (o0, .inl (cb, 8, .inl fo))] sz) := by
  refine Met.ofW (cc := cX1_run) (maxL := 6) (ret := none) (by decide) rfl ?_
  intro p e s m args below meth c s₁ B hml hv
  obtain ⟨rfl, hsz, hP, hK, hD0, hX⟩ := hv
  have hx := B.exec
  have hb := B.bytes
  have hr := B.returns
  have hts := atoms_spec (ws := ws_ yX1_run cX1_run 6 none) B.pre
  have hts : ∀ w ∈ lw_all, w.before _ s = true := fun w h => hts w (List.mem_cons_of_mem _ h)
  have hown : s.vm.findClass RX1 = some m.cls := findClass_of_methodNamed B.named
  have hlocks := B.notSynchronized
  subst hsz
  have hD := hD0.self (sz := s.heap.size)
  generalize hAe : va_A [(h0, .inr (0, [.ref k0, .ref b0, .ref o0])), (k0, .inl (cb, 32, .inl fk)), (b0, .inl (cb, 8, .inl fb)), (o0, .inl (cb, 8, .inl fo))] s.heap.size = A at hD hX ⊢
  have hA : ∀ q : Nat, s.heap.size ≤ q → A q := fun q h => by rw [← hAe]; exact Or.inr h
  have hS : va_S A s.heap s.heap [] := va_S.rf
  have hP : va_P D vwCl [(h0, .inr (0, [.ref k0, .ref b0, .ref o0])), (k0, .inl (cb, 32, .inl fk)), (b0, .inl (cb, 8, .inl fb)), (o0, .inl (cb, 8, .inl fo))] s.heap := hP
  have hl := lv_entry ([.ref h0, .int lk, .int kd]) (n := 6) (Nat.le_of_ble_eq_true rfl)
  rw [lg_entry_eq]
  generalize (lg_sl ([.ref h0, .int lk, .int kd]) ++ List.replicate (6 - (lg_sl ([.ref h0, .int lk, .int kd])).length) Slot.unset).toArray = ls at hl ⊢
  have hl : lv_has ls 6 [(0, .ref h0), (1, .int lk), (2, .int kd)] := hl
  refine lv_iload_n hx hb dX1_run_0 rfl (lv_at hl 2 rfl) ?_
  refine lv_iconst (v := 3) hx hb dX1_run_1 (by decide) ?_
  refine lv_iand hx hb dX1_run_2 ?_
  refine vp_callSi (W.runS (As := [.int (kd &&& 3)]) (rest := []) ⟨hx, hb, hml, hown, hts⟩ (met_size l (kd &&& 3)) (va_cwS 1 hts (lw_S q28 q29 q7 q30) rfl rfl rfl (by decide +kernel) ⟨Nat.le_of_ble_eq_true rfl, Nat.le_of_ble_eq_true rfl⟩) preEq rfl rfl hl.1 rfl (lv_room (Nat.le_of_ble_eq_true rfl)) dX1_run_3 ⟨Nat.le_of_ble_eq_true rfl, Nat.le_of_ble_eq_true rfl⟩) (fun r hr => ?_)
  obtain rfl : r = 16 := hr
  refine lv_istore_n (lv' := [(3, .int 16), (0, .ref h0), (1, .int lk), (2, .int kd)]) hx hb dX1_run_6 rfl hl (by decide) rfl (fun ls hl => ?_)
  refine lv_iload_n hx hb dX1_run_7 rfl (lv_at hl 0 rfl) ?_
  refine rc_newb hx hb (hts _ q46) hK hP hD hS hA 16 ((by decide)) (by decide) (Nat.le_of_ble_eq_true rfl) (Nat.le_of_ble_eq_true rfl) dX1_run_8 (fun y0 H hP hD hS => ?_)
  have hP : va_P D vwCl [(h0, .inr (0, [.ref k0, .ref b0, .ref o0])), (k0, .inl (cb, 32, .inl fk)), (b0, .inl (cb, 8, .inl fb)), (o0, .inl (cb, 8, .inl fo)), (y0, .inl (cb, 16, .inl (fun _ => 0)))] H := hP
  have hD : va_D A [(h0, .inr (0, [.ref k0, .ref b0, .ref o0])), (k0, .inl (cb, 32, .inl fk)), (b0, .inl (cb, 8, .inl fb)), (o0, .inl (cb, 8, .inl fo)), (y0, .inl (cb, 16, .inl (fun _ => 0)))] := hD
  refine lv_astore (lv' := [(4, .ref y0), (3, .int 16), (0, .ref h0), (1, .int lk), (2, .int kd)]) hx hb dX1_run_10 hl (by decide) rfl (fun ls hl => ?_)
  refine lv_iconst (v := 0) hx hb dX1_run_12 (by decide) ?_
  refine lv_istore (lv' := [(5, .int 0), (4, .ref y0), (3, .int 16), (0, .ref h0), (1, .int lk), (2, .int kd)]) hx hb dX1_run_13 hl (by decide) rfl (fun ls hl => ?_)
  have hP : va_P D vwCl [(h0, .inr (0, [.ref k0, .ref b0, .ref o0])), (k0, .inl (cb, 32, .inl fk)), (b0, .inl (cb, 8, .inl fb)), (o0, .inl (cb, 8, .inl fo)), (y0, .inl (cb, 16, .inl (rc_cp (fun _ => 0) fk 0)))] H := by
    rw [rc_cp_0]
    exact hP
  have hD : va_D A [(h0, .inr (0, [.ref k0, .ref b0, .ref o0])), (k0, .inl (cb, 32, .inl fk)), (b0, .inl (cb, 8, .inl fb)), (o0, .inl (cb, 8, .inl fo)), (y0, .inl (cb, 16, .inl (rc_cp (fun _ => 0) fk 0)))] := by
    rw [rc_cp_0]
    exact hD
  refine run_loop hx hb hml hown hts hK hfk (fun H locs ls hP hD hS hl => ?_) 16 0 rfl _ _ ls hP hD hS (lv_sub hl [0, 1, 2, 3, 4, 5] rfl)
  have hP : va_P D vwCl [(h0, .inr (0, [.ref k0, .ref b0, .ref o0])), (k0, .inl (cb, 32, .inl fk)), (b0, .inl (cb, 8, .inl fb)), (o0, .inl (cb, 8, .inl fo)), (y0, .inl (cb, 16, .inl fk))] H := rc_fn hP 4 fk rfl (fun j hj => rc_cp_lt _ _ hj)
  have hD : va_D A [(h0, .inr (0, [.ref k0, .ref b0, .ref o0])), (k0, .inl (cb, 32, .inl fk)), (b0, .inl (cb, 8, .inl fb)), (o0, .inl (cb, 8, .inl fo)), (y0, .inl (cb, 16, .inl fk))] := hD.set (p := 4) rfl
  refine va_new (ci := 1) (fs := [.null, .int 0]) (C := RX2) (T := TX2) (N := 2) hx hb hts in_X2 tyX2 tyX2_ok hown (hts _ q31) (hts _ q32) (hts _ q8) hK hP hD hS hA rfl (fun j hj => by rcases (show j = 0 ∨ j = 1 by omega) with rfl | rfl <;> rfl) (Nat.le_of_ble_eq_true rfl) (Nat.le_of_ble_eq_true rfl) dX1_run_39 (fun e0 H hP hD hS => ?_)
  have hP : va_P D vwCl [(h0, .inr (0, [.ref k0, .ref b0, .ref o0])), (k0, .inl (cb, 32, .inl fk)), (b0, .inl (cb, 8, .inl fb)), (o0, .inl (cb, 8, .inl fo)), (y0, .inl (cb, 16, .inl fk)), (e0, .inr (1, [.null, .int 0]))] H := hP
  have hD : va_D A [(h0, .inr (0, [.ref k0, .ref b0, .ref o0])), (k0, .inl (cb, 32, .inl fk)), (b0, .inl (cb, 8, .inl fb)), (o0, .inl (cb, 8, .inl fo)), (y0, .inl (cb, 16, .inl fk)), (e0, .inr (1, [.null, .int 0]))] := hD
  refine lv_dup hx hb dX1_run_42 rfl ?_
  have hFc := va_free (wc := [(e0, .inr (1, [.null, .int 0]))]) hD hS hA [5] rfl
  refine va_callv (va_runI (As := []) (rest := [.ref e0]) ⟨hx, hb, hml, hown, hts⟩ (met_eng l D cb ci t H.size e0) (cwI 0 hts (lw_meth q35) rfl rfl rfl (hts _ q8) (hts _ q33) (hts _ q34) rfl (by decide +kernel) ⟨Nat.le_of_ble_eq_true rfl, Nat.le_of_ble_eq_true rfl⟩) ⟨rc_Pre.blind, fun U hU hW => ⟨rfl, rc_Pre.pass hP hD hK hS hA hX [5] rfl rfl (by decide) U hU hW⟩⟩ rfl rfl hl.1 rfl (lv_room (Nat.le_of_ble_eq_true rfl)) dX1_run_43 ⟨Nat.le_of_ble_eq_true rfl, Nat.le_of_ble_eq_true rfl⟩) hS (fun q _ h => hFc q h) hFc (fun u t9 H1 locs ht hvm hw hB hz hk hS => ?_)
  obtain ⟨hP, hD⟩ := rc_join (wr := [(h0, .inr (0, [.ref k0, .ref b0, .ref o0])), (k0, .inl (cb, 32, .inl fk)), (b0, .inl (cb, 8, .inl fb)), (o0, .inl (cb, 8, .inl fo)), (y0, .inl (cb, 16, .inl fk))]) (w1 := [(e0, .inr (1, [.null, .int 0]))]) hP hD [5] [0, 1, 2, 3, 4] rfl rfl (by decide) (by decide) hk hFc ht hB
  generalize H1 = H at hP hS ⊢
  have hP : va_P D vwCl [(h0, .inr (0, [.ref k0, .ref b0, .ref o0])), (k0, .inl (cb, 32, .inl fk)), (b0, .inl (cb, 8, .inl fb)), (o0, .inl (cb, 8, .inl fo)), (y0, .inl (cb, 16, .inl fk)), (e0, .inr (1, [.null, .int 0]))] H := hP
  have hD : va_D A [(h0, .inr (0, [.ref k0, .ref b0, .ref o0])), (k0, .inl (cb, 32, .inl fk)), (b0, .inl (cb, 8, .inl fb)), (o0, .inl (cb, 8, .inl fo)), (y0, .inl (cb, 16, .inl fk)), (e0, .inr (1, [.null, .int 0]))] := hD
  refine lv_astore (lv' := [(5, .ref e0), (4, .ref y0), (3, .int 16), (0, .ref h0), (1, .int lk), (2, .int kd)]) hx hb dX1_run_46 hl (by decide) rfl (fun ls hl => ?_)
  refine lv_aload hx hb dX1_run_48 (lv_at hl 0 rfl) ?_
  refine lv_iload_n hx hb dX1_run_50 rfl (lv_at hl 4 rfl) ?_
  refine va_new (ci := 2) (fs := [.null]) (C := RX3) (T := TX3) (N := 1) hx hb hts in_X3 tyX3 tyX3_ok hown (hts _ q47) (hts _ q48) (hts _ q9) hK hP hD hS hA rfl (fun j hj => by rcases (show j = 0 by omega) with rfl <;> rfl) (Nat.le_of_ble_eq_true rfl) (Nat.le_of_ble_eq_true rfl) dX1_run_51 (fun h1 H hP hD hS => ?_)
  have hP : va_P D vwCl [(h0, .inr (0, [.ref k0, .ref b0, .ref o0])), (k0, .inl (cb, 32, .inl fk)), (b0, .inl (cb, 8, .inl fb)), (o0, .inl (cb, 8, .inl fo)), (y0, .inl (cb, 16, .inl fk)), (e0, .inr (1, [.null, .int 0])), (h1, .inr (2, [.null]))] H := hP
  have hD : va_D A [(h0, .inr (0, [.ref k0, .ref b0, .ref o0])), (k0, .inl (cb, 32, .inl fk)), (b0, .inl (cb, 8, .inl fb)), (o0, .inl (cb, 8, .inl fo)), (y0, .inl (cb, 16, .inl fk)), (e0, .inr (1, [.null, .int 0])), (h1, .inr (2, [.null]))] := hD
  refine lv_dup hx hb dX1_run_54 rfl ?_
  refine lv_aload hx hb dX1_run_55 (lv_at hl 1 rfl) ?_
  have hFc := va_free (wc := [(h1, .inr (2, [.null])), (y0, .inl (cb, 16, .inl fk))]) hD hS hA [6, 4] rfl
  refine va_callv (va_runI (As := [.ref y0]) (rest := [.ref h1, .int lk, .ref e0]) ⟨hx, hb, hml, hown, hts⟩ (met_kp l D cb ci t H.size h1 y0 fk hfk) (cwI 1 hts (lw_meth q51) rfl rfl rfl (hts _ q9) (hts _ q49) (hts _ q50) rfl (by decide +kernel) ⟨Nat.le_of_ble_eq_true rfl, Nat.le_of_ble_eq_true rfl⟩) ⟨rc_Pre.blind, fun U hU hW => ⟨rfl, rc_Pre.pass hP hD hK hS hA hX [6, 4] rfl rfl (by decide) U hU hW⟩⟩ rfl rfl hl.1 rfl (lv_room (Nat.le_of_ble_eq_true rfl)) dX1_run_57 ⟨Nat.le_of_ble_eq_true rfl, Nat.le_of_ble_eq_true rfl⟩) hS (fun q _ h => hFc q h) hFc (fun u t9 H1 locs ht hvm hw hB hz hk hS => ?_)
  obtain ⟨a1, rfl⟩ : ∃ z, z = u := ⟨_, rfl⟩
  obtain ⟨hP, hD⟩ := rc_join (wr := [(h0, .inr (0, [.ref k0, .ref b0, .ref o0])), (k0, .inl (cb, 32, .inl fk)), (b0, .inl (cb, 8, .inl fb)), (o0, .inl (cb, 8, .inl fo)), (e0, .inr (1, [.null, .int 0]))]) (w1 := [(h1, .inr (2, [.ref a1])), (a1, .inl (cb, 16, .inl fk))]) hP hD [6, 4] [0, 1, 2, 3, 5] rfl rfl (by decide) (by decide) hk hFc ht hB
  generalize H1 = H at hP hS ⊢
  have hP : va_P D vwCl [(h0, .inr (0, [.ref k0, .ref b0, .ref o0])), (k0, .inl (cb, 32, .inl fk)), (b0, .inl (cb, 8, .inl fb)), (o0, .inl (cb, 8, .inl fo)), (e0, .inr (1, [.null, .int 0])), (h1, .inr (2, [.ref a1])), (a1, .inl (cb, 16, .inl fk))] H := hP
  have hD : va_D A [(h0, .inr (0, [.ref k0, .ref b0, .ref o0])), (k0, .inl (cb, 32, .inl fk)), (b0, .inl (cb, 8, .inl fb)), (o0, .inl (cb, 8, .inl fo)), (e0, .inr (1, [.null, .int 0])), (h1, .inr (2, [.ref a1])), (a1, .inl (cb, 16, .inl fk))] := hD
  have hFc := va_free (wc := [(e0, .inr (1, [.null, .int 0])), (h1, .inr (2, [.ref a1])), (a1, .inl (cb, 16, .inl fk))]) hD hS hA [4, 5, 6] rfl
  refine va_callFv (va_runF (As := [.int lk, .ref h1]) (rest := []) ((hK.1 1 _ rfl).2) ⟨hx, hb, hml, hown, hts⟩ (met_init l D cb ci t H.size e0 h1 a1 lk fk hlk) (va_cwF 2 hts (rc_F q67 q71 q73 q8 q75) rfl rfl rfl (hX.2.2.1) (by decide +kernel) ⟨Nat.le_of_ble_eq_true rfl, Nat.le_of_ble_eq_true rfl⟩) ⟨rc_Pre.blind, va_recv hK hP (ci := 1) (q0 := 4) rfl rfl, fun U hU hW => ⟨rfl, rc_Pre.pass hP hD hK hS hA hX [4, 5, 6] rfl rfl (by decide) U hU hW⟩⟩ rfl rfl hl.1 rfl (lv_room (Nat.le_of_ble_eq_true rfl)) dX1_run_60 ⟨Nat.le_of_ble_eq_true rfl, Nat.le_of_ble_eq_true rfl⟩) hS (fun q _ h => hFc q h) hFc (fun u t9 H1 locs ht hvm hw hB hz hk hS => ?_)
  obtain ⟨a2, rfl⟩ : ∃ z, z = u := ⟨_, rfl⟩
  obtain ⟨hP, hD⟩ := rc_join (wr := [(h0, .inr (0, [.ref k0, .ref b0, .ref o0])), (k0, .inl (cb, 32, .inl fk)), (b0, .inl (cb, 8, .inl fb)), (o0, .inl (cb, 8, .inl fo))]) (w1 := [(e0, .inr (1, [.ref a2, .int lk])), (a2, .inl (ci, 64, .inl (rc_exp fk)))]) hP hD [4, 5, 6] [0, 1, 2, 3] rfl rfl (by decide) (by decide) hk hFc ht hB
  generalize H1 = H at hP hS ⊢
  have hP : va_P D vwCl [(h0, .inr (0, [.ref k0, .ref b0, .ref o0])), (k0, .inl (cb, 32, .inl fk)), (b0, .inl (cb, 8, .inl fb)), (o0, .inl (cb, 8, .inl fo)), (e0, .inr (1, [.ref a2, .int lk])), (a2, .inl (ci, 64, .inl (rc_exp fk)))] H := hP
  have hD : va_D A [(h0, .inr (0, [.ref k0, .ref b0, .ref o0])), (k0, .inl (cb, 32, .inl fk)), (b0, .inl (cb, 8, .inl fb)), (o0, .inl (cb, 8, .inl fo)), (e0, .inr (1, [.ref a2, .int lk])), (a2, .inl (ci, 64, .inl (rc_exp fk)))] := hD
  refine lv_aload hx hb dX1_run_65 (lv_at hl 0 rfl) ?_
  refine lv_aload_n hx hb dX1_run_67 rfl (lv_at hl 3 rfl) ?_
  refine va_get (D := D) (ci := 0) (v := .ref b0) (C := RX1) (T := TX1) (N := 3) hx hb hts in_X1 hown hK hP 0 rfl rfl 1 (by decide) (hts _ q255) (fun _ h9 => h9) rfl dX1_run_68 ?_
  refine lv_iconst (v := 0) hx hb dX1_run_71 (by decide) ?_
  refine lv_aload_n hx hb dX1_run_72 rfl (lv_at hl 3 rfl) ?_
  refine va_get (D := D) (ci := 0) (v := .ref o0) (C := RX1) (T := TX1) (N := 3) hx hb hts in_X1 hown hK hP 0 rfl rfl 2 (by decide) (hts _ q256) (fun _ h9 => h9) rfl dX1_run_73 ?_
  refine lv_iconst (v := 0) hx hb dX1_run_76 (by decide) ?_
  have hFc := va_free (wc := [(e0, .inr (1, [.ref a2, .int lk])), (a2, .inl (ci, 64, .inl (rc_exp fk))), (b0, .inl (cb, 8, .inl fb)), (o0, .inl (cb, 8, .inl fo))]) hD hS hA [4, 5, 2, 3] rfl
  refine va_callFi (va_runF (As := [.ref b0, .int 0, .ref o0, .int 0]) (rest := []) ((hK.1 1 _ rfl).2) ⟨hx, hb, hml, hown, hts⟩ (met_proc l D cb ci t H.size e0 a2 b0 o0 lk (rc_exp fk) fb fo) (va_cwF 4 hts (rc_F q164 q167 q169 q8 q171) rfl rfl rfl (hX.2.2.2.1) (by decide +kernel) ⟨Nat.le_of_ble_eq_true rfl, Nat.le_of_ble_eq_true rfl⟩) ⟨rc_Pre.blind, va_recv hK hP (ci := 1) (q0 := 4) rfl rfl, fun U hU hW => ⟨rfl, rc_Pre.pass hP hD hK hS hA hX [4, 5, 2, 3] rfl rfl (by decide) U hU hW⟩⟩ rfl rfl hl.1 rfl (lv_room (Nat.le_of_ble_eq_true rfl)) dX1_run_77 ⟨Nat.le_of_ble_eq_true rfl, Nat.le_of_ble_eq_true rfl⟩) hS (fun q _ h => hFc q h) hFc (fun r u t9 H1 locs ht hvm hw hB hz hk hS => ?_)
  obtain ⟨hP, hD⟩ := rc_join (wr := [(h0, .inr (0, [.ref k0, .ref b0, .ref o0])), (k0, .inl (cb, 32, .inl fk))]) (w1 := [(e0, .inr (1, [.ref a2, .int lk])), (a2, .inl (ci, 64, .inl (rc_exp fk))), (b0, .inl (cb, 8, .inl fb)), (o0, .inl (cb, 8, .inl (rc_cr lk (rc_exp fk) fb)))]) hP hD [4, 5, 2, 3] [0, 1] rfl rfl (by decide) (by decide) hk hFc ht hB
  generalize H1 = H at hP hS ⊢
  have hP : va_P D vwCl [(h0, .inr (0, [.ref k0, .ref b0, .ref o0])), (k0, .inl (cb, 32, .inl fk)), (e0, .inr (1, [.ref a2, .int lk])), (a2, .inl (ci, 64, .inl (rc_exp fk))), (b0, .inl (cb, 8, .inl fb)), (o0, .inl (cb, 8, .inl (rc_cr lk (rc_exp fk) fb)))] H := hP
  have hD : va_D A [(h0, .inr (0, [.ref k0, .ref b0, .ref o0])), (k0, .inl (cb, 32, .inl fk)), (e0, .inr (1, [.ref a2, .int lk])), (a2, .inl (ci, 64, .inl (rc_exp fk))), (b0, .inl (cb, 8, .inl fb)), (o0, .inl (cb, 8, .inl (rc_cr lk (rc_exp fk) fb)))] := hD
  refine lv_pop hx hb dX1_run_82 rfl ?_
  have hP9 := hP.sub (ws' := [(h0, .inr (0, [.ref k0, .ref b0, .ref o0])), (k0, .inl (cb, 32, .inl fk)), (b0, .inl (cb, 8, .inl fb)), (o0, .inl (cb, 8, .inl (rc_cr lk (rc_exp fk) fb)))]) [0, 1, 4, 5] rfl
  have hD9 := hD.sub (ws' := [(h0, .inr (0, [.ref k0, .ref b0, .ref o0])), (k0, .inl (cb, 32, .inl fk)), (b0, .inl (cb, 8, .inl fb)), (o0, .inl (cb, 8, .inl (rc_cr lk (rc_exp fk) fb)))]) [0, 1, 4, 5] (by decide) rfl
  refine W.widen (k := 6) (n := 227) (Nat.le_of_ble_eq_true rfl) (Nat.le_of_ble_eq_true rfl) ?_
  exact W.vret hx hb hr (fun t9 ht hW => ⟨⟨(), rfl, trivial, by rw [ht]; exact hP9, hD9⟩, hS.F ht⟩) hS.2.2 dX1_run_83
theorem rc_cr1 (K f : Nat → Int32) : rc_cr 1 K f = rc_enc K f := if_neg (by decide)
theorem rc_cr0 (K f : Nat → Int32) : rc_cr 0 K f = rc_dec K f := if_pos rfl
set_option maxHeartbeats 4000000 in
set_option maxRecDepth 100000 in
/-- lock(kind) -/
theorem met_lock (l : Launch) (D : va_G) (cb ci : ClassId) (t sz : Nat) (h0 k0 b0 o0 : Nat) (kd : Int32) (fk fb fo : Nat → Int32) (hfk : rc_bt fk) : Met l yX1_lock (ws_ yX1_lock cX1_lock 2 none) (rm_ 5 6 227) (va_Pc [.ref h0, .int kd] (rc_Pre D (rc_ty cb ci) t [(h0, .inr (0, [.ref k0, .ref b0, .ref o0])), (k0, .inl (cb, 32, .inl fk)), (b0, .inl (cb, 8, .inl fb)), (o0, .inl (cb, 8, .inl fo))] sz)) (va_Qv (S := Unit) (fun _ => True) (fun _ U => rc_B D (va_A [(h0, .inr (0, [.ref k0, .ref b0, .ref o0])), (k0, .inl (cb, 32, .inl fk)), (b0, .inl (cb, 8, .inl fb)), (o0, .inl (cb, 8, .inl fo))] sz) [(h0, .inr (0, [.ref k0, .ref b0, .ref o0])), (k0, .inl (cb, 32, .inl fk)), (b0, .inl (cb, 8, .inl fb)), (o0, .inl (cb, 8, .inl (rc_enc (rc_exp fk) fb)))] U) (va_A [(h0, .inr (0, [.ref k0, .ref b0, .ref o0])), (k0, .inl (cb, 32, .inl fk)), (b0, .inl (cb, 8, .inl fb)), (o0, .inl (cb, 8, .inl fo))] sz)) 6 227 (va_A [(h0, .inr (0, [.ref k0, .ref b0, .ref o0])), (k0, .inl (cb, 32, .inl fk)), (b0, .inl (cb, 8, .inl fb)), (o0, .inl (cb, 8, .inl fo))] sz) := by
  refine Met.ofW (cc := cX1_lock) (maxL := 2) (ret := none) (by decide) rfl ?_
  intro p e s m args below meth c s₁ B hml hv
  obtain ⟨rfl, hsz, hP, hK, hD0, hX⟩ := hv
  have hx := B.exec
  have hb := B.bytes
  have hr := B.returns
  have hts := atoms_spec (ws := ws_ yX1_lock cX1_lock 2 none) B.pre
  have hts : ∀ w ∈ lw_all, w.before _ s = true := fun w h => hts w (List.mem_cons_of_mem _ h)
  have hown : s.vm.findClass RX1 = some m.cls := findClass_of_methodNamed B.named
  have hlocks := B.notSynchronized
  subst hsz
  have hD := hD0.self (sz := s.heap.size)
  generalize hAe : va_A [(h0, .inr (0, [.ref k0, .ref b0, .ref o0])), (k0, .inl (cb, 32, .inl fk)), (b0, .inl (cb, 8, .inl fb)), (o0, .inl (cb, 8, .inl fo))] s.heap.size = A at hD hX ⊢
  have hA : ∀ q : Nat, s.heap.size ≤ q → A q := fun q h => by rw [← hAe]; exact Or.inr h
  have hS : va_S A s.heap s.heap [] := va_S.rf
  have hP : va_P D vwCl [(h0, .inr (0, [.ref k0, .ref b0, .ref o0])), (k0, .inl (cb, 32, .inl fk)), (b0, .inl (cb, 8, .inl fb)), (o0, .inl (cb, 8, .inl fo))] s.heap := hP
  have hl := lv_entry ([.ref h0, .int kd]) (n := 2) (Nat.le_of_ble_eq_true rfl)
  rw [lg_entry_eq]
  generalize (lg_sl ([.ref h0, .int kd]) ++ List.replicate (2 - (lg_sl ([.ref h0, .int kd])).length) Slot.unset).toArray = ls at hl ⊢
  have hl : lv_has ls 2 [(0, .ref h0), (1, .int kd)] := hl
  refine lv_aload_n hx hb dX1_lock_0 rfl (lv_at hl 0 rfl) ?_
  refine lv_iconst (v := 1) hx hb dX1_lock_1 (by decide) ?_
  refine lv_iload_n hx hb dX1_lock_2 rfl (lv_at hl 1 rfl) ?_
  have hFc := va_free (wc := [(h0, .inr (0, [.ref k0, .ref b0, .ref o0])), (k0, .inl (cb, 32, .inl fk)), (b0, .inl (cb, 8, .inl fb)), (o0, .inl (cb, 8, .inl fo))]) hD hS hA [0, 1, 2, 3] rfl
  refine va_callv (va_runV (As := [.int 1, .int kd]) (rest := []) ⟨hx, hb, hml, hown, hts⟩ (met_run l D cb ci t s.heap.size h0 k0 b0 o0 1 kd fk fb fo (by decide) hfk) (cwV 2 hts (lw_V q23 q25 qs0 q7 q27) rfl rfl rfl (by decide +kernel) ⟨Nat.le_of_ble_eq_true rfl, Nat.le_of_ble_eq_true rfl⟩) ⟨rc_Pre.blind, va_recv hK hP (ci := 0) (q0 := 0) rfl rfl, fun U hU hW => ⟨rfl, rc_Pre.pass hP hD hK hS hA hX [0, 1, 2, 3] rfl rfl (by decide) U hU hW⟩⟩ rfl rfl hl.1 rfl (lv_room (Nat.le_of_ble_eq_true rfl)) dX1_lock_3 ⟨Nat.le_of_ble_eq_true rfl, Nat.le_of_ble_eq_true rfl⟩) hS (fun q _ h => hFc q h) hFc (fun u t9 H1 locs ht hvm hw hB hz hk hS => ?_)
  obtain ⟨hP, hD⟩ := rc_join (wr := []) (w1 := [(h0, .inr (0, [.ref k0, .ref b0, .ref o0])), (k0, .inl (cb, 32, .inl fk)), (b0, .inl (cb, 8, .inl fb)), (o0, .inl (cb, 8, .inl (rc_cr 1 (rc_exp fk) fb)))]) hP hD [0, 1, 2, 3] [] rfl rfl (by decide) (by decide) hk hFc ht hB
  generalize H1 = H at hP hS ⊢
  have hP : va_P D vwCl [(h0, .inr (0, [.ref k0, .ref b0, .ref o0])), (k0, .inl (cb, 32, .inl fk)), (b0, .inl (cb, 8, .inl fb)), (o0, .inl (cb, 8, .inl (rc_cr 1 (rc_exp fk) fb)))] H := hP
  have hD : va_D A [(h0, .inr (0, [.ref k0, .ref b0, .ref o0])), (k0, .inl (cb, 32, .inl fk)), (b0, .inl (cb, 8, .inl fb)), (o0, .inl (cb, 8, .inl (rc_cr 1 (rc_exp fk) fb)))] := hD
  rw [rc_cr1] at hP hD
  have hP9 := hP.sub (ws' := [(h0, .inr (0, [.ref k0, .ref b0, .ref o0])), (k0, .inl (cb, 32, .inl fk)), (b0, .inl (cb, 8, .inl fb)), (o0, .inl (cb, 8, .inl (rc_enc (rc_exp fk) fb)))]) [0, 1, 2, 3] rfl
  have hD9 := hD.sub (ws' := [(h0, .inr (0, [.ref k0, .ref b0, .ref o0])), (k0, .inl (cb, 32, .inl fk)), (b0, .inl (cb, 8, .inl fb)), (o0, .inl (cb, 8, .inl (rc_enc (rc_exp fk) fb)))]) [0, 1, 2, 3] (by decide) rfl
  refine W.widen (k := 6) (n := 227) (Nat.le_of_ble_eq_true rfl) (Nat.le_of_ble_eq_true rfl) ?_
  exact W.vret hx hb hr (fun t9 ht hW => ⟨⟨(), rfl, trivial, by rw [ht]; exact hP9, hD9⟩, hS.F ht⟩) hS.2.2 dX1_lock_6
set_option maxHeartbeats 4000000 in
set_option maxRecDepth 100000 in
/-- open(kind) -/
theorem met_open (l : Launch) (D : va_G) (cb ci : ClassId) (t sz : Nat) (h0 k0 b0 o0 : Nat) (kd : Int32) (fk fb fo : Nat → Int32) (hfk : rc_bt fk) : Met l yX1_open (ws_ yX1_open cX1_open 2 none) (rm_ 5 6 227) (va_Pc [.ref h0, .int kd] (rc_Pre D (rc_ty cb ci) t [(h0, .inr (0, [.ref k0, .ref b0, .ref o0])), (k0, .inl (cb, 32, .inl fk)), (b0, .inl (cb, 8, .inl fb)), (o0, .inl (cb, 8, .inl fo))] sz)) (va_Qv (S := Unit) (fun _ => True) (fun _ U => rc_B D (va_A [(h0, .inr (0, [.ref k0, .ref b0, .ref o0])), (k0, .inl (cb, 32, .inl fk)), (b0, .inl (cb, 8, .inl fb)), (o0, .inl (cb, 8, .inl fo))] sz) [(h0, .inr (0, [.ref k0, .ref b0, .ref o0])), (k0, .inl (cb, 32, .inl fk)), (b0, .inl (cb, 8, .inl fb)), (o0, .inl (cb, 8, .inl (rc_dec (rc_exp fk) fb)))] U) (va_A [(h0, .inr (0, [.ref k0, .ref b0, .ref o0])), (k0, .inl (cb, 32, .inl fk)), (b0, .inl (cb, 8, .inl fb)), (o0, .inl (cb, 8, .inl fo))] sz)) 6 227 (va_A [(h0, .inr (0, [.ref k0, .ref b0, .ref o0])), (k0, .inl (cb, 32, .inl fk)), (b0, .inl (cb, 8, .inl fb)), (o0, .inl (cb, 8, .inl fo))] sz) := by
  refine Met.ofW (cc := cX1_open) (maxL := 2) (ret := none) (by decide) rfl ?_
  intro p e s m args below meth c s₁ B hml hv
  obtain ⟨rfl, hsz, hP, hK, hD0, hX⟩ := hv
  have hx := B.exec
  have hb := B.bytes
  have hr := B.returns
  have hts := atoms_spec (ws := ws_ yX1_open cX1_open 2 none) B.pre
  have hts : ∀ w ∈ lw_all, w.before _ s = true := fun w h => hts w (List.mem_cons_of_mem _ h)
  have hown : s.vm.findClass RX1 = some m.cls := findClass_of_methodNamed B.named
  have hlocks := B.notSynchronized
  subst hsz
  have hD := hD0.self (sz := s.heap.size)
  generalize hAe : va_A [(h0, .inr (0, [.ref k0, .ref b0, .ref o0])), (k0, .inl (cb, 32, .inl fk)), (b0, .inl (cb, 8, .inl fb)), (o0, .inl (cb, 8, .inl fo))] s.heap.size = A at hD hX ⊢
  have hA : ∀ q : Nat, s.heap.size ≤ q → A q := fun q h => by rw [← hAe]; exact Or.inr h
  have hS : va_S A s.heap s.heap [] := va_S.rf
  have hP : va_P D vwCl [(h0, .inr (0, [.ref k0, .ref b0, .ref o0])), (k0, .inl (cb, 32, .inl fk)), (b0, .inl (cb, 8, .inl fb)), (o0, .inl (cb, 8, .inl fo))] s.heap := hP
  have hl := lv_entry ([.ref h0, .int kd]) (n := 2) (Nat.le_of_ble_eq_true rfl)
  rw [lg_entry_eq]
  generalize (lg_sl ([.ref h0, .int kd]) ++ List.replicate (2 - (lg_sl ([.ref h0, .int kd])).length) Slot.unset).toArray = ls at hl ⊢
  have hl : lv_has ls 2 [(0, .ref h0), (1, .int kd)] := hl
  refine lv_aload_n hx hb dX1_open_0 rfl (lv_at hl 0 rfl) ?_
  refine lv_iconst (v := 0) hx hb dX1_open_1 (by decide) ?_
  refine lv_iload_n hx hb dX1_open_2 rfl (lv_at hl 1 rfl) ?_
  have hFc := va_free (wc := [(h0, .inr (0, [.ref k0, .ref b0, .ref o0])), (k0, .inl (cb, 32, .inl fk)), (b0, .inl (cb, 8, .inl fb)), (o0, .inl (cb, 8, .inl fo))]) hD hS hA [0, 1, 2, 3] rfl
  refine va_callv (va_runV (As := [.int 0, .int kd]) (rest := []) ⟨hx, hb, hml, hown, hts⟩ (met_run l D cb ci t s.heap.size h0 k0 b0 o0 0 kd fk fb fo (by decide) hfk) (cwV 2 hts (lw_V q23 q25 qs0 q7 q27) rfl rfl rfl (by decide +kernel) ⟨Nat.le_of_ble_eq_true rfl, Nat.le_of_ble_eq_true rfl⟩) ⟨rc_Pre.blind, va_recv hK hP (ci := 0) (q0 := 0) rfl rfl, fun U hU hW => ⟨rfl, rc_Pre.pass hP hD hK hS hA hX [0, 1, 2, 3] rfl rfl (by decide) U hU hW⟩⟩ rfl rfl hl.1 rfl (lv_room (Nat.le_of_ble_eq_true rfl)) dX1_open_3 ⟨Nat.le_of_ble_eq_true rfl, Nat.le_of_ble_eq_true rfl⟩) hS (fun q _ h => hFc q h) hFc (fun u t9 H1 locs ht hvm hw hB hz hk hS => ?_)
  obtain ⟨hP, hD⟩ := rc_join (wr := []) (w1 := [(h0, .inr (0, [.ref k0, .ref b0, .ref o0])), (k0, .inl (cb, 32, .inl fk)), (b0, .inl (cb, 8, .inl fb)), (o0, .inl (cb, 8, .inl (rc_cr 0 (rc_exp fk) fb)))]) hP hD [0, 1, 2, 3] [] rfl rfl (by decide) (by decide) hk hFc ht hB
  generalize H1 = H at hP hS ⊢
  have hP : va_P D vwCl [(h0, .inr (0, [.ref k0, .ref b0, .ref o0])), (k0, .inl (cb, 32, .inl fk)), (b0, .inl (cb, 8, .inl fb)), (o0, .inl (cb, 8, .inl (rc_cr 0 (rc_exp fk) fb)))] H := hP
  have hD : va_D A [(h0, .inr (0, [.ref k0, .ref b0, .ref o0])), (k0, .inl (cb, 32, .inl fk)), (b0, .inl (cb, 8, .inl fb)), (o0, .inl (cb, 8, .inl (rc_cr 0 (rc_exp fk) fb)))] := hD
  rw [rc_cr0] at hP hD
  have hP9 := hP.sub (ws' := [(h0, .inr (0, [.ref k0, .ref b0, .ref o0])), (k0, .inl (cb, 32, .inl fk)), (b0, .inl (cb, 8, .inl fb)), (o0, .inl (cb, 8, .inl (rc_dec (rc_exp fk) fb)))]) [0, 1, 2, 3] rfl
  have hD9 := hD.sub (ws' := [(h0, .inr (0, [.ref k0, .ref b0, .ref o0])), (k0, .inl (cb, 32, .inl fk)), (b0, .inl (cb, 8, .inl fb)), (o0, .inl (cb, 8, .inl (rc_dec (rc_exp fk) fb)))]) [0, 1, 2, 3] (by decide) rfl
  refine W.widen (k := 6) (n := 227) (Nat.le_of_ble_eq_true rfl) (Nat.le_of_ble_eq_true rfl) ?_
  exact W.vret hx hb hr (fun t9 ht hW => ⟨⟨(), rfl, trivial, by rw [ht]; exact hP9, hD9⟩, hS.F ht⟩) hS.2.2 dX1_open_6
end
section
/-! RcTwoDeskLaw: cell, with, same, known -/
def rc_cell (L : Nat) (xs : Nat → Int32) (k : Nat) : Int32 := if k < L then xs k else 0
/-- the script, seen from a method -/
def rc_PX (As : List Value) (b L : Nat) (xs : Nat → Int32) : Array Value → State → Prop := fun v U => v = As.toArray ∧ va_X b L xs U U.heap ∧ b < U.heap.size
theorem rc_PX.blind {As : List Value} {b L : Nat} {xs : Nat → Int32} : FrameBlind (rc_PX As b L xs) := fun a U g mk q => ⟨q.1, va_X.moved (u := U) (U := U.calling g mk a) (Vm.Alike.refl U.vm) q.2.1, q.2.2⟩
theorem rc_PX.pass {As : List Value} {b L : Nat} {xs : Nat → Int32} {s : State} {A : Nat → Prop} {H : Heap} {locs : List Loc} (hXs : va_X b L xs s s.heap) (hbl : b < s.heap.size) (hbA : ¬ A b) (hS : va_S A s.heap H locs) (U : State) (hU : U.heap = H) (hW : s.WarmedH U.vm) : rc_PX As b L xs As.toArray U := by
  refine ⟨rfl, ?_, ?_⟩
  · rw [hU]
    exact va_X.moved hW.alike (hXs.kept (hS.2.1 b hbl hbA))
  · rw [hU]
    exact Nat.lt_of_lt_of_le hbl hS.1
/-- a start with the script besides, at a cell that the world hasn't -/
def rc_PreX (D : va_G) (ty : List (ClassId × FieldType)) (t : Nat) (ws : va_W) (sz : Nat) (b L : Nat) (xs : Nat → Int32) (U : State) : Prop := rc_Pre D ty t ws sz U ∧ va_X b L xs U U.heap ∧ b < U.heap.size ∧ ∀ q ∈ ws, q.1 ≠ b
theorem rc_PreX.blind {As : List Value} {D : va_G} {ty : List (ClassId × FieldType)} {t : Nat} {ws : va_W} {sz b L : Nat} {xs : Nat → Int32} : FrameBlind (va_Pc As (rc_PreX D ty t ws sz b L xs)) := by
  intro a U g mk q
  obtain ⟨q0, q1, q2, q3, q4⟩ := q
  have h := rc_Pre.blind (As := As) (D := D) (ty := ty) (t := t) (ws := ws) (sz := sz) a U g mk ⟨q0, q1⟩
  exact ⟨h.1, h.2, va_X.moved (u := U) (U := U.calling g mk a) (Vm.Alike.refl U.vm) q2, q3, q4⟩
theorem rc_out {ws : va_W} {sz b : Nat} (h : b < sz) (hw : ∀ q ∈ ws, q.1 ≠ b) : ¬ va_A ws sz b := by
  intro z
  rcases z with ⟨k, e, h1⟩ | h1
  · exact hw _ (List.mem_of_getElem? h1) rfl
  · omega
set_option maxHeartbeats 4000000 in
set_option maxRecDepth 100000 in
/-- cell(s, k): the script's k-th int, or 0 -/
theorem met_cell (l : Launch) (b L k : Nat) (xs : Nat → Int32) (hL : L ≤ 10) (hk : k < 100) : Met l yX0_cell (ws_ yX0_cell cX0_cell 2 (some .int)) (rm_ 0 0 0) (rc_PX [.ref b, .int (nI k)] b L xs) (vp_Si (fun r => r = rc_cell L xs k)) 0 0 (fun _ => False) := by
  refine Met.ofW (cc := cX0_cell) (maxL := 2) (ret := (some .int)) (by decide) rfl ?_
  intro p e s m args below meth c s₁ B hml hv
  obtain ⟨rfl, hXs, hbl⟩ := hv
  have hx := B.exec
  have hb := B.bytes
  have hr := B.returns
  have hlocks := B.notSynchronized
  have hbA : ¬ (fun _ : Nat => False) b := fun h => h
  have hS : va_S (fun _ : Nat => False) s.heap s.heap [] := va_S.rf
  have hl := lv_entry ([.ref b, .int (nI k)]) (n := 2) (Nat.le_of_ble_eq_true rfl)
  rw [lg_entry_eq]
  generalize (lg_sl ([.ref b, .int (nI k)]) ++ List.replicate (2 - (lg_sl ([.ref b, .int (nI k)])).length) Slot.unset).toArray = ls at hl ⊢
  have hl : lv_has ls 2 [(0, .ref b), (1, .int (nI k))] := hl
  refine lv_iload_n hx hb dX0_cell_0 rfl (lv_at hl 1 rfl) ?_
  refine lv_aload_n hx hb dX0_cell_1 rfl (lv_at hl 0 rfl) ?_
  refine va_slen hx hb hXs hbl hbA hS dX0_cell_2 ?_
  refine lv_icmp_ge (tgt := 12) hx hb dX0_cell_3 (by decide) (fun c1 => ?_) (fun c1 => ?_)
  · have h1 : L ≤ k := (nI_leI (a := L) (b := k) (by omega) (by omega)).mp c1
    have e1 : rc_cell L xs k = 0 := if_neg (by omega)
    refine lv_iconst (v := 0) hx hb dX0_cell_12 (by decide) ?_
    exact W.iret (v := 0) hx hb hr (fun t9 ht hW => ⟨_, rfl, e1.symm, ht⟩) (fun _ h => by cases h) dX0_cell_13
  · have h1 : k < L := Nat.not_le.mp fun h => c1 ((nI_leI (a := L) (b := k) (by omega) (by omega)).mpr h)
    have e1 : rc_cell L xs k = xs (nI k).toNatClampNeg := by
      rw [nI_clamp (by omega)]
      exact if_pos h1
    refine lv_aload_n hx hb dX0_cell_6 rfl (lv_at hl 0 rfl) ?_
    refine lv_iload_n hx hb dX0_cell_7 rfl (lv_at hl 1 rfl) ?_
    refine va_sld hx hb hXs hbl hbA hS (vp_in_nI h1 (by omega)) dX0_cell_8 ?_
    refine lv_goto (tgt := 13) hx hb dX0_cell_9 (by decide) ?_
    exact W.iret (v := xs (nI k).toNatClampNeg) hx hb hr (fun t9 ht hW => ⟨_, rfl, e1.symm, ht⟩) (fun _ h => by cases h) dX0_cell_13
set_option maxHeartbeats 4000000 in
set_option maxRecDepth 100000 in
/-- with(s): a desk with the script's key and block -/
theorem met_with (l : Launch) (D : va_G) (cb ci : ClassId) (t sz : Nat) (b L : Nat) (xs : Nat → Int32) (hL : L ≤ 10) : Met l yX0_with (ws_ yX0_with cX0_with 2 (some (.object "RcTwoDesk"))) (rm_ 2 4 51) (va_Pc [.ref b] (rc_PreX D (rc_ty cb ci) t [] sz b L xs)) (va_Qr (S := Nat × Nat × Nat) (fun _ => True) (fun u a U => rc_B D (va_A [] sz) [(a, .inr (0, [.ref u.1, .ref u.2.1, .ref u.2.2])), (u.1, .inl (cb, 32, .inl (rc_key (rc_key (fun _ => 0) 0 (rc_cell L xs 0) (rc_cell L xs 1) (rc_cell L xs 2) (rc_cell L xs 3)) 16 (rc_cell L xs 4) (rc_cell L xs 5) (rc_cell L xs 6) (rc_cell L xs 7)))), (u.2.1, .inl (cb, 8, .inl (rc_blk (fun _ => 0) (rc_cell L xs 8) (rc_cell L xs 9)))), (u.2.2, .inl (cb, 8, .inl (fun _ => 0)))] U) (va_A [] sz)) 4 51 (va_A [] sz) := by
  refine Met.ofW (cc := cX0_with) (maxL := 2) (ret := (some (.object "RcTwoDesk"))) (by decide) rfl ?_
  intro p e s m args below meth c s₁ B hml hv
  obtain ⟨rfl, ⟨hsz, hP, hK, hD0, hX⟩, hXs, hbl, hbw⟩ := hv
  have hx := B.exec
  have hb := B.bytes
  have hr := B.returns
  have hts := atoms_spec (ws := ws_ yX0_with cX0_with 2 (some (.object "RcTwoDesk"))) B.pre
  have hts : ∀ w ∈ lw_all, w.before _ s = true := fun w h => hts w (List.mem_cons_of_mem _ h)
  have hown : s.vm.findClass RX0 = some m.cls := findClass_of_methodNamed B.named
  have hlocks := B.notSynchronized
  subst hsz
  have hD := hD0.self (sz := s.heap.size)
  have hbA0 : ¬ va_A [] s.heap.size b := rc_out hbl hbw
  generalize hAe : va_A [] s.heap.size = A at hD hX hbA0 ⊢
  have hA : ∀ q : Nat, s.heap.size ≤ q → A q := fun q h => by rw [← hAe]; exact Or.inr h
  have hS : va_S A s.heap s.heap [] := va_S.rf
  have hP : va_P D vwCl [] s.heap := hP
  have hl := lv_entry ([.ref b]) (n := 2) (Nat.le_of_ble_eq_true rfl)
  rw [lg_entry_eq]
  generalize (lg_sl ([.ref b]) ++ List.replicate (2 - (lg_sl ([.ref b])).length) Slot.unset).toArray = ls at hl ⊢
  have hl : lv_has ls 2 [(0, .ref b)] := hl
  have hbA : ¬ A b := hbA0
  refine va_new (ci := 0) (fs := [.null, .null, .null]) (C := RX1) (T := TX1) (N := 3) hx hb hts in_X1 tyX1 tyX1_ok hown (hts _ q249) (hts _ q26) (hts _ q7) hK hP hD hS hA rfl (fun j hj => by rcases (show j = 0 ∨ j = 1 ∨ j = 2 by omega) with rfl | rfl | rfl <;> rfl) (Nat.le_of_ble_eq_true rfl) (Nat.le_of_ble_eq_true rfl) dX0_with_0 (fun h0 H hP hD hS => ?_)
  have hP : va_P D vwCl [(h0, .inr (0, [.null, .null, .null]))] H := hP
  have hD : va_D A [(h0, .inr (0, [.null, .null, .null]))] := hD
  refine lv_dup hx hb dX0_with_3 rfl ?_
  have hFc := va_free (wc := [(h0, .inr (0, [.null, .null, .null]))]) hD hS hA [0] rfl
  refine va_callv (va_runI (As := []) (rest := [.ref h0]) ⟨hx, hb, hml, hown, hts⟩ (met_desk l D cb ci t H.size h0) (cwI 0 hts (lw_meth q252) rfl rfl rfl (hts _ q7) (hts _ q250) (hts _ q251) rfl (by decide +kernel) ⟨Nat.le_of_ble_eq_true rfl, Nat.le_of_ble_eq_true rfl⟩) ⟨rc_Pre.blind, fun U hU hW => ⟨rfl, rc_Pre.pass hP hD hK hS hA hX [0] rfl rfl (by decide) U hU hW⟩⟩ rfl rfl hl.1 rfl (lv_room (Nat.le_of_ble_eq_true rfl)) dX0_with_4 ⟨Nat.le_of_ble_eq_true rfl, Nat.le_of_ble_eq_true rfl⟩) hS (fun q _ h => hFc q h) hFc (fun u t9 H1 locs ht hvm hw hB hz hk hS => ?_)
  obtain ⟨k0, b0, o0⟩ := u
  obtain ⟨hP, hD⟩ := rc_join (wr := []) (w1 := [(h0, .inr (0, [.ref k0, .ref b0, .ref o0])), (k0, .inl (cb, 32, .inl (fun _ => 0))), (b0, .inl (cb, 8, .inl (fun _ => 0))), (o0, .inl (cb, 8, .inl (fun _ => 0)))]) hP hD [0] [] rfl rfl (by decide) (by decide) hk hFc ht hB
  generalize H1 = H at hP hS ⊢
  have hP : va_P D vwCl [(h0, .inr (0, [.ref k0, .ref b0, .ref o0])), (k0, .inl (cb, 32, .inl (fun _ => 0))), (b0, .inl (cb, 8, .inl (fun _ => 0))), (o0, .inl (cb, 8, .inl (fun _ => 0)))] H := hP
  have hD : va_D A [(h0, .inr (0, [.ref k0, .ref b0, .ref o0])), (k0, .inl (cb, 32, .inl (fun _ => 0))), (b0, .inl (cb, 8, .inl (fun _ => 0))), (o0, .inl (cb, 8, .inl (fun _ => 0)))] := hD
  refine lv_astore_n (lv' := [(1, .ref h0), (0, .ref b)]) hx hb dX0_with_7 rfl hl (by decide) rfl (fun ls hl => ?_)
  refine lv_aload_n hx hb dX0_with_8 rfl (lv_at hl 0 rfl) ?_
  refine lv_iconst (v := 0) hx hb dX0_with_9 (by decide) ?_
  refine lv_aload_n hx hb dX0_with_10 rfl (lv_at hl 1 rfl) ?_
  refine lv_iconst (v := 0) hx hb dX0_with_11 (by decide) ?_
  refine rc_top (nI 0) (by decide) ?_
  refine vp_callSi (W.runS (As := [.ref b, .int (nI 0)]) (rest := [.int 0, .ref h0]) ⟨hx, hb, hml, hown, hts⟩ (met_cell l b L 0 xs hL (by omega)) (va_cwS 2 hts (lw_S q264 q265 q6 q266) rfl rfl rfl (by decide +kernel) ⟨Nat.le_of_ble_eq_true rfl, Nat.le_of_ble_eq_true rfl⟩) ⟨rc_PX.blind, rc_PX.pass hXs hbl hbA hS⟩ rfl rfl hl.1 rfl (lv_room (Nat.le_of_ble_eq_true rfl)) dX0_with_12 ⟨Nat.le_of_ble_eq_true rfl, Nat.le_of_ble_eq_true rfl⟩) (fun r hr => ?_)
  obtain rfl : r = rc_cell L xs 0 := hr
  refine lv_aload_n hx hb dX0_with_15 rfl (lv_at hl 1 rfl) ?_
  refine lv_iconst (v := 1) hx hb dX0_with_16 (by decide) ?_
  refine rc_top (nI 1) (by decide) ?_
  refine vp_callSi (W.runS (As := [.ref b, .int (nI 1)]) (rest := [.int (rc_cell L xs 0), .int 0, .ref h0]) ⟨hx, hb, hml, hown, hts⟩ (met_cell l b L 1 xs hL (by omega)) (va_cwS 2 hts (lw_S q264 q265 q6 q266) rfl rfl rfl (by decide +kernel) ⟨Nat.le_of_ble_eq_true rfl, Nat.le_of_ble_eq_true rfl⟩) ⟨rc_PX.blind, rc_PX.pass hXs hbl hbA hS⟩ rfl rfl hl.1 rfl (lv_room (Nat.le_of_ble_eq_true rfl)) dX0_with_17 ⟨Nat.le_of_ble_eq_true rfl, Nat.le_of_ble_eq_true rfl⟩) (fun r hr => ?_)
  obtain rfl : r = rc_cell L xs 1 := hr
  refine lv_aload_n hx hb dX0_with_20 rfl (lv_at hl 1 rfl) ?_
  refine lv_iconst (v := 2) hx hb dX0_with_21 (by decide) ?_
  refine rc_top (nI 2) (by decide) ?_
  refine vp_callSi (W.runS (As := [.ref b, .int (nI 2)]) (rest := [.int (rc_cell L xs 1), .int (rc_cell L xs 0), .int 0, .ref h0]) ⟨hx, hb, hml, hown, hts⟩ (met_cell l b L 2 xs hL (by omega)) (va_cwS 2 hts (lw_S q264 q265 q6 q266) rfl rfl rfl (by decide +kernel) ⟨Nat.le_of_ble_eq_true rfl, Nat.le_of_ble_eq_true rfl⟩) ⟨rc_PX.blind, rc_PX.pass hXs hbl hbA hS⟩ rfl rfl hl.1 rfl (lv_room (Nat.le_of_ble_eq_true rfl)) dX0_with_22 ⟨Nat.le_of_ble_eq_true rfl, Nat.le_of_ble_eq_true rfl⟩) (fun r hr => ?_)
  obtain rfl : r = rc_cell L xs 2 := hr
  refine lv_aload_n hx hb dX0_with_25 rfl (lv_at hl 1 rfl) ?_
  refine lv_iconst (v := 3) hx hb dX0_with_26 (by decide) ?_
  refine rc_top (nI 3) (by decide) ?_
  refine vp_callSi (W.runS (As := [.ref b, .int (nI 3)]) (rest := [.int (rc_cell L xs 2), .int (rc_cell L xs 1), .int (rc_cell L xs 0), .int 0, .ref h0]) ⟨hx, hb, hml, hown, hts⟩ (met_cell l b L 3 xs hL (by omega)) (va_cwS 2 hts (lw_S q264 q265 q6 q266) rfl rfl rfl (by decide +kernel) ⟨Nat.le_of_ble_eq_true rfl, Nat.le_of_ble_eq_true rfl⟩) ⟨rc_PX.blind, rc_PX.pass hXs hbl hbA hS⟩ rfl rfl hl.1 rfl (lv_room (Nat.le_of_ble_eq_true rfl)) dX0_with_27 ⟨Nat.le_of_ble_eq_true rfl, Nat.le_of_ble_eq_true rfl⟩) (fun r hr => ?_)
  obtain rfl : r = rc_cell L xs 3 := hr
  have hFc := va_free (wc := [(h0, .inr (0, [.ref k0, .ref b0, .ref o0])), (k0, .inl (cb, 32, .inl (fun _ => 0)))]) hD hS hA [0, 1] rfl
  refine va_callv (va_runV (As := [.int 0, .int (rc_cell L xs 0), .int (rc_cell L xs 1), .int (rc_cell L xs 2), .int (rc_cell L xs 3)]) (rest := []) ⟨hx, hb, hml, hown, hts⟩ (met_key l D cb ci t H.size h0 k0 b0 o0 0 0 (rc_cell L xs 0) (rc_cell L xs 1) (rc_cell L xs 2) (rc_cell L xs 3) (fun _ => 0) (by decide) (by decide)) (cwV 5 hts (lw_V q267 q268 q269 q7 q270) rfl rfl rfl (by decide +kernel) ⟨Nat.le_of_ble_eq_true rfl, Nat.le_of_ble_eq_true rfl⟩) ⟨rc_Pre.blind, va_recv hK hP (ci := 0) (q0 := 0) rfl rfl, fun U hU hW => ⟨rfl, rc_Pre.pass hP hD hK hS hA hX [0, 1] rfl rfl (by decide) U hU hW⟩⟩ rfl rfl hl.1 rfl (lv_room (Nat.le_of_ble_eq_true rfl)) dX0_with_30 ⟨Nat.le_of_ble_eq_true rfl, Nat.le_of_ble_eq_true rfl⟩) hS (fun q _ h => hFc q h) hFc (fun u t9 H1 locs ht hvm hw hB hz hk hS => ?_)
  obtain ⟨hP, hD⟩ := rc_join (wr := [(b0, .inl (cb, 8, .inl (fun _ => 0))), (o0, .inl (cb, 8, .inl (fun _ => 0)))]) (w1 := [(h0, .inr (0, [.ref k0, .ref b0, .ref o0])), (k0, .inl (cb, 32, .inl (rc_key (fun _ => 0) 0 (rc_cell L xs 0) (rc_cell L xs 1) (rc_cell L xs 2) (rc_cell L xs 3))))]) hP hD [0, 1] [2, 3] rfl rfl (by decide) (by decide) hk hFc ht hB
  generalize H1 = H at hP hS ⊢
  have hP : va_P D vwCl [(b0, .inl (cb, 8, .inl (fun _ => 0))), (o0, .inl (cb, 8, .inl (fun _ => 0))), (h0, .inr (0, [.ref k0, .ref b0, .ref o0])), (k0, .inl (cb, 32, .inl (rc_key (fun _ => 0) 0 (rc_cell L xs 0) (rc_cell L xs 1) (rc_cell L xs 2) (rc_cell L xs 3))))] H := hP
  have hD : va_D A [(b0, .inl (cb, 8, .inl (fun _ => 0))), (o0, .inl (cb, 8, .inl (fun _ => 0))), (h0, .inr (0, [.ref k0, .ref b0, .ref o0])), (k0, .inl (cb, 32, .inl (rc_key (fun _ => 0) 0 (rc_cell L xs 0) (rc_cell L xs 1) (rc_cell L xs 2) (rc_cell L xs 3))))] := hD
  refine lv_aload_n hx hb dX0_with_33 rfl (lv_at hl 0 rfl) ?_
  refine lv_iconst (v := 1) hx hb dX0_with_34 (by decide) ?_
  refine lv_aload_n hx hb dX0_with_35 rfl (lv_at hl 1 rfl) ?_
  refine lv_iconst (v := 4) hx hb dX0_with_36 (by decide) ?_
  refine rc_top (nI 4) (by decide) ?_
  refine vp_callSi (W.runS (As := [.ref b, .int (nI 4)]) (rest := [.int 1, .ref h0]) ⟨hx, hb, hml, hown, hts⟩ (met_cell l b L 4 xs hL (by omega)) (va_cwS 2 hts (lw_S q264 q265 q6 q266) rfl rfl rfl (by decide +kernel) ⟨Nat.le_of_ble_eq_true rfl, Nat.le_of_ble_eq_true rfl⟩) ⟨rc_PX.blind, rc_PX.pass hXs hbl hbA hS⟩ rfl rfl hl.1 rfl (lv_room (Nat.le_of_ble_eq_true rfl)) dX0_with_37 ⟨Nat.le_of_ble_eq_true rfl, Nat.le_of_ble_eq_true rfl⟩) (fun r hr => ?_)
  obtain rfl : r = rc_cell L xs 4 := hr
  refine lv_aload_n hx hb dX0_with_40 rfl (lv_at hl 1 rfl) ?_
  refine lv_iconst (v := 5) hx hb dX0_with_41 (by decide) ?_
  refine rc_top (nI 5) (by decide) ?_
  refine vp_callSi (W.runS (As := [.ref b, .int (nI 5)]) (rest := [.int (rc_cell L xs 4), .int 1, .ref h0]) ⟨hx, hb, hml, hown, hts⟩ (met_cell l b L 5 xs hL (by omega)) (va_cwS 2 hts (lw_S q264 q265 q6 q266) rfl rfl rfl (by decide +kernel) ⟨Nat.le_of_ble_eq_true rfl, Nat.le_of_ble_eq_true rfl⟩) ⟨rc_PX.blind, rc_PX.pass hXs hbl hbA hS⟩ rfl rfl hl.1 rfl (lv_room (Nat.le_of_ble_eq_true rfl)) dX0_with_42 ⟨Nat.le_of_ble_eq_true rfl, Nat.le_of_ble_eq_true rfl⟩) (fun r hr => ?_)
  obtain rfl : r = rc_cell L xs 5 := hr
  refine lv_aload_n hx hb dX0_with_45 rfl (lv_at hl 1 rfl) ?_
  refine lv_bipush (v := 6) hx hb dX0_with_46 (by decide) ?_
  refine rc_top (nI 6) (by decide) ?_
  refine vp_callSi (W.runS (As := [.ref b, .int (nI 6)]) (rest := [.int (rc_cell L xs 5), .int (rc_cell L xs 4), .int 1, .ref h0]) ⟨hx, hb, hml, hown, hts⟩ (met_cell l b L 6 xs hL (by omega)) (va_cwS 2 hts (lw_S q264 q265 q6 q266) rfl rfl rfl (by decide +kernel) ⟨Nat.le_of_ble_eq_true rfl, Nat.le_of_ble_eq_true rfl⟩) ⟨rc_PX.blind, rc_PX.pass hXs hbl hbA hS⟩ rfl rfl hl.1 rfl (lv_room (Nat.le_of_ble_eq_true rfl)) dX0_with_48 ⟨Nat.le_of_ble_eq_true rfl, Nat.le_of_ble_eq_true rfl⟩) (fun r hr => ?_)
  obtain rfl : r = rc_cell L xs 6 := hr
  refine lv_aload_n hx hb dX0_with_51 rfl (lv_at hl 1 rfl) ?_
  refine lv_bipush (v := 7) hx hb dX0_with_52 (by decide) ?_
  refine rc_top (nI 7) (by decide) ?_
  refine vp_callSi (W.runS (As := [.ref b, .int (nI 7)]) (rest := [.int (rc_cell L xs 6), .int (rc_cell L xs 5), .int (rc_cell L xs 4), .int 1, .ref h0]) ⟨hx, hb, hml, hown, hts⟩ (met_cell l b L 7 xs hL (by omega)) (va_cwS 2 hts (lw_S q264 q265 q6 q266) rfl rfl rfl (by decide +kernel) ⟨Nat.le_of_ble_eq_true rfl, Nat.le_of_ble_eq_true rfl⟩) ⟨rc_PX.blind, rc_PX.pass hXs hbl hbA hS⟩ rfl rfl hl.1 rfl (lv_room (Nat.le_of_ble_eq_true rfl)) dX0_with_54 ⟨Nat.le_of_ble_eq_true rfl, Nat.le_of_ble_eq_true rfl⟩) (fun r hr => ?_)
  obtain rfl : r = rc_cell L xs 7 := hr
  have hFc := va_free (wc := [(h0, .inr (0, [.ref k0, .ref b0, .ref o0])), (k0, .inl (cb, 32, .inl (rc_key (fun _ => 0) 0 (rc_cell L xs 0) (rc_cell L xs 1) (rc_cell L xs 2) (rc_cell L xs 3))))]) hD hS hA [2, 3] rfl
  refine va_callv (va_runV (As := [.int 1, .int (rc_cell L xs 4), .int (rc_cell L xs 5), .int (rc_cell L xs 6), .int (rc_cell L xs 7)]) (rest := []) ⟨hx, hb, hml, hown, hts⟩ (met_key l D cb ci t H.size h0 k0 b0 o0 16 1 (rc_cell L xs 4) (rc_cell L xs 5) (rc_cell L xs 6) (rc_cell L xs 7) (rc_key (fun _ => 0) 0 (rc_cell L xs 0) (rc_cell L xs 1) (rc_cell L xs 2) (rc_cell L xs 3)) (by decide) (by decide)) (cwV 5 hts (lw_V q267 q268 q269 q7 q270) rfl rfl rfl (by decide +kernel) ⟨Nat.le_of_ble_eq_true rfl, Nat.le_of_ble_eq_true rfl⟩) ⟨rc_Pre.blind, va_recv hK hP (ci := 0) (q0 := 2) rfl rfl, fun U hU hW => ⟨rfl, rc_Pre.pass hP hD hK hS hA hX [2, 3] rfl rfl (by decide) U hU hW⟩⟩ rfl rfl hl.1 rfl (lv_room (Nat.le_of_ble_eq_true rfl)) dX0_with_57 ⟨Nat.le_of_ble_eq_true rfl, Nat.le_of_ble_eq_true rfl⟩) hS (fun q _ h => hFc q h) hFc (fun u t9 H1 locs ht hvm hw hB hz hk hS => ?_)
  obtain ⟨hP, hD⟩ := rc_join (wr := [(b0, .inl (cb, 8, .inl (fun _ => 0))), (o0, .inl (cb, 8, .inl (fun _ => 0)))]) (w1 := [(h0, .inr (0, [.ref k0, .ref b0, .ref o0])), (k0, .inl (cb, 32, .inl (rc_key (rc_key (fun _ => 0) 0 (rc_cell L xs 0) (rc_cell L xs 1) (rc_cell L xs 2) (rc_cell L xs 3)) 16 (rc_cell L xs 4) (rc_cell L xs 5) (rc_cell L xs 6) (rc_cell L xs 7))))]) hP hD [2, 3] [0, 1] rfl rfl (by decide) (by decide) hk hFc ht hB
  generalize H1 = H at hP hS ⊢
  have hP : va_P D vwCl [(b0, .inl (cb, 8, .inl (fun _ => 0))), (o0, .inl (cb, 8, .inl (fun _ => 0))), (h0, .inr (0, [.ref k0, .ref b0, .ref o0])), (k0, .inl (cb, 32, .inl (rc_key (rc_key (fun _ => 0) 0 (rc_cell L xs 0) (rc_cell L xs 1) (rc_cell L xs 2) (rc_cell L xs 3)) 16 (rc_cell L xs 4) (rc_cell L xs 5) (rc_cell L xs 6) (rc_cell L xs 7))))] H := hP
  have hD : va_D A [(b0, .inl (cb, 8, .inl (fun _ => 0))), (o0, .inl (cb, 8, .inl (fun _ => 0))), (h0, .inr (0, [.ref k0, .ref b0, .ref o0])), (k0, .inl (cb, 32, .inl (rc_key (rc_key (fun _ => 0) 0 (rc_cell L xs 0) (rc_cell L xs 1) (rc_cell L xs 2) (rc_cell L xs 3)) 16 (rc_cell L xs 4) (rc_cell L xs 5) (rc_cell L xs 6) (rc_cell L xs 7))))] := hD
  refine lv_aload_n hx hb dX0_with_60 rfl (lv_at hl 0 rfl) ?_
  refine lv_aload_n hx hb dX0_with_61 rfl (lv_at hl 1 rfl) ?_
  refine lv_bipush (v := 8) hx hb dX0_with_62 (by decide) ?_
  refine rc_top (nI 8) (by decide) ?_
  refine vp_callSi (W.runS (As := [.ref b, .int (nI 8)]) (rest := [.ref h0]) ⟨hx, hb, hml, hown, hts⟩ (met_cell l b L 8 xs hL (by omega)) (va_cwS 2 hts (lw_S q264 q265 q6 q266) rfl rfl rfl (by decide +kernel) ⟨Nat.le_of_ble_eq_true rfl, Nat.le_of_ble_eq_true rfl⟩) ⟨rc_PX.blind, rc_PX.pass hXs hbl hbA hS⟩ rfl rfl hl.1 rfl (lv_room (Nat.le_of_ble_eq_true rfl)) dX0_with_64 ⟨Nat.le_of_ble_eq_true rfl, Nat.le_of_ble_eq_true rfl⟩) (fun r hr => ?_)
  obtain rfl : r = rc_cell L xs 8 := hr
  refine lv_aload_n hx hb dX0_with_67 rfl (lv_at hl 1 rfl) ?_
  refine lv_bipush (v := 9) hx hb dX0_with_68 (by decide) ?_
  refine rc_top (nI 9) (by decide) ?_
  refine vp_callSi (W.runS (As := [.ref b, .int (nI 9)]) (rest := [.int (rc_cell L xs 8), .ref h0]) ⟨hx, hb, hml, hown, hts⟩ (met_cell l b L 9 xs hL (by omega)) (va_cwS 2 hts (lw_S q264 q265 q6 q266) rfl rfl rfl (by decide +kernel) ⟨Nat.le_of_ble_eq_true rfl, Nat.le_of_ble_eq_true rfl⟩) ⟨rc_PX.blind, rc_PX.pass hXs hbl hbA hS⟩ rfl rfl hl.1 rfl (lv_room (Nat.le_of_ble_eq_true rfl)) dX0_with_70 ⟨Nat.le_of_ble_eq_true rfl, Nat.le_of_ble_eq_true rfl⟩) (fun r hr => ?_)
  obtain rfl : r = rc_cell L xs 9 := hr
  have hFc := va_free (wc := [(h0, .inr (0, [.ref k0, .ref b0, .ref o0])), (b0, .inl (cb, 8, .inl (fun _ => 0)))]) hD hS hA [2, 0] rfl
  refine va_callv (va_runV (As := [.int (rc_cell L xs 8), .int (rc_cell L xs 9)]) (rest := []) ⟨hx, hb, hml, hown, hts⟩ (met_block l D cb ci t H.size h0 k0 b0 o0 (rc_cell L xs 8) (rc_cell L xs 9) (fun _ => 0)) (cwV 2 hts (lw_V q274 q275 q276 q7 q277) rfl rfl rfl (by decide +kernel) ⟨Nat.le_of_ble_eq_true rfl, Nat.le_of_ble_eq_true rfl⟩) ⟨rc_Pre.blind, va_recv hK hP (ci := 0) (q0 := 2) rfl rfl, fun U hU hW => ⟨rfl, rc_Pre.pass hP hD hK hS hA hX [2, 0] rfl rfl (by decide) U hU hW⟩⟩ rfl rfl hl.1 rfl (lv_room (Nat.le_of_ble_eq_true rfl)) dX0_with_73 ⟨Nat.le_of_ble_eq_true rfl, Nat.le_of_ble_eq_true rfl⟩) hS (fun q _ h => hFc q h) hFc (fun u t9 H1 locs ht hvm hw hB hz hk hS => ?_)
  obtain ⟨hP, hD⟩ := rc_join (wr := [(o0, .inl (cb, 8, .inl (fun _ => 0))), (k0, .inl (cb, 32, .inl (rc_key (rc_key (fun _ => 0) 0 (rc_cell L xs 0) (rc_cell L xs 1) (rc_cell L xs 2) (rc_cell L xs 3)) 16 (rc_cell L xs 4) (rc_cell L xs 5) (rc_cell L xs 6) (rc_cell L xs 7))))]) (w1 := [(h0, .inr (0, [.ref k0, .ref b0, .ref o0])), (b0, .inl (cb, 8, .inl (rc_blk (fun _ => 0) (rc_cell L xs 8) (rc_cell L xs 9))))]) hP hD [2, 0] [1, 3] rfl rfl (by decide) (by decide) hk hFc ht hB
  generalize H1 = H at hP hS ⊢
  have hP : va_P D vwCl [(o0, .inl (cb, 8, .inl (fun _ => 0))), (k0, .inl (cb, 32, .inl (rc_key (rc_key (fun _ => 0) 0 (rc_cell L xs 0) (rc_cell L xs 1) (rc_cell L xs 2) (rc_cell L xs 3)) 16 (rc_cell L xs 4) (rc_cell L xs 5) (rc_cell L xs 6) (rc_cell L xs 7)))), (h0, .inr (0, [.ref k0, .ref b0, .ref o0])), (b0, .inl (cb, 8, .inl (rc_blk (fun _ => 0) (rc_cell L xs 8) (rc_cell L xs 9))))] H := hP
  have hD : va_D A [(o0, .inl (cb, 8, .inl (fun _ => 0))), (k0, .inl (cb, 32, .inl (rc_key (rc_key (fun _ => 0) 0 (rc_cell L xs 0) (rc_cell L xs 1) (rc_cell L xs 2) (rc_cell L xs 3)) 16 (rc_cell L xs 4) (rc_cell L xs 5) (rc_cell L xs 6) (rc_cell L xs 7)))), (h0, .inr (0, [.ref k0, .ref b0, .ref o0])), (b0, .inl (cb, 8, .inl (rc_blk (fun _ => 0) (rc_cell L xs 8) (rc_cell L xs 9))))] := hD
  refine lv_aload_n hx hb dX0_with_76 rfl (lv_at hl 0 rfl) ?_
  have hP9 := hP.sub (ws' := [(h0, .inr (0, [.ref k0, .ref b0, .ref o0])), (k0, .inl (cb, 32, .inl (rc_key (rc_key (fun _ => 0) 0 (rc_cell L xs 0) (rc_cell L xs 1) (rc_cell L xs 2) (rc_cell L xs 3)) 16 (rc_cell L xs 4) (rc_cell L xs 5) (rc_cell L xs 6) (rc_cell L xs 7)))), (b0, .inl (cb, 8, .inl (rc_blk (fun _ => 0) (rc_cell L xs 8) (rc_cell L xs 9)))), (o0, .inl (cb, 8, .inl (fun _ => 0)))]) [2, 1, 3, 0] rfl
  have hD9 := hD.sub (ws' := [(h0, .inr (0, [.ref k0, .ref b0, .ref o0])), (k0, .inl (cb, 32, .inl (rc_key (rc_key (fun _ => 0) 0 (rc_cell L xs 0) (rc_cell L xs 1) (rc_cell L xs 2) (rc_cell L xs 3)) 16 (rc_cell L xs 4) (rc_cell L xs 5) (rc_cell L xs 6) (rc_cell L xs 7)))), (b0, .inl (cb, 8, .inl (rc_blk (fun _ => 0) (rc_cell L xs 8) (rc_cell L xs 9)))), (o0, .inl (cb, 8, .inl (fun _ => 0)))]) [2, 1, 3, 0] (by decide) rfl
  refine W.widen (k := 4) (n := 51) (Nat.le_of_ble_eq_true rfl) (Nat.le_of_ble_eq_true rfl) ?_
  exact W.aret (v := .ref h0) hx hb hr (Or.inl ⟨_, rfl⟩) (Or.inr ⟨_, rfl⟩) (fun t9 ht hW => ⟨⟨(k0, b0, o0), h0, rfl, trivial, by rw [ht]; exact hP9, hD9⟩, hS.F ht⟩) hS.2.2 dX0_with_77
theorem rc_d4 (i : Nat) (h : i < 8) : 8 + nI i / 4 = nI (8 + i / 4) := by
  rw [show nI i / 4 = nI (i / 4) from pk_div (a := i) (d := 4) (by omega) (by decide) (by decide)]
  exact nI_add 8 (i / 4)
set_option maxHeartbeats 4000000 in
set_option maxRecDepth 100000 in
theorem same_loop {p : Program} {l : Launch} {e : Env} {R : Room} {s : State} {m : MethodId} {args : Array Value} {below : List Frame} {meth : Method} {c : Code} {cells slots : Nat} {Q : State → Prop} {D : va_G} {cb ci : ClassId} {A : Nat → Prop} {t : Nat} {h0 k0 b0 o0 b L : Nat} {xs fo : Nat → Int32} (hx : p.tables.exec = Jvm.exec) (hb : c.code = cX0_same) (hml : c.maxLocals = 3) (hown : s.vm.findClass RX0 = some m.cls) (hts : ∀ w ∈ lw_all, w.before args s = true) (hK : va_K D vwCl (rc_ty cb ci) s) (hX : rc_X t A s) (hA : ∀ q : Nat, s.heap.size ≤ q → A q) (hXs : va_X b L xs s s.heap) (hbl : b < s.heap.size) (hbA : ¬ A b) (hL : L ≤ 10) (hq : ∀ j, j < 8 → fo j &&& 255 = rc_want (rc_cell L xs (8 + j / 4)) j) (hR1 : 2 ≤ R.frames) (hR2 : 70 ≤ R.locals) (hc : cells ≤ R.cells) (hs : slots ≤ R.slots)
    (kk : ∀ (H : Heap) (locs : List Loc) (ls : Array Slot), va_P D vwCl [(h0, .inr (0, [.ref k0, .ref b0, .ref o0])), (o0, .inl (cb, 8, .inl fo))] H → va_D A [(h0, .inr (0, [.ref k0, .ref b0, .ref o0])), (o0, .inl (cb, 8, .inl fo))] → va_S A s.heap H locs → lv_has ls 3 [(2, .int (nI 8)), (0, .ref h0), (1, .ref b)] → W p l e R s m args below meth c H locs cells slots Q (F0 m 48 ls [])) :
    ∀ (k i : Nat), i + k = 8 → ∀ (H : Heap) (locs : List Loc) (ls : Array Slot), va_P D vwCl [(h0, .inr (0, [.ref k0, .ref b0, .ref o0])), (o0, .inl (cb, 8, .inl fo))] H → va_D A [(h0, .inr (0, [.ref k0, .ref b0, .ref o0])), (o0, .inl (cb, 8, .inl fo))] → va_S A s.heap H locs → lv_has ls 3 [(2, .int (nI i)), (0, .ref h0), (1, .ref b)] → W p l e R s m args below meth c H locs cells slots Q (F0 m 2 ls []) := by
  intro k
  induction k with
  | zero =>
    intro i hn H locs ls hP hD hS hl
    obtain rfl : i = 8 := hn
    refine lv_iload_n hx hb dX0_same_2 rfl (lv_at hl 0 rfl) ?_
    refine lv_bipush (v := 8) hx hb dX0_same_3 (by decide) ?_
    refine lv_icmp_ge (tgt := 48) hx hb dX0_same_5 (by decide) (fun c1 => ?_) (fun c1 => ?_)
    · exact kk H locs ls hP hD hS hl
    · exact absurd (by decide) c1
  | succ k ih =>
    intro i hn H locs ls hP hD hS hl
    refine lv_iload_n hx hb dX0_same_2 rfl (lv_at hl 0 rfl) ?_
    refine lv_bipush (v := 8) hx hb dX0_same_3 (by decide) ?_
    refine lv_icmp_ge (tgt := 48) hx hb dX0_same_5 (by decide) (fun c1 => ?_) (fun c1 => ?_)
    · exact absurd c1 (nI_ge (a := i) (b := 8) (by omega) (by omega))
    · skip
      refine lv_aload_n hx hb dX0_same_8 rfl (lv_at hl 1 rfl) ?_
      refine lv_iload_n hx hb dX0_same_9 rfl (lv_at hl 0 rfl) ?_
      have hFc := va_free (wc := [(h0, .inr (0, [.ref k0, .ref b0, .ref o0])), (o0, .inl (cb, 8, .inl fo))]) hD hS hA [0, 1] rfl
      refine va_calli (va_runV (As := [.int (nI i)]) (rest := []) ⟨hx, hb, hml, hown, hts⟩ (met_out l D cb ci t H.size h0 k0 b0 o0 i fo (by omega)) (cwV 1 hts (lw_V q281 q282 q283 q7 q284) rfl rfl rfl (by decide +kernel) ⟨Nat.le_trans (by decide) hR1, Nat.le_trans (by decide) hR2⟩) ⟨rc_Pre.blind, va_recv hK hP (ci := 0) (q0 := 0) rfl rfl, fun U hU hW => ⟨rfl, rc_Pre.pass hP hD hK hS hA hX [0, 1] rfl rfl (by decide) U hU hW⟩⟩ rfl rfl hl.1 rfl (lv_room (Nat.le_of_ble_eq_true rfl)) dX0_same_10 ⟨hc, hs⟩) hS (fun q _ h => hFc q h) hFc (fun r u t9 H1 locs ht hvm hw hB hz hk hS => ?_)
      obtain ⟨hP, hD⟩ := rc_join (wr := []) (w1 := [(h0, .inr (0, [.ref k0, .ref b0, .ref o0])), (o0, .inl (cb, 8, .inl fo))]) hP hD [0, 1] [] rfl rfl (by decide) (by decide) hk hFc ht hB
      generalize H1 = H at hP hS ⊢
      have hP : va_P D vwCl [(h0, .inr (0, [.ref k0, .ref b0, .ref o0])), (o0, .inl (cb, 8, .inl fo))] H := hP
      have hD : va_D A [(h0, .inr (0, [.ref k0, .ref b0, .ref o0])), (o0, .inl (cb, 8, .inl fo))] := hD
      obtain rfl : r = fo i &&& 255 := hw
      refine lv_aload_n hx hb dX0_same_13 rfl (lv_at hl 2 rfl) ?_
      refine lv_bipush (v := 8) hx hb dX0_same_14 (by decide) ?_
      refine lv_iload_n hx hb dX0_same_16 rfl (lv_at hl 0 rfl) ?_
      refine lv_iconst (v := 4) hx hb dX0_same_17 (by decide) ?_
      refine lv_idiv hx hb dX0_same_18 (by decide) ?_
      refine lv_iadd hx hb dX0_same_19 ?_
      refine rc_top (nI (8 + i / 4)) (rc_d4 i (by omega)) ?_
      refine vp_callSi (W.runS (As := [.ref b, .int (nI (8 + i / 4))]) (rest := [.int (fo i &&& 255)]) ⟨hx, hb, hml, hown, hts⟩ (met_cell l b L (8 + i / 4) xs hL (by omega)) (va_cwS 2 hts (lw_S q264 q265 q6 q266) rfl rfl rfl (by decide +kernel) ⟨Nat.le_trans (by decide) hR1, Nat.le_trans (by decide) hR2⟩) ⟨rc_PX.blind, rc_PX.pass hXs hbl hbA hS⟩ rfl rfl hl.1 rfl (lv_room (Nat.le_of_ble_eq_true rfl)) dX0_same_20 ⟨hc, hs⟩) (fun r hr => ?_)
      obtain rfl : r = rc_cell L xs (8 + i / 4) := hr
      refine lv_bipush (v := 24) hx hb dX0_same_23 (by decide) ?_
      refine lv_bipush (v := 8) hx hb dX0_same_25 (by decide) ?_
      refine lv_iload_n hx hb dX0_same_27 rfl (lv_at hl 0 rfl) ?_
      refine lv_iconst (v := 4) hx hb dX0_same_28 (by decide) ?_
      refine lv_irem hx hb dX0_same_29 (by decide) ?_
      refine rc_top (nI (i % 4)) (pk_rem (a := i) (d := 4) (by omega) (by decide) (by decide)) ?_
      refine lv_imul hx hb dX0_same_30 ?_
      refine lv_isub hx hb dX0_same_31 ?_
      refine lv_iushr (v := ((rc_cell L xs (8 + i / 4)).toUInt32 >>> ((rc_sh i).toUInt32 &&& Int32.toUInt32 31)).toInt32) hx hb dX0_same_32 rfl ?_
      refine lv_sipush (v := 255) hx hb dX0_same_33 (by decide) ?_
      refine lv_iand hx hb dX0_same_36 ?_
      refine rc_top (rc_want (rc_cell L xs (8 + i / 4)) i) rfl ?_
      refine lv_icmp_eq (tgt := 42) hx hb dX0_same_37 (by decide) (fun c2 => ?_) (fun c2 => ?_)
      · skip
        refine lv_iinc (v := (nI (i + 1))) (lv' := [(2, .int (nI (i + 1))), (0, .ref h0), (1, .ref b)]) hx hb dX0_same_42 hl (k := 0) rfl (nI_1 i) (by decide) rfl (fun ls hl => ?_)
        refine lv_goto (tgt := 2) hx hb dX0_same_45 (by decide) ?_
        exact ih (i + 1) (by omega) H locs ls hP hD hS (lv_sub hl [0, 1, 2] rfl)
      · exact absurd (hq i (by omega)) c2
set_option maxHeartbeats 4000000 in
set_option maxRecDepth 100000 in
/-- same(x, s), where it is so: true -/
theorem met_same (l : Launch) (D : va_G) (cb ci : ClassId) (t sz : Nat) (h0 k0 b0 o0 b L : Nat) (xs fo : Nat → Int32) (hL : L ≤ 10) (hq : ∀ j, j < 8 → fo j &&& 255 = rc_want (rc_cell L xs (8 + j / 4)) j) : Met l yX0_same (ws_ yX0_same cX0_same 3 (some .boolean)) (rm_ 2 0 0) (va_Pc [.ref h0, .ref b] (rc_PreX D (rc_ty cb ci) t [(h0, .inr (0, [.ref k0, .ref b0, .ref o0])), (o0, .inl (cb, 8, .inl fo))] sz b L xs)) (va_Qi (S := Unit) (fun r _ => r = 1) (fun _ U => rc_B D (va_A [(h0, .inr (0, [.ref k0, .ref b0, .ref o0])), (o0, .inl (cb, 8, .inl fo))] sz) [(h0, .inr (0, [.ref k0, .ref b0, .ref o0])), (o0, .inl (cb, 8, .inl fo))] U) (va_A [(h0, .inr (0, [.ref k0, .ref b0, .ref o0])), (o0, .inl (cb, 8, .inl fo))] sz)) 0 0 (va_A [(h0, .inr (0, [.ref k0, .ref b0, .ref o0])), (o0, .inl (cb, 8, .inl fo))] sz) := by
  refine Met.ofW (cc := cX0_same) (maxL := 3) (ret := (some .boolean)) (by decide) rfl ?_
  intro p e s m args below meth c s₁ B hml hv
  obtain ⟨rfl, ⟨hsz, hP, hK, hD0, hX⟩, hXs, hbl, hbw⟩ := hv
  have hx := B.exec
  have hb := B.bytes
  have hr := B.returns
  have hts := atoms_spec (ws := ws_ yX0_same cX0_same 3 (some .boolean)) B.pre
  have hts : ∀ w ∈ lw_all, w.before _ s = true := fun w h => hts w (List.mem_cons_of_mem _ h)
  have hown : s.vm.findClass RX0 = some m.cls := findClass_of_methodNamed B.named
  have hlocks := B.notSynchronized
  subst hsz
  have hD := hD0.self (sz := s.heap.size)
  have hbA0 : ¬ va_A [(h0, .inr (0, [.ref k0, .ref b0, .ref o0])), (o0, .inl (cb, 8, .inl fo))] s.heap.size b := rc_out hbl hbw
  generalize hAe : va_A [(h0, .inr (0, [.ref k0, .ref b0, .ref o0])), (o0, .inl (cb, 8, .inl fo))] s.heap.size = A at hD hX hbA0 ⊢
  have hA : ∀ q : Nat, s.heap.size ≤ q → A q := fun q h => by rw [← hAe]; exact Or.inr h
  have hS : va_S A s.heap s.heap [] := va_S.rf
  have hP : va_P D vwCl [(h0, .inr (0, [.ref k0, .ref b0, .ref o0])), (o0, .inl (cb, 8, .inl fo))] s.heap := hP
  have hl := lv_entry ([.ref h0, .ref b]) (n := 3) (Nat.le_of_ble_eq_true rfl)
  rw [lg_entry_eq]
  generalize (lg_sl ([.ref h0, .ref b]) ++ List.replicate (3 - (lg_sl ([.ref h0, .ref b])).length) Slot.unset).toArray = ls at hl ⊢
  have hl : lv_has ls 3 [(0, .ref h0), (1, .ref b)] := hl
  have hbA : ¬ A b := hbA0
  refine lv_iconst (v := 0) hx hb dX0_same_0 (by decide) ?_
  refine lv_istore_n (lv' := [(2, .int 0), (0, .ref h0), (1, .ref b)]) hx hb dX0_same_1 rfl hl (by decide) rfl (fun ls hl => ?_)
  refine same_loop (b0 := b0) (k0 := k0) hx hb hml hown hts hK hX hA hXs hbl hbA hL hq (Nat.le_of_ble_eq_true rfl) (Nat.le_of_ble_eq_true rfl) (Nat.le_of_ble_eq_true rfl) (Nat.le_of_ble_eq_true rfl) (fun H locs ls hP hD hS hl => ?_) 8 0 rfl _ _ ls hP hD hS (lv_sub hl [0, 1, 2] rfl)
  refine lv_iconst (v := 1) hx hb dX0_same_48 (by decide) ?_
  exact W.zret (v := 1) hx hb hr rfl (fun t9 ht hW => ⟨⟨1, (), rfl, rfl, by rw [ht]; exact hP, hD⟩, hS.F ht⟩) hS.2.2 dX0_same_49
end
section
/-! RcTwoDeskLaw.known -/
def rc_an (j : Nat) : Int32 := rc_ans.getD j 0
set_option maxHeartbeats 4000000 in
set_option maxRecDepth 100000 in
theorem known_loop {p : Program} {l : Launch} {e : Env} {R : Room} {s : State} {m : MethodId} {args : Array Value} {below : List Frame} {meth : Method} {c : Code} {cells slots : Nat} {Q : State → Prop} {D : va_G} {cb ci : ClassId} {A : Nat → Prop} {t : Nat} {h0 k0 b0 o0 a0 : Nat} {fo : Nat → Int32} (hx : p.tables.exec = Jvm.exec) (hb : c.code = cX0_known) (hml : c.maxLocals = 3) (hown : s.vm.findClass RX0 = some m.cls) (hts : ∀ w ∈ lw_all, w.before args s = true) (hK : va_K D vwCl (rc_ty cb ci) s) (hX : rc_X t A s) (hA : ∀ q : Nat, s.heap.size ≤ q → A q) (hq : ∀ j, j < 8 → fo j &&& 255 = rc_an j) (hR1 : 2 ≤ R.frames) (hR2 : 70 ≤ R.locals) (hc : cells ≤ R.cells) (hs : slots ≤ R.slots)
    (kk : ∀ (H : Heap) (locs : List Loc) (ls : Array Slot), va_P D vwCl [(h0, .inr (0, [.ref k0, .ref b0, .ref o0])), (o0, .inl (cb, 8, .inl fo)), (a0, .inl (ci, 8, .inl rc_an))] H → va_D A [(h0, .inr (0, [.ref k0, .ref b0, .ref o0])), (o0, .inl (cb, 8, .inl fo)), (a0, .inl (ci, 8, .inl rc_an))] → va_S A s.heap H locs → lv_has ls 3 [(2, .int (nI 8)), (1, .ref a0), (0, .ref h0)] → W p l e R s m args below meth c H locs cells slots Q (F0 m 118 ls [])) :
    ∀ (k i : Nat), i + k = 8 → ∀ (H : Heap) (locs : List Loc) (ls : Array Slot), va_P D vwCl [(h0, .inr (0, [.ref k0, .ref b0, .ref o0])), (o0, .inl (cb, 8, .inl fo)), (a0, .inl (ci, 8, .inl rc_an))] H → va_D A [(h0, .inr (0, [.ref k0, .ref b0, .ref o0])), (o0, .inl (cb, 8, .inl fo)), (a0, .inl (ci, 8, .inl rc_an))] → va_S A s.heap H locs → lv_has ls 3 [(2, .int (nI i)), (1, .ref a0), (0, .ref h0)] → W p l e R s m args below meth c H locs cells slots Q (F0 m 93 ls []) := by
  intro k
  induction k with
  | zero =>
    intro i hn H locs ls hP hD hS hl
    obtain rfl : i = 8 := hn
    refine lv_iload_n hx hb dX0_known_93 rfl (lv_at hl 0 rfl) ?_
    refine lv_bipush (v := 8) hx hb dX0_known_94 (by decide) ?_
    refine lv_icmp_ge (tgt := 118) hx hb dX0_known_96 (by decide) (fun c1 => ?_) (fun c1 => ?_)
    · exact kk H locs ls hP hD hS hl
    · exact absurd (by decide) c1
  | succ k ih =>
    intro i hn H locs ls hP hD hS hl
    refine lv_iload_n hx hb dX0_known_93 rfl (lv_at hl 0 rfl) ?_
    refine lv_bipush (v := 8) hx hb dX0_known_94 (by decide) ?_
    refine lv_icmp_ge (tgt := 118) hx hb dX0_known_96 (by decide) (fun c1 => ?_) (fun c1 => ?_)
    · exact absurd c1 (nI_ge (a := i) (b := 8) (by omega) (by omega))
    · skip
      refine lv_aload_n hx hb dX0_known_99 rfl (lv_at hl 2 rfl) ?_
      refine lv_iload_n hx hb dX0_known_100 rfl (lv_at hl 0 rfl) ?_
      have hFc := va_free (wc := [(h0, .inr (0, [.ref k0, .ref b0, .ref o0])), (o0, .inl (cb, 8, .inl fo))]) hD hS hA [0, 1] rfl
      refine va_calli (va_runV (As := [.int (nI i)]) (rest := []) ⟨hx, hb, hml, hown, hts⟩ (met_out l D cb ci t H.size h0 k0 b0 o0 i fo (by omega)) (cwV 1 hts (lw_V q281 q282 q283 q7 q284) rfl rfl rfl (by decide +kernel) ⟨Nat.le_trans (by decide) hR1, Nat.le_trans (by decide) hR2⟩) ⟨rc_Pre.blind, va_recv hK hP (ci := 0) (q0 := 0) rfl rfl, fun U hU hW => ⟨rfl, rc_Pre.pass hP hD hK hS hA hX [0, 1] rfl rfl (by decide) U hU hW⟩⟩ rfl rfl hl.1 rfl (lv_room (Nat.le_of_ble_eq_true rfl)) dX0_known_101 ⟨hc, hs⟩) hS (fun q _ h => hFc q h) hFc (fun r u t9 H1 locs ht hvm hw hB hz hk hS => ?_)
      obtain ⟨hP, hD⟩ := rc_join (wr := [(a0, .inl (ci, 8, .inl rc_an))]) (w1 := [(h0, .inr (0, [.ref k0, .ref b0, .ref o0])), (o0, .inl (cb, 8, .inl fo))]) hP hD [0, 1] [2] rfl rfl (by decide) (by decide) hk hFc ht hB
      generalize H1 = H at hP hS ⊢
      have hP : va_P D vwCl [(a0, .inl (ci, 8, .inl rc_an)), (h0, .inr (0, [.ref k0, .ref b0, .ref o0])), (o0, .inl (cb, 8, .inl fo))] H := hP
      have hD : va_D A [(a0, .inl (ci, 8, .inl rc_an)), (h0, .inr (0, [.ref k0, .ref b0, .ref o0])), (o0, .inl (cb, 8, .inl fo))] := hD
      have hP : va_P D vwCl [(h0, .inr (0, [.ref k0, .ref b0, .ref o0])), (o0, .inl (cb, 8, .inl fo)), (a0, .inl (ci, 8, .inl rc_an))] H := hP.sub [1, 2, 0] rfl
      have hD : va_D A [(h0, .inr (0, [.ref k0, .ref b0, .ref o0])), (o0, .inl (cb, 8, .inl fo)), (a0, .inl (ci, 8, .inl rc_an))] := hD.sub [1, 2, 0] (by decide) rfl
      obtain rfl : r = fo i &&& 255 := hw
      refine lv_aload_n hx hb dX0_known_104 rfl (lv_at hl 1 rfl) ?_
      refine lv_iload_n hx hb dX0_known_105 rfl (lv_at hl 0 rfl) ?_
      refine rc_iald hx hb hK hP 2 1 rfl rfl i rfl (by omega) (by decide) dX0_known_106 ?_
      refine lv_icmp_eq (tgt := 112) hx hb dX0_known_107 (by decide) (fun c2 => ?_) (fun c2 => ?_)
      · skip
        refine lv_iinc (v := (nI (i + 1))) (lv' := [(2, .int (nI (i + 1))), (1, .ref a0), (0, .ref h0)]) hx hb dX0_known_112 hl (k := 0) rfl (nI_1 i) (by decide) rfl (fun ls hl => ?_)
        refine lv_goto (tgt := 93) hx hb dX0_known_115 (by decide) ?_
        exact ih (i + 1) (by omega) H locs ls hP hD hS (lv_sub hl [0, 1, 2] rfl)
      · exact absurd (hq i (by omega)) c2
set_option maxHeartbeats 4000000 in
set_option maxRecDepth 100000 in
/-- known(): true -/
theorem met_known (l : Launch) (D : va_G) (cb ci : ClassId) (t sz : Nat)   : Met l yX0_known (ws_ yX0_known cX0_known 3 (some .boolean)) (rm_ 6 11 286) (va_Pc [] (rc_Pre D (rc_ty cb ci) t [] sz)) (va_Qi (S := Unit) (fun r _ => r = 1) (fun _ U => rc_B D (va_A [] sz) [] U) (va_A [] sz)) 11 286 (va_A [] sz) := by
  refine Met.ofW (cc := cX0_known) (maxL := 3) (ret := (some .boolean)) (by decide) rfl ?_
  intro p e s m args below meth c s₁ B hml hv
  obtain ⟨rfl, hsz, hP, hK, hD0, hX⟩ := hv
  have hx := B.exec
  have hb := B.bytes
  have hr := B.returns
  have hts := atoms_spec (ws := ws_ yX0_known cX0_known 3 (some .boolean)) B.pre
  have hts : ∀ w ∈ lw_all, w.before _ s = true := fun w h => hts w (List.mem_cons_of_mem _ h)
  have hown : s.vm.findClass RX0 = some m.cls := findClass_of_methodNamed B.named
  have hlocks := B.notSynchronized
  subst hsz
  have hD := hD0.self (sz := s.heap.size)
  generalize hAe : va_A [] s.heap.size = A at hD hX ⊢
  have hA : ∀ q : Nat, s.heap.size ≤ q → A q := fun q h => by rw [← hAe]; exact Or.inr h
  have hS : va_S A s.heap s.heap [] := va_S.rf
  have hP : va_P D vwCl [] s.heap := hP
  have hl := lv_entry ([]) (n := 3) (Nat.le_of_ble_eq_true rfl)
  rw [lg_entry_eq]
  generalize (lg_sl ([]) ++ List.replicate (3 - (lg_sl ([])).length) Slot.unset).toArray = ls at hl ⊢
  have hl : lv_has ls 3 [] := hl
  refine va_new (ci := 0) (fs := [.null, .null, .null]) (C := RX1) (T := TX1) (N := 3) hx hb hts in_X1 tyX1 tyX1_ok hown (hts _ q249) (hts _ q26) (hts _ q7) hK hP hD hS hA rfl (fun j hj => by rcases (show j = 0 ∨ j = 1 ∨ j = 2 by omega) with rfl | rfl | rfl <;> rfl) (Nat.le_of_ble_eq_true rfl) (Nat.le_of_ble_eq_true rfl) dX0_known_0 (fun h0 H hP hD hS => ?_)
  have hP : va_P D vwCl [(h0, .inr (0, [.null, .null, .null]))] H := hP
  have hD : va_D A [(h0, .inr (0, [.null, .null, .null]))] := hD
  refine lv_dup hx hb dX0_known_3 rfl ?_
  have hFc := va_free (wc := [(h0, .inr (0, [.null, .null, .null]))]) hD hS hA [0] rfl
  refine va_callv (va_runI (As := []) (rest := [.ref h0]) ⟨hx, hb, hml, hown, hts⟩ (met_desk l D cb ci t H.size h0) (cwI 0 hts (lw_meth q252) rfl rfl rfl (hts _ q7) (hts _ q250) (hts _ q251) rfl (by decide +kernel) ⟨Nat.le_of_ble_eq_true rfl, Nat.le_of_ble_eq_true rfl⟩) ⟨rc_Pre.blind, fun U hU hW => ⟨rfl, rc_Pre.pass hP hD hK hS hA hX [0] rfl rfl (by decide) U hU hW⟩⟩ rfl rfl hl.1 rfl (lv_room (Nat.le_of_ble_eq_true rfl)) dX0_known_4 ⟨Nat.le_of_ble_eq_true rfl, Nat.le_of_ble_eq_true rfl⟩) hS (fun q _ h => hFc q h) hFc (fun u t9 H1 locs ht hvm hw hB hz hk hS => ?_)
  obtain ⟨k0, b0, o0⟩ := u
  obtain ⟨hP, hD⟩ := rc_join (wr := []) (w1 := [(h0, .inr (0, [.ref k0, .ref b0, .ref o0])), (k0, .inl (cb, 32, .inl (fun _ => 0))), (b0, .inl (cb, 8, .inl (fun _ => 0))), (o0, .inl (cb, 8, .inl (fun _ => 0)))]) hP hD [0] [] rfl rfl (by decide) (by decide) hk hFc ht hB
  generalize H1 = H at hP hS ⊢
  have hP : va_P D vwCl [(h0, .inr (0, [.ref k0, .ref b0, .ref o0])), (k0, .inl (cb, 32, .inl (fun _ => 0))), (b0, .inl (cb, 8, .inl (fun _ => 0))), (o0, .inl (cb, 8, .inl (fun _ => 0)))] H := hP
  have hD : va_D A [(h0, .inr (0, [.ref k0, .ref b0, .ref o0])), (k0, .inl (cb, 32, .inl (fun _ => 0))), (b0, .inl (cb, 8, .inl (fun _ => 0))), (o0, .inl (cb, 8, .inl (fun _ => 0)))] := hD
  refine lv_astore_n (lv' := [(0, .ref h0)]) hx hb dX0_known_7 rfl hl (by decide) rfl (fun ls hl => ?_)
  refine lv_aload_n hx hb dX0_known_8 rfl (lv_at hl 0 rfl) ?_
  refine lv_iconst (v := 0) hx hb dX0_known_9 (by decide) ?_
  refine lv_ldc (v := (-2000901874)) hx hb hown (hts _ q288) dX0_known_10 ?_
  refine lv_ldc (v := (-1870177665)) hx hb hown (hts _ q289) dX0_known_12 ?_
  refine lv_ldc (v := 259638148) hx hb hown (hts _ q290) dX0_known_14 ?_
  refine lv_ldc (v := 1652273074) hx hb hown (hts _ q291) dX0_known_16 ?_
  have hFc := va_free (wc := [(h0, .inr (0, [.ref k0, .ref b0, .ref o0])), (k0, .inl (cb, 32, .inl (fun _ => 0)))]) hD hS hA [0, 1] rfl
  refine va_callv (va_runV (As := [.int 0, .int (-2000901874), .int (-1870177665), .int 259638148, .int 1652273074]) (rest := []) ⟨hx, hb, hml, hown, hts⟩ (met_key l D cb ci t H.size h0 k0 b0 o0 0 0 (-2000901874) (-1870177665) 259638148 1652273074 (fun _ => 0) (by decide) (by decide)) (cwV 5 hts (lw_V q267 q268 q269 q7 q270) rfl rfl rfl (by decide +kernel) ⟨Nat.le_of_ble_eq_true rfl, Nat.le_of_ble_eq_true rfl⟩) ⟨rc_Pre.blind, va_recv hK hP (ci := 0) (q0 := 0) rfl rfl, fun U hU hW => ⟨rfl, rc_Pre.pass hP hD hK hS hA hX [0, 1] rfl rfl (by decide) U hU hW⟩⟩ rfl rfl hl.1 rfl (lv_room (Nat.le_of_ble_eq_true rfl)) dX0_known_18 ⟨Nat.le_of_ble_eq_true rfl, Nat.le_of_ble_eq_true rfl⟩) hS (fun q _ h => hFc q h) hFc (fun u t9 H1 locs ht hvm hw hB hz hk hS => ?_)
  obtain ⟨hP, hD⟩ := rc_join (wr := [(b0, .inl (cb, 8, .inl (fun _ => 0))), (o0, .inl (cb, 8, .inl (fun _ => 0)))]) (w1 := [(h0, .inr (0, [.ref k0, .ref b0, .ref o0])), (k0, .inl (cb, 32, .inl (rc_key (fun _ => 0) 0 (-2000901874) (-1870177665) 259638148 1652273074)))]) hP hD [0, 1] [2, 3] rfl rfl (by decide) (by decide) hk hFc ht hB
  generalize H1 = H at hP hS ⊢
  have hP : va_P D vwCl [(b0, .inl (cb, 8, .inl (fun _ => 0))), (o0, .inl (cb, 8, .inl (fun _ => 0))), (h0, .inr (0, [.ref k0, .ref b0, .ref o0])), (k0, .inl (cb, 32, .inl (rc_key (fun _ => 0) 0 (-2000901874) (-1870177665) 259638148 1652273074)))] H := hP
  have hD : va_D A [(b0, .inl (cb, 8, .inl (fun _ => 0))), (o0, .inl (cb, 8, .inl (fun _ => 0))), (h0, .inr (0, [.ref k0, .ref b0, .ref o0])), (k0, .inl (cb, 32, .inl (rc_key (fun _ => 0) 0 (-2000901874) (-1870177665) 259638148 1652273074)))] := hD
  refine lv_aload_n hx hb dX0_known_21 rfl (lv_at hl 0 rfl) ?_
  refine lv_iconst (v := 1) hx hb dX0_known_22 (by decide) ?_
  refine lv_iconst (v := 0) hx hb dX0_known_23 (by decide) ?_
  refine lv_iconst (v := 0) hx hb dX0_known_24 (by decide) ?_
  refine lv_iconst (v := 0) hx hb dX0_known_25 (by decide) ?_
  refine lv_iconst (v := 0) hx hb dX0_known_26 (by decide) ?_
  have hFc := va_free (wc := [(h0, .inr (0, [.ref k0, .ref b0, .ref o0])), (k0, .inl (cb, 32, .inl (rc_key (fun _ => 0) 0 (-2000901874) (-1870177665) 259638148 1652273074)))]) hD hS hA [2, 3] rfl
  refine va_callv (va_runV (As := [.int 1, .int 0, .int 0, .int 0, .int 0]) (rest := []) ⟨hx, hb, hml, hown, hts⟩ (met_key l D cb ci t H.size h0 k0 b0 o0 16 1 0 0 0 0 (rc_key (fun _ => 0) 0 (-2000901874) (-1870177665) 259638148 1652273074) (by decide) (by decide)) (cwV 5 hts (lw_V q267 q268 q269 q7 q270) rfl rfl rfl (by decide +kernel) ⟨Nat.le_of_ble_eq_true rfl, Nat.le_of_ble_eq_true rfl⟩) ⟨rc_Pre.blind, va_recv hK hP (ci := 0) (q0 := 2) rfl rfl, fun U hU hW => ⟨rfl, rc_Pre.pass hP hD hK hS hA hX [2, 3] rfl rfl (by decide) U hU hW⟩⟩ rfl rfl hl.1 rfl (lv_room (Nat.le_of_ble_eq_true rfl)) dX0_known_27 ⟨Nat.le_of_ble_eq_true rfl, Nat.le_of_ble_eq_true rfl⟩) hS (fun q _ h => hFc q h) hFc (fun u t9 H1 locs ht hvm hw hB hz hk hS => ?_)
  obtain ⟨hP, hD⟩ := rc_join (wr := [(b0, .inl (cb, 8, .inl (fun _ => 0))), (o0, .inl (cb, 8, .inl (fun _ => 0)))]) (w1 := [(h0, .inr (0, [.ref k0, .ref b0, .ref o0])), (k0, .inl (cb, 32, .inl (rc_key (rc_key (fun _ => 0) 0 (-2000901874) (-1870177665) 259638148 1652273074) 16 0 0 0 0)))]) hP hD [2, 3] [0, 1] rfl rfl (by decide) (by decide) hk hFc ht hB
  generalize H1 = H at hP hS ⊢
  have hP : va_P D vwCl [(b0, .inl (cb, 8, .inl (fun _ => 0))), (o0, .inl (cb, 8, .inl (fun _ => 0))), (h0, .inr (0, [.ref k0, .ref b0, .ref o0])), (k0, .inl (cb, 32, .inl (rc_key (rc_key (fun _ => 0) 0 (-2000901874) (-1870177665) 259638148 1652273074) 16 0 0 0 0)))] H := hP
  have hD : va_D A [(b0, .inl (cb, 8, .inl (fun _ => 0))), (o0, .inl (cb, 8, .inl (fun _ => 0))), (h0, .inr (0, [.ref k0, .ref b0, .ref o0])), (k0, .inl (cb, 32, .inl (rc_key (rc_key (fun _ => 0) 0 (-2000901874) (-1870177665) 259638148 1652273074) 16 0 0 0 0)))] := hD
  refine lv_aload_n hx hb dX0_known_30 rfl (lv_at hl 0 rfl) ?_
  refine lv_iconst (v := 0) hx hb dX0_known_31 (by decide) ?_
  refine lv_iconst (v := 0) hx hb dX0_known_32 (by decide) ?_
  have hFc := va_free (wc := [(h0, .inr (0, [.ref k0, .ref b0, .ref o0])), (b0, .inl (cb, 8, .inl (fun _ => 0)))]) hD hS hA [2, 0] rfl
  refine va_callv (va_runV (As := [.int 0, .int 0]) (rest := []) ⟨hx, hb, hml, hown, hts⟩ (met_block l D cb ci t H.size h0 k0 b0 o0 0 0 (fun _ => 0)) (cwV 2 hts (lw_V q274 q275 q276 q7 q277) rfl rfl rfl (by decide +kernel) ⟨Nat.le_of_ble_eq_true rfl, Nat.le_of_ble_eq_true rfl⟩) ⟨rc_Pre.blind, va_recv hK hP (ci := 0) (q0 := 2) rfl rfl, fun U hU hW => ⟨rfl, rc_Pre.pass hP hD hK hS hA hX [2, 0] rfl rfl (by decide) U hU hW⟩⟩ rfl rfl hl.1 rfl (lv_room (Nat.le_of_ble_eq_true rfl)) dX0_known_33 ⟨Nat.le_of_ble_eq_true rfl, Nat.le_of_ble_eq_true rfl⟩) hS (fun q _ h => hFc q h) hFc (fun u t9 H1 locs ht hvm hw hB hz hk hS => ?_)
  obtain ⟨hP, hD⟩ := rc_join (wr := [(o0, .inl (cb, 8, .inl (fun _ => 0))), (k0, .inl (cb, 32, .inl (rc_key (rc_key (fun _ => 0) 0 (-2000901874) (-1870177665) 259638148 1652273074) 16 0 0 0 0)))]) (w1 := [(h0, .inr (0, [.ref k0, .ref b0, .ref o0])), (b0, .inl (cb, 8, .inl (rc_blk (fun _ => 0) 0 0)))]) hP hD [2, 0] [1, 3] rfl rfl (by decide) (by decide) hk hFc ht hB
  generalize H1 = H at hP hS ⊢
  have hP : va_P D vwCl [(o0, .inl (cb, 8, .inl (fun _ => 0))), (k0, .inl (cb, 32, .inl (rc_key (rc_key (fun _ => 0) 0 (-2000901874) (-1870177665) 259638148 1652273074) 16 0 0 0 0))), (h0, .inr (0, [.ref k0, .ref b0, .ref o0])), (b0, .inl (cb, 8, .inl (rc_blk (fun _ => 0) 0 0)))] H := hP
  have hD : va_D A [(o0, .inl (cb, 8, .inl (fun _ => 0))), (k0, .inl (cb, 32, .inl (rc_key (rc_key (fun _ => 0) 0 (-2000901874) (-1870177665) 259638148 1652273074) 16 0 0 0 0))), (h0, .inr (0, [.ref k0, .ref b0, .ref o0])), (b0, .inl (cb, 8, .inl (rc_blk (fun _ => 0) 0 0)))] := hD
  refine lv_aload_n hx hb dX0_known_36 rfl (lv_at hl 0 rfl) ?_
  refine lv_iconst (v := 0) hx hb dX0_known_37 (by decide) ?_
  have hk0 : ∀ j, j < 16 → (rc_key (rc_key (fun _ => 0) 0 (-2000901874) (-1870177665) 259638148 1652273074) 16 0 0 0 0) j = rc_kb.getD j 0 := rc_kkey
  have hb0 : ∀ j, j < 8 → (rc_blk (fun _ => 0) 0 0) j = 0 := rc_kblk
  have ht0 : rc_bt (rc_key (rc_key (fun _ => 0) 0 (-2000901874) (-1870177665) 259638148 1652273074) 16 0 0 0 0) := rc_bt_key (rc_bt_key rc_bt_0 _ _ _ _ _) _ _ _ _ _
  generalize (rc_key (rc_key (fun _ => 0) 0 (-2000901874) (-1870177665) 259638148 1652273074) 16 0 0 0 0) = fk at hP hD hk0 ht0
  generalize (rc_blk (fun _ => 0) 0 0) = fb at hP hD hb0
  have hFc := va_free (wc := [(h0, .inr (0, [.ref k0, .ref b0, .ref o0])), (k0, .inl (cb, 32, .inl fk)), (b0, .inl (cb, 8, .inl fb)), (o0, .inl (cb, 8, .inl (fun _ => 0)))]) hD hS hA [2, 1, 3, 0] rfl
  refine va_callv (va_runV (As := [.int 0]) (rest := []) ⟨hx, hb, hml, hown, hts⟩ (met_lock l D cb ci t H.size h0 k0 b0 o0 0 fk fb (fun _ => 0) ht0) (cwV 1 hts (lw_V q19 q20 q21 q7 q22) rfl rfl rfl (by decide +kernel) ⟨Nat.le_of_ble_eq_true rfl, Nat.le_of_ble_eq_true rfl⟩) ⟨rc_Pre.blind, va_recv hK hP (ci := 0) (q0 := 2) rfl rfl, fun U hU hW => ⟨rfl, rc_Pre.pass hP hD hK hS hA hX [2, 1, 3, 0] rfl rfl (by decide) U hU hW⟩⟩ rfl rfl hl.1 rfl (lv_room (Nat.le_of_ble_eq_true rfl)) dX0_known_38 ⟨Nat.le_of_ble_eq_true rfl, Nat.le_of_ble_eq_true rfl⟩) hS (fun q _ h => hFc q h) hFc (fun u t9 H1 locs ht hvm hw hB hz hk hS => ?_)
  obtain ⟨hP, hD⟩ := rc_join (wr := []) (w1 := [(h0, .inr (0, [.ref k0, .ref b0, .ref o0])), (k0, .inl (cb, 32, .inl fk)), (b0, .inl (cb, 8, .inl fb)), (o0, .inl (cb, 8, .inl (rc_enc (rc_exp fk) fb)))]) hP hD [2, 1, 3, 0] [] rfl rfl (by decide) (by decide) hk hFc ht hB
  generalize H1 = H at hP hS ⊢
  have hP : va_P D vwCl [(h0, .inr (0, [.ref k0, .ref b0, .ref o0])), (k0, .inl (cb, 32, .inl fk)), (b0, .inl (cb, 8, .inl fb)), (o0, .inl (cb, 8, .inl (rc_enc (rc_exp fk) fb)))] H := hP
  have hD : va_D A [(h0, .inr (0, [.ref k0, .ref b0, .ref o0])), (k0, .inl (cb, 32, .inl fk)), (b0, .inl (cb, 8, .inl fb)), (o0, .inl (cb, 8, .inl (rc_enc (rc_exp fk) fb)))] := hD
  refine lv_bipush (v := 8) hx hb dX0_known_41 (by decide) ?_
  refine rc_newi hx hb (hts _ q162) hK hP hD hS hA 8 ((by decide)) (by decide) (Nat.le_of_ble_eq_true rfl) (Nat.le_of_ble_eq_true rfl) dX0_known_43 (fun a0 H hP hD hS => ?_)
  have hP : va_P D vwCl [(h0, .inr (0, [.ref k0, .ref b0, .ref o0])), (k0, .inl (cb, 32, .inl fk)), (b0, .inl (cb, 8, .inl fb)), (o0, .inl (cb, 8, .inl (rc_enc (rc_exp fk) fb))), (a0, .inl (ci, 8, .inl (fun _ => 0)))] H := hP
  have hD : va_D A [(h0, .inr (0, [.ref k0, .ref b0, .ref o0])), (k0, .inl (cb, 32, .inl fk)), (b0, .inl (cb, 8, .inl fb)), (o0, .inl (cb, 8, .inl (rc_enc (rc_exp fk) fb))), (a0, .inl (ci, 8, .inl (fun _ => 0)))] := hD
  refine lv_dup hx hb dX0_known_45 rfl ?_
  refine lv_iconst (v := 0) hx hb dX0_known_46 (by decide) ?_
  refine lv_bipush (v := 34) hx hb dX0_known_47 (by decide) ?_
  refine rc_iast hx hb hK hP hD hS 4 1 rfl rfl 0 (by decide) (by decide) (by decide) dX0_known_49 (fun H locs hP hD hS => ?_)
  have hP : va_P D vwCl [(h0, .inr (0, [.ref k0, .ref b0, .ref o0])), (k0, .inl (cb, 32, .inl fk)), (b0, .inl (cb, 8, .inl fb)), (o0, .inl (cb, 8, .inl (rc_enc (rc_exp fk) fb))), (a0, .inl (ci, 8, .inl (upd (fun _ => 0) 0 34)))] H := hP
  have hD : va_D A [(h0, .inr (0, [.ref k0, .ref b0, .ref o0])), (k0, .inl (cb, 32, .inl fk)), (b0, .inl (cb, 8, .inl fb)), (o0, .inl (cb, 8, .inl (rc_enc (rc_exp fk) fb))), (a0, .inl (ci, 8, .inl (upd (fun _ => 0) 0 34)))] := hD
  refine lv_dup hx hb dX0_known_50 rfl ?_
  refine lv_iconst (v := 1) hx hb dX0_known_51 (by decide) ?_
  refine lv_bipush (v := 105) hx hb dX0_known_52 (by decide) ?_
  refine rc_iast hx hb hK hP hD hS 4 1 rfl rfl 1 (by decide) (by decide) (by decide) dX0_known_54 (fun H locs hP hD hS => ?_)
  have hP : va_P D vwCl [(h0, .inr (0, [.ref k0, .ref b0, .ref o0])), (k0, .inl (cb, 32, .inl fk)), (b0, .inl (cb, 8, .inl fb)), (o0, .inl (cb, 8, .inl (rc_enc (rc_exp fk) fb))), (a0, .inl (ci, 8, .inl (upd (upd (fun _ => 0) 0 34) 1 105)))] H := hP
  have hD : va_D A [(h0, .inr (0, [.ref k0, .ref b0, .ref o0])), (k0, .inl (cb, 32, .inl fk)), (b0, .inl (cb, 8, .inl fb)), (o0, .inl (cb, 8, .inl (rc_enc (rc_exp fk) fb))), (a0, .inl (ci, 8, .inl (upd (upd (fun _ => 0) 0 34) 1 105)))] := hD
  refine lv_dup hx hb dX0_known_55 rfl ?_
  refine lv_iconst (v := 2) hx hb dX0_known_56 (by decide) ?_
  refine lv_bipush (v := 85) hx hb dX0_known_57 (by decide) ?_
  refine rc_iast hx hb hK hP hD hS 4 1 rfl rfl 2 (by decide) (by decide) (by decide) dX0_known_59 (fun H locs hP hD hS => ?_)
  have hP : va_P D vwCl [(h0, .inr (0, [.ref k0, .ref b0, .ref o0])), (k0, .inl (cb, 32, .inl fk)), (b0, .inl (cb, 8, .inl fb)), (o0, .inl (cb, 8, .inl (rc_enc (rc_exp fk) fb))), (a0, .inl (ci, 8, .inl (upd (upd (upd (fun _ => 0) 0 34) 1 105) 2 85)))] H := hP
  have hD : va_D A [(h0, .inr (0, [.ref k0, .ref b0, .ref o0])), (k0, .inl (cb, 32, .inl fk)), (b0, .inl (cb, 8, .inl fb)), (o0, .inl (cb, 8, .inl (rc_enc (rc_exp fk) fb))), (a0, .inl (ci, 8, .inl (upd (upd (upd (fun _ => 0) 0 34) 1 105) 2 85)))] := hD
  refine lv_dup hx hb dX0_known_60 rfl ?_
  refine lv_iconst (v := 3) hx hb dX0_known_61 (by decide) ?_
  refine lv_bipush (v := 42) hx hb dX0_known_62 (by decide) ?_
  refine rc_iast hx hb hK hP hD hS 4 1 rfl rfl 3 (by decide) (by decide) (by decide) dX0_known_64 (fun H locs hP hD hS => ?_)
  have hP : va_P D vwCl [(h0, .inr (0, [.ref k0, .ref b0, .ref o0])), (k0, .inl (cb, 32, .inl fk)), (b0, .inl (cb, 8, .inl fb)), (o0, .inl (cb, 8, .inl (rc_enc (rc_exp fk) fb))), (a0, .inl (ci, 8, .inl (upd (upd (upd (upd (fun _ => 0) 0 34) 1 105) 2 85) 3 42)))] H := hP
  have hD : va_D A [(h0, .inr (0, [.ref k0, .ref b0, .ref o0])), (k0, .inl (cb, 32, .inl fk)), (b0, .inl (cb, 8, .inl fb)), (o0, .inl (cb, 8, .inl (rc_enc (rc_exp fk) fb))), (a0, .inl (ci, 8, .inl (upd (upd (upd (upd (fun _ => 0) 0 34) 1 105) 2 85) 3 42)))] := hD
  refine lv_dup hx hb dX0_known_65 rfl ?_
  refine lv_iconst (v := 4) hx hb dX0_known_66 (by decide) ?_
  refine lv_sipush (v := 176) hx hb dX0_known_67 (by decide) ?_
  refine rc_iast hx hb hK hP hD hS 4 1 rfl rfl 4 (by decide) (by decide) (by decide) dX0_known_70 (fun H locs hP hD hS => ?_)
  have hP : va_P D vwCl [(h0, .inr (0, [.ref k0, .ref b0, .ref o0])), (k0, .inl (cb, 32, .inl fk)), (b0, .inl (cb, 8, .inl fb)), (o0, .inl (cb, 8, .inl (rc_enc (rc_exp fk) fb))), (a0, .inl (ci, 8, .inl (upd (upd (upd (upd (upd (fun _ => 0) 0 34) 1 105) 2 85) 3 42) 4 176)))] H := hP
  have hD : va_D A [(h0, .inr (0, [.ref k0, .ref b0, .ref o0])), (k0, .inl (cb, 32, .inl fk)), (b0, .inl (cb, 8, .inl fb)), (o0, .inl (cb, 8, .inl (rc_enc (rc_exp fk) fb))), (a0, .inl (ci, 8, .inl (upd (upd (upd (upd (upd (fun _ => 0) 0 34) 1 105) 2 85) 3 42) 4 176)))] := hD
  refine lv_dup hx hb dX0_known_71 rfl ?_
  refine lv_iconst (v := 5) hx hb dX0_known_72 (by decide) ?_
  refine lv_sipush (v := 248) hx hb dX0_known_73 (by decide) ?_
  refine rc_iast hx hb hK hP hD hS 4 1 rfl rfl 5 (by decide) (by decide) (by decide) dX0_known_76 (fun H locs hP hD hS => ?_)
  have hP : va_P D vwCl [(h0, .inr (0, [.ref k0, .ref b0, .ref o0])), (k0, .inl (cb, 32, .inl fk)), (b0, .inl (cb, 8, .inl fb)), (o0, .inl (cb, 8, .inl (rc_enc (rc_exp fk) fb))), (a0, .inl (ci, 8, .inl (upd (upd (upd (upd (upd (upd (fun _ => 0) 0 34) 1 105) 2 85) 3 42) 4 176) 5 248)))] H := hP
  have hD : va_D A [(h0, .inr (0, [.ref k0, .ref b0, .ref o0])), (k0, .inl (cb, 32, .inl fk)), (b0, .inl (cb, 8, .inl fb)), (o0, .inl (cb, 8, .inl (rc_enc (rc_exp fk) fb))), (a0, .inl (ci, 8, .inl (upd (upd (upd (upd (upd (upd (fun _ => 0) 0 34) 1 105) 2 85) 3 42) 4 176) 5 248)))] := hD
  refine lv_dup hx hb dX0_known_77 rfl ?_
  refine lv_bipush (v := 6) hx hb dX0_known_78 (by decide) ?_
  refine lv_bipush (v := 92) hx hb dX0_known_80 (by decide) ?_
  refine rc_iast hx hb hK hP hD hS 4 1 rfl rfl 6 (by decide) (by decide) (by decide) dX0_known_82 (fun H locs hP hD hS => ?_)
  have hP : va_P D vwCl [(h0, .inr (0, [.ref k0, .ref b0, .ref o0])), (k0, .inl (cb, 32, .inl fk)), (b0, .inl (cb, 8, .inl fb)), (o0, .inl (cb, 8, .inl (rc_enc (rc_exp fk) fb))), (a0, .inl (ci, 8, .inl (upd (upd (upd (upd (upd (upd (upd (fun _ => 0) 0 34) 1 105) 2 85) 3 42) 4 176) 5 248) 6 92)))] H := hP
  have hD : va_D A [(h0, .inr (0, [.ref k0, .ref b0, .ref o0])), (k0, .inl (cb, 32, .inl fk)), (b0, .inl (cb, 8, .inl fb)), (o0, .inl (cb, 8, .inl (rc_enc (rc_exp fk) fb))), (a0, .inl (ci, 8, .inl (upd (upd (upd (upd (upd (upd (upd (fun _ => 0) 0 34) 1 105) 2 85) 3 42) 4 176) 5 248) 6 92)))] := hD
  refine lv_dup hx hb dX0_known_83 rfl ?_
  refine lv_bipush (v := 7) hx hb dX0_known_84 (by decide) ?_
  refine lv_sipush (v := 166) hx hb dX0_known_86 (by decide) ?_
  refine rc_iast hx hb hK hP hD hS 4 1 rfl rfl 7 (by decide) (by decide) (by decide) dX0_known_89 (fun H locs hP hD hS => ?_)
  have hP : va_P D vwCl [(h0, .inr (0, [.ref k0, .ref b0, .ref o0])), (k0, .inl (cb, 32, .inl fk)), (b0, .inl (cb, 8, .inl fb)), (o0, .inl (cb, 8, .inl (rc_enc (rc_exp fk) fb))), (a0, .inl (ci, 8, .inl (upd (upd (upd (upd (upd (upd (upd (upd (fun _ => 0) 0 34) 1 105) 2 85) 3 42) 4 176) 5 248) 6 92) 7 166)))] H := hP
  have hD : va_D A [(h0, .inr (0, [.ref k0, .ref b0, .ref o0])), (k0, .inl (cb, 32, .inl fk)), (b0, .inl (cb, 8, .inl fb)), (o0, .inl (cb, 8, .inl (rc_enc (rc_exp fk) fb))), (a0, .inl (ci, 8, .inl (upd (upd (upd (upd (upd (upd (upd (upd (fun _ => 0) 0 34) 1 105) 2 85) 3 42) 4 176) 5 248) 6 92) 7 166)))] := hD
  refine lv_astore_n (lv' := [(1, .ref a0), (0, .ref h0)]) hx hb dX0_known_90 rfl hl (by decide) rfl (fun ls hl => ?_)
  refine lv_iconst (v := 0) hx hb dX0_known_91 (by decide) ?_
  refine lv_istore_n (lv' := [(2, .int 0), (1, .ref a0), (0, .ref h0)]) hx hb dX0_known_92 rfl hl (by decide) rfl (fun ls hl => ?_)
  have hP : va_P D vwCl [(h0, .inr (0, [.ref k0, .ref b0, .ref o0])), (k0, .inl (cb, 32, .inl fk)), (b0, .inl (cb, 8, .inl fb)), (o0, .inl (cb, 8, .inl (rc_enc (rc_exp fk) fb))), (a0, .inl (ci, 8, .inl rc_an))] H := rc_fn hP 4 rc_an rfl (by decide)
  have hD : va_D A [(h0, .inr (0, [.ref k0, .ref b0, .ref o0])), (k0, .inl (cb, 32, .inl fk)), (b0, .inl (cb, 8, .inl fb)), (o0, .inl (cb, 8, .inl (rc_enc (rc_exp fk) fb))), (a0, .inl (ci, 8, .inl rc_an))] := hD.set (p := 4) rfl
  have hP := hP.sub (ws' := [(h0, .inr (0, [.ref k0, .ref b0, .ref o0])), (o0, .inl (cb, 8, .inl (rc_enc (rc_exp fk) fb))), (a0, .inl (ci, 8, .inl rc_an))]) [0, 3, 4] rfl
  have hD := hD.sub (ws' := [(h0, .inr (0, [.ref k0, .ref b0, .ref o0])), (o0, .inl (cb, 8, .inl (rc_enc (rc_exp fk) fb))), (a0, .inl (ci, 8, .inl rc_an))]) [0, 3, 4] (by decide) rfl
  refine W.widen (k := 11) (n := 286) (Nat.le_of_ble_eq_true rfl) (Nat.le_of_ble_eq_true rfl) ?_
  refine known_loop (b0 := b0) (k0 := k0) hx hb hml hown hts hK hX hA (fun j hj => rc_known hk0 hb0 hj) (Nat.le_of_ble_eq_true rfl) (Nat.le_of_ble_eq_true rfl) (Nat.le_of_ble_eq_true rfl) (Nat.le_of_ble_eq_true rfl) (fun H locs ls hP hD hS hl => ?_) 8 0 rfl _ _ ls hP hD hS (lv_sub hl [0, 1, 2] rfl)
  refine lv_iconst (v := 1) hx hb dX0_known_118 (by decide) ?_
  have hP9 := hP.sub (ws' := []) [] rfl
  have hD9 := hD.sub (ws' := []) [] (by decide) rfl
  exact W.zret (v := 1) hx hb hr rfl (fun t9 ht hW => ⟨⟨1, (), rfl, rfl, by rw [ht]; exact hP9, hD9⟩, hS.F ht⟩) hS.2.2 dX0_known_119
end
section
/-! THE CLAIM OUT OF ONE WALK OF THE LAW'S BODY. Your part is whole_start (and what it stands on); all else here is the same for every law, but numbers. -/
def R_law : String := "RcTwoDeskLaw"
def lw_P (b : Addr) (xs : List Int32) (args : Array Value) (s : State) : Prop := args = #[.ref b] ∧ s.IntsAt b xs ∧ xs.length ≤ 10 ∧ (Jvm.Cond.and given_1 narrow_1).before args s = true
def lw_Q (_ : Array Value) (s : State) (o : Outcome) (t : State) : Prop := o = .returned (some (.int 1)) ∧ Framed s o t [] 600020 7302070
def lw_Z (below : List Frame) (a : Array Value) (s : State) : State → Prop := fun t => ∃ o, t.status = .running ∧ Ended t below o ∧ lw_Q a s o t
/-- the law's own end, with 1 on the stack, nothing written that was there before, its room as the claim has it -/
theorem lw_ret {p : Program} {l : Launch} {e : Env} {s : State} {m : MethodId} {below : List Frame} {meth : Method} {c : Code} {b : Nat} (hx : p.tables.exec = Jvm.exec) (hb : c.code = code) (hr : meth.sig.returnType = ret) (hlocks : meth.locks = false) {pc : Nat} {H : Heap} {ls : Array Slot} (hdg : decode code pc = .ok (.ireturn, 1)) : W p l e room_1 s m #[Value.ref b] below meth c H [] 600020 7302070 (lw_Z below #[Value.ref b] s) (F0 m pc ls [.int 1]) := by
  intro T hT X
  obtain ⟨fs, hret, hrun, hended, hW, hframe⟩ := X.leave (v := some (.int 1)) (hlocks := hlocks) (fun h => by rw [hr] at h; cases h)
  have hmeth' : T.vm.method? m = some meth := X.method'
  refine ⟨T.setFrames fs, ?_, .returned (some (.int 1)), hrun, hended, rfl, ⟨_, rfl⟩, hW, hframe⟩
  jvm_step X.here [X.here.top, hx, hb, hdg, hmeth', hr, ret, narrow_b1]
  (try refine ⟨rfl, ?_⟩); (try refine ⟨rfl, ?_⟩)
  first | (intro acts; rw [hret _ acts rfl rfl rfl]) | rw [hret _ _ rfl rfl rfl]
  exact Steps.refl _
/-- what holds at the law's entry: the machine, the code, the tables' words (any of lw_tbl by 'hts w (by decide +kernel)'), the script of L ints xs at the cell b, what the Statement gives of the start (any of its parts by flat_of_before) -/
def lw_At (p : Program) (s : State) (m : MethodId) (meth : Method) (c : Code) (b L : Nat) (xs : Nat → Int32) : Prop :=
  p.tables.exec = Jvm.exec ∧ c.code = code ∧ meth.sig.returnType = ret ∧ c.maxLocals = 8 ∧ s.vm.findClass R_law = some m.cls ∧ (∀ w ∈ lw_tbl, w.before #[Value.ref b] s = true) ∧ va_X b L xs s s.heap ∧ b < s.heap.size ∧ meth.locks = false ∧ (Jvm.Cond.and given_1 narrow_1).before #[Value.ref b] s = true
end
section
/-! the start of the claim: what the Statement gives; the walk of the law -/
theorem rc_arr {args : Array Value} {s : State} {ty : FieldType} (h : (Cond.arrayClass ty).before args s = true) : ∃ cA : ClassId, ArrOfT s cA ty ∧ s.vm.findClass ("[" ++ ty.toString) = some cA := by
  obtain ⟨cA, kA, comp, h1, h2, h3⟩ := Cond.arrayClass_spec h
  exact ⟨cA, fun n z => ⟨fun k h => (by cases h), kA, h2, comp, h3⟩, h1⟩
def rc_fl : List Cond := flatC (Jvm.Cond.and given_1 narrow_1)
set_option maxRecDepth 100000 in
theorem rc_fl_pi : (List.range 256).map (fun j => Cond.eq (.elem (.static "RC2Engine" "piTable" "[B") (.int (Int32.ofNat j))) (.int (rc_pi j))) = (rc_fl.drop 7).take 256 := by decide +kernel
set_option maxRecDepth 100000 in
theorem rc_fl_arr : (Cond.arrayOf (.static "RC2Engine" "piTable" "[B") .byte) ∈ rc_fl := by decide +kernel
set_option maxRecDepth 100000 in
theorem rc_fl_len : (Cond.eq (.length (.static "RC2Engine" "piTable" "[B")) (.int 256)) ∈ rc_fl := by decide +kernel
set_option maxRecDepth 100000 in
theorem rc_fl_nc : (Cond.not (.castable "KeyParameter" "RC2Parameters")) ∈ rc_fl := by decide +kernel
/-- what holds all through a run, at the law's start -/
theorem rc_X_start {args : Array Value} {s : State} {A : Nat → Prop} (hg : (Jvm.Cond.and given_1 narrow_1).before args s = true) (ht : ∀ w ∈ lw_tbl, w.before args s = true) (hA : ∀ a : Nat, a < s.heap.size → ¬ A a) : ∃ t : Nat, rc_X t A s := by
  have hs : ∀ w ∈ rc_fl, w.before args s = true := flat_of_before _ hg
  obtain ⟨t, h1, h2⟩ := va_Tof (s := s) (args := args) (tm := .static "RC2Engine" "piTable" "[B") (ty := .byte) (N := 256) (f := fun j => .int (rc_pi j)) (A := A) (by decide) (hs _ rc_fl_arr) (va_eqt (hs _ rc_fl_len)) (fun j hj => va_eqt (hs _ (va_run rc_fl_pi j hj))) hA
  refine ⟨t, va_Zref (ht _ q91) (ht _ (lw_all_tbl q8)) h1 hA, h2, ?_, ?_, va_Nc.of (hs _ rc_fl_nc)⟩
  · exact va_Fw.of (A := args) (ht _ q69) (ht _ q68) (ht _ q74) (ht _ q72) (ht _ q70)
  · exact va_Fw.of (A := args) (ht _ q166) (ht _ q165) (ht _ q170) (ht _ q168) (ht _ q70)
theorem rc_PreX.pass {D : va_G} {ty : List (ClassId × FieldType)} {t : Nat} {A : Nat → Prop} {ws wc : va_W} {s : State} {H : Heap} {locs : List Loc} {b L : Nat} {xs : Nat → Int32} (hP : va_P D vwCl ws H) (hD : va_D A ws) (hK : va_K D vwCl ty s) (hS : va_S A s.heap H locs) (hA : ∀ q, s.heap.size ≤ q → A q) (hX : rc_X t A s) (hXs : va_X b L xs s s.heap) (hbl : b < s.heap.size) (hbA : ¬ A b) (isC : List Nat) (hC : isC.map (fun i => ws[i]?) = wc.map some) (hF : isC.filterMap (fun i => ws[i]?) = wc) (hn : va_nd isC = true) (U : State) (hU : U.heap = H) (hW : s.WarmedH U.vm) : rc_PreX D ty t wc H.size b L xs U := by
  refine ⟨rc_Pre.pass hP hD hK hS hA hX isC hC hF hn U hU hW, ?_, ?_, fun q hq e => ?_⟩
  · rw [hU]
    exact va_X.moved hW.alike (hXs.kept (hS.2.1 b hbl hbA))
  · rw [hU]
    exact Nat.lt_of_lt_of_le hbl hS.1
  · obtain ⟨k, hk⟩ := List.getElem?_of_mem hq
    have h1 := (hD.sub isC hn hC).2 k q hk
    rw [e] at h1
    exact hbA h1
/-- the law's block, read as the law reads it -/
theorem rc_same {L : Nat} {xs g : Nat → Int32} (h : ∀ j, j < 8 → g j = rc_blk (fun _ => 0) (rc_cell L xs 8) (rc_cell L xs 9) j) : ∀ j, j < 8 → g j &&& 255 = rc_want (rc_cell L xs (8 + j / 4)) j := by
  intro j hj
  rw [h j hj, rc_blk_read _ _ _ hj]
  by_cases h4 : j < 4
  · rw [if_pos h4, show 8 + j / 4 = 8 by omega]
  · rw [if_neg h4, show 8 + j / 4 = 9 by omega]
set_option maxHeartbeats 4000000 in
set_option maxRecDepth 100000 in
theorem whole_start {p : Program} {e : Env} {s : State} {m : MethodId} {below : List Frame} {meth : Method} {c : Code} (l : Launch) (hflags : l.flags = flags0) {b L : Nat} {xs : Nat → Int32} (hL : L ≤ 10) (C0 : lw_At p s m meth c b L xs) : W p l e room_1 s m #[Value.ref b] below meth c s.heap [] 0 0 (lw_Z below #[Value.ref b] s) (entryFrame m ([Value.ref b] : List Value).toArray 8) := by
  obtain ⟨hx, hb, hr, hml, hown, hts0, hXs, hbl, hlocks, hgv⟩ := id C0
  have hts : ∀ w ∈ lw_all, w.before #[Value.ref b] s = true := fun w h => hts0 w (lw_all_tbl h)
  have hA : ∀ q : Nat, s.heap.size ≤ q → (fun q : Nat => s.heap.size ≤ q) q := fun _ h => h
  have hbA : ¬ (fun q : Nat => s.heap.size ≤ q) b := Nat.not_le.mpr hbl
  obtain ⟨t, hX⟩ := rc_X_start (A := fun q : Nat => s.heap.size ≤ q) hgv hts0 (fun a h => Nat.not_le.mpr h)
  obtain ⟨c0, iS0, hKn0⟩ := u_known (C := RX1) (T := TX1) (N := 3) (n := 3) hts0 (fun w h => lw_all_tbl (in_X1 w h)) (hts0 _ (lw_all_tbl q26))
  obtain ⟨c1, iS1, hKn1⟩ := u_known (C := RX2) (T := TX2) (N := 2) (n := 2) hts0 (fun w h => lw_all_tbl (in_X2 w h)) (hts0 _ (lw_all_tbl q32))
  obtain ⟨c2, iS2, hKn2⟩ := u_known (C := RX3) (T := TX3) (N := 1) (n := 1) hts0 (fun w h => lw_all_tbl (in_X3 w h)) (hts0 _ (lw_all_tbl q48))
  obtain ⟨D, hKc⟩ : ∃ D : va_G, ∀ (k : Nat) (q : vw_C), vwCl[k]? = some q → u_Kn s q.1 q.2.1 q.2.2 (D.1 k) (D.2 k) := by
    refine ⟨(fun k => if k = 0 then c0 else if k = 1 then c1 else c2, fun k => if k = 0 then iS0 else if k = 1 then iS1 else iS2), ?_⟩
    intro k q hq
    match k, hq with
    | 0, hq => cases hq; exact hKn0
    | 1, hq => cases hq; exact hKn1
    | 2, hq => cases hq; exact hKn2
    | k + 3, hq => simp [vwCl] at hq
  obtain ⟨cb, hb1, hb2⟩ := rc_arr (hts _ q46)
  obtain ⟨ci, hi1, hi2⟩ := rc_arr (hts _ q162)
  have hK : va_K D vwCl (rc_ty cb ci) s := by
    refine ⟨hKc, ?_⟩
    intro k q hq
    match k, hq with
    | 0, hq => cases hq; exact ⟨hb1, hb2⟩
    | 1, hq => cases hq; exact ⟨hi1, hi2⟩
    | k + 2, hq => simp at hq
  have hS : va_S (fun q : Nat => s.heap.size ≤ q) s.heap s.heap [] := va_S.rf
  have hP : va_P D vwCl [] s.heap := fun k q h => by simp at h
  have hD : va_D (fun q : Nat => s.heap.size ≤ q) [] := ⟨fun i j p q h => by simp at h, fun k q h => by simp at h⟩
  have hl := lv_entry ([.ref b]) (n := 8) (Nat.le_of_ble_eq_true rfl)
  rw [lg_entry_eq]
  generalize (lg_sl ([.ref b]) ++ List.replicate (8 - (lg_sl ([.ref b])).length) Slot.unset).toArray = ls at hl ⊢
  have hl : lv_has ls 8 [(0, .ref b)] := hl
  have hFc := va_free (wc := []) hD hS hA [] rfl
  refine va_calli (va_runS (As := []) (rest := []) ⟨hx, hb, hml, hown, hts⟩ (met_known l D cb ci t s.heap.size) (va_cwS 0 hts (lw_S q285 q286 q6 q287) rfl rfl rfl (by decide +kernel) ⟨Nat.le_of_ble_eq_true rfl, Nat.le_of_ble_eq_true rfl⟩) ⟨rc_Pre.blind, fun U hU hW => ⟨rfl, rc_Pre.pass hP hD hK hS hA hX [] rfl rfl (by decide) U hU hW⟩⟩ rfl rfl hl.1 rfl (lv_room (Nat.le_of_ble_eq_true rfl)) dL_law_0 ⟨Nat.le_of_ble_eq_true rfl, Nat.le_of_ble_eq_true rfl⟩) hS (fun q _ h => hFc q h) hFc (fun r u t9 H1 locs ht hvm hw hB hz hk hS => ?_)
  obtain rfl : r = 1 := hw
  obtain ⟨hP, hD⟩ := rc_join (wr := []) (w1 := []) hP hD [] [] rfl rfl (by decide) (by decide) hk hFc ht hB
  generalize H1 = H at hP hS ⊢
  have hP : va_P D vwCl [] H := hP
  have hD : va_D (fun q : Nat => s.heap.size ≤ q) [] := hD
  refine lv_if_ne (tgt := 8) hx hb dL_law_3 (by decide) (fun c1 => ?_) (fun c1 => ?_)
  · skip
    refine lv_iconst (v := 1) hx hb dL_law_8 (by decide) ?_
    refine rc_newi hx hb (hts _ q162) hK hP hD hS hA 1 ((by decide)) (by decide) (Nat.le_of_ble_eq_true rfl) (Nat.le_of_ble_eq_true rfl) dL_law_9 (fun n0 H hP hD hS => ?_)
    have hP : va_P D vwCl [(n0, .inl (ci, 1, .inl (fun _ => 0)))] H := hP
    have hD : va_D (fun q : Nat => s.heap.size ≤ q) [(n0, .inl (ci, 1, .inl (fun _ => 0)))] := hD
    refine lv_dup hx hb dL_law_11 rfl ?_
    refine lv_iconst (v := 0) hx hb dL_law_12 (by decide) ?_
    refine lv_iconst (v := 0) hx hb dL_law_13 (by decide) ?_
    refine rc_iast hx hb hK hP hD hS 0 1 rfl rfl 0 (by decide) (by decide) (by decide) dL_law_14 (fun H locs hP hD hS => ?_)
    have hP : va_P D vwCl [(n0, .inl (ci, 1, .inl (upd (fun _ => 0) 0 0)))] H := hP
    have hD : va_D (fun q : Nat => s.heap.size ≤ q) [(n0, .inl (ci, 1, .inl (upd (fun _ => 0) 0 0)))] := hD
    refine lv_astore_n (lv' := [(1, .ref n0), (0, .ref b)]) hx hb dL_law_15 rfl hl (by decide) rfl (fun ls hl => ?_)
    refine lv_aload_n hx hb dL_law_16 rfl (lv_at hl 0 rfl) ?_
    refine lv_astore_n (lv' := [(2, .ref n0), (1, .ref n0), (0, .ref b)]) hx hb dL_law_17 rfl hl (by decide) rfl (fun ls hl => ?_)
    refine lv_aload_n hx hb dL_law_18 rfl (lv_at hl 0 rfl) ?_
    refine va_alen (v := 1) hx hb hK hP 0 1 rfl rfl rfl dL_law_19 ?_
    refine lv_istore_n (lv' := [(3, .int 1), (2, .ref n0), (1, .ref n0), (0, .ref b)]) hx hb dL_law_20 rfl hl (by decide) rfl (fun ls hl => ?_)
    refine lv_iconst (v := 0) hx hb dL_law_21 (by decide) ?_
    refine lv_istore (lv' := [(4, .int 0), (3, .int 1), (2, .ref n0), (1, .ref n0), (0, .ref b)]) hx hb dL_law_22 hl (by decide) rfl (fun ls hl => ?_)
    refine lv_iload hx hb dL_law_24 (lv_at hl 0 rfl) ?_
    refine lv_iload_n hx hb dL_law_26 rfl (lv_at hl 1 rfl) ?_
    refine lv_icmp_ge (tgt := 112) hx hb dL_law_27 (by decide) (fun c2 => ?_) (fun c2 => ?_)
    · exact absurd c2 (by decide)
    · skip
      refine lv_aload_n hx hb dL_law_30 rfl (lv_at hl 2 rfl) ?_
      refine lv_iload hx hb dL_law_31 (lv_at hl 0 rfl) ?_
      refine rc_iald hx hb hK hP 0 1 rfl rfl 0 (by decide) (by decide) (by decide) dL_law_33 ?_
      refine rc_top 0 rfl ?_
      refine lv_istore (lv' := [(5, .int 0), (4, .int 0), (3, .int 1), (2, .ref n0), (1, .ref n0), (0, .ref b)]) hx hb dL_law_34 hl (by decide) rfl (fun ls hl => ?_)
      refine lv_aload_n hx hb dL_law_36 rfl (lv_at hl 5 rfl) ?_
      have hFc := va_free (wc := []) hD hS hA [] rfl
      refine va_callr (va_runS (As := [.ref b]) (rest := []) ⟨hx, hb, hml, hown, hts⟩ (met_with l D cb ci t H.size b L xs hL) (va_cwS 1 hts (lw_S q246 q247 q6 q248) rfl rfl rfl (by decide +kernel) ⟨Nat.le_of_ble_eq_true rfl, Nat.le_of_ble_eq_true rfl⟩) ⟨rc_PreX.blind, fun U hU hW => ⟨rfl, rc_PreX.pass hP hD hK hS hA hX hXs hbl hbA [] rfl rfl (by decide) U hU hW⟩⟩ rfl rfl hl.1 rfl (lv_room (Nat.le_of_ble_eq_true rfl)) dL_law_37 ⟨Nat.le_of_ble_eq_true rfl, Nat.le_of_ble_eq_true rfl⟩) hS (fun q _ h => hFc q h) hFc (fun u ra t9 H1 locs ht hvm hw hB hz hk hS => ?_)
      obtain ⟨x2, x3, x4⟩ := u
      obtain ⟨x1, ex1⟩ : ∃ z, z = ra := ⟨_, rfl⟩
      rw [← ex1] at hB ⊢
      obtain ⟨hP, hD⟩ := rc_join (wr := [(n0, .inl (ci, 1, .inl (upd (fun _ => 0) 0 0)))]) (w1 := [(x1, .inr (0, [.ref x2, .ref x3, .ref x4])), (x2, .inl (cb, 32, .inl (rc_key (rc_key (fun _ => 0) 0 (rc_cell L xs 0) (rc_cell L xs 1) (rc_cell L xs 2) (rc_cell L xs 3)) 16 (rc_cell L xs 4) (rc_cell L xs 5) (rc_cell L xs 6) (rc_cell L xs 7)))), (x3, .inl (cb, 8, .inl (rc_blk (fun _ => 0) (rc_cell L xs 8) (rc_cell L xs 9)))), (x4, .inl (cb, 8, .inl (fun _ => 0)))]) hP hD [] [0] rfl rfl (by decide) (by decide) hk hFc ht hB
      generalize H1 = H at hP hS ⊢
      have hP : va_P D vwCl [(n0, .inl (ci, 1, .inl (upd (fun _ => 0) 0 0))), (x1, .inr (0, [.ref x2, .ref x3, .ref x4])), (x2, .inl (cb, 32, .inl (rc_key (rc_key (fun _ => 0) 0 (rc_cell L xs 0) (rc_cell L xs 1) (rc_cell L xs 2) (rc_cell L xs 3)) 16 (rc_cell L xs 4) (rc_cell L xs 5) (rc_cell L xs 6) (rc_cell L xs 7)))), (x3, .inl (cb, 8, .inl (rc_blk (fun _ => 0) (rc_cell L xs 8) (rc_cell L xs 9)))), (x4, .inl (cb, 8, .inl (fun _ => 0)))] H := hP
      have hD : va_D (fun q : Nat => s.heap.size ≤ q) [(n0, .inl (ci, 1, .inl (upd (fun _ => 0) 0 0))), (x1, .inr (0, [.ref x2, .ref x3, .ref x4])), (x2, .inl (cb, 32, .inl (rc_key (rc_key (fun _ => 0) 0 (rc_cell L xs 0) (rc_cell L xs 1) (rc_cell L xs 2) (rc_cell L xs 3)) 16 (rc_cell L xs 4) (rc_cell L xs 5) (rc_cell L xs 6) (rc_cell L xs 7)))), (x3, .inl (cb, 8, .inl (rc_blk (fun _ => 0) (rc_cell L xs 8) (rc_cell L xs 9)))), (x4, .inl (cb, 8, .inl (fun _ => 0)))] := hD
      refine lv_astore (lv' := [(6, .ref x1), (5, .int 0), (4, .int 0), (3, .int 1), (2, .ref n0), (1, .ref n0), (0, .ref b)]) hx hb dL_law_40 hl (by decide) rfl (fun ls hl => ?_)
      refine lv_aload_n hx hb dL_law_42 rfl (lv_at hl 6 rfl) ?_
      have hFc := va_free (wc := []) hD hS hA [] rfl
      refine va_callr (va_runS (As := [.ref b]) (rest := []) ⟨hx, hb, hml, hown, hts⟩ (met_with l D cb ci t H.size b L xs hL) (va_cwS 1 hts (lw_S q246 q247 q6 q248) rfl rfl rfl (by decide +kernel) ⟨Nat.le_of_ble_eq_true rfl, Nat.le_of_ble_eq_true rfl⟩) ⟨rc_PreX.blind, fun U hU hW => ⟨rfl, rc_PreX.pass hP hD hK hS hA hX hXs hbl hbA [] rfl rfl (by decide) U hU hW⟩⟩ rfl rfl hl.1 rfl (lv_room (Nat.le_of_ble_eq_true rfl)) dL_law_43 ⟨Nat.le_of_ble_eq_true rfl, Nat.le_of_ble_eq_true rfl⟩) hS (fun q _ h => hFc q h) hFc (fun u ra t9 H1 locs ht hvm hw hB hz hk hS => ?_)
      obtain ⟨y2, y3, y4⟩ := u
      obtain ⟨y1, ey1⟩ : ∃ z, z = ra := ⟨_, rfl⟩
      rw [← ey1] at hB ⊢
      obtain ⟨hP, hD⟩ := rc_join (wr := [(n0, .inl (ci, 1, .inl (upd (fun _ => 0) 0 0))), (x1, .inr (0, [.ref x2, .ref x3, .ref x4])), (x2, .inl (cb, 32, .inl (rc_key (rc_key (fun _ => 0) 0 (rc_cell L xs 0) (rc_cell L xs 1) (rc_cell L xs 2) (rc_cell L xs 3)) 16 (rc_cell L xs 4) (rc_cell L xs 5) (rc_cell L xs 6) (rc_cell L xs 7)))), (x3, .inl (cb, 8, .inl (rc_blk (fun _ => 0) (rc_cell L xs 8) (rc_cell L xs 9)))), (x4, .inl (cb, 8, .inl (fun _ => 0)))]) (w1 := [(y1, .inr (0, [.ref y2, .ref y3, .ref y4])), (y2, .inl (cb, 32, .inl (rc_key (rc_key (fun _ => 0) 0 (rc_cell L xs 0) (rc_cell L xs 1) (rc_cell L xs 2) (rc_cell L xs 3)) 16 (rc_cell L xs 4) (rc_cell L xs 5) (rc_cell L xs 6) (rc_cell L xs 7)))), (y3, .inl (cb, 8, .inl (rc_blk (fun _ => 0) (rc_cell L xs 8) (rc_cell L xs 9)))), (y4, .inl (cb, 8, .inl (fun _ => 0)))]) hP hD [] [0, 1, 2, 3, 4] rfl rfl (by decide) (by decide) hk hFc ht hB
      generalize H1 = H at hP hS ⊢
      have hP : va_P D vwCl [(n0, .inl (ci, 1, .inl (upd (fun _ => 0) 0 0))), (x1, .inr (0, [.ref x2, .ref x3, .ref x4])), (x2, .inl (cb, 32, .inl (rc_key (rc_key (fun _ => 0) 0 (rc_cell L xs 0) (rc_cell L xs 1) (rc_cell L xs 2) (rc_cell L xs 3)) 16 (rc_cell L xs 4) (rc_cell L xs 5) (rc_cell L xs 6) (rc_cell L xs 7)))), (x3, .inl (cb, 8, .inl (rc_blk (fun _ => 0) (rc_cell L xs 8) (rc_cell L xs 9)))), (x4, .inl (cb, 8, .inl (fun _ => 0))), (y1, .inr (0, [.ref y2, .ref y3, .ref y4])), (y2, .inl (cb, 32, .inl (rc_key (rc_key (fun _ => 0) 0 (rc_cell L xs 0) (rc_cell L xs 1) (rc_cell L xs 2) (rc_cell L xs 3)) 16 (rc_cell L xs 4) (rc_cell L xs 5) (rc_cell L xs 6) (rc_cell L xs 7)))), (y3, .inl (cb, 8, .inl (rc_blk (fun _ => 0) (rc_cell L xs 8) (rc_cell L xs 9)))), (y4, .inl (cb, 8, .inl (fun _ => 0)))] H := hP
      have hD : va_D (fun q : Nat => s.heap.size ≤ q) [(n0, .inl (ci, 1, .inl (upd (fun _ => 0) 0 0))), (x1, .inr (0, [.ref x2, .ref x3, .ref x4])), (x2, .inl (cb, 32, .inl (rc_key (rc_key (fun _ => 0) 0 (rc_cell L xs 0) (rc_cell L xs 1) (rc_cell L xs 2) (rc_cell L xs 3)) 16 (rc_cell L xs 4) (rc_cell L xs 5) (rc_cell L xs 6) (rc_cell L xs 7)))), (x3, .inl (cb, 8, .inl (rc_blk (fun _ => 0) (rc_cell L xs 8) (rc_cell L xs 9)))), (x4, .inl (cb, 8, .inl (fun _ => 0))), (y1, .inr (0, [.ref y2, .ref y3, .ref y4])), (y2, .inl (cb, 32, .inl (rc_key (rc_key (fun _ => 0) 0 (rc_cell L xs 0) (rc_cell L xs 1) (rc_cell L xs 2) (rc_cell L xs 3)) 16 (rc_cell L xs 4) (rc_cell L xs 5) (rc_cell L xs 6) (rc_cell L xs 7)))), (y3, .inl (cb, 8, .inl (rc_blk (fun _ => 0) (rc_cell L xs 8) (rc_cell L xs 9)))), (y4, .inl (cb, 8, .inl (fun _ => 0)))] := hD
      refine lv_astore (lv' := [(7, .ref y1), (6, .ref x1), (5, .int 0), (4, .int 0), (3, .int 1), (2, .ref n0), (1, .ref n0), (0, .ref b)]) hx hb dL_law_46 hl (by decide) rfl (fun ls hl => ?_)
      have hbt : rc_bt (rc_key (rc_key (fun _ => 0) 0 (rc_cell L xs 0) (rc_cell L xs 1) (rc_cell L xs 2) (rc_cell L xs 3)) 16 (rc_cell L xs 4) (rc_cell L xs 5) (rc_cell L xs 6) (rc_cell L xs 7)) := rc_bt_key (rc_bt_key rc_bt_0 _ _ _ _ _) _ _ _ _ _
      have hbf : rc_bt (rc_blk (fun _ => 0) (rc_cell L xs 8) (rc_cell L xs 9)) := rc_bt_blk rc_bt_0 _ _
      have hsm : ∀ g : Nat → Int32, (∀ j, j < 8 → g j = (rc_blk (fun _ => 0) (rc_cell L xs 8) (rc_cell L xs 9)) j) → ∀ j, j < 8 → g j &&& 255 = rc_want (rc_cell L xs (8 + j / 4)) j := fun g h => rc_same h
      generalize (rc_key (rc_key (fun _ => 0) 0 (rc_cell L xs 0) (rc_cell L xs 1) (rc_cell L xs 2) (rc_cell L xs 3)) 16 (rc_cell L xs 4) (rc_cell L xs 5) (rc_cell L xs 6) (rc_cell L xs 7)) = fk at hP hD hbt
      generalize (rc_blk (fun _ => 0) (rc_cell L xs 8) (rc_cell L xs 9)) = fb at hP hD hbf hsm
      refine lv_aload hx hb dL_law_48 (lv_at hl 1 rfl) ?_
      refine lv_iload hx hb dL_law_50 (lv_at hl 2 rfl) ?_
      have hFc := va_free (wc := [(x1, .inr (0, [.ref x2, .ref x3, .ref x4])), (x2, .inl (cb, 32, .inl fk)), (x3, .inl (cb, 8, .inl fb)), (x4, .inl (cb, 8, .inl (fun _ => 0)))]) hD hS hA [1, 2, 3, 4] rfl
      refine va_callv (va_runV (As := [.int 0]) (rest := []) ⟨hx, hb, hml, hown, hts⟩ (met_lock l D cb ci t H.size x1 x2 x3 x4 0 fk fb (fun _ => 0) hbt) (cwV 1 hts (lw_V q19 q20 q21 q7 q22) rfl rfl rfl (by decide +kernel) ⟨Nat.le_of_ble_eq_true rfl, Nat.le_of_ble_eq_true rfl⟩) ⟨rc_Pre.blind, va_recv hK hP (ci := 0) (q0 := 1) rfl rfl, fun U hU hW => ⟨rfl, rc_Pre.pass hP hD hK hS hA hX [1, 2, 3, 4] rfl rfl (by decide) U hU hW⟩⟩ rfl rfl hl.1 rfl (lv_room (Nat.le_of_ble_eq_true rfl)) dL_law_52 ⟨Nat.le_of_ble_eq_true rfl, Nat.le_of_ble_eq_true rfl⟩) hS (fun q _ h => hFc q h) hFc (fun u t9 H1 locs ht hvm hw hB hz hk hS => ?_)
      obtain ⟨hP, hD⟩ := rc_join (wr := [(n0, .inl (ci, 1, .inl (upd (fun _ => 0) 0 0))), (y1, .inr (0, [.ref y2, .ref y3, .ref y4])), (y2, .inl (cb, 32, .inl fk)), (y3, .inl (cb, 8, .inl fb)), (y4, .inl (cb, 8, .inl (fun _ => 0)))]) (w1 := [(x1, .inr (0, [.ref x2, .ref x3, .ref x4])), (x2, .inl (cb, 32, .inl fk)), (x3, .inl (cb, 8, .inl fb)), (x4, .inl (cb, 8, .inl (rc_enc (rc_exp fk) fb)))]) hP hD [1, 2, 3, 4] [0, 5, 6, 7, 8] rfl rfl (by decide) (by decide) hk hFc ht hB
      generalize H1 = H at hP hS ⊢
      have hP : va_P D vwCl [(n0, .inl (ci, 1, .inl (upd (fun _ => 0) 0 0))), (y1, .inr (0, [.ref y2, .ref y3, .ref y4])), (y2, .inl (cb, 32, .inl fk)), (y3, .inl (cb, 8, .inl fb)), (y4, .inl (cb, 8, .inl (fun _ => 0))), (x1, .inr (0, [.ref x2, .ref x3, .ref x4])), (x2, .inl (cb, 32, .inl fk)), (x3, .inl (cb, 8, .inl fb)), (x4, .inl (cb, 8, .inl (rc_enc (rc_exp fk) fb)))] H := hP
      have hD : va_D (fun q : Nat => s.heap.size ≤ q) [(n0, .inl (ci, 1, .inl (upd (fun _ => 0) 0 0))), (y1, .inr (0, [.ref y2, .ref y3, .ref y4])), (y2, .inl (cb, 32, .inl fk)), (y3, .inl (cb, 8, .inl fb)), (y4, .inl (cb, 8, .inl (fun _ => 0))), (x1, .inr (0, [.ref x2, .ref x3, .ref x4])), (x2, .inl (cb, 32, .inl fk)), (x3, .inl (cb, 8, .inl fb)), (x4, .inl (cb, 8, .inl (rc_enc (rc_exp fk) fb)))] := hD
      refine lv_aload hx hb dL_law_55 (lv_at hl 0 rfl) ?_
      refine lv_iload hx hb dL_law_57 (lv_at hl 2 rfl) ?_
      have hFc := va_free (wc := [(y1, .inr (0, [.ref y2, .ref y3, .ref y4])), (y2, .inl (cb, 32, .inl fk)), (y3, .inl (cb, 8, .inl fb)), (y4, .inl (cb, 8, .inl (fun _ => 0)))]) hD hS hA [1, 2, 3, 4] rfl
      refine va_callv (va_runV (As := [.int 0]) (rest := []) ⟨hx, hb, hml, hown, hts⟩ (met_open l D cb ci t H.size y1 y2 y3 y4 0 fk fb (fun _ => 0) hbt) (cwV 1 hts (lw_V q238 q239 q240 q7 q241) rfl rfl rfl (by decide +kernel) ⟨Nat.le_of_ble_eq_true rfl, Nat.le_of_ble_eq_true rfl⟩) ⟨rc_Pre.blind, va_recv hK hP (ci := 0) (q0 := 1) rfl rfl, fun U hU hW => ⟨rfl, rc_Pre.pass hP hD hK hS hA hX [1, 2, 3, 4] rfl rfl (by decide) U hU hW⟩⟩ rfl rfl hl.1 rfl (lv_room (Nat.le_of_ble_eq_true rfl)) dL_law_59 ⟨Nat.le_of_ble_eq_true rfl, Nat.le_of_ble_eq_true rfl⟩) hS (fun q _ h => hFc q h) hFc (fun u t9 H1 locs ht hvm hw hB hz hk hS => ?_)
      obtain ⟨hP, hD⟩ := rc_join (wr := [(n0, .inl (ci, 1, .inl (upd (fun _ => 0) 0 0))), (x1, .inr (0, [.ref x2, .ref x3, .ref x4])), (x2, .inl (cb, 32, .inl fk)), (x3, .inl (cb, 8, .inl fb)), (x4, .inl (cb, 8, .inl (rc_enc (rc_exp fk) fb)))]) (w1 := [(y1, .inr (0, [.ref y2, .ref y3, .ref y4])), (y2, .inl (cb, 32, .inl fk)), (y3, .inl (cb, 8, .inl fb)), (y4, .inl (cb, 8, .inl (rc_dec (rc_exp fk) fb)))]) hP hD [1, 2, 3, 4] [0, 5, 6, 7, 8] rfl rfl (by decide) (by decide) hk hFc ht hB
      generalize H1 = H at hP hS ⊢
      have hP : va_P D vwCl [(n0, .inl (ci, 1, .inl (upd (fun _ => 0) 0 0))), (x1, .inr (0, [.ref x2, .ref x3, .ref x4])), (x2, .inl (cb, 32, .inl fk)), (x3, .inl (cb, 8, .inl fb)), (x4, .inl (cb, 8, .inl (rc_enc (rc_exp fk) fb))), (y1, .inr (0, [.ref y2, .ref y3, .ref y4])), (y2, .inl (cb, 32, .inl fk)), (y3, .inl (cb, 8, .inl fb)), (y4, .inl (cb, 8, .inl (rc_dec (rc_exp fk) fb)))] H := hP
      have hD : va_D (fun q : Nat => s.heap.size ≤ q) [(n0, .inl (ci, 1, .inl (upd (fun _ => 0) 0 0))), (x1, .inr (0, [.ref x2, .ref x3, .ref x4])), (x2, .inl (cb, 32, .inl fk)), (x3, .inl (cb, 8, .inl fb)), (x4, .inl (cb, 8, .inl (rc_enc (rc_exp fk) fb))), (y1, .inr (0, [.ref y2, .ref y3, .ref y4])), (y2, .inl (cb, 32, .inl fk)), (y3, .inl (cb, 8, .inl fb)), (y4, .inl (cb, 8, .inl (rc_dec (rc_exp fk) fb)))] := hD
      refine lv_aload hx hb dL_law_62 (lv_at hl 1 rfl) ?_
      have hFc := va_free (wc := [(x1, .inr (0, [.ref x2, .ref x3, .ref x4])), (x3, .inl (cb, 8, .inl fb)), (x4, .inl (cb, 8, .inl (rc_enc (rc_exp fk) fb)))]) hD hS hA [1, 3, 4] rfl
      refine va_callv (va_runV (As := []) (rest := []) ⟨hx, hb, hml, hown, hts⟩ (met_again l D cb ci t H.size x1 x2 x3 x4 fb (rc_enc (rc_exp fk) fb) (rc_bt_st _)) (cwV 0 hts (lw_V q242 q243 q244 q7 q245) rfl rfl rfl (by decide +kernel) ⟨Nat.le_of_ble_eq_true rfl, Nat.le_of_ble_eq_true rfl⟩) ⟨rc_Pre.blind, va_recv hK hP (ci := 0) (q0 := 1) rfl rfl, fun U hU hW => ⟨rfl, rc_Pre.pass hP hD hK hS hA hX [1, 3, 4] rfl rfl (by decide) U hU hW⟩⟩ rfl rfl hl.1 rfl (lv_room (Nat.le_of_ble_eq_true rfl)) dL_law_64 ⟨Nat.le_of_ble_eq_true rfl, Nat.le_of_ble_eq_true rfl⟩) hS (fun q _ h => hFc q h) hFc (fun u t9 H1 locs ht hvm hw hB hz hk hS => ?_)
      obtain ⟨hP, hD⟩ := rc_join (wr := [(n0, .inl (ci, 1, .inl (upd (fun _ => 0) 0 0))), (x2, .inl (cb, 32, .inl fk)), (y1, .inr (0, [.ref y2, .ref y3, .ref y4])), (y2, .inl (cb, 32, .inl fk)), (y3, .inl (cb, 8, .inl fb)), (y4, .inl (cb, 8, .inl (rc_dec (rc_exp fk) fb)))]) (w1 := [(x1, .inr (0, [.ref x2, .ref x3, .ref x4])), (x3, .inl (cb, 8, .inl (rc_enc (rc_exp fk) fb))), (x4, .inl (cb, 8, .inl (rc_enc (rc_exp fk) fb)))]) hP hD [1, 3, 4] [0, 2, 5, 6, 7, 8] rfl rfl (by decide) (by decide) hk hFc ht hB
      generalize H1 = H at hP hS ⊢
      have hP : va_P D vwCl [(n0, .inl (ci, 1, .inl (upd (fun _ => 0) 0 0))), (x2, .inl (cb, 32, .inl fk)), (y1, .inr (0, [.ref y2, .ref y3, .ref y4])), (y2, .inl (cb, 32, .inl fk)), (y3, .inl (cb, 8, .inl fb)), (y4, .inl (cb, 8, .inl (rc_dec (rc_exp fk) fb))), (x1, .inr (0, [.ref x2, .ref x3, .ref x4])), (x3, .inl (cb, 8, .inl (rc_enc (rc_exp fk) fb))), (x4, .inl (cb, 8, .inl (rc_enc (rc_exp fk) fb)))] H := hP
      have hD : va_D (fun q : Nat => s.heap.size ≤ q) [(n0, .inl (ci, 1, .inl (upd (fun _ => 0) 0 0))), (x2, .inl (cb, 32, .inl fk)), (y1, .inr (0, [.ref y2, .ref y3, .ref y4])), (y2, .inl (cb, 32, .inl fk)), (y3, .inl (cb, 8, .inl fb)), (y4, .inl (cb, 8, .inl (rc_dec (rc_exp fk) fb))), (x1, .inr (0, [.ref x2, .ref x3, .ref x4])), (x3, .inl (cb, 8, .inl (rc_enc (rc_exp fk) fb))), (x4, .inl (cb, 8, .inl (rc_enc (rc_exp fk) fb)))] := hD
      refine lv_aload hx hb dL_law_67 (lv_at hl 1 rfl) ?_
      refine lv_iload hx hb dL_law_69 (lv_at hl 2 rfl) ?_
      have hFc := va_free (wc := [(x1, .inr (0, [.ref x2, .ref x3, .ref x4])), (x2, .inl (cb, 32, .inl fk)), (x3, .inl (cb, 8, .inl (rc_enc (rc_exp fk) fb))), (x4, .inl (cb, 8, .inl (rc_enc (rc_exp fk) fb)))]) hD hS hA [6, 1, 7, 8] rfl
      refine va_callv (va_runV (As := [.int 0]) (rest := []) ⟨hx, hb, hml, hown, hts⟩ (met_open l D cb ci t H.size x1 x2 x3 x4 0 fk (rc_enc (rc_exp fk) fb) (rc_enc (rc_exp fk) fb) hbt) (cwV 1 hts (lw_V q238 q239 q240 q7 q241) rfl rfl rfl (by decide +kernel) ⟨Nat.le_of_ble_eq_true rfl, Nat.le_of_ble_eq_true rfl⟩) ⟨rc_Pre.blind, va_recv hK hP (ci := 0) (q0 := 6) rfl rfl, fun U hU hW => ⟨rfl, rc_Pre.pass hP hD hK hS hA hX [6, 1, 7, 8] rfl rfl (by decide) U hU hW⟩⟩ rfl rfl hl.1 rfl (lv_room (Nat.le_of_ble_eq_true rfl)) dL_law_71 ⟨Nat.le_of_ble_eq_true rfl, Nat.le_of_ble_eq_true rfl⟩) hS (fun q _ h => hFc q h) hFc (fun u t9 H1 locs ht hvm hw hB hz hk hS => ?_)
      obtain ⟨hP, hD⟩ := rc_join (wr := [(n0, .inl (ci, 1, .inl (upd (fun _ => 0) 0 0))), (y1, .inr (0, [.ref y2, .ref y3, .ref y4])), (y2, .inl (cb, 32, .inl fk)), (y3, .inl (cb, 8, .inl fb)), (y4, .inl (cb, 8, .inl (rc_dec (rc_exp fk) fb)))]) (w1 := [(x1, .inr (0, [.ref x2, .ref x3, .ref x4])), (x2, .inl (cb, 32, .inl fk)), (x3, .inl (cb, 8, .inl (rc_enc (rc_exp fk) fb))), (x4, .inl (cb, 8, .inl (rc_dec (rc_exp fk) (rc_enc (rc_exp fk) fb))))]) hP hD [6, 1, 7, 8] [0, 2, 3, 4, 5] rfl rfl (by decide) (by decide) hk hFc ht hB
      generalize H1 = H at hP hS ⊢
      have hP : va_P D vwCl [(n0, .inl (ci, 1, .inl (upd (fun _ => 0) 0 0))), (y1, .inr (0, [.ref y2, .ref y3, .ref y4])), (y2, .inl (cb, 32, .inl fk)), (y3, .inl (cb, 8, .inl fb)), (y4, .inl (cb, 8, .inl (rc_dec (rc_exp fk) fb))), (x1, .inr (0, [.ref x2, .ref x3, .ref x4])), (x2, .inl (cb, 32, .inl fk)), (x3, .inl (cb, 8, .inl (rc_enc (rc_exp fk) fb))), (x4, .inl (cb, 8, .inl (rc_dec (rc_exp fk) (rc_enc (rc_exp fk) fb))))] H := hP
      have hD : va_D (fun q : Nat => s.heap.size ≤ q) [(n0, .inl (ci, 1, .inl (upd (fun _ => 0) 0 0))), (y1, .inr (0, [.ref y2, .ref y3, .ref y4])), (y2, .inl (cb, 32, .inl fk)), (y3, .inl (cb, 8, .inl fb)), (y4, .inl (cb, 8, .inl (rc_dec (rc_exp fk) fb))), (x1, .inr (0, [.ref x2, .ref x3, .ref x4])), (x2, .inl (cb, 32, .inl fk)), (x3, .inl (cb, 8, .inl (rc_enc (rc_exp fk) fb))), (x4, .inl (cb, 8, .inl (rc_dec (rc_exp fk) (rc_enc (rc_exp fk) fb))))] := hD
      refine lv_aload hx hb dL_law_74 (lv_at hl 0 rfl) ?_
      have hFc := va_free (wc := [(y1, .inr (0, [.ref y2, .ref y3, .ref y4])), (y3, .inl (cb, 8, .inl fb)), (y4, .inl (cb, 8, .inl (rc_dec (rc_exp fk) fb)))]) hD hS hA [1, 3, 4] rfl
      refine va_callv (va_runV (As := []) (rest := []) ⟨hx, hb, hml, hown, hts⟩ (met_again l D cb ci t H.size y1 y2 y3 y4 fb (rc_dec (rc_exp fk) fb) (rc_bt_st _)) (cwV 0 hts (lw_V q242 q243 q244 q7 q245) rfl rfl rfl (by decide +kernel) ⟨Nat.le_of_ble_eq_true rfl, Nat.le_of_ble_eq_true rfl⟩) ⟨rc_Pre.blind, va_recv hK hP (ci := 0) (q0 := 1) rfl rfl, fun U hU hW => ⟨rfl, rc_Pre.pass hP hD hK hS hA hX [1, 3, 4] rfl rfl (by decide) U hU hW⟩⟩ rfl rfl hl.1 rfl (lv_room (Nat.le_of_ble_eq_true rfl)) dL_law_76 ⟨Nat.le_of_ble_eq_true rfl, Nat.le_of_ble_eq_true rfl⟩) hS (fun q _ h => hFc q h) hFc (fun u t9 H1 locs ht hvm hw hB hz hk hS => ?_)
      obtain ⟨hP, hD⟩ := rc_join (wr := [(n0, .inl (ci, 1, .inl (upd (fun _ => 0) 0 0))), (y2, .inl (cb, 32, .inl fk)), (x1, .inr (0, [.ref x2, .ref x3, .ref x4])), (x2, .inl (cb, 32, .inl fk)), (x3, .inl (cb, 8, .inl (rc_enc (rc_exp fk) fb))), (x4, .inl (cb, 8, .inl (rc_dec (rc_exp fk) (rc_enc (rc_exp fk) fb))))]) (w1 := [(y1, .inr (0, [.ref y2, .ref y3, .ref y4])), (y3, .inl (cb, 8, .inl (rc_dec (rc_exp fk) fb))), (y4, .inl (cb, 8, .inl (rc_dec (rc_exp fk) fb)))]) hP hD [1, 3, 4] [0, 2, 5, 6, 7, 8] rfl rfl (by decide) (by decide) hk hFc ht hB
      generalize H1 = H at hP hS ⊢
      have hP : va_P D vwCl [(n0, .inl (ci, 1, .inl (upd (fun _ => 0) 0 0))), (y2, .inl (cb, 32, .inl fk)), (x1, .inr (0, [.ref x2, .ref x3, .ref x4])), (x2, .inl (cb, 32, .inl fk)), (x3, .inl (cb, 8, .inl (rc_enc (rc_exp fk) fb))), (x4, .inl (cb, 8, .inl (rc_dec (rc_exp fk) (rc_enc (rc_exp fk) fb)))), (y1, .inr (0, [.ref y2, .ref y3, .ref y4])), (y3, .inl (cb, 8, .inl (rc_dec (rc_exp fk) fb))), (y4, .inl (cb, 8, .inl (rc_dec (rc_exp fk) fb)))] H := hP
      have hD : va_D (fun q : Nat => s.heap.size ≤ q) [(n0, .inl (ci, 1, .inl (upd (fun _ => 0) 0 0))), (y2, .inl (cb, 32, .inl fk)), (x1, .inr (0, [.ref x2, .ref x3, .ref x4])), (x2, .inl (cb, 32, .inl fk)), (x3, .inl (cb, 8, .inl (rc_enc (rc_exp fk) fb))), (x4, .inl (cb, 8, .inl (rc_dec (rc_exp fk) (rc_enc (rc_exp fk) fb)))), (y1, .inr (0, [.ref y2, .ref y3, .ref y4])), (y3, .inl (cb, 8, .inl (rc_dec (rc_exp fk) fb))), (y4, .inl (cb, 8, .inl (rc_dec (rc_exp fk) fb)))] := hD
      refine lv_aload hx hb dL_law_79 (lv_at hl 0 rfl) ?_
      refine lv_iload hx hb dL_law_81 (lv_at hl 2 rfl) ?_
      have hFc := va_free (wc := [(y1, .inr (0, [.ref y2, .ref y3, .ref y4])), (y2, .inl (cb, 32, .inl fk)), (y3, .inl (cb, 8, .inl (rc_dec (rc_exp fk) fb))), (y4, .inl (cb, 8, .inl (rc_dec (rc_exp fk) fb)))]) hD hS hA [6, 1, 7, 8] rfl
      refine va_callv (va_runV (As := [.int 0]) (rest := []) ⟨hx, hb, hml, hown, hts⟩ (met_lock l D cb ci t H.size y1 y2 y3 y4 0 fk (rc_dec (rc_exp fk) fb) (rc_dec (rc_exp fk) fb) hbt) (cwV 1 hts (lw_V q19 q20 q21 q7 q22) rfl rfl rfl (by decide +kernel) ⟨Nat.le_of_ble_eq_true rfl, Nat.le_of_ble_eq_true rfl⟩) ⟨rc_Pre.blind, va_recv hK hP (ci := 0) (q0 := 6) rfl rfl, fun U hU hW => ⟨rfl, rc_Pre.pass hP hD hK hS hA hX [6, 1, 7, 8] rfl rfl (by decide) U hU hW⟩⟩ rfl rfl hl.1 rfl (lv_room (Nat.le_of_ble_eq_true rfl)) dL_law_83 ⟨Nat.le_of_ble_eq_true rfl, Nat.le_of_ble_eq_true rfl⟩) hS (fun q _ h => hFc q h) hFc (fun u t9 H1 locs ht hvm hw hB hz hk hS => ?_)
      obtain ⟨hP, hD⟩ := rc_join (wr := [(n0, .inl (ci, 1, .inl (upd (fun _ => 0) 0 0))), (x1, .inr (0, [.ref x2, .ref x3, .ref x4])), (x2, .inl (cb, 32, .inl fk)), (x3, .inl (cb, 8, .inl (rc_enc (rc_exp fk) fb))), (x4, .inl (cb, 8, .inl (rc_dec (rc_exp fk) (rc_enc (rc_exp fk) fb))))]) (w1 := [(y1, .inr (0, [.ref y2, .ref y3, .ref y4])), (y2, .inl (cb, 32, .inl fk)), (y3, .inl (cb, 8, .inl (rc_dec (rc_exp fk) fb))), (y4, .inl (cb, 8, .inl (rc_enc (rc_exp fk) (rc_dec (rc_exp fk) fb))))]) hP hD [6, 1, 7, 8] [0, 2, 3, 4, 5] rfl rfl (by decide) (by decide) hk hFc ht hB
      generalize H1 = H at hP hS ⊢
      have hP : va_P D vwCl [(n0, .inl (ci, 1, .inl (upd (fun _ => 0) 0 0))), (x1, .inr (0, [.ref x2, .ref x3, .ref x4])), (x2, .inl (cb, 32, .inl fk)), (x3, .inl (cb, 8, .inl (rc_enc (rc_exp fk) fb))), (x4, .inl (cb, 8, .inl (rc_dec (rc_exp fk) (rc_enc (rc_exp fk) fb)))), (y1, .inr (0, [.ref y2, .ref y3, .ref y4])), (y2, .inl (cb, 32, .inl fk)), (y3, .inl (cb, 8, .inl (rc_dec (rc_exp fk) fb))), (y4, .inl (cb, 8, .inl (rc_enc (rc_exp fk) (rc_dec (rc_exp fk) fb))))] H := hP
      have hD : va_D (fun q : Nat => s.heap.size ≤ q) [(n0, .inl (ci, 1, .inl (upd (fun _ => 0) 0 0))), (x1, .inr (0, [.ref x2, .ref x3, .ref x4])), (x2, .inl (cb, 32, .inl fk)), (x3, .inl (cb, 8, .inl (rc_enc (rc_exp fk) fb))), (x4, .inl (cb, 8, .inl (rc_dec (rc_exp fk) (rc_enc (rc_exp fk) fb)))), (y1, .inr (0, [.ref y2, .ref y3, .ref y4])), (y2, .inl (cb, 32, .inl fk)), (y3, .inl (cb, 8, .inl (rc_dec (rc_exp fk) fb))), (y4, .inl (cb, 8, .inl (rc_enc (rc_exp fk) (rc_dec (rc_exp fk) fb))))] := hD
      refine lv_aload hx hb dL_law_86 (lv_at hl 1 rfl) ?_
      refine lv_aload_n hx hb dL_law_88 rfl (lv_at hl 7 rfl) ?_
      have hFc := va_free (wc := [(x1, .inr (0, [.ref x2, .ref x3, .ref x4])), (x4, .inl (cb, 8, .inl (rc_dec (rc_exp fk) (rc_enc (rc_exp fk) fb))))]) hD hS hA [1, 4] rfl
      refine va_calli (va_runS (As := [.ref x1, .ref b]) (rest := []) ⟨hx, hb, hml, hown, hts⟩ (met_same l D cb ci t H.size x1 x2 x3 x4 b L xs (rc_dec (rc_exp fk) (rc_enc (rc_exp fk) fb)) hL (hsm _ (fun j hj => rc_law_de (rc_exp fk) hbf hj))) (va_cwS 2 hts (lw_S q278 q279 q6 q280) rfl rfl rfl (by decide +kernel) ⟨Nat.le_of_ble_eq_true rfl, Nat.le_of_ble_eq_true rfl⟩) ⟨rc_PreX.blind, fun U hU hW => ⟨rfl, rc_PreX.pass hP hD hK hS hA hX hXs hbl hbA [1, 4] rfl rfl (by decide) U hU hW⟩⟩ rfl rfl hl.1 rfl (lv_room (Nat.le_of_ble_eq_true rfl)) dL_law_89 ⟨Nat.le_of_ble_eq_true rfl, Nat.le_of_ble_eq_true rfl⟩) hS (fun q _ h => hFc q h) hFc (fun r u t9 H1 locs ht hvm hw hB hz hk hS => ?_)
      obtain rfl : r = 1 := hw
      obtain ⟨hP, hD⟩ := rc_join (wr := [(n0, .inl (ci, 1, .inl (upd (fun _ => 0) 0 0))), (x2, .inl (cb, 32, .inl fk)), (x3, .inl (cb, 8, .inl (rc_enc (rc_exp fk) fb))), (y1, .inr (0, [.ref y2, .ref y3, .ref y4])), (y2, .inl (cb, 32, .inl fk)), (y3, .inl (cb, 8, .inl (rc_dec (rc_exp fk) fb))), (y4, .inl (cb, 8, .inl (rc_enc (rc_exp fk) (rc_dec (rc_exp fk) fb))))]) (w1 := [(x1, .inr (0, [.ref x2, .ref x3, .ref x4])), (x4, .inl (cb, 8, .inl (rc_dec (rc_exp fk) (rc_enc (rc_exp fk) fb))))]) hP hD [1, 4] [0, 2, 3, 5, 6, 7, 8] rfl rfl (by decide) (by decide) hk hFc ht hB
      generalize H1 = H at hP hS ⊢
      have hP : va_P D vwCl [(n0, .inl (ci, 1, .inl (upd (fun _ => 0) 0 0))), (x2, .inl (cb, 32, .inl fk)), (x3, .inl (cb, 8, .inl (rc_enc (rc_exp fk) fb))), (y1, .inr (0, [.ref y2, .ref y3, .ref y4])), (y2, .inl (cb, 32, .inl fk)), (y3, .inl (cb, 8, .inl (rc_dec (rc_exp fk) fb))), (y4, .inl (cb, 8, .inl (rc_enc (rc_exp fk) (rc_dec (rc_exp fk) fb)))), (x1, .inr (0, [.ref x2, .ref x3, .ref x4])), (x4, .inl (cb, 8, .inl (rc_dec (rc_exp fk) (rc_enc (rc_exp fk) fb))))] H := hP
      have hD : va_D (fun q : Nat => s.heap.size ≤ q) [(n0, .inl (ci, 1, .inl (upd (fun _ => 0) 0 0))), (x2, .inl (cb, 32, .inl fk)), (x3, .inl (cb, 8, .inl (rc_enc (rc_exp fk) fb))), (y1, .inr (0, [.ref y2, .ref y3, .ref y4])), (y2, .inl (cb, 32, .inl fk)), (y3, .inl (cb, 8, .inl (rc_dec (rc_exp fk) fb))), (y4, .inl (cb, 8, .inl (rc_enc (rc_exp fk) (rc_dec (rc_exp fk) fb)))), (x1, .inr (0, [.ref x2, .ref x3, .ref x4])), (x4, .inl (cb, 8, .inl (rc_dec (rc_exp fk) (rc_enc (rc_exp fk) fb))))] := hD
      refine lv_if_eq (tgt := 104) hx hb dL_law_92 (by decide) (fun c3 => ?_) (fun c3 => ?_)
      · exact absurd c3 (by decide)
      · skip
        refine lv_aload hx hb dL_law_95 (lv_at hl 0 rfl) ?_
        refine lv_aload_n hx hb dL_law_97 rfl (lv_at hl 7 rfl) ?_
        have hFc := va_free (wc := [(y1, .inr (0, [.ref y2, .ref y3, .ref y4])), (y4, .inl (cb, 8, .inl (rc_enc (rc_exp fk) (rc_dec (rc_exp fk) fb))))]) hD hS hA [3, 6] rfl
        refine va_calli (va_runS (As := [.ref y1, .ref b]) (rest := []) ⟨hx, hb, hml, hown, hts⟩ (met_same l D cb ci t H.size y1 y2 y3 y4 b L xs (rc_enc (rc_exp fk) (rc_dec (rc_exp fk) fb)) hL (hsm _ (fun j hj => rc_law_ed (rc_exp fk) hbf hj))) (va_cwS 2 hts (lw_S q278 q279 q6 q280) rfl rfl rfl (by decide +kernel) ⟨Nat.le_of_ble_eq_true rfl, Nat.le_of_ble_eq_true rfl⟩) ⟨rc_PreX.blind, fun U hU hW => ⟨rfl, rc_PreX.pass hP hD hK hS hA hX hXs hbl hbA [3, 6] rfl rfl (by decide) U hU hW⟩⟩ rfl rfl hl.1 rfl (lv_room (Nat.le_of_ble_eq_true rfl)) dL_law_98 ⟨Nat.le_of_ble_eq_true rfl, Nat.le_of_ble_eq_true rfl⟩) hS (fun q _ h => hFc q h) hFc (fun r u t9 H1 locs ht hvm hw hB hz hk hS => ?_)
        obtain rfl : r = 1 := hw
        obtain ⟨hP, hD⟩ := rc_join (wr := [(n0, .inl (ci, 1, .inl (upd (fun _ => 0) 0 0))), (x2, .inl (cb, 32, .inl fk)), (x3, .inl (cb, 8, .inl (rc_enc (rc_exp fk) fb))), (y2, .inl (cb, 32, .inl fk)), (y3, .inl (cb, 8, .inl (rc_dec (rc_exp fk) fb))), (x1, .inr (0, [.ref x2, .ref x3, .ref x4])), (x4, .inl (cb, 8, .inl (rc_dec (rc_exp fk) (rc_enc (rc_exp fk) fb))))]) (w1 := [(y1, .inr (0, [.ref y2, .ref y3, .ref y4])), (y4, .inl (cb, 8, .inl (rc_enc (rc_exp fk) (rc_dec (rc_exp fk) fb))))]) hP hD [3, 6] [0, 1, 2, 4, 5, 7, 8] rfl rfl (by decide) (by decide) hk hFc ht hB
        generalize H1 = H at hP hS ⊢
        have hP : va_P D vwCl [(n0, .inl (ci, 1, .inl (upd (fun _ => 0) 0 0))), (x2, .inl (cb, 32, .inl fk)), (x3, .inl (cb, 8, .inl (rc_enc (rc_exp fk) fb))), (y2, .inl (cb, 32, .inl fk)), (y3, .inl (cb, 8, .inl (rc_dec (rc_exp fk) fb))), (x1, .inr (0, [.ref x2, .ref x3, .ref x4])), (x4, .inl (cb, 8, .inl (rc_dec (rc_exp fk) (rc_enc (rc_exp fk) fb)))), (y1, .inr (0, [.ref y2, .ref y3, .ref y4])), (y4, .inl (cb, 8, .inl (rc_enc (rc_exp fk) (rc_dec (rc_exp fk) fb))))] H := hP
        have hD : va_D (fun q : Nat => s.heap.size ≤ q) [(n0, .inl (ci, 1, .inl (upd (fun _ => 0) 0 0))), (x2, .inl (cb, 32, .inl fk)), (x3, .inl (cb, 8, .inl (rc_enc (rc_exp fk) fb))), (y2, .inl (cb, 32, .inl fk)), (y3, .inl (cb, 8, .inl (rc_dec (rc_exp fk) fb))), (x1, .inr (0, [.ref x2, .ref x3, .ref x4])), (x4, .inl (cb, 8, .inl (rc_dec (rc_exp fk) (rc_enc (rc_exp fk) fb)))), (y1, .inr (0, [.ref y2, .ref y3, .ref y4])), (y4, .inl (cb, 8, .inl (rc_enc (rc_exp fk) (rc_dec (rc_exp fk) fb))))] := hD
        refine lv_if_ne (tgt := 106) hx hb dL_law_101 (by decide) (fun c4 => ?_) (fun c4 => ?_)
        · skip
          refine lv_iinc (v := 1) (lv' := [(4, .int 1), (7, .ref y1), (6, .ref x1), (5, .int 0), (3, .int 1), (2, .ref n0), (1, .ref n0), (0, .ref b)]) hx hb dL_law_106 hl (k := 3) rfl (by decide) (by decide) rfl (fun ls hl => ?_)
          refine lv_goto (tgt := 24) hx hb dL_law_109 (by decide) ?_
          refine lv_iload hx hb dL_law_24 (lv_at hl 0 rfl) ?_
          refine lv_iload_n hx hb dL_law_26 rfl (lv_at hl 4 rfl) ?_
          refine lv_icmp_ge (tgt := 112) hx hb dL_law_27 (by decide) (fun c5 => ?_) (fun c5 => ?_)
          · skip
            refine lv_iconst (v := 1) hx hb dL_law_112 (by decide) ?_
            refine va_forget hS.2.2 ?_
            refine W.widen (k := 600020) (n := 7302070) (Nat.le_of_ble_eq_true rfl) (Nat.le_of_ble_eq_true rfl) ?_
            exact lw_ret hx hb hr hlocks dL_law_113
          · exact absurd (by decide) c5
        · exact absurd c4 (by decide)
  · exact absurd c1 (by decide)
end
section
set_option maxHeartbeats 4000000 in
theorem lw_walk (l : Launch) (hflags : l.flags = flags0) (b : Addr) (xs : List Int32) : MetFree l x (headSpec (Jvm.Cond.code x code maxLocals ret :: tables_1) room_1) (lw_P b xs) (fun _ _ _ _ _ => True) lw_Q := by
  refine MetFree.of_bodyS (code := code) (maxLocals := maxLocals) (ret := ret) (by decide) ?_ ?_
  · intro args s m h hn
    obtain ⟨meth, c, h1, h2, h3, h4, h5, h6, -, -⟩ := Cond.code_spec hn (atoms_spec (ws := Jvm.Cond.code x code maxLocals ret :: tables_1) h _ List.mem_cons_self)
    exact ⟨meth, c, h1, h2, h3, h4, h5, h6⟩
  · intro p e s m args below meth c s₁ B hml0 hP _
    obtain ⟨rfl, hx, hbd, hgv⟩ := hP
    obtain ⟨scr, harrAt, hlist, hof, hsmall⟩ := hx
    obtain ⟨hcb, hkn, -, -⟩ := State.arrayAt?_spec harrAt
    have hown : s.vm.findClass R_law = some m.cls := findClass_of_methodNamed B.named
    have hts0 : ∀ c ∈ (Jvm.Cond.code x code maxLocals ret :: tables_1), c.before #[Value.ref b] s = true := atoms_spec (ws := Jvm.Cond.code x code maxLocals ret :: tables_1) B.pre
    have hts : ∀ w ∈ lw_tbl, w.before #[Value.ref b] s = true := k2_hts_sels lw_privs (fun w hw => hts0 w (List.mem_cons_of_mem _ hw)) lw_privs_ok
    have hml : c.maxLocals = 8 := B.maxLocals_eq (hts0 _ List.mem_cons_self)
    have X₀ : Stand p l e room_1 s m #[Value.ref b] below meth c s₁ [] 0 0 := Stand.of_body B
    have hh0 : s₁.heap = s.heap := by rw [B.state]; rfl
    have hsz : scr.slots.size = xs.length := by rw [← Array.length_toList, hlist, List.length_map]
    have hval : ∀ j : Nat, j < xs.length → scr.slots[j]? = some (.int (xs.getD j 0)) := fun j hj => by
      rw [← Array.getElem?_toList, hlist]
      simp [hj]
    have hbl : b < s.heap.size := (Array.getElem?_eq_some_iff.mp hcb).1
    have hX : va_X b xs.length (fun j => xs.getD j 0) s s.heap := ⟨scr, hcb, hof, hkn, hsz, hval⟩
    have K : W p l e room_1 s m #[Value.ref b] below meth c s₁.heap [] 0 0 (lw_Z below #[Value.ref b] s) (entryFrame m ([Value.ref b] : List Value).toArray 8) := by
      rw [hh0]
      exact whole_start l hflags hbd ⟨B.exec, B.bytes, B.returns, hml, hown, hts, hX, hbl, B.notSynchronized, hgv⟩
    obtain ⟨t, a1, o, b1, b2, b3⟩ := K s₁ rfl X₀
    exact ⟨t, o, a1, b1, b2, b3⟩
theorem lw_pre_spec {args : Array Value} {s : State} (h : (Jvm.Cond.and given_1 narrow_1).before args s = true) (hr : rest_1_c.before args s = true) : ∃ (b : Addr) (xs : List Int32), lw_P b xs args s := by
  have hs := flat_of_before _ h
  have hq := flat_of_before _ hr
  have hc : (Cond.count 1).before args s = true := hs _ (by decide +kernel)
  have harr : (Cond.arrayOf (.arg 0) .int).before args s = true := hs _ (by decide +kernel)
  have hle : (Cond.le (.length (.arg 0)) (.int 10)).before args s = true := hs _ (by decide +kernel)
  have hlen : (Cond.isInt (.length (.arg 0))).before args s = true := hq _ (by decide +kernel)
  have hall : (Cond.all (.arg 0) (.isInt (.elem (.arg 0) (.index 0)))).before args s = true := hq _ (by decide +kernel)
  obtain ⟨b, xs, hb, hx⟩ := State.ints_of_pre rfl harr hlen hall
  have hsm : xs.length < 2 ^ 31 := hx.choose_spec.2.2.2
  have hev : (Term.length (.arg 0)).eval args s none [] s = some (.int xs.length.toInt32) := hx.length_eval hb
  have hv := Cond.le_ints hev (show (Term.int 10).eval args s none [] s = some (.int 10) from rfl)
  have hd : xs.length.toInt32 ≤ 10 := by
    simpa [Cond.before, Cond.holds, hv] using hle
  have hN : xs.length ≤ 10 := (Int32.ofNat_le_ofNat hsm (by decide)).mp (show Int32.ofNat xs.length ≤ Int32.ofNat 10 from hd)
  exact ⟨b, xs, Cond.one_arg hc (show args[0]? = some (.ref b) from hb), hx, hN, h⟩
theorem lw_comes (l : Launch) (hflags : l.flags = flags0) : Comes l x (Jvm.Cond.code x code maxLocals ret :: tables_1) room_1 (fun tb e args s => Calls_1 tb e args s ∧ rest_1 tb e args s ∧ Pre_1 tb e args s)
    (fun _ _ args s o t => lw_Q args s o t) := by
  intro p e ha hc hk s m args below hf hfit hheap happ hpre
  obtain ⟨b, xs, hP⟩ := lw_pre_spec hpre.2.2 hpre.2.1
  obtain ⟨k, o, h1, h2, h3, hQ⟩ := lw_walk l hflags b xs p e ha hc hk s m args below hf ((Spec.applies_iff_loose hf).mp happ).1 hP trivial
  exact ⟨k, o, h1, h2, h3, hQ⟩
theorem lw_frame {s t : State} {o : Outcome} {args : Array Value} (h : Framed s o t [] 600020 7302070) :
    Framed s o t (fieldLocs frame_1_writes args s ++ arrayLocs frame_1_arrays args s ++ staticLocs frame_1_statics s) 600020 7302070 := h
theorem lw_limb (L : Cond) (hL : ∀ (args : Array Value) (s t : State), L.after args s (.returned (some (.int 1))) t = true) :
    ArmFor flags0 classFile x code maxLocals ret World_1 tables_1 room_1 Calls_1 rest_1 Pre_1
      (fun tb e a s o t => postC L tb e a s o t ∧ Framed s o t (fieldLocs frame_1_writes a s ++ arrayLocs frame_1_arrays a s ++ staticLocs frame_1_statics s) 600020 7302070) := by
  intro l hflags _ _ p e ha hc hk s m args below hf hfit hheap happ hpre
  obtain ⟨k, o, h1, h2, h3, rfl, hF⟩ := lw_comes l hflags p e ha hc hk s m args below hf hfit hheap happ hpre
  exact ⟨k, _, h1, h2, h3, hL args s _, lw_frame hF⟩
theorem i_vc : Claimed_1_1 ∧ Claimed_1_2 := ⟨lw_limb limb_1_1 (fun args s t => by simp [limb_1_1, Cond.after, Cond.holds, Cond.value]), lw_limb limb_1_2 (fun args s t => Cond.after_iff.mpr (by
  first | (rw [show limb_1_2 = Cond.eq .result (.int 1) from rfl, Cond.eq_ints (x := 1) (y := 1) rfl rfl]; simp; done) | (simp [limb_1_2, Cond.value, Term.eval]; done)))⟩
end

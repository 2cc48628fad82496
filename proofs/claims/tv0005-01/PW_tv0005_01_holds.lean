import PyProof.Rows.All
import Wide.All
import OpenK.AllK
import Wide.FinOn
import PySem.Challenge.RW_tv0005_01
set_option Elab.async false
set_option linter.all false
namespace Mine
section
open PySem PySem.W PyProof.Rows
set_option maxRecDepth 100000 in
set_option maxHeartbeats 8000000 in
open_top hd for PySem.Challenge.rw_tv0005_01
end
end Mine

section
open PySem PySem.W PySem.Calls PyProof.Rows PySem.Spec
namespace Mine
abbrev PG : Program := PySem.Challenge.pw_tv0005_01
def dNone : DefRec := ⟨Str.empty, ⟨[], [], none, [], [], none, []⟩, [], ⟨.function, [], false, false, []⟩, ⟨0, 0, 0, 0⟩⟩
def recOf : Option Stmt → DefRec
  | some (.FunctionDef n a b _ _ _ sc _ _ p) => ⟨n, a, b, sc, p⟩
  | _ => dNone
def dAt (i : Nat) : DefRec := recOf PG.main.body[i]?
abbrev fdFm (T : Addr) (pm cdv : Value) : FuncData := fnOf "fmean" "fmean" (dAt 6).params (dAt 6).body (dAt 6).scope (.ref T) .none .none pm none cdv .none
abbrev bmV : List Value := [.type "ValueError", .type "Exception", .type "BaseException", .type "object"]
/-- what the code of statistics leans on -/
structure Sm (mg : Str → Option Value) (h : Heap) : Prop where
  fm : ∃ a T pm cdv oc od osl o2 n2, mg "fmean" = some (.ref a) ∧ h.get? a = some ⟨oc, od, .func (fdFm T pm cdv), osl⟩ ∧ h.CodeRec cdv "fmean" ∧ h.get? T = some o2 ∧ o2.data = .seq #[.none] n2
  fs : mg "fsum" = some (.builtin "math.fsum")
  own : ∃ C N nm q bs hdct sn sub ab col dd k0 k1 k2 k3 k5 mN, mg "StatisticsError" = some (.ref C) ∧ h.get? C = some (excClassObj nm q C N bs bmV hdct sn sub ab col dd k0 k1 k2 k3 k5 "ValueError.__new__") ∧ h.Ns N mN ∧ mN "__init__" = none ∧ mN "__str__" = none
theorem Sm.up {mg : Str → Option Value} {h h' : Heap} (x : Sm mg h) (k : ∀ b o, h.get? b = some o → h'.get? b = some o) : Sm mg h' := by
  obtain ⟨⟨a, T, pm, cdv, oc, od, osl, o2, n2, h1, h2, h3, h4, h5⟩, fs, C, N, nm, q, bs, hdct, sn, sub, ab, col, dd, k0, k1, k2, k3, k5, mN, o1, o2', o3, o4, o5⟩ := x
  exact ⟨⟨a, T, pm, cdv, oc, od, osl, o2, n2, h1, k _ _ h2, h3.keeps k, k _ _ h4, h5⟩, fs, C, N, nm, q, bs, hdct, sn, sub, ab, col, dd, k0, k1, k2, k3, k5, mN, o1, k _ _ o2', o3.keeps k, o4, o5⟩
end Mine
end

section
open PySem PySem.Float64
namespace Mine

noncomputable def K71 : Nat := Classical.choose (⟨2 ^ 1071, rfl⟩ : ∃ n : Nat, n = 2 ^ 1071)
theorem K71_eq : (2 : Nat) ^ 1071 = K71 := (Classical.choose_spec (⟨2 ^ 1071, rfl⟩ : ∃ n : Nat, n = 2 ^ 1071)).symm
theorem K71_pos : 0 < K71 := by rw [← K71_eq]; exact Nat.two_pow_pos _
theorem p74 : (2 : Nat) ^ 1074 = 8 * K71 := by
  have : (2 : Nat) ^ (3 + 1071) = 2 ^ 3 * 2 ^ 1071 := Nat.pow_add 2 3 1071
  rw [K71_eq] at this
  exact this
theorem k0 : (0 : Int) < (K71 : Int) := Int.ofNat_lt.mpr K71_pos
theorem k0' : (K71 : Int) ≠ 0 := Int.ne_of_gt k0
/-- x is n eighths -/
def Dy (x : UInt64) (n : Int) : Prop := (∃ a m e, decode x = .fin a m e) ∧ val x = n * (K71 : Int)

theorem V_have (N : Nat) (h : N < 2 ^ 53) : ∃ t, V t = N * K71 := by
  by_cases h0 : N = 0
  · exact ⟨0, by rw [h0, V_zero, Nat.zero_mul]⟩
  · have l1 : 2 ^ N.log2 ≤ N := Nat.log2_self_le h0
    have l2 : N < 2 ^ (N.log2 + 1) := Nat.lt_log2_self
    have l3 : N.log2 < 53 := (Nat.log2_lt h0).mpr h
    have e1 : 2 ^ (52 - N.log2) * 2 ^ N.log2 = 2 ^ 52 := by rw [← Nat.pow_add]; congr 1; omega
    have e2 : 2 ^ (52 - N.log2) * 2 ^ (N.log2 + 1) = 2 ^ 53 := by rw [← Nat.pow_add]; congr 1; omega
    have q1 : 2 ^ 52 ≤ N * 2 ^ (52 - N.log2) := by
      rw [← e1, Nat.mul_comm N]; exact Nat.mul_le_mul_left _ l1
    have q2 : N * 2 ^ (52 - N.log2) ≤ 2 ^ 53 := by
      rw [← e2, Nat.mul_comm N]; exact Nat.mul_le_mul_left _ (Nat.le_of_lt l2)
    refine ⟨(1071 - (52 - N.log2)) * 2 ^ 52 + N * 2 ^ (52 - N.log2), ?_⟩
    rw [V_at q2 (.inl q1), Nat.mul_assoc, ← Nat.pow_add, ← K71_eq]
    congr 2
    omega
theorem exact_of {r : UInt64} {neg : Bool} {W D N : Nat} (h : Right r neg W D) (hD : 0 < D) (hW : W = D * (N * K71)) (hN : N < 2 ^ 53) : ∃ m e, decode r = .fin neg m e ∧ val r = sgn neg (N * K71) := by
  obtain ⟨t, hr, hle, hov, hnear⟩ := h
  have hlt : t < infMag := by
    rcases Nat.lt_or_ge t infMag with h | h
    · exact h
    · exfalso
      have := hov.mp (Nat.le_antisymm hle h)
      rw [hW, show 2 * (D * (N * K71)) = D * (2 * N * K71) by ac_rfl] at this
      have h2 := Nat.le_of_mul_le_mul_left this hD
      have h4 : (2 : Nat) ^ 2045 = 2 ^ 974 * K71 := by
        have : (2 : Nat) ^ (974 + 1071) = 2 ^ 974 * 2 ^ 1071 := Nat.pow_add 2 974 1071
        rw [K71_eq] at this
        exact this
      rw [h4, ← Nat.mul_assoc] at h2
      have h5 := Nat.le_of_mul_le_mul_right h2 K71_pos
      have h6 : 2 ^ 1 ≤ (2 : Nat) ^ 974 := Nat.pow_le_pow_right (by decide) (by decide)
      generalize (2 : Nat) ^ 974 = Z at h5 h6
      have h7 : (2 ^ 54 - 1) * 2 ^ 1 ≤ (2 ^ 54 - 1) * Z := Nat.mul_le_mul_left _ h6
      omega
  obtain ⟨t', ht'⟩ := V_have N hN
  have h0 := (hnear hlt t').1
  rw [ht', hW] at h0
  have d0 : dist (D * (N * K71)) (D * (N * K71)) = 0 := by unfold dist; omega
  rw [d0] at h0
  have e1 : D * (N * K71) = D * V t := by unfold dist at h0; omega
  have e2 : V t = N * K71 := (Nat.eq_of_mul_eq_mul_left hD e1).symm
  obtain ⟨m, e, hd, _⟩ := decode_pack neg hlt
  exact ⟨m, e, hr ▸ hd, by rw [hr, val_pack neg hlt, e2]⟩

theorem sgn_abs (i : Int) : sgn (decide (i < 0)) i.natAbs = i := by
  unfold sgn
  by_cases h : i < 0
  · simp [h]; omega
  · simp [h]; omega
theorem sgn_xor (a b : Bool) (m k : Nat) : sgn (a != b) (m * k) = sgn a m * sgn b k := by
  unfold sgn
  cases a <;> cases b <;> simp [Int.neg_mul, Int.mul_neg]
theorem abs_mulK (n : Int) : (n * (K71 : Int)).natAbs = n.natAbs * K71 := by rw [Int.natAbs_mul, Int.natAbs_natCast]
theorem dy_zero {s : Bool} : Dy (zero s) 0 := by
  have h : (0 : Nat) < infMag := by decide
  obtain ⟨m, e, hd, _⟩ := decode_pack s h
  refine ⟨⟨_, m, e, hd⟩, ?_⟩
  show val (pack s 0) = _
  rw [val_pack s h, V_zero, Int.zero_mul]
  cases s <;> rfl
theorem dy_int {i : Int} (h : i.natAbs < 2 ^ 50) : Dy (ofInt i) (8 * i) := by
  obtain ⟨m, e, hd, hv⟩ := exact_of (N := 8 * i.natAbs) (ofInt_right i) (by decide) (by rw [Nat.one_mul, p74]; ac_rfl) (by omega)
  refine ⟨⟨_, m, e, hd⟩, ?_⟩
  rw [hv, Nat.mul_comm 8, Nat.mul_assoc, sgn_mul, sgn_abs, Int.natCast_mul]
  have : ((8 : Nat) : Int) = 8 := rfl
  rw [this]; ac_rfl
theorem dy_add {x y : UInt64} {n k : Int} (hx : Dy x n) (hy : Dy y k) (h : (n + k).natAbs < 2 ^ 53) : Dy (add x y) (n + k) := by
  obtain ⟨⟨a, m, e, dx⟩, vx⟩ := hx
  obtain ⟨⟨b, q, f, dy⟩, vy⟩ := hy
  obtain ⟨h1, h2⟩ := add_right dx dy
  have hv : val x + val y = (n + k) * (K71 : Int) := by rw [vx, vy, Int.add_mul]
  by_cases h0 : n + k = 0
  · rw [h1 (by rw [hv, h0, Int.zero_mul]), h0]; exact dy_zero
  · have hne : val x + val y ≠ 0 := by
      rw [hv]; exact Int.mul_ne_zero h0 k0'
    have hab : (val x + val y).natAbs = (n + k).natAbs * K71 := by rw [hv, abs_mulK]
    obtain ⟨m', e', hd, hw⟩ := exact_of (N := (n + k).natAbs) (h2 hne) (by decide) (by rw [Nat.one_mul, hab]) h
    refine ⟨⟨_, m', e', hd⟩, ?_⟩
    rw [hw, ← hab, sgn_abs, hv]
theorem dy_neg {x : UInt64} {n : Int} (hx : Dy x n) : Dy (neg x) (-n) := by
  obtain ⟨⟨a, m, e, dx⟩, vx⟩ := hx
  exact ⟨⟨_, _, _, neg_decode dx⟩, by rw [neg_val dx, vx, Int.neg_mul]⟩
theorem dy_sub {x y : UInt64} {n k : Int} (hx : Dy x n) (hy : Dy y k) (h : (n - k).natAbs < 2 ^ 53) : Dy (sub x y) (n - k) := by
  rw [Int.sub_eq_add_neg] at h ⊢
  unfold sub
  exact dy_add hx (dy_neg hy) h
theorem sgn_of {x : UInt64} {a : Bool} {m : Nat} {e : Int} (h : decode x = .fin a m e) : sgn a (val x).natAbs = val x := by
  rw [val_natAbs h, val_eq h]
theorem dy_mul {x y : UInt64} {c k : Int} (hx : Dy x (8 * c)) (hy : Dy y k) (h : (c * k).natAbs < 2 ^ 53) : Dy (mul x y) (c * k) := by
  obtain ⟨⟨a, m, e, dx⟩, vx⟩ := hx
  obtain ⟨⟨b, q, f, dy⟩, vy⟩ := hy
  have hW : (val x).natAbs * (val y).natAbs = 2 ^ 1074 * ((c * k).natAbs * K71) := by
    rw [vx, vy, abs_mulK, abs_mulK, Int.natAbs_mul, Int.natAbs_mul, p74]
    have : (8 : Int).natAbs = 8 := rfl
    rw [this]; ac_rfl
  obtain ⟨m', e', hd, hw⟩ := exact_of (mul_right dx dy) (Nat.two_pow_pos _) hW h
  refine ⟨⟨_, m', e', hd⟩, ?_⟩
  rw [p74] at hW
  have key : val (mul x y) * ((8 * K71 : Nat) : Int) = c * k * (K71 : Int) * ((8 * K71 : Nat) : Int) := by
    rw [hw, ← sgn_mul, Nat.mul_comm _ (8 * K71), ← hW, sgn_xor, sgn_of dx, sgn_of dy, vx, vy, Int.natCast_mul]
    have : ((8 : Nat) : Int) = 8 := rfl
    rw [this]; ac_rfl
  exact Int.eq_of_mul_eq_mul_right (Int.ne_of_gt (Int.ofNat_lt.mpr (Nat.mul_pos (by decide) K71_pos))) key
theorem dy_div {x y : UInt64} {n c q : Int} (hx : Dy x n) (hy : Dy y (8 * c)) (hc : c ≠ 0) (hq : n = q * c) (h : q.natAbs < 2 ^ 53) : Dy (div x y) q := by
  obtain ⟨⟨a, m, e, dx⟩, vx⟩ := hx
  obtain ⟨⟨b, k, f, dy⟩, vy⟩ := hy
  have hvy : val y ≠ 0 := by
    rw [vy]; exact Int.mul_ne_zero (Int.mul_ne_zero (by decide) hc) k0'
  have hk : k ≠ 0 := fun e0 => hvy (by rw [val_eq dy, e0, Nat.zero_mul]; cases b <;> rfl)
  have hW : (val x).natAbs * 2 ^ 1074 = (val y).natAbs * (q.natAbs * K71) := by
    rw [vy, vx, hq, abs_mulK, abs_mulK, Int.natAbs_mul, Int.natAbs_mul, p74]
    have : (8 : Int).natAbs = 8 := rfl
    rw [this]; ac_rfl
  obtain ⟨m', e', hd, hw⟩ := exact_of (div_right dx dy hk) (Int.natAbs_pos.mpr hvy) hW h
  refine ⟨⟨_, m', e', hd⟩, ?_⟩
  rw [p74] at hW
  have key : val (div x y) * val y = q * (K71 : Int) * val y := by
    have e1 : sgn b (val y).natAbs = val y := sgn_of dy
    have : val (div x y) * sgn b (val y).natAbs = q * (K71 : Int) * val y := by
      rw [hw, ← sgn_xor, show ((a != b) != b) = a by cases a <;> cases b <;> rfl, Nat.mul_comm _ (val y).natAbs, ← hW, sgn_mul, sgn_of dx, vx, hq, vy, Int.natCast_mul]
      have : ((8 : Nat) : Int) = 8 := rfl
      rw [this]; ac_rfl
    rwa [e1] at this
  exact Int.eq_of_mul_eq_mul_right hvy key
theorem dy_cmp {x y : UInt64} {n k : Int} (hx : Dy x n) (hy : Dy y k) : cmp x y = some (compare n k) := by
  obtain ⟨⟨a, m, e, dx⟩, vx⟩ := hx
  obtain ⟨⟨b, q, f, dy⟩, vy⟩ := hy
  rw [cmp_right dx dy, vx, vy]
  congr 1
  rcases Int.lt_trichotomy n k with h | h | h
  · rw [Int.compare_eq_lt.mpr h, Int.compare_eq_lt.mpr (Int.mul_lt_mul_of_pos_right h k0)]
  · subst h; simp
  · rw [Int.compare_eq_gt.mpr h, Int.compare_eq_gt.mpr (Int.mul_lt_mul_of_pos_right h k0)]
theorem dy_isZero {x : UInt64} {n : Int} (hx : Dy x n) : isZero x = decide (n = 0) := by
  obtain ⟨⟨a, m, e, dx⟩, vx⟩ := hx
  unfold isZero
  rw [dx]
  have hab := val_natAbs dx
  rw [vx, abs_mulK] at hab
  cases m with
  | zero =>
    rw [Nat.zero_mul] at hab
    have : n.natAbs = 0 := (Nat.mul_eq_zero.mp hab).resolve_right (Nat.ne_of_gt K71_pos)
    simp [Int.natAbs_eq_zero.mp this]
  | succ m =>
    have : n ≠ 0 := by
      rintro rfl
      rw [show (0 : Int).natAbs = 0 from rfl, Nat.zero_mul] at hab
      have h1 : 0 < (m + 1) * 2 ^ (e + 1074).toNat := Nat.mul_pos (by omega) (Nat.two_pow_pos _)
      omega
    simp [this]
theorem dy_fin {x : UInt64} {n : Int} (hx : Dy x n) : isFinite x = true := by
  obtain ⟨⟨a, m, e, dx⟩, vx⟩ := hx
  unfold isFinite; rw [dx]
end Mine
end

section
open PySem PySem.Float64
namespace Mine

inductive Dys : List UInt64 → List Int → Prop
  | nil : Dys [] []
  | cons {x : UInt64} {n : Int} {xs : List UInt64} {ns : List Int} : Dy x n → Dys xs ns → Dys (x :: xs) (n :: ns)
def absSum (ns : List Int) : Nat := (ns.map Int.natAbs).sum

theorem dy_cong {x : UInt64} {n k : Int} (h : Dy x n) (e : n = k) : Dy x k := e ▸ h
theorem dy_comp {t x : UInt64} {n k : Int} (ht : Dy t n) (hx : Dy x k) (h : n.natAbs + k.natAbs < 2 ^ 53) : Dy (add (sub t (add t x)) x) 0 := by
  have h1 : (n + k).natAbs < 2 ^ 53 := by omega
  have a := dy_add ht hx h1
  have b := dy_sub ht a (by omega)
  exact dy_cong (dy_add b hx (by omega)) (by omega)
theorem dy_comp' {t x : UInt64} {n k : Int} (ht : Dy t n) (hx : Dy x k) (h : n.natAbs + k.natAbs < 2 ^ 53) : Dy (add (sub x (add t x)) t) 0 := by
  have h1 : (n + k).natAbs < 2 ^ 53 := by omega
  have a := dy_add ht hx h1
  have b := dy_sub hx a (by omega)
  exact dy_cong (dy_add b ht (by omega)) (by omega)
theorem dy_sumBits : ∀ {xs : List UInt64} {ns : List Int} {t c : UInt64} {n : Int}, Dys xs ns → Dy t n → Dy c 0 → n.natAbs + absSum ns < 2 ^ 53 → Dy (PySem.Flt.sumBits xs t c) (n + ns.sum)
  | _, _, t, c, n, .nil, ht, hc, hb => by
    unfold PySem.Flt.sumBits PySem.W.Num.settled
    simp only [List.sum_nil, Int.add_zero]
    split
    · exact dy_cong (dy_add ht hc (by simp [absSum] at hb; omega)) (by omega)
    · exact ht
  | _, _, t, c, n, @Dys.cons x k xs ns hx hr, ht, hc, hb => by
    have hb' : n.natAbs + (k.natAbs + absSum ns) < 2 ^ 53 := by simpa [absSum] using hb
    unfold PySem.Flt.sumBits
    have a := dy_add ht hx (by omega)
    have hc' : Dy (add c (if cmp (abs t) (abs x) == some .lt || isNaN t || isNaN x then add (sub x (add t x)) t else add (sub t (add t x)) x)) 0 := by
      refine dy_cong (n := 0 + 0) (dy_add hc ?_ (by decide)) rfl
      split
      · exact dy_comp' ht hx (by omega)
      · exact dy_comp ht hx (by omega)
    exact dy_cong (dy_sumBits hr a hc' (by omega)) (by rw [List.sum_cons]; omega)
theorem dy_sumOf {xs : List UInt64} {ns : List Int} (h : Dys xs ns) (hb : absSum ns < 2 ^ 53) (hne : xs ≠ []) : Dy (PySem.Flt.sumOf xs) ns.sum := by
  cases h with
  | nil => exact absurd rfl hne
  | @cons x k xs ns hx hr =>
    have hb' : k.natAbs + absSum ns < 2 ^ 53 := by simpa [absSum] using hb
    unfold PySem.Flt.sumOf
    have a := dy_add (dy_int (i := 0) (by decide)) hx (by omega)
    have z : Dy (0 : UInt64) 0 := dy_zero (s := false)
    exact dy_cong (dy_sumBits hr a z (by omega)) (by rw [List.sum_cons]; omega)

-- fsum
/-- the partial sums after one number more -/
def fsStep (ps : List UInt64) (x : UInt64) : List UInt64 := if isZero (fsumAdd ps x).2 then (fsumAdd ps x).1 else (fsumAdd ps x).1 ++ [(fsumAdd ps x).2]
inductive Part : List UInt64 → Int → Prop
  | nil : Part [] 0
  | one {p : UInt64} {n : Int} : Dy p n → Part [p] n
theorem fs_add {ps : List UInt64} {n : Int} {x : UInt64} {k : Int} (h : Part ps n) (hx : Dy x k) (hb : n.natAbs + k.natAbs < 2 ^ 53) : isFinite (fsumAdd ps x).2 = true ∧ Part (fsStep ps x) (n + k) := by
  cases h with
  | nil =>
    have e : fsumAdd [] x = ([], x) := rfl
    unfold fsStep
    rw [e]
    refine ⟨dy_fin hx, ?_⟩
    simp only [dy_isZero hx]
    by_cases h0 : k = 0
    · simp only [h0, decide_true, if_true]; exact .nil
    · simp only [h0, decide_false, Bool.false_eq_true, if_false, List.nil_append, Int.zero_add]; exact .one hx
  | @one p n hp =>
    have key : ∀ (u v : UInt64) (i j : Int), Dy u i → Dy v j → i.natAbs + j.natAbs < 2 ^ 53 → i + j = n + k →
        (let hi := add u v; let lo := sub v (sub hi u); let r := fsumAdd [] hi; isFinite r.2 = true ∧ Part (if isZero r.2 then (if isZero lo then r.1 else lo :: r.1) else (if isZero lo then r.1 else lo :: r.1) ++ [r.2]) (n + k)) := fun u v i j hu hv hb' he => by
      have a := dy_add hu hv (by omega)
      have b := dy_sub hv (dy_sub a hu (by omega)) (by omega)
      have e : fsumAdd [] (add u v) = ([], add u v) := rfl
      simp only [e, dy_isZero a, dy_isZero b]
      refine ⟨dy_fin a, ?_⟩
      have hz : (j - (i + j - i)) = 0 := by omega
      simp only [hz, decide_true, if_true, List.nil_append]
      by_cases h0 : i + j = 0
      · simp only [h0, decide_true, if_true]; rw [← he, h0]; exact .nil
      · simp only [h0, decide_false, Bool.false_eq_true, if_false]; rw [← he]; exact .one a
    unfold fsStep
    unfold fsumAdd
    by_cases hl : lt (abs x) (abs p) = true
    · simp only [hl, if_true]
      exact key p x n k hp hx (by omega) rfl
    · simp only [hl, if_false]
      exact key x p k n hx hp (by omega) (by omega)
theorem fs_end {ps : List UInt64} {n : Int} (h : Part ps n) : Dy (fsumEnd ps) n := by
  cases h with
  | nil => exact dy_zero
  | one hp => exact hp
def fsAll (xs : List UInt64) : UInt64 := fsumEnd (xs.foldl fsStep [])
theorem fs_fold : ∀ {xs : List UInt64} {ns : List Int} {ps : List UInt64} {n : Int}, Dys xs ns → Part ps n → n.natAbs + absSum ns < 2 ^ 53 → Part (xs.foldl fsStep ps) (n + ns.sum)
  | _, _, ps, n, .nil, hp, _ => by simpa using hp
  | _, _, ps, n, @Dys.cons x k xs ns hx hr, hp, hb => by
    have hb' : n.natAbs + (k.natAbs + absSum ns) < 2 ^ 53 := by simpa [absSum] using hb
    rw [List.foldl_cons, List.sum_cons, ← Int.add_assoc]
    exact fs_fold hr (fs_add hp hx (by omega)).2 (by omega)
theorem fs_all {xs : List UInt64} {ns : List Int} (h : Dys xs ns) (hb : absSum ns < 2 ^ 53) : Dy (fsAll xs) ns.sum :=
  dy_cong (fs_end (fs_fold h .nil (by simpa using hb))) (by omega)
end Mine
end

section
open PySem PySem.W PySem.Calls PyProof.Rows PySem.Spec
namespace Mine

/-- every object is kept -/
def Grow (h h' : Heap) : Prop := ∀ b o, h.get? b = some o → h'.get? b = some o
theorem Grow.refl (h : Heap) : Grow h h := fun _ _ e => e
theorem Grow.trans {a b c : Heap} (x : Grow a b) (y : Grow b c) : Grow a c := fun p o e => y p o (x p o e)
theorem Grow.push (h : Heap) (o : Obj) : Grow h (h.push o) := fun _ _ e => Heap.get?_push_of_some _ e
/-- what a list or a tuple outside of X is stays -/
def Kp (X : Addr → Prop) (h h' : Heap) : Prop := ∀ b o, ¬ X b → h.get? b = some o → (o.cls = .type "list" ∨ o.cls = .type "tuple" ∨ o.cls = .type "range") → h'.get? b = some o
theorem Kp.refl (X : Addr → Prop) (h : Heap) : Kp X h h := fun _ _ _ e _ => e
theorem Kp.trans {X : Addr → Prop} {a b c : Heap} (x : Kp X a b) (y : Kp X b c) : Kp X a c := fun p o n e k => y p o n (x p o n e k) k
theorem Grow.kp {X : Addr → Prop} {a b : Heap} (x : Grow a b) : Kp X a b := fun p o _ e _ => x p o e
/-- what stands in X stands -/
def Live (X : Addr → Prop) (h : Heap) : Prop := ∀ a, X a → ∃ o, h.get? a = some o
theorem Live.up {X : Addr → Prop} {h h' : Heap} (l : Live X h) (g : Grow h h') : Live X h' := fun a x => let ⟨o, e⟩ := l a x; ⟨o, g _ _ e⟩
theorem Live.fresh {X : Addr → Prop} {h : Heap} (l : Live X h) {a : Addr} (e : h.get? a = none) : ¬ X a := fun x => by obtain ⟨o, e2⟩ := l a x; rw [e] at e2; cases e2
theorem Live.new {X : Addr → Prop} {h : Heap} (l : Live X h) : ¬ X h.objs.size := l.fresh (Heap.get?_none_of_le (Nat.le_refl _))

structure Ok (s s' : Shared) : Prop where
  grow : Grow s.heap s'.heap
  gens : s'.gens = s.gens
  drawn : s'.drawn = s.drawn
  os : s'.os = s.os
theorem Ok.refl (s : Shared) : Ok s s := ⟨Grow.refl _, rfl, rfl, rfl⟩
theorem Ok.trans {a b c : Shared} (x : Ok a b) (y : Ok b c) : Ok a c := ⟨x.grow.trans y.grow, y.gens.trans x.gens, y.drawn.trans x.drawn, y.os.trans x.os⟩
theorem Ok.mk' {s : Shared} {h' : Heap} {tk : Nat} (g : Grow s.heap h') : Ok s { s with heap := h', toks := tk } := ⟨g, rfl, rfl, rfl⟩
theorem Ok.eq {s s' : Shared} (x : Ok s s') : s' = { s with heap := s'.heap, toks := s'.toks } := by
  obtain ⟨h, g, d, t, o⟩ := s; obtain ⟨h', g', d', t', o'⟩ := s'
  obtain ⟨_, a, b, c⟩ := x
  cases a; cases b; cases c; rfl
theorem Ok.tok {s : Shared} {tk : Nat} : Ok s { s with toks := tk } := ⟨Grow.refl _, rfl, rfl, rfl⟩

inductive PV where
  | int (i : Int)
  | bool (b : Bool)
  | float (b : UInt64)
  | str (x : Str)
  | none
  | list (xs : List PV)
  | tup (xs : List PV)
  | typ (T : String)
  | rng (a b c : Int)
  | ref (a : Addr)

mutual
inductive Rep (X : Addr → Prop) (h : Heap) : Value → PV → Prop
  | int (i : Int) (t : Tok) : Rep X h (.int i t) (.int i)
  | bool (b : Bool) : Rep X h (.bool b) (.bool b)
  | float (b : UInt64) (t : Tok) : Rep X h (.float b t) (.float b)
  | str (x : Str) (t : Tok) : Rep X h (.str x t) (.str x)
  | none : Rep X h .none .none
  | typ (T : String) : Rep X h (.type T) (.typ T)
  | ref (a : Addr) : Rep X h (.ref a) (.ref a)
  | rng {a : Addr} {x y z : Int} {t u v : Tok} : ¬ X a → IsRange h a x y z t u v → Rep X h (.ref a) (.rng x y z)
  | list {a : Addr} {vs : List Value} {xs : List PV} : ¬ X a → h.PlainList a vs.toArray → Reps X h vs xs → Rep X h (.ref a) (.list xs)
  | tup {a : Addr} {vs : List Value} {xs : List PV} : ¬ X a → IsTup h a vs.toArray → Reps X h vs xs → Rep X h (.ref a) (.tup xs)
inductive Reps (X : Addr → Prop) (h : Heap) : List Value → List PV → Prop
  | nil : Reps X h [] []
  | cons {v : Value} {x : PV} {vs : List Value} {xs : List PV} : Rep X h v x → Reps X h vs xs → Reps X h (v :: vs) (x :: xs)
end

theorem isList_kp {X : Addr → Prop} {h h' : Heap} {a : Addr} {its : Array Value} (x : h.PlainList a its) (n : ¬ X a) (k : Kp X h h') : h'.PlainList a its :=
  let ⟨m, e⟩ := x; ⟨m, k _ _ n e (.inl rfl)⟩
theorem isTup_kp {X : Addr → Prop} {h h' : Heap} {a : Addr} {its : Array Value} (x : IsTup h a its) (n : ¬ X a) (k : Kp X h h') : IsTup h' a its :=
  let ⟨o, e, c, r⟩ := x; ⟨o, k _ _ n e (.inr (.inl c)), c, r⟩
mutual
theorem Rep.kp {X : Addr → Prop} {h h' : Heap} (k : Kp X h h') : ∀ {v : Value} {x : PV}, Rep X h v x → Rep X h' v x
  | _, _, .int i t => .int i t
  | _, _, .bool b => .bool b
  | _, _, .float b t => .float b t
  | _, _, .str x t => .str x t
  | _, _, .none => .none
  | _, _, .typ T => .typ T
  | _, _, .ref a => .ref a
  | _, _, .rng n l => .rng n (k _ _ n l (.inr (.inr rfl)))
  | _, _, .list n l r => .list n (isList_kp l n k) (Reps.kp k r)
  | _, _, .tup n l r => .tup n (isTup_kp l n k) (Reps.kp k r)
theorem Reps.kp {X : Addr → Prop} {h h' : Heap} (k : Kp X h h') : ∀ {vs : List Value} {xs : List PV}, Reps X h vs xs → Reps X h' vs xs
  | _, _, .nil => .nil
  | _, _, .cons a b => .cons (Rep.kp k a) (Reps.kp k b)
end
mutual
/-- another set of what is shut out: what it has more does not stand yet -/
theorem Rep.re {X X' : Addr → Prop} {h : Heap} (k : ∀ a, X' a → X a ∨ h.get? a = none) : ∀ {v : Value} {x : PV}, Rep X h v x → Rep X' h v x
  | _, _, .int i t => .int i t
  | _, _, .bool b => .bool b
  | _, _, .float b t => .float b t
  | _, _, .str x t => .str x t
  | _, _, .none => .none
  | _, _, .typ T => .typ T
  | _, _, .ref a => .ref a
  | _, _, .rng n l => .rng (fun x => (k _ x).elim n fun e => by have l' := l; unfold IsRange at l'; rw [e] at l'; cases l') l
  | _, _, .list n l r => .list (fun x => (k _ x).elim n fun e => by obtain ⟨m, e2⟩ := l; rw [e] at e2; cases e2) l (Reps.re k r)
  | _, _, .tup n l r => .tup (fun x => (k _ x).elim n fun e => by obtain ⟨m, e2, _⟩ := l; rw [e] at e2; cases e2) l (Reps.re k r)
theorem Reps.re {X X' : Addr → Prop} {h : Heap} (k : ∀ a, X' a → X a ∨ h.get? a = none) : ∀ {vs : List Value} {xs : List PV}, Reps X h vs xs → Reps X' h vs xs
  | _, _, .nil => .nil
  | _, _, .cons a b => .cons (Rep.re k a) (Reps.re k b)
end
variable {X : Addr → Prop}
theorem Rep.up {h h' : Heap} (k : Grow h h') {v : Value} {x : PV} (r : Rep X h v x) : Rep X h' v x := r.kp k.kp
theorem Reps.up {h h' : Heap} (k : Grow h h') {v : List Value} {x : List PV} (r : Reps X h v x) : Reps X h' v x := r.kp k.kp
theorem Reps.length {h : Heap} : ∀ {vs : List Value} {xs : List PV}, Reps X h vs xs → vs.length = xs.length
  | _, _, .nil => rfl
  | _, _, .cons _ r => by simp [Reps.length r]
theorem Reps.get {h : Heap} : ∀ {vs : List Value} {xs : List PV}, Reps X h vs xs → ∀ (i : Nat) (x : PV), xs[i]? = some x → ∃ v, vs[i]? = some v ∧ Rep X h v x
  | _, _, .cons a r, 0, x, e => by cases e; exact ⟨_, rfl, a⟩
  | _, _, .cons a r, i + 1, x, e => Reps.get r i x (by simpa using e)
theorem Reps.getV {h : Heap} : ∀ {vs : List Value} {xs : List PV}, Reps X h vs xs → ∀ (i : Nat) (v : Value), vs[i]? = some v → ∃ x, xs[i]? = some x ∧ Rep X h v x
  | _, _, .cons a r, 0, x, e => by cases e; exact ⟨_, rfl, a⟩
  | _, _, .cons a r, i + 1, x, e => Reps.getV r i x (by simpa using e)
theorem Reps.append {h : Heap} : ∀ {vs : List Value} {xs : List PV} {us : List Value} {ys : List PV}, Reps X h vs xs → Reps X h us ys → Reps X h (vs ++ us) (xs ++ ys)
  | _, _, _, _, .nil, r => r
  | _, _, _, _, .cons a b, r => .cons a (Reps.append b r)
theorem Reps.drop {h : Heap} : ∀ {vs : List Value} {xs : List PV} (n : Nat), Reps X h vs xs → Reps X h (vs.drop n) (xs.drop n)
  | _, _, 0, r => r
  | _, _, _ + 1, .nil => .nil
  | _, _, n + 1, .cons _ r => Reps.drop n r
theorem Reps.take {h : Heap} : ∀ {vs : List Value} {xs : List PV} (n : Nat), Reps X h vs xs → Reps X h (vs.take n) (xs.take n)
  | _, _, 0, _ => .nil
  | _, _, _ + 1, .nil => .nil
  | _, _, n + 1, .cons a r => .cons a (Reps.take n r)
theorem Reps.one {h : Heap} {vs : List Value} {x : PV} (r : Reps X h vs [x]) : ∃ u, vs = [u] ∧ Rep X h u x := by
  cases r with | cons a r => cases r with | nil => exact ⟨_, rfl, a⟩
theorem Reps.two {h : Heap} {vs : List Value} {x y : PV} (r : Reps X h vs [x, y]) : ∃ u v, vs = [u, v] ∧ Rep X h u x ∧ Rep X h v y := by
  cases r with | cons a r => cases r with | cons b r => cases r with | nil => exact ⟨_, _, rfl, a, b⟩
abbrev pints (ns : List Int) : List PV := ns.map PV.int
theorem Reps.ints {h : Heap} : ∀ {vs : List Value} {ns : List Int}, Reps X h vs (pints ns) → IntsAre vs ns
  | [], [], .nil => .nil
  | _ :: _, _ :: _, .cons a r => by cases a; exact .cons _ _ (Reps.ints r)
theorem Reps.of_ints {h : Heap} : ∀ {vs : List Value} {ns : List Int}, IntsAre vs ns → Reps X h vs (pints ns)
  | _, _, .nil => .nil
  | _, _, .cons n t r => .cons (.int n t) (Reps.of_ints r)
theorem Reps.floats {h : Heap} : ∀ {vs : List Value} {ns : List UInt64}, Reps X h vs (ns.map PV.float) → PySem.Flt.FloatsAre vs ns
  | [], [], .nil => .nil
  | _ :: _, _ :: _, .cons a r => by cases a; exact .cons _ _ (Reps.floats r)

/-- what the walk asks of the top -/
def names0 : List Str := ["len", "range", "sum", "list", "max", "isinstance", "str", "int", "bool", "float", "ValueError", "TypeError", "enumerate"]
structure Base (D : List DefRec) (mg mb : Str → Option Value) (h : Heap) : Prop where
  g : h.Ns mainGlobals mg
  b : h.Ns builtinsNs mb
  nolimit : h.NoLimit
  bb : ∀ x : Str, x ≠ "__name__" → mb x = bootBuiltins x
  nog : ∀ x ∈ names0, mg x = none
  sm : Sm mg h
  fn : ∀ d ∈ D, ∃ a o pm code doc, mg d.name = some (.ref a) ∧ h.get? a = some o ∧ o.data = .func (docDef d.name d.params d.body d.scope pm code doc) ∧ h.CodeRec code d.name
theorem Base.up {D : List DefRec} {mg mb : Str → Option Value} {h h' : Heap} (B : Base D mg mb h) (hk : Grow h h') : Base D mg mb h' where
  g := B.g.keeps hk
  b := B.b.keeps hk
  nolimit := B.nolimit.keeps hk
  bb := B.bb
  nog := B.nog
  sm := B.sm.up hk
  fn := fun d hd => let ⟨a, o, pm, code, doc, h1, h2, h3, h4⟩ := B.fn d hd; ⟨a, o, pm, code, doc, h1, hk _ _ h2, h3, h4.keeps hk⟩

/-- room for n calls more -/
structure Rm (n : Nat) (A : Around) : Prop where
  handled : A.handled = none
  depth : A.depth + n + 1 < recursionLimit
  units : A.units + 10 * n + 10 < cLine
theorem Rm.in1u {n : Nat} {A : Around} (r : Rm n A) : A.in1.units < cLine := by have := r.units; show A.units + 1 < cLine; omega
theorem Rm.lt {n : Nat} {A : Around} (r : Rm n A) : A.units < cLine := by have := r.units; omega
theorem Rm.deep {n : Nat} {A : Around} (r : Rm (n + 1) A) (env : Env) : Rm n (A.deeper env) :=
  ⟨r.handled, by have := r.depth; show A.depth + 1 + n + 1 < recursionLimit; omega, by have := r.units; show A.units + 3 + 10 * n + 10 < cLine; omega⟩
theorem Rm.less {n m : Nat} {A : Around} (r : Rm n A) (h : m ≤ n) : Rm m A := ⟨r.handled, by have := r.depth; omega, by have := r.units; omega⟩

/-- a name's value in a frame -/
inductive Has (X : Addr → Prop) (env : Env) (h : Heap) (x : Str) (pv : PV) : Prop
  | loc (m : Str → Option Value) (v : Value) : env.kindOf x = some .local → h.Ns env.locals m → m x = some v → Rep X h v pv → Has X env h x pv
  | cell (c : Addr) (v : Value) : env.kindOf x = some .cell → env.cells.lookup x = some c → h.IsCell c (some v) → Rep X h v pv → Has X env h x pv
  | free (c : Addr) (v : Value) : env.kindOf x = some .free → env.cells.lookup x = some c → h.IsCell c (some v) → Rep X h v pv → (x == ("__classdict__" : Str)) = false → Has X env h x pv
theorem Has.up {env : Env} {h h' : Heap} {x : Str} {pv : PV} (r : Has X env h x pv) (k : Grow h h') : Has X env h' x pv := by
  cases r with
  | loc m v a b c d => exact .loc m v a (b.keeps k) c (d.up k)
  | cell m v a b c d => exact .cell m v a b (c.keeps k) (d.up k)
  | free m v a b c d e => exact .free m v a b (c.keeps k) (d.up k) e
theorem Has.re {X' : Addr → Prop} {env : Env} {h : Heap} {x : Str} {pv : PV} (r : Has X env h x pv) (k : ∀ a, X' a → X a ∨ h.get? a = none) : Has X' env h x pv := by
  cases r with
  | loc m v x y c d => exact .loc m v x y c (d.re k)
  | cell m v x y c d => exact .cell m v x y c (d.re k)
  | free m v x y c d e => exact .free m v x y c (d.re k) e

abbrev Loc := List (Str × PV)
structure FnEnv (env : Env) : Prop where
  globals : env.globals = mainGlobals
  builtins : env.builtins = builtinsNs
  kind : env.scope.kind = .function

/-- the state in which an expression is read -/
structure St (D : List DefRec) (mg mb : Str → Option Value) (X : Addr → Prop) (env : Env) (h : Heap) (ρ : Loc) : Prop where
  base : Base D mg mb h
  fe : FnEnv env
  live : Live X h
  has : ∀ x pv, ρ.lookup x = some pv → Has X env h x pv
theorem St.up {D : List DefRec} {mg mb : Str → Option Value} {env : Env} {h h' : Heap} {ρ : Loc} (S : St D mg mb X env h ρ) (k : Grow h h') : St D mg mb X env h' ρ :=
  ⟨S.base.up k, S.fe, S.live.up k, fun x pv e => (S.has x pv e).up k⟩
theorem St.ok {D : List DefRec} {mg mb : Str → Option Value} {env : Env} {ρ : Loc} {s s' : Shared} (S : St D mg mb X env s.heap ρ) (k : Ok s s') : St D mg mb X env s'.heap ρ := S.up k.grow

def Ev {α : Type} (M : Model) (A : Around) (s : Shared) (t : Sem α) (P : Heap → α → Prop) : Prop :=
  wpAny M A t (fun v s' => Ok s s' ∧ P s'.heap v) (fun _ _ => False) s
theorem Ev.use {α : Type} {M : Model} {A : Around} {s : Shared} {t : Sem α} {P : Heap → α → Prop} {Q : α → Shared → Prop} {E : Value → Shared → Prop} (h : Ev M A s t P)
    (k : ∀ v s', Ok s s' → P s'.heap v → Q v s') : wpAny M A t Q E s := wpAny_mono h (fun v s' x => k v s' x.1 x.2) fun _ _ f => f.elim

section
variable (D : List DefRec) (prog : Program) (w : World) (mg mb : Str → Option Value)
/-- the expression's value -/
def EV (A : Around) (env : Env) (ρ : Loc) (e : Expr) (pv : PV) : Prop :=
  ∀ X s, St D mg mb X env s.heap ρ → Ev (model prog w) A s (eval e env) (fun h v => Rep X h v pv)
/-- the test's truth -/
def TR (A : Around) (env : Env) (ρ : Loc) (e : Expr) (t : Bool) : Prop :=
  ∀ X s, St D mg mb X env s.heap ρ → Ev (model prog w) A s (PySem.isTrue e env (eval e env)) (fun _ v => v = t)
/-- the arguments' values -/
def EVs (A : Around) (env : Env) (ρ : Loc) (pos : Pos) (es : List Expr) (pvs : List PV) : Prop :=
  ∀ X s, St D mg mb X env s.heap ρ → Ev (model prog w) A s (spliced (backTo pos (starEach es env))) (fun h vs => Reps X h vs pvs)
/-- a call of a value that does not change what stands -/
def CALL (A : Around) (f : Value) (pvs : List PV) (pv : PV) : Prop :=
  ∀ X s vs, Base D mg mb s.heap → Live X s.heap → Reps X s.heap vs pvs → Ev (model prog w) A s (call f vs []) (fun h v => Rep X h v pv)
/-- an operator on two values -/
def BIN (A : Around) (op : Operator) (x y z : PV) : Prop :=
  ∀ X s u v, Live X s.heap → Rep X s.heap u x → Rep X s.heap v y → Ev (model prog w) A s (binaryOp op u v) (fun h r => Rep X h r z)
def CMP (A : Around) (op : CmpOp) (x y : PV) (t : Bool) : Prop :=
  ∀ X s u v, Live X s.heap → Rep X s.heap u x → Rep X s.heap v y → Ev (model prog w) A s (compareOp op u v) (fun _ r => r = .bool t)
def UN (A : Around) (op : UnaryOp) (x z : PV) : Prop :=
  ∀ X s u, Live X s.heap → Rep X s.heap u x → Ev (model prog w) A s (unaryOp op u) (fun h r => Rep X h r z)
end

section
variable {D : List DefRec} {prog : Program} {w : World} {mg mb : Str → Option Value} {A : Around} {env : Env} {ρ : Loc}

theorem ev_name {x : Str} {p : Pos} {pv : PV} (hx : ρ.lookup x = some pv) (hd : (x == ("__debug__" : Str)) = false := by decide) : EV D prog w mg mb A env ρ (.Name x p) pv := fun X s S => by
  refine wpAny_Name ?_ hd
  have R := S.has x pv hx
  cases R with
  | loc m v k n e r => exact wpAny_loadName_local S.fe.kind k n e ⟨Ok.refl _, r⟩
  | cell c v k l i r => exact wpAny_loadName_cell S.fe.kind k l i ⟨Ok.refl _, r⟩
  | free c v k l i r hn => exact wpAny_loadName_free S.fe.kind k l i ⟨Ok.refl _, r⟩ hn
theorem ev_int {i : Int} {k : Nat} {p : Pos} : EV D prog w mg mb A env ρ (.Constant (.int i) k p) (.int i) := fun _ _ _ => wpAny_Constant_int ⟨Ok.tok, .int _ _⟩
theorem ev_bool {i : Bool} {k : Nat} {p : Pos} : EV D prog w mg mb A env ρ (.Constant (.bool i) k p) (.bool i) := fun _ _ _ => wpAny_Constant_bool ⟨Ok.refl _, .bool _⟩
theorem ev_none {k : Nat} {p : Pos} : EV D prog w mg mb A env ρ (.Constant .none k p) .none := fun _ _ _ => wpAny_Constant_none ⟨Ok.refl _, .none⟩
theorem ev_str {x : Str} {k : Nat} {p : Pos} : EV D prog w mg mb A env ρ (.Constant (.str x) k p) (.str x) := fun _ _ _ => Constant_str ⟨Ok.tok, .str _ _⟩

theorem ev_bin {l r : Expr} {op : Operator} {p : Pos} {x y z : PV} (hl : EV D prog w mg mb A env ρ l x) (hr : EV D prog w mg mb A env ρ r y) (ho : BIN prog w A op x y z) :
    EV D prog w mg mb A env ρ (.BinOp l op r p) z := fun X s S =>
  wpAny_BinOp (Ev.use (hl X s S) fun v s₁ o₁ r₁ => Ev.use (hr X s₁ (S.ok o₁)) fun u s₂ o₂ r₂ => Ev.use (ho X s₂ v u ((S.ok o₁).ok o₂).live (r₁.up o₂.grow) r₂) fun q s₃ o₃ r₃ => ⟨o₁.trans (o₂.trans o₃), r₃⟩)
theorem ev_un {l : Expr} {op : UnaryOp} {p : Pos} {x z : PV} (hl : EV D prog w mg mb A env ρ l x) (ho : UN prog w A op x z) :
    EV D prog w mg mb A env ρ (.UnaryOp op l p) z := fun X s S =>
  wpAny_UnaryOp (Ev.use (hl X s S) fun v s₁ o₁ r₁ => Ev.use (ho X s₁ v (S.ok o₁).live r₁) fun q s₃ o₃ r₃ => ⟨o₁.trans o₃, r₃⟩)
theorem ev_cmp {l r : Expr} {op : CmpOp} {p : Pos} {x y : PV} {t : Bool} (hl : EV D prog w mg mb A env ρ l x) (hr : EV D prog w mg mb A env ρ r y) (ho : CMP prog w A op x y t)
    (hm : behindInMarks op r = false := by rfl) : EV D prog w mg mb A env ρ (.Compare l [op] [r] p) (.bool t) := fun X s S =>
  wpAny_Compare1 (Ev.use (hl X s S) fun v s₁ o₁ r₁ => Ev.use (hr X s₁ (S.ok o₁)) fun u s₂ o₂ r₂ => Ev.use (ho X s₂ v u ((S.ok o₁).ok o₂).live (r₁.up o₂.grow) r₂) fun q s₃ o₃ r₃ => ⟨o₁.trans (o₂.trans o₃), by subst r₃; exact .bool _⟩) hm
theorem tr_cmp {l r : Expr} {op : CmpOp} {p : Pos} {x y : PV} {t : Bool} (hl : EV D prog w mg mb A env ρ l x) (hr : EV D prog w mg mb A env ρ r y) (ho : CMP prog w A op x y t)
    (hm : behindInMarks op r = false := by rfl) : TR D prog w mg mb A env ρ (.Compare l [op] [r] p) t := fun X s S =>
  wpAny_isTrue_Compare1 (Ev.use (hl X s S) fun v s₁ o₁ r₁ => Ev.use (hr X s₁ (S.ok o₁)) fun u s₂ o₂ r₂ => Ev.use (ho X s₂ v u ((S.ok o₁).ok o₂).live (r₁.up o₂.grow) r₂) fun q s₃ o₃ r₃ => by
    subst r₃; exact wpAny_truthy_bool ⟨o₁.trans (o₂.trans o₃), rfl⟩) hm
theorem tr_not {x : Expr} {p : Pos} {t : Bool} (h : TR D prog w mg mb A env ρ x t) : TR D prog w mg mb A env ρ (.UnaryOp .Not x p) (!t) := fun X s S =>
  wpAny_isTrue_Not (Ev.use (h X s S) fun v s₁ o₁ r₁ => ⟨o₁, by rw [r₁]⟩)
theorem ev_ite {t b o : Expr} {p : Pos} {c : Bool} {x y : PV} (ht : TR D prog w mg mb A env ρ t c) (hb : c = true → EV D prog w mg mb A env ρ b x) (ho : c = false → EV D prog w mg mb A env ρ o y) :
    EV D prog w mg mb A env ρ (.IfExp t b o p) (if c then x else y) := fun X s S =>
  wpAny_IfExp (Ev.use (ht X s S) fun v s₁ o₁ r₁ => by
    subst r₁
    cases v with
    | true => rw [if_pos rfl]; exact Ev.use (hb rfl X s₁ (S.ok o₁)) fun u s₂ o₂ r₂ => ⟨o₁.trans o₂, r₂⟩
    | false => rw [if_neg (by decide)]; exact Ev.use (ho rfl X s₁ (S.ok o₁)) fun u s₂ o₂ r₂ => ⟨o₁.trans o₂, r₂⟩)

theorem evs_nil {pos : Pos} : EVs D prog w mg mb A env ρ pos [] [] := fun _ _ _ => args_nil ⟨Ok.refl _, .nil⟩
theorem evs_cons {pos : Pos} {e : Expr} {es : List Expr} {x : PV} {xs : List PV} (h : EV D prog w mg mb A env ρ e x) (hs : EVs D prog w mg mb A env ρ pos es xs)
    (he : starEach (e :: es) env = (false, eval e env) :: starEach es env := by rfl) : EVs D prog w mg mb A env ρ pos (e :: es) (x :: xs) := fun X s S =>
  args_cons (Ev.use (h X s S) fun v s₁ o₁ r₁ => Ev.use (hs X s₁ (S.ok o₁)) fun vs s₂ o₂ r₂ => ⟨o₁.trans o₂, .cons (r₁.up o₂.grow) r₂⟩) he
theorem ev_list {pos : Pos} {es : List Expr} {xs : List PV} (h : EVs D prog w mg mb A env ρ pos es xs) (hn : xs.length ≤ sizeLine) : EV D prog w mg mb A env ρ (.List es pos) (.list xs) := fun X s S =>
  wpAny_List_spliced (Ev.use (h X s S) fun vs s₁ o₁ r₁ => ⟨by rw [r₁.length]; exact hn, o₁.trans (Ok.mk' (tk := s₁.toks) (Grow.push _ _)),
    .list (vs := vs) (S.ok o₁).live.new ⟨_, Heap.get?_push_size _ rfl⟩ (r₁.up (Grow.push _ _))⟩)
theorem ev_tup {pos : Pos} {k : Nat} {es : List Expr} {xs : List PV} (h : EVs D prog w mg mb A env ρ pos es xs) (hn : xs.length ≤ sizeLine) : EV D prog w mg mb A env ρ (.Tuple es k pos) (.tup xs) := fun X s S =>
  wpAny_Tuple_spliced (Ev.use (h X s S) fun vs s₁ o₁ r₁ => ⟨by rw [r₁.length]; exact hn, o₁.trans (Ok.mk' (tk := s₁.toks) (Grow.push _ _)),
    .tup (vs := vs) (S.ok o₁).live.new ⟨_, Heap.get?_push_size _ rfl, rfl, _, rfl⟩ (r₁.up (Grow.push _ _))⟩)

/-- a global name -/
theorem glob_any {x : Str} {p : Pos} {s : Shared} {v : Value} {Q : Value → Shared → Prop} {E : Value → Shared → Prop} (S : St D mg mb X env s.heap ρ) (hk : env.kindOf x = some .globalImplicit) (hv : mg x = some v) (h : Q v s)
    (hd : (x == ("__debug__" : Str)) = false := by decide) : wpAny (model prog w) A (eval (.Name x p) env) Q E s :=
  Name_function_global S.fe.kind hk (loadGlobal_global (by rw [S.fe.globals]; exact S.base.g) hv h) hd
theorem built_any {x : Str} {p : Pos} {s : Shared} {v : Value} {Q : Value → Shared → Prop} {E : Value → Shared → Prop} (S : St D mg mb X env s.heap ρ) (hk : env.kindOf x = some .globalImplicit) (hn : x ∈ names0) (hv : bootBuiltins x = some v)
    (hm : x ≠ "__name__") (h : Q v s) (hd : (x == ("__debug__" : Str)) = false := by decide) : wpAny (model prog w) A (eval (.Name x p) env) Q E s :=
  Name_function_global S.fe.kind hk (loadGlobal_builtin (by rw [S.fe.globals]; exact S.base.g) (S.base.nog x hn) (by rw [S.fe.builtins]; exact S.base.b) ((S.base.bb x hm).trans hv) h) hd

theorem ev_call_fn {f : Str} {p pos : Pos} {e : Expr} {es : List Expr} {xs : List PV} {pv : PV} {d : DefRec} (hd : d ∈ D) (hf : d.name = f) (hk : env.kindOf f = some .globalImplicit)
    (ha : EVs D prog w mg mb A env ρ pos (e :: es) xs) (hc : ∀ a, mg f = some (.ref a) → CALL D prog w mg mb A (.ref a) xs pv)
    (he : starEach (e :: es) env = (false, eval e env) :: starEach es env := by rfl) (hdb : (f == ("__debug__" : Str)) = false := by decide) :
    EV D prog w mg mb A env ρ (.Call (.Name f p) (e :: es) [] pos) pv := fun X s S => by
  obtain ⟨a, o, pm, code, doc, h1, h2, h3, h4⟩ := S.base.fn d hd
  rw [hf] at h1
  refine wpAny_Call_NameR (glob_any S hk h1 ?_ hdb)
  refine callWith_def h3 (Ev.use (ha X s S) fun vs s₁ o₁ r₁ => ⟨o₁.grow _ _ h2, ?_⟩) he
  exact Ev.use (hc a h1 X s₁ vs (S.base.up o₁.grow) (S.ok o₁).live r₁) fun u s₂ o₂ r₂ => ⟨o₁.trans o₂, r₂⟩
theorem ev_call_b {f : Str} {id : String} {p pos : Pos} {e : Expr} {es : List Expr} {xs : List PV} {pv : PV} (hk : env.kindOf f = some .globalImplicit) (hn : f ∈ names0) (hv : bootBuiltins f = some (.builtin id))
    (ha : EVs D prog w mg mb A env ρ pos (e :: es) xs) (hc : CALL D prog w mg mb A (.builtin id) xs pv)
    (he : starEach (e :: es) env = (false, eval e env) :: starEach es env := by rfl) (hp : (backTo pos (starEach es env)).any (·.1) = false := by rfl) (hm : f ≠ "__name__" := by decide) (hdb : (f == ("__debug__" : Str)) = false := by decide) :
    EV D prog w mg mb A env ρ (.Call (.Name f p) (e :: es) [] pos) pv := fun X s S => by
  refine wpAny_Call_NameR (built_any S hk hn hv hm ?_ hdb)
  refine callWith_builtin1 (Ev.use (ha X s S) fun vs s₁ o₁ r₁ => ?_) he hp
  exact Ev.use (hc X s₁ vs (S.base.up o₁.grow) (S.ok o₁).live r₁) fun u s₂ o₂ r₂ => ⟨o₁.trans o₂, r₂⟩
theorem ev_call_t {f : Str} {id : String} {p pos : Pos} {e : Expr} {es : List Expr} {xs : List PV} {pv : PV} (hk : env.kindOf f = some .globalImplicit) (hn : f ∈ names0) (hv : bootBuiltins f = some (.type id))
    (ha : EVs D prog w mg mb A env ρ pos (e :: es) xs) (hc : CALL D prog w mg mb A (.type id) xs pv)
    (he : starEach (e :: es) env = (false, eval e env) :: starEach es env := by rfl) (hp : (backTo pos (starEach es env)).any (·.1) = false := by rfl) (hm : f ≠ "__name__" := by decide) (hdb : (f == ("__debug__" : Str)) = false := by decide) :
    EV D prog w mg mb A env ρ (.Call (.Name f p) (e :: es) [] pos) pv := fun X s S => by
  refine wpAny_Call_NameR (built_any S hk hn hv hm ?_ hdb)
  refine PyProof.Rows.callWith_type1 (Ev.use (ha X s S) fun vs s₁ o₁ r₁ => ?_) he hp
  exact Ev.use (hc X s₁ vs (S.base.up o₁.grow) (S.ok o₁).live r₁) fun u s₂ o₂ r₂ => ⟨o₁.trans o₂, r₂⟩
end
end Mine
end

section
open PySem PySem.W PySem.Calls PyProof.Rows PySem.Spec
namespace Mine
section
variable {D : List DefRec} {prog : Program} {w : World} {mg mb : Str → Option Value} {A : Around} {env : Env} {ρ : Loc}

-- ints
theorem b_add (a b : Int) : BIN prog w A .Add (.int a) (.int b) (.int (a + b)) := fun X s u v hX hu hv => by cases hu; cases hv; exact PyProof.Rows.add_int ⟨Ok.tok, .int _ _⟩
theorem b_sub (a b : Int) : BIN prog w A .Sub (.int a) (.int b) (.int (a - b)) := fun X s u v hX hu hv => by cases hu; cases hv; exact PyProof.Rows.sub_int ⟨Ok.tok, .int _ _⟩
theorem b_mul (a b : Int) (h : IntMulOk a b) : BIN prog w A .Mult (.int a) (.int b) (.int (a * b)) := fun X s u v hX hu hv => by cases hu; cases hv; exact PyProof.Rows.mul_int ⟨Ok.tok, .int _ _⟩ h
theorem b_mod (a b : Int) (h : b ≠ 0) : BIN prog w A .Mod (.int a) (.int b) (.int (a.fmod b)) := fun X s u v hX hu hv => by cases hu; cases hv; exact mod_int' h ⟨Ok.tok, .int _ _⟩
theorem b_div (a b : Int) (h : b ≠ 0) (hs : b.natAbs < 1073741824) : BIN prog w A .FloorDiv (.int a) (.int b) (.int (a.fdiv b)) := fun X s u v hX hu hv => by cases hu; cases hv; exact floordiv_int h ⟨Ok.tok, .int _ _⟩ (.inl (PyProof.noPylong_small hs))
theorem b_pow (a : Int) (n : Nat) (h : (n : Int) ≤ 1000000) (h2 : a.natAbs < 2 ^ 64) : BIN prog w A .Pow (.int a) (.int n) (.int (a ^ n)) := fun X s u v hX hu hv => by
  cases hu; cases hv; exact pow_int_small (by omega) h h2 ⟨Ok.tok, .int _ _⟩
theorem b_subb (a b : Bool) : BIN prog w A .Sub (.bool a) (.bool b) (.int (b2i a - b2i b)) := fun X s u v hX hu hv => by cases hu; cases hv; exact PyProof.Rows.sub_bool ⟨Ok.tok, .int _ _⟩
theorem u_neg (a : Int) : UN prog w A .USub (.int a) (.int (-a)) := fun X s u hX hu => by cases hu; exact PyProof.Rows.neg_int ⟨Ok.tok, .int _ _⟩
theorem b_cat (xs ys : List PV) (h : xs.length + ys.length ≤ sizeLine) : BIN prog w A .Add (.list xs) (.list ys) (.list (xs ++ ys)) := fun X s u v hX hu hv => by
  cases hu with
  | @list l vs _ nl hl rl =>
  cases hv with
  | @list b ws _ nb hb rb =>
  obtain ⟨n, ho⟩ := hl
  obtain ⟨n2, ho2⟩ := hb
  have e : vs.toArray ++ ws.toArray = (vs ++ ws).toArray := by simp
  refine concat_meets ⟨_, ho, rfl⟩ ⟨_, ho2, rfl⟩ noFill_list_add seq_list_add PySem.F.slot_list_add PySem.F.entry_list_add (PySem.F.args_list_add_2 _ _) (list_addW l b vs.toArray ws.toArray n n2 none none #[] #[] (by simpa [rl.length, rb.length] using h)) ⟨ho, ho2, ?_⟩
  rw [e]
  exact ⟨Ok.mk' (tk := s.toks) (Grow.push _ _), .list hX.new ⟨_, Heap.get?_push_size _ rfl⟩ ((rl.append rb).up (Grow.push _ _))⟩

theorem c_lt (a b : Int) : CMP prog w A .Lt (.int a) (.int b) (decide (a < b)) := fun X s u v hX hu hv => by cases hu; cases hv; exact PyProof.Rows.lt_int ⟨Ok.refl _, rfl⟩
theorem c_gt (a b : Int) : CMP prog w A .Gt (.int a) (.int b) (decide (b < a)) := fun X s u v hX hu hv => by cases hu; cases hv; exact PyProof.Rows.gt_int ⟨Ok.refl _, rfl⟩
theorem c_eq (a b : Int) : CMP prog w A .Eq (.int a) (.int b) (a == b) := fun X s u v hX hu hv => by cases hu; cases hv; exact PyProof.Rows.eq_int ⟨Ok.refl _, rfl⟩
theorem c_ne (a b : Int) : CMP prog w A .NotEq (.int a) (.int b) (a != b) := fun X s u v hX hu hv => by cases hu; cases hv; exact PyProof.Rows.ne_int ⟨Ok.refl _, rfl⟩
theorem c_eqb (a b : Bool) : CMP prog w A .Eq (.bool a) (.bool b) (a == b) := fun X s u v hX hu hv => by cases hu; cases hv; exact PyProof.Rows.eq_bool ⟨Ok.refl _, rfl⟩
theorem c_eqf (a b : UInt64) : CMP prog w A .Eq (.float a) (.float b) (Float64.cmp a b == some .eq) := fun X s u v hX hu hv => by cases hu; cases hv; exact AutoFloatOps.eq_0 ⟨Ok.refl _, rfl⟩
theorem c_nef (a b : UInt64) : CMP prog w A .NotEq (.float a) (.float b) (Float64.cmp a b != some .eq) := fun X s u v hX hu hv => by cases hu; cases hv; exact AutoFloatOps.ne_0 ⟨Ok.refl _, rfl⟩
theorem c_eqs (a b : Str) : CMP prog w A .Eq (.str a) (.str b) (a == b) := fun X s u v hX hu hv => by cases hu; cases hv; exact PyProof.Rows.eq_str ⟨Ok.refl _, rfl⟩
theorem c_in (k : Int) (ns : List Int) : CMP prog w A .In (.int k) (.list (pints ns)) (ns.any (· == k)) := fun X s u v hX hu hv => by
  cases hu; cases hv with
  | list nl hl r => exact in_list_ints hl.isList r.ints ⟨Ok.refl _, rfl⟩
theorem c_notin (k : Int) (ns : List Int) : CMP prog w A .NotIn (.int k) (.list (pints ns)) (!(ns.any (· == k))) := fun X s u v hX hu hv => by
  cases hu; cases hv with
  | list nl hl r => exact notin_list_ints hl.isList r.ints ⟨Ok.refl _, rfl⟩
theorem c_isnone : CMP prog w A .Is .none .none true := fun X s u v hX hu hv => by cases hu; cases hv; exact is_none ⟨Ok.refl _, rfl⟩

-- lists of ints, alike or not
theorem range_all_eq : ∀ (xs ys : List Int), xs.length = ys.length → ((List.range xs.length).all fun j => xs.getD j 0 == ys.getD j 0) = (xs == ys)
  | [], [], _ => rfl
  | x :: xs, y :: ys, h => by
    have ih := range_all_eq xs ys (by simpa using h)
    rw [List.length_cons, List.range_succ_eq_map, List.all_cons, List.all_map]
    have e : ((fun j => (x :: xs).getD j 0 == (y :: ys).getD j 0) ∘ Nat.succ) = fun j => xs.getD j 0 == ys.getD j 0 := rfl
    rw [e, ih]
    rfl
theorem ints_getD {vs : List Value} {ns : List Int} : IntsAre vs ns → ∀ j (h : j < vs.length), ∃ t, vs[j] = .int (ns.getD j 0) t
  | .cons n t r, 0, h => ⟨t, rfl⟩
  | .cons n t r, j + 1, h => by
    obtain ⟨u, e⟩ := ints_getD r j (by simpa using h)
    exact ⟨u, by simpa using e⟩
theorem eqat_ints {s : Shared} {l b : Addr} {vs ws : List Value} {xs ys : List Int} (hl : s.heap.IsList l vs.toArray) (hb : s.heap.IsList b ws.toArray) (hi : IntsAre vs xs) (hj : IntsAre ws ys) (hu : A.units < cLine) :
    SeqAt.RcAt A s (.ref l) (.ref b) (xs == ys) ∧ SeqAt.RcNeAt A s (.ref l) (.ref b) (!(xs == ys)) := by
  by_cases hn : xs.length = ys.length
  · have hsz : vs.toArray.size = ws.toArray.size := by simp [hi.length, hj.length, hn]
    have he : ∀ j (h1 : j < vs.toArray.size) (h2 : j < ws.toArray.size), SeqAt.EqAt A.in1 s vs.toArray[j] ws.toArray[j] ((fun j => xs.getD j 0 == ys.getD j 0) j) := fun j h1 h2 => by
      obtain ⟨t, e1⟩ := ints_getD hi j (by simpa using h1)
      obtain ⟨u, e2⟩ := ints_getD hj j (by simpa using h2)
      simp only [List.getElem_toArray, e1, e2]
      exact SeqAt.EqAt.int_int _ t _ u
    have e : (List.range vs.toArray.size).all (fun j => xs.getD j 0 == ys.getD j 0) = (xs == ys) := by
      rw [show vs.toArray.size = xs.length by simp [hi.length]]
      exact range_all_eq xs ys hn
    constructor
    · rw [← e]; exact SeqAt.RcAt.lists hl hb hsz hu he
    · rw [← e]; exact SeqAt.RcNeAt.lists hl hb hsz hu he
  · have hsz : (vs.toArray.size != ws.toArray.size) = true := by simpa [hi.length, hj.length] using hn
    have e : (xs == ys) = false := by
      rw [beq_eq_false_iff_ne]
      intro h; exact hn (by rw [h])
    rw [e]
    exact ⟨SeqAt.RcAt.lists_lengths hl hb hsz hu, SeqAt.RcNeAt.lists_lengths hl hb hsz hu⟩
theorem c_eql (xs ys : List Int) (hu : A.units < cLine) : CMP prog w A .Eq (.list (pints xs)) (.list (pints ys)) (xs == ys) := fun X s u v hX hu' hv => by
  cases hu' with
  | list nl hl r => cases hv with
    | list nb hb r2 => exact (eqat_ints hl.isList hb.isList r.ints r2.ints hu).1 prog w _ _ ⟨Ok.refl _, rfl⟩
theorem c_nel (xs ys : List Int) (hu : A.units < cLine) : CMP prog w A .NotEq (.list (pints xs)) (.list (pints ys)) (!(xs == ys)) := fun X s u v hX hu' hv => by
  cases hu' with
  | list nl hl r => cases hv with
    | list nb hb r2 => exact (eqat_ints hl.isList hb.isList r.ints r2.ints hu).2 prog w _ _ ⟨Ok.refl _, rfl⟩
/-- two lists of ints, as values -/
theorem eqat_list {X : Addr → Prop} {s : Shared} {u v : Value} {xs ys : List Int} (hu : Rep X s.heap u (.list (pints xs))) (hv : Rep X s.heap v (.list (pints ys))) (hr : A.units < cLine) : SeqAt.EqAt A s u v (xs == ys) := by
  cases hu with
  | @list l vs _ nl hl r => cases hv with
    | @list b ws _ nb hb r2 =>
      by_cases hlb : l = b
      · subst hlb
        have e : vs = ws := by
          obtain ⟨n, e1⟩ := hl
          obtain ⟨n2, e2⟩ := hb
          rw [e1] at e2
          simp only [Option.some.injEq, Obj.mk.injEq, Data.seq.injEq, true_and, and_true] at e2
          simpa using e2.1
        subst e
        have e2 : xs = ys := by
          have i1 := r.ints
          have i2 := r2.ints
          clear r r2 hl hb
          induction i1 generalizing ys with
          | nil => cases i2; rfl
          | cons n t h ih => cases i2 with | cons _ _ h2 => rw [ih h2]
        subst e2
        rw [beq_self_eq_true]
        exact SeqAt.EqAt.same _
      · exact SeqAt.EqAt.of_refs hlb (eqat_ints hl.isList hb.isList r.ints r2.ints hr).1
abbrev pair2 (a b : List Int) : PV := .tup [.list (pints a), .list (pints b)]
theorem rcat_pair {X : Addr → Prop} {s : Shared} {u v : Value} {a b c d : List Int} (hu : Rep X s.heap u (pair2 a b)) (hv : Rep X s.heap v (pair2 c d)) (hr : A.units + 1 < cLine) :
    SeqAt.RcAt A s u v (a == c && b == d) ∧ SeqAt.RcNeAt A s u v (!(a == c && b == d)) := by
  cases hu with
  | @tup l vs _ nl hl r => cases hv with
    | @tup m ws _ nm hm r2 =>
      obtain ⟨x, y, rfl, r1, r1'⟩ := r.two
      obtain ⟨z, t, rfl, q1, q1'⟩ := r2.two
      have he : ∀ j (h1 : j < [x, y].toArray.size) (h2 : j < [z, t].toArray.size), SeqAt.EqAt A.in1 s [x, y].toArray[j] [z, t].toArray[j] ((fun j => if j = 0 then a == c else b == d) j) := fun j h1 h2 => by
        match j, h1, h2 with
        | 0, _, _ => exact eqat_list r1 q1 hr
        | 1, _, _ => exact eqat_list r1' q1' hr
      have k1 := SeqAt.RcAt.tuples hl hm (Nat.lt_of_succ_lt hr) he
      have k2 := SeqAt.RcNeAt.tuples hl hm (Nat.lt_of_succ_lt hr) he
      have e : ((List.range (min [x, y].toArray.size [z, t].toArray.size)).all (fun j => if j = 0 then a == c else b == d) && [x, y].toArray.size == [z, t].toArray.size) = (a == c && b == d) := by
        show ((List.range 2).all _ && _) = _
        simp [List.range_succ]
      rw [e] at k1 k2
      exact ⟨k1, k2⟩
theorem c_eqp (a b c d : List Int) (hu : A.units + 1 < cLine) : CMP prog w A .Eq (pair2 a b) (pair2 c d) (a == c && b == d) := fun X s u v hX hu' hv => (rcat_pair hu' hv hu).1 prog w _ _ ⟨Ok.refl _, rfl⟩
theorem c_nep (a b c d : List Int) (hu : A.units + 1 < cLine) : CMP prog w A .NotEq (pair2 a b) (pair2 c d) (!(a == c && b == d)) := fun X s u v hX hu' hv => (rcat_pair hu' hv hu).2 prog w _ _ ⟨Ok.refl _, rfl⟩

-- calls of built-ins
theorem k_len (xs : List PV) (h : xs.length < 2 ^ 63) : CALL D prog w mg mb A (.builtin "len") [.list xs] (.int xs.length) := fun X s vs B hX R => by
  cases R with | cons r r' => cases r' with | nil =>
    cases r with
    | @list a vs _ nl hl q =>
      refine len_list hl.isList (by simp [q.length]; omega) ⟨Ok.tok, ?_⟩
      have e : vs.toArray.size = xs.length := by simp [q.length]
      rw [e]
      exact .int _ _
theorem k_max (a b : Int) (hh : A.handled = none) : CALL D prog w mg mb A (.builtin "max") [.int a, .int b] (.int (max a b)) := fun X s vs B hX R => by
  cases R with | cons r r' => cases r' with | cons r2 r' => cases r' with | nil =>
    cases r; cases r2
    refine max_two_ints hh fun h' tk hk => ⟨Ok.mk' hk, ?_⟩
    by_cases hc : b > a
    · rw [if_pos hc, show max a b = b by omega]; exact .int _ _
    · rw [if_neg hc, show max a b = a by omega]; exact .int _ _
theorem k_copy (xs : List PV) (h : xs.length ≤ sizeLine) : CALL D prog w mg mb A (.type "list") [.list xs] (.list xs) := fun X s vs B hX R => by
  cases R with | cons r r' => cases r' with | nil =>
    cases r with
    | @list a vs _ nl hl q =>
      obtain ⟨n, ho⟩ := hl
      refine call_list_seq a (.inl rfl) ho rfl rfl (fun h' c' hk hD => ⟨Ok.mk' (tk := s.toks) hk, .list hX.new ⟨c', hD⟩ (q.up hk)⟩) (by simpa [q.length] using h)
theorem intItems_of : ∀ {vs : List Value} {ns : List Int}, IntsAre vs ns → ∃ xs : List (Int × Tok), vs = xs.map (fun p => .int p.1 p.2) ∧ xs.map (·.1) = ns
  | _, _, .nil => ⟨[], rfl, rfl⟩
  | _, _, .cons n t r => let ⟨xs, e1, e2⟩ := intItems_of r; ⟨(n, t) :: xs, by rw [e1]; rfl, by simp [e2]⟩
theorem k_sum (ns : List Int) (hh : A.handled = none) : CALL D prog w mg mb A (.builtin "sum") [.list (pints ns)] (.int ns.sum) := fun X s vs B hX R => by
  cases R with | cons r r' => cases r' with | nil =>
    cases r with
    | @list a vs _ nl hl q =>
      obtain ⟨xs, e1, e2⟩ := intItems_of q.ints
      have e3 : vs.toArray = intItems xs.toArray := by rw [e1]; simp [intItems]
      refine sum_intListG (xs := xs.toArray) hh (e3 ▸ hl.isList) fun h' tk t' hk => ⟨Ok.mk' hk, ?_⟩
      have e4 : preSum (numAt xs.toArray) xs.toArray.size = ns.sum := by
        rw [preSum_eq, List.take_of_length_le (by simp)]
        simp [← e2]
      rw [e4]
      exact .int _ _
theorem k_sumf (bs : List UInt64) (hh : A.handled = none) (h : bs.length ≠ 0) : CALL D prog w mg mb A (.builtin "sum") [.list (bs.map PV.float)] (.float (Flt.sumOf bs)) := fun X s vs B hX R => by
  cases R with | cons r r' => cases r' with | nil =>
    cases r with
    | @list a vs _ nl hl q =>
      have hf := q.floats
      refine Flt.call_sum_walkF (Flt.sumInts_map h) (Flt.iter_list_ hl.isList fun s₂ e st hfp hlI => ?_)
      subst e
      have W := (Walks.list (prog := prog) (w := w) (A := A.in1) hh _ a hlI vs.toArray).toS
      have hlen : vs.toArray.size = (bs.map WData.float).length := by simpa using hf.length
      rw [hlen] at W
      refine ⟨_, _, _, _, _, _, rfl, W, st, hfp, fun i v hP => ?_, fun s' v hv hm => ?_⟩
      · obtain ⟨b, t, rfl, e⟩ := hf.at i v (by simpa using hP)
        exact ⟨.float b, by simp [e], .float b t⟩
      · have kp := Flt.kept_iter hm.heap
        cases hv
        exact ⟨⟨kp, hm.gens, hm.drawn, hm.os⟩, .float _ _⟩
end
end Mine
end

section
open PySem PySem.W PySem.Calls PyProof.Rows PySem.Spec
namespace Mine
section
variable {D : List DefRec} {prog : Program} {w : World} {mg mb : Str → Option Value} {A : Around} {env : Env} {ρ : Loc}

abbrev SubOk (slice : Expr) : Prop := ∀ (l : Addr) (k : Int) (u : Tok), subscripted slice false (.ref l) (.int k u) = operate [.ref l, .int k u] (getItem (.ref l) (.int k u))

theorem ev_item {value slice : Expr} {p : Pos} {xs : List PV} {k : Nat} {x : PV} (hv : EV D prog w mg mb A env ρ value (.list xs)) (hk : EV D prog w mg mb A env ρ slice (.int k)) (hx : xs[k]? = some x)
    (h63 : (k : Int) < 2 ^ 63) (hs : SubOk slice := by intro _ _ _; with_unfolding_all rfl) : EV D prog w mg mb A env ρ (.Subscript value slice p) x := fun X s S =>
  Subscript_ (Ev.use (hv X s S) fun v s₁ o₁ r₁ => Ev.use (hk X s₁ (S.ok o₁)) fun u s₂ o₂ r₂ => by
    have r₁' := r₁.up o₂.grow
    cases r₁' with
    | @list a vs _ n hl q =>
      cases r₂ with
      | int i t =>
        obtain ⟨v, hv, rv⟩ := q.get k x hx
        exact tail_any hl.isList.typeIs slot_list_getitem.lookup (wpAny_getItem_list hl.isList (by omega) h63 (by simpa using hv) ⟨o₁.trans o₂, rv⟩) (hs _ _ _))
theorem ev_titem {value slice : Expr} {p : Pos} {xs : List PV} {k : Nat} {x : PV} (hv : EV D prog w mg mb A env ρ value (.tup xs)) (hk : EV D prog w mg mb A env ρ slice (.int k)) (hx : xs[k]? = some x)
    (h63 : (k : Int) < 2 ^ 63) (hs : SubOk slice := by intro _ _ _; with_unfolding_all rfl) : EV D prog w mg mb A env ρ (.Subscript value slice p) x := fun X s S =>
  Subscript_ (Ev.use (hv X s S) fun v s₁ o₁ r₁ => Ev.use (hk X s₁ (S.ok o₁)) fun u s₂ o₂ r₂ => by
    have r₁' := r₁.up o₂.grow
    cases r₁' with
    | @tup a vs _ n hl q =>
      cases r₂ with
      | int i t =>
        obtain ⟨v, hv, rv⟩ := q.get k x hx
        have hlt : k < vs.length := by
          rcases Nat.lt_or_ge k vs.length with h | h
          · exact h
          · rw [List.getElem?_eq_none h] at hv; cases hv
        refine item_tupleT hl (by omega) h63 (j := k) ?_ hv ⟨o₁.trans o₂, rv⟩ (hs _ _ _)
        unfold seqIndex?
        have e : ¬ ((k : Int) < 0) := by omega
        simp [e, hlt])

/-- a part of a slice -/
def PT (D : List DefRec) (prog : Program) (w : World) (mg mb : Str → Option Value) (A : Around) (env : Env) (ρ : Loc) (e : Option Expr) (k : Option Int) : Prop :=
  ∀ X s, St D mg mb X env s.heap ρ → Ev (model prog w) A s (evalPart e env) (fun h v => IsPart v k)
theorem pt_none : PT D prog w mg mb A env ρ none none := fun X s S => wpAny_evalPart_none ⟨Ok.refl _, .none⟩
theorem pt_some {e : Expr} {k : Int} (h : EV D prog w mg mb A env ρ e (.int k)) : PT D prog w mg mb A env ρ (some e) (some k) := fun X s S =>
  wpAny_evalPart_some (Ev.use (h X s S) fun v s₁ o₁ r₁ => ⟨o₁, by cases r₁; exact .int _ _⟩)

theorem ev_slice0 {value : Expr} {lower upper : Option Expr} {p pos : Pos} {xs ys : List PV} {lo hi : Option Int} (hv : EV D prog w mg mb A env ρ value (.list xs)) (h1 : PT D prog w mg mb A env ρ lower lo)
    (h2 : PT D prog w mg mb A env ρ upper hi) (hsz : xs.length ≤ sizeLine) (hp : ∀ (Y : Addr → Prop) h vs, Reps Y h vs xs → Reps Y h (slicePick vs.toArray lo hi none).toList ys)
    (ht : ∀ (o r : Value), letTemporaryGo value o r = pure () := by intro _ _; rfl) : EV D prog w mg mb A env ρ (.Subscript value (.Slice lower upper none p) pos) (.list ys) := fun X s S =>
  wpAny_Subscript_list_slice (Ev.use (hv X s S) fun v s₁ o₁ r₁ => Ev.use (h1 X s₁ (S.ok o₁)) fun vl s₂ o₂ r₂ => Ev.use (h2 X s₂ ((S.ok o₁).ok o₂)) fun vu s₃ o₃ r₃ => by
    have r₁' := r₁.up (o₂.trans o₃).grow
    cases r₁' with
    | @list a vs _ n hl q =>
      refine ⟨a, vs.toArray, lo, hi, rfl, hl.isList, by simpa [q.length] using hsz, r₂, r₃, ?_⟩
      have g : Grow s₃.heap ((s₃.heap.push { cls := Value.type "slice", data := Data.fields #[vl, vu, Value.none] }).push { cls := Value.type "list", data := Data.seq (slicePick vs.toArray lo hi none) }) := (Grow.push _ _).trans (Grow.push _ _)
      have LX := (((S.ok o₁).ok o₂).ok o₃).live
      refine ⟨(o₁.trans (o₂.trans o₃)).trans (Ok.mk' (tk := s₃.toks) g), .list (vs := (slicePick vs.toArray lo hi none).toList) ?_ ⟨0, ?_⟩ ((hp X _ vs q).up g)⟩
      · refine LX.fresh (Heap.get?_none_of_le ?_)
        exact Nat.le_succ _
      · have e := Heap.get?_push_size (s₃.heap.push { cls := Value.type "slice", data := Data.fields #[vl, vu, Value.none] }) (o := { cls := Value.type "list", data := Data.seq (slicePick vs.toArray lo hi none) }) rfl
        rw [Heap.size_push] at e
        exact e) ht
theorem ev_from {value e : Expr} {p pos : Pos} {xs : List PV} {k : Nat} (hv : EV D prog w mg mb A env ρ value (.list xs)) (h1 : EV D prog w mg mb A env ρ e (.int k)) (hsz : xs.length ≤ sizeLine)
    (ht : ∀ (o r : Value), letTemporaryGo value o r = pure () := by intro _ _; rfl) : EV D prog w mg mb A env ρ (.Subscript value (.Slice (some e) none none p) pos) (.list (xs.drop k)) :=
  ev_slice0 hv (pt_some h1) pt_none hsz (fun Y h vs r => by rw [slicePick_from']; simpa using r.drop k) ht
theorem ev_upto {value e : Expr} {p pos : Pos} {xs : List PV} {k : Nat} (hv : EV D prog w mg mb A env ρ value (.list xs)) (h1 : EV D prog w mg mb A env ρ e (.int k)) (hsz : xs.length ≤ sizeLine)
    (ht : ∀ (o r : Value), letTemporaryGo value o r = pure () := by intro _ _; rfl) : EV D prog w mg mb A env ρ (.Subscript value (.Slice none (some e) none p) pos) (.list (xs.take k)) :=
  ev_slice0 hv pt_none (pt_some h1) hsz (fun Y h vs r => by rw [slicePick_upto']; simpa using r.take k) ht
/-- a slice with a step, of ints -/
theorem ev_step {value st e : Expr} {p pos : Pos} {ns : List Int} {k c : Int} (hv : EV D prog w mg mb A env ρ value (.list (pints ns))) (h1 : EV D prog w mg mb A env ρ e (.int k)) (h2 : EV D prog w mg mb A env ρ st (.int c)) (hc : c ≠ 0) (hsz : ns.length ≤ sizeLine)
    (ht : ∀ (o r : Value), letTemporaryGo value o r = pure () := by intro _ _; rfl) : EV D prog w mg mb A env ρ (.Subscript value (.Slice (some e) none (some st) p) pos) (.list (pints (pickNums ns (some k) none (some c)))) := fun X s S =>
  wpAny_Subscript_Slice_step slot_list_getitem.lookup (Ev.use (hv X s S) fun v s₁ o₁ r₁ =>
    wpAny_Slice (Ev.use (pt_some h1 X s₁ (S.ok o₁)) fun vl s₂ o₂ r₂ => Ev.use (pt_none X s₂ ((S.ok o₁).ok o₂)) fun vu s₃ o₃ r₃ => Ev.use (pt_some h2 X s₃ (((S.ok o₁).ok o₂).ok o₃)) fun vs s₄ o₄ r₄ => by
      have g1 : Grow s₄.heap (s₄.heap.push { cls := Value.type "slice", data := Data.fields #[vl, vu, vs] }) := Grow.push _ _
      have r₁' := (r₁.up ((o₂.trans o₃).trans o₄).grow).up g1
      cases r₁' with
      | @list a us _ n hl q =>
        refine ⟨hl.isList.typeIs, ?_⟩
        have LX := ((((S.ok o₁).ok o₂).ok o₃).ok o₄).live
        have g2 : Grow (s₄.heap.push { cls := Value.type "slice", data := Data.fields #[vl, vu, vs] }) ((s₄.heap.push { cls := Value.type "slice", data := Data.fields #[vl, vu, vs] }).push { cls := Value.type "list", data := Data.seq (slicePick us.toArray (some k) none (some c)) }) := Grow.push _ _
        refine wpAny_getItem_list_slice hl.isList (vl := vl) (vu := vu) (vs := vs) ⟨_, Heap.get?_push_size _ rfl, rfl, rfl⟩ r₂ r₃ r₄ (fun e => hc (Option.some.inj e)) ?_ (by simpa [q.length] using hsz)
        refine ⟨((((o₁.trans o₂).trans o₃).trans o₄).trans (Ok.mk' (tk := s₄.toks) (g1.trans g2))), .list (vs := (slicePick us.toArray (some k) none (some c)).toList) ?_ ⟨0, ?_⟩ (Reps.of_ints (q.ints.pick _ _ _))⟩
        · exact (LX.up g1).new
        · exact Heap.get?_push_size _ rfl)) ht

-- isinstance
theorem k_isi_int (i : Int) : CALL D prog w mg mb A (.builtin "isinstance") [.int i, .typ "int"] (.bool true) := fun X s vs B hX R => by
  obtain ⟨u, v, rfl, r1, r2⟩ := R.two
  cases r1; cases r2
  exact call_isinstance_yes (typeIs_int s _ _) (by kernel_rfl) (by rw [isSubtype_type]; kernel_rfl) ⟨Ok.refl _, .bool _⟩
theorem k_isi_bool (i : Int) : CALL D prog w mg mb A (.builtin "isinstance") [.int i, .typ "bool"] (.bool false) := fun X s vs B hX R => by
  obtain ⟨u, v, rfl, r1, r2⟩ := R.two
  cases r1; cases r2
  exact call_isinstance (isinstance_false_int (by decide) (by kernel_rfl) (by rw [isSubtype_type]; kernel_rfl)) ⟨Ok.tok, .bool _⟩
theorem k_isi_float (i : UInt64) : CALL D prog w mg mb A (.builtin "isinstance") [.float i, .typ "float"] (.bool true) := fun X s vs B hX R => by
  obtain ⟨u, v, rfl, r1, r2⟩ := R.two
  cases r1; cases r2
  exact call_isinstance_yes (show s.TypeIs _ "float" from rfl) (by kernel_rfl) (by rw [isSubtype_type]; kernel_rfl) ⟨Ok.refl _, .bool _⟩
theorem ev_type {f : Str} {T : String} {p : Pos} (hk : env.kindOf f = some .globalImplicit) (hn : f ∈ names0) (hv : bootBuiltins f = some (.type T)) (hm : f ≠ "__name__" := by decide) (hdb : (f == ("__debug__" : Str)) = false := by decide) :
    EV D prog w mg mb A env ρ (.Name f p) (.typ T) := fun X s S => built_any S hk hn hv hm ⟨Ok.refl _, .typ _⟩ hdb

-- and, or
/-- the value's truth, by its kind -/
inductive Truth : PV → Bool → Prop
  | bool (b : Bool) : Truth (.bool b) b
  | int (i : Int) : Truth (.int i) (i != 0)
  | list (xs : List PV) : xs.length < 2 ^ 63 → Truth (.list xs) (!xs.isEmpty)
theorem truth {pv : PV} {t : Bool} (h : Truth pv t) {X : Addr → Prop} {s : Shared} {v : Value} (r : Rep X s.heap v pv) : Ev (model prog w) A s (truthy v) (fun _ b => b = t) := by
  cases h with
  | bool => cases r; exact wpAny_truthy_bool ⟨Ok.refl _, rfl⟩
  | int => cases r; exact PyProof.Rows.truthy_int ⟨Ok.refl _, rfl⟩
  | list xs hx => cases r with
    | @list a vs _ n hl q =>
      refine wpAny_truthy_list hl.isList (by simp [q.length]; omega) ⟨Ok.tok, ?_⟩
      have := q.length
      cases vs <;> cases xs <;> simp_all
theorem tr_val {e : Expr} {pv : PV} {t : Bool} (h : EV D prog w mg mb A env ρ e pv) (ht : Truth pv t)
    (he : PySem.isTrue e env (eval e env) = (do let v ← eval e env; standAt e.pos; holding [v] (truthy v)) := by rfl) : TR D prog w mg mb A env ρ e t := fun X s S =>
  wpAny_isTrue_value (Ev.use (h X s S) fun v s₁ o₁ r₁ => Ev.use (truth ht r₁) fun b s₂ o₂ r₂ => ⟨o₁.trans o₂, r₂⟩) he
/-- three, all true but perhaps the last -/
theorem ev_and3 {a b c : Expr} {p : Pos} {x y z : PV} (ha : EV D prog w mg mb A env ρ a x) (hx : Truth x true) (hb : EV D prog w mg mb A env ρ b y) (hy : Truth y true) (hc : EV D prog w mg mb A env ρ c z) :
    EV D prog w mg mb A env ρ (.BoolOp .And [a, b, c] p) z := fun X s S => by
  show wpAny _ A (eval a env >>= fun v => _) _ _ s
  refine wpAny_bind (Ev.use (ha X s S) fun v s₁ o₁ r₁ => wpAny_bind (wpAny_standAt (wpAny_bind (wpAny_holding (Ev.use (truth hx r₁) fun t s₂ o₂ e₂ => ?_)))))
  subst e₂
  show wpAny _ A (eval b env >>= fun v => _) _ _ s₂
  refine wpAny_bind (Ev.use (hb X s₂ ((S.ok o₁).ok o₂)) fun v s₃ o₃ r₃ => wpAny_bind (wpAny_standAt (wpAny_bind (wpAny_holding (Ev.use (truth hy r₃) fun t s₄ o₄ e₄ => ?_)))))
  subst e₄
  show wpAny _ A (eval c env) _ _ s₄
  exact Ev.use (hc X s₄ ((((S.ok o₁).ok o₂).ok o₃).ok o₄)) fun v s₅ o₅ r₅ => ⟨o₁.trans (o₂.trans (o₃.trans (o₄.trans o₅))), r₅⟩
theorem ev_not {x : Expr} {p : Pos} {pv : PV} {t : Bool} (h : EV D prog w mg mb A env ρ x pv) (ht : Truth pv t) : EV D prog w mg mb A env ρ (.UnaryOp .Not x p) (.bool (!t)) := fun X s S =>
  wpAny_UnaryOp (Ev.use (h X s S) fun v s₁ o₁ r₁ => not_of (Ev.use (truth ht r₁) fun b s₂ o₂ r₂ => ⟨o₁.trans o₂, by subst r₂; exact .bool _⟩))
/-- or, all false -/
theorem tr_or_nil : ∀ X s, St D mg mb X env s.heap ρ → Ev (model prog w) A s (allTrue .Or [] env) (fun _ v => v = false) := fun X s S => wpAny_allTrue_Or_nil ⟨Ok.refl _, rfl⟩
theorem tr_or_cons {x : Expr} {rest : List Expr} (h : TR D prog w mg mb A env ρ x false) (hr : ∀ X s, St D mg mb X env s.heap ρ → Ev (model prog w) A s (allTrue .Or rest env) (fun _ v => v = false)) :
    ∀ X s, St D mg mb X env s.heap ρ → Ev (model prog w) A s (allTrue .Or (x :: rest) env) (fun _ v => v = false) := fun X s S =>
  wpAny_allTrue_Or_cons (Ev.use (h X s S) fun b s₁ o₁ r₁ => by
    subst r₁
    rw [if_neg (by decide)]
    exact Ev.use (hr X s₁ (S.ok o₁)) fun b s₂ o₂ r₂ => ⟨o₁.trans o₂, r₂⟩)
theorem tr_or {xs : List Expr} {p : Pos} (h : ∀ X s, St D mg mb X env s.heap ρ → Ev (model prog w) A s (allTrue .Or xs env) (fun _ v => v = false)) : TR D prog w mg mb A env ρ (.BoolOp .Or xs p) false := fun X s S =>
  wpAny_isTrue_BoolOp (h X s S)
/-- a < b < c as a test -/
theorem tr_chain {a b c : Expr} {o1 o2 : CmpOp} {p : Pos} {x y z : PV} {t1 t2 : Bool} (ha : EV D prog w mg mb A env ρ a x) (hb : EV D prog w mg mb A env ρ b y) (hc : EV D prog w mg mb A env ρ c z)
    (h1 : CMP prog w A o1 x y t1) (h2 : CMP prog w A o2 y z t2) (hm : lastMarks [o1, o2] [b, c] = false := by with_unfolding_all rfl) : TR D prog w mg mb A env ρ (.Compare a [o1, o2] [b, c] p) (t1 && t2) := fun X s S =>
  isTrue_chain (Ev.use (ha X s S) fun v s₁ o₁ r₁ => test_link (Ev.use (hb X s₁ (S.ok o₁)) fun u s₂ o₂ r₂ => Ev.use (h1 X s₂ v u ((S.ok o₁).ok o₂).live (r₁.up o₂.grow) r₂) fun q s₃ o₃ r₃ => by
    subst r₃
    refine wpAny_truthy_bool ?_
    cases t1 with
    | false => exact ⟨o₁.trans (o₂.trans o₃), rfl⟩
    | true =>
      exact test_last (Ev.use (hc X s₃ (((S.ok o₁).ok o₂).ok o₃)) fun k s₄ o₄ r₄ => Ev.use (h2 X s₄ u k ((((S.ok o₁).ok o₂).ok o₃).ok o₄).live (r₂.up (o₃.trans o₄).grow) r₄) fun q s₅ o₅ r₅ => by
        subst r₅
        exact wpAny_truthy_bool ⟨o₁.trans (o₂.trans (o₃.trans (o₄.trans o₅))), rfl⟩))) hm

-- methods of lists
theorem ev_count {o e : Expr} {apos pos : Pos} {ns : List Int} {k : Int} (ho : EV D prog w mg mb A env ρ o (.list (pints ns))) (he : EV D prog w mg mb A env ρ e (.int k))
    (h1 : attributeBase o "count" env (eval o env) = eval o env := by rfl) (h2 : (apos.endLine == pos.line) = true := by rfl) (h3 : backTo pos (starEach [e] env) = [(false, eval e env)] := by rfl) :
    EV D prog w mg mb A env ρ (.Call (.Attribute o "count" apos) [e] [] pos) (.int (ns.count k : Nat)) := fun X s S =>
  wpAny_Call_method1_late h1 h2 h3 (Ev.use (ho X s S) fun v s₁ o₁ r₁ => by
    cases r₁ with
    | @list a vs _ n hl q =>
      obtain ⟨m, e0⟩ := hl
      refine ⟨"list", "list.count", PySem.F.plainAttrs_list, PySem.F.slot_list_count, by kernel_rfl, ⟨_, e0, rfl⟩, fun b e => by cases e; exact ⟨_, e0, rfl⟩, ?_⟩
      refine callWith_builtin (by rfl) (evalArgs_plain (spliced_cons (Ev.use (he X s₁ (S.ok o₁)) fun u s₂ o₂ r₂ => spliced_nil ?_)))
      cases r₂ with
      | int i t => exact count_list_ints (Heap.PlainList.isList ⟨m, o₂.grow _ _ e0⟩) q.ints ⟨(o₁.trans o₂).trans Ok.tok, .int _ _⟩)
end
end Mine
end

section
open PySem PySem.W PySem.Calls PyProof.Rows PySem.Spec
namespace Mine

/-- all but what lies in T is kept -/
structure But (T : Addr → Prop) (s s' : Shared) : Prop where
  keep : ∀ b o, ¬ T b → s.heap.get? b = some o → s'.heap.get? b = some o
  gens : s'.gens = s.gens
  drawn : s'.drawn = s.drawn
  os : s'.os = s.os
theorem But.refl (T : Addr → Prop) (s : Shared) : But T s s := ⟨fun _ _ _ e => e, rfl, rfl, rfl⟩
theorem But.trans {T : Addr → Prop} {a b c : Shared} (x : But T a b) (y : But T b c) : But T a c := ⟨fun p o n e => y.keep p o n (x.keep p o n e), y.gens.trans x.gens, y.drawn.trans x.drawn, y.os.trans x.os⟩
theorem Ok.but {T : Addr → Prop} {s s' : Shared} (x : Ok s s') : But T s s' := ⟨fun b o _ e => x.grow b o e, x.gens, x.drawn, x.os⟩
theorem But.more {T T' : Addr → Prop} {s s' : Shared} (x : But T s s') (h : ∀ a, T a → T' a) : But T' s s' := ⟨fun b o n e => x.keep b o (fun t => n (h b t)) e, x.gens, x.drawn, x.os⟩
theorem But.same {T : Addr → Prop} {s : Shared} {h' : Heap} {tk : Nat} {a : Addr} (x : Heap.SameBut a s.heap h') (ha : T a) : But T s { s with heap := h', toks := tk } :=
  ⟨fun b o n e => (x.2 b (fun q => n (q ▸ ha))).trans e, rfl, rfl, rfl⟩
theorem But.kp {T X : Addr → Prop} {s s' : Shared} (x : But T s s') (h : ∀ a, T a → X a) : Kp X s.heap s'.heap := fun b o n e _ => x.keep b o (fun t => n (h b t)) e
/-- what T shuts out does not stand in g -/
def New (T : Addr → Prop) (g : Heap) : Prop := ∀ a, T a → g.get? a = none
theorem But.grow {T : Addr → Prop} {g : Heap} {s s' : Shared} (x : But T s s') (n : New T g) (k : Grow g s.heap) : Grow g s'.heap := fun b o e => x.keep b o (fun t => by rw [n b t] at e; cases e) (k b o e)

section
variable {D : List DefRec} {prog : Program} {w : World} {mg mb : Str → Option Value} {A : Around} {env : Env} {ρ : Loc}

/-- where a name can be stored: its place lies in T -/
inductive Slot (T : Addr → Prop) (env : Env) (h : Heap) (x : Str) : Prop
  | loc (m : Str → Option Value) : env.kindOf x = some .local → h.Ns env.locals m → T env.locals → Slot T env h x
  | cell (c : Addr) (v : Option Value) : env.kindOf x = some .cell → env.cells.lookup x = some c → h.IsCell c v → T c → Slot T env h x
theorem Slot.kept {T : Addr → Prop} {h h' : Heap} {x : Str} (S : Slot T env h x) (k : ∀ b o, T b → h.get? b = some o → h'.get? b = some o) : Slot T env h' x := by
  cases S with
  | loc m a b t => exact .loc m a (b.at' fun o e => k _ o t e) t
  | cell c v a b i t => exact .cell c v a b (let ⟨o, e, d⟩ := i; ⟨o, k _ o t e, d⟩) t
theorem ns_ne_cell {h : Heap} {a c : Addr} {m : Str → Option Value} {v : Option Value} (n : h.Ns a m) (i : h.IsCell c v) : a ≠ c := by
  rintro rfl
  obtain ⟨o, es, ep, e, d, _⟩ := n
  obtain ⟨o', e', d'⟩ := i
  rw [e] at e'; cases e'
  rw [d] at d'; cases d'
theorem ns_ne_list {h : Heap} {a c : Addr} {m : Str → Option Value} {its : Array Value} (n : h.Ns a m) (i : h.PlainList c its) : a ≠ c := by
  rintro rfl
  obtain ⟨o, es, ep, e, d, _⟩ := n
  obtain ⟨o', e'⟩ := i
  rw [e] at e'; cases e'
  cases d
theorem cell_ne_list {h : Heap} {a c : Addr} {v : Option Value} {its : Array Value} (n : h.IsCell a v) (i : h.PlainList c its) : a ≠ c := by
  rintro rfl
  obtain ⟨o, e, d⟩ := n
  obtain ⟨o', e'⟩ := i
  rw [e] at e'; cases e'
  cases d
theorem Slot.same {T : Addr → Prop} {h h' : Heap} {x : Str} {a : Addr} (S : Slot T env h x) (k : Heap.SameBut a h h') (h1 : ∀ m, h.Ns env.locals m → env.locals ≠ a) (h2 : ∀ c v, h.IsCell c v → c ≠ a) : Slot T env h' x := by
  cases S with
  | loc m p b t => exact .loc m p (b.sameBut k (h1 m b)) t
  | cell c v p b i t => exact .cell c v p b (i.sameBut k (h2 c v i)) t

/-- a store -/
theorem store {T X : Addr → Prop} {s : Shared} {x : Str} {v : Value} {pv : PV} {E : Value → Shared → Prop} {Q : Unit → Shared → Prop} (fe : FnEnv env) (S : Slot T env s.heap x) (hT : ∀ a, T a → X a) (r : Rep X s.heap v pv)
    (h : ∀ s', But T s s' → Has X env s'.heap x pv → (∀ y, Slot T env s.heap y → Slot T env s'.heap y) →
      (∀ y u, y ≠ x → env.kindOf y = some .local → env.kindOf x = some .local → Has X env s.heap y u → Has X env s'.heap y u) →
      (∀ y u, env.kindOf y ≠ some .local → env.kindOf x = some .local → Has X env s.heap y u → Has X env s'.heap y u) → (∀ m, s.heap.Ns env.locals m → ∃ m', s'.heap.Ns env.locals m') → (∀ a o, s.heap.get? a = some o → ∃ o', s'.heap.get? a = some o') → (∀ a its, s.heap.PlainList a its → s'.heap.PlainList a its) → Q () s') :
    wpAny (model prog w) A (storeName env x v) Q E s := by
  cases S with
  | loc m k n t =>
    refine wpAny_storeName_local k n (fun h' hn hs => ?_) (by rw [fe.kind]; rfl)
    have B : But T s { s with heap := h', toks := s.toks + 1 } := But.same hs t
    have K := B.kp hT
    refine h _ B (.loc _ v k hn (by simp) (r.kp K)) (fun y Sy => ?_) (fun y u hy ky _ R => ?_) (fun y u ky _ R => ?_) (fun _ _ => ⟨_, hn⟩) (fun a o e => by
      by_cases q : a = env.locals
      · obtain ⟨o', _, _, e', _⟩ := hn; exact ⟨o', q ▸ e'⟩
      · exact ⟨o, (hs.2 a q).trans e⟩) (fun a its p => p.at fun o e => (hs.2 a (ns_ne_list n p).symm).trans e)
    · cases Sy with
      | loc m' k' _ t' => exact .loc _ k' hn t'
      | cell c v' k' l i t' => exact .cell c v' k' l (i.sameBut hs (ns_ne_cell n i).symm) t'
    · cases R with
      | loc m' v' k' n' e r' =>
        have : m' y = m y := by
          obtain ⟨o1, es1, ep1, a1, d1, _, f1⟩ := n
          obtain ⟨o2, es2, ep2, a2, d2, _, f2⟩ := n'
          rw [a1] at a2; cases a2
          rw [d1] at d2; cases d2
          rw [← f1, ← f2]
        exact .loc _ v' k' hn (by simp [hy, ← this, e]) (r'.kp K)
      | cell c v' k' => rw [ky] at k'; cases k'
      | free c v' k' => rw [ky] at k'; cases k'
    · cases R with
      | loc m' v' k' => exact absurd k' ky
      | cell c v' k' l i r' => exact .cell c v' k' l (i.sameBut hs (ns_ne_cell n i).symm) (r'.kp K)
      | free c v' k' l i r' q => exact .free c v' k' l (i.sameBut hs (ns_ne_cell n i).symm) (r'.kp K) q
  | cell c v₀ k l i t =>
    refine wpAny_storeName_cell fe.kind k l i (fun h' hi hs => ?_)
    have B : But T s { s with heap := h' } := But.same (tk := s.toks) hs t
    have K := B.kp hT
    refine h _ B (.cell c v k l hi (r.kp K)) (fun y Sy => ?_) (fun y u hy ky kx R => ?_) (fun y u ky kx R => ?_) (fun m' n' => ⟨m', n'.sameBut hs (ns_ne_cell n' i)⟩) (fun a o e => by
      by_cases q : a = c
      · obtain ⟨o', e', _⟩ := hi; exact ⟨o', q ▸ e'⟩
      · exact ⟨o, (hs.2 a q).trans e⟩) (fun a its p => p.at fun o e => (hs.2 a (cell_ne_list i p).symm).trans e)
    · cases Sy with
      | loc m' k' n t' => exact .loc _ k' (n.sameBut hs (ns_ne_cell n i)) t'
      | cell c' v' k' l' i' t' =>
        by_cases e : c' = c
        · subst e; exact .cell _ _ k' l' hi t'
        · exact .cell c' v' k' l' (i'.sameBut hs e) t'
    · rw [k] at kx; cases kx
    · rw [k] at kx; cases kx

/-- what is gathered so far -/
def Acc (X : Addr → Prop) (Da : Addr) (h : Heap) (outs : List PV) : Prop := ∃ ys : List Value, h.PlainList Da ys.toArray ∧ Reps X h ys outs
theorem Acc.kept {X T : Addr → Prop} {Da : Addr} {s s' : Shared} {outs : List PV} (x : Acc X Da s.heap outs) (b : But T s s') (h : ∀ a, T a → X a) (hD : ¬ T Da) : Acc X Da s'.heap outs :=
  let ⟨ys, p, r⟩ := x; ⟨ys, p.at fun o e => b.keep Da o hD e, r.kp (b.kp h)⟩

def turnShape (p : Pos) (tgt : Expr) (it : Value) (env : Env) (body : Sem Unit) (nxt : Code) : Sem Fin :=
  standAt p >>= fun _ => pyNext it >>= fun r => match r with
    | none => pure (.done .next)
    | some v => letOwnedTupleGo tgt it v >>= fun _ => assign tgt env v >>= fun _ => body >>= fun _ => again nxt

theorem flat_le (g : Nat → List PV) : ∀ n i, i < n → ((List.range i).flatMap g).length + (g i).length ≤ ((List.range n).flatMap g).length
  | n + 1, i, h => by
    rw [List.range_succ, List.flatMap_append, List.length_append]
    by_cases e : i = n
    · subst e; simp
    · have := flat_le g n i (by omega); omega

/-- the loop of a comprehension: each turn adds what g says -/
theorem comp_loop {e : Expr} {d : Nat} {I Da : Addr} {cenv : Env} {x : Str} {px p : Pos} {body : Sem Unit} {fp : List Addr} {xs : List PV} {St' : Nat → Heap → Prop} {T X : Addr → Prop} {h₂ : Heap} {R : Result → Shared → Prop}
    (g : Nat → List PV) (FM : Shared → Prop) (N : Nat)
    (hcode : ∀ (Q : Fin → Shared → Prop) (E : Value → Shared → Prop) (s : Shared), wpAny (model prog w) A ((compTurn e d (.ref I) (.ref Da) cenv).onRaise (fun x => do noteFrame x cenv; theTreesLotGoes x)) Q E s →
      wpAny (model prog w) (A.under (.compLoop e d (.ref I) (.ref Da) cenv)) ((model prog w).den (.compLoop e d (.ref I) (.ref Da) cenv)) Q E s)
    (hq : (Code.compLoop e d (.ref I) (.ref Da) cenv).quiet = true)
    (hturn : compTurn e d (.ref I) (.ref Da) cenv = turnShape p (.Name x px) (.ref I) cenv body (.compLoop e d (.ref I) (.ref Da) cenv))
    (W : Walks prog w A I fp [I] xs.length (fun i v => ∃ u, xs[i]? = some u ∧ Rep X h₂ v u) St')
    (hfp : ∀ b ∈ fp, ¬ T b) (hT : ∀ a, T a → X a) (hXI : X I) (hTI : ¬ T I) (hDT : T Da)
    (hFM : ∀ s s' : Shared, FM s → But (· = I) s s' → FM s')
    (hkeep : ∀ s, FM s → Kp X h₂ s.heap)
    (hbody : ∀ (i : Nat) (u : PV) (v : Value) (s : Shared) (outs : List PV), xs[i]? = some u → Rep X s.heap v u → FM s → (∃ j, St' j s.heap) → Acc X Da s.heap outs → outs.length + (g i).length ≤ N →
      wpAny (model prog w) A (assign (.Name x px) cenv v >>= fun _ => body) (fun _ s' => But T s s' ∧ FM s' ∧ Acc X Da s'.heap (outs ++ g i)) (fun _ _ => False) s)
    (s : Shared) (outs₀ : List PV) (hst : St' 0 s.heap) (h0 : FM s) (ha : Acc X Da s.heap outs₀) (hN : outs₀.length + ((List.range xs.length).flatMap g).length ≤ N)
    (hR : ∀ s', But (fun a => T a ∨ a = I) s s' → FM s' → Acc X Da s'.heap (outs₀ ++ (List.range xs.length).flatMap g) → R (.ok .next) s') :
    codeAny (model prog w) A (.compLoop e d (.ref I) (.ref Da) cenv) R s := by
  refine codeAny_loop hq (fun k s' => ∃ i, k = xs.length - i ∧ i ≤ xs.length ∧ St' i s'.heap ∧ FM s' ∧ But (fun a => T a ∨ a = I) s s' ∧ Acc X Da s'.heap (outs₀ ++ (List.range i).flatMap g)) ?_ xs.length
    ⟨0, rfl, Nat.zero_le _, hst, h0, But.refl _ _, by simpa using ha⟩
  rintro k s₁ ⟨i, rfl, hi, st, fm, bt, ac⟩
  refine hcode _ _ _ (wpAny_noted ?_)
  rw [hturn]
  refine wpAny_bind (wpAny_standAt (wpAny_bind ?_))
  by_cases hlt : i < xs.length
  · refine W.item i s₁ _ _ hlt st fun v h' tk hP st' hk => ?_
    obtain ⟨u, hu, ru⟩ := hP
    have b1 : But (· = I) s₁ { s₁ with heap := h', toks := tk } := ⟨fun b o n e => hk b o (by simpa using n) e, rfl, rfl, rfl⟩
    have fm' := hFM _ _ fm b1
    have ac' : Acc X Da h' (outs₀ ++ (List.range i).flatMap g) := Acc.kept (s' := { s₁ with heap := h', toks := tk }) ac b1 (fun a e => e ▸ hXI) (fun e => hTI (e ▸ hDT))
    refine wpAny_bind (wpAny_of_eq (show letOwnedTupleGo (.Name x px) (.ref I) v = pure () from rfl) ?_)
    have hNi : (outs₀ ++ (List.range i).flatMap g).length + (g i).length ≤ N := by
      have := flat_le g xs.length i hlt
      rw [List.length_append]; omega
    have key := hbody i u v { s₁ with heap := h', toks := tk } _ hu (ru.kp (hkeep _ fm')) fm' ⟨i + 1, st'⟩ ac' hNi
    have e : (assign (.Name x px) cenv v >>= fun _ => body >>= fun _ => again (.compLoop e d (.ref I) (.ref Da) cenv)) = ((assign (.Name x px) cenv v >>= fun _ => body) >>= fun _ => again (.compLoop e d (.ref I) (.ref Da) cenv)) := by
      exact (bind_assoc _ _ _).symm
    rw [e]
    refine wpAny_bind (wpAny_mono key (fun _ s₂ hb => ?_) fun _ _ f => f.elim)
    obtain ⟨b2, fm2, ac2⟩ := hb
    refine wpAny_pure ⟨rfl, xs.length - (i + 1), by omega, i + 1, rfl, hlt, ?_, fm2, ?_, ?_⟩
    · exact W.frame _ _ _ st' fun b hb o e => b2.keep b o (hfp b hb) e
    · exact (bt.trans (b1.more fun a h => .inr h)).trans (b2.more fun a h => .inl h)
    · have e2 : (List.range (i + 1)).flatMap g = (List.range i).flatMap g ++ g i := by
        rw [List.range_succ, List.flatMap_append]; simp
      rw [e2, ← List.append_assoc]
      exact ac2
  · have hin : i = xs.length := by omega
    subst hin
    refine W.done s₁ _ _ st fun h' tk hk => wpAny_pure ?_
    have b1 : But (· = I) s₁ { s₁ with heap := h', toks := tk } := ⟨fun b o n e => hk b o (by simpa using n) e, rfl, rfl, rfl⟩
    refine hR _ (bt.trans (b1.more fun a h => .inr h)) (hFM _ _ fm b1) ?_
    have := Acc.kept (s' := { s₁ with heap := h', toks := tk }) ac b1 (fun a e => e ▸ hXI) (fun e => hTI (e ▸ hDT))
    simpa using this
end
end Mine
end

section
open PySem PySem.W PySem.Calls PyProof.Rows PySem.Spec
namespace Mine

theorem new_of_size {h : Heap} {a : Addr} (k : h.objs.size ≤ a) : h.get? a = none := Heap.get?_none_of_le k

/-- what a block of a comprehension has of its own -/
theorem cellsFrom_other : ∀ (names : List (Str × NameKind)) (k : Nat) (acc : List (Str × Addr)) (n : Str), (∀ x ∈ names, x.2 = .cell → x.1 ≠ n) → (cellsFrom k names acc).lookup n = acc.lookup n
  | [], _, _, _, _ => rfl
  | (m, q) :: r, k, acc, n, h => by
    unfold cellsFrom
    split
    · rename_i hq
      rw [cellsFrom_other r _ _ n fun x hx => h x (List.mem_cons_of_mem _ hx)]
      have : (n == m) = false := by
        have := h (m, q) (List.mem_cons_self) (by simpa using hq)
        simpa using fun e : n = m => this e.symm
      rw [List.lookup_cons, this]
    · exact cellsFrom_other r _ _ n fun x hx => h x (List.mem_cons_of_mem _ hx)
theorem cells_new : ∀ (names : List (Str × NameKind)) (h : Heap) (acc : List (Str × Addr)) (n : Str), (n, NameKind.cell) ∈ names →
    ∃ c, (cellsFrom h.objs.size names acc).lookup n = some c ∧ (pushCells h names).IsCell c none ∧ h.objs.size ≤ c
  | (m, q) :: r, h, acc, n, hn => by
    unfold cellsFrom pushCells
    by_cases hq : (q == NameKind.cell) = true
    · rw [if_pos hq, if_pos hq]
      by_cases hr : (n, NameKind.cell) ∈ r
      · obtain ⟨c, a, b, d⟩ := cells_new r (h.push { cls := .type "cell", data := .cell none }) ((m, h.objs.size) :: acc) n hr
        rw [Heap.size_push] at a d
        exact ⟨c, a, b, by omega⟩
      · have e : n = m := by
          rcases List.mem_cons.mp hn with e | e
          · exact (Prod.mk.inj e).1
          · exact absurd e hr
        subst e
        refine ⟨h.objs.size, ?_, ?_, Nat.le_refl _⟩
        · rw [cellsFrom_other r _ _ n fun x hx hc hxn => hr (by rw [← hxn, ← hc]; exact hx), List.lookup_cons]; simp
        · exact Heap.IsCell.keeps ⟨_, Heap.get?_push_size _ rfl, rfl⟩ (pushCells_keeps r _)
    · rw [if_neg hq, if_neg hq]
      rcases List.mem_cons.mp hn with e | e
      · exact absurd (by rw [← (Prod.mk.inj e).2]; rfl) hq
      · exact cells_new r h acc n e

section
variable {D : List DefRec} {prog : Program} {w : World} {mg mb : Str → Option Value} {A : Around} {env : Env} {ρ : Loc}

theorem new_env {M : Model} {E : Value → Shared → Prop} {s : Shared} {scope : Scope} {globals : Addr} {cl : List (Str × Addr)} {qual : Str} {Q : Env → Shared → Prop}
    (h : Q (newEnv scope s.heap.objs.size globals (cellsFrom (s.heap.objs.size + 1) scope.names cl) qual none .none (some env) builtinsNs)
      { s with heap := pushCells (s.heap.push { cls := .type "dict", data := .dict #[] }) scope.names }) :
    wpAny M A (newFunctionEnv scope globals cl [] qual none .none (some env)) Q E s := by
  simp only [newFunctionEnv, Option.isSome_some, if_true]
  refine wpAny_bind (wpAny_alloc ?_)
  refine wpAny_bind (wpAny_layCells _ (fun name kind cells => rfl) scope.names cl _ _ ?_)
  rw [show ({ s with heap := s.heap.push { cls := .type "dict", data := .dict #[] } } : Shared).heap.objs.size = s.heap.objs.size + 1 from Heap.size_push ..]
  simp only [List.forIn_nil]
  exact wpAny_bind (wpAny_pure (wpAny_pure h))

theorem closure_of : ∀ (names : List (Str × NameKind)), (∀ x ∈ names, x.2 = .free → ∃ c, env.cells.lookup x.1 = some c) → ∀ acc : List (Str × Addr), (∀ n c, acc.lookup n = some c → env.cells.lookup n = some c) →
    ∃ cl : List (Str × Addr), (forIn names acc fun x r => (if x.2 == .free then (do let a ← cellOf env x.1; pure (ForInStep.yield ((x.1, a) :: r))) else pure (ForInStep.yield r) : Sem (ForInStep (List (Str × Addr))))) = pure cl ∧
      (∀ n c, cl.lookup n = some c → env.cells.lookup n = some c) ∧ (∀ n, (n, NameKind.free) ∈ names → (cl.lookup n).isSome = true) ∧ (∀ n, (acc.lookup n).isSome = true → (cl.lookup n).isSome = true)
  | [], _, acc, ha => ⟨acc, rfl, ha, (fun _ h => nomatch h), fun _ h => h⟩
  | (m, q) :: r, hn, acc, ha => by
    by_cases hq : (q == NameKind.free) = true
    · obtain ⟨c, hc⟩ := hn (m, q) List.mem_cons_self (by simpa using hq)
      obtain ⟨cl, e, a, b, d⟩ := closure_of r (fun x hx => hn x (List.mem_cons_of_mem _ hx)) ((m, c) :: acc) (fun n c' h => by
        rw [List.lookup_cons] at h
        cases hb : n == m with
        | true => rw [hb] at h; cases h; rw [eq_of_beq hb]; exact hc
        | false => rw [hb] at h; exact ha n c' h)
      refine ⟨cl, ?_, a, fun n h => ?_, fun n h => d n ?_⟩
      · rw [List.forIn_cons]
        simp only [hq, if_true, cellOf, hc]
        exact e
      · rcases List.mem_cons.mp h with h | h
        · refine d n ?_
          rw [(Prod.mk.inj h).1, List.lookup_cons]; simp
        · exact b n h
      · rw [List.lookup_cons]; split
        · rfl
        · exact h
    · obtain ⟨cl, e, a, b, d⟩ := closure_of r (fun x hx => hn x (List.mem_cons_of_mem _ hx)) acc ha
      refine ⟨cl, ?_, a, fun n h => ?_, d⟩
      · rw [List.forIn_cons]
        simp only [hq]
        exact e
      · rcases List.mem_cons.mp h with h | h
        · exact absurd (by rw [← (Prod.mk.inj h).2]; rfl) hq
        · exact b n h
theorem closure_pure {scope : Scope} (hn : ∀ x ∈ scope.names, x.2 = .free → ∃ c, env.cells.lookup x.1 = some c) :
    ∃ cl : List (Str × Addr), closureFor scope env = pure cl ∧ (∀ n c, cl.lookup n = some c → env.cells.lookup n = some c) ∧ (∀ n, (n, NameKind.free) ∈ scope.names → (cl.lookup n).isSome = true) := by
  obtain ⟨cl, e, a, b, _⟩ := closure_of (env := env) scope.names hn [] (fun _ _ h => by cases h)
  refine ⟨cl, ?_, a, b⟩
  unfold closureFor
  exact congrArg (fun m => m >>= fun cs => pure cs) e

/-- what is walked over -/
inductive Iter : PV → List PV → Prop
  | list (xs : List PV) : Iter (.list xs) xs
  | rng (a b c : Int) (n : Nat) : Builtin.Range.small a b c = true → Builtin.Range.rangeSize a b c = n → Iter (.rng a b c) ((List.range n).map fun i : Nat => PV.int (a + (i : Int) * c))

theorem iter_any {X : Addr → Prop} {s : Shared} {v : Value} {src : PV} {xs : List PV} (hh : A.handled = none) (hi : Iter src xs) (hX : Live X s.heap) (r : Rep X s.heap v src) {Q : Value → Shared → Prop} {E : Value → Shared → Prop}
    (h : ∀ (I : Addr) (s₂ : Shared) (fp : List Addr) (St' : Nat → Heap → Prop), Ok s s₂ → s.heap.get? I = none → Walks prog w A I fp [I] xs.length (fun i v => ∃ u, xs[i]? = some u ∧ Rep X s.heap v u) St' →
      (∀ b ∈ fp, b = I ∨ (¬ X b ∧ ∃ o, s.heap.get? b = some o)) → St' 0 s₂.heap → (∀ i g, St' i g → ∃ o, g.get? I = some o) → Q (.ref I) s₂) : wpAny (model prog w) A (pyIter v) Q E s := by
  cases hi with
  | list xs =>
    cases r with
    | @list a vs _ n hl q =>
      refine Flt.iter_list_ hl.isList fun s₂ e st hfp hlI => ?_
      subst e
      have g : Grow s.heap (s.heap.push { cls := .type "list_iterator", data := .fields #[.ref a, .int 0 0] }) := Grow.push _ _
      have W := Walks.list (prog := prog) (w := w) (A := A) hh s.heap.objs.size a hlI vs.toArray
      have hlen : vs.toArray.size = xs.length := by simp [q.length]
      rw [hlen] at W
      refine h _ _ _ _ (Ok.mk' (tk := s.toks) g) (new_of_size (Nat.le_refl _))
        { sub := W.sub, frame := W.frame, item := fun i s₁ Q E hi st hQ => W.item i s₁ Q E hi st fun v h' tk hv => hQ v h' tk ?_, done := W.done, self := W.self } ?_ st ?_
      · obtain ⟨x, hx, rx⟩ := q.getV i v (by simpa using hv)
        exact ⟨x, hx, rx⟩
      · intro b hb
        rcases List.mem_cons.mp hb with rfl | hb
        · exact .inl rfl
        · rw [List.mem_singleton.mp hb]
          obtain ⟨m, e⟩ := hl
          exact .inr ⟨n, _, e⟩
      · rintro i g ⟨⟨o, e, _⟩, _⟩
        exact ⟨_, e⟩
  | rng a b c n hs hn =>
    cases r with
    | rng nx hr =>
      refine wpAny_pyIter_range hr hs ?_
      have g : Grow s.heap (s.heap.push { cls := .type "range_iterator", data := .fields #[rawInt a, rawInt (Builtin.Range.rangeSize a b c), rawInt c] }) := Grow.push _ _
      have W := Walks.range (prog := prog) (w := w) (A := A) hh s.heap.objs.size a c n
      have hlen : n = ((List.range n).map fun i : Nat => PV.int (a + (i : Int) * c)).length := by simp
      rw [hlen] at W
      refine h _ _ _ _ (Ok.mk' (tk := s.toks) g) (new_of_size (Nat.le_refl _))
        { sub := W.sub, frame := W.frame, item := fun i s₁ Q E hi st hQ => W.item i s₁ Q E hi st fun v h' tk hv => hQ v h' tk ?_, done := W.done, self := W.self } ?_ ?_ ?_
      · obtain ⟨t, rfl⟩ := hv
        have hi' : i < n := by simpa using hi
        exact ⟨.int (a + (i : Int) * c), by simp [hi'], .int _ _⟩
      · intro b hb
        exact .inl (List.mem_singleton.mp hb)
      · have e := Heap.get?_push_size s.heap (o := { cls := .type "range_iterator", data := .fields #[rawInt a, rawInt (Builtin.Range.rangeSize a b c), rawInt c] }) rfl
        unfold IsRangeIter
        rw [e, hn]
        simp
      · intro i g st
        exact ⟨_, st⟩

/-- a block of a comprehension -/
structure CE (env : Env) (scope : Scope) (cenv : Env) : Prop where
  fe : FnEnv cenv
  kind : ∀ n k, scope.names.lookup n = some k → k ≠ .free → cenv.kindOf n = some k
  free : ∀ n, scope.names.lookup n = some .free → cenv.kindOf n = some .free ∨ cenv.kindOf n = some .cell

theorem relabel_lookup : ∀ (names : List (Str × NameKind)) (n : Str),
    (names.map fun (n, k) => if (k == NameKind.free && env.scope.kind == .function && env.kindOf n == some .cell) then (n, NameKind.cell) else (n, k)).lookup n =
      (names.lookup n).map fun k => if (k == NameKind.free && env.scope.kind == .function && env.kindOf n == some .cell) then NameKind.cell else k
  | [], _ => rfl
  | (m, q) :: r, n => by
    have ih := relabel_lookup r n
    rw [List.map_cons]
    show List.lookup n ((if (q == NameKind.free && env.scope.kind == .function && env.kindOf m == some .cell) = true then (m, NameKind.cell) else (m, q)) :: _) = _
    cases hb : n == m with
    | true =>
      have e := eq_of_beq hb
      subst e
      cases hc : (q == NameKind.free && env.scope.kind == .function && env.kindOf n == some .cell) with
      | true => rw [if_pos rfl, List.lookup_cons, List.lookup_cons, beq_self_eq_true]; simp only [Option.map_some, hc, if_true]
      | false => rw [if_neg (by decide), List.lookup_cons, List.lookup_cons, beq_self_eq_true]; simp only [Option.map_some, hc]; rfl
    | false =>
      cases hc : (q == NameKind.free && env.scope.kind == .function && env.kindOf m == some .cell) with
      | true => rw [if_pos rfl, List.lookup_cons, List.lookup_cons, hb]; exact ih
      | false => rw [if_neg (by decide), List.lookup_cons, List.lookup_cons, hb]; exact ih
end
end Mine
end

section
open PySem PySem.W PySem.Calls PyProof.Rows PySem.Spec
namespace Mine
section
variable {D : List DefRec} {prog : Program} {w : World} {mg mb : Str → Option Value} {A : Around} {env : Env} {ρ : Loc}

theorem Walks.weaken {I : Addr} {fp wr : List Addr} {n : Nat} {P P' : Nat → Value → Prop} {S : Nat → Heap → Prop} (W : Walks prog w A I fp wr n P S) (h : ∀ i v, P i v → P' i v) : Walks prog w A I fp wr n P' S where
  sub := W.sub
  frame := W.frame
  item := fun i s Q E hi st hQ => W.item i s Q E hi st fun v h' tk p => hQ v h' tk (h i v p)
  done := W.done
  self := W.self

/-- what a turn of the block stands on -/
structure Pre (D : List DefRec) (mg mb : Str → Option Value) (cenv : Env) (X T : Addr → Prop) (tgts : List Str) (lv ρf : Loc) (s : Shared) : Prop where
  st : St D mg mb X cenv s.heap (lv ++ ρf)
  out : ∃ g₀, Base D mg mb g₀ ∧ New T g₀ ∧ Grow g₀ s.heap ∧ ∀ n pv, ρf.lookup n = some pv → Has X cenv g₀ n pv
  slots : ∀ x ∈ tgts, Slot T cenv s.heap x
  ns : ∃ m, s.heap.Ns cenv.locals m
  live : Live T s.heap
/-- and what it leaves -/
structure Post (cenv : Env) (X T : Addr → Prop) (tgts : List Str) (Da : Addr) (outs : List PV) (s s' : Shared) : Prop where
  but : But T s s'
  slots : ∀ x ∈ tgts, Slot T cenv s'.heap x
  ns : ∃ m, s'.heap.Ns cenv.locals m
  live : Live T s'.heap
  acc : Acc X Da s'.heap outs

theorem comp_core {e iter : Expr} {scope : Scope} {pos px p : Pos} {x : Str} {tgts : List Str} {src : PV} {xs : List PV} {ρf : Loc} {use : Option (Value → Sem Unit)} {Q : Value → Shared → Prop} {E : Value → Shared → Prop} {g0 : Comprehension} {gs : List Comprehension}
    (body : Env → Value → Sem Unit) (g : Nat → List PV) (N : Nat) (hN : ((List.range xs.length).flatMap g).length ≤ N) (hh : A.handled = none)
    (hcl : clausesOf e = g0 :: gs) (hs : ∀ x, foldedSetIterable g0.iter env x = pure x) (hkind : scope.kind = .function) (hnames : ∀ x ∈ scope.names, x.2 = .local → scope.names.lookup x.1 = some .local)
    (hnc : ∀ x ∈ scope.names, x.2 = .cell → scope.names.lookup x.1 = some .cell)
    (hfree : ∀ p ∈ ρf, ρ.lookup p.1 = some p.2 ∧ scope.names.lookup p.1 = some .free ∧ (env.kindOf p.1 = some .cell ∨ env.kindOf p.1 = some .free) ∧ (p.1 == ("__classdict__" : Str)) = false)
    (hall : ∀ x ∈ scope.names, x.2 = .free → ∃ pv, (x.1, pv) ∈ ρf)
    (htg : ∀ x ∈ tgts, scope.names.lookup x = some .local ∨ (scope.names.lookup x = some .cell ∧ (x, NameKind.cell) ∈ scope.names))
    (hstart : ∀ (it acc : Value) (cenv : Env) (R : Result → Shared → Prop) (s : Shared), codeAny (model prog w) A (.compLoop e 0 it acc cenv) R s → wpAny (model prog w) A (pyIter it) (fun it' s' => codeAny (model prog w) A (.compLoop e 0 it' acc cenv) R s') (notedBy (model prog w) A cenv fun x s' => R (.error x) s') s →
      codeAny (model prog w) A (.compStart e 0 it acc cenv) R s)
    (hcode : ∀ (I Da : Addr) (cenv : Env) (Q : Fin → Shared → Prop) (E : Value → Shared → Prop) (s : Shared), wpAny (model prog w) A ((compTurn e 0 (.ref I) (.ref Da) cenv).onRaise (fun x => do noteFrame x cenv; theTreesLotGoes x)) Q E s →
      wpAny (model prog w) (A.under (.compLoop e 0 (.ref I) (.ref Da) cenv)) ((model prog w).den (.compLoop e 0 (.ref I) (.ref Da) cenv)) Q E s)
    (hq : ∀ (I Da : Addr) (cenv : Env), (Code.compLoop e 0 (.ref I) (.ref Da) cenv).quiet = true)
    (hturn : ∀ (I Da : Addr) (cenv : Env), compTurn e 0 (.ref I) (.ref Da) cenv = turnShape p (.Name x px) (.ref I) cenv (body cenv (.ref Da)) (.compLoop e 0 (.ref I) (.ref Da) cenv))
    (hsrc : EV D prog w mg mb A env ρ iter src) (hit : Iter src xs)
    (hbody : ∀ (cenv : Env) (X T : Addr → Prop) (Da : Addr), CE env scope cenv → (∀ a, T a → X a) → T Da → ∀ (i : Nat) (u : PV) (v : Value) (s : Shared) (outs : List PV), xs[i]? = some u → Rep X s.heap v u → Pre D mg mb cenv X T tgts [] ρf s → Acc X Da s.heap outs → outs.length + (g i).length ≤ N →
      wpAny (model prog w) A (assign (.Name x px) cenv v >>= fun _ => body cenv (.ref Da)) (fun _ s' => Post cenv X T tgts Da (outs ++ g i) s s') (fun _ _ => False) s)
    {X : Addr → Prop} {s : Shared} (S : St D mg mb X env s.heap ρ)
    (hR : ∀ (Da C : Addr) (s' : Shared), Ok s s' → s.heap.get? C = none → s.heap.get? Da = none → Da ≠ C → (∃ m, s'.heap.Ns C m) → Acc (fun a => X a ∨ a = Da ∨ a = C) Da s'.heap ((List.range xs.length).flatMap g) → compPost (model prog w) A E use Q (.ref Da) C (.ok .next) s') :
    wpAny (model prog w) A (comprehension e scope env pos (newList []) false (eval iter env) use) Q E s := by
  have hcells : ∀ x ∈ scope.names, x.2 = .free → ∃ c, env.cells.lookup x.1 = some c := fun y hy hf => by
    obtain ⟨pv, hp⟩ := hall y hy hf
    obtain ⟨h1, _, h3, _⟩ := hfree _ hp
    cases S.has _ _ h1 with
    | loc m v k => simp only at k; rcases h3 with h3 | h3 <;> rw [k] at h3 <;> cases h3
    | cell c v k l => exact ⟨c, l⟩
    | free c v k l => exact ⟨c, l⟩
  obtain ⟨cl, hclos, cl1, cl2⟩ := closure_pure hcells
  refine wpAny_comprehension_free hcl hs hclos hkind hnames (Ev.use (hsrc X s S) fun v₀ s₁ o₁ r₁ => ?_)
  have S₁ := S.ok o₁
  refine iter_any hh hit S₁.live r₁ fun I s₂ fp St' o₂ hI W hfp st0 stI => ?_
  refine wpAny_newObj_type (new_env ?_)
  have hkeepI : ∃ o, s₂.heap.get? I = some o := stI _ _ st0
  generalize hH3 : s₂.heap.push { cls := .type "list", dict := none, data := .seq ([] : List Value).toArray } = H3
  have hDs : H3.objs.size = s₂.heap.objs.size + 1 := by rw [← hH3, Heap.size_push]
  have hD3 : H3.get? s₂.heap.objs.size = some { cls := .type "list", dict := none, data := .seq ([] : List Value).toArray } := by rw [← hH3]; exact Heap.get?_push_size _ rfl
  have g23 : Grow s₂.heap H3 := by rw [← hH3]; exact Grow.push _ _
  clear hH3
  dsimp only
  generalize hH4 : pushCells (H3.push { cls := .type "dict", data := .dict #[] }) scope.names = H4
  have hC4 : H4.Ns H3.objs.size (fun _ => none) := by
    have e := Heap.Ns.new H3 (.type "dict")
    rw [← hH4]
    exact Heap.Ns.keeps e (pushCells_keeps _ _)
  have g34 : Grow H3 H4 := by rw [← hH4]; exact (Grow.push _ _).trans (pushCells_keeps _ _)
  have hnone2 : ∀ a, s₂.heap.objs.size ≤ a → s₂.heap.get? a = none := fun a h => new_of_size h
  let cells := cellsFrom (H3.objs.size + 1) scope.names cl
  let cenv : Env := { newEnv scope H3.objs.size env.globals cells env.qual none .none (some env) builtinsNs with scope := relabel scope env }
  let T : Addr → Prop := fun a => s₂.heap.get? a = none ∧ ∃ o, H4.get? a = some o
  let X' : Addr → Prop := fun a => X a ∨ T a ∨ a = I
  have hTC : T cenv.locals := ⟨hnone2 _ (by show s₂.heap.objs.size ≤ H3.objs.size; omega), by obtain ⟨o, _, _, e, _⟩ := hC4; exact ⟨o, e⟩⟩
  have hTD : T s₂.heap.objs.size := ⟨hnone2 _ (Nat.le_refl _), _, g34 _ _ hD3⟩
  have hTI : ¬ T I := fun t => by obtain ⟨o, e⟩ := hkeepI; have t1 := t.1; rw [e] at t1; cases t1
  have hTnew : ∀ b o, s₁.heap.get? b = some o → ¬ T b := fun b o e t => by have t1 := t.1; rw [o₂.grow b o e] at t1; cases t1
  have hfpT : ∀ b ∈ fp, ¬ T b := fun b hb t => by
    rcases hfp b hb with rfl | ⟨_, o, e⟩
    · exact hTI t
    · exact hTnew b o e t
  have ce : CE env scope cenv := by
    refine ⟨⟨S.fe.globals, S.fe.builtins, hkind⟩, fun n k hk hnf => ?_, fun n hk => ?_⟩
    · show (relabel scope env).names.lookup n = some k
      unfold relabel
      rw [relabel_lookup, hk]
      have : (k == NameKind.free) = false := by simpa using hnf
      simp only [Option.map_some, this, Bool.false_and]; rfl
    · show (relabel scope env).names.lookup n = some .free ∨ (relabel scope env).names.lookup n = some .cell
      unfold relabel
      rw [relabel_lookup, hk]
      simp only [Option.map_some]
      split
      · exact .inr rfl
      · exact .inl rfl
  -- the places of the targets
  have hslots : ∀ y ∈ tgts, Slot T cenv H4 y := fun y hy => by
    rcases htg y hy with h | ⟨h1, h2⟩
    · exact .loc _ (ce.kind y .local h (by decide)) hC4 hTC
    · obtain ⟨c, l, i, le⟩ := cells_new scope.names (H3.push { cls := .type "dict", data := .dict #[] }) cl y h2
      rw [Heap.size_push] at l le
      rw [hH4] at i
      refine .cell c _ (ce.kind y .cell h1 (by decide)) l i ⟨hnone2 c (by omega), ?_⟩
      obtain ⟨o, e, _⟩ := i
      exact ⟨o, e⟩
  -- the names from outside
  have hfr : ∀ (g' : Heap), Grow s.heap g' → ∀ n pv, ρf.lookup n = some pv → Has X' cenv g' n pv := fun g' gr n pv hn => by
    obtain ⟨h1, h2, h3, h4⟩ := hfree _ (mem_of_lookup hn)
    have H := S.has _ _ h1
    have hre : ∀ a, X' a → X a ∨ s.heap.get? a = none := fun a h => by
      rcases h with h | h | h
      · exact .inl h
      · refine .inr ?_
        cases q : s.heap.get? a with
        | none => rfl
        | some o => exact absurd h (hTnew a o (o₁.grow a o q))
      · refine .inr ?_
        cases q : s.heap.get? a with
        | none => rfl
        | some o => subst h; have q' := o₁.grow _ o q; rw [hI] at q'; cases q'
    have key : ∀ c v, env.cells.lookup n = some c → s.heap.IsCell c (some v) → Rep X s.heap v pv → Has X' cenv g' n pv := fun c v l i r => by
      have hl : cenv.cells.lookup n = some c := by
        show (cellsFrom (H3.objs.size + 1) scope.names cl).lookup n = some c
        rw [cellsFrom_other]
        · have e := cl2 n (by
            have := mem_of_lookup h2
            exact this)
          obtain ⟨c', e'⟩ := Option.isSome_iff_exists.mp e
          rw [e', ← cl1 n c' e', l]
        · intro y hy hc e
          -- a name that is free is no cell
          have q := hnc y hy hc
          rw [e, h2] at q; cases q
      rcases ce.free n h2 with k | k
      · exact .free c v k hl (i.keeps gr) ((r.re hre).up gr) h4
      · exact .cell c v k hl (i.keeps gr) ((r.re hre).up gr)
    cases H with
    | loc m v k => rcases h3 with h3 | h3 <;> rw [k] at h3 <;> cases h3
    | cell c v k l i r => exact key c v l i r
    | free c v k l i r => exact key c v l i r
  have hre₁ : ∀ a, X' a → X a ∨ s₁.heap.get? a = none := fun a h => by
    rcases h with h | h | h
    · exact .inl h
    · refine .inr ?_
      cases q : s₁.heap.get? a with
      | none => rfl
      | some o => exact absurd h (hTnew a o q)
    · exact .inr (h ▸ hI)
  have hTs : New T s.heap := fun a t => by
    cases q : s.heap.get? a with
    | none => rfl
    | some o => exact absurd t (hTnew a o (o₁.grow a o q))
  let FM : Shared → Prop := fun s' => But (fun a => T a ∨ a = I) s₂ s' ∧ Live T s'.heap ∧ (∀ y ∈ tgts, Slot T cenv s'.heap y) ∧ ∃ m, s'.heap.Ns cenv.locals m
  have hgr : ∀ s', FM s' → Grow s₁.heap s'.heap := fun s' fm b o e => fm.1.keep b o (fun t => by
    rcases t with t | t
    · exact hTnew b o e t
    · rw [t] at e; rw [hI] at e; cases e) (o₂.grow b o e)
  have loop : ∀ s₄ : Shared, s₄ = { s₂ with heap := H4 } → codeAny (model prog w) A (.compLoop e 0 (.ref I) (.ref s₂.heap.objs.size) cenv) (compPost (model prog w) A E use Q (.ref s₂.heap.objs.size) H3.objs.size) s₄ := by
    rintro s₄ rfl
    have fm0 : FM { s₂ with heap := H4 } := ⟨⟨fun b o _ e => g34 b o (g23 b o e), rfl, rfl, rfl⟩, fun a t => t.2, hslots, _, hC4⟩
    refine comp_loop (X := X') (T := T) (h₂ := s₂.heap) (outs₀ := []) g FM N (hcode I _ cenv) (hq I _ cenv) (hturn I _ cenv)
      (Walks.weaken W fun i v hP => let ⟨u, e1, e2⟩ := hP; ⟨u, e1, (e2.re hre₁).up o₂.grow⟩) hfpT (fun a t => .inr (.inl t)) (.inr (.inr rfl)) hTI hTD ?_ ?_ ?_ _ ?_ fm0 ?_ (by simpa using hN) ?_
    · rintro s₅ s₆ ⟨b5, l5, sl5, n5⟩ b
      refine ⟨b5.trans (b.more fun a h => .inr h), fun a t => ?_, fun y hy => (sl5 y hy).kept fun c o t ec => b.keep c o (fun q => hTI (q ▸ t)) ec, ?_⟩
      · obtain ⟨o, eo⟩ := l5 a t
        exact ⟨o, b.keep a o (fun q => hTI (q ▸ t)) eo⟩
      · obtain ⟨m, n⟩ := n5
        exact ⟨m, n.at' fun o eo => b.keep _ o (fun q => hTI (q ▸ hTC)) eo⟩
    · exact fun s₅ fm => fm.1.kp fun a h => h.elim (fun t => .inr (.inl t)) fun t => .inr (.inr t)
    · intro i u v s₅ outs hu rv fm hj ac hNi
      have gr := hgr s₅ fm
      have hst : St D mg mb X' cenv s₅.heap ρf := ⟨S₁.base.up gr, ce.fe, fun a ha => by
        rcases ha with ha | ha | ha
        · exact (S₁.live.up gr) a ha
        · exact fm.2.1 a ha
        · obtain ⟨j, sj⟩ := hj
          exact ha ▸ stI j _ sj, hfr s₅.heap (o₁.grow.trans gr)⟩
      refine wpAny_mono (hbody cenv X' T _ ce (fun a t => .inr (.inl t)) hTD i u v s₅ outs hu rv ⟨hst, ⟨s.heap, S.base, hTs, o₁.grow.trans gr, hfr _ (Grow.refl _)⟩, fm.2.2.1, fm.2.2.2, fm.2.1⟩ ac hNi) (fun _ s₆ P => ?_) fun _ _ f => f
      exact ⟨P.but, ⟨fm.1.trans (P.but.more fun a t => .inl t), P.live, P.slots, P.ns⟩, P.acc⟩
    · exact W.frame _ _ _ st0 fun b hb o eo => g34 b o (g23 b o eo)
    · exact ⟨[], ⟨0, g34 _ _ hD3⟩, .nil⟩
    · intro s₅ b5 fm ac
      have gr := hgr s₅ fm
      refine hR _ _ s₅ ⟨o₁.grow.trans gr, ?_, ?_, ?_⟩ ?_ ?_ ?_ fm.2.2.2 ?_
      · rw [fm.1.gens, o₂.gens, o₁.gens]
      · rw [fm.1.drawn, o₂.drawn, o₁.drawn]
      · rw [fm.1.os, o₂.os, o₁.os]
      · cases q : s.heap.get? H3.objs.size with
        | none => rfl
        | some o => exact absurd hTC (hTnew _ o (o₁.grow _ o q))
      · cases q : s.heap.get? s₂.heap.objs.size with
        | none => rfl
        | some o => exact absurd hTD (hTnew _ o (o₁.grow _ o q))
      · rw [hDs]; exact Nat.ne_of_lt (Nat.lt_succ_self _)
      · obtain ⟨ys, p1, p2⟩ := ac
        refine ⟨ys, p1, p2.re fun a h => ?_⟩
        rcases h with h | h | h
        · exact .inl (.inl h)
        · exact .inl (.inr (.inl (h ▸ hTD)))
        · exact .inl (.inr (.inl (h ▸ hTC)))
  exact hstart _ _ _ _ _ (loop _ rfl) (W.self 0 _ _ _ (W.frame _ _ _ st0 fun b hb o eo => g34 b o (g23 b o eo)) (loop _ rfl))
end
end Mine
end

section
open PySem PySem.W PySem.Calls PyProof.Rows PySem.Spec
namespace Mine
section
variable {D : List DefRec} {prog : Program} {w : World} {mg mb : Str → Option Value} {A : Around} {env : Env} {ρ : Loc}

/-- a comprehension's list -/
def CP (D : List DefRec) (prog : Program) (w : World) (mg mb : Str → Option Value) (A : Around) (env : Env) (ρ : Loc) (e iter : Expr) (scope : Scope) (outs : List PV) : Prop :=
  ∀ (pos : Pos) (X : Addr → Prop) (s : Shared), St D mg mb X env s.heap ρ → ∀ (use : Option (Value → Sem Unit)) (Q : Value → Shared → Prop) (E : Value → Shared → Prop),
    (∀ (Da C : Addr) (s' : Shared), Ok s s' → s.heap.get? C = none → s.heap.get? Da = none → Da ≠ C → (∃ m, s'.heap.Ns C m) → Acc (fun a => X a ∨ a = Da ∨ a = C) Da s'.heap outs → compPost (model prog w) A E use Q (.ref Da) C (.ok .next) s') →
    wpAny (model prog w) A (comprehension e scope env pos (newList []) false (eval iter env) use) Q E s

theorem ev_of_cp {elt iter : Expr} {g0 : Comprehension} {gs : List Comprehension} {scope : Scope} {pos : Pos} {outs : List PV} (h : CP D prog w mg mb A env ρ (.ListComp elt (g0 :: gs) scope pos) iter scope outs)
    (hi : firstIter (g0 :: gs) env = eval iter env := by rfl) (ha : firstAsync (g0 :: gs) = false := by rfl) : EV D prog w mg mb A env ρ (.ListComp elt (g0 :: gs) scope pos) (.list outs) := fun X s S => by
  show wpAny _ A (eval (.ListComp elt (g0 :: gs) scope pos) env) _ _ s
  rw [eval_ListComp, hi, ha]
  refine h _ X s S none _ _ fun Da C s' o hC hD hDC hns ac => ?_
  obtain ⟨m, n⟩ := hns
  refine ⟨m, n, fun h' hs => ?_⟩
  obtain ⟨ys, p, r⟩ := ac
  have B : But (· = C) s' { s' with heap := h' } := But.same (tk := s'.toks) hs rfl
  have gr : Grow s.heap h' := fun b o' e => B.keep b o' (fun q => by rw [q, hC] at e; cases e) (o.grow b o' e)
  refine ⟨⟨gr, o.gens, o.drawn, o.os⟩, .list (S.live.fresh hD) (p.at fun o' e => B.keep Da o' hDC e) ?_⟩
  exact (r.kp (B.kp fun a q => .inr (.inr q))).re fun a q => .inl (.inl q)

/-- the elements of a block -/
def body1 (elt : Expr) (ifs : List Expr) (cenv : Env) (acc : Value) : Sem Unit :=
  (forIn ifs true fun c r => if r = true then do let ok ← isTrue c cenv (eval c cenv); pure (ForInStep.yield ok) else pure (ForInStep.yield r)) >>= fun ok =>
    if ok = true then (eval elt cenv >>= fun x => call (.builtin "list.append") [acc, x] >>= fun _ => pure ()) else pure ()

theorem turn1 (elt iter : Expr) (x : Str) (px : Pos) (ifs : List Expr) (scope : Scope) (pos : Pos) (it acc : Value) (env : Env) :
    compTurn (.ListComp elt [⟨.Name x px, iter, ifs, 0⟩] scope pos) 0 it acc env = turnShape iter.pos (.Name x px) it env (body1 elt ifs env acc) (.compLoop (.ListComp elt [⟨.Name x px, iter, ifs, 0⟩] scope pos) 0 it acc env) := by
  rw [compTurn_list]
  unfold turnShape body1
  congr 1
  funext _
  congr 1
  funext r
  cases r with
  | none => rfl
  | some v =>
    dsimp only
    congr 1
    funext _
    congr 1
    funext _
    refine Eq.trans ?_ (bind_assoc _ _ _).symm
    refine bind_congr fun ok => ?_
    cases ok <;> rfl

/-- whether the tests let a turn through -/
inductive Tests (D : List DefRec) (prog : Program) (w : World) (mg mb : Str → Option Value) (A : Around) (env : Env) (ρ : Loc) : List Expr → Bool → Prop
  | nil : Tests D prog w mg mb A env ρ [] true
  | one {c : Expr} {t : Bool} : TR D prog w mg mb A env ρ c t → Tests D prog w mg mb A env ρ [c] t

theorem body1_ok {elt : Expr} {ifs : List Expr} {cenv : Env} {X T : Addr → Prop} {tgts : List Str} {lv ρf : Loc} {s : Shared} {Da : Addr} {outs : List PV} {t : Bool} {y : PV} (hT : ∀ a, T a → X a) (hD : T Da)
    (P : Pre D mg mb cenv X T tgts lv ρf s) (ac : Acc X Da s.heap outs) (ht : Tests D prog w mg mb A cenv (lv ++ ρf) ifs t) (he : t = true → EV D prog w mg mb A cenv (lv ++ ρf) elt y) (hn : outs.length + (if t then [y] else []).length ≤ sizeLine) :
    wpAny (model prog w) A (body1 elt ifs cenv (.ref Da)) (fun _ s' => Post cenv X T tgts Da (outs ++ if t then [y] else []) s s' ∧ ∀ n pv, cenv.kindOf n = some .local → Has X cenv s.heap n pv → Has X cenv s'.heap n pv) (fun _ _ => False) s := by
  unfold body1
  have key : ∀ s₁, Ok s s₁ → wpAny (model prog w) A (if t = true then (eval elt cenv >>= fun x => call (.builtin "list.append") [.ref Da, x] >>= fun _ => pure ()) else pure ()) (fun _ s' => Post cenv X T tgts Da (outs ++ if t then [y] else []) s s' ∧ ∀ n pv, cenv.kindOf n = some .local → Has X cenv s.heap n pv → Has X cenv s'.heap n pv) (fun _ _ => False) s₁ := fun s₁ o => by
    obtain ⟨ys, p, r⟩ := ac
    cases t with
    | false =>
      simp only [Bool.false_eq_true, if_false, List.append_nil]
      exact wpAny_pure ⟨⟨o.but, fun x hx => (P.slots x hx).kept fun b ob _ e => o.grow b ob e, let ⟨m, n⟩ := P.ns; ⟨m, n.keeps o.grow⟩, P.live.up o.grow, ys, p.at fun ob e => o.grow _ ob e, r.up o.grow⟩, fun n pv _ H => H.up o.grow⟩
    | true =>
      simp only [if_true] at hn ⊢
      refine wpAny_bind (Ev.use (he rfl X s₁ (P.st.ok o)) fun v s₂ o₂ r₂ => ?_)
      have oo := o.trans o₂
      have p2 : s₂.heap.PlainList Da ys.toArray := p.at fun ob e => oo.grow _ ob e
      have hz : ys.toArray.size ≤ sizeLine := by
        have := r.length
        simp only [List.size_toArray, this]
        simp only [List.length_singleton] at hn
        omega
      refine wpAny_bind (wpAny_list_append_plain (hsz := hz) p2 fun h' hl hs => wpAny_pure ?_)
      · have B : But T s₂ { s₂ with heap := h' } := But.same (tk := s₂.toks) hs hD
        refine ⟨⟨oo.but.trans B, fun x hx => ?_, ?_, ?_, ys ++ [v], by simpa using hl, ?_⟩, fun n pv kn H => ?_⟩
        · refine ((P.slots x hx).kept fun b ob _ e => oo.grow b ob e).same hs (fun m n => ns_ne_list n p2) fun c v i => cell_ne_list i p2
        · obtain ⟨m, n⟩ := P.ns
          exact ⟨m, (n.keeps oo.grow).sameBut hs (ns_ne_list (n.keeps oo.grow) p2)⟩
        · intro a ha
          obtain ⟨ob, e⟩ := (P.live.up oo.grow) a ha
          by_cases q : a = Da
          · subst q
            obtain ⟨m, e'⟩ := hl
            exact ⟨_, e'⟩
          · exact ⟨ob, (hs.2 a q).trans e⟩
        · exact ((r.up oo.grow).kp (B.kp hT)).append (.cons (r₂.kp (B.kp hT)) .nil)
        · cases H.up oo.grow with
          | loc m v k ns e rr => exact .loc m v k (ns.sameBut hs (ns_ne_list ns p2)) e (rr.kp (B.kp hT))
          | cell c v k => rw [kn] at k; cases k
          | free c v k => rw [kn] at k; cases k
  cases ht with
  | nil => exact wpAny_bind (wpAny_tests_nil (key s (Ok.refl s)))
  | one h => exact wpAny_bind (wpAny_tests_one (Ev.use (h X s P.st) fun b s₁ o e => by subst e; exact key s₁ o))

theorem lookup_append {lv ρf : Loc} {n : Str} {pv : PV} (h : (lv ++ ρf).lookup n = some pv) : lv.lookup n = some pv ∨ (lv.lookup n = none ∧ ρf.lookup n = some pv) := by
  rw [List.lookup_append] at h
  cases q : lv.lookup n with
  | none => rw [q] at h; exact .inr ⟨rfl, by simpa using h⟩
  | some v => rw [q] at h; exact .inl (by simpa using h)

/-- after the target is stored -/
theorem asg_ok {x : Str} {px : Pos} {cenv : Env} {X T : Addr → Prop} {tgts : List Str} {lv ρf : Loc} {s : Shared} {v : Value} {u : PV} {Da : Addr} {outs : List PV} {body : Sem Unit} {Q : Unit → Shared → Prop} {E : Value → Shared → Prop} (hT : ∀ a, T a → X a)
    (hx : x ∈ tgts) (hlv : ∀ n pv, lv.lookup n = some pv → n ≠ x ∧ cenv.kindOf n = some .local ∧ cenv.kindOf x = some .local) (P : Pre D mg mb cenv X T tgts lv ρf s) (rv : Rep X s.heap v u) (ac : Acc X Da s.heap outs)
    (h : ∀ s', But T s s' → Pre D mg mb cenv X T tgts ((x, u) :: lv) ρf s' → Acc X Da s'.heap outs → wpAny (model prog w) A body Q E s') :
    wpAny (model prog w) A (assign (.Name x px) cenv v >>= fun _ => body) Q E s := by
  have Sx := P.slots x hx
  refine wpAny_bind (wpAny_assign_Name (store P.st.fe Sx hT rv fun s' B hx' hsl hl1 hl2 hns hal hpl => ?_))
  obtain ⟨g₀, bs, nw, gr, ho⟩ := P.out
  have gr' := B.grow nw gr
  obtain ⟨ys, p, r⟩ := ac
  refine h s' B ⟨⟨bs.up gr', P.st.fe, fun a ha => ?_, fun n pv hn => ?_⟩, ⟨g₀, bs, nw, gr', ho⟩, fun y hy => hsl y (P.slots y hy), ?_, fun a ha => ?_⟩ ⟨ys, ?_, r.kp (B.kp hT)⟩
  · obtain ⟨o, e⟩ := P.st.live a ha
    exact hal a o e
  · rw [List.cons_append, List.lookup_cons] at hn
    by_cases q : (n == x) = true
    · rw [q] at hn
      cases hn
      rw [eq_of_beq q]; exact hx'
    · rw [show (n == x) = false by simpa using q] at hn
      rcases lookup_append hn with h1 | ⟨_, h2⟩
      · obtain ⟨a1, a2, a3⟩ := hlv n pv h1
        refine hl1 n pv a1 a2 a3 (P.st.has n pv ?_)
        rw [List.lookup_append, h1]; rfl
      · exact (ho n pv h2).up gr'
  · obtain ⟨m, n⟩ := P.ns
    exact hns m n
  · obtain ⟨o, e⟩ := P.live a ha
    exact hal a o e
  · exact hpl _ _ p

/-- what the turn at a place adds -/
def idxG {α : Type} (l : List α) (f : α → List PV) (i : Nat) : List PV := match l[i]? with
  | some y => f y
  | none => []
theorem flat_idx {α : Type} (f : α → List PV) : ∀ l : List α, (List.range l.length).flatMap (idxG l f) = l.flatMap f
  | [] => rfl
  | y :: r => by
    have ih := flat_idx f r
    rw [List.length_cons, List.range_succ_eq_map, List.flatMap_cons, List.flatMap_cons, List.flatMap_map, ← ih]
    rfl
theorem flat_filter {α : Type} (t : α → Bool) (b : α → PV) : ∀ l : List α, (l.flatMap fun y => if t y then [b y] else []) = (l.filter t).map b
  | [] => rfl
  | y :: r => by
    rw [List.flatMap_cons, flat_filter t b r, List.filter_cons]
    cases t y <;> simp

theorem codeAny_compStart1 {elt target iter : Expr} {ifs : List Expr} {scope : Scope} {pos : Pos} : ∀ (it acc : Value) (cenv : Env) (R : Result → Shared → Prop) (s : Shared), codeAny (model prog w) A (.compLoop (.ListComp elt [⟨target, iter, ifs, 0⟩] scope pos) 0 it acc cenv) R s →
    wpAny (model prog w) A (pyIter it) (fun it' s' => codeAny (model prog w) A (.compLoop (.ListComp elt [⟨target, iter, ifs, 0⟩] scope pos) 0 it' acc cenv) R s') (notedBy (model prog w) A cenv fun x s' => R (.error x) s') s →
      codeAny (model prog w) A (.compStart (.ListComp elt [⟨target, iter, ifs, 0⟩] scope pos) 0 it acc cenv) R s := fun _ _ _ _ _ a b => codeAny_compStart_list a b

theorem cp1 {elt iter : Expr} {x : Str} {px pos : Pos} {ifs : List Expr} {scope : Scope} {src : PV} {ρf : Loc} {α : Type} (l : List α) (a b : α → PV) (t : α → Bool) (hh : A.handled = none)
    (hkind : scope.kind = .function) (hnames : ∀ x ∈ scope.names, x.2 = .local → scope.names.lookup x.1 = some .local) (hnc : ∀ x ∈ scope.names, x.2 = .cell → scope.names.lookup x.1 = some .cell)
    (hfree : ∀ p ∈ ρf, ρ.lookup p.1 = some p.2 ∧ scope.names.lookup p.1 = some .free ∧ (env.kindOf p.1 = some .cell ∨ env.kindOf p.1 = some .free) ∧ (p.1 == ("__classdict__" : Str)) = false)
    (fs : List Str) (hfs : ρf.map (·.1) = fs) (hall' : ∀ x ∈ scope.names, x.2 = .free → x.1 ∈ fs)
    (hx : scope.names.lookup x = some .local ∨ (scope.names.lookup x = some .cell ∧ (x, NameKind.cell) ∈ scope.names))
    (hsrc : EV D prog w mg mb A env ρ iter src) (hit : Iter src (l.map a)) (hlen : l.length ≤ sizeLine)
    (ht : ∀ cenv, CE env scope cenv → ∀ y ∈ l, Tests D prog w mg mb A cenv ((x, a y) :: ρf) ifs (t y))
    (he : ∀ cenv, CE env scope cenv → ∀ y ∈ l, t y = true → EV D prog w mg mb A cenv ((x, a y) :: ρf) elt (b y))
    (hs : ∀ x, foldedSetIterable iter env x = pure x := by intro _; rfl) :
    CP D prog w mg mb A env ρ (.ListComp elt [⟨.Name x px, iter, ifs, 0⟩] scope pos) iter scope ((l.filter t).map b) := fun pos' X s S use Q E hR => by
  have hall : ∀ x ∈ scope.names, x.2 = .free → ∃ pv, (x.1, pv) ∈ ρf := fun x hx hf => by
    have := hall' x hx hf
    rw [← hfs] at this
    obtain ⟨p, hp, e⟩ := List.mem_map.mp this
    exact ⟨p.2, by rw [← e]; exact hp⟩
  have hg : (List.range (l.map a).length).flatMap (idxG l fun y => if t y then [b y] else []) = (l.filter t).map b := by
    rw [List.length_map, flat_idx, flat_filter]
  refine comp_core (tgts := [x]) (body1 elt ifs) (idxG l fun y => if t y then [b y] else []) sizeLine (by rw [hg]; simp; exact Nat.le_trans (List.length_filter_le _ _) hlen) hh rfl hs hkind hnames hnc hfree hall
    (fun y hy => by rw [List.mem_singleton.mp hy]; exact hx) codeAny_compStart1 (fun _ _ _ _ _ _ h => h) (fun _ _ _ => rfl) (fun I Da cenv => turn1 elt iter x px ifs scope pos _ _ cenv) hsrc hit ?_ S
    (fun Da C s' o h1 h2 h3 h4 h5 => hR Da C s' o h1 h2 h3 h4 (by rw [hg] at h5; exact h5))
  intro cenv X' T Da ce hT hD i u v s₁ outs hu rv P ac hN
  obtain ⟨y, hy, rfl⟩ : ∃ y, l[i]? = some y ∧ a y = u := by simpa using hu
  have hm : y ∈ l := List.mem_of_getElem? hy
  have e : idxG l (fun y => if t y then [b y] else []) i = if t y then [b y] else [] := by simp only [idxG, hy]
  rw [e] at hN ⊢
  refine asg_ok hT (List.mem_singleton.mpr rfl) (fun n pv h => by cases h) P rv ac fun s₂ B P' ac' => ?_
  refine wpAny_mono (body1_ok (lv := [(x, a y)]) hT hD P' ac' (ht cenv ce y hm) (fun q => he cenv ce y hm q) hN) (fun _ s₃ Po => ⟨B.trans Po.1.but, Po.1.slots, Po.1.ns, Po.1.live, Po.1.acc⟩) fun _ _ f => f
end
end Mine
end

section
open PySem PySem.W PySem.Calls PyProof.Rows PySem.Spec
namespace Mine
section
variable {D : List DefRec} {prog : Program} {w : World} {mg mb : Str → Option Value} {A : Around} {env : Env} {ρ : Loc}

theorem compTurn_in (elt : Expr) (g0 : Comprehension) (target iter : Expr) (ifs : List Expr) (scope : Scope) (pos : Pos) (it acc : Value) (env : Env) :
    compTurn (.ListComp elt [g0, ⟨target, iter, ifs, 0⟩] scope pos) 1 it acc env = (do
      standAt iter.pos
      match ← pyNext it with
      | none => pure (.done .next)
      | some v =>
        letOwnedTupleGo target it v
        assign target env v
        let mut ok := true
        for c in ifs do
          if ok then ok ← isTrue c env (eval c env)
        if ok then
          (do let _ ← call (.builtin "list.append") [acc, ← eval elt env])
        again (.compLoop (.ListComp elt [g0, ⟨target, iter, ifs, 0⟩] scope pos) 1 it acc env)) := by rfl
theorem turn_in (elt iter : Expr) (g0 : Comprehension) (x : Str) (px : Pos) (ifs : List Expr) (scope : Scope) (pos : Pos) (it acc : Value) (env : Env) :
    compTurn (.ListComp elt [g0, ⟨.Name x px, iter, ifs, 0⟩] scope pos) 1 it acc env = turnShape iter.pos (.Name x px) it env (body1 elt ifs env acc) (.compLoop (.ListComp elt [g0, ⟨.Name x px, iter, ifs, 0⟩] scope pos) 1 it acc env) := by
  rw [compTurn_in]
  unfold turnShape body1
  congr 1
  funext _
  congr 1
  funext r
  cases r with
  | none => rfl
  | some v =>
    dsimp only
    congr 1
    funext _
    congr 1
    funext _
    refine Eq.trans ?_ (bind_assoc _ _ _).symm
    refine bind_congr fun ok => ?_
    cases ok <;> rfl

def body2 (e iter2 : Expr) (cenv : Env) (acc : Value) : Sem Unit :=
  eval iter2 cenv >>= fun xv => standAt iter2.pos >>= fun _ => foldedSetIterable iter2 cenv xv >>= fun xv => holding [xv] (pyIter xv) >>= fun it => runOwn (.compStart e 1 it acc cenv) cenv >>= fun _ => pure ()

theorem compTurn_out (elt : Expr) (g1t g1i : Expr) (g1f : List Expr) (target iter : Expr) (scope : Scope) (pos : Pos) (it acc : Value) (env : Env) :
    compTurn (.ListComp elt [⟨target, iter, [], 0⟩, ⟨g1t, g1i, g1f, 0⟩] scope pos) 0 it acc env = (standAt iter.pos >>= fun _ => pyNext it >>= fun r => match r with
      | none => pure (.done .next)
      | some v => letOwnedTupleGo target it v >>= fun _ => assign target env v >>= fun _ =>
        eval g1i env >>= fun xv => standAt g1i.pos >>= fun _ => foldedSetIterable g1i env xv >>= fun xv => holding [xv] (pyIter xv) >>= fun it' => runOwn (.compStart (.ListComp elt [⟨target, iter, [], 0⟩, ⟨g1t, g1i, g1f, 0⟩] scope pos) 1 it' acc env) env >>= fun _ =>
          again (.compLoop (.ListComp elt [⟨target, iter, [], 0⟩, ⟨g1t, g1i, g1f, 0⟩] scope pos) 0 it acc env)) := by rfl
theorem turn_out (elt : Expr) (g1t g1i : Expr) (g1f : List Expr) (x : Str) (px : Pos) (iter : Expr) (scope : Scope) (pos : Pos) (it acc : Value) (env : Env) :
    compTurn (.ListComp elt [⟨.Name x px, iter, [], 0⟩, ⟨g1t, g1i, g1f, 0⟩] scope pos) 0 it acc env = turnShape iter.pos (.Name x px) it env (body2 (.ListComp elt [⟨.Name x px, iter, [], 0⟩, ⟨g1t, g1i, g1f, 0⟩] scope pos) g1i env acc) (.compLoop (.ListComp elt [⟨.Name x px, iter, [], 0⟩, ⟨g1t, g1i, g1f, 0⟩] scope pos) 0 it acc env) := by
  rw [compTurn_out]
  unfold turnShape body2
  congr 1
  funext _
  congr 1
  funext r
  cases r with
  | none => rfl
  | some v =>
    dsimp only
    congr 1
    funext _
    congr 1
    funext _
    refine Eq.trans ?_ (bind_assoc _ _ _).symm
    refine bind_congr fun _ => ?_
    refine Eq.trans ?_ (bind_assoc _ _ _).symm
    refine bind_congr fun _ => ?_
    refine Eq.trans ?_ (bind_assoc _ _ _).symm
    refine bind_congr fun _ => ?_
    refine Eq.trans ?_ (bind_assoc _ _ _).symm
    refine bind_congr fun _ => ?_
    refine Eq.trans ?_ (bind_assoc _ _ _).symm
    refine bind_congr fun _ => ?_
    rfl
theorem compStart_in {elt : Expr} {g0 : Comprehension} {target iter : Expr} {ifs : List Expr} {scope : Scope} {pos : Pos} {it acc : Value} {env : Env} {R : Result → Shared → Prop} {s : Shared}
    (h0 : codeAny (model prog w) A (.compLoop (.ListComp elt [g0, ⟨target, iter, ifs, 0⟩] scope pos) 1 it acc env) R s)
    (h : wpAny (model prog w) A (pyIter it) (fun it' s' => codeAny (model prog w) A (.compLoop (.ListComp elt [g0, ⟨target, iter, ifs, 0⟩] scope pos) 1 it' acc env) R s')
      (notedBy (model prog w) A env fun x s' => R (.error x) s') s) :
    codeAny (model prog w) A (.compStart (.ListComp elt [g0, ⟨target, iter, ifs, 0⟩] scope pos) 1 it acc env) R s := by
  refine codeAny_of_tree ?_
  show wpAny _ _ ((compStart (.ListComp elt [g0, ⟨target, iter, ifs, 0⟩] scope pos) 1 it acc env).onRaise (fun x => do noteFrame x env; standAt theWindowsPlace)) _ _ s
  refine wpAny_notedAt ?_
  unfold compStart
  show wpAny _ _ (ask >>= _) _ _ s
  refine wpAny_bind (wpAny_askSetting (wpAny_ite ?_))
  split
  · first
      | exact wpAny_bind (wpAny_pure (wpAny_pure (And.intro rfl h0)))
      | exact wpAny_pure (And.intro rfl h0)
  · refine wpAny_bind (wpAny_rule ?_)
    show wpAny _ _ (standAt iter.pos >>= _) _ _ s
    exact wpAny_bind (wpAny_standAt (wpAny_bind (wpAny_mono h (fun it' s' h' => wpAny_pure (And.intro rfl h')) fun _ _ x => x)))

theorem cp2 {elt iter iter2 : Expr} {x y : Str} {px py pos : Pos} {ifs : List Expr} {scope : Scope} {src : PV} {ρf : Loc} {α β : Type} (l : List α) (a : α → PV) (l2 : α → List β) (a2 : β → PV) (src2 : α → PV) (b : α → β → PV) (t : α → β → Bool) (hh : A.handled = none)
    (hkind : scope.kind = .function) (hnames : ∀ x ∈ scope.names, x.2 = .local → scope.names.lookup x.1 = some .local) (hnc : ∀ x ∈ scope.names, x.2 = .cell → scope.names.lookup x.1 = some .cell)
    (hfree : ∀ p ∈ ρf, ρ.lookup p.1 = some p.2 ∧ scope.names.lookup p.1 = some .free ∧ (env.kindOf p.1 = some .cell ∨ env.kindOf p.1 = some .free) ∧ (p.1 == ("__classdict__" : Str)) = false)
    (fs : List Str) (hfs : ρf.map (·.1) = fs) (hall' : ∀ x ∈ scope.names, x.2 = .free → x.1 ∈ fs)
    (hx : scope.names.lookup x = some .local) (hy : scope.names.lookup y = some .local) (hxy : x ≠ y)
    (hsrc : EV D prog w mg mb A env ρ iter src) (hit : Iter src (l.map a)) (hlen : (l.flatMap fun u => (l2 u).filter (t u)).length ≤ sizeLine)
    (hsrc2 : ∀ cenv, CE env scope cenv → ∀ u ∈ l, EV D prog w mg mb A cenv ((x, a u) :: ρf) iter2 (src2 u)) (hit2 : ∀ u ∈ l, Iter (src2 u) ((l2 u).map a2))
    (ht : ∀ cenv, CE env scope cenv → ∀ u ∈ l, ∀ v ∈ l2 u, Tests D prog w mg mb A cenv ((y, a2 v) :: (x, a u) :: ρf) ifs (t u v))
    (he : ∀ cenv, CE env scope cenv → ∀ u ∈ l, ∀ v ∈ l2 u, t u v = true → EV D prog w mg mb A cenv ((y, a2 v) :: (x, a u) :: ρf) elt (b u v))
    (hs : ∀ x, foldedSetIterable iter env x = pure x := by intro _; rfl) (hs2 : ∀ env x, foldedSetIterable iter2 env x = pure x := by intro _ _; rfl) :
    CP D prog w mg mb A env ρ (.ListComp elt [⟨.Name x px, iter, [], 0⟩, ⟨.Name y py, iter2, ifs, 0⟩] scope pos) iter scope (l.flatMap fun u => ((l2 u).filter (t u)).map (b u)) := fun pos' X s S use Q E hR => by
  have hall : ∀ x ∈ scope.names, x.2 = .free → ∃ pv, (x.1, pv) ∈ ρf := fun x hx hf => by
    have := hall' x hx hf
    rw [← hfs] at this
    obtain ⟨p, hp, e⟩ := List.mem_map.mp this
    exact ⟨p.2, by rw [← e]; exact hp⟩
  have hg : (List.range (l.map a).length).flatMap (idxG l fun u => ((l2 u).filter (t u)).map (b u)) = l.flatMap fun u => ((l2 u).filter (t u)).map (b u) := by
    rw [List.length_map, flat_idx]
  have hl2 : (l.flatMap fun u => ((l2 u).filter (t u)).map (b u)).length ≤ sizeLine := by
    rw [List.length_flatMap] at hlen ⊢
    simpa using hlen
  refine comp_core (tgts := [x, y]) (body2 (.ListComp elt [⟨.Name x px, iter, [], 0⟩, ⟨.Name y py, iter2, ifs, 0⟩] scope pos) iter2) (idxG l fun u => ((l2 u).filter (t u)).map (b u)) sizeLine (by rw [hg]; exact hl2) hh rfl hs hkind hnames hnc hfree hall
    (fun z hz => by
      rcases List.mem_cons.mp hz with rfl | hz
      · exact .inl hx
      · rw [List.mem_singleton.mp hz]; exact .inl hy) (fun _ _ _ _ _ a b => codeAny_compStart_list a b) (fun _ _ _ _ _ _ h => h) (fun _ _ _ => rfl) (fun I Da cenv => turn_out elt _ _ _ x px iter scope pos _ _ cenv) hsrc hit ?_ S
    (fun Da C s' o h1 h2 h3 h4 h5 => hR Da C s' o h1 h2 h3 h4 (by rw [hg] at h5; exact h5))
  intro cenv X' T Da ce hT hD i u v s₁ outs hu rv P ac hN
  obtain ⟨q, hq, rfl⟩ : ∃ q, l[i]? = some q ∧ a q = u := by simpa using hu
  have hm : q ∈ l := List.mem_of_getElem? hq
  have e : idxG l (fun u => ((l2 u).filter (t u)).map (b u)) i = ((l2 q).filter (t q)).map (b q) := by simp only [idxG, hq]
  rw [e] at hN ⊢
  refine asg_ok hT (List.mem_cons_self) (fun n pv h => by cases h) P rv ac fun s₂ B P' ac' => ?_
  unfold body2
  refine wpAny_bind (Ev.use (hsrc2 cenv ce q hm X' s₂ P'.st) fun v₂ s₃ o₃ r₃ => wpAny_bind (wpAny_standAt (wpAny_bind (wpAny_of_eq (hs2 _ _) (wpAny_bind (wpAny_holding ?_))))))
  have P3 := P'.st.ok o₃
  refine iter_any hh (hit2 q hm) P3.live r₃ fun I s₄ fp St' o₄ hI W hfp st0 stI => ?_
  have oo := o₃.trans o₄
  have hI2 : s₂.heap.get? I = none := by
    cases k : s₂.heap.get? I with
    | none => rfl
    | some o => rw [o₃.grow I o k] at hI; cases hI
  have hkx := ce.kind x .local hx (by decide)
  have hky := ce.kind y .local hy (by decide)
  have hTI : ¬ T I := fun tI => by obtain ⟨o, eo⟩ := P'.live I tI; rw [hI2] at eo; cases eo
  let X2 : Addr → Prop := fun a => X' a ∨ a = I
  have hT2 : ∀ a, T a → X2 a := fun a h => .inl (hT a h)
  have hre : ∀ h : Heap, h.get? I = none → ∀ a, X2 a → X' a ∨ h.get? a = none := fun h k a ha => ha.elim .inl fun c => .inr (c ▸ k)
  obtain ⟨g₀, bs, nw, gr, ho⟩ := P'.out
  have hI0 : g₀.get? I = none := by
    cases k : g₀.get? I with
    | none => rfl
    | some o => rw [gr I o k] at hI2; cases hI2
  let FM : Shared → Prop := fun s' => But (fun a => T a ∨ a = I) s₄ s' ∧ Live T s'.heap ∧ (∀ z ∈ [x, y], Slot T cenv s'.heap z) ∧ (∃ m, s'.heap.Ns cenv.locals m) ∧ Has X2 cenv s'.heap x (a q)
  have hgr : ∀ s', FM s' → Grow g₀ s'.heap := fun s' fm b o eo => fm.1.keep b o (fun tt => by
    rcases tt with tt | tt
    · rw [nw b tt] at eo; cases eo
    · rw [tt, hI0] at eo; cases eo) (oo.grow b o (gr b o eo))
  refine wpAny_bind (wpAny_runOwn ?_)
  have hx2 : Has X2 cenv s₄.heap x (a q) := ((P'.st.has x (a q) (by rw [List.cons_append, List.lookup_cons, beq_self_eq_true])).re (hre _ hI2)).up oo.grow
  have fm0 : FM s₄ := ⟨But.refl _ _, P'.live.up oo.grow, fun z hz => (P'.slots z hz).kept fun b o _ eo => oo.grow b o eo, (let ⟨m, n⟩ := P'.ns; ⟨m, n.keeps oo.grow⟩), hx2⟩
  have ac4 : Acc X2 Da s₄.heap outs := by
    obtain ⟨ys, p, r⟩ := ac'
    exact ⟨ys, p.at fun o eo => oo.grow _ o eo, (r.re (hre _ hI2)).up oo.grow⟩
  have hg2 : (List.range ((l2 q).map a2).length).flatMap (idxG (l2 q) fun v => if t q v then [b q v] else []) = ((l2 q).filter (t q)).map (b q) := by
    rw [List.length_map, flat_idx, flat_filter]
  have loop : codeAny (model prog w) (A.mark none) (.compLoop (.ListComp elt [⟨.Name x px, iter, [], 0⟩, ⟨.Name y py, iter2, ifs, 0⟩] scope pos) 1 (.ref I) (.ref Da) cenv)
      (fun r s' => match r with
        | .ok f => wpAny (model prog w) A (pure () : Sem Unit) (fun _ s' => Post cenv X' T [x, y] Da (outs ++ ((l2 q).filter (t q)).map (b q)) s₁ s') (fun _ _ => False) s'
        | .error e => cameBackBy (model prog w) A cenv (fun _ _ => False) e s') s₄ := by
    refine comp_loop (X := X2) (T := T) (h₂ := s₄.heap) (outs₀ := outs) (idxG (l2 q) fun v => if t q v then [b q v] else []) FM sizeLine (fun _ _ _ h => h) rfl (turn_in elt iter2 _ y py ifs scope pos _ _ cenv)
      (Walks.weaken W fun i v hP => let ⟨u, e1, e2⟩ := hP; ⟨u, e1, (e2.re (hre _ hI)).up o₄.grow⟩)
      (fun b hb tb => by
        rcases hfp b hb with rfl | ⟨nb, o, eo⟩
        · exact hTI tb
        · exact nb (hT b tb)) hT2 (.inr rfl) hTI hD ?_ ?_ ?_ _ st0 fm0 ac4 (by rw [hg2]; exact hN) ?_
    · rintro s₅ s₆ ⟨b5, l5, sl5, n5, hx5⟩ b
      have kk : ∀ c o, T c → s₅.heap.get? c = some o → s₆.heap.get? c = some o := fun c o tc ec => b.keep c o (fun k => hTI (k ▸ tc)) ec
      refine ⟨b5.trans (b.more fun a h => .inr h), fun a ta => ?_, fun z hz => (sl5 z hz).kept kk, ?_, ?_⟩
      · obtain ⟨o, eo⟩ := l5 a ta
        exact ⟨o, kk a o ta eo⟩
      · cases sl5 x List.mem_cons_self with
        | loc m k n tc => exact ⟨m, n.at' fun o eo => kk _ o tc eo⟩
        | cell c v k => rw [hkx] at k; cases k
      · cases sl5 x List.mem_cons_self with
        | cell c v k => rw [hkx] at k; cases k
        | loc m0 k0 n0 tc =>
          cases hx5 with
          | loc m v k n eo r => exact .loc m v k (n.at' fun o eo => kk _ o tc eo) eo (r.kp (b.kp fun a ha => .inr ha))
          | cell c v k => rw [hkx] at k; cases k
          | free c v k => rw [hkx] at k; cases k
    · exact fun s₅ fm => fm.1.kp fun a h => h.elim (fun tt => hT2 a tt) .inr
    · intro i' u' v' s₅ outs' hu' rv' fm hj ac5 hN5
      obtain ⟨v, hv, rfl⟩ : ∃ v, (l2 q)[i']? = some v ∧ a2 v = u' := by simpa using hu'
      have hmv : v ∈ l2 q := List.mem_of_getElem? hv
      have e' : idxG (l2 q) (fun v => if t q v then [b q v] else []) i' = if t q v then [b q v] else [] := by simp only [idxG, hv]
      rw [e'] at hN5 ⊢
      have gr5 := hgr s₅ fm
      have ho2 : ∀ n pv, ρf.lookup n = some pv → Has X2 cenv g₀ n pv := fun n pv hn => (ho n pv hn).re (hre _ hI0)
      have hst : St D mg mb X2 cenv s₅.heap ([(x, a q)] ++ ρf) := ⟨bs.up gr5, ce.fe, fun c hc => by
        rcases hc with hc | hc
        · by_cases tc : T c
          · exact fm.2.1 c tc
          · obtain ⟨o, eo⟩ := P'.st.live c hc
            exact ⟨o, fm.1.keep c o (fun k => k.elim tc fun k => by rw [k, hI2] at eo; cases eo) (oo.grow c o eo)⟩
        · obtain ⟨j, sj⟩ := hj
          exact hc ▸ stI j _ sj, fun n pv hn => by
        rcases lookup_append hn with h1 | ⟨_, h2⟩
        · rw [List.lookup_cons] at h1
          by_cases k : (n == x) = true
          · rw [k] at h1; cases h1
            rw [eq_of_beq k]; exact fm.2.2.2.2
          · rw [show (n == x) = false by simpa using k] at h1; cases h1
        · exact (ho2 n pv h2).up gr5⟩
      refine asg_ok (lv := [(x, a q)]) (tgts := [x, y]) hT2 (by simp) (fun n pv h => ?_) ⟨hst, ⟨g₀, bs, nw, gr5, ho2⟩, fm.2.2.1, fm.2.2.2.1, fm.2.1⟩ rv' ac5 fun s₆ B6 P6 ac6 => ?_
      · rw [List.lookup_cons] at h
        by_cases k : (n == x) = true
        · rw [eq_of_beq k]; exact ⟨hxy, hkx, hky⟩
        · rw [show (n == x) = false by simpa using k] at h; cases h
      · refine wpAny_mono (body1_ok (lv := [(y, a2 v), (x, a q)]) hT2 hD P6 ac6 (ht cenv ce q hm v hmv) (fun k => he cenv ce q hm v hmv k) hN5) (fun _ s₇ Po => ?_) fun _ _ f => f
        obtain ⟨Po, hl⟩ := Po
        have hb : But T s₅ s₇ := B6.trans Po.but
        refine ⟨hb, ⟨fm.1.trans (hb.more fun a h => .inl h), Po.live, Po.slots, Po.ns, hl x (a q) hkx (P6.st.has x (a q) ?_)⟩, Po.acc⟩
        rw [List.cons_append, List.lookup_cons, show (x == y) = false by simpa using hxy, List.cons_append, List.lookup_cons, beq_self_eq_true]
    · intro s₅ b5 fm ac5
      rw [hg2] at ac5
      refine wpAny_pure ⟨⟨fun c o tc eo => ?_, ?_, ?_, ?_⟩, fm.2.2.1, fm.2.2.2.1, fm.2.1, ?_⟩
      · have e2 := B.keep c o tc eo
        exact b5.keep c o (fun k => k.elim tc fun k => by rw [k, hI2] at e2; cases e2) (oo.grow c o e2)
      · rw [b5.gens, oo.gens, B.gens]
      · rw [b5.drawn, oo.drawn, B.drawn]
      · rw [b5.os, oo.os, B.os]
      · obtain ⟨ys, p, r⟩ := ac5
        exact ⟨ys, p, r.re fun c hc => .inl (.inl hc)⟩
  exact compStart_in loop (W.self 0 _ _ _ st0 loop)
end
end Mine
end

section
open PySem PySem.W PySem.Calls PyProof.Rows PySem.Spec
namespace Mine

abbrev Mut := List (Addr × List Int)
structure Fx (D : List DefRec) (mg mb : Str → Option Value) (env : Env) (T X : Addr → Prop) (g₀ : Heap) : Prop where
  fe : FnEnv env
  tx : ∀ a, T a → X a
  base : Base D mg mb g₀
  new : New T g₀
  inj : ∀ n n' c, env.cells.lookup n = some c → env.cells.lookup n' = some c → n = n'
  nofree : ∀ n, env.kindOf n ≠ some .free
/-- the state within a def's body -/
structure Bd (D : List DefRec) (mg mb : Str → Option Value) (X T : Addr → Prop) (env : Env) (g : Shared) (g₀ : Heap) (ρ : Loc) (M : Mut) (s : Shared) : Prop where
  st : St D mg mb X env s.heap ρ
  but : But T g s
  gr : Grow g₀ s.heap
  slots : ∀ x, env.kindOf x = some .local ∨ env.kindOf x = some .cell → Slot T env s.heap x
  live : Live T s.heap
  muts : ∀ p ∈ M, T p.1 ∧ ∃ vs, s.heap.PlainList p.1 vs.toArray ∧ IntsAre vs p.2

section
variable {D : List DefRec} {prog : Program} {w : World} {mg mb : Str → Option Value} {A : Around} {env : Env} {ρ : Loc} {X T : Addr → Prop} {g : Shared} {g₀ : Heap} {M : Mut}

theorem Bd.up {s s' : Shared} (B : Bd D mg mb X T env g g₀ ρ M s) (o : Ok s s') : Bd D mg mb X T env g g₀ ρ M s' where
  st := B.st.ok o
  but := B.but.trans o.but
  gr := B.gr.trans o.grow
  slots := fun x h => (B.slots x h).kept fun b ob _ e => o.grow b ob e
  live := B.live.up o.grow
  muts := fun p hp => let ⟨t, vs, a, b⟩ := B.muts p hp; ⟨t, vs, a.at fun ob e => o.grow _ ob e, b⟩
theorem Bd.sub {s : Shared} {ρ' : Loc} {M' : Mut} (B : Bd D mg mb X T env g g₀ ρ M s) (h : ∀ n pv, ρ'.lookup n = some pv → ρ.lookup n = some pv) (hM : ∀ p ∈ M', p ∈ M) : Bd D mg mb X T env g g₀ ρ' M' s :=
  ⟨⟨B.st.base, B.st.fe, B.st.live, fun x pv e => B.st.has x pv (h x pv e)⟩, B.but, B.gr, B.slots, B.live, fun p hp => B.muts p (hM p hp)⟩

theorem store2 {s : Shared} {x : Str} {v : Value} {pv : PV} {E : Value → Shared → Prop} {Q : Unit → Shared → Prop} (fx : Fx D mg mb env T X g₀) (S : Slot T env s.heap x) (r : Rep X s.heap v pv)
    (h : ∀ s', But T s s' → Has X env s'.heap x pv → (∀ y, Slot T env s.heap y → Slot T env s'.heap y) → (∀ y u, y ≠ x → Has X env s.heap y u → Has X env s'.heap y u) →
      (∀ a o, s.heap.get? a = some o → ∃ o', s'.heap.get? a = some o') → (∀ a its, s.heap.PlainList a its → s'.heap.PlainList a its) → Q () s') :
    wpAny (model prog w) A (storeName env x v) Q E s := by
  have hT := fx.tx
  cases S with
  | loc m k n t =>
    refine store fx.fe (.loc m k n t) hT r fun s' B hx hsl h1 h2 _ hal hpl => h s' B hx hsl (fun y u hy R => ?_) hal hpl
    by_cases ky : env.kindOf y = some .local
    · exact h1 y u hy ky k R
    · exact h2 y u ky k R
  | cell c v₀ k l i t =>
    refine wpAny_storeName_cell fx.fe.kind k l i (fun h' hi hs => ?_)
    have B : But T s { s with heap := h' } := But.same (tk := s.toks) hs t
    have K := B.kp hT
    refine h _ B (.cell c v k l hi (r.kp K)) (fun y Sy => ?_) (fun y u hy R => ?_) (fun a o e => ?_) fun a its p => p.at fun o e => (hs.2 a (cell_ne_list i p).symm).trans e
    · cases Sy with
      | loc m' k' n t' => exact .loc _ k' (n.sameBut hs (ns_ne_cell n i)) t'
      | cell c' v' k' l' i' t' =>
        by_cases e : c' = c
        · subst e; exact .cell _ _ k' l' hi t'
        · exact .cell c' v' k' l' (i'.sameBut hs e) t'
    · cases R with
      | loc m v' k' n e r' => exact .loc m v' k' (n.sameBut hs (ns_ne_cell n i)) e (r'.kp K)
      | cell c' v' k' l' i' r' => exact .cell c' v' k' l' (i'.sameBut hs fun e => hy (fx.inj _ _ _ (e ▸ l') l)) (r'.kp K)
      | free c' v' k' l' i' r' q => exact .free c' v' k' l' (i'.sameBut hs fun e => hy (fx.inj _ _ _ (e ▸ l') l)) (r'.kp K) q
    · by_cases q : a = c
      · obtain ⟨o', e', _⟩ := hi; exact ⟨o', q ▸ e'⟩
      · exact ⟨o, (hs.2 a q).trans e⟩

theorem bd_store {s : Shared} {x : Str} {v : Value} {pv : PV} {E : Value → Shared → Prop} {Q : Unit → Shared → Prop} (fx : Fx D mg mb env T X g₀) (B : Bd D mg mb X T env g g₀ ρ M s) (hx : env.kindOf x = some .local ∨ env.kindOf x = some .cell) (r : Rep X s.heap v pv)
    (h : ∀ s', But T s s' → Bd D mg mb X T env g g₀ ((x, pv) :: ρ) M s' → Q () s') : wpAny (model prog w) A (storeName env x v) Q E s := by
  refine store2 fx (B.slots x hx) r fun s' b hxs hsl hho hal hpl => h s' b ?_
  have gr' := b.grow fx.new B.gr
  refine ⟨⟨fx.base.up gr', fx.fe, fun a ha => ?_, fun n u hn => ?_⟩, B.but.trans b, gr', fun y hy => hsl y (B.slots y hy), fun a ha => ?_, fun p hp => ?_⟩
  · obtain ⟨o, e⟩ := B.st.live a ha
    exact hal a o e
  · rw [List.lookup_cons] at hn
    by_cases q : (n == x) = true
    · rw [q] at hn; cases hn; rw [eq_of_beq q]; exact hxs
    · rw [show (n == x) = false by simpa using q] at hn
      exact hho n u (by simpa using q) (B.st.has n u hn)
  · obtain ⟨o, e⟩ := B.live a ha
    exact hal a o e
  · obtain ⟨t, vs, a, i⟩ := B.muts p hp
    exact ⟨t, vs, hpl _ _ a, i⟩
end

section
variable (D : List DefRec) (prog : Program) (w : World) (mg mb : Str → Option Value) (A : Around) (env : Env) (X T : Addr → Prop) (g : Shared) (g₀ : Heap)
/-- a statement that goes on -/
def ST (st : Stmt) (ρ : Loc) (M : Mut) (ρ' : Loc) (M' : Mut) : Prop :=
  ∀ s, Bd D mg mb X T env g g₀ ρ M s → wpAny (model prog w) A (exec st env) (fun f s' => f = .next ∧ But T s s' ∧ Bd D mg mb X T env g g₀ ρ' M' s') (fun _ _ => False) s
def STs (sts : List Stmt) (ρ : Loc) (M : Mut) (ρ' : Loc) (M' : Mut) : Prop :=
  ∀ s, Bd D mg mb X T env g g₀ ρ M s → wpAny (model prog w) A (execs sts env) (fun f s' => f = .next ∧ But T s s' ∧ Bd D mg mb X T env g g₀ ρ' M' s') (fun _ _ => False) s
/-- statements that give back -/
def RUN (sts : List Stmt) (ρ : Loc) (M : Mut) (pv : PV) : Prop :=
  ∀ s, Bd D mg mb X T env g g₀ ρ M s → wpAny (model prog w) A (execs sts env) (fun f s' => ∃ v, f = .ret v ∧ But T g s' ∧ Live X s'.heap ∧ Rep X s'.heap v pv) (fun _ _ => False) s
def WH (test : Expr) (body : List Stmt) (ρ : Loc) (M : Mut) (ρ' : Loc) (M' : Mut) : Prop :=
  ∀ s, Bd D mg mb X T env g g₀ ρ M s → codeAny (model prog w) A (.whileLoop test body [] env) (fun r s' => r = .ok .next ∧ But T s s' ∧ Bd D mg mb X T env g g₀ ρ' M' s') s
end

section
variable {D : List DefRec} {prog : Program} {w : World} {mg mb : Str → Option Value} {A : Around} {env : Env} {ρ ρ' ρ₁ ρ₂ : Loc} {X T : Addr → Prop} {g : Shared} {g₀ : Heap} {M M' M₁ M₂ : Mut}

theorem sts_nil : STs D prog w mg mb A env X T g g₀ [] ρ M ρ M := fun s B => wpAny_execs_nil ⟨rfl, But.refl _ _, B⟩
theorem sts_cons {st : Stmt} {sts : List Stmt} (h : ST D prog w mg mb A env X T g g₀ st ρ M ρ₁ M₁) (hs : STs D prog w mg mb A env X T g g₀ sts ρ₁ M₁ ρ₂ M₂) : STs D prog w mg mb A env X T g g₀ (st :: sts) ρ M ρ₂ M₂ := fun s B =>
  wpAny_execs_cons (wpAny_mono (h s B) (fun f s₁ q => by
    obtain ⟨rfl, b, B₁⟩ := q
    exact wpAny_mono (hs s₁ B₁) (fun f s₂ q => ⟨q.1, b.trans q.2.1, q.2.2⟩) fun _ _ f => f) fun _ _ f => f)
theorem run_seq {st : Stmt} {sts : List Stmt} {pv : PV} (h : ST D prog w mg mb A env X T g g₀ st ρ M ρ₁ M₁) (hs : RUN D prog w mg mb A env X T g g₀ sts ρ₁ M₁ pv) : RUN D prog w mg mb A env X T g g₀ (st :: sts) ρ M pv := fun s B =>
  wpAny_execs_cons (wpAny_mono (h s B) (fun f s₁ q => by
    obtain ⟨rfl, b, B₁⟩ := q
    exact hs s₁ B₁) fun _ _ f => f)
theorem run_ret {e : Expr} {p : Pos} {sts : List Stmt} {pv : PV} (h : EV D prog w mg mb A env ρ e pv) : RUN D prog w mg mb A env X T g g₀ (.Return (some e) p :: sts) ρ M pv := fun s B =>
  wpAny_execs_cons (wpAny_Return_some (Ev.use (h X s B.st) fun v s₁ o r => ⟨v, rfl, B.but.trans o.but, (B.st.ok o).live, r⟩))
theorem run_sub {sts : List Stmt} {pv : PV} (h : RUN D prog w mg mb A env X T g g₀ sts ρ' M' pv) (h1 : ∀ n pv, ρ'.lookup n = some pv → ρ.lookup n = some pv) (hM : ∀ p ∈ M', p ∈ M) : RUN D prog w mg mb A env X T g g₀ sts ρ M pv := fun s B => h s (B.sub h1 hM)
theorem st_sub {st : Stmt} (h : ST D prog w mg mb A env X T g g₀ st ρ' M' ρ₁ M₁) (h1 : ∀ n pv, ρ'.lookup n = some pv → ρ.lookup n = some pv) (hM : ∀ p ∈ M', p ∈ M) : ST D prog w mg mb A env X T g g₀ st ρ M ρ₁ M₁ := fun s B => h s (B.sub h1 hM)
theorem sts_sub {st : List Stmt} (h : STs D prog w mg mb A env X T g g₀ st ρ' M' ρ₁ M₁) (h1 : ∀ n pv, ρ'.lookup n = some pv → ρ.lookup n = some pv) (hM : ∀ p ∈ M', p ∈ M) : STs D prog w mg mb A env X T g g₀ st ρ M ρ₁ M₁ := fun s B => h s (B.sub h1 hM)
theorem sts_out {st : List Stmt} (h : STs D prog w mg mb A env X T g g₀ st ρ M ρ' M') (h1 : ∀ n pv, ρ₁.lookup n = some pv → ρ'.lookup n = some pv) (hM : ∀ p ∈ M₁, p ∈ M') : STs D prog w mg mb A env X T g g₀ st ρ M ρ₁ M₁ := fun s B =>
  wpAny_mono (h s B) (fun f s' q => ⟨q.1, q.2.1, q.2.2.sub h1 hM⟩) fun _ _ f => f

theorem st_assign {x : Str} {px p : Pos} {e : Expr} {pv : PV} (fx : Fx D mg mb env T X g₀) (hx : env.kindOf x = some .local ∨ env.kindOf x = some .cell) (h : EV D prog w mg mb A env ρ e pv)
    (hsw : swapsWith e (some (.Name x px)) p.line env = pure false) : ST D prog w mg mb A env X T g g₀ (.Assign [.Name x px] e p) ρ M ((x, pv) :: ρ) M := fun s B =>
  wpAny_Assign_Name (Ev.use (h X s B.st) fun v s₁ o r => bd_store fx (B.up o) hx r fun s₂ b B₂ => ⟨rfl, o.but.trans b, B₂⟩) hsw
theorem st_aug {x : Str} {px p : Pos} {e : Expr} {op : Operator} {old new val : PV} (fx : Fx D mg mb env T X g₀) (hx : env.kindOf x = some .local ∨ env.kindOf x = some .cell) (ho : ρ.lookup x = some old) (h : EV D prog w mg mb A env ρ e val)
    (hi : ∀ X s u v, Live X s.heap → Rep X s.heap u old → Rep X s.heap v val → Ev (model prog w) A s (inplaceOp op u v) (fun h r => Rep X h r new)) (hd : (x == ("__debug__" : Str)) = false := by decide) :
    ST D prog w mg mb A env X T g g₀ (.AugAssign (.Name x px) op e p) ρ M ((x, new) :: ρ) M := fun s B => by
  refine wpAny_AugAssign_Name ?_
  have hl : Ev (model prog w) A s (loadName env x) (fun h v => Rep X h v old) := by
    cases B.st.has x old ho with
    | loc m v k n e r => exact wpAny_loadName_local fx.fe.kind k n e ⟨Ok.refl _, r⟩
    | cell c v k l i r => exact wpAny_loadName_cell fx.fe.kind k l i ⟨Ok.refl _, r⟩
    | free c v k l i r hn => exact wpAny_loadName_free fx.fe.kind k l i ⟨Ok.refl _, r⟩ hn
  refine Ev.use hl fun u s₁ o₁ r₁ => Ev.use (h X s₁ (B.up o₁).st) fun v s₂ o₂ r₂ => Ev.use (hi X s₂ u v ((B.up o₁).up o₂).st.live (r₁.up o₂.grow) r₂) fun q s₃ o₃ r₃ => ?_
  have oo := (o₁.trans o₂).trans o₃
  exact bd_store fx (B.up oo) hx r₃ fun s₄ b B₂ => ⟨rfl, oo.but.trans b, B₂⟩
theorem i_add (a b : Int) : ∀ X s u v, Live X s.heap → Rep X s.heap u (.int a) → Rep X s.heap v (.int b) → Ev (model prog w) A s (inplaceOp .Add u v) (fun h r => Rep X h r (.int (a + b))) := fun X s u v _ hu hv => by
  cases hu; cases hv; exact wpAny_iadd_int ⟨Ok.tok, .int _ _⟩
theorem st_if {test : Expr} {body orelse : List Stmt} {p : Pos} {c : Bool} (ht : TR D prog w mg mb A env ρ test c) (h1 : c = true → STs D prog w mg mb A env X T g g₀ body ρ M ρ' M') (h2 : c = false → STs D prog w mg mb A env X T g g₀ orelse ρ M ρ' M') :
    ST D prog w mg mb A env X T g g₀ (.If test body orelse p) ρ M ρ' M' := fun s B =>
  wpAny_If (Ev.use (ht X s B.st) fun b s₁ o e => by
    subst e
    cases b with
    | true => rw [if_pos rfl]; exact wpAny_mono (h1 rfl s₁ (B.up o)) (fun f s₂ q => ⟨q.1, o.but.trans q.2.1, q.2.2⟩) fun _ _ f => f
    | false => rw [if_neg (by decide)]; exact wpAny_mono (h2 rfl s₁ (B.up o)) (fun f s₂ q => ⟨q.1, o.but.trans q.2.1, q.2.2⟩) fun _ _ f => f)
/-- an if whose test fails -/
theorem st_skip {test : Expr} {body : List Stmt} {p : Pos} (ht : TR D prog w mg mb A env ρ test false) : ST D prog w mg mb A env X T g g₀ (.If test body [] p) ρ M ρ M := st_if ht (fun h => by cases h) fun _ => sts_nil
theorem run_if {test : Expr} {body orelse : List Stmt} {p : Pos} {sts : List Stmt} {pv : PV} (ht : TR D prog w mg mb A env ρ test true) (h : RUN D prog w mg mb A env X T g g₀ body ρ M pv) : RUN D prog w mg mb A env X T g g₀ (.If test body orelse p :: sts) ρ M pv := fun s B =>
  wpAny_execs_cons (wpAny_If (Ev.use (ht X s B.st) fun b s₁ o e => by
    subst e
    rw [if_pos rfl]
    refine wpAny_mono (h s₁ (B.up o)) (fun f s₂ q => ?_) fun _ _ f => f
    obtain ⟨v, rfl, q⟩ := q
    exact ⟨v, rfl, q⟩))

theorem Bd.next {X₂ : Addr → Prop} {I : Addr} {s s' : Shared} (fx : Fx D mg mb env T X g₀) (B : Bd D mg mb X T env g g₀ ρ M s) (b : But (· = I) s s') (hXI : X I) (hTI : ¬ T I) (hI0 : g₀.get? I = none) (hIg : g.heap.get? I = none) (h2 : ∀ a, X₂ a → X a) (hl : Live X₂ s'.heap) :
    Bd D mg mb X₂ T env g g₀ ρ M s' := by
  have kT : ∀ c o, T c → s.heap.get? c = some o → s'.heap.get? c = some o := fun c o t e => b.keep c o (fun q => hTI (q ▸ t)) e
  have K : Kp X s.heap s'.heap := b.kp fun a e => e ▸ hXI
  have gr' : Grow g₀ s'.heap := b.grow (fun a e => e ▸ hI0) B.gr
  have re : ∀ a, X₂ a → X a ∨ s'.heap.get? a = none := fun a h => .inl (h2 a h)
  refine ⟨⟨fx.base.up gr', fx.fe, hl, fun n pv hn => ?_⟩, ?_, gr', fun x hx => (B.slots x hx).kept kT, fun a t => ?_, fun p hp => ?_⟩
  · have H := B.st.has n pv hn
    cases H with
    | loc m v k ns e r =>
      cases B.slots n (.inl k) with
      | loc m' k' ns' t => exact .loc m v k (ns.at' fun o eo => kT _ o t eo) e ((r.kp K).re re)
      | cell c v k' => rw [k] at k'; cases k'
    | cell c v k l i r =>
      cases B.slots n (.inr k) with
      | loc m' k' => rw [k] at k'; cases k'
      | cell c' v' k' l' i' t =>
        rw [l] at l'; cases l'
        exact .cell c v k l (let ⟨o, eo, d⟩ := i; ⟨o, kT _ o t eo, d⟩) ((r.kp K).re re)
    | free c v k l i r q =>
      refine .free c v k l (let ⟨o, eo, d⟩ := i; ⟨o, b.keep c o (fun e => ?_) eo, d⟩) ((r.kp K).re re) q
      exact absurd k (fx.nofree n)
  · refine ⟨fun c o tc e => ?_, by rw [b.gens, B.but.gens], by rw [b.drawn, B.but.drawn], by rw [b.os, B.but.os]⟩
    exact b.keep c o (fun q => by rw [q, hIg] at e; cases e) (B.but.keep c o tc e)
  · obtain ⟨o, e⟩ := B.live a t
    exact ⟨o, kT a o t e⟩
  · obtain ⟨t, vs, a, i⟩ := B.muts p hp
    exact ⟨t, vs, a.at fun o e => kT _ o t e, i⟩

/-- a for over a source -/
theorem st_for {x : Str} {px p : Pos} {iter : Expr} {body : List Stmt} {src : PV} {xs : List PV} (fx : Fx D mg mb env T X g₀) (hh : A.handled = none) (hx : env.kindOf x = some .local ∨ env.kindOf x = some .cell) (σ : Nat → Loc) (μ : Nat → Mut)
    (hsrc : EV D prog w mg mb A env ρ iter src) (hit : Iter src xs) (h0 : ∀ n pv, (σ 0).lookup n = some pv → ρ.lookup n = some pv) (hM0 : ∀ p ∈ μ 0, p ∈ M)
    (hstep : ∀ X, Fx D mg mb env T X g₀ → ∀ i u, xs[i]? = some u → STs D prog w mg mb A env X T g g₀ body ((x, u) :: σ i) (μ i) (σ (i + 1)) (μ (i + 1)))
    (hs : ∀ x, foldedSetIterable iter env x = pure x := by intro _; rfl) : ST D prog w mg mb A env X T g g₀ (.For (.Name x px) iter body [] p) ρ M (σ xs.length) (μ xs.length) := fun s B => by
  refine wpAny_For (Ev.use (hsrc X s B.st) fun v₀ s₁ o₁ r₁ => ?_) hs
  have B₁ := B.up o₁
  refine iter_any hh hit B₁.st.live r₁ fun I s₂ fp St' o₂ hI W hfp st0 stI => ?_
  have B₂ := B₁.up o₂
  have hTI : ¬ T I := fun t => by obtain ⟨o, e⟩ := B₁.live I t; rw [hI] at e; cases e
  have hI0 : g₀.get? I = none := by
    cases q : g₀.get? I with
    | none => rfl
    | some o => rw [B₁.gr I o q] at hI; cases hI
  have hIg : g.heap.get? I = none := by
    cases q : g.heap.get? I with
    | none => rfl
    | some o => rw [B₁.but.keep I o hTI q] at hI; cases hI
  let X' : Addr → Prop := fun a => X a ∨ a = I
  have fx' : Fx D mg mb env T X' g₀ := ⟨fx.fe, fun a t => .inl (fx.tx a t), fx.base, fx.new, fx.inj, fx.nofree⟩
  have hre : ∀ a, X' a → X a ∨ s₁.heap.get? a = none := fun a h => h.elim .inl fun e => .inr (e ▸ hI)
  have B₂' : Bd D mg mb X' T env g g₀ ρ M s₂ := ⟨⟨B₂.st.base, fx.fe, fun a h => h.elim (B₂.st.live a) fun e => e ▸ stI 0 _ st0, fun n pv hn => ((B₁.st.has n pv hn).re hre).up o₂.grow⟩, B₂.but, B₂.gr, B₂.slots, B₂.live, B₂.muts⟩
  refine codeAny_forLoop (fun k s' => ∃ i, k = xs.length - i ∧ i ≤ xs.length ∧ St' i s'.heap ∧ Bd D mg mb X' T env g g₀ (σ i) (μ i) s' ∧ But (fun a => T a ∨ a = I) s₂ s') ?_ xs.length
    ⟨0, rfl, Nat.zero_le _, st0, B₂'.sub h0 hM0, But.refl _ _⟩
  rintro k s₃ ⟨i, rfl, hi, st, B₃, b₃⟩
  have back : ∀ s', But (fun a => T a ∨ a = I) s₂ s' → But T s s' := fun s' b => ⟨fun c o tc e => b.keep c o (fun q => q.elim tc fun q => by
      have e' := o₁.grow c o e
      rw [q, hI] at e'; cases e') (o₂.grow c o (o₁.grow c o e)), by rw [b.gens, o₂.gens, o₁.gens], by rw [b.drawn, o₂.drawn, o₁.drawn], by rw [b.os, o₂.os, o₁.os]⟩
  by_cases hlt : i < xs.length
  · refine W.item i s₃ _ _ hlt st fun v h' tk hP st' hk => ?_
    obtain ⟨u, hu, ru⟩ := hP
    have b1 : But (· = I) s₃ { s₃ with heap := h', toks := tk } := ⟨fun b o n e => hk b o (by simpa using n) e, rfl, rfl, rfl⟩
    have B₄ : Bd D mg mb X' T env g g₀ (σ i) (μ i) { s₃ with heap := h', toks := tk } := B₃.next fx' b1 (.inr rfl) hTI hI0 hIg (fun _ h => h) (fun a h => by
      by_cases q : a = I
      · exact q ▸ stI _ _ st'
      · obtain ⟨o, e⟩ := B₃.st.live a h
        exact ⟨o, b1.keep a o q e⟩)
    have ru' : Rep X' h' v u := by
      have r2 := (ru.re hre).up o₂.grow
      have r3 := r2.kp (b₃.kp fun a h => h.elim (fun t => .inl (fx.tx a t)) .inr)
      exact r3.kp (b1.kp fun a e => .inr e)
    refine wpAny_assign_Name (bd_store fx' B₄ hx ru' fun s₅ b5 B₅ => wpAny_mono (hstep X' fx' i u hu s₅ B₅) (fun f s₆ q => ?_) fun _ _ f => f.elim)
    obtain ⟨rfl, b6, B₆⟩ := q
    refine ⟨xs.length - (i + 1), by omega, i + 1, rfl, hlt, ?_, B₆, ((b₃.trans (b1.more fun a h => .inr h)).trans (b5.more fun a h => .inl h)).trans (b6.more fun a h => .inl h)⟩
    have hfpT : ∀ b ∈ fp, ¬ T b := fun b hb t => by
      rcases hfp b hb with rfl | ⟨nb, o, e⟩
      · exact hTI t
      · exact nb (fx.tx b t)
    exact W.frame _ _ _ st' fun b hb o e => b6.keep b o (hfpT b hb) (b5.keep b o (hfpT b hb) e)
  · have hin : i = xs.length := by omega
    subst hin
    refine W.done s₃ _ _ st fun h' tk hk => wpAny_execs_nil ?_
    have b1 : But (· = I) s₃ { s₃ with heap := h', toks := tk } := ⟨fun b o n e => hk b o (by simpa using n) e, rfl, rfl, rfl⟩
    refine ⟨rfl, back _ (b₃.trans (b1.more fun a h => .inr h)), B₃.next fx' b1 (.inr rfl) hTI hI0 hIg (fun a h => .inl h) fun a h => ?_⟩
    have hne : a ≠ I := fun q => by obtain ⟨o, e⟩ := B₁.st.live a h; rw [q, hI] at e; cases e
    obtain ⟨o, e⟩ := B₃.st.live a (.inl h)
    exact ⟨o, b1.keep a o hne e⟩
end
end Mine
end

section
open PySem PySem.W PySem.Calls PyProof.Rows PySem.Spec
namespace Mine
section
variable {D : List DefRec} {prog : Program} {w : World} {mg mb : Str → Option Value} {A : Around} {env : Env} {ρ ρ' ρ₁ ρ₂ : Loc} {X T : Addr → Prop} {g : Shared} {g₀ : Heap} {M M' M₁ M₂ : Mut}

-- while
theorem st_while {test : Expr} {body : List Stmt} {p : Pos} (h : WH D prog w mg mb A env X T g g₀ test body ρ M ρ' M') : ST D prog w mg mb A env X T g g₀ (.While test body [] p) ρ M ρ' M' := fun s B =>
  wpAny_While (codeAny_mono (h s B) fun r s' q => by
    obtain ⟨rfl, q⟩ := q
    exact ⟨rfl, q⟩)
theorem while_turn {test : Expr} {body : List Stmt} {R : Result → Shared → Prop} {s : Shared}
    (h : wpAny (model prog w) A (PySem.isTrue test env (eval test env)) (fun b s₂ =>
        if b then wpAny (model prog w) A (execs body env) (fun f s₃ => f = .next ∧ codeAny (model prog w) A (.whileLoop test body [] env) R s₃) (fun _ _ => False) s₂ else R (.ok .next) s₂) (fun _ _ => False) s) :
    codeAny (model prog w) A (.whileLoop test body [] env) R s := by
  refine codeAny_of_tree ?_
  show wpAny _ A ((whileTurn test body [] env).onRaise (fun x => do noteFrame x env; theTreesLotGoes x)) _ _ s
  refine wpAny_noted ?_
  simp only [whileTurn]
  refine wpAny_bind (wpAny_mono h (fun b s₂ h₂ => ?_) fun _ _ f => f.elim)
  cases b with
  | false =>
    simp only [Bool.false_eq_true, if_false] at h₂ ⊢
    exact wpAny_bind (wpAny_execs_nil (wpAny_pure h₂))
  | true =>
    simp only [if_true] at h₂ ⊢
    refine wpAny_bind (wpAny_mono h₂ (fun f s₃ h₃ => ?_) fun _ _ f => f.elim)
    obtain ⟨rfl, h₃⟩ := h₃
    exact wpAny_pure ⟨rfl, h₃⟩
theorem wh_false {test : Expr} {body : List Stmt} (ht : ∀ s, Bd D mg mb X T env g g₀ ρ M s → Ev (model prog w) A s (PySem.isTrue test env (eval test env)) (fun _ v => v = false)) : WH D prog w mg mb A env X T g g₀ test body ρ M ρ M := fun s B =>
  while_turn (Ev.use (ht s B) fun b s₁ o e => by subst e; rw [if_neg (by decide)]; exact ⟨rfl, o.but, B.up o⟩)
theorem wh_true {test : Expr} {body : List Stmt} (ht : ∀ s, Bd D mg mb X T env g g₀ ρ M s → Ev (model prog w) A s (PySem.isTrue test env (eval test env)) (fun _ v => v = true))
    (hb : STs D prog w mg mb A env X T g g₀ body ρ M ρ₁ M₁) (hr : WH D prog w mg mb A env X T g g₀ test body ρ₁ M₁ ρ₂ M₂) : WH D prog w mg mb A env X T g g₀ test body ρ M ρ₂ M₂ := fun s B =>
  while_turn (Ev.use (ht s B) fun b s₁ o e => by
    subst e; rw [if_pos rfl]
    refine wpAny_mono (hb s₁ (B.up o)) (fun f s₂ q => ?_) fun _ _ f => f
    obtain ⟨rfl, b2, B₂⟩ := q
    exact ⟨rfl, codeAny_mono (hr s₂ B₂) fun r s₃ q => ⟨q.1, o.but.trans (b2.trans q.2.1), q.2.2⟩⟩)

-- x = [..], swapped
theorem swaps_comp {elt : Expr} {gens : List Comprehension} {scope : Scope} {pos px : Pos} {x : Str} {line : Nat} (hb : env.blockKind = .function) (hk : env.kindOf x = some .local) (hl : (px.line == (Expr.ListComp elt gens scope pos).pos.line) = true)
    (hn : (scope.names.any fun y => y.1 == x && (y.2 == .local || y.2 == .cell)) = false) : swapsWith (.ListComp elt gens scope pos) (some (.Name x px)) line env = pure true := by
  show (pure (env.blockKind == .function && env.kindOf x == some .local && px.line == (Expr.ListComp elt gens scope pos).pos.line && !(scope.names.any fun y => y.1 == x && (y.2 == .local || y.2 == .cell))) : Sem Bool) = pure true
  rw [hb, hk, hl, hn]
  rfl
theorem swaps_cell {elt : Expr} {gens : List Comprehension} {scope : Scope} {pos px : Pos} {x : Str} {line : Nat} (hk : env.kindOf x = some .cell) : swapsWith (.ListComp elt gens scope pos) (some (.Name x px)) line env = pure false := by
  show (pure (env.blockKind == .function && env.kindOf x == some .local && px.line == (Expr.ListComp elt gens scope pos).pos.line && !(scope.names.any fun y => y.1 == x && (y.2 == .local || y.2 == .cell))) : Sem Bool) = pure false
  rw [hk]
  have e : ((some NameKind.cell : Option NameKind) == some .local) = false := rfl
  rw [e, Bool.and_false, Bool.false_and, Bool.false_and]
theorem st_comp {elt iter : Expr} {g0 : Comprehension} {gs : List Comprehension} {scope : Scope} {pos px p : Pos} {x : Str} {outs : List PV} (fx : Fx D mg mb env T X g₀) (hb : env.blockKind = .function) (hk : env.kindOf x = some .local)
    (h : CP D prog w mg mb A env ρ (.ListComp elt (g0 :: gs) scope pos) iter scope outs) (hl : (px.line == (Expr.ListComp elt (g0 :: gs) scope pos).pos.line) = true) (hn : (scope.names.any fun y => y.1 == x && (y.2 == .local || y.2 == .cell)) = false)
    (hi : firstIter (g0 :: gs) env = eval iter env := by rfl) (ha : firstAsync (g0 :: gs) = false := by rfl) :
    ST D prog w mg mb A env X T g g₀ (.Assign [.Name x px] (.ListComp elt (g0 :: gs) scope pos) p) ρ M ((x, .list outs) :: ρ) M := fun s B => by
  rw [exec_Assign_Name_used _ _ _ _ (swaps_comp hb hk hl hn)]
  refine wpAny_bind (wpAny_standAt (wpAny_bind ?_))
  show wpAny _ A (comprehension (.ListComp elt (g0 :: gs) scope pos) scope env (firstIterPos (g0 :: gs) pos) (newList []) (firstAsync (g0 :: gs)) (firstIter (g0 :: gs) env) (some (assign (.Name x px) env)) >>= fun _ => pure ()) _ _ s
  rw [hi, ha]
  refine wpAny_bind (h _ X s B.st (some (assign (.Name x px) env)) _ _ fun Da C s' o hC hD hDC hns ac => ?_)
  have B' := B.up o
  have hTC : ¬ T C := fun t => by obtain ⟨ob, e⟩ := B.live C t; rw [hC] at e; cases e
  have hTD : ¬ T Da := fun t => by obtain ⟨ob, e⟩ := B.live Da t; rw [hD] at e; cases e
  obtain ⟨ys, pl, rs⟩ := ac
  have rl : Rep X s'.heap (.ref Da) (.list outs) := .list (B.st.live.fresh hD) pl (rs.re fun a q => .inl (.inl q))
  show wpAny _ A (assign (.Name x px) env (.ref Da)) _ _ s'
  refine wpAny_assign_Name ?_
  -- the store, and then the block's own frame goes
  let X₂ : Addr → Prop := fun a => X a ∨ a = C
  have hreX : ∀ a, X₂ a → X a ∨ s.heap.get? a = none := fun a q => q.elim .inl fun e => .inr (e ▸ hC)
  obtain ⟨m, hm⟩ := hns
  have rl2 : Rep X₂ s'.heap (.ref Da) (.list outs) := .list (fun q => q.elim (B.st.live.fresh hD) hDC) pl (rs.re fun a q => .inl (q.elim .inl fun e => .inr (.inr e)))
  have fx2 : Fx D mg mb env T X₂ g₀ := ⟨fx.fe, fun a t => .inl (fx.tx a t), fx.base, fx.new, fx.inj, fx.nofree⟩
  have B2 : Bd D mg mb X₂ T env g g₀ ρ M s' := ⟨⟨B'.st.base, fx.fe, fun a q => q.elim (B'.st.live a) fun e => by obtain ⟨ob, _, _, e', _⟩ := hm; exact ⟨ob, e ▸ e'⟩, fun n pv hn => ((B.st.has n pv hn).re hreX).up o.grow⟩, B'.but, B'.gr, B'.slots, B'.live, B'.muts⟩
  refine bd_store fx2 B2 (.inl hk) rl2 fun s₂ b₂ B₃ => ?_
  have hm2 : s₂.heap.Ns C m := hm.at' fun ob e => b₂.keep C ob hTC e
  refine ⟨m, hm2, fun h' hs => wpAny_pure (wpAny_pure ?_)⟩
  have hI0 : g₀.get? C = none := by
    cases q : g₀.get? C with
    | none => rfl
    | some ob => rw [B.gr C ob q] at hC; cases hC
  have hIg : g.heap.get? C = none := by
    cases q : g.heap.get? C with
    | none => rfl
    | some ob => rw [B.but.keep C ob hTC q] at hC; cases hC
  have b3 : But (· = C) s₂ { s₂ with heap := h' } := But.same (tk := s₂.toks) hs rfl
  have Bf := B₃.next fx2 b3 (.inr rfl) hTC hI0 hIg (X₂ := X) (fun a q => .inl q) fun a q => by
    have hne : a ≠ C := fun e => by obtain ⟨ob, e'⟩ := B.st.live a q; rw [e, hC] at e'; cases e'
    obtain ⟨ob, e⟩ := B₃.st.live a (.inl q)
    exact ⟨ob, b3.keep a ob hne e⟩
  refine ⟨rfl, ⟨fun c ob tc e => ?_, ?_, ?_, ?_⟩, Bf⟩
  · exact b3.keep c ob (fun q => by rw [q, hC] at e; cases e) (b₂.keep c ob tc (o.grow c ob e))
  · rw [show ({ s₂ with heap := h' } : Shared).gens = s₂.gens from rfl, b₂.gens, o.gens]
  · rw [show ({ s₂ with heap := h' } : Shared).drawn = s₂.drawn from rfl, b₂.drawn, o.drawn]
  · rw [show ({ s₂ with heap := h' } : Shared).os = s₂.os from rfl, b₂.os, o.os]

-- a def's call
theorem bindL_other {kf : Str → Option NameKind} : ∀ (bs : List (Str × Value)) (m : Str → Option Value) (x : Str), (∀ b ∈ bs, b.1 ≠ x) → bindL kf bs m x = m x
  | [], _, _, _ => rfl
  | (n, v) :: r, m, x, h => by
    unfold bindL
    rw [bindL_other r _ x fun b hb => h b (List.mem_cons_of_mem _ hb)]
    split
    · exact if_neg fun e => h (n, v) List.mem_cons_self e.symm
    · rfl
theorem bindC_other {kf : Str → Option NameKind} : ∀ (bs : List (Str × Value)) (m : Str → Option Value) (x : Str), (∀ b ∈ bs, b.1 ≠ x) → bindC kf bs m x = m x
  | [], _, _, _ => rfl
  | (n, v) :: r, m, x, h => by
    unfold bindC
    rw [bindC_other r _ x fun b hb => h b (List.mem_cons_of_mem _ hb)]
    split
    · rfl
    · exact if_neg fun e => h (n, v) List.mem_cons_self e.symm
theorem bind_at {kf : Str → Option NameKind} : ∀ (bs : List (Str × Value)) (m cm : Str → Option Value) (x : Str) (v : Value), (bs.map (·.1)).Nodup → bs.lookup x = some v →
    (kf x = some .local → bindL kf bs m x = some v) ∧ (kf x ≠ some .local → bindC kf bs cm x = some v)
  | (n, u) :: r, m, cm, x, v, hn, h => by
    rw [List.map_cons, List.nodup_cons] at hn
    unfold bindL bindC
    rw [List.lookup_cons] at h
    by_cases q : (x == n) = true
    · have e := eq_of_beq q
      subst e
      rw [q] at h; cases h
      have hne : ∀ b ∈ r, b.1 ≠ x := fun b hb e => hn.1 (by have k := List.mem_map_of_mem (f := (·.1)) hb; rw [← e]; exact k)
      rw [bindL_other r _ x hne, bindC_other r _ x hne]
      exact ⟨fun k => by rw [if_pos k]; simp, fun k => by rw [if_neg k]; simp⟩
    · rw [show (x == n) = false by simpa using q] at h
      exact bind_at r _ _ x v hn.2 h
theorem zip_at {h : Heap} : ∀ (ps : List Str) (vs : List Value) (pvs : List PV) (x : Str) (pv : PV), Reps X h vs pvs → (ps.zip pvs).lookup x = some pv → ∃ v, (ps.zip vs).lookup x = some v ∧ Rep X h v pv
  | [], _, _, _, _, _, e => by cases e
  | n :: ps, _, _, x, pv, .nil, e => by cases e
  | n :: ps, v :: vs, u :: pvs, x, pv, .cons r rs, e => by
    rw [List.zip_cons_cons, List.lookup_cons] at e ⊢
    by_cases q : (x == n) = true
    · rw [q] at e; cases e
      rw [q]; exact ⟨v, rfl, r⟩
    · rw [show (x == n) = false by simpa using q] at e ⊢
      exact zip_at ps vs pvs x pv rs e

/-- into a def: T₀ is what it may change of what stands -/
theorem enter {a : Addr} {o : Obj} {fd : FuncData} {body : List Stmt} {ps : List Str} {vs : List Value} {pvs : List PV} {R : Result → Shared → Prop} {s : Shared} {T₀ : Addr → Prop}
    (hroom : A.depth < recursionLimit) (ho : s.heap.get? a = some o) (hdata : o.data = .func fd) (hcd : s.heap.CodeRec fd.code fd.qualname)
    (hbody : fd.body = .stmts body) (hbind : bindArgs fd ⟨vs, []⟩ = pure (ps.zip vs)) (hclo : fd.closure = []) (hgl : fd.globals = mainGlobals) (hbl : fd.builtins = builtinsNs)
    (hps : ps.length = vs.length) (hnd : ps.Nodup) (hkind : ∀ x ∈ ps, fd.scope.names.lookup x = some .local ∨ fd.scope.names.lookup x = some .cell) (hnf : ∀ x ∈ fd.scope.names, x.2 ≠ .free)
    (hB : Base D mg mb g₀) (hgr : Grow g₀ s.heap) (hT₀ : New T₀ g₀) (hl₀ : Live T₀ s.heap) (hTX : ∀ a, T₀ a → X a) (hX : Live X s.heap) (hr : Reps X s.heap vs pvs) (hM : ∀ p ∈ M, T₀ p.1 ∧ ∃ vs, s.heap.PlainList p.1 vs.toArray ∧ IntsAre vs p.2)
    (h : ∀ (env : Env) (T X' : Addr → Prop) (s₁ : Shared), env.scope = fd.scope → Fx D mg mb env T X' g₀ → (∀ a, T a → T₀ a ∨ s.heap.get? a = none) → (∀ a, T₀ a → T a) → (∀ a, X a → X' a) → (∀ a, X' a → X a ∨ s.heap.get? a = none) → Bd D mg mb X' T env s g₀ (ps.zip pvs) M s₁ →
      (env = callEnvC fd s.heap.objs.size a) → wpAny (model prog w) (A.deeper env) (execs body env) (fun f s' => R (.ok (.ret (match f with | .ret v => v | _ => .none))) s')
        (fun e s' => wpAny (model prog w) (A.deeper env) (leaving env e) (fun _ s'' => R (.error e) s'') (fun e' s'' => R (.error e') s'') s') s₁)
    (hco : fd.scope.isCoroutine = false := by rfl) (hgen : fd.scope.isGenerator = false := by rfl) (hk : fd.scope.kind = .function := by rfl) :
    codeAny (model prog w) A (.call (.ref a) ⟨vs, []⟩) R s := by
  have hcell : ∀ x, fd.scope.names.lookup x = some .cell → ((cellsFrom (s.heap.objs.size + 1) fd.scope.names []).lookup x).isSome = true := fun x hx => cellsFrom_some _ _ _ (.inl hx)
  have hfst : ∀ {α : Type} (l : List α), ps.length = l.length → ((ps.zip l).map (·.1)) = ps := fun l e => List.map_fst_zip (by omega)
  refine codeAny_call_cells hroom ho hdata (hB.nolimit.keeps hgr) hcd hbody hbind hclo (fun x hx => ?_) (fun s₁ I => ?_) hco hgen hk
  · have hm : x.1 ∈ ps := by
      have := List.mem_map_of_mem (f := (·.1)) hx
      rwa [hfst vs hps] at this
    rcases hkind x.1 hm with q | q
    · exact .inl q
    · exact .inr ⟨q, hcell _ q⟩
  · generalize hE : callEnvC fd s.heap.objs.size a = env at I ⊢
    have hsc : env.scope = fd.scope := by rw [← hE]; rfl
    have hlo : env.locals = s.heap.objs.size := by rw [← hE]; rfl
    have hce : env.cells = cellsFrom (s.heap.objs.size + 1) fd.scope.names [] := by rw [← hE]; rfl
    have hfe : FnEnv env := ⟨by rw [← hE]; exact hgl, by rw [← hE]; exact hbl, by rw [hsc]; exact hk⟩
    let T : Addr → Prop := fun b => T₀ b ∨ b = env.locals ∨ ∃ n, env.cells.lookup n = some b
    have hnew : ∀ b, (b = env.locals ∨ ∃ n, env.cells.lookup n = some b) → s.heap.get? b = none := fun b hb => by
      rcases hb with rfl | ⟨n, e⟩
      · exact new_of_size (Nat.le_of_eq hlo.symm)
      · exact new_of_size (Nat.le_of_lt (hlo ▸ I.above n b (mem_of_lookup e)))
    let X' : Addr → Prop := fun b => X b ∨ T b
    have hX' : ∀ b, X' b → X b ∨ s.heap.get? b = none := fun b hb => by
      rcases hb with hb | hb | hb
      · exact .inl hb
      · exact .inl (hTX b hb)
      · exact .inr (hnew b hb)
    have gr1 : Grow s.heap s₁.heap := I.toInCall.keep
    have hg0 : ∀ b, T b → g₀.get? b = none := fun b hb => by
      rcases hb with hb | hb
      · exact hT₀ b hb
      · cases q : g₀.get? b with
        | none => rfl
        | some ob => have := hnew b hb; rw [hgr b ob q] at this; cases this
    have hlT : Live T s₁.heap := fun b hb => by
      rcases hb with hb | rfl | ⟨n, e⟩
      · exact hl₀.up gr1 b hb
      · obtain ⟨ob, _, _, e, _⟩ := I.toInCall.ns; exact ⟨ob, e⟩
      · obtain ⟨ob, e', _⟩ := I.cell n b e; exact ⟨ob, e'⟩
    have fx : Fx D mg mb env T X' g₀ := ⟨hfe, fun b t => .inr t, hB, hg0, fun n n' c e e' => name_of_addr I.apart (mem_of_lookup e) (mem_of_lookup e'), fun n hn => by
      have hn' : fd.scope.names.lookup n = some .free := by rw [← hsc]; exact hn
      exact hnf _ (mem_of_lookup hn') rfl⟩
    obtain ⟨hh, tk, hs₁⟩ := I.toInCall.same
    refine h env T X' s₁ hsc fx (fun b t => t.elim .inl fun q => .inr (hnew b q)) (fun b t => .inl t) (fun b q => .inl q) hX' ⟨⟨hB.up (hgr.trans gr1), hfe, fun b hb => ?_, fun x pv hx => ?_⟩, ?_, hgr.trans gr1, fun x hx => ?_, hlT, fun p hp => ?_⟩ hE.symm
    · rcases hb with hb | hb
      · exact (hX.up gr1) b hb
      · exact hlT b hb
    · obtain ⟨v, hv, rv⟩ := zip_at ps vs pvs x pv hr hx
      have rv' : Rep X' s₁.heap v pv := (rv.re hX').up gr1
      have hm : x ∈ ps := by
        have := List.mem_map_of_mem (f := (·.1)) (mem_of_lookup hv)
        rwa [hfst vs hps] at this
      have hnd' : ((ps.zip vs).map (·.1)).Nodup := by rw [hfst vs hps]; exact hnd
      obtain ⟨b1, b2⟩ := bind_at (kf := env.kindOf) (ps.zip vs) (fun _ => none) (fun _ => none) x v hnd' hv
      have hkx : env.kindOf x = fd.scope.names.lookup x := by unfold Env.kindOf; rw [hsc]
      rcases hkind x hm with q | q
      · exact .loc _ v (hkx.trans q) I.toInCall.ns (b1 (hkx.trans q)) rv'
      · obtain ⟨c, hc⟩ := Option.isSome_iff_exists.mp (hcell x q)
        rw [← hce] at hc
        refine .cell c v (hkx.trans q) hc ?_ rv'
        have := I.cell x c hc
        rwa [b2 (by rw [hkx, q]; decide)] at this
    · refine ⟨fun b ob _ e => gr1 b ob e, ?_, ?_, ?_⟩ <;> rw [hs₁]
    · have hkx : env.kindOf x = fd.scope.names.lookup x := by unfold Env.kindOf; rw [hsc]
      rcases hx with q | q
      · exact .loc _ q I.toInCall.ns (.inr (.inl rfl))
      · obtain ⟨c, hc⟩ := Option.isSome_iff_exists.mp (hcell x (hkx ▸ q))
        rw [← hce] at hc
        exact .cell c _ q hc (I.cell x c hc) (.inr (.inr ⟨x, hc⟩))
    · obtain ⟨t, us, e, i⟩ := hM p hp
      exact ⟨.inl t, us, e.at fun ob eo => gr1 _ ob eo, i⟩

/-- a def that changes nothing, by its body -/
theorem call_run {d : DefRec} {ps : List Str} {pvs : List PV} {pv : PV} {a : Addr} (hd : d ∈ D) (ha : mg d.name = some (.ref a)) (hroom : A.depth < recursionLimit)
    (hbind : ∀ pm code doc vs, vs.length = ps.length → bindArgs (docDef d.name d.params d.body d.scope pm code doc) ⟨vs, []⟩ = pure (ps.zip vs))
    (hlen : ps.length = pvs.length) (hnd : ps.Nodup) (hkind : ∀ x ∈ ps, d.scope.names.lookup x = some .local ∨ d.scope.names.lookup x = some .cell) (hnf : ∀ x ∈ d.scope.names, x.2 ≠ .free)
    (h : ∀ (env : Env) (T X : Addr → Prop) (g : Shared) (g₀ : Heap), env.scope = d.scope → Fx D mg mb env T X g₀ → RUN D prog w mg mb (A.deeper env) env X T g g₀ d.body (ps.zip pvs) [] pv)
    (hco : d.scope.isCoroutine = false := by rfl) (hgen : d.scope.isGenerator = false := by rfl) (hk : d.scope.kind = .function := by rfl) : CALL D prog w mg mb A (.ref a) pvs pv := fun X s vs B hX r => by
  obtain ⟨a', o, pm, code, doc, h1, h2, h3, h4⟩ := B.fn d hd
  rw [ha] at h1; cases h1
  have hl := r.length
  refine wpAny_call (enter (fd := docDef d.name d.params d.body d.scope pm code doc) (T₀ := fun _ => False) (M := []) (g₀ := s.heap) hroom h2 h3 h4 rfl (hbind pm code doc vs (by omega)) rfl rfl rfl (by omega) hnd hkind hnf B (Grow.refl _) (fun _ f => f.elim) (fun _ f => f.elim) (fun _ f => f.elim) hX r (fun p hp => by cases hp)
    (fun env T X' s₁ hsc fx hT _ hXX hX' Bd hE => wpAny_mono (h env T X' s s.heap hsc fx s₁ Bd) (fun f s' q => ?_) fun _ _ f => f.elim) hco hgen hk)
  obtain ⟨v, rfl, b, lv, rv⟩ := q
  exact ⟨⟨b.grow (fun c t => (hT c t).elim (fun f => f.elim) fun q => q) (Grow.refl _), b.gens, b.drawn, b.os⟩, rv.re fun c q => .inl (hXX c q)⟩
end
end Mine
end

section
open PySem PySem.W PySem.Calls PyProof.Rows PySem.Spec
namespace Mine
/-- the text's defs -/
def DD : List DefRec := [2, 3, 8, 9, 10, 11, 12, 13, 14].map dAt
theorem recs_are : recsOf PySem.Challenge.pw_tv0005_01 = DD := by kernel_rfl
theorem recs_view : recsOf hd.view_39 = DD := by kernel_rfl
theorem mem_dd {i : Nat} (h : i ∈ [2, 3, 8, 9, 10, 11, 12, 13, 14]) : dAt i ∈ DD := List.mem_map_of_mem h

section
variable {w : World} {mg mb : Str → Option Value} {A : Around} {env : Env} {ρ : Loc}
abbrev cmpv (x y : Int) : Int := b2i (decide (y < x)) - b2i (decide (x < y))
theorem f_cmp (x y : Int) {n : Nat} (hA : Rm (n + 1) A) {a : Addr} (ha : mg "three_way_cmp" = some (.ref a)) : CALL DD PG w mg mb A (.ref a) [.int x, .int y] (.int (cmpv x y)) := by
  refine call_run (d := dAt 3) (ps := ["x", "y"]) (mem_dd (by decide)) ha (by have := hA.depth; omega) ?_ rfl (by decide) (by decide) (by decide) (fun env T X g g₀ hsc fx => ?_)
  · intro pm code doc vs hv
    match vs, hv with
    | [u, v], _ => rfl
  · have hk : ∀ n, env.kindOf n = (dAt 3).scope.names.lookup n := fun n => by unfold Env.kindOf; rw [hsc]
    refine run_ret (ev_bin (ev_cmp (ev_name rfl) (ev_name rfl) (c_gt _ _)) (ev_cmp (ev_name rfl) (ev_name rfl) (c_lt _ _)) (b_subb _ _))

theorem ev_itei {t b o : Expr} {p : Pos} {c : Bool} {x y : Int} (ht : TR DD PG w mg mb A env ρ t c) (hb : c = true → EV DD PG w mg mb A env ρ b (.int x)) (ho : c = false → EV DD PG w mg mb A env ρ o (.int y)) :
    EV DD PG w mg mb A env ρ (.IfExp t b o p) (.int (if c then x else y)) := by
  have := ev_ite (p := p) ht hb ho
  cases c <;> exact this
theorem ev_neg {l : Expr} {p : Pos} {x : Int} (hl : EV DD PG w mg mb A env ρ l (.int x)) : EV DD PG w mg mb A env ρ (.UnaryOp .USub l p) (.int (-x)) := ev_un hl (u_neg x)
theorem cmpv_eq (x y : Int) : (cmpv x y == if decide (y < x) then 1 else if x == y then 0 else -1) = true := by
  unfold cmpv b2i
  rcases Int.lt_trichotomy x y with h | h | h
  · have h1 : ¬ y < x := by omega
    have h2 : ¬ x = y := by omega
    simp [h, h1, h2]
  · subst h; simp
  · have h1 : ¬ x < y := by omega
    simp [h, h1]
theorem f_signed (x y : Int) {n : Nat} (hA : Rm (n + 2) A) {a : Addr} (ha : mg "_law_signed" = some (.ref a)) : CALL DD PG w mg mb A (.ref a) [.int x, .int y] (.bool true) := by
  refine call_run (d := dAt 8) (ps := ["x", "y"]) (mem_dd (by decide)) ha (by have := hA.depth; omega) ?_ rfl (by decide) (by decide) (by decide) (fun env T X g g₀ hsc fx => ?_)
  · intro pm code doc vs hv
    match vs, hv with
    | [u, v], _ => rfl
  · have hk : ∀ n, env.kindOf n = (dAt 8).scope.names.lookup n := fun n => by unfold Env.kindOf; rw [hsc]
    have hA1 := hA.deep env
    refine run_seq (st_assign fx (.inl ((hk _).trans rfl)) (ev_call_fn (d := dAt 3) (mem_dd (by decide)) rfl ((hk _).trans rfl) (evs_cons (ev_name rfl) (evs_cons (ev_name rfl) evs_nil)) (fun a ha => f_cmp x y hA1 ha)) rfl) ?_
    refine run_ret ?_
    rw [← cmpv_eq x y]
    refine ev_and3 (ev_call_b ((hk _).trans rfl) (by decide) (by decide +kernel) (evs_cons (ev_name rfl) (evs_cons (ev_type ((hk _).trans rfl) (by decide) (by decide +kernel)) evs_nil)) (k_isi_int _)) (.bool true)
      (ev_not (t := false) (ev_call_b ((hk _).trans rfl) (by decide) (by decide +kernel) (evs_cons (ev_name rfl) (evs_cons (ev_type ((hk _).trans rfl) (by decide) (by decide +kernel)) evs_nil)) (k_isi_bool _)) (.bool false)) (.bool true)
      (ev_cmp (ev_name rfl) (ev_itei (tr_cmp (ev_name rfl) (ev_name rfl) (c_gt _ _)) (fun _ => ev_int) fun _ => ev_itei (tr_cmp (ev_name rfl) (ev_name rfl) (c_eq _ _)) (fun _ => ev_int) fun _ => ev_neg ev_int) (c_eq _ _))
end
end Mine
end

section
open PySem PySem.W PySem.Calls PyProof.Rows PySem.Spec
namespace Mine
section
variable {D : List DefRec} {prog : Program} {w : World} {mg mb : Str → Option Value} {A : Around} {env : Env} {ρ ρ' ρ₁ ρ₂ : Loc} {X T : Addr → Prop} {g : Shared} {g₀ : Heap} {M M' M₁ M₂ : Mut}
theorem lk_sub {σ ρ : Loc} (h : ∀ p ∈ σ, ρ.lookup p.1 = some p.2) : ∀ n pv, σ.lookup n = some pv → ρ.lookup n = some pv := fun n pv e => h _ (mem_of_lookup e)
theorem sts_keep {x : Str} {u : PV} (h : ρ.lookup x = some u) : STs D prog w mg mb A env X T g g₀ [] ρ M ((x, u) :: ρ) M :=
  sts_out sts_nil (fun n pv e => by
    rw [List.lookup_cons] at e
    by_cases q : (n == x) = true
    · rw [q] at e; cases e; rw [eq_of_beq q]; exact h
    · rw [show (n == x) = false by simpa using q] at e; exact e) fun _ h => h
/-- an if that may change one name -/
theorem st_if1 {test : Expr} {body : List Stmt} {p : Pos} {c : Bool} {x : Str} {u v : Int} (ht : TR D prog w mg mb A env ρ test c) (hu : ρ.lookup x = some (.int u)) (h : STs D prog w mg mb A env X T g g₀ body ρ M ((x, .int v) :: ρ) M) :
    ST D prog w mg mb A env X T g g₀ (.If test body [] p) ρ M ((x, .int (if c then v else u)) :: ρ) M :=
  st_if ht (fun e => by subst e; exact h) fun e => by subst e; exact sts_keep hu
theorem st_if2 {test : Expr} {body : List Stmt} {p : Pos} {c : Bool} {x y : Str} {u v u' v' : Int} (ht : TR D prog w mg mb A env ρ test c) (hu : ρ.lookup x = some (.int u)) (hu' : ((x, PV.int u) :: ρ).lookup y = some (.int u')) (h : STs D prog w mg mb A env X T g g₀ body ρ M ((y, .int v') :: (x, .int v) :: ρ) M) :
    ST D prog w mg mb A env X T g g₀ (.If test body [] p) ρ M ((y, .int (if c then v' else u')) :: (x, .int (if c then v else u)) :: ρ) M :=
  st_if ht (fun e => by subst e; exact h) fun e => by
    subst e
    exact fun s B => wpAny_mono (sts_keep hu s B) (fun f s' q => ⟨q.1, q.2.1, (q.2.2).sub (fun n pv hn => by
      rw [List.lookup_cons] at hn
      by_cases k : (n == y) = true
      · rw [k] at hn; cases hn; rw [eq_of_beq k]; exact hu'
      · rw [show (n == y) = false by simpa using k] at hn; exact hn) fun _ h => h⟩) fun _ _ f => f
theorem if_int {c : Bool} {a b : Int} : (if c then PV.int a else PV.int b) = PV.int (if c then a else b) := by cases c <;> rfl

theorem k_range1 (n : Int) : CALL D prog w mg mb A (.type "range") [.int n] (.rng 0 n 1) := fun X s vs B hX R => by
  obtain ⟨u, rfl, r⟩ := R.one
  cases r
  exact call_range_1 ⟨Ok.mk' (Grow.push _ _), .rng hX.new (IsRange.new ..)⟩
theorem k_range2 (a b : Int) : CALL D prog w mg mb A (.type "range") [.int a, .int b] (.rng a b 1) := fun X s vs B hX R => by
  obtain ⟨u, v, rfl, r, r2⟩ := R.two
  cases r; cases r2
  exact call_range_2 ⟨Ok.mk' (Grow.push _ _), .rng hX.new (IsRange.new ..)⟩
theorem iter_up (n : Nat) (h : n ≤ 1000000) : Iter (.rng 0 n 1) ((List.range n).map fun i : Nat => PV.int i) := by
  have := Iter.rng 0 n 1 n (small_one (by omega) (by omega) (by omega) (by omega)) (by rw [rangeSize_one]; split <;> omega)
  simpa using this
theorem get_up {n i : Nat} {u : PV} (h : ((List.range n).map fun i : Nat => PV.int i)[i]? = some u) : i < n ∧ PV.int (i : Int) = u := by
  rw [List.getElem?_map] at h
  by_cases hi : i < n
  · rw [List.getElem?_range hi] at h
    exact ⟨hi, Option.some.inj h⟩
  · rw [List.getElem?_eq_none (by simpa using hi)] at h; cases h
end

structure WS where
  total : Int
  best : Int
  above : Int
  under : Int
  first : Int
  last : Int
def wstep (v : Int) (k : Nat) (s : WS) : WS :=
  let t := s.total + v
  { total := t
    best := if cmpv t s.best == 1 then t else s.best
    above := if cmpv t 0 == 1 then s.above + 1 else s.above
    under := if cmpv t 0 == -1 then s.under + 1 else s.under
    first := if cmpv t s.best == 1 then (k : Int) + 1 else s.first
    last := if cmpv t s.best != -1 then (k : Int) + 1 else s.last }
def wsAt (row : List Int) (order : List Nat) : Nat → WS
  | 0 => ⟨0, 0, 0, 0, 0, 0⟩
  | k + 1 => wstep (row.getD (order.getD k 0) 0) k (wsAt row order k)
abbrev nats (ns : List Nat) : List PV := ns.map fun n : Nat => PV.int n
def walkV (row : List Int) (order : List Nat) : PV :=
  let s := wsAt row order order.length
  .tup [.int s.above, .int ((order.length : Int) - s.under), .int s.first, .int s.last, .int s.best]

section
variable {w : World} {mg mb : Str → Option Value} {A : Around} {env : Env} {ρ : Loc}
theorem f_walk (row : List Int) (order : List Nat) (ho : ∀ k ∈ order, k < row.length) (hn : order.length ≤ 1000) (hr : row.length ≤ 1000) {n : Nat} (hA : Rm (n + 2) A) {a : Addr} (ha : mg "_law_walk" = some (.ref a)) :
    CALL DD PG w mg mb A (.ref a) [.list (pints row), .list (nats order)] (walkV row order) := by
  refine call_run (d := dAt 10) (ps := ["row", "order"]) (mem_dd (by decide)) ha (by have := hA.depth; omega) ?_ rfl (by decide) (by decide) (by decide) (fun env T X g g₀ hsc fx => ?_)
  · intro pm code doc vs hv
    match vs, hv with
    | [u, v], _ => rfl
  · have hk : ∀ n, env.kindOf n = (dAt 10).scope.names.lookup n := fun n => by unfold Env.kindOf; rw [hsc]
    have hA1 := hA.deep env
    refine run_seq (st_assign fx (.inl ((hk _).trans rfl)) ev_int rfl) ?_
    refine run_seq (st_assign fx (.inl ((hk _).trans rfl)) ev_int rfl) ?_
    refine run_seq (st_assign fx (.inl ((hk _).trans rfl)) ev_int rfl) ?_
    refine run_seq (st_assign fx (.inl ((hk _).trans rfl)) ev_int rfl) ?_
    refine run_seq (st_assign fx (.inl ((hk _).trans rfl)) ev_int rfl) ?_
    refine run_seq (st_assign fx (.inl ((hk _).trans rfl)) ev_int rfl) ?_
    let σ : Nat → Loc := fun i => let s := wsAt row order i
      [("total", .int s.total), ("best", .int s.best), ("above", .int s.above), ("under", .int s.under), ("first", .int s.first), ("last", .int s.last), ("row", .list (pints row)), ("order", .list (nats order))]
    have hlen : ((nats order).length : Int) = (order.length : Int) := by simp
    refine run_seq (ρ₁ := σ ((List.range order.length).map fun i : Nat => PV.int i).length) (M₁ := []) (st_for fx hA1.handled (.inl ((hk _).trans rfl)) σ (fun _ => []) (ev_call_t ((hk _).trans rfl) (by decide) (by decide +kernel) (evs_cons (ev_call_b ((hk _).trans rfl) (by decide) (by decide +kernel) (evs_cons (ev_name rfl) evs_nil) (k_len _ (by simp; omega))) evs_nil) (k_range1 _)) (hlen ▸ iter_up order.length (by omega)) (lk_sub ?_) (fun _ h => h) ?_) ?_
    · repeat' (refine List.forall_mem_cons.mpr ⟨rfl, ?_⟩)
      exact List.forall_mem_nil _
    · intro X' fx i u hu
      obtain ⟨hi, rfl⟩ := get_up hu
      have h1 : (nats order)[i]? = some (.int (order.getD i 0 : Nat)) := by simp [hi]
      have hm : order.getD i 0 ∈ order := by simp [hi]
      have hlt := ho _ hm
      have h2 : (pints row)[order.getD i 0]? = some (.int (row.getD (order.getD i 0) 0)) := by
        generalize order.getD i 0 = j at hlt
        simp [hlt]
      generalize hv : row.getD (order.getD i 0) 0 = v at h2
      generalize order.getD i 0 = j at h1 h2 hlt
      refine sts_out (sts_cons (st_aug fx (.inl ((hk _).trans rfl)) rfl (ev_item (k := j) (ev_name rfl) (ev_item (k := i) (ev_name rfl) (ev_name rfl) h1 (by omega)) h2 (by omega)) (i_add _ _)) <|
        sts_cons (st_assign fx (.inl ((hk _).trans rfl)) (ev_call_fn (d := dAt 3) (mem_dd (by decide)) rfl ((hk _).trans rfl) (evs_cons (ev_name rfl) (evs_cons ev_int evs_nil)) (fun a ha => f_cmp _ _ hA1 ha)) rfl) <|
        sts_cons (st_if1 (tr_cmp (ev_name rfl) ev_int (c_eq _ _)) rfl (sts_cons (st_aug fx (.inl ((hk _).trans rfl)) rfl ev_int (i_add _ _)) sts_nil)) <|
        sts_cons (st_if1 (tr_cmp (ev_name rfl) (ev_neg ev_int) (c_eq _ _)) rfl (sts_cons (st_aug fx (.inl ((hk _).trans rfl)) rfl ev_int (i_add _ _)) sts_nil)) <|
        sts_cons (st_assign fx (.inl ((hk _).trans rfl)) (ev_call_fn (d := dAt 3) (mem_dd (by decide)) rfl ((hk _).trans rfl) (evs_cons (ev_name rfl) (evs_cons (ev_name rfl) evs_nil)) (fun a ha => f_cmp _ _ hA1 ha)) rfl) <|
        sts_cons (st_if2 (tr_cmp (ev_name rfl) ev_int (c_eq _ _)) rfl rfl (sts_cons (st_assign fx (.inl ((hk _).trans rfl)) (ev_name rfl) rfl) (sts_cons (st_assign fx (.inl ((hk _).trans rfl)) (ev_bin (ev_name rfl) ev_int (b_add _ _)) rfl) sts_nil))) <|
        sts_cons (st_if1 (tr_cmp (ev_name rfl) (ev_neg ev_int) (c_ne _ _)) rfl (sts_cons (st_assign fx (.inl ((hk _).trans rfl)) (ev_bin (ev_name rfl) ev_int (b_add _ _)) rfl) sts_nil)) <| sts_nil) (lk_sub ?_) (fun _ h => h)
      have e : wsAt row order (i + 1) = wstep v i (wsAt row order i) := by rw [← hv]; rfl
      show ∀ p ∈ (let s := wsAt row order (i + 1); [((Str.ofString "total" : Str), PV.int s.total), ("best", .int s.best), ("above", .int s.above), ("under", .int s.under), ("first", .int s.first), ("last", .int s.last), ("row", .list (pints row)), ("order", .list (nats order))] : Loc), _
      rw [e]
      repeat' (refine List.forall_mem_cons.mpr ⟨rfl, ?_⟩)
      exact List.forall_mem_nil _
    · have e : ((List.range order.length).map fun i : Nat => PV.int i).length = order.length := by simp
      rw [e]
      refine run_ret (ev_tup (evs_cons (ev_name rfl) (evs_cons (ev_bin (ev_call_b ((hk _).trans rfl) (by decide) (by decide +kernel) (evs_cons (ev_name rfl) evs_nil) (k_len _ (by simp; omega))) (ev_name rfl) (hlen ▸ b_sub _ _)) (evs_cons (ev_name rfl) (evs_cons (ev_name rfl) (evs_cons (ev_name rfl) evs_nil))))) (by show 5 ≤ sizeLine; decide))
end
end Mine
end

section
open PySem PySem.W PySem.Calls PyProof.Rows PySem.Spec
namespace Mine
def ordersAt : Nat → List (List Nat)
  | 0 => [[]]
  | k + 1 => (ordersAt k).flatMap fun one => (List.range (k + 1)).map fun i => one.take i ++ [k] ++ one.drop i
theorem orders_len : ∀ k, ∀ o ∈ ordersAt k, o.length = k
  | 0, o, h => by rw [List.mem_singleton.mp h]; rfl
  | k + 1, o, h => by
    obtain ⟨q, hq, ho⟩ := List.mem_flatMap.mp h
    obtain ⟨i, hi, rfl⟩ := List.mem_map.mp ho
    have := orders_len k q hq
    have hi' : i < k + 1 := List.mem_range.mp hi
    simp only [List.length_append, List.length_take, List.length_drop, List.length_singleton]
    omega
abbrev ordPV (o : List Nat) : PV := .list (nats o)
section
variable {w : World} {mg mb : Str → Option Value} {A : Around} {env : Env} {ρ : Loc}
theorem filt_true {α : Type} (l : List α) : (l.filter fun _ => true) = l := List.filter_eq_self.mpr (by simp)
theorem bk {env : Env} {d : DefRec} (h : env.scope = d.scope) (hk : d.scope.kind = .function) : env.blockKind = .function := by
  unfold Env.blockKind
  rw [h, hk]
  try rfl
theorem f_orders {n : Nat} (hA : Rm (n + 1) A) {a : Addr} (ha : mg "_law_orders" = some (.ref a)) : CALL DD PG w mg mb A (.ref a) [.int 4] (.list ((ordersAt 4).map ordPV)) := by
  refine call_run (d := dAt 9) (ps := ["size"]) (mem_dd (by decide)) ha (by have := hA.depth; omega) ?_ rfl (by decide) (by decide) (by decide) (fun env T X g g₀ hsc fx => ?_)
  · intro pm code doc vs hv
    match vs, hv with
    | [u], _ => rfl
  · have hk : ∀ n, env.kindOf n = (dAt 9).scope.names.lookup n := fun n => by unfold Env.kindOf; rw [hsc]
    have hA1 := hA.deep env
    refine run_seq (st_assign fx (.inl ((hk _).trans rfl)) (ev_list (evs_cons (ev_list evs_nil (by decide)) evs_nil) (by decide)) rfl) ?_
    let σ : Nat → Loc := fun i => [("orders", .list ((ordersAt i).map ordPV)), ("size", .int 4)]
    refine run_seq (ρ₁ := σ ((List.range 4).map fun i : Nat => PV.int i).length) (M₁ := []) (st_for fx hA1.handled (.inr ((hk _).trans rfl)) σ (fun _ => []) (ev_call_t ((hk _).trans rfl) (by decide) (by decide +kernel) (evs_cons (ev_name rfl) evs_nil) (k_range1 _)) (iter_up 4 (by omega)) (lk_sub ?_) (fun _ h => h) ?_) ?_
    · repeat' (refine List.forall_mem_cons.mpr ⟨rfl, ?_⟩)
      exact List.forall_mem_nil _
    · intro X' fx i u hu
      obtain ⟨hi, rfl⟩ := get_up hu
      have hsz : ((ordersAt i).flatMap fun u => (List.range (i + 1)).filter fun _ => true).length ≤ sizeLine := by
        have : i = 0 ∨ i = 1 ∨ i = 2 ∨ i = 3 := by omega
        rcases this with rfl | rfl | rfl | rfl <;> decide
      refine sts_out (sts_cons (st_comp fx (bk hsc rfl) ((hk _).trans rfl) (cp2 (ρf := [("k", .int i)]) (ordersAt i) ordPV (fun _ => List.range (i + 1)) (fun n : Nat => .int n) (fun _ => .rng 0 ((i + 1 : Nat) : Int) 1)
        (fun one at_ => ordPV (one.take at_ ++ [i] ++ one.drop at_)) (fun _ _ => true) hA1.handled rfl (by decide) (by decide) ?_ ["k"] rfl (by decide) rfl rfl (by decide) (ev_name rfl) (.list _) hsz ?_ (fun _ _ => iter_up (i + 1) (by omega)) ?_ ?_) rfl (by decide)) sts_nil) (lk_sub ?_) (fun _ h => h)
      · exact List.forall_mem_cons.mpr ⟨⟨rfl, rfl, .inl ((hk _).trans rfl), rfl⟩, List.forall_mem_nil _⟩
      · intro cenv ce o ho
        exact ev_call_t (ce.kind _ _ rfl (by decide)) (by decide) (by decide +kernel) (evs_cons (ev_bin (ev_name rfl) ev_int (b_add _ _)) evs_nil) (k_range1 _)
      · intro cenv ce o ho v hv
        exact .nil
      · intro cenv ce o ho v hv _
        have hl := orders_len i o ho
        have e : ordPV (o.take v ++ [i] ++ o.drop v) = .list (((nats o).take v ++ [PV.int i]) ++ (nats o).drop v) := by simp [ordPV, nats, List.map_take, List.map_drop]
        rw [e]
        have hs : (nats o).length ≤ sizeLine := by rw [sizeLine_eq]; simp; omega
        refine ev_bin (ev_bin (ev_upto (ev_name rfl) (ev_name rfl) hs) (ev_list (evs_cons (ev_name rfl) evs_nil) (by show 1 ≤ sizeLine; decide)) (b_cat _ _ ?_)) (ev_from (ev_name rfl) (ev_name rfl) hs) (b_cat _ _ ?_)
        · rw [sizeLine_eq]; simp; omega
        · rw [sizeLine_eq]; simp; omega
      · show ∀ p ∈ ([("orders", .list ((ordersAt (i + 1)).map ordPV)), ("size", .int 4)] : Loc), _
        have e : (ordersAt (i + 1)).map ordPV = (ordersAt i).flatMap fun u => ((List.range (i + 1)).filter fun _ => true).map fun at_ => ordPV (u.take at_ ++ [i] ++ u.drop at_) := by
          show ((ordersAt i).flatMap _).map ordPV = _
          rw [List.map_flatMap]
          simp [Function.comp_def, filt_true]
        rw [e]
        repeat' (refine List.forall_mem_cons.mpr ⟨rfl, ?_⟩)
        exact List.forall_mem_nil _
    · exact run_ret (ev_name rfl)
end
end Mine
end

section
open PySem PySem.W PySem.Calls PyProof.Rows PySem.Spec
namespace Mine
section
variable {D : List DefRec} {prog : Program} {w : World} {mg mb : Str → Option Value} {A : Around} {env : Env} {ρ ρ' ρ₁ ρ₂ : Loc} {X T : Addr → Prop} {g : Shared} {g₀ : Heap} {M M' M₁ M₂ : Mut}

theorem ev_ref {x : Str} {p : Pos} {a : Addr} (hx : ρ.lookup x = some (.ref a)) (hd : (x == ("__debug__" : Str)) = false := by decide) : EV D prog w mg mb A env ρ (.Name x p) (.ref a) := ev_name hx hd

/-- x = []: a list that changes -/
theorem run_newlist {x : Str} {px p lp : Pos} {sts : List Stmt} {pv : PV} (fx : Fx D mg mb env T X g₀) (hx : env.kindOf x = some .local ∨ env.kindOf x = some .cell)
    (h : ∀ (a : Addr) (T' X' : Addr → Prop), (∀ p ∈ M, p.1 ≠ a) → Fx D mg mb env T' X' g₀ → RUN D prog w mg mb A env X' T' g g₀ sts ((x, .ref a) :: ρ) ((a, []) :: M) pv) : RUN D prog w mg mb A env X T g g₀ (.Assign [.Name x px] (.List [] lp) p :: sts) ρ M pv := fun s B => by
  refine wpAny_execs_cons (wpAny_Assign_Name (wpAny_List_spliced (args_nil ⟨by decide, ?_⟩)) rfl)
  have o : Ok s { s with heap := s.heap.push { cls := Value.type "list", data := Data.seq ([] : List Value).toArray } } := Ok.mk' (tk := s.toks) (Grow.push _ _)
  have hn : s.heap.get? s.heap.objs.size = none := new_of_size (Nat.le_refl _)
  have hp : (s.heap.push { cls := Value.type "list", data := Data.seq ([] : List Value).toArray }).get? s.heap.objs.size = some { cls := Value.type "list", data := Data.seq ([] : List Value).toArray } := Heap.get?_push_size _ rfl
  generalize s.heap.push { cls := Value.type "list", data := Data.seq ([] : List Value).toArray } = H at o hp
  generalize s.heap.objs.size = a at hn hp
  have B₁ := B.up o
  let T' : Addr → Prop := fun b => T b ∨ b = a
  let X' : Addr → Prop := fun b => X b ∨ b = a
  have hTa : ¬ T a := fun t => by obtain ⟨ob, e⟩ := B.live a t; rw [hn] at e; cases e
  have h0 : g₀.get? a = none := by
    cases q : g₀.get? a with
    | none => rfl
    | some ob => rw [B.gr a ob q] at hn; cases hn
  have fx' : Fx D mg mb env T' X' g₀ := ⟨fx.fe, fun b t => t.elim (fun t => .inl (fx.tx b t)) .inr, fx.base, fun b t => t.elim (fx.new b) fun e => e ▸ h0, fx.inj, fx.nofree⟩
  have B₂ : Bd D mg mb X' T' env g g₀ ρ ((a, []) :: M) { s with heap := H } := by
    refine ⟨⟨B₁.st.base, fx.fe, fun b q => q.elim (B₁.st.live b) fun e => e ▸ ⟨_, hp⟩, fun n pv hn' => ((B.st.has n pv hn').re fun b q => q.elim .inl fun e => .inr (e ▸ hn)).up o.grow⟩, B₁.but.more fun b t => .inl t, B₁.gr, fun y hy => ?_, fun b t => t.elim (B₁.live b) fun e => e ▸ ⟨_, hp⟩, ?_⟩
    · cases B₁.slots y hy with
      | loc m k n t => exact .loc m k n (.inl t)
      | cell c v k l i t => exact .cell c v k l i (.inl t)
    · intro p hp'
      rcases List.mem_cons.mp hp' with rfl | hp'
      · exact ⟨.inr rfl, [], ⟨0, hp⟩, .nil⟩
      · obtain ⟨t, r⟩ := B₁.muts p hp'
        exact ⟨.inl t, r⟩
  have hMa : ∀ p ∈ M, p.1 ≠ a := fun p hp' e => by
    obtain ⟨t, _⟩ := B.muts p hp'
    exact hTa (e ▸ t)
  refine bd_store fx' B₂ hx (.ref a) fun s₂ b B₃ => wpAny_mono (h a T' X' hMa fx' s₂ B₃) (fun f s₃ q => ?_) fun _ _ f => f
  obtain ⟨v, rfl, b3, l3, r3⟩ := q
  refine ⟨v, rfl, ⟨fun c ob tc e => b3.keep c ob (fun q => q.elim tc fun q => ?_) e, b3.gens, b3.drawn, b3.os⟩, fun b q => l3 b (.inl q), r3.re fun b q => .inl (.inl q)⟩
  have := B.but.keep c ob tc e
  rw [q, hn] at this; cases this

def updM (a : Addr) (ns : List Int) (M : Mut) : Mut := M.map fun p => if p.1 = a then (a, ns) else p

/-- a list among the mutables is changed -/
theorem Bd.change {s : Shared} {h' : Heap} {a : Addr} {vs : List Value} {ns ms : List Int} (fx : Fx D mg mb env T X g₀) (B : Bd D mg mb X T env g g₀ ρ M s) (hm : (a, ns) ∈ M) (hs : Heap.SameBut a s.heap h') (hl : h'.PlainList a vs.toArray) (hi : IntsAre vs ms) :
    But T s { s with heap := h' } ∧ Bd D mg mb X T env g g₀ ρ (updM a ms M) { s with heap := h' } := by
  obtain ⟨ta, us, pa, _⟩ := B.muts _ hm
  have b : But T s { s with heap := h' } := But.same (tk := s.toks) hs ta
  have gr' := b.grow fx.new B.gr
  refine ⟨b, ⟨fx.base.up gr', fx.fe, fun c hc => ?_, fun n pv hn => ?_⟩, B.but.trans b, gr', fun x hx => ?_, fun c hc => ?_, fun p hp => ?_⟩
  · by_cases e : c = a
    · obtain ⟨m, e'⟩ := hl; exact ⟨_, e ▸ e'⟩
    · obtain ⟨o, eo⟩ := B.st.live c hc; exact ⟨o, (hs.2 c e).trans eo⟩
  · have K := b.kp fx.tx
    cases B.st.has n pv hn with
    | loc m v k n e r => exact .loc m v k (n.sameBut hs (ns_ne_list n pa)) e (r.kp K)
    | cell c v k l i r => exact .cell c v k l (i.sameBut hs (cell_ne_list i pa)) (r.kp K)
    | free c v k l i r q => exact .free c v k l (i.sameBut hs (cell_ne_list i pa)) (r.kp K) q
  · exact (B.slots x hx).same hs (fun m n => ns_ne_list n pa) fun c v i => cell_ne_list i pa
  · by_cases e : c = a
    · obtain ⟨m, e'⟩ := hl; exact ⟨_, e ▸ e'⟩
    · obtain ⟨o, eo⟩ := B.live c hc; exact ⟨o, (hs.2 c e).trans eo⟩
  · obtain ⟨q, hq, rfl⟩ := List.mem_map.mp hp
    by_cases e : q.1 = a
    · rw [if_pos e]; exact ⟨ta, vs, hl, hi⟩
    · rw [if_neg e]
      obtain ⟨t, ws, pw, iw⟩ := B.muts q hq
      exact ⟨t, ws, pw.at fun o eo => (hs.2 _ e).trans eo, iw⟩

theorem st_append {x : Str} {px apos pos p : Pos} {e : Expr} {a : Addr} {ns : List Int} {k : Int} (fx : Fx D mg mb env T X g₀) (hx : ρ.lookup x = some (.ref a)) (hm : (a, ns) ∈ M) (he : EV D prog w mg mb A env ρ e (.int k)) (hsz : ns.length ≤ sizeLine)
    (hi : interactive env = false) (h1 : attributeBase (.Name x px) "append" env (eval (.Name x px) env) = eval (.Name x px) env := by rfl) (h2 : (apos.endLine == pos.line) = true := by rfl) (h3 : backTo pos (starEach [e] env) = [(false, eval e env)] := by rfl) (hd : (x == ("__debug__" : Str)) = false := by decide) :
    ST D prog w mg mb A env X T g g₀ (.Expr (.Call (.Attribute (.Name x px) "append" apos) [e] [] pos) p) ρ M ρ (updM a (ns ++ [k]) M) := fun s B => by
  refine wpAny_Expr_any (wpAny_Call_method1_late h1 h2 h3 (Ev.use (ev_name (D := D) (mg := mg) (mb := mb) hx hd X s B.st) fun v s₁ o₁ r₁ => ?_)) hi rfl
  cases r₁
  have B₁ := B.up o₁
  obtain ⟨ta, us, ⟨m, pa⟩, _⟩ := B₁.muts _ hm
  refine ⟨"list", "list.append", PySem.F.plainAttrs_list, slot_list_append, by kernel_rfl, ⟨_, pa, rfl⟩, fun b e => by cases e; exact ⟨_, pa, rfl⟩, ?_⟩
  refine callWith_builtin (by rfl) (evalArgs_plain (spliced_cons (Ev.use (he X s₁ B₁.st) fun u s₂ o₂ r₂ => spliced_nil ?_)))
  have B₂ := B₁.up o₂
  obtain ⟨ta, ws, pw, iw⟩ := B₂.muts _ hm
  cases r₂ with
  | int i t =>
    refine wpAny_list_append_plain (hsz := by simp [iw.length]; exact hsz) pw fun h' hl hs => ?_
    obtain ⟨b, B₃⟩ := B₂.change fx hm hs (vs := ws ++ [.int k t]) (by simpa using hl) (iw.append (.cons k t .nil))
    exact ⟨rfl, (o₁.trans o₂).but.trans b, B₃⟩

/-- «not in» a list that changes -/
theorem tr_notin {l : Expr} {x : Str} {px p : Pos} {a : Addr} {ns : List Int} {k : Int} (hl : EV D prog w mg mb A env ρ l (.int k)) (hx : ρ.lookup x = some (.ref a)) (hm : (a, ns) ∈ M) {s : Shared} (B : Bd D mg mb X T env g g₀ ρ M s) (hd : (x == ("__debug__" : Str)) = false := by decide)
    (hmk : behindInMarks .NotIn (.Name x px) = false := by rfl) : Ev (model prog w) A s (PySem.isTrue (.Compare l [.NotIn] [.Name x px] p) env (eval (.Compare l [.NotIn] [.Name x px] p) env)) (fun _ v => v = !(ns.any (· == k))) :=
  wpAny_isTrue_Compare1 (Ev.use (hl X s B.st) fun v s₁ o₁ r₁ => Ev.use (ev_name (D := D) (mg := mg) (mb := mb) hx hd X s₁ (B.up o₁).st) fun u s₂ o₂ r₂ => by
    cases r₂
    cases r₁ with
    | int i t =>
      obtain ⟨_, ws, pw, iw⟩ := ((B.up o₁).up o₂).muts _ hm
      exact notin_list_ints pw.isList iw (wpAny_truthy_bool ⟨o₁.trans o₂, rfl⟩)) hmk
end

def runW {S : Type} (cond : S → Bool) (next : S → S) : Nat → S → S
  | 0, s => s
  | f + 1, s => if cond s then runW cond next f (next s) else s
section
variable {D : List DefRec} {prog : Program} {w : World} {mg mb : Str → Option Value} {A : Around} {env : Env} {X T : Addr → Prop} {g : Shared} {g₀ : Heap}
theorem wh_loop {S : Type} {test : Expr} {body : List Stmt} (ρs : S → Loc) (Ms : S → Mut) (cond : S → Bool) (next : S → S) (inv : Nat → S → Prop)
    (h0 : ∀ s, inv 0 s → cond s = false) (h1 : ∀ f s, inv (f + 1) s → cond s = true → inv f (next s))
    (ht : ∀ f s, inv f s → ∀ st, Bd D mg mb X T env g g₀ (ρs s) (Ms s) st → Ev (model prog w) A st (PySem.isTrue test env (eval test env)) (fun _ v => v = cond s))
    (hb : ∀ f s, inv (f + 1) s → cond s = true → STs D prog w mg mb A env X T g g₀ body (ρs s) (Ms s) (ρs (next s)) (Ms (next s))) :
    ∀ f s, inv f s → WH D prog w mg mb A env X T g g₀ test body (ρs s) (Ms s) (ρs (runW cond next f s)) (Ms (runW cond next f s))
  | 0, s, hi => wh_false fun st B => Ev.use (ht 0 s hi st B) fun b s₁ o e => ⟨o, by rw [e, h0 s hi]⟩
  | f + 1, s, hi => by
    unfold runW
    cases hc : cond s with
    | false => exact wh_false fun st B => Ev.use (ht _ s hi st B) fun b s₁ o e => ⟨o, by rw [e, hc]⟩
    | true => exact wh_true (fun st B => Ev.use (ht _ s hi st B) fun b s₁ o e => ⟨o, by rw [e, hc]⟩) (hb f s hi hc) (wh_loop ρs Ms cond next inv h0 h1 ht hb f (next s) (h1 f s hi hc))
end

-- the wheels
/-- the places on the way, and the sum -/
def wheel (row : List Int) (order : List Nat) : Nat → List Nat → Int → Nat → List Nat × Int
  | 0, seen, w, _ => (seen, w)
  | f + 1, seen, w, a => if seen.contains a then (seen, w) else wheel row order f (seen ++ [a]) (w + row.getD a 0) (order.getD a 0)
/-- the way ends within so many steps, in bounds -/
def wheelEnds (n : Nat) (order : List Nat) : Nat → List Nat → Nat → Bool
  | 0, seen, a => seen.contains a
  | f + 1, seen, a => seen.contains a || (decide (a < n) && decide (a < order.length) && wheelEnds n order f (seen ++ [a]) (order.getD a 0))
def gainAt (row : List Int) (order : List Nat) (F : Nat) : Nat → List Nat × Int
  | 0 => ([], 0)
  | i + 1 => let r := wheel row order F (gainAt row order F i).1 0 i; (r.1, (gainAt row order F i).2 + max 0 r.2)
def natInts (ns : List Nat) : List Int := ns.map fun n : Nat => (n : Int)
def wCond (s : List Nat × Int × Nat) : Bool := !s.1.contains s.2.2
def wNext (row : List Int) (order : List Nat) (s : List Nat × Int × Nat) : List Nat × Int × Nat := (s.1 ++ [s.2.2], s.2.1 + row.getD s.2.2 0, order.getD s.2.2 0)
theorem runW_wheel (row : List Int) (order : List Nat) : ∀ f s, ((runW wCond (wNext row order) f s).1, (runW wCond (wNext row order) f s).2.1) = wheel row order f s.1 s.2.1 s.2.2
  | 0, s => rfl
  | f + 1, (seen, w, a) => by
    unfold runW wheel
    cases h : seen.contains a with
    | true =>
      have e : wCond (seen, w, a) = false := by show (!seen.contains a) = false; rw [h]; rfl
      rw [e]; rfl
    | false =>
      have e : wCond (seen, w, a) = true := by show (!seen.contains a) = true; rw [h]; rfl
      rw [e]
      simp only [Bool.false_eq_true, if_false, if_true]
      exact runW_wheel row order f (wNext row order (seen, w, a))
theorem any_nat (a : Nat) : ∀ ns : List Nat, (natInts ns).any (· == (a : Int)) = ns.contains a
  | [] => rfl
  | n :: r => by
    show ((n : Int) == (a : Int) || (natInts r).any (· == (a : Int))) = (a == n || r.contains a)
    rw [any_nat a r]
    congr 1
    by_cases h : n = a
    · subst h; simp
    · have h2 : ¬ (n : Int) = (a : Int) := by omega
      have h3 : ¬ a = n := fun e => h e.symm
      rw [beq_eq_false_iff_ne.mpr h2, beq_eq_false_iff_ne.mpr h3]

section
variable {w : World} {mg mb : Str → Option Value} {A : Around} {env : Env} {ρ : Loc}
theorem f_gain (row : List Int) (order : List Nat) (F : Nat) (hF : F ≤ 1000) (hn : order.length ≤ 1000) (hr : row.length ≤ 1000) (hends : ∀ i < order.length, wheelEnds row.length order F (gainAt row order F i).1 i = true) (hlen : ∀ i ≤ order.length, ∀ row', (gainAt row' order F i).1.length ≤ 1000)
    {n : Nat} (hA : Rm (n + 2) A) {a : Addr} (ha : mg "_law_gain" = some (.ref a)) :
    CALL DD PG w mg mb A (.ref a) [.list (pints row), .list (nats order)] (.int (gainAt row order F order.length).2) := by
  refine call_run (d := dAt 11) (ps := ["row", "order"]) (mem_dd (by decide)) ha (by have := hA.depth; omega) ?_ rfl (by decide) (by decide) (by decide) (fun env T X g g₀ hsc fx => ?_)
  · intro pm code doc vs hv
    match vs, hv with
    | [u, v], _ => rfl
  · have hk : ∀ n, env.kindOf n = (dAt 11).scope.names.lookup n := fun n => by unfold Env.kindOf; rw [hsc]
    have hA1 := hA.deep env
    refine run_newlist fx (.inl ((hk _).trans rfl)) fun as T X hMa fx => ?_
    refine run_seq (st_assign fx (.inl ((hk _).trans rfl)) ev_int rfl) ?_
    let σ : Nat → Loc := fun i => [("gain", .int (gainAt row order F i).2), ("seen", .ref as), ("row", .list (pints row)), ("order", .list (nats order))]
    let μ : Nat → Mut := fun i => [(as, natInts (gainAt row order F i).1)]
    have hlen' : ((nats order).length : Int) = (order.length : Int) := by simp
    refine run_seq (ρ₁ := σ ((List.range order.length).map fun i : Nat => PV.int i).length) (M₁ := μ ((List.range order.length).map fun i : Nat => PV.int i).length) (st_for fx hA1.handled (.inl ((hk _).trans rfl)) σ μ (ev_call_t ((hk _).trans rfl) (by decide) (by decide +kernel) (evs_cons (ev_call_b ((hk _).trans rfl) (by decide) (by decide +kernel) (evs_cons (ev_name rfl) evs_nil) (k_len _ (by simp; omega))) evs_nil) (k_range1 _)) (hlen' ▸ iter_up order.length (by omega)) (lk_sub ?_) (fun _ h => h) ?_) ?_
    · repeat' (refine List.forall_mem_cons.mpr ⟨rfl, ?_⟩)
      exact List.forall_mem_nil _
    · intro X' fx i u hu
      obtain ⟨hi, rfl⟩ := get_up hu
      let ρs : List Nat × Int × Nat → Loc := fun s => ("at", .int (s.2.2 : Nat)) :: ("wheel", .int s.2.1) :: ("start", .int (i : Nat)) :: σ i
      let Ms : List Nat × Int × Nat → Mut := fun s => [(as, natInts s.1)]
      let inv : Nat → List Nat × Int × Nat → Prop := fun f s => wheelEnds row.length order f s.1 s.2.2 = true ∧ s.1.length + f ≤ 2000
      have hend := hends i hi
      have hl := hlen i (by omega) row
      have hw := runW_wheel row order F ((gainAt row order F i).1, 0, i)
      have e1 : (gainAt row order F (i + 1)).1 = (runW wCond (wNext row order) F ((gainAt row order F i).1, 0, i)).1 := (congrArg Prod.fst hw).symm
      have e2 : (gainAt row order F (i + 1)).2 = (gainAt row order F i).2 + max 0 (runW wCond (wNext row order) F ((gainAt row order F i).1, 0, i)).2.1 := by
        rw [show (runW wCond (wNext row order) F ((gainAt row order F i).1, 0, i)).2.1 = (wheel row order F (gainAt row order F i).1 0 i).2 from congrArg Prod.snd hw]
        rfl
      refine sts_out (sts_cons (st_assign fx (.inl ((hk _).trans rfl)) ev_int rfl) <| sts_cons (st_assign fx (.inl ((hk _).trans rfl)) (ev_name rfl) rfl) <|
        sts_cons (st_while (wh_loop ρs Ms wCond (wNext row order) inv ?_ ?_ ?_ ?_ F ((gainAt row order F i).1, 0, i) ⟨hend, by show (gainAt row order F i).1.length + F ≤ 2000; omega⟩)) <|
        sts_cons (st_aug fx (.inl ((hk _).trans rfl)) rfl (ev_call_b ((hk _).trans rfl) (by decide) (by decide +kernel) (evs_cons ev_int (evs_cons (ev_name rfl) evs_nil)) (k_max _ _ hA1.handled)) (i_add _ _)) sts_nil) (lk_sub ?_) ?_
      · rintro s ⟨h, _⟩
        have h' : s.1.contains s.2.2 = true := h
        show (!s.1.contains s.2.2) = false
        rw [h']; rfl
      · rintro f s ⟨h, hl2⟩ hc
        have hc' : s.1.contains s.2.2 = false := by simpa [wCond] using hc
        unfold wheelEnds at h
        rw [hc'] at h
        simp only [Bool.false_or, Bool.and_eq_true, decide_eq_true_eq] at h
        refine ⟨h.2, ?_⟩
        show (s.1 ++ [s.2.2]).length + f ≤ 2000
        simp; omega
      · intro f s hinv st B
        refine Ev.use (tr_notin (ρ := ρs s) (M := Ms s) (ev_name rfl) rfl (List.mem_singleton.mpr rfl) B) fun b s₁ o e => ⟨o, ?_⟩
        rw [e, any_nat]; rfl
      · rintro f s ⟨h, hl2⟩ hc
        have hc' : s.1.contains s.2.2 = false := by simpa [wCond] using hc
        unfold wheelEnds at h
        rw [hc'] at h
        simp only [Bool.false_or, Bool.and_eq_true, decide_eq_true_eq] at h
        obtain ⟨seen, wh, at_⟩ := s
        simp only at h hl2
        have h1 : (pints row)[at_]? = some (.int (row.getD at_ 0)) := by simp [h.1.1]
        have h2 : (nats order)[at_]? = some (.int (order.getD at_ 0 : Nat)) := by simp [h.1.2]
        refine sts_out (sts_cons (st_append fx rfl (List.mem_singleton.mpr rfl) (ev_name rfl) (by rw [sizeLine_eq]; simp [natInts]; omega) ?_) <| sts_cons (st_aug fx (.inl ((hk _).trans rfl)) rfl (ev_item (k := at_) (ev_name rfl) (ev_name rfl) h1 (by omega)) (i_add _ _)) <|
          sts_cons (st_assign fx (.inl ((hk _).trans rfl)) (ev_item (k := at_) (ev_name rfl) (ev_name rfl) h2 (by omega)) rfl) sts_nil) (lk_sub ?_) ?_
        · unfold interactive; rw [hsc]; rfl
        · repeat' (refine List.forall_mem_cons.mpr ⟨rfl, ?_⟩)
          exact List.forall_mem_nil _
        · intro p hp
          rw [List.mem_singleton.mp hp]
          show (as, natInts (seen ++ [at_])) ∈ updM as (natInts seen ++ [(at_ : Int)]) [(as, natInts seen)]
          simp [updM, natInts]
      · show ∀ p ∈ ([("gain", .int (gainAt row order F (i + 1)).2), ("seen", .ref as), ("row", .list (pints row)), ("order", .list (nats order))] : Loc), _
        rw [e2]
        repeat' (refine List.forall_mem_cons.mpr ⟨rfl, ?_⟩)
        exact List.forall_mem_nil _
      · intro p hp
        rw [List.mem_singleton.mp hp, e1]
        exact List.mem_singleton.mpr rfl
    · have e : ((List.range order.length).map fun i : Nat => PV.int i).length = order.length := by simp
      rw [e]
      exact run_ret (ev_name rfl)
end
end Mine
end

section
open PySem PySem.W PySem.Calls PyProof.Rows PySem.Spec
namespace Mine
section
variable {D : List DefRec} {prog : Program} {w : World} {mg mb : Str → Option Value} {A : Around} {env : Env} {ρ : Loc}
theorem Reps.three {X : Addr → Prop} {h : Heap} {vs : List Value} {x y z : PV} (r : Reps X h vs [x, y, z]) : ∃ u v t, vs = [u, v, t] ∧ Rep X h u x ∧ Rep X h v y ∧ Rep X h t z := by
  cases r with | cons a r => cases r with | cons b r => cases r with | cons c r => cases r with | nil => exact ⟨_, _, _, rfl, a, b, c⟩
theorem k_range3 (a b c : Int) (hc : c ≠ 0) (hs : c.natAbs < 1073741824) : CALL D prog w mg mb A (.type "range") [.int a, .int b, .int c] (.rng a b c) := fun X s vs B hX R => by
  obtain ⟨u, v, t, rfl, r, r2, r3⟩ := R.three
  cases r; cases r2; cases r3
  exact call_range_3 hc ⟨Ok.mk' (Grow.push _ _), .rng hX.new (IsRange.new ..)⟩ (.inl (PyProof.noPylong_small hs))
theorem iter_down (n : Nat) (h : n ≤ 1000000) : Iter (.rng ((n : Int) - 1) (-1) (-1)) ((List.range n).map fun i : Nat => PV.int ((n - 1 - i : Nat) : Int)) := by
  have e0 : ((List.range n).map fun i : Nat => PV.int ((n - 1 - i : Nat) : Int)) = (List.range n).map fun i : Nat => PV.int ((n : Int) - 1 + (i : Int) * (-1)) := List.map_congr_left fun i hi => by
    have := List.mem_range.mp hi
    congr 1; omega
  rw [e0]
  have e : Builtin.Range.rangeSize ((n : Int) - 1) (-1) (-1) = n := by
    unfold Builtin.Range.rangeSize
    simp
    intro h2; omega
  refine Iter.rng _ _ _ n ?_ e
  unfold Builtin.Range.small
  rw [e]
  simp [Builtin.Range.rangeFitsLong]
  omega
theorem ev_fromi {value e : Expr} {p pos : Pos} {ns : List Int} {k : Nat} (hv : EV D prog w mg mb A env ρ value (.list (pints ns))) (h1 : EV D prog w mg mb A env ρ e (.int k)) (hsz : ns.length ≤ sizeLine)
    (ht : ∀ (o r : Value), letTemporaryGo value o r = pure () := by intro _ _; rfl) : EV D prog w mg mb A env ρ (.Subscript value (.Slice (some e) none none p) pos) (.list (pints (ns.drop k))) := by
  have := ev_from (p := p) (pos := pos) hv h1 (by simpa using hsz) ht
  rwa [show (pints ns).drop k = pints (ns.drop k) by simp [List.map_drop]] at this
theorem ev_uptoi {value e : Expr} {p pos : Pos} {ns : List Int} {k : Nat} (hv : EV D prog w mg mb A env ρ value (.list (pints ns))) (h1 : EV D prog w mg mb A env ρ e (.int k)) (hsz : ns.length ≤ sizeLine)
    (ht : ∀ (o r : Value), letTemporaryGo value o r = pure () := by intro _ _; rfl) : EV D prog w mg mb A env ρ (.Subscript value (.Slice none (some e) none p) pos) (.list (pints (ns.take k))) := by
  have := ev_upto (p := p) (pos := pos) hv h1 (by simpa using hsz) ht
  rwa [show (pints ns).take k = pints (ns.take k) by simp [List.map_take]] at this
end
def toldM (one two : List Int) : List Int :=
  ((List.range one.length).filter fun i => decide (((two.count (one.getD (one.length - 1 - i) 0) : Nat) : Int) < (((one.drop (one.length - 1 - i)).count (one.getD (one.length - 1 - i) 0) : Nat) : Int))).map fun i => one.getD (one.length - 1 - i) 0
def toldL (one two : List Int) : List Int :=
  ((List.range two.length).filter fun i => decide (((one.count (two.getD i 0) : Nat) : Int) < (((two.take (i + 1)).count (two.getD i 0) : Nat) : Int))).map fun i => two.getD i 0
section
variable {w : World} {mg mb : Str → Option Value} {A : Around} {env : Env} {ρ : Loc}
theorem f_told (one two : List Int) (h1 : one.length ≤ 1000) (h2 : two.length ≤ 1000) {n : Nat} (hA : Rm (n + 1) A) {a : Addr} (ha : mg "_law_told" = some (.ref a)) :
    CALL DD PG w mg mb A (.ref a) [.list (pints one), .list (pints two)] (pair2 (toldM one two) (toldL one two)) := by
  refine call_run (d := dAt 12) (ps := ["one", "two"]) (mem_dd (by decide)) ha (by have := hA.depth; omega) ?_ rfl (by decide) (by decide) (by decide) (fun env T X g g₀ hsc fx => ?_)
  · intro pm code doc vs hv
    match vs, hv with
    | [u, v], _ => rfl
  · have hk : ∀ n, env.kindOf n = (dAt 12).scope.names.lookup n := fun n => by unfold Env.kindOf; rw [hsc]
    have hA1 := hA.deep env
    have s1 : one.length ≤ sizeLine := by rw [sizeLine_eq]; omega
    have s2 : two.length ≤ sizeLine := by rw [sizeLine_eq]; omega
    have len1 : ((pints one).length : Int) = (one.length : Int) := by simp
    have len2 : ((pints two).length : Int) = (two.length : Int) := by simp
    have get1 : ∀ i < one.length, (pints one)[one.length - 1 - i]? = some (.int (one.getD (one.length - 1 - i) 0)) := fun i hi => by
      have : one.length - 1 - i < one.length := by omega
      generalize one.length - 1 - i = j at this
      simp [this]
    have get2 : ∀ i < two.length, (pints two)[i]? = some (.int (two.getD i 0)) := fun i hi => by simp [hi]
    refine run_seq (st_comp fx (bk hsc rfl) ((hk _).trans rfl) (cp1 (ρf := [("one", .list (pints one)), ("two", .list (pints two))]) (List.range one.length) (fun i : Nat => .int ((one.length - 1 - i : Nat) : Int)) (fun i => .int (one.getD (one.length - 1 - i) 0))
      (fun i => decide (((two.count (one.getD (one.length - 1 - i) 0) : Nat) : Int) < (((one.drop (one.length - 1 - i)).count (one.getD (one.length - 1 - i) 0) : Nat) : Int))) hA1.handled rfl (by decide) (by decide) ?_ ["one", "two"] rfl (by decide) (.inl rfl)
      (ev_call_t ((hk _).trans rfl) (by decide) (by decide +kernel) (evs_cons (ev_bin (ev_call_b ((hk _).trans rfl) (by decide) (by decide +kernel) (evs_cons (ev_name rfl) evs_nil) (k_len _ (by simp; omega))) ev_int (len1 ▸ b_sub _ _)) (evs_cons (ev_neg ev_int) (evs_cons (ev_neg ev_int) evs_nil))) (k_range3 _ _ _ (by decide) (by decide)))
      (iter_down one.length (by omega)) (by simpa using s1) ?_ ?_) rfl (by decide)) ?_
    · exact List.forall_mem_cons.mpr ⟨⟨rfl, rfl, .inl ((hk _).trans rfl), rfl⟩, List.forall_mem_cons.mpr ⟨⟨rfl, rfl, .inl ((hk _).trans rfl), rfl⟩, List.forall_mem_nil _⟩⟩
    · intro cenv ce i hi
      have hi' := List.mem_range.mp hi
      have g1 := get1 i hi'
      refine .one (tr_cmp (ev_count (ev_fromi (ev_name rfl) (ev_name rfl) s1) (ev_item (ev_name rfl) (ev_name rfl) g1 (by omega))) (ev_count (ev_name rfl) (ev_item (ev_name rfl) (ev_name rfl) g1 (by omega))) (c_gt _ _))
    · intro cenv ce i hi _
      have hi' := List.mem_range.mp hi
      exact ev_item (ev_name rfl) (ev_name rfl) (get1 i hi') (by omega)
    refine run_seq (st_comp fx (bk hsc rfl) ((hk _).trans rfl) (cp1 (ρf := [("one", .list (pints one)), ("two", .list (pints two))]) (List.range two.length) (fun i : Nat => .int (i : Int)) (fun i => .int (two.getD i 0))
      (fun i => decide (((one.count (two.getD i 0) : Nat) : Int) < (((two.take (i + 1)).count (two.getD i 0) : Nat) : Int))) hA1.handled rfl (by decide) (by decide) ?_ ["one", "two"] rfl (by decide) (.inl rfl)
      (ev_call_t ((hk _).trans rfl) (by decide) (by decide +kernel) (evs_cons (ev_call_b ((hk _).trans rfl) (by decide) (by decide +kernel) (evs_cons (ev_name rfl) evs_nil) (k_len _ (by simp; omega))) evs_nil) (k_range1 _))
      (len2 ▸ iter_up two.length (by omega)) (by simpa using s2) ?_ ?_) rfl (by decide)) ?_
    · exact List.forall_mem_cons.mpr ⟨⟨rfl, rfl, .inl ((hk _).trans rfl), rfl⟩, List.forall_mem_cons.mpr ⟨⟨rfl, rfl, .inl ((hk _).trans rfl), rfl⟩, List.forall_mem_nil _⟩⟩
    · intro cenv ce i hi
      have hi' := List.mem_range.mp hi
      refine .one (tr_cmp (ev_count (ev_uptoi (ev_name rfl) (ev_bin (ev_name rfl) ev_int (b_add _ _)) s2) (ev_item (ev_name rfl) (ev_name rfl) (get2 i hi') (by omega))) (ev_count (ev_name rfl) (ev_item (ev_name rfl) (ev_name rfl) (get2 i hi') (by omega))) (c_gt _ _))
    · intro cenv ce i hi _
      have hi' := List.mem_range.mp hi
      exact ev_item (ev_name rfl) (ev_name rfl) (get2 i hi') (by omega)
    have e1 : pair2 (toldM one two) (toldL one two) = .tup [.list (((List.range one.length).filter fun i => decide (((two.count (one.getD (one.length - 1 - i) 0) : Nat) : Int) < (((one.drop (one.length - 1 - i)).count (one.getD (one.length - 1 - i) 0) : Nat) : Int))).map fun i => .int (one.getD (one.length - 1 - i) 0)), .list (((List.range two.length).filter fun i => decide (((one.count (two.getD i 0) : Nat) : Int) < (((two.take (i + 1)).count (two.getD i 0) : Nat) : Int))).map fun i => .int (two.getD i 0))] := by
      unfold pair2 toldM toldL pints
      rw [List.map_map, List.map_map]; rfl
    rw [e1]
    exact run_ret (ev_tup (evs_cons (ev_name rfl) (evs_cons (ev_name rfl) evs_nil)) (by show 2 ≤ sizeLine; decide))
end
end Mine
end

section
open PySem PySem.W PySem.Calls PyProof.Rows PySem.Spec
namespace Mine

/-- kept, within F up to slots -/
def Sl (F : Addr → Prop) (h h' : Heap) : Prop := ∀ b o, h.get? b = some o → (¬ F b → h'.get? b = some o) ∧ ((∀ vs, o.data ≠ .fields vs) → ∃ sl, h'.get? b = some { o with slots := sl })
theorem Sl.ns {F : Addr → Prop} {h h' : Heap} {a : Addr} {m : Str → Option Value} (x : Sl F h h') (n : h.Ns a m) : h'.Ns a m := by
  obtain ⟨o, es, ep, e, d, r⟩ := n
  obtain ⟨sl, e'⟩ := (x a o e).2 fun vs q => by rw [d] at q; cases q
  exact ⟨_, es, ep, e', d, r⟩
theorem Sl.cell {F : Addr → Prop} {h h' : Heap} {a : Addr} {v : Option Value} (x : Sl F h h') (n : h.IsCell a v) : h'.IsCell a v := by
  obtain ⟨o, e, d⟩ := n
  obtain ⟨sl, e'⟩ := (x a o e).2 fun vs q => by rw [d] at q; cases q
  exact ⟨_, e', d⟩
/-- each in F is a frame's table -/
def FO (F : Addr → Prop) (h : Heap) : Prop := ∀ b, F b → ∃ m, h.Ns b m
structure BF (F T : Addr → Prop) (s s' : Shared) : Prop where
  keep : ∀ b o, ¬ T b → s.heap.get? b = some o → (¬ F b → s'.heap.get? b = some o) ∧ ((∀ vs, o.data ≠ .fields vs) → ∃ sl, s'.heap.get? b = some { o with slots := sl })
  gens : s'.gens = s.gens
  drawn : s'.drawn = s.drawn
  os : s'.os = s.os
theorem BF.refl (F T : Addr → Prop) (s : Shared) : BF F T s s := ⟨fun b o _ e => ⟨fun _ => e, fun _ => ⟨o.slots, e⟩⟩, rfl, rfl, rfl⟩
theorem BF.trans {F T : Addr → Prop} {a b c : Shared} (x : BF F T a b) (y : BF F T b c) : BF F T a c :=
  ⟨fun p o n e => ⟨fun f => (y.keep p o n ((x.keep p o n e).1 f)).1 f, fun q => by
    obtain ⟨sl, e1⟩ := (x.keep p o n e).2 q
    exact (y.keep p _ n e1).2 q⟩, y.gens.trans x.gens, y.drawn.trans x.drawn, y.os.trans x.os⟩
theorem But.bf {F T : Addr → Prop} {s s' : Shared} (x : But T s s') : BF F T s s' := ⟨fun b o n e => ⟨fun _ => x.keep b o n e, fun _ => ⟨o.slots, x.keep b o n e⟩⟩, x.gens, x.drawn, x.os⟩
theorem BF.fo {F T : Addr → Prop} {s s' : Shared} (x : BF F T s s') (h : ∀ b, F b → ¬ T b) (f : FO F s.heap) : FO F s'.heap := fun b hb => by
  obtain ⟨m, o, es, ep, e, d, r⟩ := f b hb
  obtain ⟨sl, e'⟩ := (x.keep b o (h b hb) e).2 fun vs q => by rw [d] at q; cases q
  exact ⟨m, _, es, ep, e', d, r⟩

section
variable {D : List DefRec} {prog : Program} {w : World} {mg mb : Str → Option Value} {A : Around} {env : Env} {ρ ρ' ρ₁ ρ₂ : Loc} {X T F : Addr → Prop} {g : Shared} {g₀ : Heap} {M M' M₁ M₂ : Mut}

theorem Bd.here {s : Shared} (B : Bd D mg mb X T env g g₀ ρ M s) : Bd D mg mb X T env s g₀ ρ M s := ⟨B.st, But.refl _ _, B.gr, B.slots, B.live, B.muts⟩
theorem Bd.slot {s s' : Shared} (fx : Fx D mg mb env T X g₀) (B : Bd D mg mb X T env g g₀ ρ M s) (k : Sl F s.heap s'.heap) (hX : ∀ b, F b → X b) (hg0 : ∀ b, F b → g₀.get? b = none) (hd : FO F s.heap) : Bd D mg mb X T env s' g₀ ρ M s' := by
  have gr' : Grow g₀ s'.heap := fun b o e => (k b o (B.gr b o e)).1 fun f => by rw [hg0 b f] at e; cases e
  have lv : ∀ b, (∃ o, s.heap.get? b = some o) → ∃ o, s'.heap.get? b = some o := fun b hb => by
    obtain ⟨o, e⟩ := hb
    by_cases q : F b
    · obtain ⟨m, n⟩ := hd b q
      obtain ⟨o', _, _, e', _⟩ := k.ns n
      exact ⟨o', e'⟩
    · exact ⟨o, (k b o e).1 q⟩
  have K : Kp X s.heap s'.heap := fun b o n e _ => (k b o e).1 fun f => n (hX b f)
  refine ⟨⟨fx.base.up gr', fx.fe, fun a ha => lv a (B.st.live a ha), fun n pv hn => ?_⟩, But.refl _ _, gr', fun x hx => ?_, fun a ha => lv a (B.live a ha), fun p hp => ?_⟩
  · cases B.st.has n pv hn with
    | loc m v a b c d => exact .loc m v a (k.ns b) c (d.kp K)
    | cell c v a l i d => exact .cell c v a l (k.cell i) (d.kp K)
    | free c v a l i d q => exact .free c v a l (k.cell i) (d.kp K) q
  · cases B.slots x hx with
    | loc m a n t => exact .loc m a (k.ns n) t
    | cell c v a l i t => exact .cell c v a l (k.cell i) t
  · obtain ⟨t, vs, a, i⟩ := B.muts p hp
    refine ⟨t, vs, a.at fun o e => (k _ o e).1 fun f => ?_, i⟩
    obtain ⟨m, n⟩ := hd _ f
    exact ns_ne_list n a rfl

end

-- lists that change: pop, remove
theorem ints_snoc {vs : List Value} {ns : List Int} {n : Int} (h : IntsAre vs (ns ++ [n])) : ∃ us t, vs = us ++ [.int n t] ∧ IntsAre us ns := by
  induction ns generalizing vs with
  | nil => cases h with | cons _ t r => cases r with | nil => exact ⟨[], t, rfl, .nil⟩
  | cons a r ih =>
    cases h with | cons _ t q =>
      obtain ⟨us, t', e, i⟩ := ih q
      exact ⟨_ :: us, t', by rw [e]; rfl, .cons a t i⟩
theorem ints_eraseIdx {vs : List Value} {ns : List Int} (h : IntsAre vs ns) (j : Nat) : IntsAre (vs.eraseIdx j) (ns.eraseIdx j) := by
  induction j generalizing vs ns with
  | zero => cases h with
    | nil => exact .nil
    | cons _ _ r => exact r
  | succ j ih => cases h with
    | nil => exact .nil
    | cons n t r => exact .cons n t (ih r)
theorem ints_kf {vs : List Value} {ns : List Int} (h : IntsAre vs ns) : kf_ints vs = true := by
  induction h with
  | nil => rfl
  | cons _ _ _ ih => exact ih
theorem ints_isInt {vs : List Value} {ns : List Int} (h : IntsAre vs ns) (k : Int) (i : Nat) (hi : i < vs.length) : ∃ hj : i < ns.length, isInt k vs[i] = (ns[i] == k) := by
  induction i generalizing vs ns with
  | zero => cases h with
    | nil => exact absurd hi (by simp)
    | cons n t r => exact ⟨by simp, rfl⟩
  | succ i ih => cases h with
    | nil => exact absurd hi (by simp)
    | cons n t r =>
      obtain ⟨hj, e⟩ := ih r (by simpa using hi)
      exact ⟨by simpa using hj, by simpa using e⟩

section
variable {D : List DefRec} {prog : Program} {w : World} {mg mb : Str → Option Value} {A : Around} {env : Env} {ρ ρ' ρ₁ ρ₂ : Loc} {X T F : Addr → Prop} {g : Shared} {g₀ : Heap} {M M' M₁ M₂ : Mut}

theorem st_pop {l x : Str} {pl px apos pos p : Pos} {a : Addr} {ns : List Int} {n : Int} (fx : Fx D mg mb env T X g₀) (hx : env.kindOf x = some .local ∨ env.kindOf x = some .cell) (hl : ρ.lookup l = some (.ref a)) (hm : (a, ns ++ [n]) ∈ M) (hsz : ns.length + 1 ≤ sizeLine)
    (h1 : attributeBase (.Name l pl) "pop" env (eval (.Name l pl) env) = eval (.Name l pl) env := by rfl) (h2 : (apos.endLine == pos.line) = true := by rfl) (hd : (l == ("__debug__" : Str)) = false := by decide) :
    ST D prog w mg mb A env X T g g₀ (.Assign [.Name x px] (.Call (.Attribute (.Name l pl) "pop" apos) [] [] pos) p) ρ M ((x, .int n) :: ρ) (updM a ns M) := fun s B => by
  refine wpAny_Assign_Name (wpAny_Call_method0_late h1 h2 (Ev.use (ev_name (D := D) (mg := mg) (mb := mb) hl hd X s B.st) fun v s₁ o₁ r₁ => ?_)) rfl
  cases r₁
  have B₁ := B.up o₁
  obtain ⟨ta, vs, ⟨m, pa⟩, ia⟩ := B₁.muts _ hm
  obtain ⟨us, t, rfl, iu⟩ := ints_snoc ia
  refine ⟨"list", "list.pop", PySem.F.plainAttrs_list, PySem.F.slot_list_pop, by kernel_rfl, ⟨_, pa, rfl⟩, fun b e => by cases e; exact ⟨_, pa, rfl⟩, ?_⟩
  refine PySem.P.pop_list (n := m) (y := .int n t) pa (by simp) ?_ (by simpa [iu.length] using hsz)
  have e : ((us ++ [Value.int n t]).toArray.eraseIdxIfInBounds ((us ++ [Value.int n t]).toArray.size - 1)) = us.toArray := by
    apply Array.toList_inj.mp
    simp [Array.toList_eraseIdxIfInBounds, List.eraseIdx_append_of_length_le]
  have hL := PySem.IsL.update pa (fun xs => xs.eraseIdxIfInBounds ((us ++ [Value.int n t]).toArray.size - 1))
  obtain ⟨b, B₂⟩ := B₁.change fx hm (Heap.SameBut.update ..) (vs := us) ⟨_, e ▸ hL⟩ iu
  exact bd_store fx B₂ hx (.int n t) fun s₃ b₃ B₃ => ⟨rfl, (o₁.but.trans b).trans b₃, B₃⟩

/-- the stack's frames stand -/
def FF (frs : List Env) (h : Heap) : Prop := ∀ e ∈ frs, e.scope.kind ≠ .module ∧ ∃ L m, e.frame = some L ∧ h.Ns L m
def inF (frs : List Env) (b : Addr) : Prop := b ∈ frs.filterMap (·.frame)
theorem FF.fo {frs : List Env} {h : Heap} (x : FF frs h) : FO (inF frs) h := fun b hb => by
  obtain ⟨e, he, hf⟩ := List.mem_filterMap.mp hb
  obtain ⟨_, L, m, hL, n⟩ := x e he
  rw [hf] at hL; cases hL
  exact ⟨m, n⟩
theorem ff_fun {base h : Heap} : ∀ {frs : List Env}, FF frs h → (∀ b, inF frs b → base.get? b = none) → h.FunFrames base frs
  | [], _, _ => trivial
  | e :: r, x, k => by
    obtain ⟨hk, L, m, hf, o, es, ep, ho, hd, _⟩ := x e (.head _)
    refine ⟨hk, ⟨L, o, hf, k L (List.mem_filterMap.mpr ⟨e, .head _, hf⟩), ho, fun vs q => by rw [hd] at q; cases q⟩, ff_fun (fun e' he' => x e' (.tail _ he')) fun b hb => k b ?_⟩
    obtain ⟨e', he', hf'⟩ := List.mem_filterMap.mp hb
    exact List.mem_filterMap.mpr ⟨e', .tail _ he', hf'⟩
theorem FF.sl {frs : List Env} {G : Addr → Prop} {h h' : Heap} (x : FF frs h) (k : Sl G h h') : FF frs h' := fun e he => let ⟨a, L, m, b, n⟩ := x e he; ⟨a, L, m, b, k.ns n⟩

/-- a new exception is caught in the very frame -/
theorem caught_here {frs : List Env} {L e : Addr} {s s' : Shared} {X' T' : String} {t : Expr} {b₀ : Stmt} {suite : List Stmt} {pos : Pos} {rest : List ExceptHandler} {Q : Flow → Shared → Prop}
    (hfr : A.frames = some (env :: frs)) (hf : env.frame = some L) (hF : FF (env :: frs) s.heap) (hx : Heap.NewExc s.heap s'.heap e X')
    (hexc : isSubtype (.type T') (.type "BaseException") = pure true) (hnt : isSubtype (.type ((Manifest.find? T').elim "type" fun y => y.metatype)) (.type "tuple") = pure false) (hsub : isSubtype (.type X') (.type T') = pure true)
    (hev : ∀ h', Sl (inF (env :: frs)) s.heap h' → Ev (model prog w) (A.mark (some (.ref e))) { s' with heap := h' } (eval t env) (fun _ v => v = .type T'))
    (k : ∀ s'', Sl (inF (env :: frs)) s.heap s''.heap → s''.gens = s'.gens → s''.drawn = s'.drawn → s''.os = s'.os → wpAny (model prog w) (A.mark (some (.ref e))) (execs (b₀ :: suite) env) Q (fun _ _ => False) s'') :
    wpAny (model prog w) A (noteFrame (.ref e) env) (fun _ s₂ => wpAny (model prog w) A (setFlight (.ref e) none) (fun _ s₃ =>
      wpAny (model prog w) A (handleBy (.ref e) env (.ExceptHandler (some t) none (b₀ :: suite) pos :: rest)) Q (fun _ _ => False) s₃) (fun _ _ => False) s₂) (fun _ _ => False) s' := by
  have up : ∀ b o, s.heap.get? b = some o → s'.heap.get? b = some o := hx.keeps
  have sl0 : Sl (inF (env :: frs)) s.heap s'.heap := fun b o e => ⟨fun _ => up b o e, fun _ => ⟨o.slots, up b o e⟩⟩
  let base := hideAll s.heap ((env :: frs).filterMap (·.frame))
  have hb0 : ∀ b, inF (env :: frs) b → base.get? b = none := fun b hb => hideAll_none _ hb
  have hstay : base.StaysIn s'.heap := fun b o e => up b o (of_hideAll _ e)
  have hfresh : ∀ b, s.heap.get? b = none → base.get? b = none := fun b hb => by
    cases q : base.get? b with
    | none => rfl
    | some o => rw [of_hideAll _ q] at hb; cases hb
  have hff := ff_fun (hF.sl sl0) hb0
  obtain ⟨ob, a0, he, hc, hd⟩ := hx.there
  have slOf : ∀ h', base.StaysIn h' → s'.heap.UpToSlots h' → Sl (inF (env :: frs)) s.heap h' := fun h' k1 k2 b o e =>
    ⟨fun f => k1 b o (hideAll_get _ e f), fun q => k2 b o (up b o e) q⟩
  unfold noteFrame
  simp only [hf]
  refine wpAny_bind (wpAny_field he hd (x := .none) rfl ?_)
  rw [if_neg (by decide)]
  refine wpAny_newEntryW hfr hff hf he hstay (hfresh e hx.new) hd (by simp) (a0 := a0) rfl fun h₁ hl => ?_
  obtain ⟨k1, k2, k3, k4⟩ := hl
  have sl1 := slOf h₁ k1 k4
  refine wpAny_handleBy_builtin (X := X') (T := T') (b := true) hexc hnt hsub (Ev.use (hev h₁ sl1) fun v s₁ o₁ hv => ?_)
  have hst1 : base.StaysIn s₁.heap := fun b o e => o₁.grow b o (k1 b o e)
  have tr : s₁.heap.TracedW base e ob.cls a0 := by
    obtain ⟨oe, vs, T, oT, ts, q1, q2, q3, q4, q5, q6, q7, q8, q9⟩ := k3
    exact ⟨oe, vs, T, oT, ts, o₁.grow _ _ q1, q2, q3, q4, q5, q6, o₁.grow _ _ q7, q8, q9⟩
  refine ⟨hv, ?_, ?_⟩
  · obtain ⟨ob', e', c'⟩ := tr.at.there
    exact ⟨ob', e', c'.trans hc⟩
  · rw [if_pos rfl]
    have ff1 : s₁.heap.FunFrames base (env :: frs) := k2.of_keeps fun b o e _ => ⟨o, o₁.grow b o e, rfl⟩
    refine wpAny_setFlight_noneW hst1 ff1 tr.at fun h₂ j1 j2 j3 j4 => ?_
    refine wpAny_mono (k { s₁ with heap := h₂ } (slOf h₂ j1 ?_) o₁.gens o₁.drawn o₁.os) (fun _ _ q => q) fun _ _ f => f.elim
    intro b o e q
    obtain ⟨sl, e'⟩ := k4 b o e q
    exact ⟨sl, j4 b _ (o₁.grow _ _ e') fun vs => q vs⟩
end
end Mine
end

section
open PySem PySem.W PySem.Calls PyProof.Rows PySem.Spec
namespace Mine

theorem first_at (k : Int) : ∀ ns : List Int, ns.contains k = true → ∃ j, ∃ hj : j < ns.length, ns[j] = k ∧ (∀ i (hi : i < ns.length), i < j → ns[i] ≠ k) ∧ ns.erase k = ns.eraseIdx j
  | [], h => by simp at h
  | n :: r, h => by
    by_cases e : n = k
    · subst e
      exact ⟨0, by simp, rfl, fun i _ q => absurd q (Nat.not_lt_zero _), by simp⟩
    · have h' : r.contains k = true := by
        have hne : ¬ k = n := fun q => e q.symm
        simpa [List.contains_cons, hne] using h
      obtain ⟨j, hj, a, b, c⟩ := first_at k r h'
      refine ⟨j + 1, by simpa using hj, by simpa using a, fun i hi q => ?_, ?_⟩
      · cases i with
        | zero => exact e
        | succ i => exact b i (by simpa using hi) (by omega)
      · rw [List.erase_cons, if_neg (by simpa using e), List.eraseIdx_cons_succ, c]

section
variable {D : List DefRec} {prog : Program} {w : World} {mg mb : Str → Option Value} {A : Around} {env : Env} {ρ ρ' ρ₁ ρ₂ : Loc} {X T : Addr → Prop} {g : Shared} {g₀ : Heap} {M M' M₁ M₂ : Mut} {frs : List Env}

theorem BF.ff {T : Addr → Prop} {s s' : Shared} (x : BF (inF frs) T s s') (h : ∀ b, inF frs b → ¬ T b) (f : FF frs s.heap) : FF frs s'.heap := fun e he => by
  obtain ⟨a, L, m, b, o, es, ep, e1, d, r⟩ := f e he
  obtain ⟨sl, e'⟩ := (x.keep L o (h L (List.mem_filterMap.mpr ⟨e, he, b⟩)) e1).2 fun vs q => by rw [d] at q; cases q
  exact ⟨a, L, m, b, _, es, ep, e', d, r⟩

/-- what ties a frame to the stack below it -/
structure Below (env : Env) (frs : List Env) (X T : Addr → Prop) (g₀ : Heap) : Prop where
  ft : ∀ b, inF frs b → ¬ T b
  fX : ∀ b, inF frs b → X b
  f0 : ∀ b, inF frs b → g₀.get? b = none
  fr : env.frame = some env.locals
  tl : T env.locals
  some : ∃ y, env.kindOf y = some .local

section
variable (D : List DefRec) (prog : Program) (w : World) (mg mb : Str → Option Value) (A : Around) (env : Env) (frs : List Env) (X T : Addr → Prop) (g₀ : Heap)
def UST (st : Stmt) (ρ : Loc) (M : Mut) (ρ' : Loc) (M' : Mut) : Prop :=
  ∀ s, FF frs s.heap → Bd D mg mb X T env s g₀ ρ M s → wpAny (model prog w) A (exec st env) (fun f s' => f = .next ∧ BF (inF frs) T s s' ∧ Bd D mg mb X T env s' g₀ ρ' M' s') (fun _ _ => False) s
def USTs (sts : List Stmt) (ρ : Loc) (M : Mut) (ρ' : Loc) (M' : Mut) : Prop :=
  ∀ s, FF frs s.heap → Bd D mg mb X T env s g₀ ρ M s → wpAny (model prog w) A (execs sts env) (fun f s' => f = .next ∧ BF (inF frs) T s s' ∧ Bd D mg mb X T env s' g₀ ρ' M' s') (fun _ _ => False) s
def UWH (test : Expr) (body : List Stmt) (ρ : Loc) (M : Mut) (ρ' : Loc) (M' : Mut) : Prop :=
  ∀ s, FF frs s.heap → Bd D mg mb X T env s g₀ ρ M s → codeAny (model prog w) A (.whileLoop test body [] env) (fun r s' => r = .ok .next ∧ BF (inF frs) T s s' ∧ Bd D mg mb X T env s' g₀ ρ' M' s') s
end

theorem ust_of {st : Stmt} (h : ∀ g, ST D prog w mg mb A env X T g g₀ st ρ M ρ' M') : UST D prog w mg mb A env frs X T g₀ st ρ M ρ' M' := fun s _ B =>
  wpAny_mono (h s s B) (fun f s' q => ⟨q.1, q.2.1.bf, q.2.2.here⟩) fun _ _ f => f
theorem usts_nil : USTs D prog w mg mb A env frs X T g₀ [] ρ M ρ M := fun s _ B => wpAny_execs_nil ⟨rfl, BF.refl _ _ _, B⟩
theorem usts_cons {st : Stmt} {sts : List Stmt} (W : Below env frs X T g₀) (h : UST D prog w mg mb A env frs X T g₀ st ρ M ρ₁ M₁) (hs : USTs D prog w mg mb A env frs X T g₀ sts ρ₁ M₁ ρ₂ M₂) : USTs D prog w mg mb A env frs X T g₀ (st :: sts) ρ M ρ₂ M₂ := fun s F B =>
  wpAny_execs_cons (wpAny_mono (h s F B) (fun f s₁ q => by
    obtain ⟨rfl, b, B₁⟩ := q
    exact wpAny_mono (hs s₁ (b.ff W.ft F) B₁) (fun f s₂ q => ⟨q.1, b.trans q.2.1, q.2.2⟩) fun _ _ f => f) fun _ _ f => f)
theorem usts_out {st : List Stmt} (h : USTs D prog w mg mb A env frs X T g₀ st ρ M ρ' M') (h1 : ∀ n pv, ρ₁.lookup n = some pv → ρ'.lookup n = some pv) (hM : ∀ p ∈ M₁, p ∈ M') : USTs D prog w mg mb A env frs X T g₀ st ρ M ρ₁ M₁ := fun s F B =>
  wpAny_mono (h s F B) (fun f s' q => ⟨q.1, q.2.1, q.2.2.sub h1 hM⟩) fun _ _ f => f
theorem usts_sub {st : List Stmt} (h : USTs D prog w mg mb A env frs X T g₀ st ρ' M' ρ₁ M₁) (h1 : ∀ n pv, ρ'.lookup n = some pv → ρ.lookup n = some pv) (hM : ∀ p ∈ M', p ∈ M) : USTs D prog w mg mb A env frs X T g₀ st ρ M ρ₁ M₁ := fun s F B => h s F (B.sub h1 hM)
theorem uwh_false {test : Expr} {body : List Stmt} (ht : ∀ s, Bd D mg mb X T env s g₀ ρ M s → Ev (model prog w) A s (PySem.isTrue test env (eval test env)) (fun _ v => v = false)) : UWH D prog w mg mb A env frs X T g₀ test body ρ M ρ M := fun s _ B =>
  while_turn (Ev.use (ht s B) fun b s₁ o e => by subst e; rw [if_neg (by decide)]; exact ⟨rfl, o.but.bf, (B.up o).here⟩)
theorem uwh_true {test : Expr} {body : List Stmt} (W : Below env frs X T g₀) (ht : ∀ s, Bd D mg mb X T env s g₀ ρ M s → Ev (model prog w) A s (PySem.isTrue test env (eval test env)) (fun _ v => v = true))
    (hb : USTs D prog w mg mb A env frs X T g₀ body ρ M ρ₁ M₁) (hr : UWH D prog w mg mb A env frs X T g₀ test body ρ₁ M₁ ρ₂ M₂) : UWH D prog w mg mb A env frs X T g₀ test body ρ M ρ₂ M₂ := fun s F B =>
  while_turn (Ev.use (ht s B) fun b s₁ o e => by
    subst e; rw [if_pos rfl]
    have bo : BF (inF frs) T s s₁ := o.but.bf
    refine wpAny_mono (hb s₁ (bo.ff W.ft F) (B.up o).here) (fun f s₂ q => ?_) fun _ _ f => f
    obtain ⟨rfl, b2, B₂⟩ := q
    exact ⟨rfl, codeAny_mono (hr s₂ ((bo.trans b2).ff W.ft F) B₂) fun r s₃ q => ⟨q.1, bo.trans (b2.trans q.2.1), q.2.2⟩⟩)
theorem ust_while {test : Expr} {body : List Stmt} {p : Pos} (h : UWH D prog w mg mb A env frs X T g₀ test body ρ M ρ' M') : UST D prog w mg mb A env frs X T g₀ (.While test body [] p) ρ M ρ' M' := fun s F B =>
  wpAny_While (codeAny_mono (h s F B) fun r s' q => by
    obtain ⟨rfl, q⟩ := q
    exact ⟨rfl, q⟩)

/-- try: l.remove(x), except ValueError -/
theorem ust_try_remove {l x : Str} {pl px apos pos pe p hp np : Pos} {a : Addr} {ns : List Int} {k : Int} {b₀ : Stmt} {suite : List Stmt} (fx : Fx D mg mb env T X g₀) (W : Below env frs X T g₀) (hfr : A.frames = some (env :: frs)) (hh : A.handled = none)
    (hl : ρ.lookup l = some (.ref a)) (hx : ρ.lookup x = some (.int k)) (hm : (a, ns) ∈ M) (hsz : ns.length ≤ sizeLine) (hi : interactive env = false) (hv : env.kindOf "ValueError" = some .globalImplicit)
    (hsuite : ∀ e g, STs D prog w mg mb (A.mark (some (.ref e))) env X T g g₀ (b₀ :: suite) ρ M ρ M₂)
    (h1 : attributeBase (.Name l pl) "remove" env (eval (.Name l pl) env) = eval (.Name l pl) env := by rfl) (h2 : (apos.endLine == pos.line) = true := by rfl) (h3 : backTo pos (starEach [(.Name x px)] env) = [(false, eval (.Name x px) env)] := by rfl) (hd : (l == ("__debug__" : Str)) = false := by decide) (hd' : (x == ("__debug__" : Str)) = false := by decide) :
    UST D prog w mg mb A env frs X T g₀ (.Try [.Expr (.Call (.Attribute (.Name l pl) "remove" apos) [.Name x px] [] pos) pe] [.ExceptHandler (some (.Name "ValueError" np)) none (b₀ :: suite) hp] [] [] p) ρ M ρ (if ns.contains k then updM a (ns.erase k) M else M₂) := fun s F B => by
  refine wpAny_Try_except (wpAny_execs_cons (wpAny_Expr_any (wpAny_Call_method1_late h1 h2 h3 (Ev.use (ev_name (D := D) (mg := mg) (mb := mb) hl hd X s B.st) fun v s₁ o₁ r₁ => ?_)) hi rfl))
  cases r₁
  have B₁ := B.up o₁
  obtain ⟨ta, us, ⟨m, pa⟩, _⟩ := B₁.muts _ hm
  refine ⟨"list", "list.remove", PySem.F.plainAttrs_list, PySem.F.slot_list_remove, by kernel_rfl, ⟨_, pa, rfl⟩, fun b e => by cases e; exact ⟨_, pa, rfl⟩, ?_⟩
  refine callWith_builtin (by rfl) (evalArgs_plain (spliced_cons (Ev.use (ev_name (D := D) (mg := mg) (mb := mb) hx hd' X s₁ B₁.st) fun u s₂ o₂ r₂ => spliced_nil ?_)))
  have B₂ := B₁.up o₂
  obtain ⟨_, vs, ⟨m, pa⟩, iv⟩ := B₂.muts _ hm
  cases r₂ with
  | int i t =>
    have heq : ∀ y, y ∈ vs.toArray → MeetsSeq.EqGives y (.int k t) (isInt k y) := fun y hy => kf_eq (ints_kf iv) y (by simpa using hy)
    by_cases hc : ns.contains k = true
    · rw [if_pos hc]
      obtain ⟨j, hj, e1, e2, e3⟩ := first_at k ns hc
      have hjv : j < vs.toArray.size := by simpa [iv.length] using hj
      refine call_meets PySem.F.slot_list_remove ⟨_, pa, rfl⟩ PySem.F.entry_list_remove (PySem.F.args_list_remove_2 _ _)
        (MeetsSeq.list_remove a vs.toArray m (.int k t) (isInt k) heq j hjv ?_ (fun i hi hlt => ?_) (by simpa [iv.length] using hsz)) ⟨pa, ?_⟩
      · obtain ⟨_, e⟩ := ints_isInt iv k j (by simpa using hjv)
        simpa [e1] using e
      · obtain ⟨hi', e⟩ := ints_isInt iv k i (by simpa using hi)
        have hne := e2 i hi' hlt
        have e' : isInt k vs.toArray[i] = (ns[i] == k) := by simpa using e
        rw [e']; simpa using hne
      · have e : (vs.toArray.eraseIdxIfInBounds j) = (vs.eraseIdx j).toArray := by
          apply Array.toList_inj.mp
          simp [Array.toList_eraseIdxIfInBounds]
        have hL := PySem.IsL.update pa (fun xs => xs.eraseIdxIfInBounds j)
        obtain ⟨b, B₃⟩ := B₂.change fx hm (Heap.SameBut.update ..) (vs := vs.eraseIdx j) ⟨_, e ▸ hL⟩ (e3 ▸ ints_eraseIdx iv j)
        refine wpAny_execs_nil ?_
        refine wpAny_execs_nil ?_
        exact ⟨rfl, ((o₁.trans o₂).but.trans b).bf, B₃.here⟩
    · rw [if_neg hc]
      refine call_meets PySem.F.slot_list_remove ⟨_, pa, rfl⟩ PySem.F.entry_list_remove (PySem.F.args_list_remove_2 _ _)
        (MeetsSeq.list_remove_none a vs.toArray m (.int k t) (isInt k) heq (fun i hi => ?_)) ⟨pa, hh, fun h' tk e hx => ?_⟩
      · obtain ⟨hi', e⟩ := ints_isInt iv k i (by simpa using hi)
        have hne : ¬ ns[i] = k := fun q => hc (by rw [List.contains_iff_mem]; exact q ▸ List.getElem_mem hi')
        have e' : isInt k vs.toArray[i] = (ns[i] == k) := by simpa using e
        rw [e']; simpa using hne
      · have oo := o₁.trans o₂
        have bo : BF (inF frs) T s s₂ := oo.but.bf
        have F₂ := bo.ff W.ft F
        have hNs : ∃ m, s₂.heap.Ns env.locals m := by
          obtain ⟨y, hy⟩ := W.some
          cases B₂.slots y (.inl hy) with
          | loc m _ n _ => exact ⟨m, n⟩
          | cell c v k' => rw [hy] at k'; cases k'
        have FF₂ : FF (env :: frs) s₂.heap := fun e' he' => by
          rcases List.mem_cons.mp he' with rfl | he'
          · obtain ⟨m, n⟩ := hNs
            exact ⟨by have := fx.fe.kind; rw [this]; decide, _, m, W.fr, n⟩
          · exact F₂ e' he'
        have hin : ∀ b, inF (env :: frs) b → inF frs b ∨ b = env.locals := fun b hb => by
          obtain ⟨e', he', hf'⟩ := List.mem_filterMap.mp hb
          rcases List.mem_cons.mp he' with rfl | he'
          · rw [W.fr] at hf'; cases hf'; exact .inr rfl
          · exact .inl (List.mem_filterMap.mpr ⟨e', he', hf'⟩)
        have slot : ∀ s₃ : Shared, Sl (inF (env :: frs)) s₂.heap s₃.heap → Bd D mg mb X T env s₃ g₀ ρ M s₃ := fun s₃ k => B₂.slot fx k (fun b hb => (hin b hb).elim (W.fX b) fun e => e ▸ fx.tx _ W.tl) (fun b hb => (hin b hb).elim (W.f0 b) fun e => e ▸ fx.new _ W.tl) FF₂.fo
        refine caught_here hfr W.fr FF₂ hx PySem.F.isExc_ValueError PySem.F.notTuple_ValueError (T' := "ValueError") (by rw [isSubtype_type]; kernel_rfl) (fun h₁ k => ?_) fun s₃ k e1 e2 e3 => ?_
        · have B₃ := slot { s₂ with heap := h₁, toks := tk } k
          refine Ev.use ((ev_type (D := D) (mg := mg) (mb := mb) (ρ := ρ) (T := "ValueError") hv (by decide) PyProof.Rows.Boot.«ValueError») X _ B₃.st) fun v s₄ o₄ r₄ => ⟨o₄, by cases r₄; rfl⟩
        · have B₃ := slot s₃ k
          refine wpAny_mono (hsuite e s₃ s₃ B₃) (fun f s₄ q => ?_) fun _ _ f => f
          obtain ⟨rfl, b4, B₄⟩ := q
          have b3 : BF (inF frs) T s₂ s₃ := ⟨fun b o n eb => ⟨fun f => (k b o eb).1 fun q => (hin b q).elim f fun q => n (q ▸ W.tl), (k b o eb).2⟩, e1, e2, e3⟩
          exact ⟨rfl, bo.trans (b3.trans b4.bf), B₄.here⟩
end
end Mine
end

section
open PySem PySem.W PySem.Calls PyProof.Rows PySem.Spec
namespace Mine

section
variable {D : List DefRec} {prog : Program} {w : World} {mg mb : Str → Option Value} {A : Around} {env : Env} {ρ ρ' ρ₁ ρ₂ : Loc} {X T : Addr → Prop} {g : Shared} {g₀ : Heap} {M M' M₁ M₂ : Mut} {frs : List Env}

/-- the expression makes a new list of ints -/
def EVN (D : List DefRec) (prog : Program) (w : World) (mg mb : Str → Option Value) (A : Around) (env : Env) (ρ : Loc) (e : Expr) (ns : List Int) : Prop :=
  ∀ X s, St D mg mb X env s.heap ρ → wpAny (model prog w) A (eval e env) (fun v s' => Ok s s' ∧ ∃ a vs, v = .ref a ∧ s.heap.get? a = none ∧ s'.heap.PlainList a vs.toArray ∧ IntsAre vs ns) (fun _ _ => False) s
theorem evn_nil {lp : Pos} : EVN D prog w mg mb A env ρ (.List [] lp) [] := fun X s S =>
  wpAny_List_spliced (args_nil ⟨by decide, Ok.mk' (tk := s.toks) (Grow.push _ _), s.heap.objs.size, [], rfl, new_of_size (Nat.le_refl _), ⟨0, Heap.get?_push_size _ rfl⟩, .nil⟩)

/-- a list that stood not before is taken among those that change -/
theorem Bd.add {s : Shared} {a : Addr} {vs : List Value} {ns : List Int} (B : Bd D mg mb X T env g g₀ ρ M s) (fx : Fx D mg mb env T X g₀) {s₀ : Shared} (B₀ : Bd D mg mb X T env g g₀ ρ M s₀) (o : Ok s₀ s) (hn : s₀.heap.get? a = none) (hp : s.heap.PlainList a vs.toArray) (hi : IntsAre vs ns) :
    Fx D mg mb env (fun b => T b ∨ b = a) (fun b => X b ∨ b = a) g₀ ∧ Bd D mg mb (fun b => X b ∨ b = a) (fun b => T b ∨ b = a) env g g₀ ρ ((a, ns) :: M) s := by
  have h0 : g₀.get? a = none := by
    cases q : g₀.get? a with
    | none => rfl
    | some ob => rw [B₀.gr a ob q] at hn; cases hn
  refine ⟨⟨fx.fe, fun b t => t.elim (fun t => .inl (fx.tx b t)) .inr, fx.base, fun b t => t.elim (fx.new b) fun e => e ▸ h0, fx.inj, fx.nofree⟩, ?_⟩
  have al : ∃ ob, s.heap.get? a = some ob := let ⟨n, e⟩ := hp; ⟨_, e⟩
  refine ⟨⟨B.st.base, fx.fe, fun b q => q.elim (B.st.live b) fun e => e ▸ al, fun n pv hn' => ((B₀.st.has n pv hn').re fun b q => q.elim .inl fun e => .inr (e ▸ hn)).up o.grow⟩, B.but.more fun b t => .inl t, B.gr, fun y hy => ?_, fun b t => t.elim (B.live b) fun e => e ▸ al, ?_⟩
  · cases B.slots y hy with
    | loc m k n t => exact .loc m k n (.inl t)
    | cell c v k l i t => exact .cell c v k l i (.inl t)
  · intro p hp'
    rcases List.mem_cons.mp hp' with rfl | hp'
    · exact ⟨.inr rfl, vs, hp, hi⟩
    · obtain ⟨t, r⟩ := B.muts p hp'
      exact ⟨.inl t, r⟩

/-- x = e, e a new list that will change -/
theorem newmut {x : Str} {px p : Pos} {e : Expr} {ns : List Int} {sts : List Stmt} {Q : Flow → Shared → Prop} {E : Value → Shared → Prop} (fx : Fx D mg mb env T X g₀) (hx : env.kindOf x = some .local ∨ env.kindOf x = some .cell) (he : EVN D prog w mg mb A env ρ e ns) (hsw : swapsWith e (some (.Name x px)) p.line env = pure false)
    {s : Shared} (B : Bd D mg mb X T env g g₀ ρ M s)
    (h : ∀ (a : Addr) (s' : Shared), s.heap.get? a = none → ¬ X a → (∀ p ∈ M, p.1 ≠ a) → Fx D mg mb env (fun b => T b ∨ b = a) (fun b => X b ∨ b = a) g₀ → But (fun b => T b ∨ b = a) s s' → Bd D mg mb (fun b => X b ∨ b = a) (fun b => T b ∨ b = a) env g g₀ ((x, .ref a) :: ρ) ((a, ns) :: M) s' → wpAny (model prog w) A (execs sts env) Q E s') :
    wpAny (model prog w) A (execs (.Assign [.Name x px] e p :: sts) env) Q E s := by
  refine wpAny_execs_cons (wpAny_Assign_Name (wpAny_mono (he X s B.st) (fun v s₁ q => ?_) fun _ _ f => f.elim) hsw)
  obtain ⟨o, a, vs, rfl, hn, hp, hi⟩ := q
  obtain ⟨fx', B'⟩ := (B.up o).add fx B o hn hp hi
  have hXa : ¬ X a := fun t => by obtain ⟨ob, e⟩ := B.st.live a t; rw [hn] at e; cases e
  have hMa : ∀ p ∈ M, p.1 ≠ a := fun p hp' e => by
    obtain ⟨t, _⟩ := B.muts p hp'
    exact hXa (e ▸ fx.tx _ t)
  exact bd_store fx' B' hx (.ref a) fun s₂ b B₃ => h a s₂ hn hXa hMa fx' (o.but.trans b) B₃

theorem tr_mut {x : Str} {px : Pos} {a : Addr} {ns : List Int} (hx : ρ.lookup x = some (.ref a)) (hm : (a, ns) ∈ M) (hz : ns.length < 2 ^ 63) {s : Shared} (B : Bd D mg mb X T env g g₀ ρ M s) (hd : (x == ("__debug__" : Str)) = false := by decide) :
    Ev (model prog w) A s (PySem.isTrue (.Name x px) env (eval (.Name x px) env)) (fun _ v => v = !ns.isEmpty) :=
  wpAny_isTrue_value (Ev.use (ev_name (D := D) (mg := mg) (mb := mb) hx hd X s B.st) fun v s₁ o r => by
    cases r
    obtain ⟨_, vs, pv, iv⟩ := (B.up o).muts _ hm
    refine wpAny_truthy_list pv.isList (by have hl : vs.length = ns.length := iv.length; simp only [List.size_toArray]; omega) ⟨o.trans (Ok.mk' (Grow.refl _)), ?_⟩
    have e1 : vs.toArray.isEmpty = vs.isEmpty := by simp
    rw [e1]
    cases iv <;> rfl)
end

/-- what unorderable_list_difference does: the first list from its end on -/
def uldGo : List Int → List Int → List Int → List Int × List Int
  | [], ys, ms => (ms, ys)
  | x :: r, ys, ms => if ys.contains x then uldGo r (ys.erase x) ms else uldGo r ys (ms ++ [x])
abbrev uld (xs ys : List Int) : List Int × List Int := uldGo xs.reverse ys []

section
variable {w : World} {mg mb : Str → Option Value} {A : Around} {env : Env} {X T : Addr → Prop} {g : Shared} {g₀ : Heap} {frs : List Env}
def uldBody : List Stmt := match (dAt 2).body with | [_, .While _ b _ _, _] => b | _ => []
abbrev uldM (am ae aa : Addr) (ms xs ys : List Int) : Mut := [(am, ms), (ae, xs), (aa, ys)]
abbrev uldρ (am ae aa : Addr) : Loc := [("missing", .ref am), ("expected", .ref ae), ("actual", .ref aa)]
theorem uld_loop {tp : Pos} {am ae aa : Addr} (h1 : am ≠ ae) (h2 : am ≠ aa) (h3 : ae ≠ aa) (fx : Fx DD mg mb env T X g₀) (W : Below env frs X T g₀) (hfr : A.frames = some (env :: frs)) (hh : A.handled = none) (hsc : env.scope = (dAt 2).scope) :
    ∀ (rs ys ms : List Int), rs.length ≤ 1000 → ys.length ≤ 1000 → ms.length + rs.length ≤ 1000 →
      UWH DD PG w mg mb A env frs X T g₀ (.Name "expected" tp) uldBody (uldρ am ae aa) (uldM am ae aa ms rs.reverse ys) (uldρ am ae aa) (uldM am ae aa (uldGo rs ys ms).1 [] (uldGo rs ys ms).2)
  | [], ys, ms, _, _, _ => uwh_false fun s B => tr_mut (ns := []) (M := uldM am ae aa ms [] ys) rfl (by simp [uldM]) (by simp) B
  | x :: r, ys, ms, l1, l2, l3 => by
    have hk : ∀ n, env.kindOf n = (dAt 2).scope.names.lookup n := fun n => by unfold Env.kindOf; rw [hsc]
    have hint : interactive env = false := by unfold interactive; rw [hsc]; rfl
    have u1 : updM ae r.reverse (uldM am ae aa ms (r.reverse ++ [x]) ys) = uldM am ae aa ms r.reverse ys := by simp [updM, uldM, h1, h3.symm]
    have u2 : ∀ zs, updM aa zs (uldM am ae aa ms r.reverse ys) = uldM am ae aa ms r.reverse zs := fun zs => by simp [updM, uldM, h2, h3]
    have u3 : ∀ zs, updM am zs (uldM am ae aa ms r.reverse ys) = uldM am ae aa zs r.reverse ys := fun zs => by simp [updM, uldM, h1.symm, h2.symm]
    simp only [List.length_cons] at l1 l3
    have er : (x :: r).reverse = r.reverse ++ [x] := by simp
    rw [er]
    have body : USTs DD PG w mg mb A env frs X T g₀ uldBody (uldρ am ae aa) (uldM am ae aa ms (r.reverse ++ [x]) ys) (("item", .int x) :: uldρ am ae aa)
        (if ys.contains x then uldM am ae aa ms r.reverse (ys.erase x) else uldM am ae aa (ms ++ [x]) r.reverse ys) := by
      refine usts_cons W (ust_of fun g => st_pop (n := x) (ns := r.reverse) fx (.inl ((hk _).trans rfl)) rfl (by simp [uldM]) (by rw [sizeLine_eq]; simp; omega)) ?_
      rw [u1]
      refine usts_cons W (ust_try_remove (k := x) (ns := ys) (M₂ := uldM am ae aa (ms ++ [x]) r.reverse ys) fx W hfr hh rfl rfl (by simp [uldM]) (by rw [sizeLine_eq]; omega) hint ((hk _).trans rfl) (fun e g => ?_)) ?_
      · refine sts_cons (M₁ := updM am (ms ++ [x]) (uldM am ae aa ms r.reverse ys)) ?_ (by rw [u3]; exact sts_nil)
        exact st_append (a := am) (ns := ms) (M := uldM am ae aa ms r.reverse ys) fx rfl (List.Mem.head _) (ev_name rfl) (by rw [sizeLine_eq]; omega) hint
      · rw [u2]
        exact usts_nil
    have go : uldGo (x :: r) ys ms = if ys.contains x then uldGo r (ys.erase x) ms else uldGo r ys (ms ++ [x]) := rfl
    rw [go]
    have tr : ∀ s, Bd DD mg mb X T env s g₀ (uldρ am ae aa) (uldM am ae aa ms (r.reverse ++ [x]) ys) s → Ev (model PG w) A s (PySem.isTrue (.Name "expected" tp) env (eval (.Name "expected" tp) env)) (fun _ v => v = true) := fun s B => by
      refine Ev.use (tr_mut (ns := r.reverse ++ [x]) rfl (by simp [uldM]) (by simp; omega) B) fun v s' o e => ⟨o, by rw [e]; simp⟩
    have lk : ∀ n pv, (uldρ am ae aa).lookup n = some pv → ((("item", .int x) :: uldρ am ae aa) : Loc).lookup n = some pv := lk_sub (by
      repeat' (refine List.forall_mem_cons.mpr ⟨rfl, ?_⟩)
      exact List.forall_mem_nil _)
    by_cases hc : ys.contains x = true
    · rw [if_pos hc]
      rw [if_pos hc] at body
      refine uwh_true W tr (usts_out body lk fun _ h => h) (uld_loop h1 h2 h3 fx W hfr hh hsc r (ys.erase x) ms (by omega) ?_ (by omega))
      have := List.length_erase_le (a := x) (l := ys); omega
    · rw [if_neg hc]
      rw [if_neg hc] at body
      exact uwh_true W tr (usts_out body lk fun _ h => h) (uld_loop h1 h2 h3 fx W hfr hh hsc r ys (ms ++ [x]) (by omega) l2 (by simp; omega))
end
end Mine
end

section
open PySem PySem.W PySem.Calls PyProof.Rows PySem.Spec
namespace Mine
section
variable {w : World} {mg mb : Str → Option Value} {A : Around} {env : Env} {X T : Addr → Prop} {g : Shared} {g₀ : Heap} {frs : List Env}

/-- a list of ints -/
def IL (h : Heap) (a : Addr) (ns : List Int) : Prop := ∃ vs : List Value, h.PlainList a vs.toArray ∧ IntsAre vs ns

theorem f_uld {s : Shared} {xs ys : List Int} {ae aa f : Addr} {n : Nat} (hA : Rm (n + 1) A) (hfr : A.frames = some frs) (ha : mg "unorderable_list_difference" = some (.ref f)) (hB : Base DD mg mb g₀) (hgr : Grow g₀ s.heap)
    (hF : FF frs s.heap) (hF0 : ∀ b, inF frs b → g₀.get? b = none) (he0 : g₀.get? ae = none) (ha0 : g₀.get? aa = none) (hne : ae ≠ aa) (hxs : IL s.heap ae xs) (hys : IL s.heap aa ys) (lx : xs.length ≤ 1000) (ly : ys.length ≤ 1000) :
    wpAny (model PG w) A (call (.ref f) [.ref ae, .ref aa] []) (fun v s' => BF (inF frs) (fun b => b = ae ∨ b = aa) s s' ∧ ∃ t am, v = .ref t ∧ s.heap.get? t = none ∧ s.heap.get? am = none ∧ IsTup s'.heap t #[.ref am, .ref aa] ∧
      IL s'.heap am (uld xs ys).1 ∧ IL s'.heap aa (uld xs ys).2 ∧ IL s'.heap ae []) (fun _ _ => False) s := by
  obtain ⟨a', o, pm, code, doc, h1, h2, h3, h4⟩ := hB.fn (dAt 2) (mem_dd (by decide))
  have e1 : mg (dAt 2).name = mg "unorderable_list_difference" := rfl
  rw [e1, ha] at h1; cases h1
  have alive_e : ∃ o, s.heap.get? ae = some o := let ⟨vs, ⟨n, e⟩, _⟩ := hxs; ⟨_, e⟩
  have alive_a : ∃ o, s.heap.get? aa = some o := let ⟨vs, ⟨n, e⟩, _⟩ := hys; ⟨_, e⟩
  refine wpAny_call (enter (D := DD) (prog := PG) (mg := mg) (mb := mb) (fd := docDef (dAt 2).name (dAt 2).params (dAt 2).body (dAt 2).scope pm code doc) (ps := ["expected", "actual"]) (pvs := [.ref ae, .ref aa]) (T₀ := fun b => b = ae ∨ b = aa) (M := [(ae, xs), (aa, ys)]) (g₀ := g₀) (X := fun b => ∃ o, s.heap.get? b = some o)
    (by have := hA.depth; omega) (hgr _ _ h2) h3 (h4.keeps hgr) rfl rfl rfl rfl rfl rfl (by decide) (show ∀ x ∈ ((["expected", "actual"] : List Str)), (dAt 2).scope.names.lookup x = some .local ∨ (dAt 2).scope.names.lookup x = some .cell by decide) (show ∀ x ∈ (dAt 2).scope.names, x.2 ≠ .free by decide) hB hgr (fun b t => t.elim (fun e => e ▸ he0) fun e => e ▸ ha0) (fun b t => t.elim (fun e => e ▸ alive_e) fun e => e ▸ alive_a)
    (fun b t => t.elim (fun e => e ▸ alive_e) fun e => e ▸ alive_a) (fun _ h => h) (.cons (.ref ae) (.cons (.ref aa) .nil)) (fun p hp => ?_) (fun env T X' s₁ hsc fx hT hT' hXX hX' B hE => ?_))
  · rcases List.mem_cons.mp hp with rfl | hp
    · exact ⟨.inl rfl, hxs⟩
    · rw [List.mem_singleton.mp hp]; exact ⟨.inr rfl, hys⟩
  have hk : ∀ n, env.kindOf n = (dAt 2).scope.names.lookup n := fun n => by unfold Env.kindOf; rw [hsc]; rfl
  have hA1 := hA.deep env
  have hTs : ∀ b o, s.heap.get? b = some o → T b → b = ae ∨ b = aa := fun b o e t => (hT b t).elim id fun q => by rw [e] at q; cases q
  refine wpAny_mono (Q := fun f s' => ∃ v, f = .ret v ∧ (BF (inF frs) (fun b => b = ae ∨ b = aa) s s' ∧ ∃ t am, v = .ref t ∧ s.heap.get? t = none ∧ s.heap.get? am = none ∧ IsTup s'.heap t #[.ref am, .ref aa] ∧
      IL s'.heap am (uld xs ys).1 ∧ IL s'.heap aa (uld xs ys).2 ∧ IL s'.heap ae [])) (E := fun _ _ => False) ?_ (fun f s' q => by obtain ⟨v, rfl, q⟩ := q; exact q) fun _ _ f => f.elim
  refine newmut fx (.inl ((hk _).trans rfl)) evn_nil rfl B fun am s₂ hn hXam hMam fx₂ b2 B₂ => ?_
  have ham : s.heap.get? am = none := by
    cases q : s.heap.get? am with
    | none => rfl
    | some ob => rw [B.but.keep am ob (fun t => hXam (fx.tx _ t)) q] at hn; cases hn
  have bb : BF (inF frs) (fun b => T b ∨ b = am) s s₂ := ((B.but.more fun b t => .inl t).trans b2).bf
  have hW : Below env frs (fun b => X' b ∨ b = am) (fun b => T b ∨ b = am) g₀ := by
    have al : ∀ b, inF frs b → ∃ m, s.heap.Ns b m := hF.fo
    refine ⟨fun b hb t => ?_, fun b hb => ?_, hF0, by rw [hE]; rfl, ?_, ⟨"missing", (hk _).trans rfl⟩⟩
    · obtain ⟨m, n⟩ := al b hb
      have ⟨o, _, _, e, _⟩ := n
      rcases t with t | rfl
      · rcases hTs b o e t with rfl | rfl
        · obtain ⟨vs, p, _⟩ := hxs; exact ns_ne_list n p rfl
        · obtain ⟨vs, p, _⟩ := hys; exact ns_ne_list n p rfl
      · rw [ham] at e; cases e
    · obtain ⟨m, o, _, _, e, _⟩ := al b hb
      exact .inl (hXX b ⟨o, e⟩)
    · cases B₂.slots "missing" (.inl ((hk _).trans rfl)) with
      | loc m k n t => exact t
      | cell c v k' => rw [hk] at k'; cases k'
  have hne1 : am ≠ ae := fun e => by obtain ⟨o, q⟩ := alive_e; rw [← e, ham] at q; cases q
  have hne2 : am ≠ aa := fun e => by obtain ⟨o, q⟩ := alive_a; rw [← e, ham] at q; cases q
  have lp := uld_loop (w := w) (A := A.deeper env) (tp := ⟨5, 10, 5, 18⟩) hne1 hne2 hne fx₂ hW (Around.frames_deeper hfr) hA1.handled hsc xs.reverse ys [] (by simpa using lx) ly (by simpa using lx)
  rw [List.reverse_reverse] at lp
  refine wpAny_execs_cons (wpAny_mono (ust_while lp s₂ (bb.ff hW.ft hF) B₂.here) (fun f s₃ q => ?_) fun _ _ f => f)
  obtain ⟨rfl, b3, B₃⟩ := q
  refine wpAny_execs_cons (wpAny_Return_some (Ev.use (ev_tup (D := DD) (prog := PG) (mg := mg) (mb := mb) (ρ := uldρ am ae aa) (xs := [.ref am, .ref aa]) (evs_cons (ev_name rfl) (evs_cons (ev_name rfl) evs_nil)) (by show 2 ≤ sizeLine; decide) _ s₃ B₃.st) fun v s₄ o₄ r₄ => ⟨v, rfl, ?_⟩))
  have B₄ := B₃.up o₄
  have bAll : BF (inF frs) (fun b => T b ∨ b = am) s s₄ := (bb.trans b3).trans o₄.but.bf
  refine ⟨⟨fun b o n e => bAll.keep b o (fun t => t.elim (fun t => n (hTs b o e t)) fun q => by rw [q, ham] at e; cases e) e, bAll.gens, bAll.drawn, bAll.os⟩, ?_⟩
  cases r₄ with
  | @tup t vs _ nt it rs =>
    obtain ⟨u, v, rfl, ru, rv⟩ := rs.two
    cases ru; cases rv
    refine ⟨t, am, rfl, ?_, ham, it, (B₄.muts (am, _) (.head _)).2, (B₄.muts (aa, _) (.tail _ (.tail _ (.head _)))).2, (B₄.muts (ae, _) (.tail _ (.head _))).2⟩
    cases q : s.heap.get? t with
    | none => rfl
    | some ob => exact absurd (.inl (hXX t ⟨ob, q⟩)) nt
end
end Mine
end

section
open PySem PySem.W PySem.Calls PyProof.Rows PySem.Spec
set_option maxRecDepth 100000
namespace Mine

theorem kind_fsum : builtinKind "math.fsum" = none := by decide +kernel
theorem plain_fsum : plainId "math.fsum" = true := by decide +kernel
theorem entry_fsum : entryFor table "math.fsum" = some Builtin.«math.fsum» := entryFor_of_fast (by kernel_rfl)
theorem plain_fsum_loop : plainId "math.fsum.loop" = true := by decide +kernel
theorem entry_fsum_loop : entryFor table "math.fsum.loop" = some Builtin.«math.fsum.loop» := entryFor_of_fast (by kernel_rfl)
theorem args_fsum (a : Value) : argsOk "math.fsum" ⟨[a], []⟩ := by unfold argsOk; kernel_rfl

/-- words of floats, in a tuple -/
def Bits (h : Heap) (a : Addr) (xs : List UInt64) : Prop := IsTup h a (xs.map fun x => rawInt x.toNat).toArray
theorem bits_up {h h' : Heap} {a : Addr} {xs : List UInt64} (x : Bits h a xs) (k : ∀ o, h.get? a = some o → h'.get? a = some o) : Bits h' a xs := let ⟨o, e, r⟩ := x; ⟨o, k o e, r⟩
theorem bits_back (xs : List UInt64) : (xs.map fun x => rawInt x.toNat).map (fun v : Value => match v with | .int i _ => i.toNat.toUInt64 | _ => 0) = xs := by
  rw [List.map_map]
  refine (List.map_congr_left (g := id) fun x _ => ?_).trans (List.map_id xs)
  show ((x.toNat : Int)).toNat.toUInt64 = x
  simp

section
variable {D : List DefRec} {prog : Program} {w : World} {mg mb : Str → Option Value} {A : Around} {E : Value → Shared → Prop}
theorem part_len {ps : List UInt64} {n : Int} (h : Part ps n) : ps.length ≤ 1 := by
  cases h <;> simp
theorem absSum_drop (ns : List Int) (i : Nat) (h : i < ns.length) : absSum (ns.drop i) = ns[i].natAbs + absSum (ns.drop (i + 1)) := by
  show ((ns.drop i).map Int.natAbs).sum = _
  rw [List.drop_eq_getElem_cons h, List.map_cons, List.sum_cons]; rfl

theorem fsum_loop {R : Result → Shared → Prop} {I : Addr} {fp : List Addr} {St : Nat → Heap → Prop} {ns : List Int} (hh : A.handled = none)
    (W : Walks prog w A.in1 I fp [I] ns.length (fun i v => ∃ t n, ns[i]? = some n ∧ v = .int n t) St) (hov : ∀ n ∈ ns, ¬ PySem.Flt.Over n) (hsm : ∀ n ∈ ns, n.natAbs < 2 ^ 50) (sp : Addr) (hsI : sp ≠ I) (stI : ∀ i g, St i g → ∃ o, g.get? I = some o) :
    ∀ (k i : Nat) (s : Shared) (p : Addr) (ps : List UInt64) (n : Int), ns.length - i = k → i ≤ ns.length → St i s.heap → p ≠ I → Bits s.heap p ps → Bits s.heap sp [Float64.zero false, Float64.zero false] → Part ps n → n.natAbs + 8 * absSum (ns.drop i) < 2 ^ 53 →
    (∀ s' t, But (· = I) s s' → R (.ok (.ret (.float (Float64.fsumEnd (((ns.drop i).map Float64.ofInt).foldl fsStep ps)) t))) s') → codeAny (model prog w) A (.builtin "math.fsum.loop" ⟨[.ref I, .ref p, .ref sp], []⟩) R s := by
  intro k
  induction k with
  | zero =>
    intro i s p ps n hk hi hst hpI hp hsp hpart hb hR
    have hin : i = ns.length := by omega
    subst hin
    refine codeAny_builtin entry_fsum_loop ?_
    rw [Around.under_plainId plain_fsum_loop _]
    show wpAny _ A.in1 (_ >>= _) _ _ s
    obtain ⟨o, ho, _, nn, hd⟩ := hp
    obtain ⟨o2, ho2, _, nn2, hd2⟩ := hsp
    refine wpAny_bind (wpAny_mono (Q := fun r s' => r = ps ∧ s' = s) (E := fun _ _ => False) ?_ (fun r s' q => ?_) fun _ _ f => f.elim)
    · show wpAny _ _ (seqItems? (.ref p) >>= fun r => pure _) _ _ s
      exact wpAny_bind (wpAny_seqItems ho hd (wpAny_pure ⟨bits_back ps, rfl⟩))
    obtain ⟨e1, e2⟩ := q
    subst e1; subst e2
    refine wpAny_bind (wpAny_mono (Q := fun r s'' => r = [Float64.zero false, Float64.zero false] ∧ s'' = s') (E := fun _ _ => False) ?_ (fun r s'' q => ?_) fun _ _ f => f.elim)
    · show wpAny _ _ (seqItems? (.ref sp) >>= fun r => pure _) _ _ s'
      exact wpAny_bind (wpAny_seqItems ho2 hd2 (wpAny_pure ⟨bits_back [Float64.zero false, Float64.zero false], rfl⟩))
    obtain ⟨e1, e2⟩ := q
    subst e1; subst e2
    show wpAny _ A.in1 (pyNext (.ref I) >>= _) _ _ s''
    refine wpAny_bind (W.done s'' _ _ hst fun h' tk hk' => ?_)
    have hz : (!Float64.isZero (Float64.zero false)) = false := by decide +kernel
    simp only [hz, Bool.false_eq_true, if_false]
    have e : ((ns.drop ns.length).map Float64.ofInt).foldl fsStep r = r := by simp
    rw [e] at hR
    refine wpAny_bind (PySem.Flt.wp_mkFloat (wpAny_pure (hR _ _ ?_)))
    exact ⟨fun b o n e => hk' b o (by simpa using n) e, rfl, rfl, rfl⟩
  | succ k ih =>
    intro i s p ps n hk hi hst hpI hp hsp hpart hb hR
    have hlt : i < ns.length := by omega
    refine codeAny_builtin entry_fsum_loop ?_
    rw [Around.under_plainId plain_fsum_loop _]
    show wpAny _ A.in1 (_ >>= _) _ _ s
    have hp₀ := hp
    have hsp₀ := hsp
    obtain ⟨o, ho, hcl, nn, hd⟩ := hp
    obtain ⟨o2, ho2, hcl2, nn2, hd2⟩ := hsp
    refine wpAny_bind (wpAny_mono (Q := fun r s' => r = ps ∧ s' = s) (E := fun _ _ => False) ?_ (fun r s' q => ?_) fun _ _ f => f.elim)
    · show wpAny _ _ (seqItems? (.ref p) >>= fun r => pure _) _ _ s
      exact wpAny_bind (wpAny_seqItems ho hd (wpAny_pure ⟨bits_back ps, rfl⟩))
    obtain ⟨e1, e2⟩ := q
    subst e1; subst e2
    refine wpAny_bind (wpAny_mono (Q := fun q s'' => q = [Float64.zero false, Float64.zero false] ∧ s'' = s') (E := fun _ _ => False) ?_ (fun q s'' qq => ?_) fun _ _ f => f.elim)
    · show wpAny _ _ (seqItems? (.ref sp) >>= fun r => pure _) _ _ s'
      exact wpAny_bind (wpAny_seqItems ho2 hd2 (wpAny_pure ⟨bits_back [Float64.zero false, Float64.zero false], rfl⟩))
    obtain ⟨e1, e2⟩ := qq
    subst e1; subst e2
    show wpAny _ A.in1 (pyNext (.ref I) >>= _) _ _ s''
    refine wpAny_bind (W.item i s'' _ _ hlt hst fun v h' tk hv hst' hk' => ?_)
    obtain ⟨t, m, hm, rfl⟩ := hv
    have hmem : m ∈ ns := List.mem_of_getElem? hm
    have hmi : ns[i] = m := by rw [List.getElem?_eq_getElem hlt] at hm; exact Option.some.inj hm
    have hx : Dy (Float64.ofInt m) (8 * m) := dy_int (hsm m hmem)
    rw [absSum_drop ns i hlt, hmi] at hb
    obtain ⟨hfin, hnext⟩ := fs_add hpart hx (by omega)
    refine wpAny_bind (wpAny_holding (PySem.Flt.realArg_int hh (fun c => absurd c (hov m hmem)) fun _ => ?_))
    simp only [hfin, if_true]
    have bt : But (· = I) s'' { s'' with heap := h', toks := tk + 1 } := ⟨fun b o n e => hk' b o (by simpa using n) e, rfl, rfl, rfl⟩
    refine wpAny_bind ?_
    show wpAny _ _ (newTuple _) _ _ _
    unfold newTuple
    have hlen : (fsStep r (Float64.ofInt m)).length ≤ 1 := part_len hnext
    refine wpAny_newObj_type ?_ ?_
    · refine wpAny_pure ⟨plainId_quiet plain_fsum_loop _, ?_⟩
      have hI : ∃ o, h'.get? I = some o := stI _ _ hst'
      have gp : ∀ b o, h'.get? b = some o → (h'.push { cls := .type "tuple", data := .seq ((fsStep r (Float64.ofInt m)).map fun x => rawInt x.toNat).toArray }).get? b = some o := fun b o e => Heap.get?_push_of_some _ e
      refine ih (i + 1) _ h'.objs.size (fsStep r (Float64.ofInt m)) (n + 8 * m) (by omega) hlt (W.frame _ _ _ hst' fun b _ o e => gp b o e) (fun e => ?_) ⟨_, Heap.get?_push_size _ rfl, rfl, _, rfl⟩ (bits_up (bits_up hsp₀ fun o e => hk' sp o (by simpa using hsI) e) fun o e => gp _ o e) hnext (by omega) fun s₃ t₃ b₃ => ?_
      · obtain ⟨o, e'⟩ := hI
        rw [← e, Heap.get?_none_of_le (Nat.le_refl _)] at e'; cases e'
      · have bp : But (· = I) { s'' with heap := h', toks := tk + 1 } { s'' with heap := h'.push { cls := .type "tuple", data := .seq ((fsStep r (Float64.ofInt m)).map fun x => rawInt x.toNat).toArray }, toks := tk + 1 } := ⟨fun b o _ e => gp b o e, rfl, rfl, rfl⟩
        have := hR s₃ t₃ (bt.trans (bp.trans b₃))
        rw [List.drop_eq_getElem_cons hlt, hmi, List.map_cons, List.foldl_cons] at this
        exact this
    · show (((fsStep r (Float64.ofInt m)).map fun x => rawInt x.toNat).toArray).size ≤ sizeLine
      rw [sizeLine_eq]; simp; omega

theorem k_fsum (ns : List Int) (hh : A.handled = none) (hov : ∀ n ∈ ns, ¬ PySem.Flt.Over n) (hsm : ∀ n ∈ ns, n.natAbs < 2 ^ 50) (hb : 8 * absSum ns < 2 ^ 53) : CALL D prog w mg mb A (.builtin "math.fsum") [.list (pints ns)] (.float (fsAll (ns.map Float64.ofInt))) := fun X s vs B hX R => by
  obtain ⟨v, rfl, r⟩ := R.one
  refine call_function_tree kind_fsum plain_fsum entry_fsum (args_fsum _) ?_
  unfold Builtin.«math.fsum»
  refine wpAny_bind (wpAny_of_eq (show Builtin.Math.mathOne "fsum" ⟨[v], []⟩ = pure v from rfl) ?_)
  refine wpAny_bind (iter_any (A := A.in1) hh (.list (pints ns)) hX r fun I s₂ fp St o₂ hI W hfp st0 stI => ?_)
  refine wpAny_bind ?_
  show wpAny _ _ (newTuple _) _ _ _
  unfold newTuple
  refine wpAny_newObj_type ?_ (by show (0 : Nat) ≤ sizeLine; exact Nat.zero_le _)
  refine wpAny_bind ?_
  show wpAny _ _ (newTuple _) _ _ _
  unfold newTuple
  refine wpAny_newObj_type ?_ (by show (2 : Nat) ≤ sizeLine; decide)
  refine wpAny_pure ⟨plainId_quiet plain_fsum_loop _, ?_⟩
  have hlen : (pints ns).length = ns.length := by simp
  rw [hlen] at W
  have g1 : ∀ b o, s₂.heap.get? b = some o → (s₂.heap.push { cls := .type "tuple", data := .seq (([] : List UInt64).map fun x => rawInt x.toNat).toArray }).get? b = some o := fun b o e => Heap.get?_push_of_some _ e
  have p1 : (s₂.heap.push { cls := .type "tuple", data := .seq (([] : List UInt64).map fun x => rawInt x.toNat).toArray }).get? s₂.heap.objs.size = some _ := Heap.get?_push_size _ rfl
  generalize hh1 : s₂.heap.push { cls := .type "tuple", data := .seq (([] : List UInt64).map fun x => rawInt x.toNat).toArray } = h1 at g1 p1
  have g2 : ∀ b o, h1.get? b = some o → (h1.push { cls := .type "tuple", data := .seq ([Float64.zero false, Float64.zero false].map fun x => rawInt x.toNat).toArray }).get? b = some o := fun b o e => Heap.get?_push_of_some _ e
  have p2 : (h1.push { cls := .type "tuple", data := .seq ([Float64.zero false, Float64.zero false].map fun x => rawInt x.toNat).toArray }).get? h1.objs.size = some _ := Heap.get?_push_size _ rfl
  have hI2 : ∃ o, s₂.heap.get? I = some o := stI _ _ st0
  have W' : Walks prog w A.in1 I fp [I] ns.length (fun i v => ∃ t n, ns[i]? = some n ∧ v = .int n t) St :=
    { sub := W.sub, frame := W.frame, item := fun i s₁ Q E hi st hQ => W.item i s₁ Q E hi st fun v h' tk hv => hQ v h' tk (by
        obtain ⟨u, hu, ru⟩ := hv
        rw [List.getElem?_map] at hu
        obtain ⟨m, hm, rfl⟩ := Option.map_eq_some_iff.mp hu
        cases ru
        exact ⟨_, m, hm, rfl⟩), done := W.done, self := W.self }
  have hIl : ∀ (a : Addr) (h : Heap), h.get? a = none → (∀ b o, s₂.heap.get? b = some o → h.get? b = some o) → a ≠ I := fun a h hn hk e => by
    obtain ⟨o, e'⟩ := hI2
    rw [e, hk _ _ e'] at hn; cases hn
  refine fsum_loop (ns := ns) hh W' hov hsm h1.objs.size (hIl _ h1 (Heap.get?_none_of_le (Nat.le_refl _)) g1) stI ns.length 0 _ s₂.heap.objs.size [] 0 rfl (Nat.zero_le _) (W.frame 0 _ _ st0 fun b _ o e => g2 _ _ (g1 _ _ e))
    (hIl _ s₂.heap (Heap.get?_none_of_le (Nat.le_refl _)) fun _ _ e => e) ⟨_, g2 _ _ p1, rfl, _, rfl⟩ ⟨_, p2, rfl, _, rfl⟩ .nil (by simpa using hb) fun s' t b => ?_
  refine ⟨⟨fun c o e => ?_, ?_, ?_, ?_⟩, .float _ _⟩
  · exact b.keep c o (fun q => by rw [q, hI] at e; cases e) (g2 _ _ (g1 _ _ (o₂.grow _ _ e)))
  · exact b.gens.trans o₂.gens
  · exact b.drawn.trans o₂.drawn
  · exact b.os.trans o₂.os
end
end Mine
end

section
open PySem PySem.W PySem.Calls PyProof.Rows PySem.Spec
namespace Mine
section
variable {prog : Program} {w : World} {A : Around} {s : Shared}
theorem call_cellsB {R : Result → Shared → Prop} {a : Addr} {o : Obj} {fd : FuncData} {body : List Stmt} {args : Args} {binds : List (Str × Value)}
    (hroom : A.depth < recursionLimit) (ho : s.heap.get? a = some o) (hdata : o.data = .func fd) (hlim : s.heap.NoLimit) (hcd : s.heap.CodeRec fd.code fd.qualname)
    (hbody : fd.body = .stmts body) (hbind : BindsTo s fd args binds) (hclo : fd.closure = [])
    (hkind : ∀ x ∈ binds, fd.scope.names.lookup x.1 = some .local ∨ (fd.scope.names.lookup x.1 = some .cell ∧ ((cellsFrom (s.heap.objs.size + 1) fd.scope.names []).lookup x.1).isSome = true))
    (h : ∀ s₁, InCallC s (callEnvC fd s.heap.objs.size a).locals (bindL (callEnvC fd s.heap.objs.size a).kindOf binds fun _ => none) (callEnvC fd s.heap.objs.size a).cells
        (bindC (callEnvC fd s.heap.objs.size a).kindOf binds fun _ => none) s₁ →
      wpAny (model prog w) (A.deeper (callEnvC fd s.heap.objs.size a)) (execs body (callEnvC fd s.heap.objs.size a)) (fun f s' => R (.ok (.ret (match f with | .ret v => v | _ => .none))) s')
        (fun e s' => wpAny (model prog w) (A.deeper (callEnvC fd s.heap.objs.size a)) (leaving (callEnvC fd s.heap.objs.size a) e) (fun _ s'' => R (.error e) s'') (fun e' s'' => R (.error e') s'') s') s₁)
    (hco : fd.scope.isCoroutine = false := by rfl) (hgen : fd.scope.isGenerator = false := by rfl) (hk : fd.scope.kind = .function := by rfl) :
    codeAny (model prog w) A (.call (.ref a) args) R s := by
  refine codeAny_call_function hroom ho hdata hco hgen hbody hcd (hbind _ _ _ _ ?_)
  rw [hclo]
  refine wpAny_newFunctionEnv_cells hk hkind fun env he s' x => ?_
  subst he
  exact ⟨hlim.keeps x.toInCall.keep, codeAny_func (h s' x)⟩
end
section
variable {D : List DefRec} {prog : Program} {w : World} {mg mb : Str → Option Value} {A : Around} {env : Env} {ρ ρ' ρ₁ ρ₂ : Loc} {X T : Addr → Prop} {g : Shared} {g₀ : Heap} {M M' M₁ M₂ : Mut}
/-- into a def: T₀ is what it may change of what stands -/
theorem enterB {args : Args} {a : Addr} {o : Obj} {fd : FuncData} {body : List Stmt} {ps : List Str} {vs : List Value} {pvs : List PV} {R : Result → Shared → Prop} {s : Shared} {T₀ : Addr → Prop}
    (hroom : A.depth < recursionLimit) (ho : s.heap.get? a = some o) (hdata : o.data = .func fd) (hcd : s.heap.CodeRec fd.code fd.qualname)
    (hbody : fd.body = .stmts body) (hbind : BindsTo s fd args (ps.zip vs)) (hclo : fd.closure = []) (hgl : fd.globals = mainGlobals) (hbl : fd.builtins = builtinsNs)
    (hps : ps.length = vs.length) (hnd : ps.Nodup) (hkind : ∀ x ∈ ps, fd.scope.names.lookup x = some .local ∨ fd.scope.names.lookup x = some .cell) (hnf : ∀ x ∈ fd.scope.names, x.2 ≠ .free)
    (hB : Base D mg mb g₀) (hgr : Grow g₀ s.heap) (hT₀ : New T₀ g₀) (hl₀ : Live T₀ s.heap) (hTX : ∀ a, T₀ a → X a) (hX : Live X s.heap) (hr : Reps X s.heap vs pvs) (hM : ∀ p ∈ M, T₀ p.1 ∧ ∃ vs, s.heap.PlainList p.1 vs.toArray ∧ IntsAre vs p.2)
    (h : ∀ (env : Env) (T X' : Addr → Prop) (s₁ : Shared), env.scope = fd.scope → Fx D mg mb env T X' g₀ → (∀ a, T a → T₀ a ∨ s.heap.get? a = none) → (∀ a, T₀ a → T a) → (∀ a, X a → X' a) → (∀ a, X' a → X a ∨ s.heap.get? a = none) → Bd D mg mb X' T env s g₀ (ps.zip pvs) M s₁ →
      (env = callEnvC fd s.heap.objs.size a) → wpAny (model prog w) (A.deeper env) (execs body env) (fun f s' => R (.ok (.ret (match f with | .ret v => v | _ => .none))) s')
        (fun e s' => wpAny (model prog w) (A.deeper env) (leaving env e) (fun _ s'' => R (.error e) s'') (fun e' s'' => R (.error e') s'') s') s₁)
    (hco : fd.scope.isCoroutine = false := by rfl) (hgen : fd.scope.isGenerator = false := by rfl) (hk : fd.scope.kind = .function := by rfl) :
    codeAny (model prog w) A (.call (.ref a) args) R s := by
  have hcell : ∀ x, fd.scope.names.lookup x = some .cell → ((cellsFrom (s.heap.objs.size + 1) fd.scope.names []).lookup x).isSome = true := fun x hx => cellsFrom_some _ _ _ (.inl hx)
  have hfst : ∀ {α : Type} (l : List α), ps.length = l.length → ((ps.zip l).map (·.1)) = ps := fun l e => List.map_fst_zip (by omega)
  refine call_cellsB hroom ho hdata (hB.nolimit.keeps hgr) hcd hbody hbind hclo (fun x hx => ?_) (fun s₁ I => ?_) hco hgen hk
  · have hm : x.1 ∈ ps := by
      have := List.mem_map_of_mem (f := (·.1)) hx
      rwa [hfst vs hps] at this
    rcases hkind x.1 hm with q | q
    · exact .inl q
    · exact .inr ⟨q, hcell _ q⟩
  · generalize hE : callEnvC fd s.heap.objs.size a = env at I ⊢
    have hsc : env.scope = fd.scope := by rw [← hE]; rfl
    have hlo : env.locals = s.heap.objs.size := by rw [← hE]; rfl
    have hce : env.cells = cellsFrom (s.heap.objs.size + 1) fd.scope.names [] := by rw [← hE]; rfl
    have hfe : FnEnv env := ⟨by rw [← hE]; exact hgl, by rw [← hE]; exact hbl, by rw [hsc]; exact hk⟩
    let T : Addr → Prop := fun b => T₀ b ∨ b = env.locals ∨ ∃ n, env.cells.lookup n = some b
    have hnew : ∀ b, (b = env.locals ∨ ∃ n, env.cells.lookup n = some b) → s.heap.get? b = none := fun b hb => by
      rcases hb with rfl | ⟨n, e⟩
      · exact new_of_size (Nat.le_of_eq hlo.symm)
      · exact new_of_size (Nat.le_of_lt (hlo ▸ I.above n b (mem_of_lookup e)))
    let X' : Addr → Prop := fun b => X b ∨ T b
    have hX' : ∀ b, X' b → X b ∨ s.heap.get? b = none := fun b hb => by
      rcases hb with hb | hb | hb
      · exact .inl hb
      · exact .inl (hTX b hb)
      · exact .inr (hnew b hb)
    have gr1 : Grow s.heap s₁.heap := I.toInCall.keep
    have hg0 : ∀ b, T b → g₀.get? b = none := fun b hb => by
      rcases hb with hb | hb
      · exact hT₀ b hb
      · cases q : g₀.get? b with
        | none => rfl
        | some ob => have := hnew b hb; rw [hgr b ob q] at this; cases this
    have hlT : Live T s₁.heap := fun b hb => by
      rcases hb with hb | rfl | ⟨n, e⟩
      · exact hl₀.up gr1 b hb
      · obtain ⟨ob, _, _, e, _⟩ := I.toInCall.ns; exact ⟨ob, e⟩
      · obtain ⟨ob, e', _⟩ := I.cell n b e; exact ⟨ob, e'⟩
    have fx : Fx D mg mb env T X' g₀ := ⟨hfe, fun b t => .inr t, hB, hg0, fun n n' c e e' => name_of_addr I.apart (mem_of_lookup e) (mem_of_lookup e'), fun n hn => by
      have hn' : fd.scope.names.lookup n = some .free := by rw [← hsc]; exact hn
      exact hnf _ (mem_of_lookup hn') rfl⟩
    obtain ⟨hh, tk, hs₁⟩ := I.toInCall.same
    refine h env T X' s₁ hsc fx (fun b t => t.elim .inl fun q => .inr (hnew b q)) (fun b t => .inl t) (fun b q => .inl q) hX' ⟨⟨hB.up (hgr.trans gr1), hfe, fun b hb => ?_, fun x pv hx => ?_⟩, ?_, hgr.trans gr1, fun x hx => ?_, hlT, fun p hp => ?_⟩ hE.symm
    · rcases hb with hb | hb
      · exact (hX.up gr1) b hb
      · exact hlT b hb
    · obtain ⟨v, hv, rv⟩ := zip_at ps vs pvs x pv hr hx
      have rv' : Rep X' s₁.heap v pv := (rv.re hX').up gr1
      have hm : x ∈ ps := by
        have := List.mem_map_of_mem (f := (·.1)) (mem_of_lookup hv)
        rwa [hfst vs hps] at this
      have hnd' : ((ps.zip vs).map (·.1)).Nodup := by rw [hfst vs hps]; exact hnd
      obtain ⟨b1, b2⟩ := bind_at (kf := env.kindOf) (ps.zip vs) (fun _ => none) (fun _ => none) x v hnd' hv
      have hkx : env.kindOf x = fd.scope.names.lookup x := by unfold Env.kindOf; rw [hsc]
      rcases hkind x hm with q | q
      · exact .loc _ v (hkx.trans q) I.toInCall.ns (b1 (hkx.trans q)) rv'
      · obtain ⟨c, hc⟩ := Option.isSome_iff_exists.mp (hcell x q)
        rw [← hce] at hc
        refine .cell c v (hkx.trans q) hc ?_ rv'
        have := I.cell x c hc
        rwa [b2 (by rw [hkx, q]; decide)] at this
    · refine ⟨fun b ob _ e => gr1 b ob e, ?_, ?_, ?_⟩ <;> rw [hs₁]
    · have hkx : env.kindOf x = fd.scope.names.lookup x := by unfold Env.kindOf; rw [hsc]
      rcases hx with q | q
      · exact .loc _ q I.toInCall.ns (.inr (.inl rfl))
      · obtain ⟨c, hc⟩ := Option.isSome_iff_exists.mp (hcell x (hkx ▸ q))
        rw [← hce] at hc
        exact .cell c _ q hc (I.cell x c hc) (.inr (.inr ⟨x, hc⟩))
    · obtain ⟨t, us, e, i⟩ := hM p hp
      exact ⟨.inl t, us, e.at fun ob eo => gr1 _ ob eo, i⟩

end
end Mine
end

section
open PySem PySem.W PySem.Calls PyProof.Rows PySem.Spec
set_option maxRecDepth 100000
namespace Mine
theorem sm_of {P : Params} {h : Heap} {mg mb : Str → Option Value} {p : Program} {loose : List Str} (X : (hd.heap_39 P).In h) (T : TopRead p loose mg mb h) : Sm mg h := by
  refine ⟨⟨77, 70, .str "cpy313.statistics" 400, .ref 76, .type "function", none, #[], { cls := .type "tuple", data := .seq #[.none] }, 0, mg_of X T.g (by kernel_rfl), X 77 _ (by kernel_rfl), codeRec_of X (by kernel_rfl), X 70 _ (by kernel_rfl), rfl⟩, mg_of X T.g (by kernel_rfl), 66, 65, "StatisticsError", "StatisticsError", [.type "ValueError"], true, [], [], false, none, none, some (.ref 57), none, some (.str "StatisticsError" 402), some (.str "StatisticsError" 410), some (.bool true), h.nsMap 65, mg_of X T.g (by kernel_rfl), X 66 _ (by kernel_rfl), .of_isNs (isNs_of_in X (by kernel_rfl)), nsMap_none_of_in X (by kernel_rfl) (by kernel_rfl), nsMap_none_of_in X (by kernel_rfl) (by kernel_rfl)⟩
end Mine
end

section
open PySem PySem.W PySem.Calls PyProof.Rows PySem.Spec
set_option maxRecDepth 100000
namespace Mine
theorem not_over {n : Int} (h : n.natAbs < 2 ^ 50) : ¬ PySem.Flt.Over n := fun o => by
  have h1 := PySem.Flt.inf_of_over o
  obtain ⟨⟨a, m, e, hd⟩, _⟩ := dy_int h
  unfold Float64.isInf at h1
  rw [hd] at h1; cases h1
section
variable {D : List DefRec} {prog : Program} {w : World} {mg mb : Str → Option Value} {A : Around} {env : Env} {ρ : Loc} {X T : Addr → Prop} {g : Shared} {g₀ : Heap} {M : Mut}
theorem b_divfi (x : UInt64) (n : Int) (hh : A.handled = none) (h : n.natAbs < 2 ^ 50) (h0 : n ≠ 0) : BIN prog w A .Div (.float x) (.int n) (.float (Float64.div x (Float64.ofInt n))) := fun X s u v hX hu hv => by
  cases hu; cases hv
  exact PySem.Flt.truediv_fi hh (fun o => absurd o (not_over h)) (fun e => absurd e h0) fun _ _ => ⟨Ok.tok, .float _ _⟩
theorem b_mulif (n : Int) (x : UInt64) (h : n.natAbs < 2 ^ 50) : BIN prog w A .Mult (.int n) (.float x) (.float (Float64.mul (Float64.ofInt n) x)) := fun X s u v hX hu hv => by
  cases hu; cases hv
  exact AutoFloatOps.mul_if_1 (PySem.Flt.fin_of_fits (not_over h)) ⟨Ok.tok, .float _ _⟩
theorem b_addff (x y : UInt64) : BIN prog w A .Add (.float x) (.float y) (.float (Float64.add x y)) := fun X s u v hX hu hv => by
  cases hu; cases hv
  exact AutoFloatOps.add_0 ⟨Ok.tok, .float _ _⟩

/-- a call of a builtin that a name of the module holds -/
theorem ev_call_g {f : Str} {id : String} {p pos : Pos} {e : Expr} {es : List Expr} {xs : List PV} {pv : PV} (hk : env.kindOf f = some .globalImplicit) (hv : mg f = some (.builtin id))
    (ha : EVs D prog w mg mb A env ρ pos (e :: es) xs) (hc : CALL D prog w mg mb A (.builtin id) xs pv)
    (he : starEach (e :: es) env = (false, eval e env) :: starEach es env := by rfl) (hp : (backTo pos (starEach es env)).any (·.1) = false := by rfl) (hdb : (f == ("__debug__" : Str)) = false := by decide) :
    EV D prog w mg mb A env ρ (.Call (.Name f p) (e :: es) [] pos) pv := fun X s S => by
  refine wpAny_Call_NameR (glob_any S hk hv ?_ hdb)
  refine callWith_builtin1 (Ev.use (ha X s S) fun vs s₁ o₁ r₁ => ?_) he hp
  exact Ev.use (hc X s₁ vs (S.base.up o₁.grow) (S.ok o₁).live r₁) fun u s₂ o₂ r₂ => ⟨o₁.trans o₂, r₂⟩
/-- a try whose body goes through -/
theorem st_try {body : List Stmt} {h₀ : ExceptHandler} {hs : List ExceptHandler} {p : Pos} {ρ' : Loc} {M' : Mut} (h : STs D prog w mg mb A env X T g g₀ body ρ M ρ' M') : ST D prog w mg mb A env X T g g₀ (.Try body (h₀ :: hs) [] [] p) ρ M ρ' M' := fun s B =>
  wpAny_Try_except (wpAny_mono (h s B) (fun f s' q => by
    obtain ⟨rfl, q⟩ := q
    exact wpAny_execs_nil ⟨rfl, q⟩) fun _ _ f => f.elim)
end

section
variable {w : World} {mg mb : Str → Option Value} {A : Around} {env : Env} {ρ : Loc}
/-- what fmean gives of whole numbers -/
def fmeanOf (ns : List Int) : UInt64 := Float64.div (fsAll (ns.map Float64.ofInt)) (Float64.ofInt ns.length)
theorem f_fmean (ns : List Int) (hsm : ∀ n ∈ ns, n.natAbs < 2 ^ 50) (hb : 8 * absSum ns < 2 ^ 53) (hl : ns.length ≤ 1000) (h0 : ns ≠ []) {n : Nat} (hA : Rm (n + 1) A) {a : Addr} (ha : mg "fmean" = some (.ref a)) :
    CALL DD PG w mg mb A (.ref a) [.list (pints ns)] (.float (fmeanOf ns)) := fun X s vs B hX r => by
  obtain ⟨a', T, pm, cdv, oc, od, osl, o2, n2, h1, h2, h3, h4, h5⟩ := B.sm.fm
  rw [ha] at h1; cases h1
  obtain ⟨v, rfl, rv⟩ := r.one
  refine wpAny_call (enterB (D := DD) (prog := PG) (mg := mg) (mb := mb) (args := ⟨[v], []⟩) (fd := fdFm T pm cdv) (body := (dAt 6).body) (vs := [v, .none]) (pvs := [.list (pints ns), .none]) (ps := ["data", "weights"]) (T₀ := fun _ => False) (M := []) (g₀ := s.heap)
    (by have := hA.depth; omega) h2 rfl h3 rfl (BindsTo.of_defaults rfl h4 h5 rfl rfl) rfl rfl rfl rfl (by decide) (show ∀ x ∈ (["data", "weights"] : List Str), (dAt 6).scope.names.lookup x = some .local ∨ (dAt 6).scope.names.lookup x = some .cell by decide) (show ∀ x ∈ (dAt 6).scope.names, x.2 ≠ .free by decide)
    B (Grow.refl _) (fun _ f => f.elim) (fun _ f => f.elim) (fun _ f => f.elim) hX (.cons rv (.cons .none .nil)) (fun p hp => by cases hp)
    (fun env T X' s₁ hsc fx hT _ hXX hX' Bd hE => wpAny_mono ((?_ : RUN DD PG w mg mb (A.deeper env) env X' T s s.heap (dAt 6).body ([("data", .list (pints ns)), ("weights", .none)] : Loc) [] (.float (fmeanOf ns))) s₁ Bd) (fun f s' q => ?_) fun _ _ f => f.elim))
  · have hk : ∀ n, env.kindOf n = (dAt 6).scope.names.lookup n := fun n => by unfold Env.kindOf; rw [hsc]
    have hA1 := hA.deep env
    refine run_if (tr_cmp (ev_name rfl) ev_none c_isnone) ?_
    refine run_seq (st_try (sts_cons (st_assign fx (.inr ((hk _).trans rfl)) (ev_call_b ((hk _).trans rfl) (by decide) (by decide +kernel) (evs_cons (ev_name rfl) evs_nil) (k_len _ (by simp; omega))) rfl) sts_nil)) ?_
    refine run_seq (st_assign fx (.inl ((hk _).trans rfl)) (ev_call_g ((hk _).trans rfl) B.sm.fs (evs_cons (ev_name rfl) evs_nil) (k_fsum ns hA1.handled (fun n hn => not_over (hsm n hn)) hsm hb)) rfl) ?_
    have hne : ((pints ns).length : Int) ≠ 0 := by
      cases ns with
      | nil => exact absurd rfl h0
      | cons x r => simp; omega
    refine run_seq (st_skip ?_) (run_ret ?_)
    · have h := tr_not (p := ⟨30, 11, 30, 16⟩) (tr_val (ev_name (D := DD) (prog := PG) (w := w) (mg := mg) (mb := mb) (A := A.deeper env) (env := env) (x := "n") (p := ⟨30, 15, 30, 16⟩) (ρ := [("total", .float (fsAll (ns.map Float64.ofInt))), ("n", .int ((pints ns).length)), ("data", .list (pints ns)), ("weights", .none)]) rfl) (Truth.int ((pints ns).length)))
      have e : (!(((pints ns).length : Int) != 0)) = false := by simpa using hne
      rw [e] at h
      exact h
    · have hlen : ((pints ns).length : Int) = ns.length := by simp
      have := ev_bin (D := DD) (prog := PG) (w := w) (mg := mg) (mb := mb) (A := A.deeper env) (env := env) (p := ⟨32, 15, 32, 24⟩) (ev_name (x := "total") (p := ⟨32, 15, 32, 20⟩) (ρ := [("total", .float (fsAll (ns.map Float64.ofInt))), ("n", .int ((pints ns).length)), ("data", .list (pints ns)), ("weights", .none)]) rfl) (ev_name (x := "n") (p := ⟨32, 23, 32, 24⟩) rfl) (b_divfi _ _ hA1.handled (by simp; omega) hne)
      unfold fmeanOf
      rw [← hlen]
      exact this
  · obtain ⟨v, rfl, b, lv, rv⟩ := q
    exact ⟨⟨b.grow (fun c t => (hT c t).elim (fun f => f.elim) fun q => q) (Grow.refl _), b.gens, b.drawn, b.os⟩, rv.re fun c q => .inl (hXX c q)⟩
end
end Mine
end

section
open PySem PySem.W PySem.Calls PyProof.Rows PySem.Spec
open PySem.Builtin PySem.Builtin.Str PySem.Builtin.BaseException PySem.Builtin.Exceptions
set_option maxRecDepth 100000
namespace Mine
section
variable {prog : Program} {w : World} {A : Around} {E : Value → Shared → Prop} {h : Heap} {g : Array GenState} {d : Drawn} {t : Nat} {os : OsState}
variable {nm q : Str} {C N e t0 : Addr} {bs : List Value} {hdct : Bool} {sn : List Str} {sub : List Value} {ab : Bool} {col : Option Bool} {dd : Option Addr} {k0 k1 k2 k3 k5 : Option Value} {newId : String} {mN : Str → Option Value} {o : Obj} {vs : Array Value} {m : Str} {tk : Tok}
theorem mro_V : mroOf (.type "ValueError") = pure bmV := by kernel_rfl
theorem kind_bstr : builtinKind "BaseException.__str__" = some .slot := by decide +kernel
theorem split_bstr : splitId "BaseException.__str__" = some ("BaseException", "__str__") := by decide +kernel
theorem bexcArgs_own {M : Model} {items : List Value} {s : Shared} {Q : Value × List Value → Shared → Prop} (ho : s.heap.get? e = some o) (hd : o.data = .fields vs) (h0 : vs[0]? = some (.ref t0)) (ht : s.heap.TupAt t0 items) (hq : Q (.ref t0, items) s) :
    wpAny M A (bexcArgs (.ref e)) Q E s := by
  obtain ⟨ot, k, hto, _, htd⟩ := ht
  unfold bexcArgs
  refine wpAny_bind (wpAny_field ho hd h0 (wpAny_bind (wpAny_seqItems hto htd ?_)))
  have : items.toArray.toList = items := by simp
  show wpAny M A (pure (Value.ref t0, items.toArray.toList)) Q E s
  rw [this]; exact wpAny_pure hq
theorem bexcStr_own {s : Shared} {Q : Fin → Shared → Prop} (ho : s.heap.get? e = some o) (hd : o.data = .fields vs) (h0 : vs[0]? = some (.ref t0)) (ht : s.heap.TupAt t0 [.str m tk]) (hq : Q (.done (.ret (.str m tk))) s) :
    wpAny (model prog w) A (Builtin.«BaseException.__str__» ⟨[.ref e], []⟩) Q E s := by
  unfold Builtin.«BaseException.__str__»
  repeat (first | with_reducible refine bexcArgs_own ho hd h0 ht ?_ | wp_step)
  exact hq
theorem callStr_own {Q : Option Value → Shared → Prop} (hC : h.get? C = some (excClassObj nm q C N bs bmV hdct sn sub ab col dd k0 k1 k2 k3 k5 newId)) (hN : h.Ns N mN) (hno : mN "__str__" = none)
    (ho : h.get? e = some o) (hc : o.cls = .ref C) (hd : o.data = .fields vs) (h0 : vs[0]? = some (.ref t0)) (ht : h.TupAt t0 [.str m tk]) (hq : Q (some (.str m tk)) ⟨h, g, d, t, os⟩) :
    wpAny (model prog w) A (callSpecial? (.ref e) "__str__") Q E ⟨h, g, d, t, os⟩ := by
  simp only [callSpecial?]
  refine wpAny_bind (wpAny_specialOf_inst ho hc hC hN hno mro_V PySem.F.excStr_ValueError.str.lookup ?_)
  simp only [PySem.F.excStr_ValueError.str.bind]
  refine wpAny_holding (wpAny_bind (wpAny_pure (wpAny_bind (wpAny_call (codeAny_call_builtin PySem.F.excStr_ValueError.str.plain PySem.F.entry_bexc_str ?_)))))
  have hob : bmV.contains (.type "BaseException") = true := by decide +kernel
  refine wpAny_check_slot_inst (id := "BaseException.__str__") (rest := []) kind_bstr split_bstr (PySem.F.args_bexc_str _) hob ho hc hC ?_
  refine bexcStr_own (s := ⟨h, g, d, t, os⟩) ho hd h0 ht ?_
  exact wpAny_pure hq
theorem strOf_own {Q : Value → Shared → Prop} (hu : A.units < cLine) (hC : h.get? C = some (excClassObj nm q C N bs bmV hdct sn sub ab col dd k0 k1 k2 k3 k5 newId)) (hN : h.Ns N mN) (hno : mN "__str__" = none)
    (ho : h.get? e = some o) (hc : o.cls = .ref C) (hd : o.data = .fields vs) (h0 : vs[0]? = some (.ref t0)) (ht : h.TupAt t0 [.str m tk]) (hq : Q (.str m tk) ⟨h, g, d, t, os⟩) :
    wpAny (model prog w) A (Builtin.Str.strOf (.ref e)) Q E ⟨h, g, d, t, os⟩ := by
  unfold Builtin.Str.strOf
  repeat (first | with_reducible refine wpAny_cRoomFor hu ?_ | with_reducible refine callStr_own hC hN hno ho hc hd h0 ht ?_ | wp_step)
  exact hq
theorem k_str_own {Q : Value → Shared → Prop} (hu : A.units + 2 < cLine) (hC : h.get? C = some (excClassObj nm q C N bs bmV hdct sn sub ab col dd k0 k1 k2 k3 k5 newId)) (hN : h.Ns N mN) (hno : mN "__str__" = none)
    (ho : h.get? e = some o) (hc : o.cls = .ref C) (hd : o.data = .fields vs) (h0 : vs[0]? = some (.ref t0)) (ht : h.TupAt t0 [.str m tk]) (hq : Q (.str m tk) ⟨h, g, d, t, os⟩) :
    wpAny (model prog w) A (call (.type "str") [.ref e]) Q E ⟨h, g, d, t, os⟩ :=
  callType_new PySem.F.called_str (by decide) (PySem.F.typeCall_str_1 _) (PySem.F.newCall_str_1 _) (fun obj => PySem.F.args_object_init_2 obj _) PySem.F.entry_str_new
    (meets_str_new (S := fun A' R s' => A'.units + 1 < cLine ∧ s' = ⟨h, g, d, t, os⟩ ∧ R (.ok (.ret (.str m tk))) s')
      fun _ _ A' _ _ hq => by
        obtain ⟨h1, rfl, h2⟩ := hq
        exact strOf_own (A := A'.in1) h1 hC hN hno ho hc hd h0 ht h2)
    ⟨(show A.units + 1 + 1 < cLine from hu), rfl, typeIs_str _ _ _, hq⟩
end
end Mine
end

section
open PySem PySem.W PySem.Calls PyProof.Rows PySem.Spec
set_option maxRecDepth 100000
namespace Mine
section
variable {D : List DefRec} {prog : Program} {w : World} {mg mb : Str → Option Value} {A : Around} {env : Env} {ρ ρ' ρ₁ ρ₂ : Loc} {X T : Addr → Prop} {g : Shared} {g₀ : Heap} {M M' M₁ M₂ : Mut}
/-- statements that raise -/
def RZ (D : List DefRec) (prog : Program) (w : World) (mg mb : Str → Option Value) (A : Around) (env : Env) (X T : Addr → Prop) (g : Shared) (g₀ : Heap) (E : Value → Shared → Prop) (sts : List Stmt) (ρ : Loc) (M : Mut) : Prop :=
  ∀ s, Bd D mg mb X T env g g₀ ρ M s → wpAny (model prog w) A (execs sts env) (fun _ _ => False) E s
theorem rz_seq {E : Value → Shared → Prop} {st : Stmt} {sts : List Stmt} (h : ST D prog w mg mb A env X T g g₀ st ρ M ρ₁ M₁) (hs : RZ D prog w mg mb A env X T g g₀ E sts ρ₁ M₁) : RZ D prog w mg mb A env X T g g₀ E (st :: sts) ρ M := fun s B =>
  wpAny_execs_cons (wpAny_mono (h s B) (fun f s₁ q => by
    obtain ⟨rfl, b, B₁⟩ := q
    exact hs s₁ B₁) fun _ _ f => f.elim)
theorem rz_if {E : Value → Shared → Prop} {test : Expr} {body orelse : List Stmt} {p : Pos} {sts : List Stmt} (ht : TR D prog w mg mb A env ρ test true) (h : RZ D prog w mg mb A env X T g g₀ E body ρ M) : RZ D prog w mg mb A env X T g g₀ E (.If test body orelse p :: sts) ρ M := fun s B =>
  wpAny_execs_cons (wpAny_If (Ev.use (ht X s B.st) fun b s₁ o e => by
    subst e
    rw [if_pos rfl]
    exact wpAny_mono (h s₁ (B.up o)) (fun f s₂ q => q.elim) fun _ _ y => y))
/-- raise StatisticsError("..") -/
theorem rz_raise {E : Value → Shared → Prop} {np cpos pos ap : Pos} {k : Nat} {x : Str} {sts : List Stmt} (hh : A.handled = none) (hk : env.kindOf "StatisticsError" = some .globalImplicit)
    (h : ∀ s C h' e t, Bd D mg mb X T env g g₀ ρ M s → mg "StatisticsError" = some (.ref C) → Heap.MadeExcOf s.heap h' e (.ref C) [.str x t] → E (.ref e) { s with heap := h' })
    (he : starEach [(.Constant (.str x) k ap : Expr)] env = [(false, eval (.Constant (.str x) k ap) env)] := by rfl) :
    RZ D prog w mg mb A env X T g g₀ E (.Raise (some (.Call (.Name "StatisticsError" np) [.Constant (.str x) k ap] [] cpos)) none pos :: sts) ρ M := fun s B => by
  obtain ⟨C, N, nm, q, bs, hdct, sn, sub, ab, col, dd, k0, k1, k2, k3, k5, mN, o1, o2, o3, o4, o5⟩ := B.st.base.sm.own
  refine wpAny_execs_cons (wpAny_Raise_call_subT (C := C) (nm := nm) (q := q) (N := N) (bs := bs) (bm := bmV) (hdct := hdct) (sn := sn) (sub := sub) (ab := ab) (col := col) (dd := dd) (k0 := k0) (k1 := k1) (k2 := k2) (k3 := k3) (k5 := k5)
    PySem.F.excBase_ValueError (mN := mN) (by decide +kernel) hh (by rw [he]; rfl) o4 (glob_any B.st hk o1 ⟨rfl, ?_⟩))
  rw [he]
  refine Calls.evalArgs_plain ?_
  have hev := (evs_cons (pos := cpos) (ev_str (D := D) (prog := prog) (w := w) (mg := mg) (mb := mb) (A := A) (env := env) (ρ := ρ) (x := x) (k := k) (p := ap)) evs_nil he) X s B.st
  rw [he] at hev
  refine Ev.use hev fun vs s₂ o₂ r₂ => ?_
  obtain ⟨v, rfl, rv⟩ := r₂.one
  cases rv
  exact ⟨rfl, by show 1 ≤ sizeLine; decide, o₂.grow _ _ o2, o3.keeps o₂.grow, .base, fun h' e hm => h s₂ C h' e _ (B.up o₂) o1 hm⟩
end
end Mine
end

section
open PySem PySem.W PySem.Calls PyProof.Rows PySem.Spec
set_option maxRecDepth 100000
namespace Mine
section
variable {w : World} {mg mb : Str → Option Value} {A : Around} {env : Env} {X T : Addr → Prop} {g : Shared} {g₀ : Heap} {frs : List Env}

abbrev msgNone : Str := "fmean requires at least one data point"
/-- an exception of the module's class flies through these frames -/
def Flies (mg : Str → Option Value) (frs : List Env) (s : Shared) (e : Value) (s' : Shared) : Prop :=
  ∃ a C t tk, e = .ref a ∧ mg "StatisticsError" = some (.ref C) ∧ Heap.FlyingW (hideAll s.heap (frs.filterMap (·.frame))) frs a (.ref C) (.ref t) s'.heap ∧ s'.heap.TupAt t [.str msgNone tk] ∧ (hideAll s.heap (frs.filterMap (·.frame))).get? t = none ∧ s.heap.UpToSlots s'.heap ∧
    s'.gens = s.gens ∧ s'.drawn = s.drawn ∧ s'.os = s.os
theorem fmean_raises {s : Shared} {a al : Addr} {n : Nat} (hA : Rm (n + 1) A) (hfr : A.frames = some frs) (hF : FF frs s.heap) (B : Base DD mg mb s.heap) (ha : mg "fmean" = some (.ref a)) (hl : IL s.heap al []) :
    wpAny (model PG w) A (call (.ref a) [.ref al] []) (fun _ _ => False) (fun e s' => Flies mg frs s e s') s := by
  obtain ⟨a', T₁, pm, cdv, oc, od, osl, o2, n2, h1, h2, h3, h4, h5⟩ := B.sm.fm
  rw [ha] at h1; cases h1
  have rv : Rep (fun _ => False) s.heap (.ref al) (.list (pints [])) := by
    obtain ⟨vs, p, i⟩ := hl
    cases i
    exact .list (fun f => f) p .nil
  refine wpAny_call (enterB (D := DD) (prog := PG) (mg := mg) (mb := mb) (args := ⟨[.ref al], []⟩) (fd := fdFm T₁ pm cdv) (body := (dAt 6).body) (vs := [.ref al, .none]) (pvs := [.list (pints []), .none]) (ps := ["data", "weights"]) (T₀ := fun _ => False) (X := fun _ => False) (M := []) (g₀ := s.heap)
    (by have := hA.depth; omega) h2 rfl h3 rfl (BindsTo.of_defaults rfl h4 h5 rfl rfl) rfl rfl rfl rfl (by decide) (show ∀ x ∈ (["data", "weights"] : List Str), (dAt 6).scope.names.lookup x = some .local ∨ (dAt 6).scope.names.lookup x = some .cell by decide) (show ∀ x ∈ (dAt 6).scope.names, x.2 ≠ .free by decide)
    B (Grow.refl _) (fun _ f => f.elim) (fun _ f => f.elim) (fun _ f => f.elim) (fun _ f => f.elim) (.cons rv (.cons .none .nil)) (fun p hp => by cases hp)
    (fun env T X' s₁ hsc fx hT _ hXX hX' Bd₁ hE => ?_))
  have hk : ∀ n, env.kindOf n = (dAt 6).scope.names.lookup n := fun n => by unfold Env.kindOf; rw [hsc]
  have hA1 := hA.deep env
  have hloc : env.frame = some env.locals := by rw [hE]; rfl
  have hLn : s.heap.get? env.locals = none := by rw [hE]; exact new_of_size (Nat.le_refl _)
  refine wpAny_mono (Q := fun _ _ => False) ?_ (fun _ _ f => f.elim) fun _ _ y => y
  refine (?_ : RZ DD PG w mg mb (A.deeper env) env X' T s s.heap _ (dAt 6).body ([("data", .list (pints [])), ("weights", .none)] : Loc) []) s₁ Bd₁
  refine rz_if (tr_cmp (ev_name rfl) ev_none c_isnone) ?_
  refine rz_seq (st_try (sts_cons (st_assign fx (.inr ((hk _).trans rfl)) (ev_call_b ((hk _).trans rfl) (by decide) (by decide +kernel) (evs_cons (ev_name rfl) evs_nil) (k_len _ (by simp))) rfl) sts_nil)) ?_
  refine rz_seq (st_assign fx (.inl ((hk _).trans rfl)) (ev_call_g ((hk _).trans rfl) B.sm.fs (evs_cons (ev_name rfl) evs_nil) (k_fsum [] hA1.handled (fun n hn => by cases hn) (fun n hn => by cases hn) (by decide))) rfl) ?_
  refine rz_if (tr_not (t := false) (tr_val (ev_name rfl) (Truth.int 0))) ?_
  refine rz_raise (x := msgNone) hA1.handled ((hk _).trans rfl) fun s₂ C h' e t B₂ hC hm => ?_
  have hst : (hideAll s.heap (frs.filterMap (·.frame))).StaysIn s₂.heap := fun b o q => B₂.gr b o (of_hideAll _ q)
  have hNs : ∃ m, s₂.heap.Ns env.locals m := by
    cases B₂.slots "data" (.inl ((hk _).trans rfl)) with
    | loc m _ n _ => exact ⟨m, n⟩
    | cell c v k' => rw [hk] at k'; cases k'
  have hFF : FF (env :: frs) s₂.heap := fun e' he' => by
    rcases List.mem_cons.mp he' with rfl | he'
    · obtain ⟨m, n⟩ := hNs
      exact ⟨by have := fx.fe.kind; rw [this]; decide, _, m, hloc, n⟩
    · obtain ⟨q1, L, m, q2, q3⟩ := hF e' he'
      exact ⟨q1, L, m, q2, q3.keeps B₂.gr⟩
  have hb0 : ∀ b, inF (env :: frs) b → (hideAll s.heap (frs.filterMap (·.frame))).get? b = none := fun b hb => by
    obtain ⟨e', he', hf'⟩ := List.mem_filterMap.mp hb
    rcases List.mem_cons.mp he' with rfl | he'
    · rw [hloc] at hf'; cases hf'
      cases q : (hideAll s.heap (frs.filterMap (·.frame))).get? e'.locals with
      | none => rfl
      | some ob => have := of_hideAll _ q; rw [hLn] at this; cases this
    · exact hideAll_none _ (List.mem_filterMap.mpr ⟨e', he', hf'⟩)
  refine wpAny_leaves_madeW (Around.frames_deeper hfr) hloc hst (ff_fun hFF hb0) hm fun h₃ t₃ q1 q2 q3 q4 => ?_
  refine ⟨e, C, t₃, t, rfl, hC, q1, q2, q3, ?_, B₂.but.gens, B₂.but.drawn, B₂.but.os⟩
  exact ((Heap.UpToSlots.of_keeps B₂.gr).trans (Heap.UpToSlots.of_keeps hm.keeps)).trans q4
end
end Mine
end

section
open PySem PySem.W PySem.Calls PyProof.Rows PySem.Spec
set_option maxRecDepth 100000
namespace Mine
section
variable {w : World} {mg mb : Str → Option Value} {A : Around} {env : Env} {X T : Addr → Prop} {g : Shared} {g₀ : Heap} {frs : List Env}
theorem f_refused {s : Shared} {al f : Addr} {n : Nat} (hA : Rm (n + 2) A) (hfr : A.frames = some frs) (ha : mg "_law_refused" = some (.ref f)) (hB : Base DD mg mb g₀) (hgr : Grow g₀ s.heap)
    (hF : FF frs s.heap) (hF0 : ∀ b, inF frs b → g₀.get? b = none) (hl : IL s.heap al []) :
    wpAny (model PG w) A (call (.ref f) [.ref al] []) (fun v s' => v = .bool true ∧ BF (inF frs) (fun _ => False) s s') (fun _ _ => False) s := by
  obtain ⟨a', o, pm, code, doc, h1, h2, h3, h4⟩ := hB.fn (dAt 13) (mem_dd (by decide))
  have e1 : mg (dAt 13).name = mg "_law_refused" := rfl
  rw [e1, ha] at h1; cases h1
  refine wpAny_call (enter (D := DD) (prog := PG) (mg := mg) (mb := mb) (fd := docDef (dAt 13).name (dAt 13).params (dAt 13).body (dAt 13).scope pm code doc) (ps := ["items"]) (pvs := [.ref al]) (T₀ := fun _ => False) (M := []) (g₀ := g₀) (X := inF frs)
    (by have := hA.depth; omega) (hgr _ _ h2) h3 (h4.keeps hgr) rfl rfl rfl rfl rfl rfl (by decide) (show ∀ x ∈ (["items"] : List Str), (dAt 13).scope.names.lookup x = some .local ∨ (dAt 13).scope.names.lookup x = some .cell by decide) (show ∀ x ∈ (dAt 13).scope.names, x.2 ≠ .free by decide) hB hgr (fun b t => t.elim) (fun b t => t.elim)
    (fun b t => t.elim) (fun b hb => by obtain ⟨m, o, _, _, e, _⟩ := hF.fo b hb; exact ⟨o, e⟩) (.cons (.ref al) .nil) (fun p hp => by cases hp) (fun env T X' s₁ hsc fx hT hT' hXX hX' B hE => ?_))
  have hk : ∀ n, env.kindOf n = (dAt 13).scope.names.lookup n := fun n => by unfold Env.kindOf; rw [hsc]; rfl
  have hint : interactive env = false := by unfold interactive; rw [hsc]; rfl
  have hA1 := hA.deep env
  have hloc : env.frame = some env.locals := by rw [hE]; rfl
  have hfr1 : (A.deeper env).frames = some (env :: frs) := Around.frames_deeper hfr
  have hTs : ∀ b o, s.heap.get? b = some o → ¬ T b := fun b o e t => (hT b t).elim (fun f => f) fun q => by rw [e] at q; cases q
  have hTl : T env.locals := by
    cases B.slots "items" (.inl ((hk _).trans rfl)) with
    | loc m k n t => exact t
    | cell c v k' => rw [hk] at k'; cases k'
  refine wpAny_mono (Q := fun f s' => f = .ret (.bool true) ∧ BF (inF frs) (fun _ => False) s s') (E := fun _ _ => False) ?_ (fun f s' q => by obtain ⟨rfl, q⟩ := q; exact ⟨rfl, q⟩) fun _ _ f => f.elim
  obtain ⟨af, T₁, pm', cdv, oc, od, osl, o2, n2, f1, f2, f3, f4, f5⟩ := B.st.base.sm.fm
  refine wpAny_execs_cons (wpAny_Try_except (wpAny_execs_cons (wpAny_Expr_any (wpAny_Call_NameR (glob_any B.st ((hk _).trans rfl) f1 ?_)) hint rfl)))
  refine callWith_def (fd := fdFm T₁ pm' cdv) rfl (Ev.use ((evs_cons (ev_name (D := DD) (prog := PG) (w := w) (mg := mg) (mb := mb) (A := A.deeper env) (x := "items") (ρ := ([("items", .ref al)] : Loc)) (pv := .ref al) rfl) evs_nil) X' s₁ B.st) fun vs s₂ o₂ r₂ => ⟨o₂.grow _ _ f2, ?_⟩) rfl
  obtain ⟨v, rfl, rv⟩ := r₂.one
  cases rv
  have B₂ := B.up o₂
  have bt12 : But T s s₂ := B.but.trans o₂.but
  have keep2 : ∀ b o, s.heap.get? b = some o → s₂.heap.get? b = some o := fun b o e => bt12.keep b o (hTs b o e) e
  have hNs : ∃ m, s₂.heap.Ns env.locals m := by
    cases B₂.slots "items" (.inl ((hk _).trans rfl)) with
    | loc m _ n _ => exact ⟨m, n⟩
    | cell c v k' => rw [hk] at k'; cases k'
  have FF₂ : FF (env :: frs) s₂.heap := fun e' he' => by
    rcases List.mem_cons.mp he' with rfl | he'
    · obtain ⟨m, n⟩ := hNs
      exact ⟨by have := fx.fe.kind; rw [this]; decide, _, m, hloc, n⟩
    · obtain ⟨q1, L, m, q2, q3⟩ := hF e' he'
      exact ⟨q1, L, m, q2, q3.keeps keep2⟩
  have hin : ∀ b, inF (env :: frs) b → inF frs b ∨ b = env.locals := fun b hb => by
    obtain ⟨e', he', hf'⟩ := List.mem_filterMap.mp hb
    rcases List.mem_cons.mp he' with rfl | he'
    · rw [hloc] at hf'; cases hf'; exact .inr rfl
    · exact .inl (List.mem_filterMap.mpr ⟨e', he', hf'⟩)
  have slot : ∀ s₃ : Shared, Sl (inF (env :: frs)) s₂.heap s₃.heap → Bd DD mg mb X' T env s₃ g₀ ([("items", .ref al)] : Loc) [] s₃ := fun s₃ k => B₂.slot fx k (fun b hb => (hin b hb).elim (fun q => hXX b q) fun e => e ▸ fx.tx _ hTl) (fun b hb => (hin b hb).elim (hF0 b) fun e => e ▸ fx.new _ hTl) FF₂.fo
  have hl₂ : IL s₂.heap al [] := let ⟨vs, ⟨n, e⟩, i⟩ := hl; ⟨vs, ⟨n, keep2 _ _ e⟩, i⟩
  refine wpAny_mono (fmean_raises (n := n) hA1 hfr1 FF₂ B₂.st.base f1 hl₂) (fun _ _ f => f.elim) fun e s₃ fl => ?_
  obtain ⟨a, C, t, tk, rfl, hC, hfl, htup, htn, hup, e1, e2, e3⟩ := fl
  have slOf : ∀ h : Heap, (hideAll s₂.heap ((env :: frs).filterMap (·.frame))).StaysIn h → s₂.heap.UpToSlots h → Sl (inF (env :: frs)) s₂.heap h := fun h k1 k2 b o e => ⟨fun f => k1 b o (hideAll_get _ e f), fun q => k2 b o e q⟩
  refine wpAny_looks_onW hfr1 hloc hfl fun h₄ hheld₄ hsm₄ => wpAny_landsW hheld₄ fun h₅ hfl₅ hsm₅ => ?_
  have up5 := (hup.trans hsm₄).trans hsm₅
  have B₅ := slot { s₃ with heap := h₅ } (slOf h₅ hfl₅.1 up5)
  obtain ⟨C', N, nm, q, bs, hdct, sn, sub, ab, col, dd, k0, k1, k2, k3, k5, mN, c1, c2, c3, c4, c5⟩ := B₅.st.base.sm.own
  obtain rfl : C = C' := by rw [hC] at c1; cases c1; rfl
  obtain ⟨ob5, hob5, hcl5⟩ := hfl₅.there
  refine wpAny_handleBy_cons (codeAny_handlers_test (glob_any B₅.st ((hk _).trans rfl) hC ?_)) (by intro q; cases q)
  refine wpAny_excMatches_sub_self c2 hob5 hcl5 (by decide +kernel) (codeAny_handlers_suite_as ?_)
  refine lands_againW hfl₅ fun h₆ hfl₆ hsm₆ => ?_
  have up6 := up5.trans hsm₆
  have sl6 := slOf h₆ hfl₆.1 up6
  have B₆ := slot { s₃ with heap := h₆ } sl6
  obtain ⟨oe, vse, hoe, hoec, hoed, hoe0⟩ := hfl₆.first
  obtain ⟨ot, nt, hot, hotc, hotd⟩ := ((htup.of_slots hsm₄).of_slots hsm₅).of_slots hsm₆
  have notT : ∀ b o, h₆.get? b = some o → (∀ es ep, o.data ≠ .dict es ep) → (hideAll s₂.heap ((env :: frs).filterMap (·.frame))).get? b = none → ¬ T b := fun b o e hd hb t => by
    obtain ⟨ob, eb⟩ := B₂.live b t
    by_cases q : inF (env :: frs) b
    · obtain ⟨m, n⟩ := FF₂.fo b q
      obtain ⟨o', es, ep, e', d', _⟩ := sl6.ns n
      have e' : h₆.get? b = some o' := e'
      rw [e] at e'; cases e'
      exact hd es ep d'
    · rw [hideAll_get _ eb q] at hb; cases hb
  have nTa : ¬ T a := notT a oe hoe (fun es ep q => by rw [hoed] at q; cases q) hfl₆.2.1
  have nTt : ¬ T t := notT t ot hot (fun es ep q => by rw [hotd] at q; cases q) htn
  refine bd_store fx B₆ (.inl ((hk _).trans rfl)) (.ref a) fun s₇ b₇ B₇ => ?_
  refine wpAny_execs_cons (wpAny_Return_some (wpAny_Compare1 (wpAny_Call_NameR (built_any B₇.st ((hk _).trans rfl) (by decide) (by decide +kernel : bootBuiltins "str" = some (.type "str")) (by decide) ?_))))
  refine PyProof.Rows.callWith_type1 (Ev.use ((evs_cons (ev_name (D := DD) (prog := PG) (w := w) (mg := mg) (mb := mb) (A := (A.deeper env).mark (some (.ref a))) (x := "caught") (ρ := ([("caught", .ref a), ("items", .ref al)] : Loc)) (pv := .ref a) rfl) evs_nil) X' s₇ B₇.st) fun vs s₈ o₈ r₈ => ?_)
  obtain ⟨v, rfl, rv⟩ := r₈.one
  cases rv
  have B₈ := B₇.up o₈
  obtain ⟨C', N', nm', q', bs', hdct', sn', sub', ab', col', dd', k0', k1', k2', k3', k5', mN', c1', c2', c3', c4', c5'⟩ := B₈.st.base.sm.own
  obtain rfl : C = C' := by rw [hC] at c1'; cases c1'; rfl
  have hoe8 := o₈.grow _ _ (b₇.keep a oe nTa hoe)
  have hot8 := o₈.grow _ _ (b₇.keep t ot nTt hot)
  obtain ⟨h8, g8, d8, t8, os8⟩ := s₈
  refine k_str_own (by show A.units + 3 + 2 < cLine; have := hA.units; omega) c2' c3' c5' hoe8 hoec hoed hoe0 ⟨ot, nt, hot8, hotc, hotd⟩ ?_
  refine Ev.use (ev_str (D := DD) (prog := PG) (w := w) (mg := mg) (mb := mb) (A := (A.deeper env).mark (some (.ref a))) (x := msgNone) X' _ B₈.st) fun v s₉ o₉ r₉ => ?_
  refine Ev.use (c_eqs msgNone msgNone X' s₉ _ _ (B₈.up o₉).st.live (.str _ _) r₉) fun r s₁₀ o₁₀ hr => ?_
  subst hr
  have B₁₀ := (B₈.up o₉).up o₁₀
  obtain ⟨m10, n10⟩ : ∃ m, s₁₀.heap.Ns env.locals m := by
    cases B₁₀.slots "items" (.inl ((hk _).trans rfl)) with
    | loc m _ n _ => exact ⟨m, n⟩
    | cell c v k' => rw [hk] at k'; cases k'
  refine wpAny_nameGoes ((hk _).trans rfl) n10 (by rw [fx.fe.kind]; rfl) fun h₁₁ m₁₁ n₁₁ sb => ?_
  refine ⟨rfl, ?_⟩
  have z1 : BF (inF frs) T s s₂ := bt12.bf
  have z2 : BF (inF frs) T s₂ { s₃ with heap := h₆ } := ⟨fun b o n eb => ⟨fun f => (sl6 b o eb).1 fun q => (hin b q).elim f fun q => n (q ▸ hTl), (sl6 b o eb).2⟩, e1, e2, e3⟩
  have z3 : But T { s₃ with heap := h₆ } s₁₀ := ((b₇.trans o₈.but).trans o₉.but).trans o₁₀.but
  have z4 : But T s₁₀ { s₁₀ with heap := h₁₁, toks := s₁₀.toks + 1 } := But.same sb hTl
  have zz : BF (inF frs) T s { s₁₀ with heap := h₁₁, toks := s₁₀.toks + 1 } := (z1.trans z2).trans (z3.trans z4).bf
  exact ⟨fun b o _ e => zz.keep b o (hTs b o e) e, zz.gens, zz.drawn, zz.os⟩
end
end Mine
end

section
open PySem PySem.W PySem.Calls PyProof.Rows PySem.Spec
set_option maxRecDepth 100000
namespace Mine
section
variable {D : List DefRec} {prog : Program} {w : World} {mg mb : Str → Option Value} {A : Around} {env : Env} {ρ ρ' ρ₁ ρ₂ : Loc} {X T : Addr → Prop} {g : Shared} {g₀ : Heap} {M M' : Mut}
theorem fresh_push {s s₂ : Shared} (o : Ok s s₂) : s.heap.get? s₂.heap.objs.size = none := by
  cases q : s.heap.get? s₂.heap.objs.size with
  | none => rfl
  | some ob => have := o.grow _ _ q; rw [Heap.get?_none_of_le (Nat.le_refl _)] at this; cases this
theorem evn_cat {l r : Expr} {p : Pos} {xs ys : List Int} (hl : EV D prog w mg mb A env ρ l (.list (pints xs))) (hr : EV D prog w mg mb A env ρ r (.list (pints ys))) (h : xs.length + ys.length ≤ sizeLine) : EVN D prog w mg mb A env ρ (.BinOp l .Add r p) (xs ++ ys) := fun X s S => by
  refine wpAny_BinOp (Ev.use (hl X s S) fun u s₁ o₁ r₁ => Ev.use (hr X s₁ (S.ok o₁)) fun v s₂ o₂ r₂ => ?_)
  have r₁' := r₁.up o₂.grow
  cases r₁' with
  | @list l vs _ nl hl rl =>
  cases r₂ with
  | @list b ws _ nb hb rb =>
  obtain ⟨n, ho⟩ := hl
  obtain ⟨n2, ho2⟩ := hb
  have e : vs.toArray ++ ws.toArray = (vs ++ ws).toArray := by simp
  refine concat_meets ⟨_, ho, rfl⟩ ⟨_, ho2, rfl⟩ noFill_list_add seq_list_add PySem.F.slot_list_add PySem.F.entry_list_add (PySem.F.args_list_add_2 _ _) (list_addW l b vs.toArray ws.toArray n n2 none none #[] #[] (by simpa [rl.length, rb.length] using h)) ⟨ho, ho2, ?_⟩
  rw [e]
  exact ⟨(o₁.trans o₂).trans (Ok.mk' (tk := s₂.toks) (Grow.push _ _)), s₂.heap.objs.size, vs ++ ws, rfl, fresh_push (o₁.trans o₂), ⟨_, Heap.get?_push_size _ rfl⟩, rl.ints.append rb.ints⟩
theorem evn_copy {e : Expr} {p pos : Pos} {xs : List Int} (hk : env.kindOf "list" = some .globalImplicit) (he : EV D prog w mg mb A env ρ e (.list (pints xs))) (h : xs.length ≤ sizeLine)
    (he' : starEach [e] env = [(false, eval e env)] := by rfl) : EVN D prog w mg mb A env ρ (.Call (.Name "list" p) [e] [] pos) xs := fun X s S => by
  refine wpAny_Call_NameR (built_any S hk (by decide) (by decide +kernel : bootBuiltins "list" = some (.type "list")) (by decide) ?_)
  refine PyProof.Rows.callWith_type1 (Ev.use ((evs_cons he evs_nil he') X s S) fun vs s₁ o₁ r₁ => ?_) he' rfl
  obtain ⟨v, rfl, rv⟩ := r₁.one
  cases rv with
  | @list a vs _ nl hl q =>
    obtain ⟨n, ho⟩ := hl
    refine call_list_seq a (.inl rfl) ho rfl rfl (fun h' c' hk hD => ⟨o₁.trans (Ok.mk' (tk := s₁.toks) hk), _, vs, rfl, fresh_push o₁, ⟨c', hD⟩, q.ints⟩) (by simpa [q.length] using h)
theorem evn_comp {elt iter : Expr} {g0 : Comprehension} {gs : List Comprehension} {scope : Scope} {pos : Pos} {xs : List Int} (h : CP D prog w mg mb A env ρ (.ListComp elt (g0 :: gs) scope pos) iter scope (pints xs))
    (hi : firstIter (g0 :: gs) env = eval iter env := by rfl) (ha : firstAsync (g0 :: gs) = false := by rfl) : EVN D prog w mg mb A env ρ (.ListComp elt (g0 :: gs) scope pos) xs := fun X s S => by
  show wpAny _ A (eval (.ListComp elt (g0 :: gs) scope pos) env) _ _ s
  rw [eval_ListComp, hi, ha]
  refine h _ X s S none _ _ fun Da C s' o hC hD hDC hns ac => ?_
  obtain ⟨m, n⟩ := hns
  refine ⟨m, n, fun h' hs => ?_⟩
  obtain ⟨ys, p, r⟩ := ac
  have B : But (· = C) s' { s' with heap := h' } := But.same (tk := s'.toks) hs rfl
  have gr : Grow s.heap h' := fun b o' e => B.keep b o' (fun q => by rw [q, hC] at e; cases e) (o.grow b o' e)
  exact ⟨⟨gr, o.gens, o.drawn, o.os⟩, Da, ys, rfl, hD, p.at fun o' e => B.keep Da o' hDC e, r.ints⟩

theorem Bd.slotZ {F Z : Addr → Prop} {s s' : Shared} (fx : Fx D mg mb env T X g₀) (B : Bd D mg mb X T env g g₀ ρ M s) (k : ∀ b o, ¬ Z b → s.heap.get? b = some o → (¬ F b → s'.heap.get? b = some o) ∧ ((∀ vs, o.data ≠ .fields vs) → ∃ sl, s'.heap.get? b = some { o with slots := sl }))
    (hX : ∀ b, F b → X b) (hg0 : ∀ b, F b → g₀.get? b = none) (hd : FO F s.heap) (hb : But T s s') (hZ : ∀ b, Z b → T b ∧ (∃ its, s.heap.PlainList b its) ∧ ∃ o, s'.heap.get? b = some o) (hM : ∀ p ∈ M', T p.1 ∧ ∃ vs, s'.heap.PlainList p.1 vs.toArray ∧ IntsAre vs p.2) : Bd D mg mb X T env g g₀ ρ M' s' := by
  have zt : ∀ b, Z b → T b := fun b z => (hZ b z).1
  have gr' : Grow g₀ s'.heap := hb.grow fx.new B.gr
  have ns : ∀ a m, s.heap.Ns a m → s'.heap.Ns a m := fun a m n => by
    have nz : ¬ Z a := fun z => by obtain ⟨_, ⟨its, p⟩, _⟩ := hZ a z; exact ns_ne_list n p rfl
    obtain ⟨o, es, ep, e, d, r⟩ := n
    obtain ⟨sl, e'⟩ := (k a o nz e).2 fun vs q => by rw [d] at q; cases q
    exact ⟨_, es, ep, e', d, r⟩
  have cell : ∀ a v, s.heap.IsCell a v → s'.heap.IsCell a v := fun a v n => by
    have nz : ¬ Z a := fun z => by obtain ⟨_, ⟨its, p⟩, _⟩ := hZ a z; exact cell_ne_list n p rfl
    obtain ⟨o, e, d⟩ := n
    obtain ⟨sl, e'⟩ := (k a o nz e).2 fun vs q => by rw [d] at q; cases q
    exact ⟨_, e', d⟩
  have lv : ∀ b, (∃ o, s.heap.get? b = some o) → ∃ o, s'.heap.get? b = some o := fun b hb => by
    obtain ⟨o, e⟩ := hb
    by_cases z : Z b
    · exact (hZ b z).2.2
    · by_cases q : F b
      · obtain ⟨m, n⟩ := hd b q
        obtain ⟨o', _, _, e', _⟩ := ns b m n
        exact ⟨o', e'⟩
      · exact ⟨o, (k b o z e).1 q⟩
  have K : Kp X s.heap s'.heap := fun b o n e _ => (k b o (fun z => n (fx.tx b (zt b z))) e).1 fun f => n (hX b f)
  refine ⟨⟨fx.base.up gr', fx.fe, fun a ha => lv a (B.st.live a ha), fun n pv hn => ?_⟩, B.but.trans hb, gr', fun x hx => ?_, fun a ha => lv a (B.live a ha), hM⟩
  · cases B.st.has n pv hn with
    | loc m v a b c d => exact .loc m v a (ns _ _ b) c (d.kp K)
    | cell c v a l i d => exact .cell c v a l (cell _ _ i) (d.kp K)
    | free c v a l i d q => exact .free c v a l (cell _ _ i) (d.kp K) q
  · cases B.slots x hx with
    | loc m a n t => exact .loc m a (ns _ _ n) t
    | cell c v a l i t => exact .cell c v a l (cell _ _ i) t
end
end Mine
end

section
open PySem PySem.W PySem.Calls PyProof.Rows PySem.Spec
set_option maxRecDepth 100000
namespace Mine
section
variable {w : World} {mg mb : Str → Option Value} {A : Around} {env : Env} {ρ ρ' ρ₁ ρ₂ : Loc} {X T : Addr → Prop} {g : Shared} {g₀ : Heap} {M M' : Mut}
structure LawF (A : Around) (env : Env) (T : Addr → Prop) : Prop where
  fr : A.frames = some [env]
  loc : env.frame = some env.locals
  tl : T env.locals
  some : ∃ y, env.kindOf y = some .local
theorem LawF.one (L : LawF A env T) {b : Addr} (h : inF [env] b) : b = env.locals := by
  obtain ⟨e', he', hf'⟩ := List.mem_filterMap.mp h
  rw [List.mem_singleton.mp he', L.loc] at hf'
  exact (Option.some.inj hf').symm
theorem LawF.ff (L : LawF A env T) (fx : Fx DD mg mb env T X g₀) {s : Shared} (B : Bd DD mg mb X T env g g₀ ρ M s) : FF [env] s.heap := fun e' he' => by
  rw [List.mem_singleton.mp he']
  obtain ⟨y, hy⟩ := L.some
  cases B.slots y (.inl hy) with
  | loc m _ n _ => exact ⟨by rw [fx.fe.kind]; decide, _, m, L.loc, n⟩
  | cell c v k' => rw [hy] at k'; cases k'
theorem LawF.more (L : LawF A env T) {T' : Addr → Prop} (h : ∀ a, T a → T' a) : LawF A env T' := ⟨L.fr, L.loc, h _ L.tl, L.some⟩

/-- the call of unorderable_list_difference with two new lists -/
theorem ex_uld {e1 e2 : Expr} {p pos : Pos} {xs ys : List Int} {n : Nat} (hA : Rm (n + 1) A) (L : LawF A env T) (fx : Fx DD mg mb env T X g₀) (hk : env.kindOf "unorderable_list_difference" = some .globalImplicit)
    (h1 : EVN DD PG w mg mb A env ρ e1 xs) (h2 : EVN DD PG w mg mb A env ρ e2 ys) (lx : xs.length ≤ 1000) (ly : ys.length ≤ 1000) {s : Shared} (B : Bd DD mg mb X T env g g₀ ρ M s)
    (he : starEach [e1, e2] env = (false, eval e1 env) :: starEach [e2] env := by rfl) (he2 : starEach [e2] env = (false, eval e2 env) :: starEach [] env := by rfl) :
    wpAny (model PG w) A (eval (.Call (.Name "unorderable_list_difference" p) [e1, e2] [] pos) env) (fun v s' => But T s s' ∧ Bd DD mg mb X T env g g₀ ρ M s' ∧ Rep X s'.heap v (pair2 (uld xs ys).1 (uld xs ys).2)) (fun _ _ => False) s := by
  obtain ⟨f, o, pm, code, doc, q1, q2, q3, q4⟩ := B.st.base.fn (dAt 2) (mem_dd (by decide))
  have e1 : (dAt 2).name = "unorderable_list_difference" := rfl
  rw [e1] at q1
  refine wpAny_Call_NameR (glob_any B.st hk q1 (callWith_def q3 ?_ he))
  refine args_cons (wpAny_mono (h1 X s B.st) (fun v s₁ a1 => ?_) fun _ _ f => f.elim) he
  obtain ⟨o₁, ae, vs1, rfl, n1, p1, i1⟩ := a1
  refine args_cons (wpAny_mono (h2 X s₁ (B.st.ok o₁)) (fun v s₂ a2 => ?_) fun _ _ f => f.elim) he2
  obtain ⟨o₂, aa, vs2, rfl, n2, p2, i2⟩ := a2
  have B₂ := (B.up o₁).up o₂
  have oo := o₁.trans o₂
  refine args_nil ⟨oo.grow _ _ q2, ?_⟩
  have g0 : ∀ a, s.heap.get? a = none → g₀.get? a = none := fun a h => by
    cases q : g₀.get? a with
    | none => rfl
    | some ob => rw [B.gr a ob q] at h; cases h
  have n2' : s.heap.get? aa = none := by
    cases q : s.heap.get? aa with
    | none => rfl
    | some ob => rw [o₁.grow _ _ q] at n2; cases n2
  have hne : ae ≠ aa := fun e => by
    obtain ⟨m, e'⟩ := p1
    rw [e, n2] at e'; cases e'
  refine wpAny_mono (f_uld (n := n) (g₀ := g₀) hA L.fr q1 fx.base B₂.gr (L.ff fx B₂) (fun b hb => by rw [L.one hb]; exact fx.new _ L.tl) (g0 _ n1) (g0 _ n2') hne ⟨vs1, p1.at fun o e => o₂.grow _ _ e, i1⟩ ⟨vs2, p2, i2⟩ lx ly) (fun v s₃ q => ?_) fun _ _ f => f.elim
  obtain ⟨bf, t, am, rfl, tn, amn, it, im, il, _⟩ := q
  have kz : ∀ b o, s.heap.get? b = some o → (¬ inF [env] b → s₃.heap.get? b = some o) ∧ ((∀ vs, o.data ≠ .fields vs) → ∃ sl, s₃.heap.get? b = some { o with slots := sl }) := fun b o e =>
    bf.keep b o (fun q => q.elim (fun q => by rw [q, n1] at e; cases e) fun q => by rw [q, n2'] at e; cases e) (oo.grow _ _ e)
  have bt : But T s s₃ := ⟨fun b o nt e => (kz b o e).1 fun q => nt (L.one q ▸ L.tl), bf.gens.trans oo.gens, bf.drawn.trans oo.drawn, bf.os.trans oo.os⟩
  have lX : ∀ a, s₂.heap.get? a = none → ¬ X a := fun a h x => by
    obtain ⟨o, e⟩ := B₂.st.live a x
    rw [h] at e; cases e
  have lX' : ∀ a, s.heap.get? a = none → ¬ X a := fun a h x => by
    obtain ⟨o, e⟩ := B.st.live a x
    rw [h] at e; cases e
  refine ⟨bt, B.slotZ (Z := fun _ => False) (F := inF [env]) fx (fun b o _ e => kz b o e) (fun b hb => by rw [L.one hb]; exact fx.tx _ L.tl) (fun b hb => by rw [L.one hb]; exact fx.new _ L.tl) (L.ff fx B).fo bt (fun _ z => z.elim) (fun p hp => ?_), ?_⟩
  · obtain ⟨tp, vs, pl, ip⟩ := B.muts p hp
    refine ⟨tp, vs, pl.at fun o e => (kz _ o e).1 fun q => ?_, ip⟩
    obtain ⟨m, n⟩ := (L.ff fx B).fo _ q
    exact ns_ne_list n pl rfl
  · obtain ⟨us, pu, iu⟩ := im
    obtain ⟨ws, pw, iw⟩ := il
    exact .tup (vs := [.ref am, .ref aa]) (lX _ tn) it (.cons (.list (lX _ amn) pu (Reps.of_ints iu)) (.cons (.list (lX' _ n2') pw (Reps.of_ints iw)) .nil))
end
end Mine
end

section
open PySem PySem.W PySem.Calls PyProof.Rows PySem.Spec
set_option maxRecDepth 100000
namespace Mine
section
variable {w : World} {mg mb : Str → Option Value} {A : Around} {env : Env} {ρ ρ' ρ₁ ρ₂ : Loc} {X T : Addr → Prop} {g : Shared} {g₀ : Heap} {M M' : Mut}
theorem st_uld_skip {e1 e2 r : Expr} {p pos cp ip : Pos} {body : List Stmt} {xs ys a b : List Int} {n : Nat} (hA : Rm (n + 1) A) (L : LawF A env T) (fx : Fx DD mg mb env T X g₀) (hk : env.kindOf "unorderable_list_difference" = some .globalImplicit)
    (h1 : EVN DD PG w mg mb A env ρ e1 xs) (h2 : EVN DD PG w mg mb A env ρ e2 ys) (lx : xs.length ≤ 1000) (ly : ys.length ≤ 1000) (hr : EV DD PG w mg mb A env ρ r (pair2 a b)) (hu : uld xs ys = (a, b))
    (he : starEach [e1, e2] env = (false, eval e1 env) :: starEach [e2] env := by rfl) (he2 : starEach [e2] env = (false, eval e2 env) :: starEach [] env := by rfl) (hm : behindInMarks .NotEq r = false := by rfl) :
    ST DD PG w mg mb A env X T g g₀ (.If (.Compare (.Call (.Name "unorderable_list_difference" p) [e1, e2] [] pos) [.NotEq] [r] cp) body [] ip) ρ M ρ M := fun s B => by
  refine wpAny_If (wpAny_isTrue_Compare1 (wpAny_mono (ex_uld (n := n) hA L fx hk h1 h2 lx ly B he he2) (fun v s₁ q => ?_) fun _ _ f => f.elim) hm)
  obtain ⟨b1, B₁, r₁⟩ := q
  refine Ev.use (hr X s₁ B₁.st) fun u s₂ o₂ r₂ => ?_
  rw [hu] at r₁
  refine Ev.use (c_nep a b a b (by have := hA.units; omega) X s₂ v u (B₁.up o₂).st.live (r₁.up o₂.grow) r₂) fun t s₃ o₃ ht => ?_
  subst ht
  refine wpAny_truthy_bool ?_
  have e : (!(a == a && b == b)) = false := by simp
  rw [e, if_neg (by decide)]
  exact wpAny_execs_nil ⟨rfl, b1.trans (o₂.trans o₃).but, (B₁.up o₂).up o₃⟩
theorem st_uld_set {x : Str} {px ap : Pos} {e1 e2 : Expr} {p pos : Pos} {xs ys : List Int} {n : Nat} (hA : Rm (n + 1) A) (L : LawF A env T) (fx : Fx DD mg mb env T X g₀) (hk : env.kindOf "unorderable_list_difference" = some .globalImplicit)
    (hx : env.kindOf x = some .local ∨ env.kindOf x = some .cell) (h1 : EVN DD PG w mg mb A env ρ e1 xs) (h2 : EVN DD PG w mg mb A env ρ e2 ys) (lx : xs.length ≤ 1000) (ly : ys.length ≤ 1000)
    (he : starEach [e1, e2] env = (false, eval e1 env) :: starEach [e2] env := by rfl) (he2 : starEach [e2] env = (false, eval e2 env) :: starEach [] env := by rfl) :
    ST DD PG w mg mb A env X T g g₀ (.Assign [.Name x px] (.Call (.Name "unorderable_list_difference" p) [e1, e2] [] pos) ap) ρ M ((x, pair2 (uld xs ys).1 (uld xs ys).2) :: ρ) M := fun s B => by
  refine wpAny_Assign_Name (wpAny_mono (ex_uld (n := n) hA L fx hk h1 h2 lx ly B he he2) (fun v s₁ q => ?_) fun _ _ f => f.elim) rfl
  obtain ⟨b1, B₁, r₁⟩ := q
  exact bd_store fx B₁ hx r₁ fun s₂ b₂ B₂ => ⟨rfl, b1.trans b₂, B₂⟩

/-- spent = unorderable_list_difference(bag, gains), both changing -/
theorem st_spent {x l1 l2 : Str} {px ap p1 p2 p pos : Pos} {a1 a2 : Addr} {xs ys : List Int} {n : Nat} (hA : Rm (n + 1) A) (L : LawF A env T) (fx : Fx DD mg mb env T X g₀) (hk : env.kindOf "unorderable_list_difference" = some .globalImplicit)
    (hx : env.kindOf x = some .local ∨ env.kindOf x = some .cell) (h1 : ρ.lookup l1 = some (.ref a1)) (h2 : ρ.lookup l2 = some (.ref a2)) (hne : a1 ≠ a2) (lx : xs.length ≤ 1000) (ly : ys.length ≤ 1000)
    (hd1 : (l1 == ("__debug__" : Str)) = false := by decide) (hd2 : (l2 == ("__debug__" : Str)) = false := by decide) :
    ST DD PG w mg mb A env X T g g₀ (.Assign [.Name x px] (.Call (.Name "unorderable_list_difference" p) [.Name l1 p1, .Name l2 p2] [] pos) ap) ρ [(a1, xs), (a2, ys)] ((x, .tup [.list (pints (uld xs ys).1), .ref a2]) :: ρ) [(a1, []), (a2, (uld xs ys).2)] := fun s B => by
  obtain ⟨f, o, pm, code, doc, q1, q2, q3, q4⟩ := B.st.base.fn (dAt 2) (mem_dd (by decide))
  have e1 : (dAt 2).name = "unorderable_list_difference" := rfl
  rw [e1] at q1
  refine wpAny_Assign_Name (wpAny_Call_NameR (glob_any B.st hk q1 (callWith_def q3 (Ev.use ((evs_cons (ev_name (D := DD) (prog := PG) (w := w) (mg := mg) (mb := mb) (A := A) h1 hd1) (evs_cons (ev_name h2 hd2) evs_nil)) X s B.st) fun vs s₂ o₂ r₂ => ⟨o₂.grow _ _ q2, ?_⟩) rfl))) rfl
  obtain ⟨u, v, rfl, ru, rv⟩ := r₂.two
  cases ru; cases rv
  have B₂ := B.up o₂
  obtain ⟨t1, i1⟩ := B₂.muts (a1, xs) (.head _)
  obtain ⟨t2, i2⟩ := B₂.muts (a2, ys) (.tail _ (.head _))
  refine wpAny_mono (f_uld (n := n) (g₀ := g₀) hA L.fr q1 fx.base B₂.gr (L.ff fx B₂) (fun b hb => by rw [L.one hb]; exact fx.new _ L.tl) (fx.new _ t1) (fx.new _ t2) hne i1 i2 lx ly) (fun v s₃ q => ?_) fun _ _ f => f.elim
  obtain ⟨bf, t, am, rfl, tn, amn, it, im, il, ie⟩ := q
  have bt : But T s₂ s₃ := ⟨fun b o nt e => (bf.keep b o (fun q => q.elim (fun q => nt (q ▸ t1)) fun q => nt (q ▸ t2)) e).1 fun q => nt (L.one q ▸ L.tl), bf.gens, bf.drawn, bf.os⟩
  have lX : ∀ a, s₂.heap.get? a = none → ¬ X a := fun a h x => by
    obtain ⟨o, e⟩ := B₂.st.live a x
    rw [h] at e; cases e
  have B₃ : Bd DD mg mb X T env g g₀ ρ [(a1, []), (a2, (uld xs ys).2)] s₃ := B₂.slotZ (Z := fun b => b = a1 ∨ b = a2) (F := inF [env]) fx (fun b o nz e => bf.keep b o nz e) (fun b hb => by rw [L.one hb]; exact fx.tx _ L.tl) (fun b hb => by rw [L.one hb]; exact fx.new _ L.tl) (L.ff fx B₂).fo bt (fun b z => by
      rcases z with rfl | rfl
      · obtain ⟨vs, p, _⟩ := i1
        obtain ⟨vs', ⟨m, e⟩, _⟩ := ie
        exact ⟨t1, ⟨_, p⟩, _, e⟩
      · obtain ⟨vs, p, _⟩ := i2
        obtain ⟨vs', ⟨m, e⟩, _⟩ := il
        exact ⟨t2, ⟨_, p⟩, _, e⟩) (fun p hp => by
      rcases List.mem_cons.mp hp with rfl | hp
      · exact ⟨t1, ie⟩
      · rw [List.mem_singleton.mp hp]; exact ⟨t2, il⟩)
  obtain ⟨us, pu, iu⟩ := im
  have rr : Rep X s₃.heap (.ref t) (.tup [.list (pints (uld xs ys).1), .ref a2]) := .tup (vs := [.ref am, .ref a2]) (lX _ tn) it (.cons (.list (lX _ amn) pu (Reps.of_ints iu)) (.cons (.ref a2) .nil))
  exact bd_store fx B₃ hx rr fun s₄ b₄ B₄ => ⟨rfl, (o₂.but.trans bt).trans b₄, B₄⟩
end
end Mine
end

section
open PySem PySem.W PySem.Calls PyProof.Rows PySem.Spec
set_option maxRecDepth 100000
namespace Mine
section
variable {w : World} {mg mb : Str → Option Value} {A : Around} {env : Env} {ρ ρ' ρ₁ ρ₂ : Loc} {X T : Addr → Prop} {g : Shared} {g₀ : Heap} {M M' : Mut}
theorem c_isnot (a : Addr) : CMP PG w A .IsNot (.ref a) (.ref a) false := fun X s u v hX hu hv => by
  cases hu; cases hv
  exact PyProof.Rows.isnot_ref_same ⟨Ok.refl _, rfl⟩
/-- a test that may change what is the body's own -/
def TX (w : World) (mg mb : Str → Option Value) (A : Around) (env : Env) (X T : Addr → Prop) (g : Shared) (g₀ : Heap) (ρ : Loc) (M : Mut) (e : Expr) (t : Bool) : Prop :=
  ∀ s, Bd DD mg mb X T env g g₀ ρ M s → wpAny (model PG w) A (PySem.isTrue e env (eval e env)) (fun b s' => b = t ∧ But T s s' ∧ Bd DD mg mb X T env g g₀ ρ M s') (fun _ _ => False) s
theorem tx_of {e : Expr} {t : Bool} (h : TR DD PG w mg mb A env ρ e t) : TX w mg mb A env X T g g₀ ρ M e t := fun s B => Ev.use (h X s B.st) fun b s' o e => ⟨e, o.but, B.up o⟩
def TXs (w : World) (mg mb : Str → Option Value) (A : Around) (env : Env) (X T : Addr → Prop) (g : Shared) (g₀ : Heap) (ρ : Loc) (M : Mut) (es : List Expr) : Prop :=
  ∀ s, Bd DD mg mb X T env g g₀ ρ M s → wpAny (model PG w) A (allTrue .Or es env) (fun b s' => b = false ∧ But T s s' ∧ Bd DD mg mb X T env g g₀ ρ M s') (fun _ _ => False) s
theorem txs_nil : TXs w mg mb A env X T g g₀ ρ M [] := fun s B => wpAny_allTrue_Or_nil ⟨rfl, But.refl _ _, B⟩
theorem txs_cons {x : Expr} {rest : List Expr} (h : TX w mg mb A env X T g g₀ ρ M x false) (hr : TXs w mg mb A env X T g g₀ ρ M rest) : TXs w mg mb A env X T g g₀ ρ M (x :: rest) := fun s B =>
  wpAny_allTrue_Or_cons (wpAny_mono (h s B) (fun b s₁ q => by
    obtain ⟨rfl, b1, B₁⟩ := q
    rw [if_neg (by decide)]
    exact wpAny_mono (hr s₁ B₁) (fun b s₂ q => ⟨q.1, b1.trans q.2.1, q.2.2⟩) fun _ _ f => f) fun _ _ f => f)
theorem tx_or {xs : List Expr} {p : Pos} (h : TXs w mg mb A env X T g g₀ ρ M xs) : TX w mg mb A env X T g g₀ ρ M (.BoolOp .Or xs p) false := fun s B => wpAny_isTrue_BoolOp (h s B)
theorem st_skipx {test : Expr} {body : List Stmt} {p : Pos} (h : TX w mg mb A env X T g g₀ ρ M test false) : ST DD PG w mg mb A env X T g g₀ (.If test body [] p) ρ M ρ M := fun s B =>
  wpAny_If (wpAny_mono (h s B) (fun b s₁ q => by
    obtain ⟨rfl, b1, B₁⟩ := q
    rw [if_neg (by decide)]
    exact wpAny_execs_nil ⟨rfl, b1, B₁⟩) fun _ _ f => f)

theorem rep_mut {s : Shared} (B : Bd DD mg mb X T env g g₀ ρ M s) {a : Addr} {ns : List Int} (hm : (a, ns) ∈ M) : Rep (fun _ => False) s.heap (.ref a) (.list (pints ns)) := by
  obtain ⟨_, vs, p, i⟩ := B.muts _ hm
  exact .list (fun f => f) p (Reps.of_ints i)
/-- l != [..], l a list that changes -/
theorem tx_nel {x : Str} {px p : Pos} {r : Expr} {a : Addr} {ns ms : List Int} (hu : A.units < cLine) (hx : ρ.lookup x = some (.ref a)) (hm : (a, ns) ∈ M) (hr : EV DD PG w mg mb A env ρ r (.list (pints ms))) (hd : (x == ("__debug__" : Str)) = false := by decide) (hmk : behindInMarks .NotEq r = false := by rfl) :
    TX w mg mb A env X T g g₀ ρ M (.Compare (.Name x px) [.NotEq] [r] p) (!(ns == ms)) := fun s B =>
  wpAny_isTrue_Compare1 (Ev.use (ev_name (D := DD) (mg := mg) (mb := mb) hx hd X s B.st) fun v s₁ o₁ r₁ => Ev.use (hr X s₁ (B.up o₁).st) fun u s₂ o₂ r₂ => by
    cases r₁
    have B₂ := (B.up o₁).up o₂
    refine Ev.use (c_nel ns ms hu (fun _ => False) s₂ _ _ (fun _ f => f.elim) (rep_mut B₂ hm) (r₂.re fun _ f => f.elim)) fun q s₃ o₃ e => ?_
    subst e
    exact wpAny_truthy_bool ⟨rfl, ((o₁.trans o₂).trans o₃).but, B₂.up o₃⟩) hmk
/-- t != ([..], [..]), t's second part a list that changes -/
theorem tx_nep {x : Str} {px p : Pos} {r : Expr} {ag : Addr} {as bs cs ds : List Int} (hu : A.units + 1 < cLine) (hx : ρ.lookup x = some (.tup [.list (pints as), .ref ag])) (hm : (ag, bs) ∈ M) (hr : EV DD PG w mg mb A env ρ r (pair2 cs ds)) (hd : (x == ("__debug__" : Str)) = false := by decide) (hmk : behindInMarks .NotEq r = false := by rfl) :
    TX w mg mb A env X T g g₀ ρ M (.Compare (.Name x px) [.NotEq] [r] p) (!(as == cs && bs == ds)) := fun s B =>
  wpAny_isTrue_Compare1 (Ev.use (ev_name (D := DD) (mg := mg) (mb := mb) hx hd X s B.st) fun v s₁ o₁ r₁ => Ev.use (hr X s₁ (B.up o₁).st) fun u s₂ o₂ r₂ => by
    have B₂ := (B.up o₁).up o₂
    have r₁' := r₁.up o₂.grow
    cases r₁' with
    | @tup t vs _ nt it rs =>
      obtain ⟨y, z, rfl, ry, rz⟩ := rs.two
      cases rz
      have r3 : Rep (fun _ => False) s₂.heap (.ref t) (pair2 as bs) := .tup (fun f => f) it (.cons (ry.re fun _ f => f.elim) (.cons (rep_mut B₂ hm) .nil))
      refine Ev.use (c_nep as bs cs ds hu (fun _ => False) s₂ _ _ (fun _ f => f.elim) r3 (r₂.re fun _ f => f.elim)) fun q s₃ o₃ e => ?_
      subst e
      exact wpAny_truthy_bool ⟨rfl, ((o₁.trans o₂).trans o₃).but, B₂.up o₃⟩) hmk
/-- not _law_refused(gains) -/
theorem tx_refused {x : Str} {px fp cp p : Pos} {ag : Addr} {n : Nat} (hA : Rm (n + 2) A) (L : LawF A env T) (fx : Fx DD mg mb env T X g₀) (hk : env.kindOf "_law_refused" = some .globalImplicit) (hx : ρ.lookup x = some (.ref ag)) (hm : (ag, []) ∈ M) (hd : (x == ("__debug__" : Str)) = false := by decide) :
    TX w mg mb A env X T g g₀ ρ M (.UnaryOp .Not (.Call (.Name "_law_refused" fp) [.Name x px] [] cp) p) false := fun s B => by
  obtain ⟨f, o, pm, code, doc, q1, q2, q3, q4⟩ := B.st.base.fn (dAt 13) (mem_dd (by decide))
  have e1 : (dAt 13).name = "_law_refused" := rfl
  rw [e1] at q1
  refine wpAny_isTrue_Not (wpAny_isTrue_value (wpAny_Call_NameR (glob_any B.st hk q1 (callWith_def q3 (Ev.use ((evs_cons (ev_name (D := DD) (prog := PG) (w := w) (mg := mg) (mb := mb) (A := A) hx hd) evs_nil) X s B.st) fun vs s₂ o₂ r₂ => ⟨o₂.grow _ _ q2, ?_⟩) rfl))))
  obtain ⟨u, rfl, ru⟩ := r₂.one
  cases ru
  have B₂ := B.up o₂
  obtain ⟨t1, i1⟩ := B₂.muts (ag, []) hm
  refine wpAny_mono (f_refused (n := n) (g₀ := g₀) hA L.fr q1 fx.base B₂.gr (L.ff fx B₂) (fun b hb => by rw [L.one hb]; exact fx.new _ L.tl) i1) (fun v s₃ q => ?_) fun _ _ f => f.elim
  obtain ⟨rfl, bf⟩ := q
  have bt : But T s₂ s₃ := ⟨fun b o nt e => (bf.keep b o (fun q => q) e).1 fun q => nt (L.one q ▸ L.tl), bf.gens, bf.drawn, bf.os⟩
  have B₃ : Bd DD mg mb X T env g g₀ ρ M s₃ := B₂.slotZ (Z := fun _ => False) (F := inF [env]) fx (fun b o _ e => bf.keep b o (fun q => q) e) (fun b hb => by rw [L.one hb]; exact fx.tx _ L.tl) (fun b hb => by rw [L.one hb]; exact fx.new _ L.tl) (L.ff fx B₂).fo bt (fun _ z => z.elim) (fun p hp => by
    obtain ⟨tp, vs, pl, ip⟩ := B₂.muts p hp
    refine ⟨tp, vs, pl.at fun o e => (bf.keep _ o (fun q => q) e).1 fun q => ?_, ip⟩
    obtain ⟨m, n⟩ := (L.ff fx B₂).fo _ q
    exact ns_ne_list n pl rfl)
  exact wpAny_truthy_bool ⟨rfl, o₂.but.trans bt, B₃⟩
end
end Mine
end

section
open PySem PySem.W PySem.Calls PyProof.Rows PySem.Spec
set_option maxRecDepth 100000
namespace Mine
section
variable {D : List DefRec} {prog : Program} {w : World} {mg mb : Str → Option Value} {A : Around} {env : Env} {ρ ρ' ρ₁ ρ₂ : Loc} {X T : Addr → Prop} {g : Shared} {g₀ : Heap} {M M' : Mut}
/-- x = [..], swapped, a list that will change -/
theorem newcomp {elt iter : Expr} {g0 : Comprehension} {gs : List Comprehension} {scope : Scope} {pos px p : Pos} {x : Str} {ns : List Int} {sts : List Stmt} {Q : Flow → Shared → Prop} {E : Value → Shared → Prop} (fx : Fx D mg mb env T X g₀) (hb : env.blockKind = .function) (hk : env.kindOf x = some .local)
    (h : CP D prog w mg mb A env ρ (.ListComp elt (g0 :: gs) scope pos) iter scope (pints ns)) (hl : (px.line == (Expr.ListComp elt (g0 :: gs) scope pos).pos.line) = true) (hn : (scope.names.any fun y => y.1 == x && (y.2 == .local || y.2 == .cell)) = false)
    {s : Shared} (B : Bd D mg mb X T env g g₀ ρ M s)
    (hQ : ∀ (a : Addr) (s' : Shared), s.heap.get? a = none → ¬ X a → (∀ p ∈ M, p.1 ≠ a) → Fx D mg mb env (fun b => T b ∨ b = a) (fun b => X b ∨ b = a) g₀ → But (fun b => T b ∨ b = a) s s' → Bd D mg mb (fun b => X b ∨ b = a) (fun b => T b ∨ b = a) env g g₀ ((x, .ref a) :: ρ) ((a, ns) :: M) s' → wpAny (model prog w) A (execs sts env) Q E s')
    (hi : firstIter (g0 :: gs) env = eval iter env := by rfl) (ha : firstAsync (g0 :: gs) = false := by rfl) :
    wpAny (model prog w) A (execs (.Assign [.Name x px] (.ListComp elt (g0 :: gs) scope pos) p :: sts) env) Q E s := by
  refine wpAny_execs_cons ?_
  rw [exec_Assign_Name_used _ _ _ _ (swaps_comp hb hk hl hn)]
  refine wpAny_bind (wpAny_standAt (wpAny_bind ?_))
  show wpAny _ A (comprehension (.ListComp elt (g0 :: gs) scope pos) scope env (firstIterPos (g0 :: gs) pos) (newList []) (firstAsync (g0 :: gs)) (firstIter (g0 :: gs) env) (some (assign (.Name x px) env)) >>= fun _ => pure ()) _ _ s
  rw [hi, ha]
  refine wpAny_bind (h _ X s B.st (some (assign (.Name x px) env)) _ _ fun Da C s' o hC hD hDC hns ac => ?_)
  have B' := B.up o
  have hTC : ¬ T C := fun t => by obtain ⟨ob, e⟩ := B.live C t; rw [hC] at e; cases e
  obtain ⟨ys, pl, rs⟩ := ac
  obtain ⟨fx', B1⟩ := B'.add fx B o hD pl rs.ints
  show wpAny _ A (assign (.Name x px) env (.ref Da)) _ _ s'
  refine wpAny_assign_Name ?_
  let X₁ : Addr → Prop := fun b => X b ∨ b = Da
  let T₁ : Addr → Prop := fun b => T b ∨ b = Da
  let X₂ : Addr → Prop := fun a => X₁ a ∨ a = C
  obtain ⟨m, hm⟩ := hns
  have fx2 : Fx D mg mb env T₁ X₂ g₀ := ⟨fx.fe, fun a t => .inl (fx'.tx a t), fx.base, fx'.new, fx.inj, fx.nofree⟩
  have hreX : ∀ a, X₂ a → X a ∨ s.heap.get? a = none := fun a q => q.elim (fun q => q.elim .inl fun e => .inr (e ▸ hD)) fun e => .inr (e ▸ hC)
  have B2 : Bd D mg mb X₂ T₁ env g g₀ ρ ((Da, ns) :: M) s' := ⟨⟨B'.st.base, fx.fe, fun a q => q.elim (B1.st.live a) fun e => by obtain ⟨ob, _, _, e', _⟩ := hm; exact ⟨ob, e ▸ e'⟩, fun n pv hn => ((B.st.has n pv hn).re hreX).up o.grow⟩, B1.but, B1.gr, B1.slots, B1.live, B1.muts⟩
  refine bd_store fx2 B2 (.inl hk) (.ref Da) fun s₂ b₂ B₃ => ?_
  have hTC1 : ¬ T₁ C := fun t => t.elim hTC fun e => hDC e.symm
  have hm2 : s₂.heap.Ns C m := hm.at' fun ob e => b₂.keep C ob hTC1 e
  refine ⟨m, hm2, fun h' hs => wpAny_pure (wpAny_pure ?_)⟩
  have hI0 : g₀.get? C = none := by
    cases q : g₀.get? C with
    | none => rfl
    | some ob => rw [B.gr C ob q] at hC; cases hC
  have hIg : g.heap.get? C = none := by
    cases q : g.heap.get? C with
    | none => rfl
    | some ob => rw [B.but.keep C ob hTC q] at hC; cases hC
  have b3 : But (· = C) s₂ { s₂ with heap := h' } := But.same (tk := s₂.toks) hs rfl
  have Bf := B₃.next fx2 b3 (.inr rfl) hTC1 hI0 hIg (X₂ := X₁) (fun a q => .inl q) fun a q => by
    have hne : a ≠ C := fun e => by
      rcases q with q | q
      · obtain ⟨ob, e'⟩ := B.st.live a q; rw [e, hC] at e'; cases e'
      · exact hDC (q.symm.trans e)
    obtain ⟨ob, e⟩ := B₃.st.live a (.inl q)
    exact ⟨ob, b3.keep a ob hne e⟩
  have hXa : ¬ X Da := B.st.live.fresh hD
  have hMa : ∀ p ∈ M, p.1 ≠ Da := fun p hp' e => by
    obtain ⟨t, _⟩ := B.muts p hp'
    exact hXa (e ▸ fx.tx _ t)
  refine hQ Da _ hD hXa hMa fx' ⟨fun c ob tc e => ?_, ?_, ?_, ?_⟩ Bf
  · exact b3.keep c ob (fun q => by rw [q, hC] at e; cases e) (b₂.keep c ob tc (o.grow c ob e))
  · rw [show ({ s₂ with heap := h' } : Shared).gens = s₂.gens from rfl, b₂.gens, o.gens]
  · rw [show ({ s₂ with heap := h' } : Shared).drawn = s₂.drawn from rfl, b₂.drawn, o.drawn]
  · rw [show ({ s₂ with heap := h' } : Shared).os = s₂.os from rfl, b₂.os, o.os]

theorem run_wide {pv : PV} {sts : List Stmt} {a : Addr} {s s' : Shared} (B : Bd D mg mb X T env g g₀ ρ M s) (hn : s.heap.get? a = none) 
    (h : wpAny (model prog w) A (execs sts env) (fun f s' => ∃ v, f = .ret v ∧ But (fun b => T b ∨ b = a) g s' ∧ Live (fun b => X b ∨ b = a) s'.heap ∧ Rep (fun b => X b ∨ b = a) s'.heap v pv) (fun _ _ => False) s') :
    wpAny (model prog w) A (execs sts env) (fun f s' => ∃ v, f = .ret v ∧ But T g s' ∧ Live X s'.heap ∧ Rep X s'.heap v pv) (fun _ _ => False) s' :=
  wpAny_mono h (fun f s₃ q => by
    obtain ⟨v, rfl, b3, l3, r3⟩ := q
    refine ⟨v, rfl, ⟨fun c ob tc e => b3.keep c ob (fun q => q.elim tc fun q => ?_) e, b3.gens, b3.drawn, b3.os⟩, fun b q => l3 b (.inl q), r3.re fun b q => .inl (.inl q)⟩
    have := B.but.keep c ob tc e
    rw [q, hn] at this; cases this) fun _ _ f => f
theorem run_newcomp {elt iter : Expr} {g0 : Comprehension} {gs : List Comprehension} {scope : Scope} {pos px p : Pos} {x : Str} {ns : List Int} {sts : List Stmt} {pv : PV} (fx : Fx D mg mb env T X g₀) (hb : env.blockKind = .function) (hk : env.kindOf x = some .local)
    (h : CP D prog w mg mb A env ρ (.ListComp elt (g0 :: gs) scope pos) iter scope (pints ns)) (hl : (px.line == (Expr.ListComp elt (g0 :: gs) scope pos).pos.line) = true) (hn : (scope.names.any fun y => y.1 == x && (y.2 == .local || y.2 == .cell)) = false)
    (hQ : ∀ (a : Addr), (∀ p ∈ M, p.1 ≠ a) → Fx D mg mb env (fun b => T b ∨ b = a) (fun b => X b ∨ b = a) g₀ → RUN D prog w mg mb A env (fun b => X b ∨ b = a) (fun b => T b ∨ b = a) g g₀ sts ((x, .ref a) :: ρ) ((a, ns) :: M) pv)
    (hi : firstIter (g0 :: gs) env = eval iter env := by rfl) (ha : firstAsync (g0 :: gs) = false := by rfl) :
    RUN D prog w mg mb A env X T g g₀ (.Assign [.Name x px] (.ListComp elt (g0 :: gs) scope pos) p :: sts) ρ M pv := fun s B =>
  newcomp fx hb hk h hl hn B (fun a s' h1 _ h2 fx' _ B' => run_wide B h1 (hQ a h2 fx' s' B')) hi ha
theorem run_newmut {x : Str} {px p : Pos} {e : Expr} {ns : List Int} {sts : List Stmt} {pv : PV} (fx : Fx D mg mb env T X g₀) (hx : env.kindOf x = some .local ∨ env.kindOf x = some .cell) (he : EVN D prog w mg mb A env ρ e ns) (hsw : swapsWith e (some (.Name x px)) p.line env = pure false)
    (hQ : ∀ (a : Addr), (∀ p ∈ M, p.1 ≠ a) → Fx D mg mb env (fun b => T b ∨ b = a) (fun b => X b ∨ b = a) g₀ → RUN D prog w mg mb A env (fun b => X b ∨ b = a) (fun b => T b ∨ b = a) g g₀ sts ((x, .ref a) :: ρ) ((a, ns) :: M) pv) :
    RUN D prog w mg mb A env X T g g₀ (.Assign [.Name x px] e p :: sts) ρ M pv := fun s B =>
  newmut fx hx he hsw B fun a s' h1 _ h2 fx' _ B' => run_wide B h1 (hQ a h2 fx' s' B')
end
end Mine
end

section
open PySem PySem.W PySem.Calls PyProof.Rows PySem.Spec
set_option maxRecDepth 100000
namespace Mine
abbrev lawFrom (i : Nat) : List Stmt := (dAt 14).body.drop i
def base4 : List Int := [3, -2, -1, 2]
def cellsOf (ns : List Int) : List Int := (List.range 4).map fun k => base4.getD k 0 + (pickNums ns (some (k : Int)) none (some 4)).sum
def clip (x : Int) : Int := if decide (-2 ^ 40 < x) && decide (x < 2 ^ 40) then x else x.fmod (2 ^ 40)
def rowOf (ns : List Int) : List Int := (cellsOf ns).map clip
def abovesOf (row : List Int) : List Int := (ordersAt 4).map fun o => (wsAt row o o.length).above
def nonnegOf (row : List Int) : List Int := (ordersAt 4).map fun o => (o.length : Int) - (wsAt row o o.length).under
def firstsOf (row : List Int) : List Int := (ordersAt 4).map fun o => (wsAt row o o.length).first
def lastsOf (row : List Int) : List Int := (ordersAt 4).map fun o => (wsAt row o o.length).last
def highsOf (row : List Int) : List Int := (ordersAt 4).map fun o => (wsAt row o o.length).best
section
variable {w : World} {mg mb : Str → Option Value} {A : Around} {env : Env} {ρ : Loc} {X T : Addr → Prop} {g : Shared} {g₀ : Heap} {M : Mut}
def ρA (ns : List Int) : Loc := [("lasts", .list (pints (lastsOf (rowOf ns)))), ("firsts", .list (pints (firstsOf (rowOf ns)))), ("walks", .list ((ordersAt 4).map (walkV (rowOf ns)))), ("orders", .list ((ordersAt 4).map ordPV)), ("row", .list (pints (rowOf ns))), ("cells", .list (pints (cellsOf ns))), ("script", .list (pints ns))]
theorem row_len (ns : List Int) : (rowOf ns).length = 4 := by simp [rowOf, cellsOf]
theorem ord_small : ∀ o ∈ ordersAt 4, (∀ k ∈ o, k < 4) := by decide +kernel
theorem ord_cnt : (ordersAt 4).length = 24 := by decide +kernel
theorem law_a1 (ns : List Int) (hns : ns.length ≤ 63) {n : Nat} (hA : Rm (n + 3) A) (fx : Fx DD mg mb env T X g₀) (hsc : env.scope = (dAt 14).scope)
    (h : RUN DD PG w mg mb A env X T g g₀ (lawFrom 2) [("row", .list (pints (rowOf ns))), ("cells", .list (pints (cellsOf ns))), ("script", .list (pints ns))] [] (.bool true)) :
    RUN DD PG w mg mb A env X T g g₀ (lawFrom 0) [("script", .list (pints ns))] [] (.bool true) := by
  have hk : ∀ n, env.kindOf n = (dAt 14).scope.names.lookup n := fun n => by unfold Env.kindOf; rw [hsc]
  have e1 : pints (cellsOf ns) = ((List.range 4).filter fun _ => true).map fun k : Nat => PV.int (base4.getD k 0 + (pickNums ns (some (k : Int)) none (some 4)).sum) := by
    rw [filt_true]; simp [pints, cellsOf]
  have e2 : pints (rowOf ns) = ((cellsOf ns).filter fun _ => true).map fun x => PV.int (clip x) := by
    rw [filt_true]; simp [pints, rowOf]
  refine run_seq (st_assign (pv := .list (pints (cellsOf ns))) fx (.inr ((hk _).trans rfl)) ?_ (swaps_cell ((hk _).trans rfl))) ?_
  · rw [e1]
    refine ev_of_cp (cp1 (ρf := [("script", .list (pints ns))]) (List.range 4) (fun k : Nat => .int k) (fun k : Nat => .int (base4.getD k 0 + (pickNums ns (some (k : Int)) none (some 4)).sum)) (fun _ => true) hA.handled rfl (by decide) (by decide) ?_ ["script"] rfl (by decide) (.inl rfl)
      (ev_call_t ((hk _).trans rfl) (by decide) (by decide +kernel) (evs_cons ev_int evs_nil) (k_range1 4)) (iter_up 4 (by omega)) (by decide) (fun _ _ _ _ => .nil) ?_)
    · exact List.forall_mem_cons.mpr ⟨⟨rfl, rfl, .inl ((hk _).trans rfl), rfl⟩, List.forall_mem_nil _⟩
    · intro cenv ce k hk' _
      have hk4 := List.mem_range.mp hk'
      refine ev_bin (ev_item (xs := pints base4) (k := k) (x := .int (base4.getD k 0)) (ev_list (evs_cons ev_int (evs_cons (ev_neg ev_int) (evs_cons (ev_neg ev_int) (evs_cons ev_int evs_nil)))) (by decide)) (ev_name rfl) ?_ (by omega))
        (ev_call_b (ce.kind _ _ rfl (by decide)) (by decide) (by decide +kernel) (evs_cons (ev_step (ev_name rfl) (ev_name rfl) ev_int (by decide) (by rw [sizeLine_eq]; omega)) evs_nil) (k_sum _ hA.handled)) (b_add _ _)
      have : k = 0 ∨ k = 1 ∨ k = 2 ∨ k = 3 := by omega
      rcases this with rfl | rfl | rfl | rfl <;> rfl
  refine run_seq (st_assign (pv := .list (pints (rowOf ns))) fx (.inr ((hk _).trans rfl)) ?_ (swaps_cell ((hk _).trans rfl))) h
  rw [e2]
  refine ev_of_cp (cp1 (ρf := []) (cellsOf ns) (fun x => .int x) (fun x => .int (clip x)) (fun _ => true) hA.handled rfl (by decide) (by decide) (List.forall_mem_nil _) [] rfl (by decide) (.inl rfl)
    (ev_name rfl) (.list _) (by simp [cellsOf, sizeLine_eq]) (fun _ _ _ _ => .nil) ?_)
  intro cenv ce x hx _
  exact ev_itei (tr_chain (ev_neg (ev_bin ev_int ev_int (b_pow 2 40 (by decide) (by decide)))) (ev_name rfl) (ev_bin ev_int ev_int (b_pow 2 40 (by decide) (by decide))) (c_lt _ _) (c_lt _ _)) (fun _ => ev_name rfl) fun _ => ev_bin (ev_name rfl) (ev_bin ev_int ev_int (b_pow 2 40 (by decide) (by decide))) (b_mod _ _ (by decide))
end
end Mine
end

section
open PySem PySem.W PySem.Calls PyProof.Rows PySem.Spec
set_option maxRecDepth 100000
namespace Mine
section
variable {w : World} {mg mb : Str → Option Value} {A : Around} {env : Env} {ρ : Loc} {X T : Addr → Prop} {g : Shared} {g₀ : Heap} {M : Mut}
theorem ev_cpe {elt iter : Expr} {g0 : Comprehension} {gs : List Comprehension} {scope : Scope} {pos : Pos} {outs outs' : List PV} (h : CP DD PG w mg mb A env ρ (.ListComp elt (g0 :: gs) scope pos) iter scope outs) (e : outs' = outs)
    (hi : firstIter (g0 :: gs) env = eval iter env := by rfl) (ha : firstAsync (g0 :: gs) = false := by rfl) : EV DD PG w mg mb A env ρ (.ListComp elt (g0 :: gs) scope pos) (.list outs') := e ▸ ev_of_cp h hi ha
theorem law_a2 (ns : List Int) {n : Nat} (hA : Rm (n + 3) A) (fx : Fx DD mg mb env T X g₀) (hsc : env.scope = (dAt 14).scope)
    (h : RUN DD PG w mg mb A env X T g g₀ (lawFrom 7) (ρA ns) [] (.bool true)) :
    RUN DD PG w mg mb A env X T g g₀ (lawFrom 2) [("row", .list (pints (rowOf ns))), ("cells", .list (pints (cellsOf ns))), ("script", .list (pints ns))] [] (.bool true) := by
  have hk : ∀ n, env.kindOf n = (dAt 14).scope.names.lookup n := fun n => by unfold Env.kindOf; rw [hsc]
  have hrow := row_len ns
  have ho4 : ∀ o ∈ ordersAt 4, o.length = 4 := orders_len 4
  have hfalse : ((cellsOf ns).filter fun _ => false) = [] := List.filter_eq_nil_iff.mpr (by simp)
  have hlen0 : ((cellsOf ns).flatMap fun u => (cellsOf ns).filter fun _ => false).length ≤ sizeLine := by
    have : ((cellsOf ns).flatMap fun u => (cellsOf ns).filter fun _ => false) = [] := by rw [hfalse]; simp
    rw [this]; exact Nat.zero_le _
  have hsz : pints [] = ((cellsOf ns).flatMap fun x => ((cellsOf ns).filter fun _ => false).map fun _ => PV.int x) := by simp [hfalse]
  refine run_seq (st_skip (tr_cmp (ev_cpe (cp2 (ρf := [("cells", .list (pints (cellsOf ns)))]) (cellsOf ns) (fun x => .int x) (fun _ => cellsOf ns) (fun x => .int x) (fun _ => .list (pints (cellsOf ns))) (fun x _ => .int x) (fun _ _ => false) hA.handled rfl (by decide) (by decide)
      ?_ ["cells"] rfl (by decide) rfl rfl (by decide) (ev_name rfl) (.list _) hlen0 (fun _ _ _ _ => ev_name rfl) (fun _ _ => .list _) ?_ ?_) hsz) (ev_list evs_nil (by decide)) (c_nel [] [] (by have := hA.units; omega)))) ?_
  · exact List.forall_mem_cons.mpr ⟨⟨rfl, rfl, .inl ((hk _).trans rfl), rfl⟩, List.forall_mem_nil _⟩
  · intro cenv ce u hu v hv
    exact .one (tr_not (t := true) (tr_val (ev_call_fn (d := dAt 8) (mem_dd (by decide)) rfl (ce.kind _ _ rfl (by decide)) (evs_cons (ev_name rfl) (evs_cons (ev_name rfl) evs_nil)) (fun a ha => f_signed u v (n := n) (hA.less (by omega)) ha)) (.bool true)))
  · intro cenv ce u hu v hv q
    cases q
  refine run_seq (st_assign fx (.inl ((hk _).trans rfl)) (ev_call_fn (d := dAt 9) (mem_dd (by decide)) rfl ((hk _).trans rfl) (evs_cons ev_int evs_nil) (fun a ha => f_orders (n := n) (hA.less (by omega)) ha)) rfl) ?_
  have e3 : (ordersAt 4).map (walkV (rowOf ns)) = ((ordersAt 4).filter fun _ => true).map (walkV (rowOf ns)) := by rw [filt_true]
  refine run_seq (ρ₁ := [("walks", .list ((ordersAt 4).map (walkV (rowOf ns)))), ("orders", .list ((ordersAt 4).map ordPV)), ("row", .list (pints (rowOf ns))), ("cells", .list (pints (cellsOf ns))), ("script", .list (pints ns))]) (M₁ := []) ?_ ?_
  · rw [e3]
    refine st_comp fx (bk hsc rfl) ((hk _).trans rfl) (cp1 (ρf := [("row", .list (pints (rowOf ns)))]) (ordersAt 4) ordPV (walkV (rowOf ns)) (fun _ => true) hA.handled rfl (by decide) (by decide) ?_ ["row"] rfl (by decide) (.inl rfl)
      (ev_name rfl) (.list _) (by rw [ord_cnt]; decide) (fun _ _ _ _ => .nil) ?_) rfl (by decide)
    · exact List.forall_mem_cons.mpr ⟨⟨rfl, rfl, .inl ((hk _).trans rfl), rfl⟩, List.forall_mem_nil _⟩
    · intro cenv ce o ho _
      exact ev_call_fn (d := dAt 10) (mem_dd (by decide)) rfl (ce.kind _ _ rfl (by decide)) (evs_cons (ev_name rfl) (evs_cons (ev_name rfl) evs_nil)) (fun a ha => f_walk (rowOf ns) o (by rw [hrow]; exact ord_small o ho) (by rw [ho4 o ho]; decide) (by rw [hrow]; decide) (n := n) (hA.less (by omega)) ha)
  have e4 : pints (firstsOf (rowOf ns)) = ((ordersAt 4).filter fun _ => true).map fun o => PV.int (wsAt (rowOf ns) o o.length).first := by rw [filt_true]; simp [pints, firstsOf]
  have e5 : pints (lastsOf (rowOf ns)) = ((ordersAt 4).filter fun _ => true).map fun o => PV.int (wsAt (rowOf ns) o o.length).last := by rw [filt_true]; simp [pints, lastsOf]
  refine run_seq (ρ₁ := [("firsts", .list (pints (firstsOf (rowOf ns)))), ("walks", .list ((ordersAt 4).map (walkV (rowOf ns)))), ("orders", .list ((ordersAt 4).map ordPV)), ("row", .list (pints (rowOf ns))), ("cells", .list (pints (cellsOf ns))), ("script", .list (pints ns))]) (M₁ := []) ?_ ?_
  · rw [e4]
    refine st_comp fx (bk hsc rfl) ((hk _).trans rfl) (cp1 (ρf := []) (ordersAt 4) (walkV (rowOf ns)) (fun o => .int (wsAt (rowOf ns) o o.length).first) (fun _ => true) hA.handled rfl (by decide) (by decide) (List.forall_mem_nil _) [] rfl (by decide) (.inl rfl)
      (ev_name rfl) (.list _) (by rw [ord_cnt]; decide) (fun _ _ _ _ => .nil) ?_) rfl (by decide)
    intro cenv ce o ho _
    exact ev_titem (k := 2) (ev_name rfl) ev_int rfl (by decide)
  refine run_seq (ρ₁ := ρA ns) (M₁ := []) ?_ h
  unfold ρA
  rw [e5]
  refine st_comp fx (bk hsc rfl) ((hk _).trans rfl) (cp1 (ρf := []) (ordersAt 4) (walkV (rowOf ns)) (fun o => .int (wsAt (rowOf ns) o o.length).last) (fun _ => true) hA.handled rfl (by decide) (by decide) (List.forall_mem_nil _) [] rfl (by decide) (.inl rfl)
    (ev_name rfl) (.list _) (by rw [ord_cnt]; decide) (fun _ _ _ _ => .nil) ?_) rfl (by decide)
  intro cenv ce o ho _
  exact ev_titem (k := 3) (ev_name rfl) ev_int rfl (by decide)
end
end Mine
end

section
open PySem PySem.W PySem.Calls PyProof.Rows PySem.Spec
set_option maxRecDepth 100000
namespace Mine
section
variable {w : World} {mg mb : Str → Option Value} {A : Around} {env : Env} {ρ : Loc} {X T : Addr → Prop} {g : Shared} {g₀ : Heap} {M : Mut}
theorem law_b1 (ns : List Int) {n : Nat} (hA : Rm (n + 3) A) (L : LawF A env T) (fx : Fx DD mg mb env T X g₀) (hsc : env.scope = (dAt 14).scope)
    (h1 : uld ([9] ++ abovesOf (rowOf ns)) (firstsOf (rowOf ns)) = ([9], [])) (h2 : uld (nonnegOf (rowOf ns)) (lastsOf (rowOf ns) ++ [9]) = ([], [9]))
    (h : RUN DD PG w mg mb A env X T g g₀ (lawFrom 9) (ρA ns) [] (.bool true)) :
    RUN DD PG w mg mb A env X T g g₀ (lawFrom 7) (ρA ns) [] (.bool true) := by
  have hk : ∀ n, env.kindOf n = (dAt 14).scope.names.lookup n := fun n => by unfold Env.kindOf; rw [hsc]
  have l1 : (firstsOf (rowOf ns)).length = 24 := by unfold firstsOf; rw [List.length_map, ord_cnt]
  have l2 : (lastsOf (rowOf ns)).length = 24 := by unfold lastsOf; rw [List.length_map, ord_cnt]
  have l3 : (abovesOf (rowOf ns)).length = 24 := by unfold abovesOf; rw [List.length_map, ord_cnt]
  have l4 : (nonnegOf (rowOf ns)).length = 24 := by unfold nonnegOf; rw [List.length_map, ord_cnt]
  have e1 : pints (abovesOf (rowOf ns)) = ((ordersAt 4).filter fun _ => true).map fun o => PV.int (wsAt (rowOf ns) o o.length).above := by rw [filt_true]; simp [pints, abovesOf]
  have e2 : pints (nonnegOf (rowOf ns)) = ((ordersAt 4).filter fun _ => true).map fun o => PV.int ((o.length : Int) - (wsAt (rowOf ns) o o.length).under) := by rw [filt_true]; simp [pints, nonnegOf]
  refine run_seq (st_uld_skip (a := [9]) (b := []) (n := n) (hA.less (by omega)) L fx ((hk _).trans rfl) (evn_cat (xs := [9]) (ev_list (evs_cons ev_int evs_nil) (by decide)) (ev_cpe (cp1 (ρf := []) (ordersAt 4) (walkV (rowOf ns)) (fun o => .int (wsAt (rowOf ns) o o.length).above) (fun _ => true) hA.handled rfl (by decide) (by decide) (List.forall_mem_nil _) [] rfl (by decide) (.inl rfl)
    (ev_name rfl) (.list _) (by rw [ord_cnt]; decide) (fun _ _ _ _ => .nil) ?_) e1) (by rw [l3, sizeLine_eq]; decide)) (evn_copy ((hk _).trans rfl) (ev_name rfl) (by rw [l1, sizeLine_eq]; decide)) (by simp [l3]) (by rw [l1]; decide) (ev_tup (evs_cons (ev_list (evs_cons ev_int evs_nil) (by decide)) (evs_cons (ev_list evs_nil (by decide)) evs_nil)) (by decide)) h1) ?_
  · intro cenv ce o ho _
    exact ev_titem (k := 0) (ev_name rfl) ev_int rfl (by decide)
  refine run_seq (st_uld_skip (a := []) (b := [9]) (n := n) (hA.less (by omega)) L fx ((hk _).trans rfl) (evn_comp (xs := nonnegOf (rowOf ns)) (e2 ▸ (cp1 (ρf := []) (ordersAt 4) (walkV (rowOf ns)) (fun o => .int ((o.length : Int) - (wsAt (rowOf ns) o o.length).under)) (fun _ => true) hA.handled rfl (by decide) (by decide) (List.forall_mem_nil _) [] rfl (by decide) (.inl rfl)
    (ev_name rfl) (.list _) (by rw [ord_cnt]; decide) (fun _ _ _ _ => .nil) ?_))) (evn_cat (ys := [9]) (ev_call_t ((hk _).trans rfl) (by decide) (by decide +kernel) (evs_cons (ev_name rfl) evs_nil) (k_copy _ (by simp [l2, sizeLine_eq]))) (ev_list (evs_cons ev_int evs_nil) (by decide)) (by rw [l2, sizeLine_eq]; decide)) (by rw [l4]; decide) (by simp [l2]) (ev_tup (evs_cons (ev_list evs_nil (by decide)) (evs_cons (ev_list (evs_cons ev_int evs_nil) (by decide)) evs_nil)) (by decide)) h2) h
  · intro cenv ce o ho _
    exact ev_titem (k := 1) (ev_name rfl) ev_int rfl (by decide)
end
end Mine
end

section
open PySem PySem.W PySem.Calls PyProof.Rows PySem.Spec
set_option maxRecDepth 100000
namespace Mine
def bitAt (i k : Nat) : Bool := (((1 + (i : Int) * 1).fdiv (2 ^ k)).fmod 2 == 1)
def picksOf (row : List Int) : List (List Int) := (List.range 15).map fun i => ((List.range 4).filter fun k => bitAt i k).map fun k => row.getD k 0
def sumsOf (row : List Int) : List (List Int) := (List.range 4).map fun j : Nat => ((picksOf row).filter fun p => ((p.length : Int) == 1 + (j : Int) * 1)).map fun p => p.sum
def lpv (ls : List (List Int)) : PV := .list (ls.map fun p => .list (pints p))
section
variable {w : World} {mg mb : Str → Option Value} {A : Around} {env : Env} {ρ : Loc} {X T : Addr → Prop} {g : Shared} {g₀ : Heap} {M : Mut}
def ρB (ns : List Int) : Loc := ("sums", lpv (sumsOf (rowOf ns))) :: ("picks", lpv (picksOf (rowOf ns))) :: ρA ns
theorem picks_len (row : List Int) : (picksOf row).length = 15 := by simp [picksOf]
theorem picks_le (row : List Int) : ∀ p ∈ picksOf row, p.length ≤ 4 := fun p hp => by
  obtain ⟨i, _, rfl⟩ := List.mem_map.mp hp
  rw [List.length_map]
  exact Nat.le_trans (List.length_filter_le _ _) (by simp)
theorem law_b2 (ns : List Int) {n : Nat} (hA : Rm (n + 3) A) (fx : Fx DD mg mb env T X g₀) (hsc : env.scope = (dAt 14).scope)
    (h : RUN DD PG w mg mb A env X T g g₀ (lawFrom 11) (ρB ns) [] (.bool true)) :
    RUN DD PG w mg mb A env X T g g₀ (lawFrom 9) (ρA ns) [] (.bool true) := by
  have hk : ∀ n, env.kindOf n = (dAt 14).scope.names.lookup n := fun n => by unfold Env.kindOf; rw [hsc]
  have hrow := row_len ns
  have e1 : lpv (picksOf (rowOf ns)) = .list (((List.range 15).filter fun _ => true).map fun i : Nat => PV.list (pints (((List.range 4).filter fun k => bitAt i k).map fun k => (rowOf ns).getD k 0))) := by
    rw [filt_true]; simp [lpv, picksOf]
  have e2 : lpv (sumsOf (rowOf ns)) = .list (((List.range 4).filter fun _ => true).map fun j : Nat => PV.list (pints (((picksOf (rowOf ns)).filter fun p => ((p.length : Int) == 1 + (j : Int) * 1)).map fun p => p.sum))) := by
    rw [filt_true]; simp [lpv, sumsOf]
  refine run_seq (st_assign (pv := lpv (picksOf (rowOf ns))) fx (.inr ((hk _).trans rfl)) ?_ (swaps_cell ((hk _).trans rfl))) ?_
  · rw [e1]
    refine ev_of_cp (cp1 (ρf := [("row", .list (pints (rowOf ns)))]) (List.range 15) (fun i : Nat => .int (1 + (i : Int) * 1)) (fun i : Nat => PV.list (pints (((List.range 4).filter fun k => bitAt i k).map fun k => (rowOf ns).getD k 0))) (fun _ => true) hA.handled rfl (by decide) (by decide) ?_ ["row"] rfl (by decide) (.inr ⟨rfl, by decide⟩)
      (ev_call_t ((hk _).trans rfl) (by decide) (by decide +kernel) (evs_cons ev_int (evs_cons ev_int evs_nil)) (k_range2 1 16)) (.rng 1 16 1 15 (by decide) (by decide)) (by decide) (fun _ _ _ _ => .nil) ?_)
    · exact List.forall_mem_cons.mpr ⟨⟨rfl, rfl, .inl ((hk _).trans rfl), rfl⟩, List.forall_mem_nil _⟩
    · intro cenv ce i hi _
      refine ev_cpe (cp1 (ρf := [("row", .list (pints (rowOf ns))), ("one", .int (1 + (i : Int) * 1))]) (List.range 4) (fun k : Nat => .int k) (fun k : Nat => PV.int ((rowOf ns).getD k 0)) (fun k => bitAt i k) hA.handled rfl (by decide) (by decide) ?_ ["row", "one"] rfl (by decide) (.inl rfl)
        (ev_call_t (ce.kind _ _ rfl (by decide)) (by decide) (by decide +kernel) (evs_cons ev_int evs_nil) (k_range1 4)) (iter_up 4 (by omega)) (by decide) ?_ ?_) (by simp [pints])
      · refine List.forall_mem_cons.mpr ⟨⟨rfl, rfl, ?_, rfl⟩, List.forall_mem_cons.mpr ⟨⟨rfl, rfl, .inl (ce.kind _ _ rfl (by decide)), rfl⟩, List.forall_mem_nil _⟩⟩
        exact (ce.free _ rfl).elim .inr .inl
      · intro cenv2 ce2 k hk'
        have hk4 := List.mem_range.mp hk'
        have hp : (2 : Int) ^ k ≠ 0 ∧ ((2 : Int) ^ k).natAbs < 1073741824 := by
          have : k = 0 ∨ k = 1 ∨ k = 2 ∨ k = 3 := by omega
          rcases this with rfl | rfl | rfl | rfl <;> decide
        exact .one (tr_cmp (ev_bin (ev_bin (ev_name rfl) (ev_bin ev_int (ev_name rfl) (b_pow 2 k (by omega) (by decide))) (b_div _ _ hp.1 hp.2)) ev_int (b_mod _ 2 (by decide))) ev_int (c_eq _ 1))
      · intro cenv2 ce2 k hk' _
        have hk4 := List.mem_range.mp hk'
        exact ev_item (k := k) (ev_name rfl) (ev_name rfl) (by simp [hrow, hk4]) (by omega)
  refine run_seq (ρ₁ := ρB ns) (M₁ := []) ?_ h
  unfold ρB
  rw [e2]
  refine st_comp fx (bk hsc rfl) ((hk _).trans rfl) (cp1 (ρf := [("picks", lpv (picksOf (rowOf ns)))]) (List.range 4) (fun i : Nat => .int (1 + (i : Int) * 1)) (fun j : Nat => PV.list (pints (((picksOf (rowOf ns)).filter fun p => ((p.length : Int) == 1 + (j : Int) * 1)).map fun p => p.sum))) (fun _ => true) hA.handled rfl (by decide) (by decide) ?_ ["picks"] rfl (by decide) (.inr ⟨rfl, by decide⟩)
      (ev_call_t ((hk _).trans rfl) (by decide) (by decide +kernel) (evs_cons ev_int (evs_cons ev_int evs_nil)) (k_range2 1 5)) (.rng 1 5 1 4 (by decide) (by decide)) (by decide) (fun _ _ _ _ => .nil) ?_) rfl (by decide)
  · exact List.forall_mem_cons.mpr ⟨⟨rfl, rfl, .inl ((hk _).trans rfl), rfl⟩, List.forall_mem_nil _⟩
  · intro cenv ce j hj _
    refine ev_cpe (cp1 (ρf := [("size", .int (1 + (j : Int) * 1))]) (picksOf (rowOf ns)) (fun p => .list (pints p)) (fun p => PV.int p.sum) (fun p => ((p.length : Int) == 1 + (j : Int) * 1)) hA.handled rfl (by decide) (by decide) ?_ ["size"] rfl (by decide) (.inl rfl)
      (ev_name rfl) (.list _) (by rw [picks_len, sizeLine_eq]; decide) ?_ ?_) (by simp [pints])
    · exact List.forall_mem_cons.mpr ⟨⟨rfl, rfl, .inl (ce.kind _ _ rfl (by decide)), rfl⟩, List.forall_mem_nil _⟩
    · intro cenv2 ce2 p hp
      have hl := picks_le _ p hp
      have e : (p.length : Int) = ((pints p).length : Int) := by simp
      rw [e]
      exact .one (tr_cmp (ev_call_b (ce2.kind _ _ rfl (by decide)) (by decide) (by decide +kernel) (evs_cons (ev_name rfl) evs_nil) (k_len _ (by simp; omega))) (ev_name rfl) (c_eq _ _))
    · intro cenv2 ce2 p hp _
      exact ev_call_b (ce2.kind _ _ rfl (by decide)) (by decide) (by decide +kernel) (evs_cons (ev_name rfl) evs_nil) (k_sum _ hA.handled)
end
end Mine
end

section
open PySem PySem.W PySem.Calls PyProof.Rows PySem.Spec
set_option maxRecDepth 100000
namespace Mine
theorem wheel_free (r r' : List Int) (order : List Nat) : ∀ f seen w w' a, (wheel r order f seen w a).1 = (wheel r' order f seen w' a).1
  | 0, _, _, _, _ => rfl
  | f + 1, seen, w, w', a => by
    unfold wheel
    by_cases h : seen.contains a = true
    · simp only [h, if_true]
    · simp only [h, if_false]; exact wheel_free r r' order f _ _ _ _
theorem gain_free (r r' : List Int) (order : List Nat) (F : Nat) : ∀ i, (gainAt r order F i).1 = (gainAt r' order F i).1
  | 0 => rfl
  | i + 1 => by
    show (wheel r order F (gainAt r order F i).1 0 i).1 = (wheel r' order F (gainAt r' order F i).1 0 i).1
    rw [gain_free r r' order F i]
    exact wheel_free _ _ _ _ _ _ _ _
def gainsOf (row : List Int) : List Int := (ordersAt 4).map fun o => (gainAt row o 5 o.length).2
theorem gain_ok : ∀ o ∈ ordersAt 4, (∀ i < o.length, wheelEnds 4 o 5 (gainAt [] o 5 i).1 i = true) ∧ ∀ i ≤ o.length, (gainAt [] o 5 i).1.length ≤ 1000 := by decide +kernel
section
variable {w : World} {mg mb : Str → Option Value} {A : Around} {env : Env} {ρ : Loc} {X T : Addr → Prop} {g : Shared} {g₀ : Heap} {M : Mut}
def ρC (ns : List Int) : Loc := ("told", pair2 (uld (lastsOf (rowOf ns)) (firstsOf (rowOf ns))).1 (uld (lastsOf (rowOf ns)) (firstsOf (rowOf ns))).2) :: ρB ns
theorem tr_eq {e : Expr} {t t' : Bool} (h : TR DD PG w mg mb A env ρ e t) (ht : t = t') : TR DD PG w mg mb A env ρ e t' := ht ▸ h
theorem sum_le {α : Type} {k : Nat} : ∀ (ls : List (List α)), (∀ p ∈ ls, p.length ≤ k) → (ls.map List.length).sum ≤ ls.length * k
  | [], _ => by simp
  | p :: r, h => by
    have h1 := h p List.mem_cons_self
    have h2 := sum_le r fun q hq => h q (List.mem_cons_of_mem _ hq)
    rw [List.map_cons, List.sum_cons, List.length_cons, Nat.succ_mul]
    omega
theorem law_b3 (ns : List Int) {n : Nat} (hA : Rm (n + 3) A) (L : LawF A env T) (fx : Fx DD mg mb env T X g₀) (hsc : env.scope = (dAt 14).scope)
    (h1 : uld (lastsOf (rowOf ns)) (firstsOf (rowOf ns)) = (toldM (lastsOf (rowOf ns)) (firstsOf (rowOf ns)), toldL (lastsOf (rowOf ns)) (firstsOf (rowOf ns))))
    (h2 : (((uld (lastsOf (rowOf ns)) (firstsOf (rowOf ns))).1 == [] && (uld (lastsOf (rowOf ns)) (firstsOf (rowOf ns))).2 == []) == (sumsOf (rowOf ns)).flatten.any (· == 0)) = false)
    (h : RUN DD PG w mg mb A env X T g g₀ (lawFrom 14) (ρC ns) [] (.bool true)) :
    RUN DD PG w mg mb A env X T g g₀ (lawFrom 11) (ρB ns) [] (.bool true) := by
  have hk : ∀ n, env.kindOf n = (dAt 14).scope.names.lookup n := fun n => by unfold Env.kindOf; rw [hsc]
  have l1 : (firstsOf (rowOf ns)).length = 24 := by unfold firstsOf; rw [List.length_map, ord_cnt]
  have l2 : (lastsOf (rowOf ns)).length = 24 := by unfold lastsOf; rw [List.length_map, ord_cnt]
  have hu := hA.units
  refine run_seq (st_uld_set (n := n) (hA.less (by omega)) L fx ((hk _).trans rfl) (.inl ((hk _).trans rfl)) (evn_copy ((hk _).trans rfl) (ev_name rfl) (by rw [l2, sizeLine_eq]; decide)) (evn_copy ((hk _).trans rfl) (ev_name rfl) (by rw [l1, sizeLine_eq]; decide)) (by rw [l2]; decide) (by rw [l1]; decide)) ?_
  refine run_seq (st_skip (tr_eq (tr_cmp (ev_name rfl) (ev_call_fn (d := dAt 12) (mem_dd (by decide)) rfl ((hk _).trans rfl) (evs_cons (ev_name rfl) (evs_cons (ev_name rfl) evs_nil)) (fun a ha => f_told (lastsOf (rowOf ns)) (firstsOf (rowOf ns)) (by rw [l2]; decide) (by rw [l1]; decide) (n := n) (hA.less (by omega)) ha)) (c_nep _ _ _ _ (by omega))) ?_)) ?_
  · rw [h1]; simp
  have e1 : pints (sumsOf (rowOf ns)).flatten = (sumsOf (rowOf ns)).flatMap fun p => (p.filter fun _ => true).map fun x => PV.int x := by
    simp only [filt_true, pints, List.map_flatten, List.flatMap]
  refine run_seq (st_skip (tr_eq (tr_cmp (ev_cmp (ev_name rfl) (ev_tup (evs_cons (ev_list evs_nil (by decide)) (evs_cons (ev_list evs_nil (by decide)) evs_nil)) (by decide)) (c_eqp _ _ [] [] (by omega)))
    (ev_cmp ev_int (ev_cpe (cp2 (ρf := []) (sumsOf (rowOf ns)) (fun p => .list (pints p)) (fun p => p) (fun x => .int x) (fun p => .list (pints p)) (fun _ x => .int x) (fun _ _ => true) hA.handled rfl (by decide) (by decide) (List.forall_mem_nil _) [] rfl (by decide) rfl rfl (by decide) (ev_name rfl) (.list _) ?_
      (fun _ _ _ _ => ev_name rfl) (fun _ _ => .list _) (fun _ _ _ _ _ _ => .nil) (fun _ _ _ _ _ _ _ => ev_name rfl)) e1) (c_in _ _)) (c_eqb _ _)) h2)) h
  have : (sumsOf (rowOf ns)).flatMap (fun u => u.filter fun _ => true) = (sumsOf (rowOf ns)).flatten := by simp only [filt_true, List.flatMap, List.map_id']
  rw [this]
  have hl : ∀ p ∈ sumsOf (rowOf ns), p.length ≤ 15 := fun p hp => by
    obtain ⟨j, _, rfl⟩ := List.mem_map.mp hp
    rw [List.length_map]
    exact Nat.le_trans (List.length_filter_le _ _) (by rw [picks_len]; exact Nat.le_refl _)
  have h4 : (sumsOf (rowOf ns)).length = 4 := by simp [sumsOf]
  rw [List.length_flatten, sizeLine_eq]
  have : ((sumsOf (rowOf ns)).map List.length).sum ≤ (sumsOf (rowOf ns)).length * 15 := sum_le _ hl
  omega
end
end Mine
end

section
open PySem PySem.W PySem.Calls PyProof.Rows PySem.Spec
set_option maxRecDepth 100000
namespace Mine
section
variable {w : World} {mg mb : Str → Option Value} {A : Around} {env : Env} {ρ : Loc} {X T : Addr → Prop} {g : Shared} {g₀ : Heap} {M : Mut}
def ρD (ns : List Int) (ag ab : Addr) : Loc := ("spent", .tup [.list (pints []), .ref ag]) :: ("bag", .ref ab) :: ("gains", .ref ag) :: ("highs", .list (pints (highsOf (rowOf ns)))) :: ρC ns
theorem run_newcompe {elt iter : Expr} {g0 : Comprehension} {gs : List Comprehension} {scope : Scope} {pos px p : Pos} {x : Str} {ns : List Int} {outs : List PV} {sts : List Stmt} {pv : PV} (fx : Fx DD mg mb env T X g₀) (hb : env.blockKind = .function) (hk : env.kindOf x = some .local)
    (h : CP DD PG w mg mb A env ρ (.ListComp elt (g0 :: gs) scope pos) iter scope outs) (e : pints ns = outs) (hl : (px.line == (Expr.ListComp elt (g0 :: gs) scope pos).pos.line) = true) (hn : (scope.names.any fun y => y.1 == x && (y.2 == .local || y.2 == .cell)) = false)
    (hQ : ∀ (a : Addr), (∀ p ∈ M, p.1 ≠ a) → Fx DD mg mb env (fun b => T b ∨ b = a) (fun b => X b ∨ b = a) g₀ → RUN DD PG w mg mb A env (fun b => X b ∨ b = a) (fun b => T b ∨ b = a) g g₀ sts ((x, .ref a) :: ρ) ((a, ns) :: M) pv)
    (hi : firstIter (g0 :: gs) env = eval iter env := by rfl) (ha : firstAsync (g0 :: gs) = false := by rfl) :
    RUN DD PG w mg mb A env X T g g₀ (.Assign [.Name x px] (.ListComp elt (g0 :: gs) scope pos) p :: sts) ρ M pv := by
  subst e
  exact run_newcomp fx hb hk h hl hn hQ hi ha
theorem law_c (ns : List Int) {n : Nat} (hA : Rm (n + 3) A) (L : LawF A env T) (fx : Fx DD mg mb env T X g₀) (hsc : env.scope = (dAt 14).scope)
    (h1 : uld (highsOf (rowOf ns)) (gainsOf (rowOf ns)) = ([], []))
    (h : ∀ (ag ab : Addr) (X T : Addr → Prop), Fx DD mg mb env T X g₀ → RUN DD PG w mg mb A env X T g g₀ (lawFrom 19) (ρD ns ag ab) [(ab, []), (ag, [])] (.bool true)) :
    RUN DD PG w mg mb A env X T g g₀ (lawFrom 14) (ρC ns) [] (.bool true) := by
  have hk : ∀ n, env.kindOf n = (dAt 14).scope.names.lookup n := fun n => by unfold Env.kindOf; rw [hsc]
  have hrow := row_len ns
  have ho4 : ∀ o ∈ ordersAt 4, o.length = 4 := orders_len 4
  have hu := hA.units
  have l1 : (highsOf (rowOf ns)).length = 24 := by unfold highsOf; rw [List.length_map, ord_cnt]
  have l2 : (gainsOf (rowOf ns)).length = 24 := by unfold gainsOf; rw [List.length_map, ord_cnt]
  have e1 : pints (highsOf (rowOf ns)) = ((ordersAt 4).filter fun _ => true).map fun o => PV.int (wsAt (rowOf ns) o o.length).best := by rw [filt_true]; simp [pints, highsOf]
  have e2 : pints (gainsOf (rowOf ns)) = ((ordersAt 4).filter fun _ => true).map fun o => PV.int (gainAt (rowOf ns) o 5 o.length).2 := by rw [filt_true]; simp [pints, gainsOf]
  refine run_seq (ρ₁ := ("highs", .list (pints (highsOf (rowOf ns)))) :: ρC ns) (M₁ := []) ?_ ?_
  · rw [e1]
    refine st_comp fx (bk hsc rfl) ((hk _).trans rfl) (cp1 (ρf := []) (ordersAt 4) (walkV (rowOf ns)) (fun o => .int (wsAt (rowOf ns) o o.length).best) (fun _ => true) hA.handled rfl (by decide) (by decide) (List.forall_mem_nil _) [] rfl (by decide) (.inl rfl)
      (ev_name rfl) (.list _) (by rw [ord_cnt]; decide) (fun _ _ _ _ => .nil) ?_) rfl (by decide)
    intro cenv ce o ho _
    exact ev_titem (k := 4) (ev_name rfl) ev_int rfl (by decide)
  refine run_newcompe (ns := gainsOf (rowOf ns)) fx (bk hsc rfl) ((hk _).trans rfl) (cp1 (ρf := [("row", .list (pints (rowOf ns)))]) (ordersAt 4) ordPV (fun o => .int (gainAt (rowOf ns) o 5 o.length).2) (fun _ => true) hA.handled rfl (by decide) (by decide) ?_ ["row"] rfl (by decide) (.inl rfl)
      (ev_name rfl) (.list _) (by rw [ord_cnt]; decide) (fun _ _ _ _ => .nil) ?_) e2 rfl (by decide) (fun ag _ fx1 => ?_)
  · exact List.forall_mem_cons.mpr ⟨⟨rfl, rfl, .inl ((hk _).trans rfl), rfl⟩, List.forall_mem_nil _⟩
  · intro cenv ce o ho _
    obtain ⟨g1, g2⟩ := gain_ok o ho
    exact ev_call_fn (d := dAt 11) (mem_dd (by decide)) rfl (ce.kind _ _ rfl (by decide)) (evs_cons (ev_name rfl) (evs_cons (ev_name rfl) evs_nil)) (fun a ha => f_gain (rowOf ns) o 5 (by decide) (by rw [ho4 o ho]; decide) (by rw [hrow]; decide)
      (fun i hi => by rw [hrow, gain_free (rowOf ns) [] o 5 i]; exact g1 i hi) (fun i hi row' => by rw [gain_free row' [] o 5 i]; exact g2 i hi) (n := n) (hA.less (by omega)) ha)
  refine run_newmut (ns := highsOf (rowOf ns)) fx1 (.inl ((hk _).trans rfl)) (evn_copy ((hk _).trans rfl) (ev_name rfl) (by rw [l1, sizeLine_eq]; decide)) rfl (fun ab hne fx2 => ?_)
  have hag : ag ≠ ab := hne (ag, _) (.head _)
  have L2 := (L.more (T' := fun b => T b ∨ b = ag) fun a t => .inl t).more (T' := fun b => (T b ∨ b = ag) ∨ b = ab) fun a t => .inl t
  refine run_seq (st_spent (n := n) (hA.less (by omega)) L2 fx2 ((hk _).trans rfl) (.inl ((hk _).trans rfl)) rfl rfl hag.symm (by rw [l1]; decide) (by rw [l2]; decide)) ?_
  rw [h1]
  refine run_seq (st_skipx (tx_or (txs_cons (tx_nep (as := []) (bs := []) (cs := []) (ds := []) (by omega) rfl (.tail _ (.head _)) (ev_tup (evs_cons (ev_list evs_nil (by decide)) (evs_cons (ev_list evs_nil (by decide)) evs_nil)) (by decide)))
    (txs_cons (tx_of (tr_cmp (ev_titem (k := 1) (ev_name rfl) ev_int rfl (by decide)) (ev_name rfl) (c_isnot ag))) (txs_cons (tx_nel (ns := []) (ms := []) (by omega) rfl (.head _) (ev_list evs_nil (by decide))) (txs_cons (tx_refused (n := n) (hA.less (by omega)) L2 fx2 ((hk _).trans rfl) rfl (.tail _ (.head _))) txs_nil)))))) ?_
  exact h ag ab _ _ fx2
end
end Mine
end

section
open PySem PySem.W PySem.Calls PyProof.Rows PySem.Spec
set_option maxRecDepth 100000
namespace Mine
theorem ok3 (x : Int) : IntMulOk 3 x := .of_left (by decide)
structure Good (xs : List Int) : Prop where
  ne : xs ≠ []
  sm : ∀ n ∈ xs, n.natAbs < 2 ^ 50
  ab : 8 * absSum xs < 2 ^ 53
  ln : xs.length ≤ 1000
def meansOf (row : List Int) : List UInt64 := (sumsOf row).map fun p => fmeanOf (p.map fun x => 3 * max 0 x)
def posOf (row : List Int) : List UInt64 := (sumsOf row).map fun p => fmeanOf (p.map fun x => if decide (0 < x) then 3 else 0)
def nneOf (row : List Int) : List UInt64 := (sumsOf row).map fun p => fmeanOf (p.map fun x => if decide (x < 0) then 0 else 3)
section
variable {w : World} {mg mb : Str → Option Value} {A : Around} {env : Env} {ρ : Loc} {X T : Addr → Prop} {g : Shared} {g₀ : Heap} {M : Mut}
theorem ev_fmean {p pos : Pos} {e : Expr} {xs : List Int} {n : Nat} (hA : Rm (n + 1) A) (hk : env.kindOf "fmean" = some .globalImplicit) (ha : EV DD PG w mg mb A env ρ e (.list (pints xs))) (G : Good xs)
    (he : starEach [e] env = (false, eval e env) :: starEach [] env := by rfl) : EV DD PG w mg mb A env ρ (.Call (.Name "fmean" p) [e] [] pos) (.float (fmeanOf xs)) := fun X s S => by
  obtain ⟨a, T₁, pm, cdv, oc, od, osl, o2, n2, h1, h2, h3, h4, h5⟩ := S.base.sm.fm
  refine wpAny_Call_NameR (glob_any S hk h1 ?_)
  refine callWith_def (fd := fdFm T₁ pm cdv) rfl (Ev.use ((evs_cons ha evs_nil he) X s S) fun vs s₁ o₁ r₁ => ⟨o₁.grow _ _ h2, ?_⟩) he
  exact Ev.use (f_fmean xs G.sm G.ab G.ln G.ne (n := n) hA h1 X s₁ vs (S.base.up o₁.grow) (S.ok o₁).live r₁) fun u s₂ o₂ r₂ => ⟨o₁.trans o₂, r₂⟩
def ρE (ns : List Int) (ag ab : Addr) : Loc := ("means", .list ((meansOf (rowOf ns)).map PV.float)) :: ρD ns ag ab
theorem law_d1 (ns : List Int) {n : Nat} (hA : Rm (n + 3) A) (fx : Fx DD mg mb env T X g₀) (hsc : env.scope = (dAt 14).scope) {ag ab : Addr} {M : Mut}
    (G1 : ∀ p ∈ sumsOf (rowOf ns), Good (p.map fun x => 3 * max 0 x))
    (h : RUN DD PG w mg mb A env X T g g₀ (lawFrom 21) (ρE ns ag ab) M (.bool true)) :
    RUN DD PG w mg mb A env X T g g₀ (lawFrom 19) (ρD ns ag ab) M (.bool true) := by
  have hk : ∀ n, env.kindOf n = (dAt 14).scope.names.lookup n := fun n => by unfold Env.kindOf; rw [hsc]
  have hu := hA.units
  have h4 : (sumsOf (rowOf ns)).length = 4 := by simp [sumsOf]
  have e1 : (meansOf (rowOf ns)).map PV.float = ((sumsOf (rowOf ns)).filter fun _ => true).map fun p => PV.float (fmeanOf (p.map fun x => 3 * max 0 x)) := by rw [filt_true]; simp [meansOf]
  refine run_seq (ρ₁ := ρE ns ag ab) (M₁ := M) ?_ ?_
  · unfold ρE
    rw [e1]
    refine st_comp fx (bk hsc rfl) ((hk _).trans rfl) (cp1 (ρf := []) (sumsOf (rowOf ns)) (fun p => .list (pints p)) (fun p => PV.float (fmeanOf (p.map fun x => 3 * max 0 x))) (fun _ => true) hA.handled rfl (by decide) (by decide) (List.forall_mem_nil _) [] rfl (by decide) (.inl rfl)
      (ev_name rfl) (.list _) (by rw [h4, sizeLine_eq]; decide) (fun _ _ _ _ => .nil) ?_) rfl (by decide)
    intro cenv ce p hp _
    have G := G1 p hp
    refine ev_fmean (n := n) (hA.less (by omega)) (ce.kind _ _ rfl (by decide)) (ev_cpe (cp1 (ρf := []) p (fun x => .int x) (fun x => .int (3 * max 0 x)) (fun _ => true) hA.handled rfl (by decide) (by decide) (List.forall_mem_nil _) [] rfl (by decide) (.inl rfl)
      (ev_name rfl) (.list _) (by have := G.ln; rw [List.length_map] at this; rw [sizeLine_eq]; omega) (fun _ _ _ _ => .nil) ?_) (by rw [filt_true]; simp [pints])) G
    intro cenv2 ce2 x hx _
    exact ev_bin ev_int (ev_call_b (ce2.kind _ _ rfl (by decide)) (by decide) (by decide +kernel) (evs_cons ev_int (evs_cons (ev_name rfl) evs_nil)) (k_max _ _ hA.handled)) (b_mul _ _ (ok3 _))
  have e2 : pints [] = ((meansOf (rowOf ns)).filter fun _ => false).map PV.float := by
    rw [List.filter_eq_nil_iff.mpr (by simp)]; rfl
  refine run_seq (st_skip (tr_cmp (ev_cpe (cp1 (ρf := []) (meansOf (rowOf ns)) PV.float PV.float (fun _ => false) hA.handled rfl (by decide) (by decide) (List.forall_mem_nil _) [] rfl (by decide) (.inl rfl)
    (ev_name rfl) (.list _) (by unfold meansOf; rw [List.length_map, h4, sizeLine_eq]; decide) ?_ ?_) e2) (ev_list evs_nil (by decide)) (c_nel [] [] (by omega)))) h
  · intro cenv ce x hx
    exact .one (tr_not (t := true) (tr_val (ev_call_b (ce.kind _ _ rfl (by decide)) (by decide) (by decide +kernel) (evs_cons (ev_name rfl) (evs_cons (ev_type (ce.kind _ _ rfl (by decide)) (by decide) (by decide +kernel)) evs_nil)) (k_isi_float _)) (.bool true)))
  · intro cenv ce x hx q
    cases q
end
end Mine
end

section
open PySem PySem.W PySem.Calls PyProof.Rows PySem.Spec
set_option maxRecDepth 100000
namespace Mine
section
variable {w : World} {mg mb : Str → Option Value} {A : Around} {env : Env} {ρ : Loc} {X T : Addr → Prop} {g : Shared} {g₀ : Heap} {M : Mut}
theorem ev_eq {e : Expr} {x y : PV} (h : EV DD PG w mg mb A env ρ e x) (ht : x = y) : EV DD PG w mg mb A env ρ e y := ht ▸ h
def tm (c : Int) (x : UInt64) : UInt64 := Float64.mul (Float64.ofInt c) x
def mAt (ns : List Int) (k : Nat) : UInt64 := (meansOf (rowOf ns)).getD k 0
theorem law_d2 (ns : List Int) {n : Nat} (hA : Rm (n + 3) A) (fx : Fx DD mg mb env T X g₀) (hsc : env.scope = (dAt 14).scope) {ag ab : Addr} {M : Mut}
    (G2 : Good ((highsOf (rowOf ns)).map fun x => 3 * x)) (G3 : Good ((firstsOf (rowOf ns)).map fun x => 3 * x)) (G4 : Good ((lastsOf (rowOf ns)).map fun x => 3 * x))
    (G5 : ∀ p ∈ sumsOf (rowOf ns), Good (p.map fun x => if decide (0 < x) then 3 else 0)) (G6 : ∀ p ∈ sumsOf (rowOf ns), Good (p.map fun x => if decide (x < 0) then 0 else 3))
    (E1 : (Float64.cmp (tm 12 (fmeanOf ((highsOf (rowOf ns)).map fun x => 3 * x))) (Float64.add (Float64.add (Float64.add (tm 12 (mAt ns 0)) (tm 6 (mAt ns 1))) (tm 4 (mAt ns 2))) (tm 3 (mAt ns 3))) != some .eq) = false)
    (E2 : (Float64.cmp (fmeanOf ((firstsOf (rowOf ns)).map fun x => 3 * x)) (PySem.Flt.sumOf (posOf (rowOf ns))) != some .eq) = false)
    (E3 : (Float64.cmp (fmeanOf ((lastsOf (rowOf ns)).map fun x => 3 * x)) (PySem.Flt.sumOf (nneOf (rowOf ns))) == some .eq) = true) :
    RUN DD PG w mg mb A env X T g g₀ (lawFrom 21) (ρE ns ag ab) M (.bool true) := by
  have hk : ∀ n, env.kindOf n = (dAt 14).scope.names.lookup n := fun n => by unfold Env.kindOf; rw [hsc]
  have hu := hA.units
  have h4 : (sumsOf (rowOf ns)).length = 4 := by simp [sumsOf]
  have hm4 : (meansOf (rowOf ns)).length = 4 := by unfold meansOf; rw [List.length_map, h4]
  have l0 : ∀ {xs : List Int}, Good (xs.map fun x => 3 * x) → xs.length ≤ sizeLine := fun G => by have := G.ln; rw [List.length_map] at this; rw [sizeLine_eq]; omega
  have mk : ∀ k, k < 4 → ((meansOf (rowOf ns)).map PV.float)[k]? = some (.float (mAt ns k)) := fun k hk' => by
    unfold mAt
    rw [List.getElem?_map, List.getD_eq_getElem?_getD, List.getElem?_eq_getElem (by omega)]; rfl
  refine run_seq (st_skip (tr_eq (tr_cmp (ev_bin ev_int (ev_fmean (n := n) (hA.less (by omega)) ((hk _).trans rfl) (ev_cpe (cp1 (ρf := []) (highsOf (rowOf ns)) (fun x => .int x) (fun x => .int (3 * x)) (fun _ => true) hA.handled rfl (by decide) (by decide) (List.forall_mem_nil _) [] rfl (by decide) (.inl rfl)
      (ev_name rfl) (.list _) (l0 G2) (fun _ _ _ _ => .nil) ?_) (by rw [filt_true]; simp [pints])) G2) (b_mulif 12 _ (by decide)))
    (ev_bin (ev_bin (ev_bin (ev_bin ev_int (ev_item (k := 0) (ev_name rfl) ev_int (mk 0 (by decide)) (by decide)) (b_mulif 12 _ (by decide))) (ev_bin ev_int (ev_item (k := 1) (ev_name rfl) ev_int (mk 1 (by decide)) (by decide)) (b_mulif 6 _ (by decide))) (b_addff _ _))
      (ev_bin ev_int (ev_item (k := 2) (ev_name rfl) ev_int (mk 2 (by decide)) (by decide)) (b_mulif 4 _ (by decide))) (b_addff _ _)) (ev_bin ev_int (ev_item (k := 3) (ev_name rfl) ev_int (mk 3 (by decide)) (by decide)) (b_mulif 3 _ (by decide))) (b_addff _ _)) (c_nef _ _)) E1)) ?_
  · intro cenv ce x hx _
    exact ev_bin ev_int (ev_name rfl) (b_mul _ _ (ok3 _))
  have e5 : (posOf (rowOf ns)).map PV.float = ((sumsOf (rowOf ns)).filter fun _ => true).map fun p => PV.float (fmeanOf (p.map fun x => if decide (0 < x) then 3 else 0)) := by rw [filt_true]; simp [posOf]
  have e6 : (nneOf (rowOf ns)).map PV.float = ((sumsOf (rowOf ns)).filter fun _ => true).map fun p => PV.float (fmeanOf (p.map fun x => if decide (x < 0) then 0 else 3)) := by rw [filt_true]; simp [nneOf]
  refine run_seq (st_skip (tr_eq (tr_cmp (ev_fmean (n := n) (hA.less (by omega)) ((hk _).trans rfl) (ev_cpe (cp1 (ρf := []) (firstsOf (rowOf ns)) (fun x => .int x) (fun x => .int (3 * x)) (fun _ => true) hA.handled rfl (by decide) (by decide) (List.forall_mem_nil _) [] rfl (by decide) (.inl rfl)
      (ev_name rfl) (.list _) (l0 G3) (fun _ _ _ _ => .nil) ?_) (by rw [filt_true]; simp [pints])) G3)
    (ev_call_b ((hk _).trans rfl) (by decide) (by decide +kernel) (evs_cons (ev_cpe (cp1 (ρf := []) (sumsOf (rowOf ns)) (fun p => .list (pints p)) (fun p => PV.float (fmeanOf (p.map fun x => if decide (0 < x) then 3 else 0))) (fun _ => true) hA.handled rfl (by decide) (by decide) (List.forall_mem_nil _) [] rfl (by decide) (.inl rfl)
      (ev_name rfl) (.list _) (by rw [h4, sizeLine_eq]; decide) (fun _ _ _ _ => .nil) ?_) e5) evs_nil) (k_sumf _ hA.handled (by unfold posOf; rw [List.length_map, h4]; decide))) (c_nef _ _)) E2)) ?_
  · intro cenv ce x hx _
    exact ev_bin ev_int (ev_name rfl) (b_mul _ _ (ok3 _))
  · intro cenv ce p hp _
    have G := G5 p hp
    refine ev_fmean (n := n) (hA.less (by omega)) (ce.kind _ _ rfl (by decide)) (ev_cpe (cp1 (ρf := []) p (fun x => .int x) (fun x => .int (if decide (0 < x) then 3 else 0)) (fun _ => true) hA.handled rfl (by decide) (by decide) (List.forall_mem_nil _) [] rfl (by decide) (.inl rfl)
      (ev_name rfl) (.list _) (by have := G.ln; rw [List.length_map] at this; rw [sizeLine_eq]; omega) (fun _ _ _ _ => .nil) ?_) (by rw [filt_true]; simp only [pints, List.map_map]; rfl)) G
    intro cenv2 ce2 x hx _
    exact ev_itei (tr_cmp (ev_name rfl) ev_int (c_gt _ _)) (fun _ => ev_int) fun _ => ev_int
  refine run_ret (ev_eq (y := .bool true) (ev_cmp (ev_fmean (n := n) (hA.less (by omega)) ((hk _).trans rfl) (ev_cpe (cp1 (ρf := []) (lastsOf (rowOf ns)) (fun x => .int x) (fun x => .int (3 * x)) (fun _ => true) hA.handled rfl (by decide) (by decide) (List.forall_mem_nil _) [] rfl (by decide) (.inl rfl)
      (ev_name rfl) (.list _) (l0 G4) (fun _ _ _ _ => .nil) ?_) (by rw [filt_true]; simp [pints])) G4)
    (ev_call_b ((hk _).trans rfl) (by decide) (by decide +kernel) (evs_cons (ev_cpe (cp1 (ρf := []) (sumsOf (rowOf ns)) (fun p => .list (pints p)) (fun p => PV.float (fmeanOf (p.map fun x => if decide (x < 0) then 0 else 3))) (fun _ => true) hA.handled rfl (by decide) (by decide) (List.forall_mem_nil _) [] rfl (by decide) (.inl rfl)
      (ev_name rfl) (.list _) (by rw [h4, sizeLine_eq]; decide) (fun _ _ _ _ => .nil) ?_) e6) evs_nil) (k_sumf _ hA.handled (by unfold nneOf; rw [List.length_map, h4]; decide))) (c_eqf _ _)) (by rw [E3]))
  · intro cenv ce x hx _
    exact ev_bin ev_int (ev_name rfl) (b_mul _ _ (ok3 _))
  · intro cenv ce p hp _
    have G := G6 p hp
    refine ev_fmean (n := n) (hA.less (by omega)) (ce.kind _ _ rfl (by decide)) (ev_cpe (cp1 (ρf := []) p (fun x => .int x) (fun x => .int (if decide (x < 0) then 0 else 3)) (fun _ => true) hA.handled rfl (by decide) (by decide) (List.forall_mem_nil _) [] rfl (by decide) (.inl rfl)
      (ev_name rfl) (.list _) (by have := G.ln; rw [List.length_map] at this; rw [sizeLine_eq]; omega) (fun _ _ _ _ => .nil) ?_) (by rw [filt_true]; simp only [pints, List.map_map]; rfl)) G
    intro cenv2 ce2 x hx _
    exact ev_itei (tr_cmp (ev_name rfl) ev_int (c_lt _ _)) (fun _ => ev_int) fun _ => ev_int
end
end Mine
end

section
open PySem PySem.W PySem.Calls PyProof.Rows PySem.Spec
set_option maxRecDepth 100000
namespace Mine
/-- what the plain law says of a row -/
structure Plain (row : List Int) : Prop where
  p1 : uld ([9] ++ abovesOf row) (firstsOf row) = ([9], [])
  p2 : uld (nonnegOf row) (lastsOf row ++ [9]) = ([], [9])
  p3 : uld (lastsOf row) (firstsOf row) = (toldM (lastsOf row) (firstsOf row), toldL (lastsOf row) (firstsOf row))
  p4 : (((uld (lastsOf row) (firstsOf row)).1 == [] && (uld (lastsOf row) (firstsOf row)).2 == []) == (sumsOf row).flatten.any (· == 0)) = false
  p5 : uld (highsOf row) (gainsOf row) = ([], [])
  g1 : ∀ p ∈ sumsOf row, Good (p.map fun x => 3 * max 0 x)
  g2 : Good ((highsOf row).map fun x => 3 * x)
  g3 : Good ((firstsOf row).map fun x => 3 * x)
  g4 : Good ((lastsOf row).map fun x => 3 * x)
  g5 : ∀ p ∈ sumsOf row, Good (p.map fun x => if decide (0 < x) then 3 else 0)
  g6 : ∀ p ∈ sumsOf row, Good (p.map fun x => if decide (x < 0) then 0 else 3)
  e1 : (Float64.cmp (tm 12 (fmeanOf ((highsOf row).map fun x => 3 * x))) (Float64.add (Float64.add (Float64.add (tm 12 ((meansOf row).getD 0 0)) (tm 6 ((meansOf row).getD 1 0))) (tm 4 ((meansOf row).getD 2 0))) (tm 3 ((meansOf row).getD 3 0))) != some .eq) = false
  e2 : (Float64.cmp (fmeanOf ((firstsOf row).map fun x => 3 * x)) (PySem.Flt.sumOf (posOf row)) != some .eq) = false
  e3 : (Float64.cmp (fmeanOf ((lastsOf row).map fun x => 3 * x)) (PySem.Flt.sumOf (nneOf row)) == some .eq) = true
section
variable {w : World} {mg mb : Str → Option Value} {A : Around}
theorem law_call {s : Shared} {ns : List Int} {v : Value} {f : Addr} {n : Nat} (P : Plain (rowOf ns)) (hA : Rm (n + 4) A) (hfr : A.frames = some []) (hf : mg "law" = some (.ref f)) (hB : Base DD mg mb s.heap) (hns : ns.length ≤ 63) (hv : Rep (fun _ => False) s.heap v (.list (pints ns))) :
    wpAny (model PG w) A (call (.ref f) [v] []) (fun v s' => v = .bool true ∧ Ok s s') (fun _ _ => False) s := by
  obtain ⟨a', o, pm, code, doc, h1, h2, h3, h4⟩ := hB.fn (dAt 14) (mem_dd (by decide))
  have e1 : mg (dAt 14).name = mg "law" := rfl
  rw [e1, hf] at h1; cases h1
  refine wpAny_call (enter (D := DD) (prog := PG) (mg := mg) (mb := mb) (fd := docDef (dAt 14).name (dAt 14).params (dAt 14).body (dAt 14).scope pm code doc) (ps := ["script"]) (pvs := [.list (pints ns)]) (T₀ := fun _ => False) (M := []) (g₀ := s.heap) (X := fun _ => False)
    (by have := hA.depth; omega) h2 h3 h4 rfl rfl rfl rfl rfl rfl (by decide) (show ∀ x ∈ (["script"] : List Str), (dAt 14).scope.names.lookup x = some .local ∨ (dAt 14).scope.names.lookup x = some .cell by decide) (show ∀ x ∈ (dAt 14).scope.names, x.2 ≠ .free by decide) hB (Grow.refl _) (fun b t => t.elim) (fun b t => t.elim)
    (fun b t => t.elim) (fun b t => t.elim) (.cons hv .nil) (fun p hp => by cases hp) (fun env T X' s₁ hsc fx hT hT' hXX hX' B hE => ?_))
  have hk : ∀ n, env.kindOf n = (dAt 14).scope.names.lookup n := fun n => by unfold Env.kindOf; rw [hsc]; rfl
  have hA1 := hA.deep env
  have htl : T env.locals := by
    cases B.slots "told" (.inl ((hk _).trans rfl)) with
    | loc m k n t => exact t
    | cell c v k' => rw [hk] at k'; cases k'
  have L : LawF (A.deeper env) env T := ⟨Around.frames_deeper hfr, by rw [hE]; rfl, htl, ⟨"told", (hk _).trans rfl⟩⟩
  have main : RUN DD PG w mg mb (A.deeper env) env X' T s s.heap (lawFrom 0) [("script", .list (pints ns))] [] (.bool true) :=
    law_a1 ns hns (n := n) hA1 fx hsc (law_a2 ns (n := n) hA1 fx hsc (law_b1 ns (n := n) hA1 L fx hsc P.p1 P.p2 (law_b2 ns (n := n) hA1 fx hsc (law_b3 ns (n := n) hA1 L fx hsc P.p3 P.p4 (law_c ns (n := n) hA1 L fx hsc P.p5 fun ag ab X T fx' =>
      law_d1 ns (n := n) hA1 fx' hsc P.g1 (law_d2 ns (n := n) hA1 fx' hsc P.g2 P.g3 P.g4 P.g5 P.g6 P.e1 P.e2 P.e3))))))
  refine wpAny_mono (main s₁ B) (fun f s' q => ?_) fun _ _ f => f.elim
  obtain ⟨v, rfl, b, lv, rv⟩ := q
  cases rv
  exact ⟨rfl, ⟨b.grow (fun c t => (hT c t).elim (fun f => f.elim) fun q => q) (Grow.refl _), b.gens, b.drawn, b.os⟩⟩
end
theorem rm_caller : Rm 4 callerA := ⟨rfl, by decide +kernel, by decide +kernel⟩
end Mine
end

section
open PySem PySem.W PySem.Calls PyProof.Rows PySem.Spec
set_option maxRecDepth 100000
namespace Mine
theorem base_of {P : Params} {h : Heap} {mg mb : Str → Option Value} {mean : ExcName → Option Value} (KX : (hd.heap_39 P).In h) (T : Top hd.view_39 (looseW hd.view_39 [Str.ofString "fmean"]) mean mg mb h) : Base DD mg mb h where
  g := T.g
  b := T.b
  nolimit := T.nolimit
  bb := T.builtins
  nog := fun x hx => T.free x ((show ∀ x ∈ names0, x ∉ startupNames by decide +kernel) x hx) ((show ∀ x ∈ names0, x ∉ looseW hd.view_39 [Str.ofString "fmean"] by decide +kernel) x hx) ((show ∀ x ∈ names0, x ∉ (recsOf hd.view_39).map (·.name) by decide +kernel) x hx)
    ((show ∀ x ∈ names0, x ∉ (litsOf hd.view_39).map (·.1) by decide +kernel) x hx) ((show ∀ x ∈ names0, x ∉ (clssOf hd.view_39 (looseW hd.view_39 [Str.ofString "fmean"])).map (·.name) by decide +kernel) x hx)
  sm := sm_of KX (topRead_of T)
  fn := fun d hd => T.fn d (recs_view ▸ hd)
end Mine
end

section
namespace Mine
def ordersN : Nat → List (List Nat)
  | 0 => [[]]
  | k + 1 => (ordersN k).flatMap fun one => (List.range (k + 1)).map fun i => one.take i ++ [k] ++ one.drop i
/-- the abstract walk -/
structure AW where
  pm : Nat
  bm : Nat
  cnt : Nat
  idx : Nat
def bt (t m : Nat) : Bool := (t >>> m) % 2 == 1
def awStep (t : Nat) (s : AW) (k j : Nat) : AW :=
  let p := s.pm + 2 ^ j
  let c := if bt t p then s.cnt + 1 else s.cnt
  if bt t (p - s.bm) then ⟨p, p, c, k + 1⟩ else ⟨p, s.bm, c, s.idx⟩
def aw (t : Nat) : List Nat → Nat → AW → AW
  | [], _, s => s
  | j :: r, k, s => aw t r (k + 1) (awStep t s k j)
def aw0 (t : Nat) (o : List Nat) : AW := aw t o 0 ⟨0, 0, 0, 0⟩
/-- the mask of the wheel from a on -/
def wheelM (o : List Nat) : Nat → Nat → Nat → Nat
  | 0, m, _ => m
  | f + 1, m, a => if bt m a then m else wheelM o f (m + 2 ^ a) (o.getD a 0)
def gainM (t : Nat) (o : List Nat) : Nat → Nat × Nat
  | 0 => (0, 0)
  | i + 1 => let r := gainM t o i; let m := wheelM o 5 r.1 i; (m, if bt t (m - r.1) then r.2 + (m - r.1) else r.2)
def pop4 (m : Nat) : Nat := m % 2 + (m / 2) % 2 + (m / 4) % 2 + (m / 8) % 2
def wA (m : Nat) : Nat := match pop4 m with | 1 => 6 | 2 => 4 | 3 => 6 | _ => 24
def wG (m : Nat) : Nat := match pop4 m with | 1 => 6 | 2 => 2 | 3 => 2 | _ => 6
def masks : List Nat := (List.range 15).map (· + 1)
def propT (os : List (List Nat)) (t : Nat) : Bool :=
  let ws := os.map (aw0 t)
  let gs := os.map fun o => (gainM t o 4).2
  (ws.map (·.cnt)).isPerm (ws.map (·.idx)) && (ws.map (·.bm)).isPerm gs && ((ws.map (·.cnt)).sum == (masks.map fun m => if bt t m then wA m else 0).sum) &&
    (List.range 4).all fun i => (ws.map fun s => (s.bm >>> i) % 2).sum == (masks.map fun m => if bt t m then wG m * ((m >>> i) % 2) else 0).sum
/-- the bit of t at m, as a number; all that follows in raw words, so that the kernel counts fast -/
def bN (t m : Nat) : Nat := Nat.land (Nat.shiftRight t m) (nat_lit 1)
def up (t p x : Nat) : Nat := Nat.add x (Nat.mul (bN t (Nat.sub p x)) (Nat.sub p x))
def ui (t k p x i : Nat) : Nat := Nat.add i (Nat.mul (bN t (Nat.sub p x)) (Nat.sub k i))
def x1 (t p : Nat) : Nat := Nat.mul (bN t p) p
def x2 (t p q : Nat) : Nat := up t q (x1 t p)
def x3 (t p q r : Nat) : Nat := up t r (x2 t p q)
def x4 (t : Nat) (o : Nat × Nat × Nat) : Nat := up t (nat_lit 15) (x3 t o.1 o.2.1 o.2.2)
def i2 (t p q : Nat) : Nat := ui t (nat_lit 2) q (x1 t p) (bN t p)
def i3 (t p q r : Nat) : Nat := ui t (nat_lit 3) r (x2 t p q) (i2 t p q)
def i4 (t : Nat) (o : Nat × Nat × Nat) : Nat := ui t (nat_lit 4) (nat_lit 15) (x3 t o.1 o.2.1 o.2.2) (i3 t o.1 o.2.1 o.2.2)
def c4 (t : Nat) (o : Nat × Nat × Nat) : Nat := Nat.add (Nat.add (Nat.add (bN t o.1) (bN t o.2.1)) (bN t o.2.2)) (bN t (nat_lit 15))
def g4 (t : Nat) (o : Nat × Nat × Nat × Nat) : Nat := Nat.add (Nat.add (Nat.add (x1 t o.1) (x1 t o.2.1)) (x1 t o.2.2.1)) (x1 t o.2.2.2)
def pw (n : Nat) : Nat := Nat.shiftLeft (nat_lit 1) (Nat.mul (nat_lit 5) n)
def sumP {α : Type} (f : α → Nat) : List α → Nat
  | [] => nat_lit 0
  | a :: l => Nat.add (f a) (sumP f l)
def pre : List (Nat × Nat × Nat) := [(nat_lit 8, nat_lit 12, nat_lit 14), (nat_lit 4, nat_lit 12, nat_lit 14), (nat_lit 4, nat_lit 6, nat_lit 14), (nat_lit 4, nat_lit 6, nat_lit 7), (nat_lit 8, nat_lit 10, nat_lit 14), (nat_lit 2, nat_lit 10, nat_lit 14), (nat_lit 2, nat_lit 6, nat_lit 14), (nat_lit 2, nat_lit 6, nat_lit 7), (nat_lit 8, nat_lit 10, nat_lit 11), (nat_lit 2, nat_lit 10, nat_lit 11), (nat_lit 2, nat_lit 3, nat_lit 11), (nat_lit 2, nat_lit 3, nat_lit 7), (nat_lit 8, nat_lit 12, nat_lit 13), (nat_lit 4, nat_lit 12, nat_lit 13), (nat_lit 4, nat_lit 5, nat_lit 13), (nat_lit 4, nat_lit 5, nat_lit 7), (nat_lit 8, nat_lit 9, nat_lit 13), (nat_lit 1, nat_lit 9, nat_lit 13), (nat_lit 1, nat_lit 5, nat_lit 13), (nat_lit 1, nat_lit 5, nat_lit 7), (nat_lit 8, nat_lit 9, nat_lit 11), (nat_lit 1, nat_lit 9, nat_lit 11), (nat_lit 1, nat_lit 3, nat_lit 11), (nat_lit 1, nat_lit 3, nat_lit 7)]
def gds : List (Nat × Nat × Nat × Nat) := [(nat_lit 9, nat_lit 6, nat_lit 0, nat_lit 0), (nat_lit 15, nat_lit 0, nat_lit 0, nat_lit 0), (nat_lit 13, nat_lit 2, nat_lit 0, nat_lit 0), (nat_lit 5, nat_lit 2, nat_lit 0, nat_lit 8), (nat_lit 9, nat_lit 2, nat_lit 4, nat_lit 0), (nat_lit 11, nat_lit 0, nat_lit 4, nat_lit 0), (nat_lit 15, nat_lit 0, nat_lit 0, nat_lit 0), (nat_lit 7, nat_lit 0, nat_lit 0, nat_lit 8), (nat_lit 13, nat_lit 2, nat_lit 0, nat_lit 0), (nat_lit 15, nat_lit 0, nat_lit 0, nat_lit 0), (nat_lit 3, nat_lit 0, nat_lit 12, nat_lit 0), (nat_lit 3, nat_lit 0, nat_lit 4, nat_lit 8), (nat_lit 15, nat_lit 0, nat_lit 0, nat_lit 0), (nat_lit 5, nat_lit 10, nat_lit 0, nat_lit 0), (nat_lit 15, nat_lit 0, nat_lit 0, nat_lit 0), (nat_lit 7, nat_lit 0, nat_lit 0, nat_lit 8), (nat_lit 11, nat_lit 0, nat_lit 4, nat_lit 0), (nat_lit 1, nat_lit 10, nat_lit 4, nat_lit 0), (nat_lit 1, nat_lit 14, nat_lit 0, nat_lit 0), (nat_lit 1, nat_lit 6, nat_lit 0, nat_lit 8), (nat_lit 15, nat_lit 0, nat_lit 0, nat_lit 0), (nat_lit 1, nat_lit 14, nat_lit 0, nat_lit 0), (nat_lit 1, nat_lit 2, nat_lit 12, nat_lit 0), (nat_lit 1, nat_lit 2, nat_lit 4, nat_lit 8)]
def mwA : List (Nat × Nat) := [(nat_lit 1, nat_lit 6), (nat_lit 2, nat_lit 6), (nat_lit 3, nat_lit 4), (nat_lit 4, nat_lit 6), (nat_lit 5, nat_lit 4), (nat_lit 6, nat_lit 4), (nat_lit 7, nat_lit 6), (nat_lit 8, nat_lit 6), (nat_lit 9, nat_lit 4), (nat_lit 10, nat_lit 4), (nat_lit 11, nat_lit 6), (nat_lit 12, nat_lit 4), (nat_lit 13, nat_lit 6), (nat_lit 14, nat_lit 6), (nat_lit 15, nat_lit 24)]
def mwG : List (Nat × Nat) := [(nat_lit 1, nat_lit 6), (nat_lit 2, nat_lit 6), (nat_lit 3, nat_lit 2), (nat_lit 4, nat_lit 6), (nat_lit 5, nat_lit 2), (nat_lit 6, nat_lit 2), (nat_lit 7, nat_lit 2), (nat_lit 8, nat_lit 6), (nat_lit 9, nat_lit 2), (nat_lit 10, nat_lit 2), (nat_lit 11, nat_lit 2), (nat_lit 12, nat_lit 2), (nat_lit 13, nat_lit 2), (nat_lit 14, nat_lit 2), (nat_lit 15, nat_lit 6)]
def bitsB (t i : Nat) : Bool := Nat.beq (sumP (fun o => Nat.mod (Nat.shiftRight (x4 t o) i) (nat_lit 2)) pre) (sumP (fun m => Nat.mul (bN t m.1) (Nat.mul m.2 (Nat.mod (Nat.shiftRight m.1 i) (nat_lit 2)))) mwG)
def leaf1 (t : Nat) : Bool := Nat.beq (sumP (fun o => pw (c4 t o)) pre) (sumP (fun o => pw (i4 t o)) pre)
def leaf2 (t : Nat) : Bool := Nat.beq (sumP (fun o => pw (x4 t o)) pre) (sumP (fun o => pw (g4 t o)) gds)
def leaf3 (t : Nat) : Bool := Nat.beq (sumP (c4 t) pre) (sumP (fun m => Nat.mul (bN t m.1) m.2) mwA)
def leaf4 (t : Nat) : Bool := bitsB t (nat_lit 0) && (bitsB t (nat_lit 1) && (bitsB t (nat_lit 2) && bitsB t (nat_lit 3)))
def canF (t : Nat) : List (Nat × Nat) → Bool
  | [] => true
  | p :: r => Nat.beq (Nat.land (bN t p.1) (bN t p.2)) (nat_lit 0) && canF t r
def canT (t : Nat) : List (Nat × Nat) → Bool
  | [] => true
  | p :: r => Nat.beq (Nat.lor (bN t p.1) (bN t p.2)) (nat_lit 1) && canT t r
/-- for each mask: its bit in the table, and the pairs that make it up -/
def dfs (leaf : Nat → Bool) : List (Nat × List (Nat × Nat)) → Nat → Bool
  | [], t => leaf t
  | p :: r, t => (!canF t p.2 || dfs leaf r t) && (!canT t p.2 || dfs leaf r (Nat.add t p.1))
def plan : List (Nat × List (Nat × Nat)) := [(nat_lit 2, []), (nat_lit 4, []), (nat_lit 8, [(nat_lit 1, nat_lit 2)]), (nat_lit 16, []), (nat_lit 32, [(nat_lit 1, nat_lit 4)]), (nat_lit 64, [(nat_lit 2, nat_lit 4)]), (nat_lit 128, [(nat_lit 1, nat_lit 6), (nat_lit 2, nat_lit 5), (nat_lit 3, nat_lit 4)]), (nat_lit 256, []), (nat_lit 512, [(nat_lit 1, nat_lit 8)]), (nat_lit 1024, [(nat_lit 2, nat_lit 8)]), (nat_lit 2048, [(nat_lit 1, nat_lit 10), (nat_lit 2, nat_lit 9), (nat_lit 3, nat_lit 8)]), (nat_lit 4096, [(nat_lit 4, nat_lit 8)]), (nat_lit 8192, [(nat_lit 1, nat_lit 12), (nat_lit 4, nat_lit 9), (nat_lit 5, nat_lit 8)]), (nat_lit 16384, [(nat_lit 2, nat_lit 12), (nat_lit 4, nat_lit 10), (nat_lit 6, nat_lit 8)]), (nat_lit 32768, [(nat_lit 1, nat_lit 14), (nat_lit 2, nat_lit 13), (nat_lit 3, nat_lit 12), (nat_lit 4, nat_lit 11), (nat_lit 5, nat_lit 10), (nat_lit 6, nat_lit 9), (nat_lit 7, nat_lit 8)])]
theorem dfs_ok1 : dfs leaf1 plan (nat_lit 0) = true := by decide +kernel
theorem dfs_ok2 : dfs leaf2 plan (nat_lit 0) = true := by decide +kernel
theorem dfs_ok3 : dfs leaf3 plan (nat_lit 0) = true := by decide +kernel
theorem dfs_ok4 : dfs leaf4 plan (nat_lit 0) = true := by decide +kernel
end Mine
end

section
namespace Mine
theorem bt_def (t m : Nat) : bt t m = (t / 2 ^ m % 2 == 1) := by unfold bt; rw [Nat.shiftRight_eq_div_pow]
/-- the table of P, below n -/
def tb (P : Nat → Bool) : Nat → Nat
  | 0 => 0
  | n + 1 => tb P n + if P n then 2 ^ n else 0
theorem tb_lt (P : Nat → Bool) : ∀ n, tb P n < 2 ^ n
  | 0 => by show 0 < 1; decide
  | n + 1 => by
    have := tb_lt P n
    show tb P n + (if P n then 2 ^ n else 0) < 2 ^ (n + 1)
    rw [Nat.pow_succ]
    split <;> omega
theorem bt_low (x c n m : Nat) (h : m < n) : bt (x + c * 2 ^ n) m = bt x m := by
  rw [bt_def, bt_def]
  have e : c * 2 ^ n = (c * 2 ^ (n - m - 1) * 2) * 2 ^ m := by
    have : 2 ^ n = 2 ^ (n - m - 1) * 2 * 2 ^ m := by
      rw [Nat.mul_assoc, ← Nat.pow_succ', ← Nat.pow_add]; congr 1; omega
    rw [this]; ac_rfl
  rw [e, Nat.add_mul_div_right _ _ (Nat.two_pow_pos m), Nat.add_mul_mod_self_right]
theorem bt_tb (P : Nat → Bool) : ∀ n m, m < n → bt (tb P n) m = P m
  | n + 1, m, h => by
    show bt (tb P n + if P n then 2 ^ n else 0) m = P m
    have e : (if P n then 2 ^ n else 0) = (if P n then 1 else 0) * 2 ^ n := by split <;> simp
    rw [e]
    by_cases hm : m < n
    · rw [bt_low _ _ _ _ hm]; exact bt_tb P n m hm
    · have : m = n := by omega
      subst this
      rw [bt_def, Nat.add_mul_div_right _ _ (Nat.two_pow_pos m), Nat.div_eq_of_lt (tb_lt P m)]
      cases P m <;> rfl
/-- the rules hold of P -/
def Cons (P : Nat → Bool) : Prop := ∀ m < 16, ∀ s < m, s ≠ 0 → s &&& m = s → P s = P (m - s) → P m = P s
theorem bN_bt (t m : Nat) : bN t m = if bt t m then 1 else 0 := by
  have e : bN t m = (t >>> m) % 2 := by show (t >>> m) &&& 1 = _; rw [Nat.and_one_is_mod]
  rw [e]
  unfold bt
  have := Nat.mod_two_eq_zero_or_one (t >>> m)
  rcases this with h | h <;> rw [h] <;> rfl
theorem bN_tb (P : Nat → Bool) (n m : Nat) (h : m < n) : bN (tb P n) m = if P m then 1 else 0 := by rw [bN_bt, bt_tb P n m h]
/-- the pairs make up m -/
def pairsFit (m : Nat) (l : List (Nat × Nat)) : Bool := l.all fun q => q.1 != 0 && decide (q.1 < m) && (q.1 &&& m == q.1) && (q.2 == m - q.1)
def planFit : Nat → List (Nat × List (Nat × Nat)) → Bool
  | m, [] => m == 16
  | m, p :: r => decide (m < 16) && (p.1 == 2 ^ m) && pairsFit m p.2 && planFit (m + 1) r
theorem pair_facts {m : Nat} {l : List (Nat × Nat)} (h : pairsFit m l = true) : ∀ q ∈ l, q.1 ≠ 0 ∧ q.1 < m ∧ q.1 &&& m = q.1 ∧ q.2 = m - q.1 := fun q hq => by
  have := (List.all_eq_true.mp h) q hq
  simp only [Bool.and_eq_true, bne_iff_ne, ne_eq, decide_eq_true_eq, beq_iff_eq] at this
  exact ⟨this.1.1.1, this.1.1.2, this.1.2, this.2⟩
theorem canF_of {P : Nat → Bool} (h : Cons P) {m : Nat} (hm : m < 16) (hp : P m = false) : ∀ l, (∀ q ∈ l, q.1 ≠ 0 ∧ q.1 < m ∧ q.1 &&& m = q.1 ∧ q.2 = m - q.1) → canF (tb P m) l = true
  | [], _ => rfl
  | q :: r, hl => by
    obtain ⟨h0, h1, h2, h3⟩ := hl q (List.mem_cons_self ..)
    have hr := canF_of h hm hp r fun x hx => hl x (List.mem_cons_of_mem _ hx)
    show (Nat.beq (Nat.land (bN (tb P m) q.1) (bN (tb P m) q.2)) 0 && canF (tb P m) r) = true
    rw [hr, bN_tb P _ _ h1, bN_tb P _ _ (by omega : q.2 < m), Bool.and_true, h3]
    have hc := h m hm q.1 h1 h0 h2
    cases e1 : P q.1 <;> cases e2 : P (m - q.1)
    · rfl
    · rfl
    · rfl
    · exact absurd (hc (e1.trans e2.symm)) (by rw [hp, e1]; decide)
theorem canT_of {P : Nat → Bool} (h : Cons P) {m : Nat} (hm : m < 16) (hp : P m = true) : ∀ l, (∀ q ∈ l, q.1 ≠ 0 ∧ q.1 < m ∧ q.1 &&& m = q.1 ∧ q.2 = m - q.1) → canT (tb P m) l = true
  | [], _ => rfl
  | q :: r, hl => by
    obtain ⟨h0, h1, h2, h3⟩ := hl q (List.mem_cons_self ..)
    have hr := canT_of h hm hp r fun x hx => hl x (List.mem_cons_of_mem _ hx)
    show (Nat.beq (Nat.lor (bN (tb P m) q.1) (bN (tb P m) q.2)) 1 && canT (tb P m) r) = true
    rw [hr, bN_tb P _ _ h1, bN_tb P _ _ (by omega : q.2 < m), Bool.and_true, h3]
    have hc := h m hm q.1 h1 h0 h2
    cases e1 : P q.1 <;> cases e2 : P (m - q.1)
    · exact absurd (hc (e1.trans e2.symm)) (by rw [hp, e1]; decide)
    · rfl
    · rfl
    · rfl
theorem dfs_sound {P : Nat → Bool} (h : Cons P) (leaf : Nat → Bool) : ∀ l m, planFit m l = true → dfs leaf l (tb P m) = true → leaf (tb P 16) = true
  | [], m, hf, he => by
    have : m = 16 := by simpa [planFit] using hf
    subst this; exact he
  | p :: r, m, hf, he => by
    unfold planFit at hf
    simp only [Bool.and_eq_true, decide_eq_true_eq, beq_iff_eq] at hf
    obtain ⟨⟨⟨hm, hp2⟩, hp⟩, hr⟩ := hf
    have pf := pair_facts hp
    refine dfs_sound h leaf r (m + 1) hr ?_
    have et : tb P (m + 1) = tb P m + if P m then 2 ^ m else 0 := rfl
    unfold dfs at he
    rw [Bool.and_eq_true] at he
    cases hq : P m with
    | true =>
      rw [hq, if_pos rfl] at et
      rw [et]
      have := he.2
      rw [canT_of h hm hq p.2 pf] at this
      rw [← hp2]
      simpa using this
    | false =>
      rw [hq, if_neg (by decide)] at et
      rw [et, Nat.add_zero]
      have := he.1
      rw [canF_of h hm hq p.2 pf] at this
      simpa using this
theorem leaf_of {P : Nat → Bool} (h : Cons P) (h0 : P 0 = false) {leaf : Nat → Bool} (hl : dfs leaf plan 0 = true) : leaf (tb P 16) = true := by
  refine dfs_sound h leaf plan 1 (by decide) ?_
  have : tb P 1 = 0 := by show 0 + (if P 0 then 2 ^ 0 else 0) = 0; rw [h0]; rfl
  rw [this]
  exact hl
-- bags by their codes
theorem sumP_eq {α : Type} (f : α → Nat) : ∀ l, sumP f l = (l.map f).sum
  | [] => rfl
  | a :: l => by rw [List.map_cons, List.sum_cons, ← sumP_eq f l]; rfl
theorem pw_eq (n : Nat) : pw n = 32 ^ n := by
  show 1 <<< (5 * n) = 32 ^ n
  rw [Nat.one_shiftLeft, Nat.pow_mul]
theorem code_split (v : Nat) : ∀ l : List Nat, ∃ A K, (l.map pw).sum = A + (l.count v + 32 * K) * 32 ^ v ∧ A * 32 ≤ l.length * 32 ^ v
  | [] => ⟨0, 0, by simp, by simp⟩
  | x :: l => by
    obtain ⟨A, K, e, hA⟩ := code_split v l
    have hS : (List.map pw (x :: l)).sum = 32 ^ x + (A + (l.count v + 32 * K) * 32 ^ v) := by rw [List.map_cons, List.sum_cons, e, pw_eq]
    have hL : (x :: l).length * 32 ^ v = l.length * 32 ^ v + 32 ^ v := by rw [List.length_cons, Nat.add_mul, Nat.one_mul]
    rw [hS, hL]
    have hq : 0 < 32 ^ v := Nat.pow_pos (by decide)
    generalize hQ : 32 ^ v = Q at *
    rcases Nat.lt_trichotomy x v with h | h | h
    · refine ⟨32 ^ x + A, K, ?_, ?_⟩
      · rw [List.count_cons_of_ne (by omega : x ≠ v), Nat.add_assoc]
      · have h2 : 32 ^ (x + 1) ≤ 32 ^ v := Nat.pow_le_pow_right (by decide) h
        rw [Nat.pow_succ, hQ] at h2
        generalize 32 ^ x = X at *
        generalize l.length * Q = Z at *
        omega
    · refine ⟨A, K, ?_, by generalize l.length * Q = Z at *; omega⟩
      have h3 : (l.count v + 1 + 32 * K) * Q = (l.count v + 32 * K) * Q + Q := by rw [show l.count v + 1 + 32 * K = (l.count v + 32 * K) + 1 by omega, Nat.add_mul (l.count v + 32 * K) 1 Q, Nat.one_mul]
      rw [h, hQ, List.count_cons_self, h3]
      generalize (List.count v l + 32 * K) * Q = Z
      omega
    · refine ⟨A, K + 32 ^ (x - v - 1), ?_, by generalize l.length * Q = Z at *; omega⟩
      have hx : 32 * 32 ^ (x - v - 1) * Q = 32 ^ x := by rw [← hQ, ← Nat.pow_succ', ← Nat.pow_add]; congr 1; omega
      have h3 : (l.count v + 32 * (K + 32 ^ (x - v - 1))) * Q = (l.count v + 32 * K) * Q + 32 ^ x := by
        rw [show l.count v + 32 * (K + 32 ^ (x - v - 1)) = (l.count v + 32 * K) + 32 * 32 ^ (x - v - 1) by omega, Nat.add_mul (l.count v + 32 * K), hx]
      rw [List.count_cons_of_ne (by omega : x ≠ v), h3]
      generalize (List.count v l + 32 * K) * Q = Z
      generalize 32 ^ x = X
      omega
theorem code_count (v : Nat) (l : List Nat) (h : l.length < 32) : (l.map pw).sum / 32 ^ v % 32 = l.count v := by
  obtain ⟨A, K, e, hA⟩ := code_split v l
  have hp : 0 < 32 ^ v := Nat.pow_pos (by decide)
  have hlt : A < 32 ^ v := by
    have : l.length * 32 ^ v ≤ 31 * 32 ^ v := Nat.mul_le_mul_right _ (by omega)
    omega
  have hc : l.count v ≤ l.length := List.count_le_length
  rw [e, Nat.add_mul_div_right _ _ hp, Nat.div_eq_of_lt hlt]
  omega
theorem perm_of_code {l l' : List Nat} (h : l.length < 32) (h' : l'.length < 32) (e : (l.map pw).sum = (l'.map pw).sum) : l.Perm l' := by
  rw [List.perm_iff_count]
  intro v
  rw [← code_count v l h, ← code_count v l' h', e]
-- the walk, in raw words
theorem bN_le (t m : Nat) : bN t m ≤ 1 := by rw [bN_bt]; split <;> decide
theorem up_eq {t p x : Nat} (h : x ≤ p) : up t p x = if bt t (p - x) then p else x := by
  show x + bN t (p - x) * (p - x) = _
  rw [bN_bt]; split <;> omega
theorem ui_eq {t k p x i : Nat} (h : i ≤ k) : ui t k p x i = if bt t (p - x) then k else i := by
  show i + bN t (p - x) * (k - i) = _
  rw [bN_bt]; split <;> omega
theorem aw_step (t p c x i k j q : Nat) (hq : p + 2 ^ j = q) (hx : x ≤ p) (hi : i ≤ k) : awStep t ⟨p, x, c, i⟩ k j = ⟨q, up t q x, c + bN t q, ui t (k + 1) q x i⟩ ∧ up t q x ≤ q ∧ ui t (k + 1) q x i ≤ k + 1 := by
  subst hq
  have hx' : x ≤ p + 2 ^ j := Nat.le_trans hx (Nat.le_add_right _ _)
  rw [up_eq hx', ui_eq (by omega : i ≤ k + 1), bN_bt]
  refine ⟨?_, ?_, ?_⟩
  · unfold awStep
    by_cases h1 : bt t (p + 2 ^ j - x) = true <;> by_cases h2 : bt t (p + 2 ^ j) = true <;> simp [h1, h2]
  · split
    · exact Nat.le_refl _
    · exact hx'
  · split <;> omega
theorem aw_raw (t a b c d p q r : Nat) (hp : 2 ^ a = p) (hq : p + 2 ^ b = q) (hr : q + 2 ^ c = r) (hs : r + 2 ^ d = 15) : aw0 t [a, b, c, d] = ⟨15, x4 t (p, q, r), c4 t (p, q, r), i4 t (p, q, r)⟩ := by
  unfold aw0 aw aw aw aw aw
  have s1 := aw_step t 0 0 0 0 0 a p (by omega) (Nat.le_refl _) (Nat.le_refl _)
  have e1 : up t p 0 = x1 t p := by show 0 + bN t p * p = bN t p * p; omega
  have e2 : ui t 1 p 0 0 = bN t p := by show 0 + bN t p * 1 = bN t p; omega
  rw [e1] at s1
  simp only [Nat.zero_add, e2] at s1
  rw [s1.1]
  have s2 := aw_step t p (bN t p) (x1 t p) (bN t p) 1 b q hq s1.2.1 s1.2.2
  rw [show 0 + 1 = 1 from rfl, s2.1]
  have s3 := aw_step t q (bN t p + bN t q) _ _ 2 c r hr s2.2.1 s2.2.2
  rw [show 1 + 1 = 2 from rfl, s3.1]
  have s4 := aw_step t r (bN t p + bN t q + bN t r) _ _ 3 d 15 hs s3.2.1 s3.2.2
  rw [show 2 + 1 = 3 from rfl, s4.1]
  rfl
def prefs (o : List Nat) : Nat × Nat × Nat := (2 ^ o.getD 0 0, 2 ^ o.getD 0 0 + 2 ^ o.getD 1 0, 2 ^ o.getD 0 0 + 2 ^ o.getD 1 0 + 2 ^ o.getD 2 0)
theorem pre_eq : pre = (ordersN 4).map prefs := by decide
theorem orders_shape : ∀ o ∈ ordersN 4, o.length = 4 ∧ 2 ^ o.getD 0 0 + 2 ^ o.getD 1 0 + 2 ^ o.getD 2 0 + 2 ^ o.getD 3 0 = 15 := by decide
theorem aw_pre (t : Nat) (o : List Nat) (ho : o ∈ ordersN 4) : aw0 t o = ⟨15, x4 t (prefs o), c4 t (prefs o), i4 t (prefs o)⟩ := by
  obtain ⟨h1, h2⟩ := orders_shape o ho
  match o, h1 with
  | [a, b, c, d], _ => exact aw_raw t a b c d _ _ _ rfl rfl rfl h2
-- the wheels
def gF (o : List Nat) : Nat → Nat
  | 0 => 0
  | i + 1 => wheelM o 5 (gF o i) i
theorem gF_eq (t : Nat) (o : List Nat) : ∀ i, (gainM t o i).1 = gF o i
  | 0 => rfl
  | i + 1 => by show wheelM o 5 (gainM t o i).1 i = _; rw [gF_eq t o i]; rfl
theorem gS_eq (t : Nat) (o : List Nat) (i : Nat) : (gainM t o (i + 1)).2 = (gainM t o i).2 + x1 t (gF o (i + 1) - gF o i) := by
  show (if bt t (wheelM o 5 (gainM t o i).1 i - (gainM t o i).1) then _ else _) = _
  rw [gF_eq t o i]
  show _ = (gainM t o i).2 + bN t (gF o (i + 1) - gF o i) * (gF o (i + 1) - gF o i)
  rw [bN_bt]
  show (if bt t (gF o (i + 1) - gF o i) then (gainM t o i).2 + (gF o (i + 1) - gF o i) else (gainM t o i).2) = _
  split <;> omega
def dds (o : List Nat) : Nat × Nat × Nat × Nat := (gF o 1 - gF o 0, gF o 2 - gF o 1, gF o 3 - gF o 2, gF o 4 - gF o 3)
theorem gds_eq : gds = (ordersN 4).map dds := by decide +kernel
theorem gain_raw (t : Nat) (o : List Nat) : (gainM t o 4).2 = g4 t (dds o) := by
  rw [gS_eq, gS_eq, gS_eq, gS_eq]
  show 0 + _ + _ + _ + _ = x1 t _ + x1 t _ + x1 t _ + x1 t _
  rw [Nat.zero_add]; rfl
theorem mwA_eq : mwA = masks.map fun m => (m, wA m) := by decide
theorem mwG_eq : mwG = masks.map fun m => (m, wG m) := by decide
theorem map_eq_of {α β : Type} {f g : α → β} : ∀ {l : List α}, (∀ x ∈ l, f x = g x) → l.map f = l.map g := fun h => List.map_congr_left h
theorem bits_of {t i : Nat} (h : bitsB t i = true) : ((ordersN 4).map fun o => ((aw0 t o).bm >>> i) % 2).sum = (masks.map fun m => if bt t m then wG m * ((m >>> i) % 2) else 0).sum := by
  have h := Nat.eq_of_beq_eq_true h
  rw [sumP_eq, sumP_eq, pre_eq, mwG_eq, List.map_map, List.map_map] at h
  have e1 : ((ordersN 4).map fun o => ((aw0 t o).bm >>> i) % 2) = (ordersN 4).map ((fun o => Nat.mod (Nat.shiftRight (x4 t o) i) 2) ∘ prefs) := map_eq_of fun o ho => by rw [aw_pre t o ho]; rfl
  rw [e1]
  refine Eq.trans h (congrArg List.sum (map_eq_of fun m _ => ?_))
  show bN t m * (wG m * ((m >>> i) % 2)) = _
  rw [bN_bt]; split
  · rw [Nat.one_mul]
  · rw [Nat.zero_mul]
theorem prop_of {P : Nat → Bool} (h : Cons P) (h0 : P 0 = false) : propT (ordersN 4) (tb P 16) = true := by
  have l1 := leaf_of h h0 dfs_ok1
  have l2 := leaf_of h h0 dfs_ok2
  have l3 := leaf_of h h0 dfs_ok3
  have l4 := leaf_of h h0 dfs_ok4
  generalize tb P 16 = t at *
  have l1 := Nat.eq_of_beq_eq_true l1
  have l2 := Nat.eq_of_beq_eq_true l2
  have l3 := Nat.eq_of_beq_eq_true l3
  simp only [leaf4, Bool.and_eq_true] at l4
  obtain ⟨b0, b1, b2, b3⟩ := l4
  rw [sumP_eq, sumP_eq, pre_eq, List.map_map, List.map_map] at l1
  rw [sumP_eq, sumP_eq, pre_eq, gds_eq, List.map_map, List.map_map] at l2
  rw [sumP_eq, sumP_eq, pre_eq, mwA_eq, List.map_map, List.map_map] at l3
  have ec : ((ordersN 4).map fun o => (aw0 t o).cnt) = (ordersN 4).map fun o => c4 t (prefs o) := map_eq_of fun o ho => by rw [aw_pre t o ho]
  have ei : ((ordersN 4).map fun o => (aw0 t o).idx) = (ordersN 4).map fun o => i4 t (prefs o) := map_eq_of fun o ho => by rw [aw_pre t o ho]
  have eb : ((ordersN 4).map fun o => (aw0 t o).bm) = (ordersN 4).map fun o => x4 t (prefs o) := map_eq_of fun o ho => by rw [aw_pre t o ho]
  have eg : ((ordersN 4).map fun o => (gainM t o 4).2) = (ordersN 4).map fun o => g4 t (dds o) := map_eq_of fun o _ => gain_raw t o
  have len : ∀ f : List Nat → Nat, ((ordersN 4).map f).length < 32 := fun f => by rw [List.length_map]; decide
  have p1 : ((ordersN 4).map fun o => (aw0 t o).cnt).Perm ((ordersN 4).map fun o => (aw0 t o).idx) := by
    rw [ec, ei]
    refine perm_of_code (len _) (len _) ?_
    rw [List.map_map, List.map_map]; exact l1
  have p2 : ((ordersN 4).map fun o => (aw0 t o).bm).Perm ((ordersN 4).map fun o => (gainM t o 4).2) := by
    rw [eb, eg]
    refine perm_of_code (len _) (len _) ?_
    rw [List.map_map, List.map_map]; exact l2
  have p3 : ((ordersN 4).map fun o => (aw0 t o).cnt).sum = (masks.map fun m => if bt t m then wA m else 0).sum := by
    rw [ec]
    refine Eq.trans l3 (congrArg List.sum (map_eq_of fun m _ => ?_))
    show bN t m * wA m = _
    rw [bN_bt]; split
    · rw [Nat.one_mul]
    · rw [Nat.zero_mul]
  unfold propT
  simp only [Bool.and_eq_true, List.map_map, List.isPerm_iff, beq_iff_eq, List.all_eq_true, List.mem_range]
  refine ⟨⟨⟨p1, p2⟩, p3⟩, fun i hi => ?_⟩
  have : i = 0 ∨ i = 1 ∨ i = 2 ∨ i = 3 := by omega
  rcases this with e | e | e | e <;> subst e
  · exact bits_of b0
  · exact bits_of b1
  · exact bits_of b2
  · exact bits_of b3
end Mine
end

section
open PySem PySem.W PySem.Calls PyProof.Rows PySem.Spec
set_option maxRecDepth 100000
namespace Mine
theorem ordersN_eq : ordersN 4 = ordersAt 4 := rfl
/-- what the cells of the mask come to -/
def ss (a b c d : Int) (m : Nat) : Int := (if bt m 0 then a else 0) + (if bt m 1 then b else 0) + (if bt m 2 then c else 0) + (if bt m 3 then d else 0)
theorem f_add : ∀ p < 16, ∀ j < 4, bt p j = false → p + 2 ^ j < 16 ∧ ∀ k < 4, bt (p + 2 ^ j) k = (bt p k || k == j) := by decide +kernel
theorem f_sub : ∀ p < 16, ∀ m < 16, m &&& p = m → p - m < 16 ∧ m ≤ p ∧ ∀ k < 4, bt (p - m) k = (bt p k && !bt m k) := by decide +kernel
theorem f_in : ∀ p < 16, ∀ m < 16, m &&& p = m → ∀ j < 4, bt p j = false → m &&& (p + 2 ^ j) = m := by decide +kernel
theorem f_bit : ∀ p < 16, ∀ m < 16, m &&& p = m → ∀ k < 4, bt m k = true → bt p k = true := by decide +kernel
theorem f_self : ∀ p < 16, p &&& p = p ∧ 0 &&& p = 0 := by decide +kernel
theorem ss_add {a b c d : Int} {p j : Nat} (hp : p < 16) (hj : j < 4) (h : bt p j = false) : ss a b c d (p + 2 ^ j) = ss a b c d p + [a, b, c, d].getD j 0 := by
  obtain ⟨_, e⟩ := f_add p hp j hj h
  unfold ss
  rw [e 0 (by decide), e 1 (by decide), e 2 (by decide), e 3 (by decide)]
  have : j = 0 ∨ j = 1 ∨ j = 2 ∨ j = 3 := by omega
  rcases this with rfl | rfl | rfl | rfl <;> simp [h] <;> omega
theorem ss_sub {a b c d : Int} {p m : Nat} (hp : p < 16) (hm : m < 16) (h : m &&& p = m) : ss a b c d (p - m) = ss a b c d p - ss a b c d m := by
  obtain ⟨_, _, e⟩ := f_sub p hp m hm h
  have q := f_bit p hp m hm h
  unfold ss
  rw [e 0 (by decide), e 1 (by decide), e 2 (by decide), e 3 (by decide)]
  have q0 := q 0 (by decide); have q1 := q 1 (by decide); have q2 := q 2 (by decide); have q3 := q 3 (by decide)
  revert q0 q1 q2 q3
  cases bt m 0 <;> cases bt m 1 <;> cases bt m 2 <;> cases bt m 3 <;> cases bt p 0 <;> cases bt p 1 <;> cases bt p 2 <;> cases bt p 3 <;> simp <;> omega
theorem ss_zero (a b c d : Int) : ss a b c d 0 = 0 := by
  have : ∀ k < 4, bt 0 k = false := by decide +kernel
  unfold ss
  rw [this 0 (by decide), this 1 (by decide), this 2 (by decide), this 3 (by decide)]; simp
/-- the strict and the weak table -/
def PG' (a b c d : Int) (m : Nat) : Bool := m != 0 && decide (0 < ss a b c d m)
def QG' (a b c d : Int) (m : Nat) : Bool := m != 0 && decide (0 ≤ ss a b c d m)
theorem cons_P (a b c d : Int) : Cons (PG' a b c d) := fun m hm s hs h0 h1 h2 => by
  have e := ss_sub (a := a) (b := b) (c := c) (d := d) hm (by omega : s < 16) h1
  unfold PG' at h2 ⊢
  have n1 : (m != 0) = true := by simp; omega
  have n2 : (s != 0) = true := by simpa using h0
  have n3 : (m - s != 0) = true := by simp; omega
  rw [n2, n3, Bool.true_and, Bool.true_and, decide_eq_decide] at h2
  rw [n1, n2, Bool.true_and, Bool.true_and, decide_eq_decide]
  omega
theorem cons_Q (a b c d : Int) : Cons (QG' a b c d) := fun m hm s hs h0 h1 h2 => by
  have e := ss_sub (a := a) (b := b) (c := c) (d := d) hm (by omega : s < 16) h1
  unfold QG' at h2 ⊢
  have n1 : (m != 0) = true := by simp; omega
  have n2 : (s != 0) = true := by simpa using h0
  have n3 : (m - s != 0) = true := by simp; omega
  rw [n2, n3, Bool.true_and, Bool.true_and, decide_eq_decide] at h2
  rw [n1, n2, Bool.true_and, Bool.true_and, decide_eq_decide]
  omega

/-- the abstract walk, step by step -/
def awAt (t : Nat) (o : List Nat) : Nat → AW
  | 0 => ⟨0, 0, 0, 0⟩
  | k + 1 => awStep t (awAt t o k) k (o.getD k 0)
theorem aw_eq (t : Nat) : ∀ o ∈ ordersAt 4, aw0 t o = awAt t o 4 := fun o ho => by
  have h4 := orders_len 4 o ho
  match o, h4 with
  | [a, b, c, d], _ => rfl
def pmAt (o : List Nat) : Nat → Nat
  | 0 => 0
  | k + 1 => pmAt o k + 2 ^ (o.getD k 0)
theorem o_ok : ∀ o ∈ ordersAt 4, ∀ k < 4, pmAt o k < 16 ∧ o.getD k 0 < 4 ∧ bt (pmAt o k) (o.getD k 0) = false := by decide +kernel
structure InvP (a b c d : Int) (o : List Nat) (k : Nat) (w : WS) (s : AW) : Prop where
  pm : s.pm = pmAt o k
  lt : s.pm < 16
  bl : s.bm < 16
  sub : s.bm &&& s.pm = s.bm
  tot : w.total = ss a b c d s.pm
  best : w.best = ss a b c d s.bm
theorem invP0 (a b c d : Int) (o : List Nat) : InvP a b c d o 0 ⟨0, 0, 0, 0, 0, 0⟩ ⟨0, 0, 0, 0⟩ := ⟨rfl, by decide, by decide, rfl, (ss_zero a b c d).symm, (ss_zero a b c d).symm⟩
theorem cmpv_one (x y : Int) : (cmpv x y == 1) = decide (y < x) := by
  unfold cmpv b2i
  rcases Int.lt_trichotomy x y with h | h | h
  · have h1 : ¬ y < x := by omega
    simp [h, h1]
  · subst h; simp
  · have h1 : ¬ x < y := by omega
    simp [h, h1]
theorem cmpv_mone (x y : Int) : (cmpv x y == -1) = decide (x < y) := by
  unfold cmpv b2i
  rcases Int.lt_trichotomy x y with h | h | h
  · have h1 : ¬ y < x := by omega
    simp [h, h1]
  · subst h; simp
  · have h1 : ¬ x < y := by omega
    simp [h, h1]
end Mine
end

section
open PySem PySem.W PySem.Calls PyProof.Rows PySem.Spec
set_option maxRecDepth 100000
namespace Mine
theorem bt_zero : ∀ k < 4, bt 0 k = false := by decide +kernel
section
variable {a b c d : Int} {o : List Nat} {k : Nat} {w : WS} {s : AW}
/-- the facts of one step -/
theorem step_facts (ho : o ∈ ordersAt 4) (hk : k < 4) (I : InvP a b c d o k w s) :
    s.pm + 2 ^ (o.getD k 0) = pmAt o (k + 1) ∧ s.pm + 2 ^ (o.getD k 0) < 16 ∧ s.pm + 2 ^ (o.getD k 0) ≠ 0 ∧ s.pm + 2 ^ (o.getD k 0) - s.bm ≠ 0 ∧ s.pm + 2 ^ (o.getD k 0) - s.bm < 16 ∧ s.bm &&& (s.pm + 2 ^ (o.getD k 0)) = s.bm ∧ w.total + [a, b, c, d].getD (o.getD k 0) 0 = ss a b c d (s.pm + 2 ^ (o.getD k 0)) ∧
      ss a b c d (s.pm + 2 ^ (o.getD k 0) - s.bm) = ss a b c d (s.pm + 2 ^ (o.getD k 0)) - ss a b c d s.bm := by
  let j := o.getD k 0
  let p := s.pm + 2 ^ j
  show p = pmAt o (k + 1) ∧ p < 16 ∧ p ≠ 0 ∧ p - s.bm ≠ 0 ∧ p - s.bm < 16 ∧ s.bm &&& p = s.bm ∧ w.total + [a, b, c, d].getD j 0 = ss a b c d p ∧ ss a b c d (p - s.bm) = ss a b c d p - ss a b c d s.bm
  obtain ⟨h1, h2, h3⟩ := o_ok o ho k hk
  have h3' : bt s.pm j = false := by rw [I.pm]; exact h3
  obtain ⟨l, e⟩ := f_add s.pm I.lt j h2 h3'
  have hsub := f_in s.pm I.lt s.bm I.bl I.sub j h2 h3'
  have hs := ss_sub (a := a) (b := b) (c := c) (d := d) (p := p) (m := s.bm) l I.bl hsub
  obtain ⟨q1, q2, q3⟩ := f_sub p l s.bm I.bl hsub
  have bj : bt p j = true := by rw [e j h2]; simp
  have bb : bt s.bm j = false := by
    cases q : bt s.bm j with
    | false => rfl
    | true => rw [f_bit s.pm I.lt s.bm I.bl I.sub j h2 q] at h3'; cases h3'
  refine ⟨by show s.pm + 2 ^ j = pmAt o k + 2 ^ (o.getD k 0); rw [I.pm], l, fun h => ?_, fun h => ?_, q1, hsub, ?_, hs⟩
  · rw [h, bt_zero j h2] at bj; cases bj
  · have := q3 j h2
    rw [h, bt_zero j h2, bj, bb] at this; cases this
  · rw [I.tot, ss_add I.lt h2 h3']

theorem step_P (ho : o ∈ ordersAt 4) (hk : k < 4) (I : InvP a b c d o k w s) (h1 : w.above = s.cnt) (h2 : w.first = s.idx) :
    ∀ w' s', w' = wstep ([a, b, c, d].getD (o.getD k 0) 0) k w → s' = awStep (tb (PG' a b c d) 16) s k (o.getD k 0) →
    InvP a b c d o (k + 1) w' s' ∧ w'.above = s'.cnt ∧ w'.first = s'.idx := by
  obtain ⟨e1, e2, e3, e4, e5, e6, e7, e8⟩ := step_facts ho hk I
  intro w' s' hw hs
  generalize o.getD k 0 = j at e1 e2 e3 e4 e5 e6 e7 e8 hw hs
  have b1 : bt (tb (PG' a b c d) 16) (s.pm + 2 ^ j) = decide (0 < ss a b c d (s.pm + 2 ^ j)) := by
    rw [bt_tb _ _ _ e2]; unfold PG'; have : (s.pm + 2 ^ j != 0) = true := by simpa using e3
    rw [this, Bool.true_and]
  have b2 : bt (tb (PG' a b c d) 16) (s.pm + 2 ^ j - s.bm) = decide (0 < ss a b c d (s.pm + 2 ^ j) - ss a b c d s.bm) := by
    rw [bt_tb _ _ _ e5]; unfold PG'; have : (s.pm + 2 ^ j - s.bm != 0) = true := by simpa using e4
    rw [this, Bool.true_and, e8]
  unfold wstep at hw
  unfold awStep at hs
  simp only [cmpv_one, cmpv_mone, e7, I.best, b1, b2] at hw hs
  by_cases q1 : 0 < ss a b c d (s.pm + 2 ^ j) <;> by_cases q2 : ss a b c d s.bm < ss a b c d (s.pm + 2 ^ j)
  all_goals
    have q2' : (0 < ss a b c d (s.pm + 2 ^ j) - ss a b c d s.bm) ↔ (ss a b c d s.bm < ss a b c d (s.pm + 2 ^ j)) := by omega
    simp only [q1, q2, q2', decide_true, decide_false, if_true, if_false, Bool.false_eq_true] at hw hs
    rw [hw, hs]
  · exact ⟨⟨e1, e2, e2, (f_self _ e2).1, rfl, rfl⟩, by simp [h1], by simp⟩
  · exact ⟨⟨e1, e2, I.bl, e6, rfl, rfl⟩, by simp [h1], by simp [h2]⟩
  · exact ⟨⟨e1, e2, e2, (f_self _ e2).1, rfl, rfl⟩, by simp [h1], by simp⟩
  · exact ⟨⟨e1, e2, I.bl, e6, rfl, rfl⟩, by simp [h1], by simp [h2]⟩
theorem step_Q (ho : o ∈ ordersAt 4) (hk : k < 4) (I : InvP a b c d o k w s) (h1 : (k : Int) - w.under = s.cnt) (h2 : w.last = s.idx) :
    ∀ w' s', w' = wstep ([a, b, c, d].getD (o.getD k 0) 0) k w → s' = awStep (tb (QG' a b c d) 16) s k (o.getD k 0) →
    InvP a b c d o (k + 1) w' s' ∧ ((k + 1 : Nat) : Int) - w'.under = s'.cnt ∧ w'.last = s'.idx := by
  obtain ⟨e1, e2, e3, e4, e5, e6, e7, e8⟩ := step_facts ho hk I
  intro w' s' hw hs
  generalize o.getD k 0 = j at e1 e2 e3 e4 e5 e6 e7 e8 hw hs
  have b1 : bt (tb (QG' a b c d) 16) (s.pm + 2 ^ j) = decide (0 ≤ ss a b c d (s.pm + 2 ^ j)) := by
    rw [bt_tb _ _ _ e2]; unfold QG'; have : (s.pm + 2 ^ j != 0) = true := by simpa using e3
    rw [this, Bool.true_and]
  have b2 : bt (tb (QG' a b c d) 16) (s.pm + 2 ^ j - s.bm) = decide (0 ≤ ss a b c d (s.pm + 2 ^ j) - ss a b c d s.bm) := by
    rw [bt_tb _ _ _ e5]; unfold QG'; have : (s.pm + 2 ^ j - s.bm != 0) = true := by simpa using e4
    rw [this, Bool.true_and, e8]
  unfold wstep at hw
  unfold awStep at hs
  have hne : ∀ x y : Int, (cmpv x y != -1) = !decide (x < y) := fun x y => by rw [bne, cmpv_mone]
  simp only [cmpv_one, cmpv_mone, hne, e7, I.best, b1, b2] at hw hs
  have q2' : (0 ≤ ss a b c d (s.pm + 2 ^ j) - ss a b c d s.bm) ↔ ¬ (ss a b c d (s.pm + 2 ^ j) < ss a b c d s.bm) := by omega
  have q1' : (0 ≤ ss a b c d (s.pm + 2 ^ j)) ↔ ¬ (ss a b c d (s.pm + 2 ^ j) < 0) := by omega
  have hbest : ∀ v : Int, ss a b c d (s.pm + 2 ^ j) < ss a b c d s.bm → (if ss a b c d s.bm < ss a b c d (s.pm + 2 ^ j) then v else ss a b c d s.bm) = ss a b c d s.bm := fun v h => if_neg (by omega)
  have hbest2 : ¬ ss a b c d (s.pm + 2 ^ j) < ss a b c d s.bm → (if ss a b c d s.bm < ss a b c d (s.pm + 2 ^ j) then ss a b c d (s.pm + 2 ^ j) else ss a b c d s.bm) = ss a b c d (s.pm + 2 ^ j) := fun h => by split <;> omega
  by_cases q1 : ss a b c d (s.pm + 2 ^ j) < 0 <;> by_cases q2 : ss a b c d (s.pm + 2 ^ j) < ss a b c d s.bm
  all_goals
    simp only [q1, q2, q1', q2', decide_true, decide_false, if_true, if_false, Bool.false_eq_true, not_true, not_false_eq_true, Bool.not_true, Bool.not_false, decide_not] at hw hs
    rw [hw, hs]
  · exact ⟨⟨e1, e2, I.bl, e6, rfl, by simpa using hbest _ q2⟩, by simp; omega, by simp [h2]⟩
  · exact ⟨⟨e1, e2, e2, (f_self _ e2).1, rfl, by simpa using hbest2 q2⟩, by simp; omega, by simp⟩
  · exact ⟨⟨e1, e2, I.bl, e6, rfl, by simpa using hbest _ q2⟩, by simp; omega, by simp [h2]⟩
  · exact ⟨⟨e1, e2, e2, (f_self _ e2).1, rfl, by simpa using hbest2 q2⟩, by simp; omega, by simp⟩
end
end Mine
end

section
open PySem PySem.W PySem.Calls PyProof.Rows PySem.Spec
set_option maxRecDepth 100000
namespace Mine
section
variable {a b c d : Int} {o : List Nat}
theorem walk_P (ho : o ∈ ordersAt 4) : ∀ k, k ≤ 4 → InvP a b c d o k (wsAt [a, b, c, d] o k) (awAt (tb (PG' a b c d) 16) o k) ∧ (wsAt [a, b, c, d] o k).above = (awAt (tb (PG' a b c d) 16) o k).cnt ∧ (wsAt [a, b, c, d] o k).first = (awAt (tb (PG' a b c d) 16) o k).idx
  | 0, _ => ⟨invP0 a b c d o, rfl, rfl⟩
  | k + 1, hk => by
    obtain ⟨I, h1, h2⟩ := walk_P ho k (by omega)
    exact step_P ho (by omega) I h1 h2 _ _ rfl rfl
theorem walk_Q (ho : o ∈ ordersAt 4) : ∀ k, k ≤ 4 → InvP a b c d o k (wsAt [a, b, c, d] o k) (awAt (tb (QG' a b c d) 16) o k) ∧ (k : Int) - (wsAt [a, b, c, d] o k).under = (awAt (tb (QG' a b c d) 16) o k).cnt ∧ (wsAt [a, b, c, d] o k).last = (awAt (tb (QG' a b c d) 16) o k).idx
  | 0, _ => ⟨invP0 a b c d o, rfl, rfl⟩
  | k + 1, hk => by
    obtain ⟨I, h1, h2⟩ := walk_Q ho k (by omega)
    exact step_Q ho (by omega) I h1 h2 _ _ rfl rfl

def Rel (seen : List Nat) (m : Nat) : Prop := ∀ x < 4, seen.contains x = bt m x
theorem f_own : ∀ p < 16, ∀ j < 4, bt p j = false → p &&& (p + 2 ^ j) = p := by decide +kernel
theorem and_trans {x y z : Nat} (h1 : x &&& y = x) (h2 : y &&& z = y) : x &&& z = x := by
  calc x &&& z = (x &&& y) &&& z := by rw [h1]
    _ = x &&& (y &&& z) := Nat.and_assoc x y z
    _ = x := by rw [h2, h1]
theorem wheel_rel (hv : ∀ k < 4, o.getD k 0 < 4) : ∀ (f : Nat) (seen : List Nat) (w : Int) (i m : Nat), Rel seen m → m < 16 → i < 4 →
    Rel (wheel [a, b, c, d] o f seen w i).1 (wheelM o f m i) ∧ wheelM o f m i < 16 ∧ m &&& wheelM o f m i = m ∧ (wheel [a, b, c, d] o f seen w i).2 = w + ss a b c d (wheelM o f m i) - ss a b c d m
  | 0, seen, w, i, m, hr, hm, hi => ⟨hr, hm, (f_self m hm).1, by show w = w + ss a b c d m - ss a b c d m; omega⟩
  | f + 1, seen, w, i, m, hr, hm, hi => by
    unfold wheel wheelM
    rw [hr i hi]
    cases hb : bt m i with
    | true => simp only [if_true]; exact ⟨hr, hm, (f_self m hm).1, by omega⟩
    | false =>
      simp only [Bool.false_eq_true, if_false]
      obtain ⟨l, e⟩ := f_add m hm i hi hb
      have hr' : Rel (seen ++ [i]) (m + 2 ^ i) := fun x hx => by
        rw [e x hx, ← hr x hx]
        simp [List.contains_eq_mem, List.mem_append, Bool.or_comm]
        by_cases q : x = i <;> simp [q]
      obtain ⟨r1, r2, r3, r4⟩ := wheel_rel hv f (seen ++ [i]) (w + [a, b, c, d].getD i 0) (o.getD i 0) (m + 2 ^ i) hr' l (hv i hi)
      have own := f_own m hm i hi hb
      refine ⟨r1, r2, ?_, ?_⟩
      · exact and_trans own r3
      · rw [r4, ss_add hm hi hb]; omega
theorem f_disB : ((List.range 16).all fun n => (List.range 16).all fun m => (List.range 16).all fun g => !((m &&& n) == m) || (!((g &&& m) == g) || (decide (g + (n - m) < 16) && (((g + (n - m)) &&& n) == g + (n - m)) && ((g &&& (g + (n - m))) == g) && ((g &&& n) == g) && decide (n - m < 16)))) = true := by decide +kernel
theorem f_dis (n : Nat) (hn : n < 16) (m : Nat) (hm : m < 16) (g : Nat) (hg : g < 16) (h1 : m &&& n = m) (h2 : g &&& m = g) : g + (n - m) < 16 ∧ (g + (n - m)) &&& n = g + (n - m) ∧ g &&& (g + (n - m)) = g ∧ g &&& n = g ∧ n - m < 16 := by
  have h := List.all_eq_true.mp (List.all_eq_true.mp (List.all_eq_true.mp f_disB n (List.mem_range.mpr hn)) m (List.mem_range.mpr hm)) g (List.mem_range.mpr hg)
  rw [h1, h2] at h
  simpa [and_assoc] using h
theorem o_vals : ∀ o ∈ ordersAt 4, ∀ k < 4, o.getD k 0 < 4 := by decide +kernel
theorem gain_rel (ho : o ∈ ordersAt 4) : ∀ i, i ≤ 4 → Rel (gainAt [a, b, c, d] o 5 i).1 (gainM (tb (PG' a b c d) 16) o i).1 ∧ (gainM (tb (PG' a b c d) 16) o i).1 < 16 ∧ (gainM (tb (PG' a b c d) 16) o i).2 < 16 ∧
    (gainM (tb (PG' a b c d) 16) o i).2 &&& (gainM (tb (PG' a b c d) 16) o i).1 = (gainM (tb (PG' a b c d) 16) o i).2 ∧ (gainAt [a, b, c, d] o 5 i).2 = ss a b c d (gainM (tb (PG' a b c d) 16) o i).2
  | 0, _ => ⟨fun x hx => (bt_zero x hx).symm ▸ rfl, by show 0 < 16; decide, by show 0 < 16; decide, (by show 0 &&& 0 = 0; decide), (ss_zero a b c d).symm⟩
  | i + 1, hi => by
    obtain ⟨h1, h2, h3, h4, h5⟩ := gain_rel ho i (by omega)
    obtain ⟨w1, w2, w3, w4⟩ := wheel_rel (a := a) (b := b) (c := c) (d := d) (o_vals o ho) 5 (gainAt [a, b, c, d] o 5 i).1 0 i (gainM (tb (PG' a b c d) 16) o i).1 h1 h2 (by omega)
    obtain ⟨d1, d2, d3, d4, d5⟩ := f_dis _ w2 _ h2 _ h3 w3 h4
    have hss := ss_sub (a := a) (b := b) (c := c) (d := d) w2 h2 w3
    have hgm := ss_sub (a := a) (b := b) (c := c) (d := d) d1 h3 d3
    rw [Nat.add_sub_cancel_left] at hgm
    have hb := bt_tb (PG' a b c d) 16 _ d5
    have eg : (gainAt [a, b, c, d] o 5 (i + 1)) = ((wheel [a, b, c, d] o 5 (gainAt [a, b, c, d] o 5 i).1 0 i).1, (gainAt [a, b, c, d] o 5 i).2 + max 0 (wheel [a, b, c, d] o 5 (gainAt [a, b, c, d] o 5 i).1 0 i).2) := rfl
    have em : gainM (tb (PG' a b c d) 16) o (i + 1) = (wheelM o 5 (gainM (tb (PG' a b c d) 16) o i).1 i, if bt (tb (PG' a b c d) 16) (wheelM o 5 (gainM (tb (PG' a b c d) 16) o i).1 i - (gainM (tb (PG' a b c d) 16) o i).1) then (gainM (tb (PG' a b c d) 16) o i).2 + (wheelM o 5 (gainM (tb (PG' a b c d) 16) o i).1 i - (gainM (tb (PG' a b c d) 16) o i).1) else (gainM (tb (PG' a b c d) 16) o i).2) := rfl
    rw [eg, em, hb]
    generalize (wheel [a, b, c, d] o 5 (gainAt [a, b, c, d] o 5 i).1 0 i) = W at *
    generalize wheelM o 5 (gainM (tb (PG' a b c d) 16) o i).1 i = n at *
    generalize (gainM (tb (PG' a b c d) 16) o i).1 = m at *
    generalize (gainM (tb (PG' a b c d) 16) o i).2 = g at *
    by_cases q : 0 < ss a b c d (n - m)
    · have hp : PG' a b c d (n - m) = true := by
        have hn : n - m ≠ 0 := fun e => by rw [e, ss_zero] at q; omega
        unfold PG'
        simp [hn, q]
      rw [hp]
      simp only [if_true]
      refine ⟨w1, w2, d1, d2, ?_⟩
      simp only [h5, w4]
      omega
    · have hp : PG' a b c d (n - m) = false := by
        unfold PG'
        simp [q]
      rw [hp]
      simp only [Bool.false_eq_true, if_false]
      refine ⟨w1, w2, h3, d4, ?_⟩
      simp only [h5, w4]
      omega
end
end Mine
end

section
open PySem PySem.W PySem.Calls PyProof.Rows PySem.Spec
set_option maxRecDepth 100000
namespace Mine
theorem uldGo_perm : ∀ (rs ys t ms z : List Int), rs.Perm ys → uldGo (rs ++ t) (ys ++ z) ms = uldGo t z ms
  | [], ys, t, ms, z, h => by rw [List.nil_perm.mp h]; rfl
  | x :: r, ys, t, ms, z, h => by
    obtain ⟨hx, hr⟩ := List.cons_perm_iff_perm_erase.mp h
    have hc : (ys ++ z).contains x = true := by rw [List.contains_iff_mem]; exact List.mem_append_left _ hx
    show (if (ys ++ z).contains x then uldGo (r ++ t) ((ys ++ z).erase x) ms else _) = _
    rw [if_pos hc, List.erase_append_left _ hx]
    exact uldGo_perm r (ys.erase x) t ms z hr
section
variable (a b c d : Int)
abbrev tP : Nat := tb (PG' a b c d) 16
abbrev tQ : Nat := tb (QG' a b c d) 16
theorem propP : propT (ordersAt 4) (tP a b c d) = true := prop_of (cons_P a b c d) rfl
theorem propQ : propT (ordersAt 4) (tQ a b c d) = true := prop_of (cons_Q a b c d) rfl
theorem prop_parts {os : List (List Nat)} {t : Nat} (h : propT os t = true) : (os.map fun o => (aw0 t o).cnt).Perm (os.map fun o => (aw0 t o).idx) ∧ (os.map fun o => (aw0 t o).bm).Perm (os.map fun o => (gainM t o 4).2) ∧
    (os.map fun o => (aw0 t o).cnt).sum = (masks.map fun m => if bt t m then wA m else 0).sum ∧ ∀ i < 4, (os.map fun o => ((aw0 t o).bm >>> i) % 2).sum = (masks.map fun m => if bt t m then wG m * ((m >>> i) % 2) else 0).sum := by
  unfold propT at h
  simp only [Bool.and_eq_true, List.map_map, List.isPerm_iff, beq_iff_eq, List.all_eq_true, List.mem_range] at h
  exact ⟨h.1.1.1, h.1.1.2, h.1.2, h.2⟩
theorem map_cong {α β : Type} {f g : α → β} {l : List α} (h : ∀ x ∈ l, f x = g x) : l.map f = l.map g := List.map_congr_left h
theorem aboves_eq : abovesOf [a, b, c, d] = ((ordersAt 4).map fun o => (aw0 (tP a b c d) o).cnt).map fun n : Nat => (n : Int) := by
  unfold abovesOf
  rw [List.map_map]
  exact map_cong fun o ho => by rw [orders_len 4 o ho, (walk_P ho 4 (by decide)).2.1]; show _ = (((aw0 (tP a b c d) o).cnt : Nat) : Int); rw [aw_eq _ o ho]
theorem firsts_eq : firstsOf [a, b, c, d] = ((ordersAt 4).map fun o => (aw0 (tP a b c d) o).idx).map fun n : Nat => (n : Int) := by
  unfold firstsOf
  rw [List.map_map]
  exact map_cong fun o ho => by rw [orders_len 4 o ho, (walk_P ho 4 (by decide)).2.2]; show _ = (((aw0 (tP a b c d) o).idx : Nat) : Int); rw [aw_eq _ o ho]
theorem nonneg_eq : nonnegOf [a, b, c, d] = ((ordersAt 4).map fun o => (aw0 (tQ a b c d) o).cnt).map fun n : Nat => (n : Int) := by
  unfold nonnegOf
  rw [List.map_map]
  exact map_cong fun o ho => by rw [orders_len 4 o ho, (walk_Q ho 4 (by decide)).2.1]; show _ = (((aw0 (tQ a b c d) o).cnt : Nat) : Int); rw [aw_eq _ o ho]
theorem lasts_eq : lastsOf [a, b, c, d] = ((ordersAt 4).map fun o => (aw0 (tQ a b c d) o).idx).map fun n : Nat => (n : Int) := by
  unfold lastsOf
  rw [List.map_map]
  exact map_cong fun o ho => by rw [orders_len 4 o ho, (walk_Q ho 4 (by decide)).2.2]; show _ = (((aw0 (tQ a b c d) o).idx : Nat) : Int); rw [aw_eq _ o ho]
theorem highs_eq : highsOf [a, b, c, d] = ((ordersAt 4).map fun o => (aw0 (tP a b c d) o).bm).map (ss a b c d) := by
  unfold highsOf
  rw [List.map_map]
  exact map_cong fun o ho => by rw [orders_len 4 o ho, (walk_P ho 4 (by decide)).1.best]; show _ = ss a b c d (aw0 (tP a b c d) o).bm; rw [aw_eq _ o ho]
theorem gains_eq : gainsOf [a, b, c, d] = ((ordersAt 4).map fun o => (gainM (tP a b c d) o 4).2).map (ss a b c d) := by
  unfold gainsOf
  rw [List.map_map]
  exact map_cong fun o ho => by rw [orders_len 4 o ho, (gain_rel ho 4 (by decide)).2.2.2.2]; rfl
theorem perm1 : (abovesOf [a, b, c, d]).Perm (firstsOf [a, b, c, d]) := by
  rw [aboves_eq, firsts_eq]; exact (prop_parts (propP a b c d)).1.map _
theorem perm2 : (nonnegOf [a, b, c, d]).Perm (lastsOf [a, b, c, d]) := by
  rw [nonneg_eq, lasts_eq]; exact (prop_parts (propQ a b c d)).1.map _
theorem perm5 : (highsOf [a, b, c, d]).Perm (gainsOf [a, b, c, d]) := by
  rw [highs_eq, gains_eq]; exact (prop_parts (propP a b c d)).2.1.map _
theorem plain1 : uld ([9] ++ abovesOf [a, b, c, d]) (firstsOf [a, b, c, d]) = ([9], []) := by
  have h := uldGo_perm (abovesOf [a, b, c, d]).reverse (firstsOf [a, b, c, d]) [9] [] [] ((List.reverse_perm _).trans (perm1 a b c d))
  unfold uld
  rw [List.append_nil] at h
  rw [List.reverse_append]
  exact h
theorem plain2 : uld (nonnegOf [a, b, c, d]) (lastsOf [a, b, c, d] ++ [9]) = ([], [9]) := by
  have h := uldGo_perm (nonnegOf [a, b, c, d]).reverse (lastsOf [a, b, c, d]) [] [] [9] ((List.reverse_perm _).trans (perm2 a b c d))
  rw [List.append_nil] at h
  exact h
theorem plain5 : uld (highsOf [a, b, c, d]) (gainsOf [a, b, c, d]) = ([], []) := by
  have h := uldGo_perm (highsOf [a, b, c, d]).reverse (gainsOf [a, b, c, d]) [] [] [] ((List.reverse_perm _).trans (perm5 a b c d))
  rw [List.append_nil, List.append_nil] at h
  exact h
end
end Mine
end

section
open PySem PySem.W PySem.Calls PyProof.Rows PySem.Spec
set_option maxRecDepth 100000
namespace Mine
def inc (p : Int → Nat) (x : Int) : Int → Nat := fun v => if v = x then p v + 1 else p v
def dec (p : Int → Nat) (x : Int) : Int → Nat := fun v => if v = x then p v - 1 else p v
/-- what stands beyond the first p v ones of each v -/
def exc (p : Int → Nat) : List Int → List Int
  | [] => []
  | y :: r => if p y = 0 then y :: exc p r else exc (dec p y) r
theorem dec_inc (p : Int → Nat) (x : Int) : dec (inc p x) x = p := by
  funext v; unfold dec inc; by_cases h : v = x <;> simp [h]
theorem inc_dec {p : Int → Nat} {y : Int} (x : Int) (h : p y ≠ 0) : inc (dec p y) x = dec (inc p x) y := by
  funext v; unfold dec inc
  by_cases h1 : v = x <;> by_cases h2 : v = y
  · subst h1; subst h2; simp; omega
  · subst h1; simp [h2]
  · subst h2; simp [h1]
  · simp [h1, h2]
theorem count_cons' (y x : Int) (r : List Int) : (y :: r).count x = r.count x + if y = x then 1 else 0 := by
  rw [List.count_cons]; by_cases h : y = x <;> simp [h]
theorem exc_count : ∀ (l : List Int) (p : Int → Nat) (x : Int), (exc p l).count x = l.count x - p x
  | [], p, x => by simp [exc]
  | y :: r, p, x => by
    unfold exc
    rw [count_cons']
    by_cases h : p y = 0
    · rw [if_pos h, count_cons', exc_count r p x]
      by_cases e : y = x
      · subst e; simp [h]
      · simp [e]
    · rw [if_neg h, exc_count r (dec p y) x]
      unfold dec
      by_cases e : y = x
      · subst e; simp; omega
      · have e' : ¬ x = y := fun q => e q.symm
        simp [e, e']
theorem exc_erase : ∀ (l : List Int) (p : Int → Nat) (x : Int), p x < l.count x → (exc p l).erase x = exc (inc p x) l
  | [], p, x, h => by simp at h
  | y :: r, p, x, h => by
    rw [count_cons'] at h
    unfold exc
    by_cases hy : p y = 0
    · rw [if_pos hy]
      by_cases e : y = x
      · subst e
        have : inc p y y ≠ 0 := by unfold inc; simp
        rw [if_neg this, dec_inc, List.erase_cons_head]
      · have : inc p x y = 0 := by unfold inc; simp [e, hy]
        rw [if_pos this, List.erase_cons_tail (by simpa using e), exc_erase r p x (by simpa [e] using h)]
    · have : inc p x y ≠ 0 := by unfold inc; split <;> omega
      rw [if_neg hy, if_neg this, ← inc_dec x hy]
      refine exc_erase r (dec p y) x ?_
      unfold dec
      by_cases e : y = x
      · subst e; simp at h ⊢; omega
      · have e' : ¬ x = y := fun q => e q.symm
        simp [e, e'] at h ⊢; exact h
theorem exc_inc : ∀ (l : List Int) (p : Int → Nat) (x : Int), l.count x ≤ p x → exc (inc p x) l = exc p l
  | [], p, x, h => rfl
  | y :: r, p, x, h => by
    rw [count_cons'] at h
    unfold exc
    by_cases hy : p y = 0
    · have e : ¬ y = x := fun e => by subst e; simp at h; omega
      have : inc p x y = 0 := by unfold inc; simp [e, hy]
      rw [if_pos this, if_pos hy, exc_inc r p x (by simpa [e] using h)]
    · have : inc p x y ≠ 0 := by unfold inc; split <;> omega
      rw [if_neg hy, if_neg this, ← inc_dec x hy]
      refine exc_inc r (dec p y) x ?_
      unfold dec
      by_cases e : y = x
      · subst e; simp at h ⊢; omega
      · have e' : ¬ x = y := fun q => e q.symm
        simp [e, e'] at h ⊢; exact h
/-- the surplus, seen so far s -/
def sur (n : Int → Nat) : (Int → Nat) → List Int → List Int
  | _, [] => []
  | s, y :: r => if n y < s y + 1 then y :: sur n (inc s y) r else sur n (inc s y) r
theorem sur_exc (n : Int → Nat) : ∀ (l : List Int) (s : Int → Nat), sur n s l = exc (fun v => n v - s v) l
  | [], s => rfl
  | y :: r, s => by
    unfold sur exc
    rw [sur_exc n r (inc s y)]
    by_cases h : n y < s y + 1
    · have h0 : n y - s y = 0 := by omega
      rw [if_pos h, if_pos h0]
      congr 1
      congr 1
      funext v
      unfold inc
      by_cases e : v = y
      · subst e; simp; omega
      · simp [e]
    · have h0 : ¬ n y - s y = 0 := by omega
      rw [if_neg h, if_neg h0]
      congr 1
      funext v
      unfold inc dec
      by_cases e : v = y
      · subst e; simp; omega
      · simp [e]
theorem uldGo_is : ∀ (r two ms : List Int) (p : Int → Nat), uldGo r (exc p two) ms = (ms ++ sur (fun v => two.count v) p r, exc (fun v => p v + r.count v) two)
  | [], two, ms, p => by simp [uldGo, sur]
  | x :: r, two, ms, p => by
    have ec := exc_count two p x
    have eq : (fun v => inc p x v + r.count v) = fun v => p v + (x :: r).count v := by
      funext v
      rw [count_cons']
      unfold inc
      by_cases e : v = x
      · subst e; simp; omega
      · have e' : ¬ x = v := fun q => e q.symm
        simp [e, e']
    show (if (exc p two).contains x then uldGo r ((exc p two).erase x) ms else uldGo r (exc p two) (ms ++ [x])) = _
    by_cases h : p x < two.count x
    · have hc : (exc p two).contains x = true := by rw [List.contains_iff_mem]; exact List.count_pos_iff.mp (by omega)
      rw [if_pos hc, exc_erase two p x h, uldGo_is r two ms (inc p x), eq]
      have hn : ¬ two.count x < p x + 1 := by omega
      simp only [sur, hn, if_false]
    · have hc : ¬ (exc p two).contains x = true := fun q => by
        rw [List.contains_iff_mem] at q
        have := List.count_pos_iff.mpr q
        omega
      rw [if_neg hc, ← exc_inc two p x (by omega), uldGo_is r two (ms ++ [x]) (inc p x), eq]
      have hn : two.count x < p x + 1 := by omega
      simp only [sur, hn, if_true, List.append_assoc, List.singleton_append]
theorem sur_range (n : Int → Nat) : ∀ (r pre : List Int), ((List.range r.length).filter fun i => decide (((n ((pre ++ r).getD (pre.length + i) 0) : Nat) : Int) < ((((pre ++ r).take (pre.length + i + 1)).count ((pre ++ r).getD (pre.length + i) 0) : Nat) : Int))).map (fun i => (pre ++ r).getD (pre.length + i) 0) = sur n (fun v => pre.count v) r
  | [], pre => rfl
  | y :: r, pre => by
    have ih := sur_range n r (pre ++ [y])
    have e0 : (pre ++ y :: r).getD (pre.length + 0) 0 = y := by simp
    have ea : pre ++ [y] ++ r = pre ++ y :: r := by simp
    have el : ∀ i, (pre ++ [y]).length + i = pre.length + (i + 1) := fun i => by simp; omega
    have es : (fun v => (pre ++ [y]).count v) = inc (fun v => pre.count v) y := by
      funext v
      unfold inc
      rw [List.count_append]
      by_cases e : v = y
      · subst e; simp
      · have e' : ¬ y = v := fun q => e q.symm
        simp [e, e', List.count_cons]
    rw [ea, es] at ih
    simp only [el] at ih
    rw [List.length_cons, List.range_succ_eq_map, List.filter_cons, List.filter_map, Function.comp_def]
    have et : ((pre ++ y :: r).take (pre.length + 0 + 1)).count y = pre.count y + 1 := by
      have : (pre ++ y :: r).take (pre.length + 0 + 1) = pre ++ [y] := by
        rw [← ea, List.take_left' (by simp)]
      rw [this, List.count_append]; simp
    rw [e0, et]
    unfold sur
    simp only [Nat.succ_eq_add_one]
    by_cases h : n y < pre.count y + 1
    · have h' : ((n y : Nat) : Int) < ((pre.count y + 1 : Nat) : Int) := by omega
      rw [if_pos (by simpa using h'), if_pos h, List.map_cons, e0, List.map_map, Function.comp_def, ← ih]
    · have h' : ¬ ((n y : Nat) : Int) < ((pre.count y + 1 : Nat) : Int) := by omega
      rw [if_neg (by simpa using h'), if_neg h, List.map_map, Function.comp_def, ← ih]

theorem toldL_eq (one two : List Int) : toldL one two = sur (fun v => one.count v) (fun _ => 0) two := by
  have h := sur_range (fun v => one.count v) two []
  simp only [List.nil_append, List.length_nil, Nat.zero_add, List.count_nil] at h
  exact h
theorem toldM_eq (one two : List Int) : toldM one two = sur (fun v => two.count v) (fun _ => 0) one.reverse := by
  have h := sur_range (fun v => two.count v) one.reverse []
  simp only [List.nil_append, List.length_nil, Nat.zero_add, List.count_nil, List.length_reverse] at h
  rw [← h]
  unfold toldM
  have hg : ∀ i ∈ List.range one.length, one.getD (one.length - 1 - i) 0 = one.reverse.getD i 0 := fun i hi => by
    have hi' := List.mem_range.mp hi
    rw [List.getD_eq_getElem?_getD, List.getD_eq_getElem?_getD, List.getElem?_reverse hi']
  have hc : ∀ i ∈ List.range one.length, ∀ x, (one.drop (one.length - 1 - i)).count x = (one.reverse.take (i + 1)).count x := fun i hi x => by
    have hi' := List.mem_range.mp hi
    rw [List.take_reverse, List.count_reverse]
    congr 2
    omega
  rw [List.filter_congr (q := fun i => decide (((two.count (one.reverse.getD i 0) : Nat) : Int) < (((one.reverse.take (i + 1)).count (one.reverse.getD i 0) : Nat) : Int))) (fun i hi => by rw [hg i hi, hc i hi])]
  refine List.map_congr_left fun i hi => hg i (List.mem_filter.mp hi).1
theorem told_all (one two : List Int) : uld one two = (toldM one two, toldL one two) := by
  have h := uldGo_is one.reverse two [] (fun _ => 0)
  have e0 : ∀ l : List Int, exc (fun _ => 0) l = l := fun l => by
    induction l with
    | nil => rfl
    | cons y r ih => unfold exc; rw [if_pos rfl, ih]
  rw [e0] at h
  unfold uld
  rw [h, toldM_eq, toldL_eq, List.nil_append, sur_exc (fun v => one.count v) two]
  congr 2
  funext v
  simp [List.count_reverse]
end Mine
end

section
open PySem PySem.W PySem.Calls PyProof.Rows PySem.Spec
set_option maxRecDepth 100000
namespace Mine
theorem perm_sum {l₁ l₂ : List Int} (h : l₁.Perm l₂) : l₁.sum = l₂.sum := by
  induction h with
  | nil => rfl
  | cons x _ ih => simp [ih]
  | swap x y l => simp; omega
  | trans _ _ h1 h2 => exact h1.trans h2
theorem uldGo_sum : ∀ (rs ys ms : List Int), (uldGo rs ys ms).1.sum + ys.sum = rs.sum + (uldGo rs ys ms).2.sum + ms.sum
  | [], ys, ms => by simp [uldGo]; omega
  | x :: r, ys, ms => by
    unfold uldGo
    by_cases h : ys.contains x = true
    · rw [if_pos h]
      have ih := uldGo_sum r (ys.erase x) ms
      have hp := perm_sum (List.perm_cons_erase (List.contains_iff_mem.mp h))
      rw [List.sum_cons] at hp ⊢
      omega
    · rw [if_neg h]
      have ih := uldGo_sum r ys (ms ++ [x])
      rw [List.sum_append, List.sum_cons, List.sum_nil] at ih
      rw [List.sum_cons]
      omega
theorem sum_lt_of {f g : Nat → Nat} : ∀ {l : List Nat}, (∀ m ∈ l, f m ≤ g m) → (∃ m ∈ l, f m < g m) → (l.map f).sum < (l.map g).sum
  | [], _, h => by obtain ⟨_, q, _⟩ := h; cases q
  | m :: r, h1, h2 => by
    rw [List.map_cons, List.map_cons, List.sum_cons, List.sum_cons]
    have a := h1 m List.mem_cons_self
    have le : ∀ l : List Nat, (∀ m ∈ l, f m ≤ g m) → (l.map f).sum ≤ (l.map g).sum := fun l => by
      induction l with
      | nil => intro _; exact Nat.le_refl _
      | cons x r ih =>
        intro h
        have := h x List.mem_cons_self
        have := ih fun q hq => h q (List.mem_cons_of_mem _ hq)
        simp only [List.map_cons, List.sum_cons]; omega
    have b := le r fun q hq => h1 q (List.mem_cons_of_mem _ hq)
    obtain ⟨q, hq, hl⟩ := h2
    rcases List.mem_cons.mp hq with rfl | hq
    · omega
    · have := sum_lt_of (fun q hq => h1 q (List.mem_cons_of_mem _ hq)) ⟨q, hq, hl⟩
      omega
theorem cast_sum (l : List Nat) : (l.map fun n : Nat => (n : Int)).sum = (l.sum : Nat) := by
  induction l with
  | nil => rfl
  | cons x r ih => simp [ih]
section
variable (a b c d : Int)
theorem sums_eq : sumsOf [a, b, c, d] = [[1, 2, 4, 8].map (ss a b c d), [3, 5, 6, 9, 10, 12].map (ss a b c d), [7, 11, 13, 14].map (ss a b c d), [15].map (ss a b c d)] := by
  have e : sumsOf [a, b, c, d] = [[List.sum [a], List.sum [b], List.sum [c], List.sum [d]], [List.sum [a, b], List.sum [a, c], List.sum [b, c], List.sum [a, d], List.sum [b, d], List.sum [c, d]],
    [List.sum [a, b, c], List.sum [a, b, d], List.sum [a, c, d], List.sum [b, c, d]], [List.sum [a, b, c, d]]] := by kernel_rfl
  have r : [[1, 2, 4, 8].map (ss a b c d), [3, 5, 6, 9, 10, 12].map (ss a b c d), [7, 11, 13, 14].map (ss a b c d), [15].map (ss a b c d)] =
    [[a + 0 + 0 + 0, 0 + b + 0 + 0, 0 + 0 + c + 0, 0 + 0 + 0 + d], [a + b + 0 + 0, a + 0 + c + 0, 0 + b + c + 0, a + 0 + 0 + d, 0 + b + 0 + d, 0 + 0 + c + d], [a + b + c + 0, a + b + 0 + d, a + 0 + c + d, 0 + b + c + d], [a + b + c + d]] := by kernel_rfl
  rw [e, r]
  simp [Int.add_assoc]
theorem flat_eq : (sumsOf [a, b, c, d]).flatten = [1, 2, 4, 8, 3, 5, 6, 9, 10, 12, 7, 11, 13, 14, 15].map (ss a b c d) := by rw [sums_eq]; rfl
theorem masks_in : ∀ m ∈ masks, m < 16 ∧ m ≠ 0 ∧ 0 < wA m := by decide +kernel
theorem masks_all : ∀ m ∈ masks, m ∈ [1, 2, 4, 8, 3, 5, 6, 9, 10, 12, 7, 11, 13, 14, 15] := by decide +kernel
theorem masks_all' : ∀ m ∈ [1, 2, 4, 8, 3, 5, 6, 9, 10, 12, 7, 11, 13, 14, 15], m ∈ masks := by decide +kernel
theorem bP {m : Nat} (h : m ∈ masks) : bt (tP a b c d) m = decide (0 < ss a b c d m) := by
  obtain ⟨h1, h2, _⟩ := masks_in m h
  show bt (tb (PG' a b c d) 16) m = _
  rw [bt_tb _ _ _ h1]; unfold PG'
  have : (m != 0) = true := by simpa using h2
  rw [this, Bool.true_and]
theorem bQ {m : Nat} (h : m ∈ masks) : bt (tQ a b c d) m = decide (0 ≤ ss a b c d m) := by
  obtain ⟨h1, h2, _⟩ := masks_in m h
  show bt (tb (QG' a b c d) 16) m = _
  rw [bt_tb _ _ _ h1]; unfold QG'
  have : (m != 0) = true := by simpa using h2
  rw [this, Bool.true_and]
theorem sum_firsts : (firstsOf [a, b, c, d]).sum = ((masks.map fun m => if bt (tP a b c d) m then wA m else 0).sum : Nat) := by
  rw [← perm_sum (perm1 a b c d), aboves_eq, cast_sum, (prop_parts (propP a b c d)).2.2.1]
theorem sum_lasts : (lastsOf [a, b, c, d]).sum = ((masks.map fun m => if bt (tQ a b c d) m then wA m else 0).sum : Nat) := by
  rw [← perm_sum (perm2 a b c d), nonneg_eq, cast_sum, (prop_parts (propQ a b c d)).2.2.1]
theorem tb_cong {P Q : Nat → Bool} : ∀ n, (∀ m < n, P m = Q m) → tb P n = tb Q n
  | 0, _ => rfl
  | n + 1, h => by
    show tb P n + _ = tb Q n + _
    rw [tb_cong n fun m hm => h m (by omega), h n (by omega)]
theorem plain4 : (((uld (lastsOf [a, b, c, d]) (firstsOf [a, b, c, d])).1 == [] && (uld (lastsOf [a, b, c, d]) (firstsOf [a, b, c, d])).2 == []) == (sumsOf [a, b, c, d]).flatten.any (· == 0)) = false := by
  have hz : (sumsOf [a, b, c, d]).flatten.any (· == 0) = true ↔ ∃ m ∈ masks, ss a b c d m = 0 := by
    rw [flat_eq, List.any_eq_true]
    constructor
    · rintro ⟨x, hx, h0⟩
      obtain ⟨m, hm, rfl⟩ := List.mem_map.mp hx
      exact ⟨m, masks_all' m hm, by simpa using h0⟩
    · rintro ⟨m, hm, h0⟩
      exact ⟨_, List.mem_map_of_mem (masks_all m hm), by simpa using h0⟩
  by_cases h : ∃ m ∈ masks, ss a b c d m = 0
  · rw [hz.mpr h]
    have hs := uldGo_sum (lastsOf [a, b, c, d]).reverse (firstsOf [a, b, c, d]) []
    have hr : (lastsOf [a, b, c, d]).reverse.sum = (lastsOf [a, b, c, d]).sum := perm_sum (List.reverse_perm _)
    rw [hr, sum_lasts, sum_firsts] at hs
    have hlt : (masks.map fun m => if bt (tP a b c d) m then wA m else 0).sum < (masks.map fun m => if bt (tQ a b c d) m then wA m else 0).sum := by
      refine sum_lt_of (fun m hm => ?_) ?_
      · rw [bP a b c d hm, bQ a b c d hm]
        by_cases q : 0 < ss a b c d m
        · have q' : 0 ≤ ss a b c d m := by omega
          simp [q, q']
        · simp [q]
      · obtain ⟨m, hm, h0⟩ := h
        refine ⟨m, hm, ?_⟩
        rw [bP a b c d hm, bQ a b c d hm, h0]
        simpa using (masks_in m hm).2.2
    cases hu : ((uld (lastsOf [a, b, c, d]) (firstsOf [a, b, c, d])).1 == [] && (uld (lastsOf [a, b, c, d]) (firstsOf [a, b, c, d])).2 == []) with
    | false => rfl
    | true =>
      exfalso
      rw [Bool.and_eq_true] at hu
      have u1 : (uldGo (lastsOf [a, b, c, d]).reverse (firstsOf [a, b, c, d]) []).1 = [] := by simpa using hu.1
      have u2 : (uldGo (lastsOf [a, b, c, d]).reverse (firstsOf [a, b, c, d]) []).2 = [] := by simpa using hu.2
      rw [u1, u2] at hs
      simp only [List.sum_nil] at hs
      omega
  · have hf : (sumsOf [a, b, c, d]).flatten.any (· == 0) = false := by
      cases q : (sumsOf [a, b, c, d]).flatten.any (· == 0) with
      | false => rfl
      | true => exact absurd (hz.mp q) h
    rw [hf]
    have ht : tP a b c d = tQ a b c d := tb_cong 16 fun m hm => by
      unfold PG' QG'
      by_cases h0 : m = 0
      · simp [h0]
      · have hm' : m ∈ masks := by
          have : ∀ m < 16, m ≠ 0 → m ∈ masks := by decide +kernel
          exact this m hm h0
        have hne : ss a b c d m ≠ 0 := fun e => h ⟨m, hm', e⟩
        congr 1
        rw [decide_eq_decide]
        omega
    have el : lastsOf [a, b, c, d] = firstsOf [a, b, c, d] := by rw [lasts_eq, firsts_eq, ht]
    have hu := uldGo_perm (firstsOf [a, b, c, d]).reverse (firstsOf [a, b, c, d]) [] [] [] (List.reverse_perm _)
    rw [List.append_nil, List.append_nil] at hu
    rw [el]
    unfold uld
    rw [hu]
    rfl
end
end Mine
end

section
open PySem PySem.W PySem.Calls PyProof.Rows PySem.Spec
set_option maxRecDepth 100000
namespace Mine
theorem absSum_le {K : Nat} : ∀ (xs : List Int), (∀ x ∈ xs, x.natAbs ≤ K) → absSum xs ≤ xs.length * K
  | [], _ => by simp [absSum]
  | x :: r, h => by
    have h1 := h x List.mem_cons_self
    have h2 := absSum_le r fun y hy => h y (List.mem_cons_of_mem _ hy)
    unfold absSum at h2 ⊢
    rw [List.map_cons, List.sum_cons, List.length_cons, Nat.succ_mul]
    omega
theorem good_of {xs : List Int} (ne : xs ≠ []) (ln : xs.length ≤ 24) (h : ∀ x ∈ xs, x.natAbs ≤ 3 * 2 ^ 42) : Good xs := by
  have ha := absSum_le xs h
  have hb : xs.length * (3 * 2 ^ 42) ≤ 24 * (3 * 2 ^ 42) := Nat.mul_le_mul_right _ ln
  exact ⟨ne, fun n hn => by have := h n hn; omega, by omega, by omega⟩
theorem dys_int : ∀ (xs : List Int), (∀ x ∈ xs, x.natAbs < 2 ^ 50) → Dys (xs.map Float64.ofInt) (xs.map fun x => 8 * x)
  | [], _ => .nil
  | x :: r, h => .cons (dy_int (h x List.mem_cons_self)) (dys_int r fun y hy => h y (List.mem_cons_of_mem _ hy))
theorem absSum_8 : ∀ (xs : List Int), absSum (xs.map fun x => 8 * x) = 8 * absSum xs
  | [] => rfl
  | x :: r => by
    have ih := absSum_8 r
    unfold absSum at ih ⊢
    simp only [List.map_cons, List.sum_cons] at ih ⊢
    rw [ih, Int.natAbs_mul]
    have : (8 : Int).natAbs = 8 := rfl
    rw [this]; omega
theorem sum_8 (k : Int) : ∀ (xs : List Int), (xs.map fun x => k * x).sum = k * xs.sum
  | [] => by simp
  | x :: r => by rw [List.map_cons, List.sum_cons, List.sum_cons, sum_8 k r, Int.mul_add]
theorem dy_fmean {xs : List Int} (G : Good xs) {q : Int} (hq : 8 * xs.sum = q * xs.length) (hb : q.natAbs < 2 ^ 53) : Dy (fmeanOf xs) q := by
  have h1 := fs_all (dys_int xs G.sm) (by rw [absSum_8]; exact G.ab)
  rw [sum_8] at h1
  have hl : ((xs.length : Int)).natAbs < 2 ^ 50 := by have := G.ln; simp; omega
  have hn : (xs.length : Int) ≠ 0 := by
    have := G.ne
    cases xs with
    | nil => exact absurd rfl this
    | cons x r => simp; omega
  exact dy_div h1 (dy_int hl) hn hq hb
theorem dy_tm {c : Int} {x : UInt64} {n : Int} (hc : c.natAbs < 2 ^ 50) (h : Dy x n) (hb : (c * n).natAbs < 2 ^ 53) : Dy (tm c x) (c * n) := dy_mul (dy_int hc) h hb
section
variable (a b c d : Int)
theorem ss_small (ha : a.natAbs < 2 ^ 40) (hb : b.natAbs < 2 ^ 40) (hc : c.natAbs < 2 ^ 40) (hd : d.natAbs < 2 ^ 40) (m : Nat) : (ss a b c d m).natAbs < 2 ^ 42 := by
  unfold ss
  cases bt m 0 <;> cases bt m 1 <;> cases bt m 2 <;> cases bt m 3 <;> simp <;> omega
/-- weighted sums, cell by cell -/
theorem sum_ss (f : Nat → Nat) : ∀ l : List Nat, (l.map fun m => (f m : Int) * ss a b c d m).sum = a * ((l.map fun m => f m * ((m >>> 0) % 2)).sum : Nat) + b * ((l.map fun m => f m * ((m >>> 1) % 2)).sum : Nat) + c * ((l.map fun m => f m * ((m >>> 2) % 2)).sum : Nat) + d * ((l.map fun m => f m * ((m >>> 3) % 2)).sum : Nat)
  | [] => by simp
  | m :: r => by
    have ih := sum_ss f r
    simp only [List.map_cons, List.sum_cons]
    rw [ih]
    have key : ∀ (x : Int) (i : Nat), (f m : Int) * (if bt m i then x else 0) = x * ((f m * ((m >>> i) % 2) : Nat) : Int) := fun x i => by
      unfold bt
      rcases Nat.mod_two_eq_zero_or_one (m >>> i) with h | h
      · rw [h]; simp
      · rw [h]; simp [Int.mul_comm]
    unfold ss
    rw [Int.mul_add, Int.mul_add, Int.mul_add, key a 0, key b 1, key c 2, key d 3]
    simp only [Int.natCast_add, Int.mul_add]
    omega
theorem sum_highs : (highsOf [a, b, c, d]).sum = (masks.map fun m => (((if bt (tP a b c d) m then wG m else 0 : Nat)) : Int) * ss a b c d m).sum := by
  rw [highs_eq, sum_ss]
  have h := (prop_parts (propP a b c d)).2.2.2
  have e : ∀ i, (masks.map fun m => (if bt (tP a b c d) m then wG m else 0) * ((m >>> i) % 2)) = masks.map fun m => if bt (tP a b c d) m then wG m * ((m >>> i) % 2) else 0 := fun i => by
    refine List.map_congr_left fun m _ => ?_
    split <;> simp
  rw [e 0, e 1, e 2, e 3, ← h 0 (by decide), ← h 1 (by decide), ← h 2 (by decide), ← h 3 (by decide)]
  have h1 := sum_ss a b c d (fun _ => 1) ((ordersAt 4).map fun o => (aw0 (tP a b c d) o).bm)
  simp only [Int.natCast_one, Int.one_mul, Nat.one_mul, List.map_map, Function.comp_def] at h1
  rw [List.map_map, Function.comp_def]
  exact h1
end
end Mine
end

section
open PySem PySem.W PySem.Calls PyProof.Rows PySem.Spec
set_option maxRecDepth 100000
namespace Mine
section
variable (a b c d : Int)
theorem highs_small (ha : a.natAbs < 2 ^ 40) (hb : b.natAbs < 2 ^ 40) (hc : c.natAbs < 2 ^ 40) (hd : d.natAbs < 2 ^ 40) : ∀ x ∈ highsOf [a, b, c, d], x.natAbs < 2 ^ 42 := fun x hx => by
  rw [highs_eq] at hx
  obtain ⟨m, _, rfl⟩ := List.mem_map.mp hx
  exact ss_small a b c d ha hb hc hd m
theorem masks_eq : masks = [1, 2, 3, 4, 5, 6, 7, 8, 9, 10, 11, 12, 13, 14, 15] := rfl
theorem hi_y {m : Nat} (h : m ∈ masks) : (((if bt (tP a b c d) m then wG m else 0 : Nat)) : Int) * ss a b c d m = (wG m : Int) * max 0 (ss a b c d m) := by
  rw [bP a b c d h]
  by_cases q : 0 < ss a b c d m
  · have : max 0 (ss a b c d m) = ss a b c d m := by omega
    simp [q, this]
  · have : max 0 (ss a b c d m) = 0 := by omega
    simp [q, this]
theorem len_highs : (highsOf [a, b, c, d]).length = 24 := by unfold highsOf; rw [List.length_map, ord_cnt]
theorem len_firsts : (firstsOf [a, b, c, d]).length = 24 := by unfold firstsOf; rw [List.length_map, ord_cnt]
theorem len_lasts : (lastsOf [a, b, c, d]).length = 24 := by unfold lastsOf; rw [List.length_map, ord_cnt]
theorem cmp_same {x y : UInt64} {n : Int} (hx : Dy x n) (hy : Dy y n) : Float64.cmp x y = some .eq := by
  rw [dy_cmp hx hy]; simp
theorem part_good {f : Int → Int} {K : List Nat} (hK : K ≠ []) (hl : K.length ≤ 24) (hf : ∀ x ∈ K.map (ss a b c d), (f x).natAbs ≤ 3 * 2 ^ 42) : Good ((K.map (ss a b c d)).map f) :=
  good_of (by simpa using hK) (by simpa using hl) fun x hx => by
    obtain ⟨y, hy, rfl⟩ := List.mem_map.mp hx
    exact hf y hy
theorem parts_good {f : Int → Int} (hf : ∀ m, (f (ss a b c d m)).natAbs ≤ 3 * 2 ^ 42) : ∀ p ∈ sumsOf [a, b, c, d], Good (p.map f) := fun p hp => by
  have key : ∀ K : List Nat, K ≠ [] → K.length ≤ 24 → Good ((K.map (ss a b c d)).map f) := fun K h1 h2 => part_good a b c d h1 h2 fun x hx => by
    obtain ⟨m, _, rfl⟩ := List.mem_map.mp hx
    exact hf m
  rw [sums_eq] at hp
  simp only [List.mem_cons, List.not_mem_nil, or_false] at hp
  rcases hp with rfl | rfl | rfl | rfl <;> exact key _ (by decide) (by decide)
/-- the four means of what f makes of the sums -/
theorem four {f : Int → Int} (hf : ∀ m, (f (ss a b c d m)).natAbs ≤ 3 * 2 ^ 42) : ∃ z1 z2 z3 z4, ((sumsOf [a, b, c, d]).map fun p => fmeanOf (p.map f)) = [z1, z2, z3, z4] ∧
    ∀ g : Nat → Int, (∀ m, f (ss a b c d m) = 3 * g m) → Dy z1 (6 * (g 1 + g 2 + g 4 + g 8)) ∧ Dy z2 (4 * (g 3 + g 5 + g 6 + g 9 + g 10 + g 12)) ∧ Dy z3 (6 * (g 7 + g 11 + g 13 + g 14)) ∧ Dy z4 (24 * g 15) := by
  have G := parts_good a b c d hf
  rw [sums_eq] at G ⊢
  refine ⟨_, _, _, _, rfl, fun g hg => ?_⟩
  have bd : ∀ m, (g m).natAbs ≤ 2 ^ 42 := fun m => by have := hf m; rw [hg m] at this; omega
  refine ⟨dy_fmean (G _ (by simp)) ?_ ?_, dy_fmean (G _ (by simp)) ?_ ?_, dy_fmean (G _ (by simp)) ?_ ?_, dy_fmean (G _ (by simp)) ?_ ?_⟩
  · simp [hg]; omega
  · have := bd 1; have := bd 2; have := bd 4; have := bd 8; omega
  · simp [hg]; omega
  · have := bd 3; have := bd 5; have := bd 6; have := bd 9; have := bd 10; have := bd 12; omega
  · simp [hg]; omega
  · have := bd 7; have := bd 11; have := bd 13; have := bd 14; omega
  · simp [hg]; omega
  · have := bd 15; omega
end
end Mine
end

section
open PySem PySem.W PySem.Calls PyProof.Rows PySem.Spec
set_option maxRecDepth 100000
namespace Mine
section
variable (a b c d : Int)
theorem good3 {xs : List Int} (hl : xs.length = 24) (h : ∀ x ∈ xs, x.natAbs ≤ 2 ^ 42) : Good (xs.map fun x => 3 * x) := by
  refine good_of (fun e => ?_) (by simp [hl]) fun x hx => ?_
  · have := congrArg List.length e; simp [hl] at this
  · obtain ⟨y, hy, rfl⟩ := List.mem_map.mp hx
    have := h y hy
    show (3 * y).natAbs ≤ _
    omega
theorem dy24 {xs : List Int} (hl : xs.length = 24) (h : ∀ x ∈ xs, x.natAbs ≤ 2 ^ 42) (hs : xs.sum.natAbs < 2 ^ 53) : Dy (fmeanOf (xs.map fun x => 3 * x)) xs.sum := by
  refine dy_fmean (good3 hl h) ?_ hs
  rw [sum_8, List.length_map, hl]
  omega
theorem idx_small (t : Nat) : ∀ o ∈ ordersAt 4, ∀ k ≤ 4, (awAt t o k).idx ≤ k := fun o ho k => by
  induction k with
  | zero => intro _; exact Nat.le_refl _
  | succ k ih =>
    intro hk
    have := ih (by omega)
    show (awStep t (awAt t o k) k (o.getD k 0)).idx ≤ k + 1
    unfold awStep
    dsimp only
    by_cases q : bt t ((awAt t o k).pm + 2 ^ o.getD k 0 - (awAt t o k).bm) = true
    · rw [if_pos q]; exact Nat.le_refl _
    · rw [if_neg q]; exact Nat.le_succ_of_le this
theorem firsts_small : ∀ x ∈ firstsOf [a, b, c, d], x.natAbs ≤ 4 := fun x hx => by
  rw [firsts_eq, List.map_map] at hx
  obtain ⟨o, ho, rfl⟩ := List.mem_map.mp hx
  have := idx_small (tP a b c d) o ho 4 (by decide)
  show ((aw0 (tP a b c d) o).idx : Int).natAbs ≤ 4
  rw [aw_eq _ o ho]; omega
theorem lasts_small : ∀ x ∈ lastsOf [a, b, c, d], x.natAbs ≤ 4 := fun x hx => by
  rw [lasts_eq, List.map_map] at hx
  obtain ⟨o, ho, rfl⟩ := List.mem_map.mp hx
  have := idx_small (tQ a b c d) o ho 4 (by decide)
  show ((aw0 (tQ a b c d) o).idx : Int).natAbs ≤ 4
  rw [aw_eq _ o ho]; omega
theorem sum_small {K : Nat} {xs : List Int} (h : ∀ x ∈ xs, x.natAbs ≤ K) : xs.sum.natAbs ≤ xs.length * K := by
  have h1 := absSum_le xs h
  have h2 : ∀ l : List Int, l.sum.natAbs ≤ absSum l := fun l => by
    induction l with
    | nil => simp [absSum]
    | cons x r ih =>
      unfold absSum at ih ⊢
      rw [List.sum_cons, List.map_cons, List.sum_cons]
      omega
  exact Nat.le_trans (h2 xs) h1
variable (ha : a.natAbs < 2 ^ 40) (hb : b.natAbs < 2 ^ 40) (hc : c.natAbs < 2 ^ 40) (hd : d.natAbs < 2 ^ 40)
include ha hb hc hd
theorem plain_e1 : (Float64.cmp (tm 12 (fmeanOf ((highsOf [a, b, c, d]).map fun x => 3 * x))) (Float64.add (Float64.add (Float64.add (tm 12 ((meansOf [a, b, c, d]).getD 0 0)) (tm 6 ((meansOf [a, b, c, d]).getD 1 0))) (tm 4 ((meansOf [a, b, c, d]).getD 2 0))) (tm 3 ((meansOf [a, b, c, d]).getD 3 0))) != some .eq) = false := by
  have sm := ss_small a b c d ha hb hc hd
  have hh : ∀ x ∈ highsOf [a, b, c, d], x.natAbs ≤ 2 ^ 42 := fun x hx => Nat.le_of_lt (highs_small a b c d ha hb hc hd x hx)
  have hsm := sum_small hh
  rw [len_highs] at hsm
  have dH := dy24 (len_highs a b c d) hh (by omega)
  obtain ⟨z1, z2, z3, z4, e, hz⟩ := four a b c d (f := fun x => 3 * max 0 x) (fun m => by have := sm m; show (3 * max 0 (ss a b c d m)).natAbs ≤ _; omega)
  obtain ⟨g, hg⟩ : ∃ g : Nat → Int, g = fun m => max 0 (ss a b c d m) := ⟨_, rfl⟩
  obtain ⟨d1, d2, d3, d4⟩ := hz g (fun m => by rw [hg])
  have em : meansOf [a, b, c, d] = [z1, z2, z3, z4] := e
  rw [em]
  show (Float64.cmp (tm 12 _) (Float64.add (Float64.add (Float64.add (tm 12 z1) (tm 6 z2)) (tm 4 z3)) (tm 3 z4)) != some .eq) = false
  have hs : (highsOf [a, b, c, d]).sum = (masks.map fun m => (wG m : Int) * g m).sum := by
    rw [sum_highs, hg]; exact congrArg List.sum (List.map_congr_left fun m hm => hi_y a b c d hm)
  have bd : ∀ m, 0 ≤ g m ∧ g m ≤ 2 ^ 42 := fun m => by have := sm m; rw [hg]; show 0 ≤ max 0 (ss a b c d m) ∧ max 0 (ss a b c d m) ≤ 2 ^ 42; omega
  have hs' : (highsOf [a, b, c, d]).sum = 6 * g 1 + 6 * g 2 + 2 * g 3 + 6 * g 4 + 2 * g 5 + 2 * g 6 + 2 * g 7 + 6 * g 8 + 2 * g 9 + 2 * g 10 + 2 * g 11 + 2 * g 12 + 2 * g 13 + 2 * g 14 + 6 * g 15 := by
    rw [hs, masks_eq]
    simp [wG, pop4]
    omega
  have b1 := bd 1; have b2 := bd 2; have b3 := bd 3; have b4 := bd 4; have b5 := bd 5; have b6 := bd 6; have b7 := bd 7; have b8 := bd 8; have b9 := bd 9; have b10 := bd 10; have b11 := bd 11; have b12 := bd 12; have b13 := bd 13; have b14 := bd 14; have b15 := bd 15
  have t1 := dy_tm (c := 12) (by decide) d1 (by omega)
  have t2 := dy_tm (c := 6) (by decide) d2 (by omega)
  have t3 := dy_tm (c := 4) (by decide) d3 (by omega)
  have t4 := dy_tm (c := 3) (by decide) d4 (by omega)
  have t0 := dy_tm (c := 12) (by decide) dH (by omega)
  have r := dy_add (dy_add (dy_add t1 t2 (by omega)) t3 (by omega)) t4 (by omega)
  rw [cmp_same t0 (dy_cong r (by omega))]
  rfl
set_option maxHeartbeats 1000000 in
theorem plain_sum3 {f : Int → Int} {xs : List Int} {t : Nat} (hl : xs.length = 24) (hx : ∀ x ∈ xs, x.natAbs ≤ 4) (hf3 : ∀ m ∈ masks, f (ss a b c d m) = 3 * (if bt t m then 1 else 0)) (hf : ∀ x, (f x).natAbs ≤ 3) (hf0 : ∀ x, f x = 0 ∨ f x = 3)
    (hs : xs.sum = ((masks.map fun m => if bt t m then wA m else 0).sum : Nat)) : Float64.cmp (fmeanOf (xs.map fun x => 3 * x)) (PySem.Flt.sumOf ((sumsOf [a, b, c, d]).map fun p => fmeanOf (p.map f))) = some .eq := by
  have hsm := sum_small hx
  rw [hl] at hsm
  have dX := dy24 hl (fun x h => by have := hx x h; omega) (by omega)
  obtain ⟨z1, z2, z3, z4, e, hz⟩ := four a b c d (f := f) (fun m => by have := hf (ss a b c d m); omega)
  obtain ⟨g, hg⟩ : ∃ g : Nat → Int, g = fun m => f (ss a b c d m) / 3 := ⟨_, rfl⟩
  have h3 : ∀ m, f (ss a b c d m) = 3 * g m := fun m => by
    rw [hg]; show f (ss a b c d m) = 3 * (f (ss a b c d m) / 3)
    rcases hf0 (ss a b c d m) with h | h <;> rw [h] <;> rfl
  obtain ⟨d1, d2, d3, d4⟩ := hz g h3
  rw [e]
  have hgm : ∀ m ∈ masks, g m = if bt t m then 1 else 0 := fun m hm => by
    have h1 := h3 m
    have h2 := hf3 m hm
    by_cases q : bt t m = true
    · rw [if_pos q] at h2 ⊢; omega
    · rw [if_neg q] at h2 ⊢; omega
  have hs1 : xs.sum = (masks.map fun m => (wA m : Int) * g m).sum := by
    rw [hs, ← cast_sum, List.map_map]
    refine congrArg List.sum (List.map_congr_left fun m hm => ?_)
    rw [hgm m hm]
    show (((if bt t m then wA m else 0 : Nat)) : Int) = _
    split <;> simp
  have hs' : xs.sum = 6 * g 1 + 6 * g 2 + 4 * g 3 + 6 * g 4 + 4 * g 5 + 4 * g 6 + 6 * g 7 + 6 * g 8 + 4 * g 9 + 4 * g 10 + 6 * g 11 + 4 * g 12 + 6 * g 13 + 6 * g 14 + 24 * g 15 := by
    rw [hs1, masks_eq]
    simp [wA, pop4]
    omega
  have bd : ∀ m, 0 ≤ g m ∧ g m ≤ 1 := fun m => by have := h3 m; rcases hf0 (ss a b c d m) with h | h <;> omega
  have b1 := bd 1; have b2 := bd 2; have b3 := bd 3; have b4 := bd 4; have b5 := bd 5; have b6 := bd 6; have b7 := bd 7; have b8 := bd 8; have b9 := bd 9; have b10 := bd 10; have b11 := bd 11; have b12 := bd 12; have b13 := bd 13; have b14 := bd 14; have b15 := bd 15
  have S := dy_sumOf (xs := [z1, z2, z3, z4]) (.cons d1 (.cons d2 (.cons d3 (.cons d4 .nil)))) (by simp [absSum]; omega) (by simp)
  exact cmp_same dX (dy_cong S (by simp; omega))
end
end Mine
end

section
open PySem PySem.W PySem.Calls PyProof.Rows PySem.Spec
set_option maxRecDepth 100000
namespace Mine
theorem plain_abcd (a b c d : Int) (ha : a.natAbs < 2 ^ 40) (hb : b.natAbs < 2 ^ 40) (hc : c.natAbs < 2 ^ 40) (hd : d.natAbs < 2 ^ 40) : Plain [a, b, c, d] where
  p1 := plain1 a b c d
  p2 := plain2 a b c d
  p3 := told_all _ _
  p4 := plain4 a b c d
  p5 := plain5 a b c d
  g1 := parts_good a b c d (f := fun x => 3 * max 0 x) fun m => by have := ss_small a b c d ha hb hc hd m; show (3 * max 0 (ss a b c d m)).natAbs ≤ _; omega
  g2 := good3 (len_highs a b c d) fun x hx => Nat.le_of_lt (highs_small a b c d ha hb hc hd x hx)
  g3 := good3 (len_firsts a b c d) fun x hx => by have := firsts_small a b c d x hx; omega
  g4 := good3 (len_lasts a b c d) fun x hx => by have := lasts_small a b c d x hx; omega
  g5 := parts_good a b c d (f := fun x => if decide (0 < x) then 3 else 0) fun m => by split <;> decide
  g6 := parts_good a b c d (f := fun x => if decide (x < 0) then 0 else 3) fun m => by split <;> decide
  e1 := plain_e1 a b c d ha hb hc hd
  e2 := by
    have h := plain_sum3 a b c d ha hb hc hd (f := fun x => if decide (0 < x) then 3 else 0) (t := tP a b c d) (len_firsts a b c d) (firsts_small a b c d) (fun m hm => by rw [bP a b c d hm]; split <;> rfl) (fun x => by split <;> decide) (fun x => by split <;> simp) (sum_firsts a b c d)
    rw [show posOf [a, b, c, d] = (sumsOf [a, b, c, d]).map fun p => fmeanOf (p.map fun x => if decide (0 < x) then 3 else 0) from rfl, h]; rfl
  e3 := by
    have h := plain_sum3 a b c d ha hb hc hd (f := fun x => if decide (x < 0) then 0 else 3) (t := tQ a b c d) (len_lasts a b c d) (lasts_small a b c d) (fun m hm => by
      rw [bQ a b c d hm]
      by_cases q : ss a b c d m < 0
      · have q' : ¬ 0 ≤ ss a b c d m := by omega
        simp [q, q']
      · have q' : 0 ≤ ss a b c d m := by omega
        simp [q, q']) (fun x => by split <;> decide) (fun x => by split <;> simp) (sum_lasts a b c d)
    rw [show nneOf [a, b, c, d] = (sumsOf [a, b, c, d]).map fun p => fmeanOf (p.map fun x => if decide (x < 0) then 0 else 3) from rfl, h]; rfl
theorem plain_row (row : List Int) (h4 : row.length = 4) (hb : ∀ x ∈ row, x.natAbs < 2 ^ 40) : Plain row := by
  match row, h4 with
  | [a, b, c, d], _ => exact plain_abcd a b c d (hb a (by simp)) (hb b (by simp)) (hb c (by simp)) (hb d (by simp))
end Mine
end

section
open PySem PySem.W PySem.Calls PyProof.Rows PySem.Spec
namespace Mine
theorem clip_small (x : Int) : (clip x).natAbs < 2 ^ 40 := by
  unfold clip
  by_cases h : (decide (-2 ^ 40 < x) && decide (x < 2 ^ 40)) = true
  · rw [if_pos h]
    simp only [Bool.and_eq_true, decide_eq_true_eq] at h
    omega
  · rw [if_neg h]
    have h1 := Int.fmod_nonneg_of_pos x (b := 2 ^ 40) (by decide)
    have h2 := Int.fmod_lt_of_pos x (b := 2 ^ 40) (by decide)
    omega
theorem row_small (ns : List Int) : ∀ x ∈ rowOf ns, x.natAbs < 2 ^ 40 := fun x hx => by
  obtain ⟨y, _, rfl⟩ := List.mem_map.mp hx
  exact clip_small y
theorem rep_well {P : Params} {h : Heap} {a : Addr} {ns : List Int} {vs : List Value} (w1 : Well P h (.ref a) (ofPy (PyData.list (List.map PyData.int ns)))) (hL : h.IsList a vs.toArray) (hI : IntsAre vs ns) : Rep (fun _ => False) h (.ref a) (.list (pints ns)) := by
  have key : ∃ us : List Value, h.get? a = some { cls := .type "list", data := .seq us.toArray } := by
    generalize hd : ofPy (PyData.list (List.map PyData.int ns)) = d at w1
    cases w1 with
    | list h1 h2 => exact ⟨_, h1⟩
    | _ => simp [ofPy] at hd
  obtain ⟨us, hu⟩ := key
  obtain ⟨o, ho, hc, m, hd⟩ := hL
  rw [hu] at ho; cases ho
  cases hd
  exact .list (fun f => f) ⟨0, hu⟩ (Reps.of_ints hI)
end Mine
set_option maxRecDepth 100000 in
set_option maxHeartbeats 8000000 in
theorem PySem.Challenge.cw_tv0005_01_holds : PySem.Challenge.rw_tv0005_01.Holds := by
  refine Mine.hd ?_
  k_fill
  intro w s₀ s₁ mg mb G Y fa o pm cd doc dV kV ho hd hcd hD hmg hg args vals as hpre hlay hrd hwl hlo
  have KX := km_in_of Y
  refine Ground.open G ?_
  intro T B D TE TW
  wrow_args hpre hlay hrd hwl hlo
  rename_i ns hs hlay0 hLay hr1 hl2 q1 q2 la lv q3 hL ra w1 r0 hI hr2 hc1 hc2
  have hv := Mine.rep_well w1 hL hI
  refine wpAny_mono (Mine.law_call (n := 0) (ns := ns) ?P Mine.rm_caller rfl hmg (Mine.base_of KX T) ?len hv) ?post ?_
  case P => exact Mine.plain_row _ (Mine.row_len _) (Mine.row_small _)
  case len => omega
  case post =>
    intro v s' q
    obtain ⟨rfl, o⟩ := q
    exact GoodW.toG ⟨.inl ⟨_, .bool true, [], rfl, fun _ => rfl, .bool true, (by kernel_rfl), fun _ => ⟨List.nodup_nil, fun _ h => by cases h⟩⟩, o.grow, o.os, o.gens.trans hg⟩
  · intro _ _ f
    exact f.elim
end

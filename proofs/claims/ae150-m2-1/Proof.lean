import JvmDerived
import JvmDerived.Pilot.@@N@@Statement
import JvmDerived.Pilot.@@N@@Code
set_option linter.unusedVariables false
set_option linter.unusedSimpArgs false
namespace Jvm.RoadKit
open Sem ClassFile Op Lib Jvm.Stand Jvm.Free Jvm.LawKit
section New
variable {p : Program} {l : Launch} {e : Env} {R : Room} {s : State} {m : MethodId} {args : Array Value} {below : List Frame} {meth : Method} {c : Code} {T : State} {locs : List Loc} {cells slots : Nat}
theorem retI (X : Stand p l e R s m args below meth c T locs cells slots) (hx : p.tables.exec = Jvm.exec) {pc : Nat} {Ls : Array Slot} {z : Int32} {rest : List Value} (hret : meth.sig.returnType = some .int) (hd : decode c.code pc = .ok (.ireturn, 1)) {fs : List Frame}
    (hl : ∀ (f : JFrame) (acts : List Action), f.method = m → f.locked = none → f.entered = [] → (doReturn e (T.setTop f) acts (some (.int z))).1 = T.setFrames fs) : Steps p.tables e below (T.setTop (mkF m pc Ls (.int z :: rest))) (T.setFrames fs) := by
  have hm' : T.vm.method? m = some meth := X.method'
  have hn : narrow .int (.int z) = .int z := rfl
  show Steps p.tables e below (T.setTop { method := m, pc := pc, locals := Ls, stack := _ :: rest, locked := none }) _
  jvm_step X.here [X.here.top, hx, hd, hm', hret, hn]
  first | (intro acts; rw [hl _ acts rfl rfl rfl]) | rw [hl _ _ rfl rfl rfl]
  exact Steps.refl _
theorem retD (X : Stand p l e R s m args below meth c T locs cells slots) (hx : p.tables.exec = Jvm.exec) {pc : Nat} {Ls : Array Slot} {z : UInt64} {rest : List Value} (hret : meth.sig.returnType = some .double) (hd : decode c.code pc = .ok (.dreturn, 1)) {fs : List Frame}
    (hl : ∀ (f : JFrame) (acts : List Action), f.method = m → f.locked = none → f.entered = [] → (doReturn e (T.setTop f) acts (some (.double z))).1 = T.setFrames fs) : Steps p.tables e below (T.setTop (mkF m pc Ls (.double z :: rest))) (T.setFrames fs) := by
  have hm' : T.vm.method? m = some meth := X.method'
  show Steps p.tables e below (T.setTop { method := m, pc := pc, locals := Ls, stack := _ :: rest, locked := none }) _
  jvm_step X.here [X.here.top, hx, hd, hm', hret]
  first | (intro acts; rw [hl _ acts rfl rfl rfl]) | rw [hl _ _ rfl rfl rfl]
  exact Steps.refl _
end New
/-- a body that leaves the heap as it was -/
def QP (w : Value) (h0 : Heap) (n0 : Nat) (v : Option Value) (h : Heap) (L : List Loc) : Prop := v = some w ∧ Fr n0 L ∧ h = h0
/-- the law says true, and writes into nothing that stood at the start -/
def QL (n0 : Nat) (v : Option Value) (h : Heap) (L : List Loc) : Prop := v = some (.int 1) ∧ Fr n0 L
end Jvm.RoadKit

/-! OwnFP: rounding, in units of the least double. My own text, pasted into each proof. -/
namespace Jvm.Own
open Jvm.FP.Core Jvm.Free.Fl
/-- a power of two that nothing reckons out -/
def PN (j : Nat) : Nat := 2 ^ j
theorem PN_pos (j : Nat) : 0 < PN j := Nat.two_pow_pos _
theorem PN_posI (j : Nat) : (0 : Int) < (PN j : Int) := Int.ofNat_lt.mpr (PN_pos j)
theorem PN_add (i j : Nat) : PN (i + j) = PN i * PN j := Nat.pow_add ..
theorem PN_addI (i j : Nat) : (PN (i + j) : Int) = (PN i : Int) * (PN j : Int) := by rw [PN_add, Int.natCast_mul]
/-- a double as a whole number of 2^-1074 -/
def z (a : UInt64) : Int := zval b64 (val64 a)
theorem z_fin {a : UInt64} {s : Bool} {c : Nat} {q : Int} (h : val64 a = .fin s c q) : z a = signed s (inUnits c q b64.qmin) := by
  unfold z; rw [h]; rfl
/-- r is the rounding of N / D, in these units -/
def Rnd (N : Int) (D : Nat) (r : UInt64) : Prop := 0 < D ∧ ∃ s, signed s N.natAbs = N ∧ val64 r = roundRatio b64 s N.natAbs D b64.qmin
theorem DFin.fits {a : UInt64} {s : Bool} {c : Nat} {q : Int} (h : val64 a = .fin s c q) : Jvm.FP.Core.fits b64 (.fin s c q) := h ▸ val64_fits a
theorem rnd_dadd {a b : UInt64} (ha : DFin a) (hb : DFin b) : Rnd (z a + z b) 1 (dadd a b) := by
  obtain ⟨s, c, q, h1⟩ := ha
  obtain ⟨t, d, r, h2⟩ := hb
  obtain ⟨sg, n, e, hs, he, hu⟩ := sum_units (DFin.fits h1) (DFin.fits h2)
  have hz : z a + z b = signed sg (inUnits n e b64.qmin) := by unfold z; rw [h1, h2, hu]
  have hn : (z a + z b).natAbs = inUnits n e b64.qmin := by rw [hz, natAbs_signed]
  refine ⟨by decide, sg, by rw [hn, hz], ?_⟩
  rw [val64_dadd, h1, h2, hs, hn]
  show roundRatio b64 sg n 1 e = _
  refine roundRatio_congr (by decide) (by decide) ?_
  rw [show (b64.qmin - e).toNat = 0 by omega]
  simp [inUnits]
theorem z_neg {b : UInt64} : z (Jvm.FP.Core.dneg b) = - z b := by unfold z; rw [val64_dneg, zval_negate]
theorem fin_neg {b : UInt64} (hb : DFin b) : DFin (Jvm.FP.Core.dneg b) := by
  obtain ⟨t, d, r, h2⟩ := hb
  exact ⟨!t, d, r, by rw [val64_dneg, h2]; rfl⟩
theorem z_dneg {b : UInt64} : z (Jvm.FP.dneg b) = - z b := by unfold z; rw [Jvm.FP.val64_dneg, zval_negate]
theorem fin_dneg {b : UInt64} (hb : DFin b) : DFin (Jvm.FP.dneg b) := by
  obtain ⟨t, d, r, h2⟩ := hb
  exact ⟨!t, d, r, by rw [Jvm.FP.val64_dneg, h2]; rfl⟩
theorem rnd_dsub {a b : UInt64} (ha : DFin a) (hb : DFin b) : Rnd (z a - z b) 1 (dsub a b) := by
  have h := rnd_dadd ha (fin_neg hb)
  rw [z_neg] at h
  rw [dsub_eq, Int.sub_eq_add_neg]
  exact h
theorem qm : b64.qmin = -1074 := qmin_b64
theorem rnd_dmul {a b : UInt64} (ha : DFin a) (hb : DFin b) : Rnd (z a * z b) (PN 1074) (dmul a b) := by
  obtain ⟨s, c, q, h1⟩ := ha
  obtain ⟨t, d, r, h2⟩ := hb
  obtain ⟨hp, hq, hu⟩ := product_units (DFin.fits h1) (DFin.fits h2)
  have hz : z a * z b = signed (s != t) (inUnits (c * d) (q + r) (2 * b64.qmin)) := by
    rw [hu, signed_xor]; unfold z; rw [h1, h2]; rfl
  have hn : (z a * z b).natAbs = inUnits (c * d) (q + r) (2 * b64.qmin) := by rw [hz, natAbs_signed]
  refine ⟨PN_pos _, s != t, by rw [hn, hz], ?_⟩
  rw [val64_dmul, h1, h2, hp, hn]
  show roundRatio b64 (s != t) (c * d) 1 (q + r) = _
  refine roundRatio_congr (by decide) (PN_pos _) ?_
  unfold inUnits PN
  have := qm
  generalize hk : (1074 : Nat) = K at *
  calc c * d * 2 ^ K * 2 ^ (q + r - b64.qmin).toNat = c * d * 2 ^ (K + (q + r - b64.qmin).toNat) := by rw [Nat.pow_add]; ac_rfl
    _ = c * d * 2 ^ ((q + r - 2 * b64.qmin).toNat + (b64.qmin - (q + r)).toNat) := by congr 2; omega
    _ = _ := by rw [Nat.pow_add]; ac_rfl
theorem pos_sign {b : UInt64} {t : Bool} {d : Nat} {r : Int} (h2 : val64 b = .fin t d r) (hb : 0 < z b) : t = false ∧ d ≠ 0 ∧ (z b).natAbs = d * 2 ^ (r - b64.qmin).toNat := by
  have h := z_fin h2
  have hn : (z b).natAbs = d * 2 ^ (r - b64.qmin).toNat := by rw [h, natAbs_signed]; rfl
  refine ⟨?_, ?_, hn⟩
  · cases t
    · rfl
    · simp only [signed, if_true] at h; omega
  · rintro rfl
    rw [Nat.zero_mul] at hn; omega
theorem rnd_ddiv {a b : UInt64} (ha : DFin a) (hb : DFin b) (hp : 0 < z b) : Rnd (z a * (PN 1074 : Int)) (z b).natAbs (ddiv a b) := by
  obtain ⟨s, c, q, h1⟩ := ha
  obtain ⟨t, d, r, h2⟩ := hb
  obtain ⟨rfl, hd0, hD⟩ := pos_sign h2 hp
  have hza : z a * (PN 1074 : Int) = signed s (inUnits c q b64.qmin * PN 1074) := by rw [z_fin h1, signed_mul]
  have hn : (z a * (PN 1074 : Int)).natAbs = inUnits c q b64.qmin * PN 1074 := by rw [hza, natAbs_signed]
  refine ⟨by omega, s, by rw [hn, hza], ?_⟩
  rw [val64_ddiv, h1, h2, hn, hD]
  simp only [quotient, if_neg hd0]
  rw [show (s != false) = s by cases s <;> rfl]
  refine roundRatio_congr (by omega) (Nat.mul_pos (by omega) (Nat.two_pow_pos _)) ?_
  have f1 := (DFin.fits h1).2.1
  have f2 := (DFin.fits h2).2.1
  unfold inUnits PN
  have := qm
  generalize hk : (1074 : Nat) = K at *
  calc c * (d * 2 ^ (r - b64.qmin).toNat) * 2 ^ (q - r - b64.qmin).toNat = c * d * 2 ^ ((r - b64.qmin).toNat + (q - r - b64.qmin).toNat) := by rw [Nat.pow_add]; ac_rfl
    _ = c * d * 2 ^ ((q - b64.qmin).toNat + K + (b64.qmin - (q - r)).toNat) := by congr 2; omega
    _ = _ := by rw [Nat.pow_add, Nat.pow_add]; ac_rfl
theorem rnd_l2d (v : Int64) : Rnd (v.toInt * (PN 1074 : Int)) 1 (l2d v) := by
  have hP := PN_posI 1074
  have hn : (v.toInt * (PN 1074 : Int)).natAbs = v.toInt.natAbs * PN 1074 := by rw [Int.natAbs_mul, Int.natAbs_natCast]
  refine ⟨by decide, decide (v.toInt < 0), ?_, ?_⟩
  · rw [hn, signed_mul]
    congr 1
    by_cases h : v.toInt < 0
    · simp only [signed, h, decide_true, if_true]; omega
    · simp only [signed, h, decide_false, Bool.false_eq_true, if_false]; omega
  · rw [val64_l2d, hn]
    show roundRatio b64 (decide (v.toInt < 0)) v.toInt.natAbs 1 0 = _
    refine roundRatio_congr (by decide) (by decide) ?_
    have := qm
    rw [show (0 - b64.qmin).toNat = 1074 by omega, show (b64.qmin - 0).toNat = 0 by omega]
    show v.toInt.natAbs * 1 * PN 1074 = v.toInt.natAbs * PN 1074 * 1 * 2 ^ 0
    rw [Nat.pow_zero, Nat.mul_one, Nat.mul_one, Nat.mul_one]
theorem i2d_l2d' (v : Int32) : i2d v = l2d v.toInt64 := i2d_l2d v
theorem rnd_i2d (v : Int32) : Rnd (v.toInt * (PN 1074 : Int)) 1 (i2d v) := by
  have h := rnd_l2d v.toInt64
  rw [Int32.toInt_toInt64] at h
  rw [i2d_l2d]; exact h
theorem Rnd.ne_nan {N : Int} {D : Nat} {r : UInt64} (h : Rnd N D r) : val64 r ≠ .nan := by
  obtain ⟨-, s, -, h⟩ := h
  rw [h]; exact roundRatio_ne_nan _ _ _ _ _
/-- the quotient alone counts -/
theorem Rnd.scale {N : Int} {D : Nat} {r : UInt64} (k : Nat) (hk : 0 < k) (h : Rnd (N * (k : Int)) (D * k) r) : Rnd N D r := by
  obtain ⟨hD, s, hs, hv⟩ := h
  have hD' : 0 < D := Nat.pos_of_mul_pos_right hD
  have hn : (N * (k : Int)).natAbs = N.natAbs * k := by rw [Int.natAbs_mul, Int.natAbs_natCast]
  refine ⟨hD', s, ?_, ?_⟩
  · rw [hn, signed_mul] at hs
    exact Int.eq_of_mul_eq_mul_right (by omega) hs
  · rw [hv, hn]
    refine roundRatio_congr hD hD' ?_
    simp only [Int.sub_self, Int.toNat_zero, Nat.pow_zero, Nat.mul_one]
    ac_rfl
theorem Rnd.up {N : Int} {D : Nat} {r : UInt64} (k : Nat) (hk : 0 < k) (h : Rnd N D r) : Rnd (N * (k : Int)) (D * k) r := by
  obtain ⟨hD, s, hs, hv⟩ := h
  have hn : (N * (k : Int)).natAbs = N.natAbs * k := by rw [Int.natAbs_mul, Int.natAbs_natCast]
  refine ⟨Nat.mul_pos hD hk, s, ?_, ?_⟩
  · rw [hn, signed_mul, hs]
  · rw [hv, hn]
    refine roundRatio_congr hD (Nat.mul_pos hD hk) ?_
    simp only [Int.sub_self, Int.toNat_zero, Nat.pow_zero, Nat.mul_one]
    ac_rfl
theorem Rnd.z_eq {N : Int} {D : Nat} {r : UInt64} {s : Bool} (h : val64 r = roundRatio b64 s N.natAbs D b64.qmin) : z r = signed s (zmag b64 (val64 r)) := by
  unfold z zval
  rw [show sgn (val64 r) = s by rw [h, sgn_roundRatio]]
theorem DFin.ne {a : UInt64} (h : DFin a) : val64 a ≠ .nan := h.ne_nan
theorem Rnd.le {N : Int} {D : Nat} {r V : UInt64} (h : Rnd N D r) (hV : DFin V) (hle : N ≤ z V * (D : Int)) : z r ≤ z V := by
  obtain ⟨hD, s, hs, hv⟩ := h
  have h1 := zmag_roundRatio_le good_b64 (s := s) (A := N.natAbs) (e := b64.qmin) (e0 := b64.qmin) hD (val64_fits V) hV.ne_nan (Int.le_refl _) (Int.le_refl _)
  have h2 := zmag_roundRatio_ge good_b64 (s := s) (A := N.natAbs) (e := b64.qmin) (e0 := b64.qmin) hD (val64_fits V) (Int.le_refl _) (Int.le_refl _)
  rw [← hv] at h1 h2
  have e1 : inUnits N.natAbs b64.qmin b64.qmin = N.natAbs := by simp [inUnits]
  rw [e1, Int.sub_self, Int.toNat_zero, Nat.pow_zero, Nat.mul_one] at h1 h2
  rw [Rnd.z_eq hv]
  have hzV : z V = signed (sgn (val64 V)) (zmag b64 (val64 V)) := rfl
  rw [hzV, ← signed_mul] at hle
  rw [hzV]
  have hz : zmag b64 (val64 V) * D = 0 → zmag b64 (val64 V) = 0 := by
    intro h
    rcases Nat.mul_eq_zero.mp h with h | h <;> omega
  generalize zmag b64 (val64 V) * D = vP at *
  generalize zmag b64 (val64 V) = v at *
  generalize zmag b64 (val64 r) = x at *
  generalize sgn (val64 V) = t at *
  cases s <;> cases t <;> simp only [signed, if_true, Bool.false_eq_true, if_false] at hle hs ⊢
  · have := h1 (by omega); omega
  · have := h1 (by omega); have := hz (by omega); omega
  · omega
  · have := h2 (by omega); omega
theorem Rnd.ge {N : Int} {D : Nat} {r V : UInt64} (h : Rnd N D r) (hV : DFin V) (hle : z V * (D : Int) ≤ N) : z V ≤ z r := by
  obtain ⟨hD, s, hs, hv⟩ := h
  have h1 := zmag_roundRatio_le good_b64 (s := s) (A := N.natAbs) (e := b64.qmin) (e0 := b64.qmin) hD (val64_fits V) hV.ne_nan (Int.le_refl _) (Int.le_refl _)
  have h2 := zmag_roundRatio_ge good_b64 (s := s) (A := N.natAbs) (e := b64.qmin) (e0 := b64.qmin) hD (val64_fits V) (Int.le_refl _) (Int.le_refl _)
  rw [← hv] at h1 h2
  have e1 : inUnits N.natAbs b64.qmin b64.qmin = N.natAbs := by simp [inUnits]
  rw [e1, Int.sub_self, Int.toNat_zero, Nat.pow_zero, Nat.mul_one] at h1 h2
  rw [Rnd.z_eq hv]
  have hzV : z V = signed (sgn (val64 V)) (zmag b64 (val64 V)) := rfl
  rw [hzV, ← signed_mul] at hle
  rw [hzV]
  have hz : zmag b64 (val64 V) * D = 0 → zmag b64 (val64 V) = 0 := by
    intro h
    rcases Nat.mul_eq_zero.mp h with h | h <;> omega
  generalize zmag b64 (val64 V) * D = vP at *
  generalize zmag b64 (val64 V) = v at *
  generalize zmag b64 (val64 r) = x at *
  generalize sgn (val64 V) = t at *
  cases s <;> cases t <;> simp only [signed, if_true, Bool.false_eq_true, if_false] at hle hs ⊢
  · have := h2 (by omega); omega
  · omega
  · have := h1 (by omega); have := hz (by omega); omega
  · have := h1 (by omega); omega
/-- a double between two finite ones is finite -/
theorem fin_between {r L H : UInt64} (hn : val64 r ≠ .nan) (hL : DFin L) (hH : DFin H) (h1 : z L ≤ z r) (h2 : z r ≤ z H) : DFin r := by
  obtain ⟨s, c, q, a1⟩ := hL
  obtain ⟨t, d, k, b1⟩ := hH
  have l1 := zmag_lt_top good_b64 (DFin.fits a1)
  have l2 := zmag_lt_top good_b64 (DFin.fits b1)
  rw [z_fin a1] at h1
  rw [z_fin b1] at h2
  cases hr : val64 r with
  | nan => exact absurd hr hn
  | fin s' c' q' => exact ⟨s', c', q', hr⟩
  | inf s' =>
    exfalso
    have hzr : z r = signed s' (b64.tails * 2 ^ (b64.exps - 2)) := by unfold z; rw [hr]; rfl
    rw [hzr] at h1 h2
    generalize b64.tails * 2 ^ (b64.exps - 2) = top at *
    generalize inUnits c q b64.qmin = u at *
    generalize inUnits d k b64.qmin = w at *
    cases s' <;> cases s <;> cases t <;> simp only [signed, if_true, Bool.false_eq_true, if_false] at h1 h2 <;> omega
/-- numbers of at most 53 digits are doubles -/
theorem rep (m : Int) (j : Nat) (hm : m.natAbs ≤ 2 ^ 53) (hj : j ≤ 2000) : ∃ V : UInt64, DFin V ∧ z V = m * (PN j : Int) := by
  have key : ∀ (m : Int) (j : Nat), m.natAbs < 2 ^ 53 → j ≤ 2001 → ∃ V : UInt64, DFin V ∧ z V = m * (PN j : Int) := by
    intro m j hm hj
    have hq : b64.qmin = -1074 := qm
    have hx : b64.qmax = 971 := by decide
    obtain ⟨c', q', h1, h2⟩ := round_exact good_b64 (decide (m < 0)) (c := m.natAbs) (q := (j : Int) - 1074) hm (by omega) (by omega)
    have hf := round_fits good_b64 (.fin (decide (m < 0)) m.natAbs ((j : Int) - 1074))
    refine ⟨of64 (round b64 (.fin (decide (m < 0)) m.natAbs ((j : Int) - 1074))), ⟨_, _, _, by rw [val64_of64 hf, h1]⟩, ?_⟩
    rw [z_fin (by rw [val64_of64 hf, h1]), h2]
    unfold inUnits
    rw [show ((j : Int) - 1074 - b64.qmin).toNat = j by omega, signed_mul]
    show signed (decide (m < 0)) m.natAbs * (PN j : Int) = m * (PN j : Int)
    congr 1
    by_cases h : m < 0
    · simp only [signed, h, decide_true, if_true]; omega
    · simp only [signed, h, decide_false, Bool.false_eq_true, if_false]; omega
  by_cases h : m.natAbs < 2 ^ 53
  · exact key m j h (by omega)
  · obtain ⟨V, hV, hz⟩ := key (m / 2) (j + 1) (by omega) (by omega)
    refine ⟨V, hV, ?_⟩
    have h2 : m = 2 * (m / 2) := by omega
    rw [hz, PN_addI, show (PN 1 : Int) = 2 from rfl]
    conv => rhs; rw [h2]
    generalize (PN j : Int) = P
    rw [Int.mul_comm P, ← Int.mul_assoc]
    congr 1
    exact Int.mul_comm _ _
theorem Rnd.fin_of {N : Int} {D : Nat} {r L H : UInt64} (h : Rnd N D r) (hL : DFin L) (hH : DFin H) (h1 : z L * (D : Int) ≤ N) (h2 : N ≤ z H * (D : Int)) : DFin r :=
  fin_between h.ne_nan hL hH (h.ge hL h1) (h.le hH h2)
/-- an exact quotient isn't rounded -/
theorem Rnd.exact {N : Int} {D : Nat} {r : UInt64} (h : Rnd N D r) (m : Int) (j : Nat) (hm : m.natAbs ≤ 2 ^ 53) (hj : j ≤ 2000) (hN : N = m * (PN j : Int) * (D : Int)) : DFin r ∧ z r = m * (PN j : Int) := by
  obtain ⟨V, hV, hz⟩ := rep m j hm hj
  have e : N = z V * (D : Int) := by rw [hz]; exact hN
  exact ⟨h.fin_of hV hV (by omega) (by omega), by have := h.le hV (by omega); have := h.ge hV (by omega); omega⟩
/-- off by less than g = 2^j, where the quotient is at most 2^53 g -/
theorem Rnd.near {N : Int} {D : Nat} {r : UInt64} (h : Rnd N D r) (j : Nat) (hj : j ≤ 2000) (h1 : -(2 ^ 53 * (PN j : Int) * (D : Int)) ≤ N) (h2 : N ≤ (2 ^ 53 - 1) * (PN j : Int) * (D : Int)) :
    DFin r ∧ N - (PN j : Int) * (D : Int) < z r * (D : Int) ∧ z r * (D : Int) < N + (PN j : Int) * (D : Int) := by
  have hD : 0 < D := h.1
  have hg : (0 : Int) < (PN j : Int) * (D : Int) := Int.mul_pos (PN_posI j) (by omega)
  have e1 := Int.mul_ediv_add_emod N ((PN j : Int) * (D : Int))
  have e2 := Int.emod_nonneg N (b := (PN j : Int) * (D : Int)) (by omega)
  have e3 := Int.emod_lt_of_pos N hg
  rw [Int.mul_assoc] at h1 h2
  have l1 : -(2 ^ 53) ≤ N / ((PN j : Int) * (D : Int)) := by
    refine (Int.le_ediv_iff_mul_le hg).mpr ?_
    rw [Int.neg_mul]; exact h1
  have l2 : N / ((PN j : Int) * (D : Int)) ≤ 2 ^ 53 - 1 := by
    refine Int.le_trans (Int.ediv_le_ediv hg h2) ?_
    rw [Int.mul_ediv_cancel _ (by omega)]; exact Int.le_refl _
  obtain ⟨L, hL, zL⟩ := rep (N / ((PN j : Int) * (D : Int))) j (by omega) hj
  obtain ⟨H, hH, zH⟩ := rep (N / ((PN j : Int) * (D : Int)) + 1) j (by omega) hj
  generalize N / ((PN j : Int) * (D : Int)) = m at *
  generalize N % ((PN j : Int) * (D : Int)) = t at *
  have c1 : z L * (D : Int) ≤ N := by
    rw [zL, Int.mul_assoc, Int.mul_comm m]; omega
  have c2 : N ≤ z H * (D : Int) := by
    rw [zH, Int.mul_assoc, Int.add_mul, Int.one_mul, Int.mul_comm m]; omega
  have c3 := Int.mul_le_mul_of_nonneg_right (h.ge hL c1) (c := (D : Int)) (by omega)
  have c4 := Int.mul_le_mul_of_nonneg_right (h.le hH c2) (c := (D : Int)) (by omega)
  refine ⟨h.fin_of hL hH c1 c2, ?_, ?_⟩
  · rw [zL, Int.mul_assoc, Int.mul_comm m] at c3; omega
  · rw [zH, Int.mul_assoc, Int.add_mul, Int.one_mul, Int.mul_comm m] at c4
    by_cases t0 : t = 0
    · have c5 := Int.mul_le_mul_of_nonneg_right (h.le hL (by rw [zL, Int.mul_assoc, Int.mul_comm m]; omega)) (c := (D : Int)) (by omega)
      rw [zL, Int.mul_assoc, Int.mul_comm m] at c5; omega
    · omega
theorem z_inj_zero {a : UInt64} (h : DFin a) : z a = 0 ↔ DZero a := by
  obtain ⟨s, c, q, h1⟩ := h
  rw [z_fin h1, signed_eq_zero]
  constructor
  · intro h
    have : c = 0 := by
      rcases Nat.mul_eq_zero.mp (show c * _ = 0 from h) with h | h
      · exact h
      · have := Nat.two_pow_pos (q - b64.qmin).toNat; omega
    exact ⟨s, q, this ▸ h1⟩
  · rintro ⟨s', q', h2⟩
    rw [h1] at h2
    cases h2
    exact Nat.zero_mul _
/-- nothing is nearer -/
theorem Rnd.nearest {N : Int} {D : Nat} {r V : UInt64} (h : Rnd N D r) (f : DFin r) (hV : DFin V) : (N - z r * (D : Int)).natAbs ≤ (N - z V * (D : Int)).natAbs := by
  obtain ⟨hD, s, hs, hv⟩ := h
  obtain ⟨s1, c, q, h1⟩ := f
  obtain ⟨t, c', q', h2⟩ := hV
  have f2 := DFin.fits h2
  rw [h1] at hv
  have hsg : s1 = s := by
    have := sgn_roundRatio b64 s N.natAbs D b64.qmin
    rw [← hv] at this; exact this
  subst hsg
  have d1 := roundRatio_nearest good_b64 hD hv.symm f2.1 f2.2.1 (Int.le_refl b64.qmin) (Int.le_refl b64.qmin)
  have d0 := roundRatio_nearest good_b64 (c' := 0) (q' := b64.qmin) hD hv.symm (Nat.two_pow_pos _) (Int.le_refl _) (Int.le_refl b64.qmin) (Int.le_refl b64.qmin)
  unfold distance at d1 d0
  have e1 : inUnits N.natAbs b64.qmin b64.qmin = N.natAbs := by simp [inUnits]
  have e0 : inUnits 0 b64.qmin b64.qmin = 0 := by simp [inUnits]
  rw [e1] at d1 d0
  rw [e0] at d0
  rw [z_fin h1, z_fin h2]
  generalize inUnits c q b64.qmin = u at *
  generalize inUnits c' q' b64.qmin = w at *
  generalize N.natAbs = A at *
  subst hs
  rw [← signed_mul, ← signed_mul]
  rw [← Int.natCast_mul] at d1 d0
  rw [← Int.natCast_mul] at d1 d0
  generalize u * D = X at *
  generalize w * D = Y at *
  cases s1 <;> cases t <;> simp only [signed, if_true, Bool.false_eq_true, if_false] <;> omega
theorem Rnd.same' {X : Int} {P : Nat} {r r' : UInt64} (h : Rnd X P r) (h' : Rnd X P r') : z r = z r' := by
  obtain ⟨hD, s, hs, hv⟩ := h
  obtain ⟨-, s', hs', hv'⟩ := h'
  by_cases e : s = s'
  · subst e
    unfold z; rw [hv, hv']
  · have h0 : X.natAbs = 0 := by
      clear hv hv'
      generalize X.natAbs = A at *
      cases s <;> cases s' <;> simp only [signed, if_true, Bool.false_eq_true, if_false] at hs hs' <;> first | omega | exact absurd rfl e
    have k : ∀ (s : Bool) (r : UInt64), val64 r = roundRatio b64 s X.natAbs P b64.qmin → z r = 0 := by
      intro s r hr
      rw [h0] at hr
      unfold roundRatio at hr
      rw [if_pos rfl] at hr
      rw [z_fin hr, signed_eq_zero]
      exact Nat.zero_mul _
    rw [k s r hv, k s' r' hv']
theorem Rnd.same {N N' : Int} {D D' : Nat} {r r' : UInt64} (h : Rnd N D r) (h' : Rnd N' D' r') (e : N * (D' : Int) = N' * (D : Int)) : z r = z r' := by
  have a := h.up D' h'.1
  have b := h'.up D h.1
  rw [← e, Nat.mul_comm] at b
  exact Rnd.same' a b
/-- rounding keeps the order -/
theorem Rnd.mono {N N' : Int} {D D' : Nat} {r r' : UInt64} (h : Rnd N D r) (h' : Rnd N' D' r') (f : DFin r) (f' : DFin r') (hle : N * (D' : Int) ≤ N' * (D : Int)) : z r ≤ z r' := by
  refine Int.le_of_not_gt fun hlt => ?_
  have hD := h.1
  have hD' := h'.1
  have n1 := h.nearest f f'
  have n2 := h'.nearest f' f
  have a1 : z r' * (D : Int) < N := Int.lt_of_not_ge fun q => by have := h.le f' q; omega
  have a2 : N' < z r * (D' : Int) := Int.lt_of_not_ge fun q => by have := h'.ge f q; omega
  have b1 : N < z r * (D : Int) := by
    have c1 := Int.mul_lt_mul_of_pos_right a2 (c := (D : Int)) (by omega)
    have c2 : N * (D' : Int) < z r * (D : Int) * (D' : Int) := by rw [Int.mul_right_comm]; omega
    exact Int.lt_of_mul_lt_mul_right c2 (by omega)
  have b2 : z r' * (D' : Int) < N' := by
    have c1 := Int.mul_lt_mul_of_pos_right a1 (c := (D' : Int)) (by omega)
    have c2 : z r' * (D' : Int) * (D : Int) < N' * (D : Int) := by rw [Int.mul_right_comm]; omega
    exact Int.lt_of_mul_lt_mul_right c2 (by omega)
  have m1 : z r * (D : Int) + z r' * (D : Int) ≤ 2 * N := by omega
  have m2 : 2 * N' ≤ z r * (D' : Int) + z r' * (D' : Int) := by omega
  have k1 := Int.mul_le_mul_of_nonneg_right m1 (c := (D' : Int)) (by omega)
  have k2 := Int.mul_le_mul_of_nonneg_right m2 (c := (D : Int)) (by omega)
  rw [Int.add_mul, Int.mul_assoc] at k1
  rw [Int.add_mul, Int.mul_assoc] at k2
  rw [Int.mul_right_comm (z r), Int.mul_right_comm (z r')] at k2
  rw [← Int.mul_assoc] at k1 k2
  have e : N * (D' : Int) = N' * (D : Int) := by
    rw [Int.mul_assoc 2] at k1
    have k2' : 2 * (N' * (D : Int)) ≤ z r * (D : Int) * (D' : Int) + z r' * (D : Int) * (D' : Int) := by
      rw [← Int.mul_assoc]; omega
    have k1' : z r * (D : Int) * (D' : Int) + z r' * (D : Int) * (D' : Int) ≤ 2 * (N * (D' : Int)) := by
      omega
    omega
  have := h.same h' e
  omega
/-! comparisons -/
theorem nn {a : UInt64} (h : DFin a) : NoNaN64 a := (fin64_core.mpr h).noNaN
theorem cmp_z {a b : UInt64} (ha : DFin a) (hb : DFin b) : Jvm.FP.dcmp a b = some (compare (z a) (z b)) := dcmp_zval ha.ne_nan hb.ne_nan
theorem cmp_lt {a b : UInt64} (ha : DFin a) (hb : DFin b) (h : z a < z b) (o : Jvm.ClassFile.CmpOp) : Jvm.Op.cmpValue (Jvm.FP.dcmp a b) o = -1 := by
  rw [cmp_z ha hb, (compare_lt_iff _ _).mpr h]; rfl
theorem cmp_eq {a b : UInt64} (ha : DFin a) (hb : DFin b) (h : z a = z b) (o : Jvm.ClassFile.CmpOp) : Jvm.Op.cmpValue (Jvm.FP.dcmp a b) o = 0 := by
  rw [cmp_z ha hb, (compare_eq_iff _ _).mpr h]; rfl
theorem cmp_gt {a b : UInt64} (ha : DFin a) (hb : DFin b) (h : z b < z a) (o : Jvm.ClassFile.CmpOp) : Jvm.Op.cmpValue (Jvm.FP.dcmp a b) o = 1 := by
  rw [cmp_z ha hb, (compare_gt_iff _ _).mpr h]; rfl
/-! whole numbers -/
theorem z_i2d (v : Int32) : DFin (i2d v) ∧ z (i2d v) = v.toInt * (PN 1074 : Int) := by
  have h1 := Int32.toInt_lt v
  have h2 := Int32.le_toInt v
  exact (rnd_i2d v).exact v.toInt 1074 (by omega) (by omega) (by simp)
theorem z_l2d {v : Int64} (h : v.toInt.natAbs ≤ 2 ^ 53) : DFin (l2d v) ∧ z (l2d v) = v.toInt * (PN 1074 : Int) :=
  (rnd_l2d v).exact v.toInt 1074 h (by omega) (by simp)
theorem fin_zero : DFin (0 : UInt64) := (fin_bits 0).mpr (by decide)
theorem z_zero : z (0 : UInt64) = 0 := by decide +kernel
theorem fin_one : DFin (4607182418800017408 : UInt64) := (fin_bits _).mpr (by decide)
theorem z_one : z (4607182418800017408 : UInt64) = (PN 1074 : Int) := by decide +kernel
end Jvm.Own

/-! OwnRel: what a branch asks, in whole numbers. -/
namespace Jvm.Own
open Jvm.ClassFile Jvm.Op
def rel : Jvm.ClassFile.Cond → Int → Int → Bool
  | .eq, a, b => decide (a = b)
  | .ne, a, b => decide (¬ a = b)
  | .lt, a, b => decide (a < b)
  | .ge, a, b => decide (b ≤ a)
  | .gt, a, b => decide (b < a)
  | .le, a, b => decide (a ≤ b)
theorem holdsII (cd : Jvm.ClassFile.Cond) (x y : Int32) : if_icmp.holds cd x y = rel cd x.toInt y.toInt := by
  have e : (x = y) ↔ (x.toInt = y.toInt) := Int32.toInt_inj.symm
  cases cd
  · show (x == y) = decide (x.toInt = y.toInt)
    rw [Bool.eq_iff_iff, beq_iff_eq, decide_eq_true_iff]; exact e
  · show (x != y) = decide (¬ x.toInt = y.toInt)
    rw [Bool.eq_iff_iff, bne_iff_ne, decide_eq_true_iff]; exact not_congr e
  all_goals
    simp only [if_icmp.holds, rel, GE.ge, GT.gt]
    rw [Bool.eq_iff_iff, decide_eq_true_iff, decide_eq_true_iff]
    first | exact Int32.lt_iff_toInt_lt | exact Int32.le_iff_toInt_le
theorem holdsI (cd : Jvm.ClassFile.Cond) (x : Int32) : ifCond.holds cd x = rel cd x.toInt 0 := by
  rw [Jvm.RoadKit.if0, holdsII]; rfl
theorem holdsL (cd : Jvm.ClassFile.Cond) (x y : Int64) : ifCond.holds cd (Jvm.RoadKit.lcmpW x y) = rel cd x.toInt y.toInt := by
  have h := Jvm.RoadKit.c_lcmp x y
  rw [holdsI]
  rcases Int.lt_trichotomy x.toInt y.toInt with q | q | q
  · rw [h.1 q]; cases cd <;> simp [rel] <;> omega
  · rw [h.2.1 q]; cases cd <;> simp [rel] <;> omega
  · rw [h.2.2 q]; cases cd <;> simp [rel] <;> omega
theorem holdsD {a b : UInt64} (ha : Jvm.FP.Core.DFin a) (hb : Jvm.FP.Core.DFin b) (cd : Jvm.ClassFile.Cond) (o : CmpOp) : ifCond.holds cd (Jvm.Op.cmpValue (Jvm.FP.dcmp a b) o) = rel cd (z a) (z b) := by
  rw [holdsI]
  rcases Int.lt_trichotomy (z a) (z b) with q | q | q
  · rw [cmp_lt ha hb q]; cases cd <;> simp [rel] <;> omega
  · rw [cmp_eq ha hb q]; cases cd <;> simp [rel] <;> omega
  · rw [cmp_gt ha hb q]; cases cd <;> simp [rel] <;> omega
theorem dT {p : Prop} [Decidable p] (h : p) : decide p = true := decide_eq_true h
theorem dF {p : Prop} [Decidable p] (h : ¬ p) : decide p = false := decide_eq_false h
theorem dup2X1 {tb : Tables} [Ours tb] {e : Env} {below : List Frame} {T target : State} {m : MethodId} {c : Code} {g : JFrame} (h : At T m c below) (hx : tb.exec = Jvm.exec) (hg : g.method = m) {x : Int64} {y : Value} {rest : List Value} (hd : decode c.code g.pc = .ok (.dup2_x1, 1)) (hs : g.stack = .long x :: y :: rest) (hc : y.category = 1)
    (hr : Steps tb e below (T.setTop { g with pc := g.pc + 1, stack := .long x :: y :: .long x :: rest }) target) : Steps tb e below (T.setTop g) target := by
  subst hg
  jvm_step h [h.top, hx, hd, hs, hc]
  exact hr
theorem irem_mod (x y : Int32) : x - (x / y) * y = x % y := by
  apply Int32.toInt_inj.mp
  have h1 := Int32.le_toInt (x % y)
  have h2 := Int32.toInt_lt (x % y)
  rw [Int32.toInt_sub, Int32.toInt_mul, Int32.toInt_div, Int.bmod_mul_bmod, Int.sub_bmod_bmod, Int.mul_comm (x.toInt.tdiv y.toInt), ← Int.tmod_def, ← Int32.toInt_mod]
  exact Int.bmod_eq_of_le_mul_two (by omega) (by omega)
end Jvm.Own

/-! OwnWhole: doubles that are whole numbers. -/
namespace Jvm.Own
open Jvm.FP.Core Jvm.Free.Fl
theorem DI.fin {i : Int} {a : UInt64} (h : DInt i a) : DFin a := by
  unfold DInt at h
  cases hv : val64 a with
  | nan => rw [hv] at h; exact h.elim
  | inf s => rw [hv] at h; exact h.elim
  | fin s c q => exact ⟨s, c, q, hv⟩
theorem DI.nn {i : Int} {a : UInt64} (h : DInt i a) : NoNaN64 a := Jvm.Own.nn (DI.fin h)
theorem DI.zero : DInt 0 (0 : UInt64) := by
  have h := l2d_int (a := 0) (by decide)
  have e : l2d 0 = 0 := by decide +kernel
  rw [e] at h; exact h
theorem holdsW {i j : Int} {a b : UInt64} (ha : DInt i a) (hb : DInt j b) (cd : Jvm.ClassFile.Cond) (o : Jvm.ClassFile.CmpOp) : Jvm.Op.ifCond.holds cd (Jvm.Op.cmpValue (Jvm.FP.dcmp a b) o) = rel cd i j := by
  have h : Jvm.FP.dcmp a b = some (compare i j) := dcmp_int ha hb
  rw [h, holdsI]
  rcases Int.lt_trichotomy i j with q | q | q
  · rw [(compare_lt_iff _ _).mpr q]; cases cd <;> simp [Jvm.Op.cmpValue, rel] <;> omega
  · rw [(compare_eq_iff _ _).mpr q]; cases cd <;> simp [Jvm.Op.cmpValue, rel] <;> omega
  · rw [(compare_gt_iff _ _).mpr q]; cases cd <;> simp [Jvm.Op.cmpValue, rel] <;> omega
end Jvm.Own
namespace Jvm.Own
open Jvm.FP.Core Jvm.Free.Fl
theorem DI.z {i : Int} {a : UInt64} (h : DInt i a) : z a = i * (PN 1074 : Int) := by
  have q := whole_zval good_b64 (val64_fits a) h
  have e : (-b64.qmin).toNat = 1074 := by rw [qm]; rfl
  rw [e] at q
  exact q
/-- the quotient of two whole doubles, the divisor above nought -/
theorem DI.div {i j : Int} {a b : UInt64} (ha : DInt i a) (hb : DInt j b) (hj : 0 < j) (hi : i.natAbs ≤ 2 ^ 53) : Rnd (i * (PN 1074 : Int)) j.natAbs (ddiv a b) ∧ DFin (ddiv a b) := by
  have hP := PN_posI 1074
  have zb := DI.z hb
  have hr := rnd_ddiv (DI.fin ha) (DI.fin hb) (by rw [zb]; exact Int.mul_pos hj hP)
  have hD : (Jvm.Own.z b).natAbs = j.natAbs * PN 1074 := by rw [zb, Int.natAbs_mul, Int.natAbs_natCast]
  rw [hD, DI.z ha] at hr
  have h := hr.scale (PN 1074) (PN_pos _)
  refine ⟨h, ?_⟩
  obtain ⟨L, fL, zL⟩ := rep (-(i.natAbs : Int)) 1074 (by omega) (by decide)
  obtain ⟨H, fH, zH⟩ := rep (i.natAbs : Int) 1074 (by omega) (by decide)
  have e : ((j.natAbs : Nat) : Int) = j := by omega
  refine h.fin_of fL fH ?_ ?_
  · rw [zL, e, Int.mul_right_comm]
    refine Int.mul_le_mul_of_nonneg_right ?_ (by omega)
    have : (i.natAbs : Int) * 1 ≤ (i.natAbs : Int) * j := Int.mul_le_mul_of_nonneg_left (by omega) (by omega)
    rw [Int.neg_mul]; omega
  · rw [zH, e, Int.mul_right_comm]
    refine Int.mul_le_mul_of_nonneg_right ?_ (by omega)
    have : (i.natAbs : Int) * 1 ≤ (i.natAbs : Int) * j := Int.mul_le_mul_of_nonneg_left (by omega) (by omega)
    omega
end Jvm.Own

/-! OwnLong: longs that don't wrap. -/
namespace Jvm.Own
open Jvm.RoadKit
theorem pb {a b : Int} {A B : Nat} (h1 : a.natAbs ≤ A) (h2 : b.natAbs ≤ B) : (a * b).natAbs ≤ A * B := by
  rw [Int.natAbs_mul]; exact Nat.mul_le_mul h1 h2
theorem lm {a b : Int64} {i j : Int} (A B : Nat) (h1 : a.toInt = i) (h2 : b.toInt = j) (k1 : i.natAbs ≤ A) (k2 : j.natAbs ≤ B) (h : A * B < 9223372036854775808) : (a * b).toInt = i * j := by
  subst h1 h2
  have h3 := pb k1 k2
  have h4 := c_lmul a b
  have h5 := rng64 (a * b)
  generalize a.toInt * b.toInt = w at *
  omega
theorem la {a b : Int64} {i j : Int} (h1 : a.toInt = i) (h2 : b.toInt = j) (h : (i + j).natAbs < 9223372036854775808) : (a + b).toInt = i + j := by
  subst h1 h2
  have h4 := c_ladd a b
  have h5 := rng64 (a + b)
  omega
theorem ls {a b : Int64} {i j : Int} (h1 : a.toInt = i) (h2 : b.toInt = j) (h : (i - j).natAbs < 9223372036854775808) : (a - b).toInt = i - j := by
  subst h1 h2
  have h4 := c_lsub a b
  have h5 := rng64 (a - b)
  omega
end Jvm.Own

/-! OwnTwo: whole numbers of more than 53 digits, rounded; the sum's rounding error. -/
namespace Jvm.Own
open Jvm.FP.Core Jvm.Free.Fl
theorem rep' (m : Int) (j : Nat) (hm : m.natAbs < 2 ^ 53) (hj : j ≤ 2045) : ∃ V : UInt64, DFin V ∧ z V = m * (PN j : Int) := by
  have hq : b64.qmin = -1074 := qm
  have hx : b64.qmax = 971 := by decide
  obtain ⟨c', q', h1, h2⟩ := round_exact good_b64 (decide (m < 0)) (c := m.natAbs) (q := (j : Int) - 1074) hm (by omega) (by omega)
  have hf := round_fits good_b64 (.fin (decide (m < 0)) m.natAbs ((j : Int) - 1074))
  refine ⟨of64 (round b64 (.fin (decide (m < 0)) m.natAbs ((j : Int) - 1074))), ⟨_, _, _, by rw [val64_of64 hf, h1]⟩, ?_⟩
  rw [z_fin (by rw [val64_of64 hf, h1]), h2]
  unfold inUnits
  rw [show ((j : Int) - 1074 - b64.qmin).toNat = j by omega, signed_mul]
  show signed (decide (m < 0)) m.natAbs * (PN j : Int) = m * (PN j : Int)
  congr 1
  by_cases h : m < 0
  · simp only [signed, h, decide_true, if_true]; omega
  · simp only [signed, h, decide_false, Bool.false_eq_true, if_false]; omega
theorem Rnd.exactV {N : Int} {D : Nat} {r V : UInt64} (h : Rnd N D r) (hV : DFin V) (e : N = z V * (D : Int)) : DFin r ∧ z r = z V :=
  ⟨h.fin_of hV hV (by omega) (by omega), by have := h.le hV (by omega); have := h.ge hV (by omega); omega⟩
theorem leading_one {A : Nat} (hA : 0 < A) : leading A 1 = (A.log2 : Int) := by
  have h := Nat.log2_self_le (n := A) (by omega)
  have h1 : Nat.log2 1 = 0 := by decide
  unfold leading
  rw [h1]
  have e1 : ((A.log2 : Int) - ((0 : Nat) : Int)).toNat = A.log2 := by omega
  have e2 : (-((A.log2 : Int) - ((0 : Nat) : Int))).toNat = 0 := by omega
  simp only [e1, e2]
  rw [if_pos (by omega)]
  omega
/-- one whole number stands for the rounding of N at every scale -/
def RI (N n : Int) : Prop := ∀ (i : Nat) (r : UInt64), 52 ≤ i → i ≤ 1900 → Rnd (N * (PN i : Int)) 1 r → DFin r ∧ z r = n * (PN i : Int)
theorem RI.ex0 (N : Int) (hN : N.natAbs < 2 ^ 64) : ∃ n, RI N n := by
  by_cases h0 : N.natAbs < 2 ^ 53
  · exact ⟨N, fun i r hi hi2 h => h.exact N i (by omega) (by omega) (by simp)⟩
  · obtain ⟨A, hA⟩ : ∃ A, N.natAbs = A := ⟨_, rfl⟩
    rw [hA] at hN h0
    have l1 := Nat.log2_self_le (n := A) (by omega)
    have l2 := Nat.lt_log2_self (n := A)
    have l3 : 53 ≤ A.log2 := Nat.le_log2 (by omega) |>.mpr (by omega)
    have l4 : A.log2 < 64 := (Nat.log2_lt (by omega)).mpr hN
    obtain ⟨L, hL⟩ : ∃ L, A.log2 = L := ⟨_, rfl⟩
    rw [hL] at l1 l2 l3 l4
    have hB : 0 < 2 ^ (L - 52) := Nat.two_pow_pos _
    have hc : nearest A (2 ^ (L - 52)) ≤ 2 ^ 53 := by
      refine nearest_le hB ?_
      rw [← Nat.pow_add, show 53 + (L - 52) = L + 1 by omega]
      omega
    obtain ⟨c, hcc⟩ : ∃ c, nearest A (2 ^ (L - 52)) = c := ⟨_, rfl⟩
    rw [hcc] at hc
    refine ⟨signed (decide (N < 0)) (c * 2 ^ (L - 52)), ?_⟩
    intro i r hi hi2 h
    obtain ⟨-, s, hs, hv⟩ := h
    have hp := PN_pos i
    have hn : (N * (PN i : Int)).natAbs = A * PN i := by rw [Int.natAbs_mul, Int.natAbs_natCast, hA]
    have hAp : 0 < A * PN i := Nat.mul_pos (by omega) hp
    have hsg : s = decide (N < 0) := by
      rw [hn] at hs
      by_cases q : N < 0
      · have : N * (PN i : Int) < 0 := Int.mul_neg_of_neg_of_pos q (by omega)
        cases s
        · simp only [signed, Bool.false_eq_true, if_false] at hs; omega
        · simp [q]
      · have : 0 ≤ N * (PN i : Int) := Int.mul_nonneg (by omega) (by omega)
        cases s
        · simp [q]
        · simp only [signed, if_true] at hs; omega
    subst hsg
    have hqm := qm
    have e1 : roundRatio b64 (decide (N < 0)) (A * PN i) 1 b64.qmin = roundRatio b64 (decide (N < 0)) A 1 ((i : Int) - 1074) := by
      refine roundRatio_congr (by decide) (by decide) ?_
      rw [show (b64.qmin - ((i : Int) - 1074)).toNat = 0 by omega, show ((i : Int) - 1074 - b64.qmin).toNat = i by omega]
      show A * PN i * 1 * 2 ^ 0 = A * 1 * PN i
      simp
    have hbp : b64.p = 53 := rfl
    have hq : quantum b64 A 1 ((i : Int) - 1074) = (L : Int) + i - 1126 := by
      unfold quantum
      rw [leading_one (by omega), hL, hbp]
      omega
    rw [hn, e1] at hv
    unfold roundRatio at hv
    rw [if_neg (by omega), hq] at hv
    unfold roundAt at hv
    have u1 : unitsNum A ((i : Int) - 1074) ((L : Int) + i - 1126) = A := by
      unfold unitsNum
      rw [show ((i : Int) - 1074 - ((L : Int) + i - 1126)).toNat = 0 by omega]; simp
    have u2 : unitsDen 1 ((i : Int) - 1074) ((L : Int) + i - 1126) = 2 ^ (L - 52) := by
      unfold unitsDen
      rw [show ((L : Int) + i - 1126 - ((i : Int) - 1074)).toNat = L - 52 by omega]; simp
    rw [u1, u2, hcc] at hv
    have hmx : b64.qmax = 971 := by decide
    unfold settle at hv
    by_cases hlt : c < 2 ^ 53
    · rw [if_pos (by rw [hbp]; exact hlt)] at hv
      unfold bound at hv
      rw [if_pos (by omega)] at hv
      refine ⟨⟨_, _, _, hv⟩, ?_⟩
      rw [z_fin hv]
      unfold inUnits
      rw [show ((L : Int) + i - 1126 - b64.qmin).toNat = (L - 52) + i by omega, Nat.pow_add, ← Nat.mul_assoc, signed_mul]
      rfl
    · rw [if_neg (by rw [hbp]; exact hlt)] at hv
      unfold bound at hv
      rw [if_pos (by omega)] at hv
      refine ⟨⟨_, _, _, hv⟩, ?_⟩
      rw [z_fin hv]
      unfold inUnits
      have hc53 : c = 2 ^ 53 := by omega
      have ht : b64.tails = 2 ^ 52 := tails_b64
      rw [show ((L : Int) + i - 1126 + 1 - b64.qmin).toNat = 1 + (L - 52) + i by omega, Nat.pow_add, Nat.pow_add, ht, hc53]
      rw [show 2 ^ 52 * (2 ^ 1 * 2 ^ (L - 52) * 2 ^ i) = 2 ^ 53 * 2 ^ (L - 52) * 2 ^ i by
        rw [show (2 : Nat) ^ 53 = 2 ^ 52 * 2 ^ 1 from rfl]; simp only [Nat.mul_assoc], signed_mul]
      rfl
theorem i64_of {N : Int} (h1 : -9223372036854775808 ≤ N) (h2 : N < 9223372036854775808) : ∃ v : Int64, v.toInt = N := by
  refine ⟨Int64.ofInt N, ?_⟩
  rw [Int64.toInt_ofInt, show Int64.size = 18446744073709551616 from rfl]
  exact Int.bmod_eq_of_le_mul_two (by omega) (by omega)
theorem RI.ex (N : Int) (hN : N.natAbs < 2 ^ 63) : ∃ n, RI N n ∧ (n - N).natAbs < 2048 := by
  obtain ⟨n, h⟩ := RI.ex0 N (by omega)
  refine ⟨n, h, ?_⟩
  obtain ⟨v, hv⟩ := i64_of (N := N) (by omega) (by omega)
  have hr := rnd_l2d v
  rw [hv] at hr
  obtain ⟨f, hz⟩ := h 1074 _ (by omega) (by omega) hr
  have hP := PN_posI 1074
  have e : (PN 1085 : Int) = 2048 * (PN 1074 : Int) := by rw [show 1085 = 11 + 1074 from rfl, PN_addI]; rfl
  obtain ⟨-, n1, n2⟩ := hr.near 1085 (by omega) (by
      rw [e]
      have : (-(2 ^ 53 * 2048)) * (PN 1074 : Int) ≤ N * (PN 1074 : Int) := Int.mul_le_mul_of_nonneg_right (by omega) (by omega)
      omega) (by
      rw [e]
      have : N * (PN 1074 : Int) ≤ ((2 ^ 53 - 1) * 2048) * (PN 1074 : Int) := Int.mul_le_mul_of_nonneg_right (by omega) (by omega)
      omega)
  rw [hz, e] at n1 n2
  have a1 : (N - 2048) * (PN 1074 : Int) < n * (PN 1074 : Int) := by rw [Int.sub_mul]; omega
  have a2 : n * (PN 1074 : Int) < (N + 2048) * (PN 1074 : Int) := by rw [Int.add_mul]; omega
  have b1 := Int.lt_of_mul_lt_mul_right a1 (by omega)
  have b2 := Int.lt_of_mul_lt_mul_right a2 (by omega)
  omega
theorem DI.of_z {a : UInt64} {i : Int} (h : DFin a) (hz : Jvm.Own.z a = i * (PN 1074 : Int)) : DInt i a := by
  obtain ⟨s, c, q, hv⟩ := h
  rw [z_fin hv] at hz
  have hq := (DFin.fits hv).2.1
  have hqm := qm
  unfold DInt
  rw [hv]
  show signed s (c * 2 ^ q.toNat) = i * ((2 ^ (-q).toNat : Nat) : Int)
  unfold inUnits at hz
  by_cases q0 : 0 ≤ q
  · rw [show (q - b64.qmin).toNat = q.toNat + 1074 by omega, Nat.pow_add, ← Nat.mul_assoc, signed_mul] at hz
    have := Int.eq_of_mul_eq_mul_right (by have := PN_posI 1074; omega) (show signed s (c * 2 ^ q.toNat) * (PN 1074 : Int) = i * (PN 1074 : Int) from hz)
    rw [this, show (-q).toNat = 0 by omega]
    simp
  · have e : (PN 1074 : Int) = (PN (-q).toNat : Int) * (PN (q - b64.qmin).toNat : Int) := by
      rw [← PN_addI]; congr 2; omega
    rw [e, ← Int.mul_assoc, signed_mul] at hz
    have := Int.eq_of_mul_eq_mul_right (by have := PN_posI (q - b64.qmin).toNat; omega) (show signed s c * (PN (q - b64.qmin).toNat : Int) = i * (PN (-q).toNat : Int) * (PN (q - b64.qmin).toNat : Int) from hz)
    rw [show q.toNat = 0 by omega, Nat.pow_zero, Nat.mul_one, this]
    rfl
/-- the rounding error of a sum, one of whose parts is small -/
theorem two_sum {sum term total : UInt64} {u v t : Int} {J : Nat} (j1 : 52 ≤ J) (j2 : J ≤ 1900) (fs : DFin sum) (zs : z sum = u * (PN J : Int)) (ft : DFin term) (zt : z term = v * (PN J : Int)) (fT : DFin total) (zT : z total = t * (PN J : Int))
    (hu : u.natAbs ≤ 2 ^ 62) (hv : v.natAbs ≤ 2 ^ 62) (hs : u.natAbs ≤ 2147483648 ∨ v.natAbs ≤ 2147483648) (ht : (t - (u + v)).natAbs < 2048) :
    (DFin (dsub total sum) ∧ DFin (dsub total (dsub total sum)) ∧ DFin (dsub sum (dsub total (dsub total sum))) ∧ DFin (dsub term (dsub total sum)) ∧ DFin (dadd (dsub sum (dsub total (dsub total sum))) (dsub term (dsub total sum)))) ∧ z (dadd (dsub sum (dsub total (dsub total sum))) (dsub term (dsub total sum))) = (u + v - t) * (PN J : Int) := by
  have r1 := rnd_dsub fT fs
  rw [zT, zs, ← Int.sub_mul] at r1
  rcases hs with hs | hs
  · obtain ⟨n, hn, hb⟩ := RI.ex (t - u) (by omega)
    obtain ⟨f1, z1⟩ := hn J _ j1 j2 r1
    have r2 := rnd_dsub fT f1
    rw [zT, z1, ← Int.sub_mul] at r2
    obtain ⟨f2, z2⟩ := r2.exact (t - n) J (by omega) (by omega) (by simp)
    have r3 := rnd_dsub fs f2
    rw [zs, z2, ← Int.sub_mul] at r3
    obtain ⟨f3, z3⟩ := r3.exact (u - (t - n)) J (by omega) (by omega) (by simp)
    have r4 := rnd_dsub ft f1
    rw [zt, z1, ← Int.sub_mul] at r4
    obtain ⟨f4, z4⟩ := r4.exact (v - n) J (by omega) (by omega) (by simp)
    have r5 := rnd_dadd f3 f4
    rw [z3, z4, ← Int.add_mul] at r5
    obtain ⟨f5, z5⟩ := r5.exact (u - (t - n) + (v - n)) J (by omega) (by omega) (by simp)
    refine ⟨⟨f1, f2, f3, f4, f5⟩, z5.trans ?_⟩
    congr 1; omega
  · obtain ⟨f1, z1⟩ := r1.exact (t - u) J (by omega) (by omega) (by simp)
    have r2 := rnd_dsub fT f1
    rw [zT, z1, ← Int.sub_mul] at r2
    obtain ⟨f2, z2⟩ := r2.exactV fs (by rw [zs, show t - (t - u) = u by omega]; simp)
    rw [zs] at z2
    have r3 := rnd_dsub fs f2
    rw [zs, z2, ← Int.sub_mul] at r3
    obtain ⟨f3, z3⟩ := r3.exact (u - u) J (by omega) (by omega) (by simp)
    have r4 := rnd_dsub ft f1
    rw [zt, z1, ← Int.sub_mul] at r4
    obtain ⟨f4, z4⟩ := r4.exact (v - (t - u)) J (by omega) (by omega) (by simp)
    have r5 := rnd_dadd f3 f4
    rw [z3, z4, ← Int.add_mul] at r5
    obtain ⟨f5, z5⟩ := r5.exact (u - u + (v - (t - u))) J (by omega) (by omega) (by simp)
    refine ⟨⟨f1, f2, f3, f4, f5⟩, z5.trans ?_⟩
    congr 1; omega
end Jvm.Own

namespace Jvm.Pilot.@@N@@
open Jvm Jvm.ClassFile Sem Op Lib Jvm.Free Jvm.Stand Jvm.LawKit Jvm.RoadKit Bundle Jvm.Pilot.@@N@@.Jvm.D

theorem d1_0 : decode method_2_code 0 = .ok (.dconst 1, 1) := by decide +kernel
theorem d1_1 : decode method_2_code 1 = .ok (.dstore_n 1, 1) := by decide +kernel
theorem d1_2 : decode method_2_code 2 = .ok (.iload_n 0, 1) := by decide +kernel
theorem d1_3 : decode method_2_code 3 = .ok (.iconst 1, 1) := by decide +kernel
theorem d1_4 : decode method_2_code 4 = .ok (.iand, 1) := by decide +kernel
theorem d1_5 : decode method_2_code 5 = .ok (.ifCond .eq 9, 3) := by decide +kernel
theorem d1_8 : decode method_2_code 8 = .ok (.dload_n 1, 1) := by decide +kernel
theorem d1_9 : decode method_2_code 9 = .ok (.ldc2_w 7, 3) := by decide +kernel
theorem d1_12 : decode method_2_code 12 = .ok (.dmul, 1) := by decide +kernel
theorem d1_13 : decode method_2_code 13 = .ok (.dstore_n 1, 1) := by decide +kernel
theorem d1_14 : decode method_2_code 14 = .ok (.iload_n 0, 1) := by decide +kernel
theorem d1_15 : decode method_2_code 15 = .ok (.iconst 2, 1) := by decide +kernel
theorem d1_16 : decode method_2_code 16 = .ok (.iand, 1) := by decide +kernel
theorem d1_17 : decode method_2_code 17 = .ok (.ifCond .eq 9, 3) := by decide +kernel
theorem d1_20 : decode method_2_code 20 = .ok (.dload_n 1, 1) := by decide +kernel
theorem d1_21 : decode method_2_code 21 = .ok (.ldc2_w 9, 3) := by decide +kernel
theorem d1_24 : decode method_2_code 24 = .ok (.dmul, 1) := by decide +kernel
theorem d1_25 : decode method_2_code 25 = .ok (.dstore_n 1, 1) := by decide +kernel
theorem d1_26 : decode method_2_code 26 = .ok (.iload_n 0, 1) := by decide +kernel
theorem d1_27 : decode method_2_code 27 = .ok (.iconst 4, 1) := by decide +kernel
theorem d1_28 : decode method_2_code 28 = .ok (.iand, 1) := by decide +kernel
theorem d1_29 : decode method_2_code 29 = .ok (.ifCond .eq 9, 3) := by decide +kernel
theorem d1_32 : decode method_2_code 32 = .ok (.dload_n 1, 1) := by decide +kernel
theorem d1_33 : decode method_2_code 33 = .ok (.ldc2_w 11, 3) := by decide +kernel
theorem d1_36 : decode method_2_code 36 = .ok (.dmul, 1) := by decide +kernel
theorem d1_37 : decode method_2_code 37 = .ok (.dstore_n 1, 1) := by decide +kernel
theorem d1_38 : decode method_2_code 38 = .ok (.iload_n 0, 1) := by decide +kernel
theorem d1_39 : decode method_2_code 39 = .ok (.bipush 8, 2) := by decide +kernel
theorem d1_41 : decode method_2_code 41 = .ok (.iand, 1) := by decide +kernel
theorem d1_42 : decode method_2_code 42 = .ok (.ifCond .eq 9, 3) := by decide +kernel
theorem d1_45 : decode method_2_code 45 = .ok (.dload_n 1, 1) := by decide +kernel
theorem d1_46 : decode method_2_code 46 = .ok (.ldc2_w 13, 3) := by decide +kernel
theorem d1_49 : decode method_2_code 49 = .ok (.dmul, 1) := by decide +kernel
theorem d1_50 : decode method_2_code 50 = .ok (.dstore_n 1, 1) := by decide +kernel
theorem d1_51 : decode method_2_code 51 = .ok (.iload_n 0, 1) := by decide +kernel
theorem d1_52 : decode method_2_code 52 = .ok (.bipush 16, 2) := by decide +kernel
theorem d1_54 : decode method_2_code 54 = .ok (.iand, 1) := by decide +kernel
theorem d1_55 : decode method_2_code 55 = .ok (.ifCond .eq 9, 3) := by decide +kernel
theorem d1_58 : decode method_2_code 58 = .ok (.dload_n 1, 1) := by decide +kernel
theorem d1_59 : decode method_2_code 59 = .ok (.ldc2_w 15, 3) := by decide +kernel
theorem d1_62 : decode method_2_code 62 = .ok (.dmul, 1) := by decide +kernel
theorem d1_63 : decode method_2_code 63 = .ok (.dstore_n 1, 1) := by decide +kernel
theorem d1_64 : decode method_2_code 64 = .ok (.iload_n 0, 1) := by decide +kernel
theorem d1_65 : decode method_2_code 65 = .ok (.bipush 32, 2) := by decide +kernel
theorem d1_67 : decode method_2_code 67 = .ok (.iand, 1) := by decide +kernel
theorem d1_68 : decode method_2_code 68 = .ok (.ifCond .eq 9, 3) := by decide +kernel
theorem d1_71 : decode method_2_code 71 = .ok (.dload_n 1, 1) := by decide +kernel
theorem d1_72 : decode method_2_code 72 = .ok (.ldc2_w 17, 3) := by decide +kernel
theorem d1_75 : decode method_2_code 75 = .ok (.dmul, 1) := by decide +kernel
theorem d1_76 : decode method_2_code 76 = .ok (.dstore_n 1, 1) := by decide +kernel
theorem d1_77 : decode method_2_code 77 = .ok (.iload_n 0, 1) := by decide +kernel
theorem d1_78 : decode method_2_code 78 = .ok (.bipush 64, 2) := by decide +kernel
theorem d1_80 : decode method_2_code 80 = .ok (.iand, 1) := by decide +kernel
theorem d1_81 : decode method_2_code 81 = .ok (.ifCond .eq 9, 3) := by decide +kernel
theorem d1_84 : decode method_2_code 84 = .ok (.dload_n 1, 1) := by decide +kernel
theorem d1_85 : decode method_2_code 85 = .ok (.ldc2_w 19, 3) := by decide +kernel
theorem d1_88 : decode method_2_code 88 = .ok (.dmul, 1) := by decide +kernel
theorem d1_89 : decode method_2_code 89 = .ok (.dstore_n 1, 1) := by decide +kernel
theorem d1_90 : decode method_2_code 90 = .ok (.iload_n 0, 1) := by decide +kernel
theorem d1_91 : decode method_2_code 91 = .ok (.sipush 128, 3) := by decide +kernel
theorem d1_94 : decode method_2_code 94 = .ok (.iand, 1) := by decide +kernel
theorem d1_95 : decode method_2_code 95 = .ok (.ifCond .eq 9, 3) := by decide +kernel
theorem d1_98 : decode method_2_code 98 = .ok (.dload_n 1, 1) := by decide +kernel
theorem d1_99 : decode method_2_code 99 = .ok (.ldc2_w 21, 3) := by decide +kernel
theorem d1_102 : decode method_2_code 102 = .ok (.dmul, 1) := by decide +kernel
theorem d1_103 : decode method_2_code 103 = .ok (.dstore_n 1, 1) := by decide +kernel
theorem d1_104 : decode method_2_code 104 = .ok (.iload_n 0, 1) := by decide +kernel
theorem d1_105 : decode method_2_code 105 = .ok (.sipush 256, 3) := by decide +kernel
theorem d1_108 : decode method_2_code 108 = .ok (.iand, 1) := by decide +kernel
theorem d1_109 : decode method_2_code 109 = .ok (.ifCond .eq 9, 3) := by decide +kernel
theorem d1_112 : decode method_2_code 112 = .ok (.dload_n 1, 1) := by decide +kernel
theorem d1_113 : decode method_2_code 113 = .ok (.ldc2_w 23, 3) := by decide +kernel
theorem d1_116 : decode method_2_code 116 = .ok (.dmul, 1) := by decide +kernel
theorem d1_117 : decode method_2_code 117 = .ok (.dstore_n 1, 1) := by decide +kernel
theorem d1_118 : decode method_2_code 118 = .ok (.iload_n 0, 1) := by decide +kernel
theorem d1_119 : decode method_2_code 119 = .ok (.sipush 512, 3) := by decide +kernel
theorem d1_122 : decode method_2_code 122 = .ok (.iand, 1) := by decide +kernel
theorem d1_123 : decode method_2_code 123 = .ok (.ifCond .eq 9, 3) := by decide +kernel
theorem d1_126 : decode method_2_code 126 = .ok (.dload_n 1, 1) := by decide +kernel
theorem d1_127 : decode method_2_code 127 = .ok (.ldc2_w 25, 3) := by decide +kernel
theorem d1_130 : decode method_2_code 130 = .ok (.dmul, 1) := by decide +kernel
theorem d1_131 : decode method_2_code 131 = .ok (.dstore_n 1, 1) := by decide +kernel
theorem d1_132 : decode method_2_code 132 = .ok (.dload_n 1, 1) := by decide +kernel
theorem d1_133 : decode method_2_code 133 = .ok (.ldc2_w 27, 3) := by decide +kernel
theorem d1_136 : decode method_2_code 136 = .ok (.dmul, 1) := by decide +kernel
theorem d1_137 : decode method_2_code 137 = .ok (.dreturn, 1) := by decide +kernel
theorem d2_0 : decode prog_34_method_2_code 0 = .ok (.dload 4, 2) := by decide +kernel
theorem d2_2 : decode prog_34_method_2_code 2 = .ok (.dload_n 0, 1) := by decide +kernel
theorem d2_3 : decode prog_34_method_2_code 3 = .ok (.dsub, 1) := by decide +kernel
theorem d2_4 : decode prog_34_method_2_code 4 = .ok (.dstore 6, 2) := by decide +kernel
theorem d2_6 : decode prog_34_method_2_code 6 = .ok (.dload_n 0, 1) := by decide +kernel
theorem d2_7 : decode prog_34_method_2_code 7 = .ok (.dload 4, 2) := by decide +kernel
theorem d2_9 : decode prog_34_method_2_code 9 = .ok (.dload 6, 2) := by decide +kernel
theorem d2_11 : decode prog_34_method_2_code 11 = .ok (.dsub, 1) := by decide +kernel
theorem d2_12 : decode prog_34_method_2_code 12 = .ok (.dsub, 1) := by decide +kernel
theorem d2_13 : decode prog_34_method_2_code 13 = .ok (.dload_n 2, 1) := by decide +kernel
theorem d2_14 : decode prog_34_method_2_code 14 = .ok (.dload 6, 2) := by decide +kernel
theorem d2_16 : decode prog_34_method_2_code 16 = .ok (.dsub, 1) := by decide +kernel
theorem d2_17 : decode prog_34_method_2_code 17 = .ok (.dadd, 1) := by decide +kernel
theorem d2_18 : decode prog_34_method_2_code 18 = .ok (.dreturn, 1) := by decide +kernel
theorem pd_0 : parseMethodDescriptor "(I)D" = some ⟨[.int], some .double⟩ := by decide +kernel
theorem pd_1 : parseMethodDescriptor "(DDD)D" = some ⟨[.double, .double, .double], some .double⟩ := by decide +kernel
theorem pn_0 : plainName "com/example/gaithersburg/gaithersburg/graph/DoubleDoubleRoundingOfPinLaw" = true := by first | (simp [plainName, overriddenIn]; done) | decide +kernel
theorem pn_1 : plainName "com/example/gaithersburg/gaithersburg/graph/DoubleDouble" = true := by first | (simp [plainName, overriddenIn]; done) | decide +kernel

def own_st (m0 mask : Int32) (c s s' : UInt64) : Prop := ((m0 &&& mask) = 0 ∧ s = s') ∨ (¬ (m0 &&& mask) = 0 ∧ Jvm.Free.Fl.NoNaN64 (FP.dmul s c) ∧ FP.dmul s c = s')

set_option maxRecDepth 65536 in
set_option maxHeartbeats 40000000 in
theorem sc_0 {p : Program} {l : Launch} {e : Env} {R : Room} {s : State} {m : MethodId} {args : Array Value} {below : List Frame} {meth : Method} {c : Code} {T : State} {locs : List Loc} {cells slots : Nat} {Z : State} {a0 : Array Value} (m0 : Int32) (s0 s1 : UInt64)
    (X : Stand p l e R s m args below meth c T locs cells slots) (hx : p.tables.exec = Jvm.exec) (hZ : Z.Warmed39 s.vm) (hw : ∀ d ∈ tables_1, d.before a0 Z = true) (hby : c.code = method_2_code) (hown : s.vm.findClass "com/example/gaithersburg/gaithersburg/graph/DoubleDoubleRoundingOfPinLaw" = some m.cls) (hs : own_st m0 (1 : Int32) (4611686018427387904 : UInt64) s0 s1) :
    ∀ target, Steps p.tables e below (T.setTop (mkF m 14 #[.val (.int m0), .val (.double s1), .second] [])) target → Steps p.tables e below (T.setTop (mkF m 2 #[.val (.int m0), .val (.double s0), .second] [])) target := by
  intro target kt
  rcases hs with ⟨q1, rfl⟩ | ⟨q1, q2, q3⟩
  · show Steps p.tables e below (T.setTop (mkF m 2 #[.val (.int m0), .val (.double s0), .second] [])) _
    refine XS.iloadN X.here hx rfl (hb hby d1_2) rfl ?_
    show Steps p.tables e below (T.setTop (mkF m 3 #[.val (.int m0), .val (.double s0), .second] [(.int m0)])) _
    refine XS.iconst X.here hx rfl (hb hby d1_3) ?_
    show Steps p.tables e below (T.setTop (mkF m 4 #[.val (.int m0), .val (.double s0), .second] [(.int (1 : Int32)), (.int m0)])) _
    refine XS.iand X.here hx rfl (hb hby d1_4) rfl ?_
    show Steps p.tables e below (T.setTop (mkF m 5 #[.val (.int m0), .val (.double s0), .second] [(.int (m0 &&& (1 : Int32)))])) _
    refine XS.ifYes X.here hx rfl (pc0 := 5) (pc' := 14) rfl (hb hby d1_5) rfl ((Jvm.Own.holdsI _ _).trans (Jvm.Own.dT (by rw [q1]; decide))) (by decide) (by decide) ?_
    exact kt
  · show Steps p.tables e below (T.setTop (mkF m 2 #[.val (.int m0), .val (.double s0), .second] [])) _
    refine XS.iloadN X.here hx rfl (hb hby d1_2) rfl ?_
    show Steps p.tables e below (T.setTop (mkF m 3 #[.val (.int m0), .val (.double s0), .second] [(.int m0)])) _
    refine XS.iconst X.here hx rfl (hb hby d1_3) ?_
    show Steps p.tables e below (T.setTop (mkF m 4 #[.val (.int m0), .val (.double s0), .second] [(.int (1 : Int32)), (.int m0)])) _
    refine XS.iand X.here hx rfl (hb hby d1_4) rfl ?_
    show Steps p.tables e below (T.setTop (mkF m 5 #[.val (.int m0), .val (.double s0), .second] [(.int (m0 &&& (1 : Int32)))])) _
    refine XS.ifNo X.here hx rfl (hb hby d1_5) rfl ((Jvm.Own.holdsI _ _).trans (Jvm.Own.dF (fun q => q1 (Int32.toInt_inj.mp q)))) ?_
    show Steps p.tables e below (T.setTop (mkF m 8 #[.val (.int m0), .val (.double s0), .second] [])) _
    refine XS.dloadN X.here hx rfl (hb hby d1_8) rfl ?_
    show Steps p.tables e below (T.setTop (mkF m 9 #[.val (.int m0), .val (.double s0), .second] [(.double s0)])) _
    refine X.ldc2DoubleC hx hown (mvT hZ (hw _ (List.mem_of_getElem? (i := 4) rfl))) (g := (mkF m 9 #[.val (.int m0), .val (.double s0), .second] [(.double s0)])) rfl (hb hby d1_9) _ ?_
    show Steps p.tables e below (T.setTop (mkF m 12 #[.val (.int m0), .val (.double s0), .second] [(.double (4611686018427387904 : UInt64)), (.double s0)])) _
    refine XS.dmulS X.here hx rfl (hb hby d1_12) rfl q2 (v := s1) q3 ?_
    show Steps p.tables e below (T.setTop (mkF m 13 #[.val (.int m0), .val (.double s0), .second] [(.double s1)])) _
    refine XS.dstoreN X.here hx rfl (hb hby d1_13) rfl (l' := #[.val (.int m0), .val (.double s1), .second]) rfl ?_
    exact kt
set_option maxRecDepth 65536 in
set_option maxHeartbeats 40000000 in
theorem sc_1 {p : Program} {l : Launch} {e : Env} {R : Room} {s : State} {m : MethodId} {args : Array Value} {below : List Frame} {meth : Method} {c : Code} {T : State} {locs : List Loc} {cells slots : Nat} {Z : State} {a0 : Array Value} (m0 : Int32) (s0 s1 : UInt64)
    (X : Stand p l e R s m args below meth c T locs cells slots) (hx : p.tables.exec = Jvm.exec) (hZ : Z.Warmed39 s.vm) (hw : ∀ d ∈ tables_1, d.before a0 Z = true) (hby : c.code = method_2_code) (hown : s.vm.findClass "com/example/gaithersburg/gaithersburg/graph/DoubleDoubleRoundingOfPinLaw" = some m.cls) (hs : own_st m0 (2 : Int32) (4616189618054758400 : UInt64) s0 s1) :
    ∀ target, Steps p.tables e below (T.setTop (mkF m 26 #[.val (.int m0), .val (.double s1), .second] [])) target → Steps p.tables e below (T.setTop (mkF m 14 #[.val (.int m0), .val (.double s0), .second] [])) target := by
  intro target kt
  rcases hs with ⟨q1, rfl⟩ | ⟨q1, q2, q3⟩
  · show Steps p.tables e below (T.setTop (mkF m 14 #[.val (.int m0), .val (.double s0), .second] [])) _
    refine XS.iloadN X.here hx rfl (hb hby d1_14) rfl ?_
    show Steps p.tables e below (T.setTop (mkF m 15 #[.val (.int m0), .val (.double s0), .second] [(.int m0)])) _
    refine XS.iconst X.here hx rfl (hb hby d1_15) ?_
    show Steps p.tables e below (T.setTop (mkF m 16 #[.val (.int m0), .val (.double s0), .second] [(.int (2 : Int32)), (.int m0)])) _
    refine XS.iand X.here hx rfl (hb hby d1_16) rfl ?_
    show Steps p.tables e below (T.setTop (mkF m 17 #[.val (.int m0), .val (.double s0), .second] [(.int (m0 &&& (2 : Int32)))])) _
    refine XS.ifYes X.here hx rfl (pc0 := 17) (pc' := 26) rfl (hb hby d1_17) rfl ((Jvm.Own.holdsI _ _).trans (Jvm.Own.dT (by rw [q1]; decide))) (by decide) (by decide) ?_
    exact kt
  · show Steps p.tables e below (T.setTop (mkF m 14 #[.val (.int m0), .val (.double s0), .second] [])) _
    refine XS.iloadN X.here hx rfl (hb hby d1_14) rfl ?_
    show Steps p.tables e below (T.setTop (mkF m 15 #[.val (.int m0), .val (.double s0), .second] [(.int m0)])) _
    refine XS.iconst X.here hx rfl (hb hby d1_15) ?_
    show Steps p.tables e below (T.setTop (mkF m 16 #[.val (.int m0), .val (.double s0), .second] [(.int (2 : Int32)), (.int m0)])) _
    refine XS.iand X.here hx rfl (hb hby d1_16) rfl ?_
    show Steps p.tables e below (T.setTop (mkF m 17 #[.val (.int m0), .val (.double s0), .second] [(.int (m0 &&& (2 : Int32)))])) _
    refine XS.ifNo X.here hx rfl (hb hby d1_17) rfl ((Jvm.Own.holdsI _ _).trans (Jvm.Own.dF (fun q => q1 (Int32.toInt_inj.mp q)))) ?_
    show Steps p.tables e below (T.setTop (mkF m 20 #[.val (.int m0), .val (.double s0), .second] [])) _
    refine XS.dloadN X.here hx rfl (hb hby d1_20) rfl ?_
    show Steps p.tables e below (T.setTop (mkF m 21 #[.val (.int m0), .val (.double s0), .second] [(.double s0)])) _
    refine X.ldc2DoubleC hx hown (mvT hZ (hw _ (List.mem_of_getElem? (i := 10) rfl))) (g := (mkF m 21 #[.val (.int m0), .val (.double s0), .second] [(.double s0)])) rfl (hb hby d1_21) _ ?_
    show Steps p.tables e below (T.setTop (mkF m 24 #[.val (.int m0), .val (.double s0), .second] [(.double (4616189618054758400 : UInt64)), (.double s0)])) _
    refine XS.dmulS X.here hx rfl (hb hby d1_24) rfl q2 (v := s1) q3 ?_
    show Steps p.tables e below (T.setTop (mkF m 25 #[.val (.int m0), .val (.double s0), .second] [(.double s1)])) _
    refine XS.dstoreN X.here hx rfl (hb hby d1_25) rfl (l' := #[.val (.int m0), .val (.double s1), .second]) rfl ?_
    exact kt
set_option maxRecDepth 65536 in
set_option maxHeartbeats 40000000 in
theorem sc_2 {p : Program} {l : Launch} {e : Env} {R : Room} {s : State} {m : MethodId} {args : Array Value} {below : List Frame} {meth : Method} {c : Code} {T : State} {locs : List Loc} {cells slots : Nat} {Z : State} {a0 : Array Value} (m0 : Int32) (s0 s1 : UInt64)
    (X : Stand p l e R s m args below meth c T locs cells slots) (hx : p.tables.exec = Jvm.exec) (hZ : Z.Warmed39 s.vm) (hw : ∀ d ∈ tables_1, d.before a0 Z = true) (hby : c.code = method_2_code) (hown : s.vm.findClass "com/example/gaithersburg/gaithersburg/graph/DoubleDoubleRoundingOfPinLaw" = some m.cls) (hs : own_st m0 (4 : Int32) (4625196817309499392 : UInt64) s0 s1) :
    ∀ target, Steps p.tables e below (T.setTop (mkF m 38 #[.val (.int m0), .val (.double s1), .second] [])) target → Steps p.tables e below (T.setTop (mkF m 26 #[.val (.int m0), .val (.double s0), .second] [])) target := by
  intro target kt
  rcases hs with ⟨q1, rfl⟩ | ⟨q1, q2, q3⟩
  · show Steps p.tables e below (T.setTop (mkF m 26 #[.val (.int m0), .val (.double s0), .second] [])) _
    refine XS.iloadN X.here hx rfl (hb hby d1_26) rfl ?_
    show Steps p.tables e below (T.setTop (mkF m 27 #[.val (.int m0), .val (.double s0), .second] [(.int m0)])) _
    refine XS.iconst X.here hx rfl (hb hby d1_27) ?_
    show Steps p.tables e below (T.setTop (mkF m 28 #[.val (.int m0), .val (.double s0), .second] [(.int (4 : Int32)), (.int m0)])) _
    refine XS.iand X.here hx rfl (hb hby d1_28) rfl ?_
    show Steps p.tables e below (T.setTop (mkF m 29 #[.val (.int m0), .val (.double s0), .second] [(.int (m0 &&& (4 : Int32)))])) _
    refine XS.ifYes X.here hx rfl (pc0 := 29) (pc' := 38) rfl (hb hby d1_29) rfl ((Jvm.Own.holdsI _ _).trans (Jvm.Own.dT (by rw [q1]; decide))) (by decide) (by decide) ?_
    exact kt
  · show Steps p.tables e below (T.setTop (mkF m 26 #[.val (.int m0), .val (.double s0), .second] [])) _
    refine XS.iloadN X.here hx rfl (hb hby d1_26) rfl ?_
    show Steps p.tables e below (T.setTop (mkF m 27 #[.val (.int m0), .val (.double s0), .second] [(.int m0)])) _
    refine XS.iconst X.here hx rfl (hb hby d1_27) ?_
    show Steps p.tables e below (T.setTop (mkF m 28 #[.val (.int m0), .val (.double s0), .second] [(.int (4 : Int32)), (.int m0)])) _
    refine XS.iand X.here hx rfl (hb hby d1_28) rfl ?_
    show Steps p.tables e below (T.setTop (mkF m 29 #[.val (.int m0), .val (.double s0), .second] [(.int (m0 &&& (4 : Int32)))])) _
    refine XS.ifNo X.here hx rfl (hb hby d1_29) rfl ((Jvm.Own.holdsI _ _).trans (Jvm.Own.dF (fun q => q1 (Int32.toInt_inj.mp q)))) ?_
    show Steps p.tables e below (T.setTop (mkF m 32 #[.val (.int m0), .val (.double s0), .second] [])) _
    refine XS.dloadN X.here hx rfl (hb hby d1_32) rfl ?_
    show Steps p.tables e below (T.setTop (mkF m 33 #[.val (.int m0), .val (.double s0), .second] [(.double s0)])) _
    refine X.ldc2DoubleC hx hown (mvT hZ (hw _ (List.mem_of_getElem? (i := 11) rfl))) (g := (mkF m 33 #[.val (.int m0), .val (.double s0), .second] [(.double s0)])) rfl (hb hby d1_33) _ ?_
    show Steps p.tables e below (T.setTop (mkF m 36 #[.val (.int m0), .val (.double s0), .second] [(.double (4625196817309499392 : UInt64)), (.double s0)])) _
    refine XS.dmulS X.here hx rfl (hb hby d1_36) rfl q2 (v := s1) q3 ?_
    show Steps p.tables e below (T.setTop (mkF m 37 #[.val (.int m0), .val (.double s0), .second] [(.double s1)])) _
    refine XS.dstoreN X.here hx rfl (hb hby d1_37) rfl (l' := #[.val (.int m0), .val (.double s1), .second]) rfl ?_
    exact kt
set_option maxRecDepth 65536 in
set_option maxHeartbeats 40000000 in
theorem sc_3 {p : Program} {l : Launch} {e : Env} {R : Room} {s : State} {m : MethodId} {args : Array Value} {below : List Frame} {meth : Method} {c : Code} {T : State} {locs : List Loc} {cells slots : Nat} {Z : State} {a0 : Array Value} (m0 : Int32) (s0 s1 : UInt64)
    (X : Stand p l e R s m args below meth c T locs cells slots) (hx : p.tables.exec = Jvm.exec) (hZ : Z.Warmed39 s.vm) (hw : ∀ d ∈ tables_1, d.before a0 Z = true) (hby : c.code = method_2_code) (hown : s.vm.findClass "com/example/gaithersburg/gaithersburg/graph/DoubleDoubleRoundingOfPinLaw" = some m.cls) (hs : own_st m0 (8 : Int32) (4643211215818981376 : UInt64) s0 s1) :
    ∀ target, Steps p.tables e below (T.setTop (mkF m 51 #[.val (.int m0), .val (.double s1), .second] [])) target → Steps p.tables e below (T.setTop (mkF m 38 #[.val (.int m0), .val (.double s0), .second] [])) target := by
  intro target kt
  rcases hs with ⟨q1, rfl⟩ | ⟨q1, q2, q3⟩
  · show Steps p.tables e below (T.setTop (mkF m 38 #[.val (.int m0), .val (.double s0), .second] [])) _
    refine XS.iloadN X.here hx rfl (hb hby d1_38) rfl ?_
    show Steps p.tables e below (T.setTop (mkF m 39 #[.val (.int m0), .val (.double s0), .second] [(.int m0)])) _
    refine XS.bipush X.here hx rfl (hb hby d1_39) ?_
    show Steps p.tables e below (T.setTop (mkF m 41 #[.val (.int m0), .val (.double s0), .second] [(.int (8 : Int32)), (.int m0)])) _
    refine XS.iand X.here hx rfl (hb hby d1_41) rfl ?_
    show Steps p.tables e below (T.setTop (mkF m 42 #[.val (.int m0), .val (.double s0), .second] [(.int (m0 &&& (8 : Int32)))])) _
    refine XS.ifYes X.here hx rfl (pc0 := 42) (pc' := 51) rfl (hb hby d1_42) rfl ((Jvm.Own.holdsI _ _).trans (Jvm.Own.dT (by rw [q1]; decide))) (by decide) (by decide) ?_
    exact kt
  · show Steps p.tables e below (T.setTop (mkF m 38 #[.val (.int m0), .val (.double s0), .second] [])) _
    refine XS.iloadN X.here hx rfl (hb hby d1_38) rfl ?_
    show Steps p.tables e below (T.setTop (mkF m 39 #[.val (.int m0), .val (.double s0), .second] [(.int m0)])) _
    refine XS.bipush X.here hx rfl (hb hby d1_39) ?_
    show Steps p.tables e below (T.setTop (mkF m 41 #[.val (.int m0), .val (.double s0), .second] [(.int (8 : Int32)), (.int m0)])) _
    refine XS.iand X.here hx rfl (hb hby d1_41) rfl ?_
    show Steps p.tables e below (T.setTop (mkF m 42 #[.val (.int m0), .val (.double s0), .second] [(.int (m0 &&& (8 : Int32)))])) _
    refine XS.ifNo X.here hx rfl (hb hby d1_42) rfl ((Jvm.Own.holdsI _ _).trans (Jvm.Own.dF (fun q => q1 (Int32.toInt_inj.mp q)))) ?_
    show Steps p.tables e below (T.setTop (mkF m 45 #[.val (.int m0), .val (.double s0), .second] [])) _
    refine XS.dloadN X.here hx rfl (hb hby d1_45) rfl ?_
    show Steps p.tables e below (T.setTop (mkF m 46 #[.val (.int m0), .val (.double s0), .second] [(.double s0)])) _
    refine X.ldc2DoubleC hx hown (mvT hZ (hw _ (List.mem_of_getElem? (i := 12) rfl))) (g := (mkF m 46 #[.val (.int m0), .val (.double s0), .second] [(.double s0)])) rfl (hb hby d1_46) _ ?_
    show Steps p.tables e below (T.setTop (mkF m 49 #[.val (.int m0), .val (.double s0), .second] [(.double (4643211215818981376 : UInt64)), (.double s0)])) _
    refine XS.dmulS X.here hx rfl (hb hby d1_49) rfl q2 (v := s1) q3 ?_
    show Steps p.tables e below (T.setTop (mkF m 50 #[.val (.int m0), .val (.double s0), .second] [(.double s1)])) _
    refine XS.dstoreN X.here hx rfl (hb hby d1_50) rfl (l' := #[.val (.int m0), .val (.double s1), .second]) rfl ?_
    exact kt
set_option maxRecDepth 65536 in
set_option maxHeartbeats 40000000 in
theorem sc_4 {p : Program} {l : Launch} {e : Env} {R : Room} {s : State} {m : MethodId} {args : Array Value} {below : List Frame} {meth : Method} {c : Code} {T : State} {locs : List Loc} {cells slots : Nat} {Z : State} {a0 : Array Value} (m0 : Int32) (s0 s1 : UInt64)
    (X : Stand p l e R s m args below meth c T locs cells slots) (hx : p.tables.exec = Jvm.exec) (hZ : Z.Warmed39 s.vm) (hw : ∀ d ∈ tables_1, d.before a0 Z = true) (hby : c.code = method_2_code) (hown : s.vm.findClass "com/example/gaithersburg/gaithersburg/graph/DoubleDoubleRoundingOfPinLaw" = some m.cls) (hs : own_st m0 (16 : Int32) (4679240012837945344 : UInt64) s0 s1) :
    ∀ target, Steps p.tables e below (T.setTop (mkF m 64 #[.val (.int m0), .val (.double s1), .second] [])) target → Steps p.tables e below (T.setTop (mkF m 51 #[.val (.int m0), .val (.double s0), .second] [])) target := by
  intro target kt
  rcases hs with ⟨q1, rfl⟩ | ⟨q1, q2, q3⟩
  · show Steps p.tables e below (T.setTop (mkF m 51 #[.val (.int m0), .val (.double s0), .second] [])) _
    refine XS.iloadN X.here hx rfl (hb hby d1_51) rfl ?_
    show Steps p.tables e below (T.setTop (mkF m 52 #[.val (.int m0), .val (.double s0), .second] [(.int m0)])) _
    refine XS.bipush X.here hx rfl (hb hby d1_52) ?_
    show Steps p.tables e below (T.setTop (mkF m 54 #[.val (.int m0), .val (.double s0), .second] [(.int (16 : Int32)), (.int m0)])) _
    refine XS.iand X.here hx rfl (hb hby d1_54) rfl ?_
    show Steps p.tables e below (T.setTop (mkF m 55 #[.val (.int m0), .val (.double s0), .second] [(.int (m0 &&& (16 : Int32)))])) _
    refine XS.ifYes X.here hx rfl (pc0 := 55) (pc' := 64) rfl (hb hby d1_55) rfl ((Jvm.Own.holdsI _ _).trans (Jvm.Own.dT (by rw [q1]; decide))) (by decide) (by decide) ?_
    exact kt
  · show Steps p.tables e below (T.setTop (mkF m 51 #[.val (.int m0), .val (.double s0), .second] [])) _
    refine XS.iloadN X.here hx rfl (hb hby d1_51) rfl ?_
    show Steps p.tables e below (T.setTop (mkF m 52 #[.val (.int m0), .val (.double s0), .second] [(.int m0)])) _
    refine XS.bipush X.here hx rfl (hb hby d1_52) ?_
    show Steps p.tables e below (T.setTop (mkF m 54 #[.val (.int m0), .val (.double s0), .second] [(.int (16 : Int32)), (.int m0)])) _
    refine XS.iand X.here hx rfl (hb hby d1_54) rfl ?_
    show Steps p.tables e below (T.setTop (mkF m 55 #[.val (.int m0), .val (.double s0), .second] [(.int (m0 &&& (16 : Int32)))])) _
    refine XS.ifNo X.here hx rfl (hb hby d1_55) rfl ((Jvm.Own.holdsI _ _).trans (Jvm.Own.dF (fun q => q1 (Int32.toInt_inj.mp q)))) ?_
    show Steps p.tables e below (T.setTop (mkF m 58 #[.val (.int m0), .val (.double s0), .second] [])) _
    refine XS.dloadN X.here hx rfl (hb hby d1_58) rfl ?_
    show Steps p.tables e below (T.setTop (mkF m 59 #[.val (.int m0), .val (.double s0), .second] [(.double s0)])) _
    refine X.ldc2DoubleC hx hown (mvT hZ (hw _ (List.mem_of_getElem? (i := 13) rfl))) (g := (mkF m 59 #[.val (.int m0), .val (.double s0), .second] [(.double s0)])) rfl (hb hby d1_59) _ ?_
    show Steps p.tables e below (T.setTop (mkF m 62 #[.val (.int m0), .val (.double s0), .second] [(.double (4679240012837945344 : UInt64)), (.double s0)])) _
    refine XS.dmulS X.here hx rfl (hb hby d1_62) rfl q2 (v := s1) q3 ?_
    show Steps p.tables e below (T.setTop (mkF m 63 #[.val (.int m0), .val (.double s0), .second] [(.double s1)])) _
    refine XS.dstoreN X.here hx rfl (hb hby d1_63) rfl (l' := #[.val (.int m0), .val (.double s1), .second]) rfl ?_
    exact kt
set_option maxRecDepth 65536 in
set_option maxHeartbeats 40000000 in
theorem sc_5 {p : Program} {l : Launch} {e : Env} {R : Room} {s : State} {m : MethodId} {args : Array Value} {below : List Frame} {meth : Method} {c : Code} {T : State} {locs : List Loc} {cells slots : Nat} {Z : State} {a0 : Array Value} (m0 : Int32) (s0 s1 : UInt64)
    (X : Stand p l e R s m args below meth c T locs cells slots) (hx : p.tables.exec = Jvm.exec) (hZ : Z.Warmed39 s.vm) (hw : ∀ d ∈ tables_1, d.before a0 Z = true) (hby : c.code = method_2_code) (hown : s.vm.findClass "com/example/gaithersburg/gaithersburg/graph/DoubleDoubleRoundingOfPinLaw" = some m.cls) (hs : own_st m0 (32 : Int32) (4751297606875873280 : UInt64) s0 s1) :
    ∀ target, Steps p.tables e below (T.setTop (mkF m 77 #[.val (.int m0), .val (.double s1), .second] [])) target → Steps p.tables e below (T.setTop (mkF m 64 #[.val (.int m0), .val (.double s0), .second] [])) target := by
  intro target kt
  rcases hs with ⟨q1, rfl⟩ | ⟨q1, q2, q3⟩
  · show Steps p.tables e below (T.setTop (mkF m 64 #[.val (.int m0), .val (.double s0), .second] [])) _
    refine XS.iloadN X.here hx rfl (hb hby d1_64) rfl ?_
    show Steps p.tables e below (T.setTop (mkF m 65 #[.val (.int m0), .val (.double s0), .second] [(.int m0)])) _
    refine XS.bipush X.here hx rfl (hb hby d1_65) ?_
    show Steps p.tables e below (T.setTop (mkF m 67 #[.val (.int m0), .val (.double s0), .second] [(.int (32 : Int32)), (.int m0)])) _
    refine XS.iand X.here hx rfl (hb hby d1_67) rfl ?_
    show Steps p.tables e below (T.setTop (mkF m 68 #[.val (.int m0), .val (.double s0), .second] [(.int (m0 &&& (32 : Int32)))])) _
    refine XS.ifYes X.here hx rfl (pc0 := 68) (pc' := 77) rfl (hb hby d1_68) rfl ((Jvm.Own.holdsI _ _).trans (Jvm.Own.dT (by rw [q1]; decide))) (by decide) (by decide) ?_
    exact kt
  · show Steps p.tables e below (T.setTop (mkF m 64 #[.val (.int m0), .val (.double s0), .second] [])) _
    refine XS.iloadN X.here hx rfl (hb hby d1_64) rfl ?_
    show Steps p.tables e below (T.setTop (mkF m 65 #[.val (.int m0), .val (.double s0), .second] [(.int m0)])) _
    refine XS.bipush X.here hx rfl (hb hby d1_65) ?_
    show Steps p.tables e below (T.setTop (mkF m 67 #[.val (.int m0), .val (.double s0), .second] [(.int (32 : Int32)), (.int m0)])) _
    refine XS.iand X.here hx rfl (hb hby d1_67) rfl ?_
    show Steps p.tables e below (T.setTop (mkF m 68 #[.val (.int m0), .val (.double s0), .second] [(.int (m0 &&& (32 : Int32)))])) _
    refine XS.ifNo X.here hx rfl (hb hby d1_68) rfl ((Jvm.Own.holdsI _ _).trans (Jvm.Own.dF (fun q => q1 (Int32.toInt_inj.mp q)))) ?_
    show Steps p.tables e below (T.setTop (mkF m 71 #[.val (.int m0), .val (.double s0), .second] [])) _
    refine XS.dloadN X.here hx rfl (hb hby d1_71) rfl ?_
    show Steps p.tables e below (T.setTop (mkF m 72 #[.val (.int m0), .val (.double s0), .second] [(.double s0)])) _
    refine X.ldc2DoubleC hx hown (mvT hZ (hw _ (List.mem_of_getElem? (i := 14) rfl))) (g := (mkF m 72 #[.val (.int m0), .val (.double s0), .second] [(.double s0)])) rfl (hb hby d1_72) _ ?_
    show Steps p.tables e below (T.setTop (mkF m 75 #[.val (.int m0), .val (.double s0), .second] [(.double (4751297606875873280 : UInt64)), (.double s0)])) _
    refine XS.dmulS X.here hx rfl (hb hby d1_75) rfl q2 (v := s1) q3 ?_
    show Steps p.tables e below (T.setTop (mkF m 76 #[.val (.int m0), .val (.double s0), .second] [(.double s1)])) _
    refine XS.dstoreN X.here hx rfl (hb hby d1_76) rfl (l' := #[.val (.int m0), .val (.double s1), .second]) rfl ?_
    exact kt
set_option maxRecDepth 65536 in
set_option maxHeartbeats 40000000 in
theorem sc_6 {p : Program} {l : Launch} {e : Env} {R : Room} {s : State} {m : MethodId} {args : Array Value} {below : List Frame} {meth : Method} {c : Code} {T : State} {locs : List Loc} {cells slots : Nat} {Z : State} {a0 : Array Value} (m0 : Int32) (s0 s1 : UInt64)
    (X : Stand p l e R s m args below meth c T locs cells slots) (hx : p.tables.exec = Jvm.exec) (hZ : Z.Warmed39 s.vm) (hw : ∀ d ∈ tables_1, d.before a0 Z = true) (hby : c.code = method_2_code) (hown : s.vm.findClass "com/example/gaithersburg/gaithersburg/graph/DoubleDoubleRoundingOfPinLaw" = some m.cls) (hs : own_st m0 (64 : Int32) (4895412794951729152 : UInt64) s0 s1) :
    ∀ target, Steps p.tables e below (T.setTop (mkF m 90 #[.val (.int m0), .val (.double s1), .second] [])) target → Steps p.tables e below (T.setTop (mkF m 77 #[.val (.int m0), .val (.double s0), .second] [])) target := by
  intro target kt
  rcases hs with ⟨q1, rfl⟩ | ⟨q1, q2, q3⟩
  · show Steps p.tables e below (T.setTop (mkF m 77 #[.val (.int m0), .val (.double s0), .second] [])) _
    refine XS.iloadN X.here hx rfl (hb hby d1_77) rfl ?_
    show Steps p.tables e below (T.setTop (mkF m 78 #[.val (.int m0), .val (.double s0), .second] [(.int m0)])) _
    refine XS.bipush X.here hx rfl (hb hby d1_78) ?_
    show Steps p.tables e below (T.setTop (mkF m 80 #[.val (.int m0), .val (.double s0), .second] [(.int (64 : Int32)), (.int m0)])) _
    refine XS.iand X.here hx rfl (hb hby d1_80) rfl ?_
    show Steps p.tables e below (T.setTop (mkF m 81 #[.val (.int m0), .val (.double s0), .second] [(.int (m0 &&& (64 : Int32)))])) _
    refine XS.ifYes X.here hx rfl (pc0 := 81) (pc' := 90) rfl (hb hby d1_81) rfl ((Jvm.Own.holdsI _ _).trans (Jvm.Own.dT (by rw [q1]; decide))) (by decide) (by decide) ?_
    exact kt
  · show Steps p.tables e below (T.setTop (mkF m 77 #[.val (.int m0), .val (.double s0), .second] [])) _
    refine XS.iloadN X.here hx rfl (hb hby d1_77) rfl ?_
    show Steps p.tables e below (T.setTop (mkF m 78 #[.val (.int m0), .val (.double s0), .second] [(.int m0)])) _
    refine XS.bipush X.here hx rfl (hb hby d1_78) ?_
    show Steps p.tables e below (T.setTop (mkF m 80 #[.val (.int m0), .val (.double s0), .second] [(.int (64 : Int32)), (.int m0)])) _
    refine XS.iand X.here hx rfl (hb hby d1_80) rfl ?_
    show Steps p.tables e below (T.setTop (mkF m 81 #[.val (.int m0), .val (.double s0), .second] [(.int (m0 &&& (64 : Int32)))])) _
    refine XS.ifNo X.here hx rfl (hb hby d1_81) rfl ((Jvm.Own.holdsI _ _).trans (Jvm.Own.dF (fun q => q1 (Int32.toInt_inj.mp q)))) ?_
    show Steps p.tables e below (T.setTop (mkF m 84 #[.val (.int m0), .val (.double s0), .second] [])) _
    refine XS.dloadN X.here hx rfl (hb hby d1_84) rfl ?_
    show Steps p.tables e below (T.setTop (mkF m 85 #[.val (.int m0), .val (.double s0), .second] [(.double s0)])) _
    refine X.ldc2DoubleC hx hown (mvT hZ (hw _ (List.mem_of_getElem? (i := 15) rfl))) (g := (mkF m 85 #[.val (.int m0), .val (.double s0), .second] [(.double s0)])) rfl (hb hby d1_85) _ ?_
    show Steps p.tables e below (T.setTop (mkF m 88 #[.val (.int m0), .val (.double s0), .second] [(.double (4895412794951729152 : UInt64)), (.double s0)])) _
    refine XS.dmulS X.here hx rfl (hb hby d1_88) rfl q2 (v := s1) q3 ?_
    show Steps p.tables e below (T.setTop (mkF m 89 #[.val (.int m0), .val (.double s0), .second] [(.double s1)])) _
    refine XS.dstoreN X.here hx rfl (hb hby d1_89) rfl (l' := #[.val (.int m0), .val (.double s1), .second]) rfl ?_
    exact kt
set_option maxRecDepth 65536 in
set_option maxHeartbeats 40000000 in
theorem sc_7 {p : Program} {l : Launch} {e : Env} {R : Room} {s : State} {m : MethodId} {args : Array Value} {below : List Frame} {meth : Method} {c : Code} {T : State} {locs : List Loc} {cells slots : Nat} {Z : State} {a0 : Array Value} (m0 : Int32) (s0 s1 : UInt64)
    (X : Stand p l e R s m args below meth c T locs cells slots) (hx : p.tables.exec = Jvm.exec) (hZ : Z.Warmed39 s.vm) (hw : ∀ d ∈ tables_1, d.before a0 Z = true) (hby : c.code = method_2_code) (hown : s.vm.findClass "com/example/gaithersburg/gaithersburg/graph/DoubleDoubleRoundingOfPinLaw" = some m.cls) (hs : own_st m0 (128 : Int32) (5183643171103440896 : UInt64) s0 s1) :
    ∀ target, Steps p.tables e below (T.setTop (mkF m 104 #[.val (.int m0), .val (.double s1), .second] [])) target → Steps p.tables e below (T.setTop (mkF m 90 #[.val (.int m0), .val (.double s0), .second] [])) target := by
  intro target kt
  rcases hs with ⟨q1, rfl⟩ | ⟨q1, q2, q3⟩
  · show Steps p.tables e below (T.setTop (mkF m 90 #[.val (.int m0), .val (.double s0), .second] [])) _
    refine XS.iloadN X.here hx rfl (hb hby d1_90) rfl ?_
    show Steps p.tables e below (T.setTop (mkF m 91 #[.val (.int m0), .val (.double s0), .second] [(.int m0)])) _
    refine XS.sipush X.here hx rfl (hb hby d1_91) ?_
    show Steps p.tables e below (T.setTop (mkF m 94 #[.val (.int m0), .val (.double s0), .second] [(.int (128 : Int32)), (.int m0)])) _
    refine XS.iand X.here hx rfl (hb hby d1_94) rfl ?_
    show Steps p.tables e below (T.setTop (mkF m 95 #[.val (.int m0), .val (.double s0), .second] [(.int (m0 &&& (128 : Int32)))])) _
    refine XS.ifYes X.here hx rfl (pc0 := 95) (pc' := 104) rfl (hb hby d1_95) rfl ((Jvm.Own.holdsI _ _).trans (Jvm.Own.dT (by rw [q1]; decide))) (by decide) (by decide) ?_
    exact kt
  · show Steps p.tables e below (T.setTop (mkF m 90 #[.val (.int m0), .val (.double s0), .second] [])) _
    refine XS.iloadN X.here hx rfl (hb hby d1_90) rfl ?_
    show Steps p.tables e below (T.setTop (mkF m 91 #[.val (.int m0), .val (.double s0), .second] [(.int m0)])) _
    refine XS.sipush X.here hx rfl (hb hby d1_91) ?_
    show Steps p.tables e below (T.setTop (mkF m 94 #[.val (.int m0), .val (.double s0), .second] [(.int (128 : Int32)), (.int m0)])) _
    refine XS.iand X.here hx rfl (hb hby d1_94) rfl ?_
    show Steps p.tables e below (T.setTop (mkF m 95 #[.val (.int m0), .val (.double s0), .second] [(.int (m0 &&& (128 : Int32)))])) _
    refine XS.ifNo X.here hx rfl (hb hby d1_95) rfl ((Jvm.Own.holdsI _ _).trans (Jvm.Own.dF (fun q => q1 (Int32.toInt_inj.mp q)))) ?_
    show Steps p.tables e below (T.setTop (mkF m 98 #[.val (.int m0), .val (.double s0), .second] [])) _
    refine XS.dloadN X.here hx rfl (hb hby d1_98) rfl ?_
    show Steps p.tables e below (T.setTop (mkF m 99 #[.val (.int m0), .val (.double s0), .second] [(.double s0)])) _
    refine X.ldc2DoubleC hx hown (mvT hZ (hw _ (List.mem_of_getElem? (i := 16) rfl))) (g := (mkF m 99 #[.val (.int m0), .val (.double s0), .second] [(.double s0)])) rfl (hb hby d1_99) _ ?_
    show Steps p.tables e below (T.setTop (mkF m 102 #[.val (.int m0), .val (.double s0), .second] [(.double (5183643171103440896 : UInt64)), (.double s0)])) _
    refine XS.dmulS X.here hx rfl (hb hby d1_102) rfl q2 (v := s1) q3 ?_
    show Steps p.tables e below (T.setTop (mkF m 103 #[.val (.int m0), .val (.double s0), .second] [(.double s1)])) _
    refine XS.dstoreN X.here hx rfl (hb hby d1_103) rfl (l' := #[.val (.int m0), .val (.double s1), .second]) rfl ?_
    exact kt
set_option maxRecDepth 65536 in
set_option maxHeartbeats 40000000 in
theorem sc_8 {p : Program} {l : Launch} {e : Env} {R : Room} {s : State} {m : MethodId} {args : Array Value} {below : List Frame} {meth : Method} {c : Code} {T : State} {locs : List Loc} {cells slots : Nat} {Z : State} {a0 : Array Value} (m0 : Int32) (s0 s1 : UInt64)
    (X : Stand p l e R s m args below meth c T locs cells slots) (hx : p.tables.exec = Jvm.exec) (hZ : Z.Warmed39 s.vm) (hw : ∀ d ∈ tables_1, d.before a0 Z = true) (hby : c.code = method_2_code) (hown : s.vm.findClass "com/example/gaithersburg/gaithersburg/graph/DoubleDoubleRoundingOfPinLaw" = some m.cls) (hs : own_st m0 (256 : Int32) (5760103923406864384 : UInt64) s0 s1) :
    ∀ target, Steps p.tables e below (T.setTop (mkF m 118 #[.val (.int m0), .val (.double s1), .second] [])) target → Steps p.tables e below (T.setTop (mkF m 104 #[.val (.int m0), .val (.double s0), .second] [])) target := by
  intro target kt
  rcases hs with ⟨q1, rfl⟩ | ⟨q1, q2, q3⟩
  · show Steps p.tables e below (T.setTop (mkF m 104 #[.val (.int m0), .val (.double s0), .second] [])) _
    refine XS.iloadN X.here hx rfl (hb hby d1_104) rfl ?_
    show Steps p.tables e below (T.setTop (mkF m 105 #[.val (.int m0), .val (.double s0), .second] [(.int m0)])) _
    refine XS.sipush X.here hx rfl (hb hby d1_105) ?_
    show Steps p.tables e below (T.setTop (mkF m 108 #[.val (.int m0), .val (.double s0), .second] [(.int (256 : Int32)), (.int m0)])) _
    refine XS.iand X.here hx rfl (hb hby d1_108) rfl ?_
    show Steps p.tables e below (T.setTop (mkF m 109 #[.val (.int m0), .val (.double s0), .second] [(.int (m0 &&& (256 : Int32)))])) _
    refine XS.ifYes X.here hx rfl (pc0 := 109) (pc' := 118) rfl (hb hby d1_109) rfl ((Jvm.Own.holdsI _ _).trans (Jvm.Own.dT (by rw [q1]; decide))) (by decide) (by decide) ?_
    exact kt
  · show Steps p.tables e below (T.setTop (mkF m 104 #[.val (.int m0), .val (.double s0), .second] [])) _
    refine XS.iloadN X.here hx rfl (hb hby d1_104) rfl ?_
    show Steps p.tables e below (T.setTop (mkF m 105 #[.val (.int m0), .val (.double s0), .second] [(.int m0)])) _
    refine XS.sipush X.here hx rfl (hb hby d1_105) ?_
    show Steps p.tables e below (T.setTop (mkF m 108 #[.val (.int m0), .val (.double s0), .second] [(.int (256 : Int32)), (.int m0)])) _
    refine XS.iand X.here hx rfl (hb hby d1_108) rfl ?_
    show Steps p.tables e below (T.setTop (mkF m 109 #[.val (.int m0), .val (.double s0), .second] [(.int (m0 &&& (256 : Int32)))])) _
    refine XS.ifNo X.here hx rfl (hb hby d1_109) rfl ((Jvm.Own.holdsI _ _).trans (Jvm.Own.dF (fun q => q1 (Int32.toInt_inj.mp q)))) ?_
    show Steps p.tables e below (T.setTop (mkF m 112 #[.val (.int m0), .val (.double s0), .second] [])) _
    refine XS.dloadN X.here hx rfl (hb hby d1_112) rfl ?_
    show Steps p.tables e below (T.setTop (mkF m 113 #[.val (.int m0), .val (.double s0), .second] [(.double s0)])) _
    refine X.ldc2DoubleC hx hown (mvT hZ (hw _ (List.mem_of_getElem? (i := 17) rfl))) (g := (mkF m 113 #[.val (.int m0), .val (.double s0), .second] [(.double s0)])) rfl (hb hby d1_113) _ ?_
    show Steps p.tables e below (T.setTop (mkF m 116 #[.val (.int m0), .val (.double s0), .second] [(.double (5760103923406864384 : UInt64)), (.double s0)])) _
    refine XS.dmulS X.here hx rfl (hb hby d1_116) rfl q2 (v := s1) q3 ?_
    show Steps p.tables e below (T.setTop (mkF m 117 #[.val (.int m0), .val (.double s0), .second] [(.double s1)])) _
    refine XS.dstoreN X.here hx rfl (hb hby d1_117) rfl (l' := #[.val (.int m0), .val (.double s1), .second]) rfl ?_
    exact kt
set_option maxRecDepth 65536 in
set_option maxHeartbeats 40000000 in
theorem sc_9 {p : Program} {l : Launch} {e : Env} {R : Room} {s : State} {m : MethodId} {args : Array Value} {below : List Frame} {meth : Method} {c : Code} {T : State} {locs : List Loc} {cells slots : Nat} {Z : State} {a0 : Array Value} (m0 : Int32) (s0 s1 : UInt64)
    (X : Stand p l e R s m args below meth c T locs cells slots) (hx : p.tables.exec = Jvm.exec) (hZ : Z.Warmed39 s.vm) (hw : ∀ d ∈ tables_1, d.before a0 Z = true) (hby : c.code = method_2_code) (hown : s.vm.findClass "com/example/gaithersburg/gaithersburg/graph/DoubleDoubleRoundingOfPinLaw" = some m.cls) (hs : own_st m0 (512 : Int32) (6913025428013711360 : UInt64) s0 s1) :
    ∀ target, Steps p.tables e below (T.setTop (mkF m 132 #[.val (.int m0), .val (.double s1), .second] [])) target → Steps p.tables e below (T.setTop (mkF m 118 #[.val (.int m0), .val (.double s0), .second] [])) target := by
  intro target kt
  rcases hs with ⟨q1, rfl⟩ | ⟨q1, q2, q3⟩
  · show Steps p.tables e below (T.setTop (mkF m 118 #[.val (.int m0), .val (.double s0), .second] [])) _
    refine XS.iloadN X.here hx rfl (hb hby d1_118) rfl ?_
    show Steps p.tables e below (T.setTop (mkF m 119 #[.val (.int m0), .val (.double s0), .second] [(.int m0)])) _
    refine XS.sipush X.here hx rfl (hb hby d1_119) ?_
    show Steps p.tables e below (T.setTop (mkF m 122 #[.val (.int m0), .val (.double s0), .second] [(.int (512 : Int32)), (.int m0)])) _
    refine XS.iand X.here hx rfl (hb hby d1_122) rfl ?_
    show Steps p.tables e below (T.setTop (mkF m 123 #[.val (.int m0), .val (.double s0), .second] [(.int (m0 &&& (512 : Int32)))])) _
    refine XS.ifYes X.here hx rfl (pc0 := 123) (pc' := 132) rfl (hb hby d1_123) rfl ((Jvm.Own.holdsI _ _).trans (Jvm.Own.dT (by rw [q1]; decide))) (by decide) (by decide) ?_
    exact kt
  · show Steps p.tables e below (T.setTop (mkF m 118 #[.val (.int m0), .val (.double s0), .second] [])) _
    refine XS.iloadN X.here hx rfl (hb hby d1_118) rfl ?_
    show Steps p.tables e below (T.setTop (mkF m 119 #[.val (.int m0), .val (.double s0), .second] [(.int m0)])) _
    refine XS.sipush X.here hx rfl (hb hby d1_119) ?_
    show Steps p.tables e below (T.setTop (mkF m 122 #[.val (.int m0), .val (.double s0), .second] [(.int (512 : Int32)), (.int m0)])) _
    refine XS.iand X.here hx rfl (hb hby d1_122) rfl ?_
    show Steps p.tables e below (T.setTop (mkF m 123 #[.val (.int m0), .val (.double s0), .second] [(.int (m0 &&& (512 : Int32)))])) _
    refine XS.ifNo X.here hx rfl (hb hby d1_123) rfl ((Jvm.Own.holdsI _ _).trans (Jvm.Own.dF (fun q => q1 (Int32.toInt_inj.mp q)))) ?_
    show Steps p.tables e below (T.setTop (mkF m 126 #[.val (.int m0), .val (.double s0), .second] [])) _
    refine XS.dloadN X.here hx rfl (hb hby d1_126) rfl ?_
    show Steps p.tables e below (T.setTop (mkF m 127 #[.val (.int m0), .val (.double s0), .second] [(.double s0)])) _
    refine X.ldc2DoubleC hx hown (mvT hZ (hw _ (List.mem_of_getElem? (i := 18) rfl))) (g := (mkF m 127 #[.val (.int m0), .val (.double s0), .second] [(.double s0)])) rfl (hb hby d1_127) _ ?_
    show Steps p.tables e below (T.setTop (mkF m 130 #[.val (.int m0), .val (.double s0), .second] [(.double (6913025428013711360 : UInt64)), (.double s0)])) _
    refine XS.dmulS X.here hx rfl (hb hby d1_130) rfl q2 (v := s1) q3 ?_
    show Steps p.tables e below (T.setTop (mkF m 131 #[.val (.int m0), .val (.double s0), .second] [(.double s1)])) _
    refine XS.dstoreN X.here hx rfl (hb hby d1_131) rfl (l' := #[.val (.int m0), .val (.double s1), .second]) rfl ?_
    exact kt
theorem ef_rmSc (m : MethodId) (m0 : Int32) : entryFrame m #[(.int m0)] 3 = mkF m 0 #[.val (.int m0), .unset, .unset] [] := by first | (simp [entryFrame, mkF, argsToLocals, Value.category]; done) | rfl
set_option maxRecDepth 65536 in
set_option maxHeartbeats 40000000 in
theorem rmSc (l : Launch) (Z : State) (a0 : Array Value) (hw : ∀ d ∈ tables_1, d.before a0 Z = true) (ws : List Jvm.Cond) (m0 : Int32) (h0 : Heap) (n0 : Nat) (Z0 : n0 ≤ h0.size) (s1 s2 s3 s4 s5 s6 s7 s8 s9 s10 r : UInt64) (q0 : own_st m0 (1 : Int32) (4611686018427387904 : UInt64) (4607182418800017408 : UInt64) s1) (q1 : own_st m0 (2 : Int32) (4616189618054758400 : UInt64) s1 s2) (q2 : own_st m0 (4 : Int32) (4625196817309499392 : UInt64) s2 s3) (q3 : own_st m0 (8 : Int32) (4643211215818981376 : UInt64) s3 s4) (q4 : own_st m0 (16 : Int32) (4679240012837945344 : UInt64) s4 s5) (q5 : own_st m0 (32 : Int32) (4751297606875873280 : UInt64) s5 s6) (q6 : own_st m0 (64 : Int32) (4895412794951729152 : UInt64) s6 s7) (q7 : own_st m0 (128 : Int32) (5183643171103440896 : UInt64) s7 s8) (q8 : own_st m0 (256 : Int32) (5760103923406864384 : UInt64) s8 s9) (q9 : own_st m0 (512 : Int32) (6913025428013711360 : UInt64) s9 s10) (hn : Jvm.Free.Fl.NoNaN64 (FP.dmul s10 (2301339409586323456 : UInt64))) (hrs : FP.dmul s10 (2301339409586323456 : UInt64) = r) :
    MetFree l (⟨"com/example/gaithersburg/gaithersburg/graph/DoubleDoubleRoundingOfPinLaw", "scaleOf", "(I)D"⟩ : MethodName) (head1 (Jvm.Cond.code (⟨"com/example/gaithersburg/gaithersburg/graph/DoubleDoubleRoundingOfPinLaw", "scaleOf", "(I)D"⟩ : MethodName) method_2_code 3 (some .double) :: ws) ({ frames := 0, cells := 0, slots := 0, locals := 0 } : Room)) (fun a_ U_ => a_ = #[(.int m0)] ∧ Z.Warmed39 U_.vm ∧ U_.heap = h0) (fun _ _ _ _ _ => True) (fun _ U_ o_ V_ => ∃ v_ L_, o_ = .returned v_ ∧ QP (.double r) h0 n0 v_ V_.heap L_ ∧ FrameEnd U_ o_ V_ L_ ({ frames := 0, cells := 0, slots := 0, locals := 0 } : Room).cells ({ frames := 0, cells := 0, slots := 0, locals := 0 } : Room).slots) := by
  refine MetFree.of_bodySF (plainFor_of_name pn_0) hisR ?_
  intro p e s m args below meth c s₁ Bd hml0 hP hK
  obtain ⟨rfl, hZ, hh⟩ := hP
  have hx := Bd.exec
  have hby := Bd.bytes
  have hml : c.maxLocals = 3 := hml0
  have hown : s.vm.findClass "com/example/gaithersburg/gaithersburg/graph/DoubleDoubleRoundingOfPinLaw" = some m.cls := findClass_of_methodNamed Bd.named
  have hnm := (name_of_methodNamed Bd.named Bd.method).1
  have X0 : Stand p l e ({ frames := 0, cells := 0, slots := 0, locals := 0 } : Room) s m #[(.int m0)] below meth c s₁ [] 0 0 := Stand.of_body Bd
  have e0 : s₁.heap = h0 := by rw [← hh, Bd.state]; rfl
  have N0 := Fr.nil n0
  have pre0 : ∀ t, Steps p.tables e below (s₁.setTop (mkF m 0 #[.val (.int m0), .unset, .unset] [])) t → Steps p.tables e below (s₁.setTop (entryFrame m #[(.int m0)] 3)) t := fun t_ k_ => castTop (ef_rmSc m m0) k_
  obtain ⟨fs, hr, hrun, hended, hW, hsame⟩ := X0.leave (v := some (.double r)) (fun h => by rw [Bd.returns] at h; cases h)
  refine ⟨_, _, pre0 _ ?_, hrun, hended, _, _, rfl, ?_, ⟨_, rfl⟩, hW, hsame.mono (by decide) (by decide)⟩
  · show Steps p.tables e below (s₁.setTop (mkF m 0 #[.val (.int m0), .unset, .unset] [])) _
    refine XS.dconst1 X0.here hx rfl (hb hby d1_0) (v := (4607182418800017408 : UInt64)) rfl ?_
    show Steps p.tables e below (s₁.setTop (mkF m 1 #[.val (.int m0), .unset, .unset] [(.double (4607182418800017408 : UInt64))])) _
    refine XS.dstoreN X0.here hx rfl (hb hby d1_1) rfl (l' := #[.val (.int m0), .val (.double (4607182418800017408 : UInt64)), .second]) rfl ?_
    show Steps p.tables e below (s₁.setTop (mkF m 2 #[.val (.int m0), .val (.double (4607182418800017408 : UInt64)), .second] [])) _
    refine sc_0 m0 _ _ X0 hx hZ hw hby hown q0 _ ?_
    show Steps p.tables e below (s₁.setTop (mkF m 14 #[.val (.int m0), .val (.double s1), .second] [])) _
    refine sc_1 m0 _ _ X0 hx hZ hw hby hown q1 _ ?_
    show Steps p.tables e below (s₁.setTop (mkF m 26 #[.val (.int m0), .val (.double s2), .second] [])) _
    refine sc_2 m0 _ _ X0 hx hZ hw hby hown q2 _ ?_
    show Steps p.tables e below (s₁.setTop (mkF m 38 #[.val (.int m0), .val (.double s3), .second] [])) _
    refine sc_3 m0 _ _ X0 hx hZ hw hby hown q3 _ ?_
    show Steps p.tables e below (s₁.setTop (mkF m 51 #[.val (.int m0), .val (.double s4), .second] [])) _
    refine sc_4 m0 _ _ X0 hx hZ hw hby hown q4 _ ?_
    show Steps p.tables e below (s₁.setTop (mkF m 64 #[.val (.int m0), .val (.double s5), .second] [])) _
    refine sc_5 m0 _ _ X0 hx hZ hw hby hown q5 _ ?_
    show Steps p.tables e below (s₁.setTop (mkF m 77 #[.val (.int m0), .val (.double s6), .second] [])) _
    refine sc_6 m0 _ _ X0 hx hZ hw hby hown q6 _ ?_
    show Steps p.tables e below (s₁.setTop (mkF m 90 #[.val (.int m0), .val (.double s7), .second] [])) _
    refine sc_7 m0 _ _ X0 hx hZ hw hby hown q7 _ ?_
    show Steps p.tables e below (s₁.setTop (mkF m 104 #[.val (.int m0), .val (.double s8), .second] [])) _
    refine sc_8 m0 _ _ X0 hx hZ hw hby hown q8 _ ?_
    show Steps p.tables e below (s₁.setTop (mkF m 118 #[.val (.int m0), .val (.double s9), .second] [])) _
    refine sc_9 m0 _ _ X0 hx hZ hw hby hown q9 _ ?_
    show Steps p.tables e below (s₁.setTop (mkF m 132 #[.val (.int m0), .val (.double s10), .second] [])) _
    refine XS.dloadN X0.here hx rfl (hb hby d1_132) rfl ?_
    show Steps p.tables e below (s₁.setTop (mkF m 133 #[.val (.int m0), .val (.double s10), .second] [(.double s10)])) _
    refine X0.ldc2DoubleC hx hown (mvT hZ (hw _ (List.mem_of_getElem? (i := 5) rfl))) (g := (mkF m 133 #[.val (.int m0), .val (.double s10), .second] [(.double s10)])) rfl (hb hby d1_133) _ ?_
    show Steps p.tables e below (s₁.setTop (mkF m 136 #[.val (.int m0), .val (.double s10), .second] [(.double (2301339409586323456 : UInt64)), (.double s10)])) _
    refine XS.dmulS X0.here hx rfl (hb hby d1_136) rfl hn (v := r) hrs ?_
    show Steps p.tables e below (s₁.setTop (mkF m 137 #[.val (.int m0), .val (.double s10), .second] [(.double r)])) _
    exact Jvm.RoadKit.retD X0 hx Bd.returns (hb hby d1_137) hr
  · show QP (.double r) h0 n0 _ s₁.heap _
    rw [e0]
    exact ⟨rfl, N0, rfl⟩

theorem own_step (m0 mask : Int32) {c s : UInt64} {w k : Nat} (fc : Jvm.FP.Core.DFin c) (zc : Jvm.Own.z c = (Jvm.Own.PN (1074 + w) : Int)) (fs : Jvm.FP.Core.DFin s) (zs : Jvm.Own.z s = (Jvm.Own.PN (1074 + k) : Int)) (hk : k + w ≤ 1023) : ∃ (s' : UInt64) (k' : Nat), own_st m0 mask c s s' ∧ Jvm.FP.Core.DFin s' ∧ Jvm.Own.z s' = (Jvm.Own.PN (1074 + k') : Int) ∧ k' ≤ k + w := by
  by_cases h : (m0 &&& mask) = 0
  · exact ⟨s, k, Or.inl ⟨h, rfl⟩, fs, zs, by omega⟩
  · obtain ⟨V, fV, zV⟩ := Jvm.Own.rep' 4503599627370496 (1022 + k + w) (by decide) (by omega)
    have e : Jvm.Own.z V = (Jvm.Own.PN (1074 + (k + w)) : Int) := by
      rw [zV, show 1074 + (k + w) = 52 + (1022 + k + w) by omega, Jvm.Own.PN_addI 52 (1022 + k + w)]; rfl
    obtain ⟨f, hz⟩ := (Jvm.Own.rnd_dmul fs fc).exactV fV (by
      rw [zs, zc, e, ← Jvm.Own.PN_addI, ← Jvm.Own.PN_addI]; congr 2; omega)
    exact ⟨_, k + w, Or.inr ⟨h, Jvm.Own.nn f, rfl⟩, f, hz.trans e, Nat.le_refl _⟩
theorem zc_0 : Jvm.FP.Core.DFin (4611686018427387904 : UInt64) ∧ Jvm.Own.z (4611686018427387904 : UInt64) = (Jvm.Own.PN (1074 + 1) : Int) := ⟨(Jvm.FP.Core.fin_bits _).mpr (by decide), by decide +kernel⟩
theorem zc_1 : Jvm.FP.Core.DFin (4616189618054758400 : UInt64) ∧ Jvm.Own.z (4616189618054758400 : UInt64) = (Jvm.Own.PN (1074 + 2) : Int) := ⟨(Jvm.FP.Core.fin_bits _).mpr (by decide), by decide +kernel⟩
theorem zc_2 : Jvm.FP.Core.DFin (4625196817309499392 : UInt64) ∧ Jvm.Own.z (4625196817309499392 : UInt64) = (Jvm.Own.PN (1074 + 4) : Int) := ⟨(Jvm.FP.Core.fin_bits _).mpr (by decide), by decide +kernel⟩
theorem zc_3 : Jvm.FP.Core.DFin (4643211215818981376 : UInt64) ∧ Jvm.Own.z (4643211215818981376 : UInt64) = (Jvm.Own.PN (1074 + 8) : Int) := ⟨(Jvm.FP.Core.fin_bits _).mpr (by decide), by decide +kernel⟩
theorem zc_4 : Jvm.FP.Core.DFin (4679240012837945344 : UInt64) ∧ Jvm.Own.z (4679240012837945344 : UInt64) = (Jvm.Own.PN (1074 + 16) : Int) := ⟨(Jvm.FP.Core.fin_bits _).mpr (by decide), by decide +kernel⟩
theorem zc_5 : Jvm.FP.Core.DFin (4751297606875873280 : UInt64) ∧ Jvm.Own.z (4751297606875873280 : UInt64) = (Jvm.Own.PN (1074 + 32) : Int) := ⟨(Jvm.FP.Core.fin_bits _).mpr (by decide), by decide +kernel⟩
theorem zc_6 : Jvm.FP.Core.DFin (4895412794951729152 : UInt64) ∧ Jvm.Own.z (4895412794951729152 : UInt64) = (Jvm.Own.PN (1074 + 64) : Int) := ⟨(Jvm.FP.Core.fin_bits _).mpr (by decide), by decide +kernel⟩
theorem zc_7 : Jvm.FP.Core.DFin (5183643171103440896 : UInt64) ∧ Jvm.Own.z (5183643171103440896 : UInt64) = (Jvm.Own.PN (1074 + 128) : Int) := ⟨(Jvm.FP.Core.fin_bits _).mpr (by decide), by decide +kernel⟩
theorem zc_8 : Jvm.FP.Core.DFin (5760103923406864384 : UInt64) ∧ Jvm.Own.z (5760103923406864384 : UInt64) = (Jvm.Own.PN (1074 + 256) : Int) := ⟨(Jvm.FP.Core.fin_bits _).mpr (by decide), by decide +kernel⟩
theorem zc_9 : Jvm.FP.Core.DFin (6913025428013711360 : UInt64) ∧ Jvm.Own.z (6913025428013711360 : UInt64) = (Jvm.Own.PN (1074 + 512) : Int) := ⟨(Jvm.FP.Core.fin_bits _).mpr (by decide), by decide +kernel⟩
theorem zc_m : Jvm.FP.Core.DFin (2301339409586323456 : UInt64) ∧ Jvm.Own.z (2301339409586323456 : UInt64) = (Jvm.Own.PN 562 : Int) := ⟨(Jvm.FP.Core.fin_bits _).mpr (by decide), by decide +kernel⟩

theorem own_scale (m0 : Int32) : ∃ (s1 s2 s3 s4 s5 s6 s7 s8 s9 s10 : UInt64) (K : Nat), own_st m0 (1 : Int32) (4611686018427387904 : UInt64) (4607182418800017408 : UInt64) s1 ∧ own_st m0 (2 : Int32) (4616189618054758400 : UInt64) s1 s2 ∧ own_st m0 (4 : Int32) (4625196817309499392 : UInt64) s2 s3 ∧ own_st m0 (8 : Int32) (4643211215818981376 : UInt64) s3 s4 ∧ own_st m0 (16 : Int32) (4679240012837945344 : UInt64) s4 s5 ∧ own_st m0 (32 : Int32) (4751297606875873280 : UInt64) s5 s6 ∧ own_st m0 (64 : Int32) (4895412794951729152 : UInt64) s6 s7 ∧ own_st m0 (128 : Int32) (5183643171103440896 : UInt64) s7 s8 ∧ own_st m0 (256 : Int32) (5760103923406864384 : UInt64) s8 s9 ∧ own_st m0 (512 : Int32) (6913025428013711360 : UInt64) s9 s10 ∧ Jvm.FP.Core.DFin (FP.dmul s10 (2301339409586323456 : UInt64)) ∧ Jvm.Own.z (FP.dmul s10 (2301339409586323456 : UInt64)) = (Jvm.Own.PN (562 + K) : Int) ∧ K ≤ 1023 := by
  obtain ⟨s1, k1, q0, f1, z1, b1⟩ := own_step m0 (1 : Int32) zc_0.1 zc_0.2 Jvm.Own.fin_one (k := 0) (by rw [Jvm.Own.z_one]) (by omega)
  obtain ⟨s2, k2, q1, f2, z2, b2⟩ := own_step m0 (2 : Int32) zc_1.1 zc_1.2 f1 z1 (by omega)
  obtain ⟨s3, k3, q2, f3, z3, b3⟩ := own_step m0 (4 : Int32) zc_2.1 zc_2.2 f2 z2 (by omega)
  obtain ⟨s4, k4, q3, f4, z4, b4⟩ := own_step m0 (8 : Int32) zc_3.1 zc_3.2 f3 z3 (by omega)
  obtain ⟨s5, k5, q4, f5, z5, b5⟩ := own_step m0 (16 : Int32) zc_4.1 zc_4.2 f4 z4 (by omega)
  obtain ⟨s6, k6, q5, f6, z6, b6⟩ := own_step m0 (32 : Int32) zc_5.1 zc_5.2 f5 z5 (by omega)
  obtain ⟨s7, k7, q6, f7, z7, b7⟩ := own_step m0 (64 : Int32) zc_6.1 zc_6.2 f6 z6 (by omega)
  obtain ⟨s8, k8, q7, f8, z8, b8⟩ := own_step m0 (128 : Int32) zc_7.1 zc_7.2 f7 z7 (by omega)
  obtain ⟨s9, k9, q8, f9, z9, b9⟩ := own_step m0 (256 : Int32) zc_8.1 zc_8.2 f8 z8 (by omega)
  obtain ⟨s10, k10, q9, f10, z10, b10⟩ := own_step m0 (512 : Int32) zc_9.1 zc_9.2 f9 z9 (by omega)
  obtain ⟨f, hz⟩ := (Jvm.Own.rnd_dmul f10 zc_m.1).exact 1 (562 + k10) (by decide) (by omega) (by
    rw [z10, zc_m.2, Int.one_mul, ← Jvm.Own.PN_addI, ← Jvm.Own.PN_addI]; congr 2; omega)
  rw [Int.one_mul] at hz
  exact ⟨s1, s2, s3, s4, s5, s6, s7, s8, s9, s10, k10, q0, q1, q2, q3, q4, q5, q6, q7, q8, q9, f, hz, by omega⟩
def own_ro (sum term total : UInt64) : UInt64 := FP.dadd (FP.dsub sum (FP.dsub total (FP.dsub total sum))) (FP.dsub term (FP.dsub total sum))

theorem ef_rmRo (m : MethodId) (sm : UInt64) (te : UInt64) (tt : UInt64) : entryFrame m #[(.double sm), (.double te), (.double tt)] 8 = mkF m 0 #[.val (.double sm), .second, .val (.double te), .second, .val (.double tt), .second, .unset, .unset] [] := by first | (simp [entryFrame, mkF, argsToLocals, Value.category]; done) | rfl
set_option maxRecDepth 65536 in
set_option maxHeartbeats 40000000 in
theorem rmRo (l : Launch) (Z : State) (a0 : Array Value) (hw : ∀ d ∈ tables_1, d.before a0 Z = true) (ws : List Jvm.Cond) (sm : UInt64) (te : UInt64) (tt : UInt64) (h0 : Heap) (n0 : Nat) (Z0 : n0 ≤ h0.size) (n1 : Jvm.Free.Fl.NoNaN64 (FP.dsub tt sm)) (n2 : Jvm.Free.Fl.NoNaN64 (FP.dsub tt (FP.dsub tt sm))) (n3 : Jvm.Free.Fl.NoNaN64 (FP.dsub sm (FP.dsub tt (FP.dsub tt sm)))) (n4 : Jvm.Free.Fl.NoNaN64 (FP.dsub te (FP.dsub tt sm))) (n5 : Jvm.Free.Fl.NoNaN64 (own_ro sm te tt)) :
    MetFree l (⟨"com/example/gaithersburg/gaithersburg/graph/DoubleDouble", "roundingOf", "(DDD)D"⟩ : MethodName) (head1 (Jvm.Cond.code (⟨"com/example/gaithersburg/gaithersburg/graph/DoubleDouble", "roundingOf", "(DDD)D"⟩ : MethodName) prog_34_method_2_code 8 (some .double) :: ws) ({ frames := 0, cells := 0, slots := 0, locals := 0 } : Room)) (fun a_ U_ => a_ = #[(.double sm), (.double te), (.double tt)] ∧ Z.Warmed39 U_.vm ∧ U_.heap = h0) (fun _ _ _ _ _ => True) (fun _ U_ o_ V_ => ∃ v_ L_, o_ = .returned v_ ∧ QP (.double (own_ro sm te tt)) h0 n0 v_ V_.heap L_ ∧ FrameEnd U_ o_ V_ L_ ({ frames := 0, cells := 0, slots := 0, locals := 0 } : Room).cells ({ frames := 0, cells := 0, slots := 0, locals := 0 } : Room).slots) := by
  refine MetFree.of_bodySF (plainFor_of_name pn_1) hisR ?_
  intro p e s m args below meth c s₁ Bd hml0 hP hK
  obtain ⟨rfl, hZ, hh⟩ := hP
  have hx := Bd.exec
  have hby := Bd.bytes
  have hml : c.maxLocals = 8 := hml0
  have hown : s.vm.findClass "com/example/gaithersburg/gaithersburg/graph/DoubleDouble" = some m.cls := findClass_of_methodNamed Bd.named
  have hnm := (name_of_methodNamed Bd.named Bd.method).1
  have X0 : Stand p l e ({ frames := 0, cells := 0, slots := 0, locals := 0 } : Room) s m #[(.double sm), (.double te), (.double tt)] below meth c s₁ [] 0 0 := Stand.of_body Bd
  have e0 : s₁.heap = h0 := by rw [← hh, Bd.state]; rfl
  have N0 := Fr.nil n0
  have pre0 : ∀ t, Steps p.tables e below (s₁.setTop (mkF m 0 #[.val (.double sm), .second, .val (.double te), .second, .val (.double tt), .second, .unset, .unset] [])) t → Steps p.tables e below (s₁.setTop (entryFrame m #[(.double sm), (.double te), (.double tt)] 8)) t := fun t_ k_ => castTop (ef_rmRo m sm te tt) k_
  obtain ⟨fs, hr, hrun, hended, hW, hsame⟩ := X0.leave (v := some (.double (own_ro sm te tt))) (fun h => by rw [Bd.returns] at h; cases h)
  refine ⟨_, _, pre0 _ ?_, hrun, hended, _, _, rfl, ?_, ⟨_, rfl⟩, hW, hsame.mono (by decide) (by decide)⟩
  · show Steps p.tables e below (s₁.setTop (mkF m 0 #[.val (.double sm), .second, .val (.double te), .second, .val (.double tt), .second, .unset, .unset] [])) _
    refine XS.dload X0.here hx rfl (hb hby d2_0) rfl ?_
    show Steps p.tables e below (s₁.setTop (mkF m 2 #[.val (.double sm), .second, .val (.double te), .second, .val (.double tt), .second, .unset, .unset] [(.double tt)])) _
    refine XS.dloadN X0.here hx rfl (hb hby d2_2) rfl ?_
    show Steps p.tables e below (s₁.setTop (mkF m 3 #[.val (.double sm), .second, .val (.double te), .second, .val (.double tt), .second, .unset, .unset] [(.double sm), (.double tt)])) _
    refine XS.dsubS X0.here hx rfl (hb hby d2_3) rfl n1 (v := FP.dsub tt sm) rfl ?_
    show Steps p.tables e below (s₁.setTop (mkF m 4 #[.val (.double sm), .second, .val (.double te), .second, .val (.double tt), .second, .unset, .unset] [(.double (FP.dsub tt sm))])) _
    refine XS.dstore X0.here hx rfl (hb hby d2_4) rfl (l' := #[.val (.double sm), .second, .val (.double te), .second, .val (.double tt), .second, .val (.double (FP.dsub tt sm)), .second]) rfl ?_
    show Steps p.tables e below (s₁.setTop (mkF m 6 #[.val (.double sm), .second, .val (.double te), .second, .val (.double tt), .second, .val (.double (FP.dsub tt sm)), .second] [])) _
    refine XS.dloadN X0.here hx rfl (hb hby d2_6) rfl ?_
    show Steps p.tables e below (s₁.setTop (mkF m 7 #[.val (.double sm), .second, .val (.double te), .second, .val (.double tt), .second, .val (.double (FP.dsub tt sm)), .second] [(.double sm)])) _
    refine XS.dload X0.here hx rfl (hb hby d2_7) rfl ?_
    show Steps p.tables e below (s₁.setTop (mkF m 9 #[.val (.double sm), .second, .val (.double te), .second, .val (.double tt), .second, .val (.double (FP.dsub tt sm)), .second] [(.double tt), (.double sm)])) _
    refine XS.dload X0.here hx rfl (hb hby d2_9) rfl ?_
    show Steps p.tables e below (s₁.setTop (mkF m 11 #[.val (.double sm), .second, .val (.double te), .second, .val (.double tt), .second, .val (.double (FP.dsub tt sm)), .second] [(.double (FP.dsub tt sm)), (.double tt), (.double sm)])) _
    refine XS.dsubS X0.here hx rfl (hb hby d2_11) rfl n2 (v := FP.dsub tt (FP.dsub tt sm)) rfl ?_
    show Steps p.tables e below (s₁.setTop (mkF m 12 #[.val (.double sm), .second, .val (.double te), .second, .val (.double tt), .second, .val (.double (FP.dsub tt sm)), .second] [(.double (FP.dsub tt (FP.dsub tt sm))), (.double sm)])) _
    refine XS.dsubS X0.here hx rfl (hb hby d2_12) rfl n3 (v := FP.dsub sm (FP.dsub tt (FP.dsub tt sm))) rfl ?_
    show Steps p.tables e below (s₁.setTop (mkF m 13 #[.val (.double sm), .second, .val (.double te), .second, .val (.double tt), .second, .val (.double (FP.dsub tt sm)), .second] [(.double (FP.dsub sm (FP.dsub tt (FP.dsub tt sm))))])) _
    refine XS.dloadN X0.here hx rfl (hb hby d2_13) rfl ?_
    show Steps p.tables e below (s₁.setTop (mkF m 14 #[.val (.double sm), .second, .val (.double te), .second, .val (.double tt), .second, .val (.double (FP.dsub tt sm)), .second] [(.double te), (.double (FP.dsub sm (FP.dsub tt (FP.dsub tt sm))))])) _
    refine XS.dload X0.here hx rfl (hb hby d2_14) rfl ?_
    show Steps p.tables e below (s₁.setTop (mkF m 16 #[.val (.double sm), .second, .val (.double te), .second, .val (.double tt), .second, .val (.double (FP.dsub tt sm)), .second] [(.double (FP.dsub tt sm)), (.double te), (.double (FP.dsub sm (FP.dsub tt (FP.dsub tt sm))))])) _
    refine XS.dsubS X0.here hx rfl (hb hby d2_16) rfl n4 (v := FP.dsub te (FP.dsub tt sm)) rfl ?_
    show Steps p.tables e below (s₁.setTop (mkF m 17 #[.val (.double sm), .second, .val (.double te), .second, .val (.double tt), .second, .val (.double (FP.dsub tt sm)), .second] [(.double (FP.dsub te (FP.dsub tt sm))), (.double (FP.dsub sm (FP.dsub tt (FP.dsub tt sm))))])) _
    refine XS.daddS X0.here hx rfl (hb hby d2_17) rfl n5 (v := (own_ro sm te tt)) rfl ?_
    show Steps p.tables e below (s₁.setTop (mkF m 18 #[.val (.double sm), .second, .val (.double te), .second, .val (.double tt), .second, .val (.double (FP.dsub tt sm)), .second] [(.double (own_ro sm te tt))])) _
    exact Jvm.RoadKit.retD X0 hx Bd.returns (hb hby d2_18) hr
  · show QP (.double (own_ro sm te tt)) h0 n0 _ s₁.heap _
    rw [e0]
    exact ⟨rfl, N0, rfl⟩

theorem own_e (x : Int32) : ∃ (sh : Int32) (E : Nat), x &&& (31 : Int32) = sh ∧ E ≤ 31 ∧ sh.toInt = (E : Int) := by
  have h1 := c_mask x 31 5 (by decide) (by decide)
  exact ⟨_, (x.toInt % 32).toNat, rfl, by omega, by rw [h1]; omega⟩
theorem own_hb (sh : Int32) (E : Nat) (hj : E ≤ 31) (h : sh.toInt = (E : Int)) : sh.toBitVec.toNat % 64 = E := by
  have e : sh.toInt = sh.toBitVec.toInt := rfl
  rw [e, BitVec.toInt_eq_toNat_cond] at h
  have := sh.toBitVec.isLt
  split at h <;> omega
theorem own_shl (v : Int64) (sh : Int32) (E : Nat) (hj : E ≤ 31) (h : sh.toInt = (E : Int)) (hv : v.toInt.natAbs ≤ 2147483648) : (v <<< (sh &&& 0x3f).toInt64).toInt = v.toInt * (Jvm.Own.PN E : Int) ∧ (v.toInt * (Jvm.Own.PN E : Int)).natAbs ≤ 4611686018427387904 := by
  have h1 := c_lshl v sh E (own_hb sh E hj h)
  have h2 := rng64 (v <<< (sh &&& 0x3f).toInt64)
  have h4 : (2 : Nat) ^ E ≤ 2 ^ 31 := Nat.pow_le_pow_right (by decide) hj
  have hb : (v.toInt * (Jvm.Own.PN E : Int)).natAbs ≤ 2147483648 * 2147483648 := by
    rw [Int.natAbs_mul, Int.natAbs_natCast]; exact Nat.mul_le_mul hv h4
  have h5 : v.toInt * (Jvm.Own.PN E : Int) = v.toInt * ((2 ^ E : Nat) : Int) := rfl
  rw [← h5] at h1
  generalize v.toInt * (Jvm.Own.PN E : Int) = W at *
  omega
/-- the law's own numbers, before the scale -/
theorem own_parts (a b sh : Int32) (E : Nat) (hE : E ≤ 31) (hsh : sh.toInt = (E : Int)) : ∃ (t : Int) (tl : Int64),
    (Jvm.FP.Core.DFin (FP.dmul (FP.i2d a) (FP.l2d ((1 : Int64) <<< (sh &&& 0x3f).toInt64))) ∧ Jvm.Own.z (FP.dmul (FP.i2d a) (FP.l2d ((1 : Int64) <<< (sh &&& 0x3f).toInt64))) = a.toInt * (Jvm.Own.PN E : Int) * (Jvm.Own.PN 1074 : Int)) ∧
    (Jvm.FP.Core.DFin (FP.i2d b) ∧ Jvm.Own.z (FP.i2d b) = b.toInt * (Jvm.Own.PN 1074 : Int)) ∧
    (Jvm.FP.Core.DFin (FP.dadd (FP.dmul (FP.i2d a) (FP.l2d ((1 : Int64) <<< (sh &&& 0x3f).toInt64))) (FP.i2d b)) ∧ Jvm.Own.z (FP.dadd (FP.dmul (FP.i2d a) (FP.l2d ((1 : Int64) <<< (sh &&& 0x3f).toInt64))) (FP.i2d b)) = t * (Jvm.Own.PN 1074 : Int)) ∧
    FP.d2l (FP.dadd (FP.dmul (FP.i2d a) (FP.l2d ((1 : Int64) <<< (sh &&& 0x3f).toInt64))) (FP.i2d b)) = tl ∧ tl.toInt = t ∧
    (t - (a.toInt * (Jvm.Own.PN E : Int) + b.toInt)).natAbs < 2048 ∧ Jvm.Own.RI (a.toInt * (Jvm.Own.PN E : Int) + b.toInt) t ∧
    (a.toInt64 <<< (sh &&& 0x3f).toInt64 + b.toInt64 - tl).toInt = a.toInt * (Jvm.Own.PN E : Int) + b.toInt - t ∧ (a.toInt * (Jvm.Own.PN E : Int)).natAbs ≤ 4611686018427387904 := by
  have a1 := Int32.toInt_lt a
  have a2 := Int32.le_toInt a
  have b1 := Int32.toInt_lt b
  have b2 := Int32.le_toInt b
  obtain ⟨s1, -⟩ := own_shl 1 sh E hE hsh (by decide)
  have o1 : (1 : Int64).toInt = 1 := by decide
  rw [o1, Int.one_mul] at s1
  obtain ⟨s2, s3⟩ := own_shl a.toInt64 sh E hE hsh (by rw [c_i2l]; omega)
  rw [c_i2l] at s2 s3
  obtain ⟨P, hP⟩ : ∃ v, (1 : Int64) <<< (sh &&& 0x3f).toInt64 = v := ⟨_, rfl⟩
  rw [hP] at s1 ⊢
  obtain ⟨f1, z1⟩ := Jvm.Own.z_i2d a
  obtain ⟨f2, z2⟩ := (Jvm.Own.rnd_l2d P).exact 1 (1074 + E) (by decide) (by omega) (by rw [s1, Int.one_mul, ← Jvm.Own.PN_addI, Nat.add_comm]; simp)
  obtain ⟨f3, z3⟩ := (Jvm.Own.rnd_dmul f1 f2).exact a.toInt (1074 + E) (by omega) (by omega) (by
    rw [z1, z2, Int.one_mul, Int.mul_right_comm])
  have z3' : Jvm.Own.z (FP.dmul (FP.i2d a) (FP.l2d P)) = a.toInt * (Jvm.Own.PN E : Int) * (Jvm.Own.PN 1074 : Int) := by
    rw [show Jvm.Own.z (FP.dmul (FP.i2d a) (FP.l2d P)) = _ from z3, Nat.add_comm, Jvm.Own.PN_addI, Int.mul_assoc]
  obtain ⟨f4, z4⟩ := Jvm.Own.z_i2d b
  obtain ⟨t, hR, hb⟩ := Jvm.Own.RI.ex (a.toInt * (Jvm.Own.PN E : Int) + b.toInt) (by omega)
  have r5 := Jvm.Own.rnd_dadd f3 f4
  rw [show Jvm.Own.z (FP.Core.dmul (FP.Core.i2d a) (FP.Core.l2d P)) = _ from z3', z4, ← Int.add_mul] at r5
  obtain ⟨f5, z5⟩ := hR 1074 _ (by omega) (by omega) r5
  obtain ⟨tl, htl⟩ := Jvm.Own.i64_of (N := t) (by omega) (by omega)
  have hd := Jvm.FP.Core.d2l_int (a := tl) (b := FP.dadd (FP.dmul (FP.i2d a) (FP.l2d P)) (FP.i2d b)) (by rw [htl]; exact Jvm.Own.DI.of_z f5 z5)
  refine ⟨t, tl, ⟨f3, z3'⟩, ⟨f4, z4⟩, ⟨f5, z5⟩, hd, htl, hb, hR, ?_, s3⟩
  have u1 := Jvm.Own.la s2 (c_i2l b) (by omega)
  exact Jvm.Own.ls u1 htl (by omega)

theorem ef_rm0 (m : MethodId) (a : Int32) (b : Int32) (shf : Int32) (sca : Int32) (fl : Int32) : entryFrame m #[(.int a), (.int b), (.int shf), (.int sca), (.int fl)] maxLocals = mkF m 0 #[.val (.int a), .val (.int b), .val (.int shf), .val (.int sca), .val (.int fl), .unset, .unset, .unset, .unset, .unset, .unset, .unset, .unset, .unset, .unset, .unset, .unset, .unset, .unset, .unset, .unset, .unset, .unset, .unset, .unset, .unset, .unset, .unset, .unset, .unset, .unset, .unset] [] := by first | (simp [entryFrame, mkF, argsToLocals, Value.category, maxLocals]; done) | rfl
set_option maxRecDepth 65536 in
set_option maxHeartbeats 40000000 in
theorem rm0 (l : Launch) (Z : State) (a0 : Array Value) (hw : ∀ d ∈ tables_1, d.before a0 Z = true) (ws : List Jvm.Cond) (a : Int32) (b : Int32) (shf : Int32) (sca : Int32) (fl : Int32) (h0 : Heap) (n0 : Nat) (Z0 : n0 ≤ h0.size)  :
    MetFree l x (head1 (Jvm.Cond.code x code maxLocals ret :: ws) room_1) (fun a_ U_ => a_ = #[(.int a), (.int b), (.int shf), (.int sca), (.int fl)] ∧ Z.Warmed39 U_.vm ∧ U_.heap = h0) (fun _ _ _ _ _ => True) (fun _ U_ o_ V_ => ∃ v_ L_, o_ = .returned v_ ∧ QL n0 v_ V_.heap L_ ∧ FrameEnd U_ o_ V_ L_ room_1.cells room_1.slots) := by
  refine MetFree.of_bodySF (plainFor_of_name pn_0) hisR ?_
  intro p e s m args below meth c s₁ Bd hml0 hP hK
  obtain ⟨rfl, hZ, hh⟩ := hP
  have hx := Bd.exec
  have hby := Bd.bytes
  have hml : c.maxLocals = 32 := hml0
  have hown : s.vm.findClass "com/example/gaithersburg/gaithersburg/graph/DoubleDoubleRoundingOfPinLaw" = some m.cls := findClass_of_methodNamed Bd.named
  have hnm := (name_of_methodNamed Bd.named Bd.method).1
  have X0 : Stand p l e room_1 s m #[(.int a), (.int b), (.int shf), (.int sca), (.int fl)] below meth c s₁ [] 0 0 := Stand.of_body Bd
  have e0 : s₁.heap = h0 := by rw [← hh, Bd.state]; rfl
  have N0 := Fr.nil n0
  have pre0 : ∀ t, Steps p.tables e below (s₁.setTop (mkF m 0 #[.val (.int a), .val (.int b), .val (.int shf), .val (.int sca), .val (.int fl), .unset, .unset, .unset, .unset, .unset, .unset, .unset, .unset, .unset, .unset, .unset, .unset, .unset, .unset, .unset, .unset, .unset, .unset, .unset, .unset, .unset, .unset, .unset, .unset, .unset, .unset, .unset] [])) t → Steps p.tables e below (s₁.setTop (entryFrame m #[(.int a), (.int b), (.int shf), (.int sca), (.int fl)] maxLocals)) t := fun t_ k_ => castTop (ef_rm0 m a b shf sca fl) k_
  obtain ⟨sh, E, hsh, hE, hE2⟩ := own_e shf
  obtain ⟨t, tl, ⟨fx, zx⟩, ⟨fy, zy⟩, ⟨fu, zu⟩, htl, htl2, hbd, hR, hlost, hbig⟩ := own_parts a b sh E hE hE2
  obtain ⟨P, hP⟩ : ∃ v, (1 : Int64) <<< (sh &&& 0x3f).toInt64 = v := ⟨_, rfl⟩
  rw [hP] at fx zx fu zu htl
  obtain ⟨X, hX⟩ : ∃ v, FP.dmul (FP.i2d a) (FP.l2d P) = v := ⟨_, rfl⟩
  have nX : Jvm.Free.Fl.NoNaN64 (FP.dmul (FP.i2d a) (FP.l2d P)) := Jvm.Own.nn fx
  rw [hX] at fx zx fu zu htl
  obtain ⟨Y, hY⟩ : ∃ v, FP.i2d b = v := ⟨_, rfl⟩
  rw [hY] at fy zy fu zu htl
  obtain ⟨TU, hTU⟩ : ∃ v, FP.dadd X Y = v := ⟨_, rfl⟩
  have nTU : Jvm.Free.Fl.NoNaN64 (FP.dadd X Y) := Jvm.Own.nn fu
  rw [hTU] at fu zu htl
  obtain ⟨lo, hlo⟩ : ∃ v, a.toInt64 <<< (sh &&& 0x3f).toInt64 + b.toInt64 - tl = v := ⟨_, rfl⟩
  rw [hlo] at hlost
  obtain ⟨s1, s2, s3, s4, s5, s6, s7, s8, s9, s10, K, q0, q1, q2, q3, q4, q5, q6, q7, q8, q9, fS, zs, hK⟩ := own_scale sca
  have nS : Jvm.Free.Fl.NoNaN64 (FP.dmul s10 (2301339409586323456 : UInt64)) := Jvm.Own.nn fS
  obtain ⟨S, hS⟩ : ∃ v, FP.dmul s10 (2301339409586323456 : UInt64) = v := ⟨_, rfl⟩
  rw [hS] at fS zs
  obtain ⟨J, hJ⟩ : ∃ v, 562 + K = v := ⟨_, rfl⟩
  rw [hJ] at zs
  have hb1 := Int32.toInt_lt b
  have hb2 := Int32.le_toInt b
  have ha1 := Int32.toInt_lt a
  have ha2 := Int32.le_toInt a
  have hPJ := Jvm.Own.PN_posI J
  have hP4 := Jvm.Own.PN_posI 1074
  obtain ⟨fxs, zxs⟩ : Jvm.FP.Core.DFin (FP.dmul X S) ∧ Jvm.Own.z (FP.dmul X S) = a.toInt * (Jvm.Own.PN E : Int) * (Jvm.Own.PN J : Int) := by
    obtain ⟨f, hz⟩ := (Jvm.Own.rnd_dmul fx fS).exact a.toInt (E + J) (by omega) (by omega) (by
      rw [zx, zs, Jvm.Own.PN_addI, ← Int.mul_assoc, Int.mul_right_comm])
    exact ⟨f, by rw [show Jvm.Own.z (FP.dmul X S) = _ from hz, Jvm.Own.PN_addI, Int.mul_assoc]⟩
  obtain ⟨fys, zys⟩ : Jvm.FP.Core.DFin (FP.dmul Y S) ∧ Jvm.Own.z (FP.dmul Y S) = b.toInt * (Jvm.Own.PN J : Int) :=
    (Jvm.Own.rnd_dmul fy fS).exact b.toInt J (by omega) (by omega) (by rw [zy, zs, Int.mul_right_comm])
  have nXS := Jvm.Own.nn fxs
  have nYS := Jvm.Own.nn fys
  obtain ⟨XS', hXS⟩ : ∃ v, FP.dmul X S = v := ⟨_, rfl⟩
  obtain ⟨YS', hYS⟩ : ∃ v, FP.dmul Y S = v := ⟨_, rfl⟩
  rw [hXS] at fxs zxs
  rw [hYS] at fys zys
  have hlz : lo.toInt.natAbs ≤ 2 ^ 53 := by rw [hlost]; omega
  obtain ⟨fl1, zl1⟩ := Jvm.Own.z_l2d (v := lo) hlz
  obtain ⟨fl2, zl2⟩ : Jvm.FP.Core.DFin (FP.dmul (FP.l2d lo) S) ∧ Jvm.Own.z (FP.dmul (FP.l2d lo) S) = lo.toInt * (Jvm.Own.PN J : Int) :=
    (Jvm.Own.rnd_dmul fl1 fS).exact lo.toInt J hlz (by omega) (by rw [zl1, zs, Int.mul_right_comm])
  have rTS : Jvm.Own.Rnd (t * (Jvm.Own.PN J : Int)) 1 (FP.dmul TU S) := by
    have r := Jvm.Own.rnd_dmul fu fS
    rw [zu, zs, Int.mul_right_comm] at r
    exact Jvm.Own.Rnd.scale (Jvm.Own.PN 1074) (Jvm.Own.PN_pos _) (by rw [Nat.one_mul]; exact r)
  by_cases hf : (fl &&& (1 : Int32)).toInt = 0
  · have rT := Jvm.Own.rnd_dadd fxs fys
    rw [zxs, zys, ← Int.add_mul] at rT
    obtain ⟨fT, zT⟩ := hR J _ (by omega) (by omega) rT
    obtain ⟨TT, hTT⟩ : ∃ v, FP.dadd XS' YS' = v := ⟨_, rfl⟩
    have nTT : Jvm.Free.Fl.NoNaN64 (FP.dadd XS' YS') := Jvm.Own.nn fT
    rw [show FP.Core.dadd XS' YS' = FP.dadd XS' YS' from rfl, hTT] at fT zT
    obtain ⟨⟨g1, g2, g3, g4, g5⟩, zr⟩ := Jvm.Own.two_sum (J := J) (by omega) (by omega) fxs zxs fys zys fT zT (by omega) (by omega) (by omega) (by omega)
    obtain ⟨fTS, zTS⟩ := rTS.exactV fT (by rw [zT]; simp)
    obtain ⟨_, _, ⟨T1, L1, k1, n1⟩, -, X1, ⟨Lc1, hQ1, l1, y1, z1⟩, st1⟩ := Jvm.LawKit.callS X0 hx (y := (⟨"com/example/gaithersburg/gaithersburg/graph/DoubleDoubleRoundingOfPinLaw", "scaleOf", "(I)D"⟩ : MethodName)) hown (mvT hZ (hw _ (List.mem_of_getElem? (i := 0) rfl))) (mvT hZ (hw _ (List.mem_of_getElem? (i := 1) rfl))) (mvT hZ (hw _ (List.mem_of_getElem? (i := 2) rfl))) (mvT hZ (hw _ (List.mem_of_getElem? (i := 3) rfl))) (by decide) (backOf (W := 0) (rmSc l Z a0 hw [] sca h0 n0 Z0 s1 s2 s3 s4 s5 s6 s7 s8 s9 s10 S q0 q1 q2 q3 q4 q5 q6 q7 q8 q9 nS hS) hZ (hw _ (List.mem_of_getElem? (i := 3) rfl)) (hw _ (List.mem_of_getElem? (i := 2) rfl)) (by decide) (by decide)) (g := (mkF m 50 #[.val (.int a), .val (.int b), .val (.int shf), .val (.int sca), .val (.int fl), .val (.int sh), .val (.long ((a.toInt64 <<< (sh &&& 0x3f).toInt64) + b.toInt64)), .second, .val (.double (FP.l2d P)), .second, .val (.double X), .second, .val (.double Y), .second, .val (.double TU), .second, .val (.long lo), .second, .unset, .unset, .unset, .unset, .unset, .unset, .unset, .unset, .unset, .unset, .unset, .unset, .unset, .unset] [(.int sca)])) rfl (by rw [hml]; rfl) (argsL := [(.int sca)]) (rest := []) (lenOf pd_0 rfl) rfl (by show 2 * 0 + _ ≤ _; exact Nat.le_of_eq rfl) (hb hby at_50) (fun _ _ => ⟨rfl, e0, (by decide : 0 + 0 ≤ _), (by decide : 0 + 0 ≤ _)⟩)
    dsimp only [Pt.U, Pt.locs, Pt.cells, Pt.slots] at X1 l1 y1 z1 st1 hQ1
    subst l1 y1 z1
    obtain ⟨rfl, N1, e1⟩ := hQ1
    obtain ⟨_, _, ⟨T2, L2, k2, n2⟩, -, X2, ⟨Lc2, hQ2, l2, y2, z2⟩, st2⟩ := Jvm.LawKit.callS X1 hx (y := (⟨"com/example/gaithersburg/gaithersburg/graph/DoubleDouble", "roundingOf", "(DDD)D"⟩ : MethodName)) hown (mvT hZ (hw _ (List.mem_of_getElem? (i := 6) rfl))) (mvT hZ (hw _ (List.mem_of_getElem? (i := 7) rfl))) (mvT hZ (hw _ (List.mem_of_getElem? (i := 8) rfl))) (mvT hZ (hw _ (List.mem_of_getElem? (i := 9) rfl))) (by decide) (backOf (W := 0) (rmRo l Z a0 hw [] XS' YS' TT h0 n0 Z0 (Jvm.Own.nn g1) (Jvm.Own.nn g2) (Jvm.Own.nn g3) (Jvm.Own.nn g4) (Jvm.Own.nn g5)) hZ (hw _ (List.mem_of_getElem? (i := 9) rfl)) (hw _ (List.mem_of_getElem? (i := 8) rfl)) (by decide) (by decide)) (g := (mkF m 108 #[.val (.int a), .val (.int b), .val (.int shf), .val (.int sca), .val (.int fl), .val (.int sh), .val (.long ((a.toInt64 <<< (sh &&& 0x3f).toInt64) + b.toInt64)), .second, .val (.double (FP.l2d P)), .second, .val (.double X), .second, .val (.double Y), .second, .val (.double TU), .second, .val (.long lo), .second, .val (.double S), .second, .val (.double (XS')), .second, .val (.double (YS')), .second, .val (.double (XS')), .second, .val (.double (YS')), .second, .val (.double TT), .second, .unset, .unset] [(.double TT), (.double (YS')), (.double (XS'))])) rfl (by rw [hml]; rfl) (argsL := [(.double (XS')), (.double (YS')), (.double TT)]) (rest := []) (lenOf pd_1 rfl) rfl (by show 2 * 0 + _ ≤ _; exact Nat.le_of_eq rfl) (hb hby at_108) (fun _ _ => ⟨rfl, e1, (by decide : 0 + 0 ≤ _), (by decide : 0 + 0 ≤ _)⟩)
    dsimp only [Pt.U, Pt.locs, Pt.cells, Pt.slots] at X2 l2 y2 z2 st2 hQ2
    subst l2 y2 z2
    obtain ⟨rfl, N2, e2⟩ := hQ2
    obtain ⟨fs, hr, hrun, hended, hW, hsame⟩ := X2.leave (v := some (.int (1 : Int32))) (fun h => by rw [Bd.returns] at h; cases h)
    refine ⟨_, _, pre0 _ ?_, hrun, hended, _, _, rfl, ?_, ⟨_, rfl⟩, hW, hsame.mono (by decide) (by decide)⟩
    · show Steps p.tables e below (s₁.setTop (mkF m 0 #[.val (.int a), .val (.int b), .val (.int shf), .val (.int sca), .val (.int fl), .unset, .unset, .unset, .unset, .unset, .unset, .unset, .unset, .unset, .unset, .unset, .unset, .unset, .unset, .unset, .unset, .unset, .unset, .unset, .unset, .unset, .unset, .unset, .unset, .unset, .unset, .unset] [])) _
      refine XS.iloadN X0.here hx rfl (hb hby at_0) rfl ?_
      show Steps p.tables e below (s₁.setTop (mkF m 1 #[.val (.int a), .val (.int b), .val (.int shf), .val (.int sca), .val (.int fl), .unset, .unset, .unset, .unset, .unset, .unset, .unset, .unset, .unset, .unset, .unset, .unset, .unset, .unset, .unset, .unset, .unset, .unset, .unset, .unset, .unset, .unset, .unset, .unset, .unset, .unset, .unset] [(.int shf)])) _
      refine XS.bipush X0.here hx rfl (hb hby at_1) ?_
      show Steps p.tables e below (s₁.setTop (mkF m 3 #[.val (.int a), .val (.int b), .val (.int shf), .val (.int sca), .val (.int fl), .unset, .unset, .unset, .unset, .unset, .unset, .unset, .unset, .unset, .unset, .unset, .unset, .unset, .unset, .unset, .unset, .unset, .unset, .unset, .unset, .unset, .unset, .unset, .unset, .unset, .unset, .unset] [(.int (31 : Int32)), (.int shf)])) _
      refine XS.iand X0.here hx rfl (hb hby at_3) rfl ?_
      rw [hsh]
      show Steps p.tables e below (s₁.setTop (mkF m 4 #[.val (.int a), .val (.int b), .val (.int shf), .val (.int sca), .val (.int fl), .unset, .unset, .unset, .unset, .unset, .unset, .unset, .unset, .unset, .unset, .unset, .unset, .unset, .unset, .unset, .unset, .unset, .unset, .unset, .unset, .unset, .unset, .unset, .unset, .unset, .unset, .unset] [(.int sh)])) _
      refine XS.istore X0.here hx rfl (hb hby at_4) rfl (l' := #[.val (.int a), .val (.int b), .val (.int shf), .val (.int sca), .val (.int fl), .val (.int sh), .unset, .unset, .unset, .unset, .unset, .unset, .unset, .unset, .unset, .unset, .unset, .unset, .unset, .unset, .unset, .unset, .unset, .unset, .unset, .unset, .unset, .unset, .unset, .unset, .unset, .unset]) rfl ?_
      show Steps p.tables e below (s₁.setTop (mkF m 6 #[.val (.int a), .val (.int b), .val (.int shf), .val (.int sca), .val (.int fl), .val (.int sh), .unset, .unset, .unset, .unset, .unset, .unset, .unset, .unset, .unset, .unset, .unset, .unset, .unset, .unset, .unset, .unset, .unset, .unset, .unset, .unset, .unset, .unset, .unset, .unset, .unset, .unset] [])) _
      refine XS.iloadN X0.here hx rfl (hb hby at_6) rfl ?_
      show Steps p.tables e below (s₁.setTop (mkF m 7 #[.val (.int a), .val (.int b), .val (.int shf), .val (.int sca), .val (.int fl), .val (.int sh), .unset, .unset, .unset, .unset, .unset, .unset, .unset, .unset, .unset, .unset, .unset, .unset, .unset, .unset, .unset, .unset, .unset, .unset, .unset, .unset, .unset, .unset, .unset, .unset, .unset, .unset] [(.int a)])) _
      refine XS.i2l X0.here hx rfl (hb hby at_7) rfl ?_
      show Steps p.tables e below (s₁.setTop (mkF m 8 #[.val (.int a), .val (.int b), .val (.int shf), .val (.int sca), .val (.int fl), .val (.int sh), .unset, .unset, .unset, .unset, .unset, .unset, .unset, .unset, .unset, .unset, .unset, .unset, .unset, .unset, .unset, .unset, .unset, .unset, .unset, .unset, .unset, .unset, .unset, .unset, .unset, .unset] [(.long a.toInt64)])) _
      refine XS.iload X0.here hx rfl (hb hby at_8) rfl ?_
      show Steps p.tables e below (s₁.setTop (mkF m 10 #[.val (.int a), .val (.int b), .val (.int shf), .val (.int sca), .val (.int fl), .val (.int sh), .unset, .unset, .unset, .unset, .unset, .unset, .unset, .unset, .unset, .unset, .unset, .unset, .unset, .unset, .unset, .unset, .unset, .unset, .unset, .unset, .unset, .unset, .unset, .unset, .unset, .unset] [(.int sh), (.long a.toInt64)])) _
      refine XS.lshl X0.here hx rfl (hb hby at_10) rfl ?_
      show Steps p.tables e below (s₁.setTop (mkF m 11 #[.val (.int a), .val (.int b), .val (.int shf), .val (.int sca), .val (.int fl), .val (.int sh), .unset, .unset, .unset, .unset, .unset, .unset, .unset, .unset, .unset, .unset, .unset, .unset, .unset, .unset, .unset, .unset, .unset, .unset, .unset, .unset, .unset, .unset, .unset, .unset, .unset, .unset] [(.long (a.toInt64 <<< (sh &&& 0x3f).toInt64))])) _
      refine XS.iloadN X0.here hx rfl (hb hby at_11) rfl ?_
      show Steps p.tables e below (s₁.setTop (mkF m 12 #[.val (.int a), .val (.int b), .val (.int shf), .val (.int sca), .val (.int fl), .val (.int sh), .unset, .unset, .unset, .unset, .unset, .unset, .unset, .unset, .unset, .unset, .unset, .unset, .unset, .unset, .unset, .unset, .unset, .unset, .unset, .unset, .unset, .unset, .unset, .unset, .unset, .unset] [(.int b), (.long (a.toInt64 <<< (sh &&& 0x3f).toInt64))])) _
      refine XS.i2l X0.here hx rfl (hb hby at_12) rfl ?_
      show Steps p.tables e below (s₁.setTop (mkF m 13 #[.val (.int a), .val (.int b), .val (.int shf), .val (.int sca), .val (.int fl), .val (.int sh), .unset, .unset, .unset, .unset, .unset, .unset, .unset, .unset, .unset, .unset, .unset, .unset, .unset, .unset, .unset, .unset, .unset, .unset, .unset, .unset, .unset, .unset, .unset, .unset, .unset, .unset] [(.long b.toInt64), (.long (a.toInt64 <<< (sh &&& 0x3f).toInt64))])) _
      refine XS.ladd X0.here hx rfl (hb hby at_13) rfl ?_
      show Steps p.tables e below (s₁.setTop (mkF m 14 #[.val (.int a), .val (.int b), .val (.int shf), .val (.int sca), .val (.int fl), .val (.int sh), .unset, .unset, .unset, .unset, .unset, .unset, .unset, .unset, .unset, .unset, .unset, .unset, .unset, .unset, .unset, .unset, .unset, .unset, .unset, .unset, .unset, .unset, .unset, .unset, .unset, .unset] [(.long ((a.toInt64 <<< (sh &&& 0x3f).toInt64) + b.toInt64))])) _
      refine XS.lstore X0.here hx rfl (hb hby at_14) rfl (l' := #[.val (.int a), .val (.int b), .val (.int shf), .val (.int sca), .val (.int fl), .val (.int sh), .val (.long ((a.toInt64 <<< (sh &&& 0x3f).toInt64) + b.toInt64)), .second, .unset, .unset, .unset, .unset, .unset, .unset, .unset, .unset, .unset, .unset, .unset, .unset, .unset, .unset, .unset, .unset, .unset, .unset, .unset, .unset, .unset, .unset, .unset, .unset]) rfl ?_
      show Steps p.tables e below (s₁.setTop (mkF m 16 #[.val (.int a), .val (.int b), .val (.int shf), .val (.int sca), .val (.int fl), .val (.int sh), .val (.long ((a.toInt64 <<< (sh &&& 0x3f).toInt64) + b.toInt64)), .second, .unset, .unset, .unset, .unset, .unset, .unset, .unset, .unset, .unset, .unset, .unset, .unset, .unset, .unset, .unset, .unset, .unset, .unset, .unset, .unset, .unset, .unset, .unset, .unset] [])) _
      refine XS.lconst X0.here hx rfl (hb hby at_16) ?_
      show Steps p.tables e below (s₁.setTop (mkF m 17 #[.val (.int a), .val (.int b), .val (.int shf), .val (.int sca), .val (.int fl), .val (.int sh), .val (.long ((a.toInt64 <<< (sh &&& 0x3f).toInt64) + b.toInt64)), .second, .unset, .unset, .unset, .unset, .unset, .unset, .unset, .unset, .unset, .unset, .unset, .unset, .unset, .unset, .unset, .unset, .unset, .unset, .unset, .unset, .unset, .unset, .unset, .unset] [(.long (1 : Int64))])) _
      refine XS.iload X0.here hx rfl (hb hby at_17) rfl ?_
      show Steps p.tables e below (s₁.setTop (mkF m 19 #[.val (.int a), .val (.int b), .val (.int shf), .val (.int sca), .val (.int fl), .val (.int sh), .val (.long ((a.toInt64 <<< (sh &&& 0x3f).toInt64) + b.toInt64)), .second, .unset, .unset, .unset, .unset, .unset, .unset, .unset, .unset, .unset, .unset, .unset, .unset, .unset, .unset, .unset, .unset, .unset, .unset, .unset, .unset, .unset, .unset, .unset, .unset] [(.int sh), (.long (1 : Int64))])) _
      refine XS.lshl X0.here hx rfl (hb hby at_19) rfl ?_
      rw [hP]
      show Steps p.tables e below (s₁.setTop (mkF m 20 #[.val (.int a), .val (.int b), .val (.int shf), .val (.int sca), .val (.int fl), .val (.int sh), .val (.long ((a.toInt64 <<< (sh &&& 0x3f).toInt64) + b.toInt64)), .second, .unset, .unset, .unset, .unset, .unset, .unset, .unset, .unset, .unset, .unset, .unset, .unset, .unset, .unset, .unset, .unset, .unset, .unset, .unset, .unset, .unset, .unset, .unset, .unset] [(.long P)])) _
      refine XS.l2dS X0.here hx rfl (hb hby at_20) rfl (v := FP.l2d P) rfl ?_
      show Steps p.tables e below (s₁.setTop (mkF m 21 #[.val (.int a), .val (.int b), .val (.int shf), .val (.int sca), .val (.int fl), .val (.int sh), .val (.long ((a.toInt64 <<< (sh &&& 0x3f).toInt64) + b.toInt64)), .second, .unset, .unset, .unset, .unset, .unset, .unset, .unset, .unset, .unset, .unset, .unset, .unset, .unset, .unset, .unset, .unset, .unset, .unset, .unset, .unset, .unset, .unset, .unset, .unset] [(.double (FP.l2d P))])) _
      refine XS.dstore X0.here hx rfl (hb hby at_21) rfl (l' := #[.val (.int a), .val (.int b), .val (.int shf), .val (.int sca), .val (.int fl), .val (.int sh), .val (.long ((a.toInt64 <<< (sh &&& 0x3f).toInt64) + b.toInt64)), .second, .val (.double (FP.l2d P)), .second, .unset, .unset, .unset, .unset, .unset, .unset, .unset, .unset, .unset, .unset, .unset, .unset, .unset, .unset, .unset, .unset, .unset, .unset, .unset, .unset, .unset, .unset]) rfl ?_
      show Steps p.tables e below (s₁.setTop (mkF m 23 #[.val (.int a), .val (.int b), .val (.int shf), .val (.int sca), .val (.int fl), .val (.int sh), .val (.long ((a.toInt64 <<< (sh &&& 0x3f).toInt64) + b.toInt64)), .second, .val (.double (FP.l2d P)), .second, .unset, .unset, .unset, .unset, .unset, .unset, .unset, .unset, .unset, .unset, .unset, .unset, .unset, .unset, .unset, .unset, .unset, .unset, .unset, .unset, .unset, .unset] [])) _
      refine XS.iloadN X0.here hx rfl (hb hby at_23) rfl ?_
      show Steps p.tables e below (s₁.setTop (mkF m 24 #[.val (.int a), .val (.int b), .val (.int shf), .val (.int sca), .val (.int fl), .val (.int sh), .val (.long ((a.toInt64 <<< (sh &&& 0x3f).toInt64) + b.toInt64)), .second, .val (.double (FP.l2d P)), .second, .unset, .unset, .unset, .unset, .unset, .unset, .unset, .unset, .unset, .unset, .unset, .unset, .unset, .unset, .unset, .unset, .unset, .unset, .unset, .unset, .unset, .unset] [(.int a)])) _
      refine XS.i2dS X0.here hx rfl (hb hby at_24) rfl (v := FP.i2d a) rfl ?_
      show Steps p.tables e below (s₁.setTop (mkF m 25 #[.val (.int a), .val (.int b), .val (.int shf), .val (.int sca), .val (.int fl), .val (.int sh), .val (.long ((a.toInt64 <<< (sh &&& 0x3f).toInt64) + b.toInt64)), .second, .val (.double (FP.l2d P)), .second, .unset, .unset, .unset, .unset, .unset, .unset, .unset, .unset, .unset, .unset, .unset, .unset, .unset, .unset, .unset, .unset, .unset, .unset, .unset, .unset, .unset, .unset] [(.double (FP.i2d a))])) _
      refine XS.dload X0.here hx rfl (hb hby at_25) rfl ?_
      show Steps p.tables e below (s₁.setTop (mkF m 27 #[.val (.int a), .val (.int b), .val (.int shf), .val (.int sca), .val (.int fl), .val (.int sh), .val (.long ((a.toInt64 <<< (sh &&& 0x3f).toInt64) + b.toInt64)), .second, .val (.double (FP.l2d P)), .second, .unset, .unset, .unset, .unset, .unset, .unset, .unset, .unset, .unset, .unset, .unset, .unset, .unset, .unset, .unset, .unset, .unset, .unset, .unset, .unset, .unset, .unset] [(.double (FP.l2d P)), (.double (FP.i2d a))])) _
      refine XS.dmulS X0.here hx rfl (hb hby at_27) rfl nX (v := X) hX ?_
      show Steps p.tables e below (s₁.setTop (mkF m 28 #[.val (.int a), .val (.int b), .val (.int shf), .val (.int sca), .val (.int fl), .val (.int sh), .val (.long ((a.toInt64 <<< (sh &&& 0x3f).toInt64) + b.toInt64)), .second, .val (.double (FP.l2d P)), .second, .unset, .unset, .unset, .unset, .unset, .unset, .unset, .unset, .unset, .unset, .unset, .unset, .unset, .unset, .unset, .unset, .unset, .unset, .unset, .unset, .unset, .unset] [(.double X)])) _
      refine XS.dstore X0.here hx rfl (hb hby at_28) rfl (l' := #[.val (.int a), .val (.int b), .val (.int shf), .val (.int sca), .val (.int fl), .val (.int sh), .val (.long ((a.toInt64 <<< (sh &&& 0x3f).toInt64) + b.toInt64)), .second, .val (.double (FP.l2d P)), .second, .val (.double X), .second, .unset, .unset, .unset, .unset, .unset, .unset, .unset, .unset, .unset, .unset, .unset, .unset, .unset, .unset, .unset, .unset, .unset, .unset, .unset, .unset]) rfl ?_
      show Steps p.tables e below (s₁.setTop (mkF m 30 #[.val (.int a), .val (.int b), .val (.int shf), .val (.int sca), .val (.int fl), .val (.int sh), .val (.long ((a.toInt64 <<< (sh &&& 0x3f).toInt64) + b.toInt64)), .second, .val (.double (FP.l2d P)), .second, .val (.double X), .second, .unset, .unset, .unset, .unset, .unset, .unset, .unset, .unset, .unset, .unset, .unset, .unset, .unset, .unset, .unset, .unset, .unset, .unset, .unset, .unset] [])) _
      refine XS.iloadN X0.here hx rfl (hb hby at_30) rfl ?_
      show Steps p.tables e below (s₁.setTop (mkF m 31 #[.val (.int a), .val (.int b), .val (.int shf), .val (.int sca), .val (.int fl), .val (.int sh), .val (.long ((a.toInt64 <<< (sh &&& 0x3f).toInt64) + b.toInt64)), .second, .val (.double (FP.l2d P)), .second, .val (.double X), .second, .unset, .unset, .unset, .unset, .unset, .unset, .unset, .unset, .unset, .unset, .unset, .unset, .unset, .unset, .unset, .unset, .unset, .unset, .unset, .unset] [(.int b)])) _
      refine XS.i2dS X0.here hx rfl (hb hby at_31) rfl (v := Y) hY ?_
      show Steps p.tables e below (s₁.setTop (mkF m 32 #[.val (.int a), .val (.int b), .val (.int shf), .val (.int sca), .val (.int fl), .val (.int sh), .val (.long ((a.toInt64 <<< (sh &&& 0x3f).toInt64) + b.toInt64)), .second, .val (.double (FP.l2d P)), .second, .val (.double X), .second, .unset, .unset, .unset, .unset, .unset, .unset, .unset, .unset, .unset, .unset, .unset, .unset, .unset, .unset, .unset, .unset, .unset, .unset, .unset, .unset] [(.double Y)])) _
      refine XS.dstore X0.here hx rfl (hb hby at_32) rfl (l' := #[.val (.int a), .val (.int b), .val (.int shf), .val (.int sca), .val (.int fl), .val (.int sh), .val (.long ((a.toInt64 <<< (sh &&& 0x3f).toInt64) + b.toInt64)), .second, .val (.double (FP.l2d P)), .second, .val (.double X), .second, .val (.double Y), .second, .unset, .unset, .unset, .unset, .unset, .unset, .unset, .unset, .unset, .unset, .unset, .unset, .unset, .unset, .unset, .unset, .unset, .unset]) rfl ?_
      show Steps p.tables e below (s₁.setTop (mkF m 34 #[.val (.int a), .val (.int b), .val (.int shf), .val (.int sca), .val (.int fl), .val (.int sh), .val (.long ((a.toInt64 <<< (sh &&& 0x3f).toInt64) + b.toInt64)), .second, .val (.double (FP.l2d P)), .second, .val (.double X), .second, .val (.double Y), .second, .unset, .unset, .unset, .unset, .unset, .unset, .unset, .unset, .unset, .unset, .unset, .unset, .unset, .unset, .unset, .unset, .unset, .unset] [])) _
      refine XS.dload X0.here hx rfl (hb hby at_34) rfl ?_
      show Steps p.tables e below (s₁.setTop (mkF m 36 #[.val (.int a), .val (.int b), .val (.int shf), .val (.int sca), .val (.int fl), .val (.int sh), .val (.long ((a.toInt64 <<< (sh &&& 0x3f).toInt64) + b.toInt64)), .second, .val (.double (FP.l2d P)), .second, .val (.double X), .second, .val (.double Y), .second, .unset, .unset, .unset, .unset, .unset, .unset, .unset, .unset, .unset, .unset, .unset, .unset, .unset, .unset, .unset, .unset, .unset, .unset] [(.double X)])) _
      refine XS.dload X0.here hx rfl (hb hby at_36) rfl ?_
      show Steps p.tables e below (s₁.setTop (mkF m 38 #[.val (.int a), .val (.int b), .val (.int shf), .val (.int sca), .val (.int fl), .val (.int sh), .val (.long ((a.toInt64 <<< (sh &&& 0x3f).toInt64) + b.toInt64)), .second, .val (.double (FP.l2d P)), .second, .val (.double X), .second, .val (.double Y), .second, .unset, .unset, .unset, .unset, .unset, .unset, .unset, .unset, .unset, .unset, .unset, .unset, .unset, .unset, .unset, .unset, .unset, .unset] [(.double Y), (.double X)])) _
      refine XS.daddS X0.here hx rfl (hb hby at_38) rfl nTU (v := TU) hTU ?_
      show Steps p.tables e below (s₁.setTop (mkF m 39 #[.val (.int a), .val (.int b), .val (.int shf), .val (.int sca), .val (.int fl), .val (.int sh), .val (.long ((a.toInt64 <<< (sh &&& 0x3f).toInt64) + b.toInt64)), .second, .val (.double (FP.l2d P)), .second, .val (.double X), .second, .val (.double Y), .second, .unset, .unset, .unset, .unset, .unset, .unset, .unset, .unset, .unset, .unset, .unset, .unset, .unset, .unset, .unset, .unset, .unset, .unset] [(.double TU)])) _
      refine XS.dstore X0.here hx rfl (hb hby at_39) rfl (l' := #[.val (.int a), .val (.int b), .val (.int shf), .val (.int sca), .val (.int fl), .val (.int sh), .val (.long ((a.toInt64 <<< (sh &&& 0x3f).toInt64) + b.toInt64)), .second, .val (.double (FP.l2d P)), .second, .val (.double X), .second, .val (.double Y), .second, .val (.double TU), .second, .unset, .unset, .unset, .unset, .unset, .unset, .unset, .unset, .unset, .unset, .unset, .unset, .unset, .unset, .unset, .unset]) rfl ?_
      show Steps p.tables e below (s₁.setTop (mkF m 41 #[.val (.int a), .val (.int b), .val (.int shf), .val (.int sca), .val (.int fl), .val (.int sh), .val (.long ((a.toInt64 <<< (sh &&& 0x3f).toInt64) + b.toInt64)), .second, .val (.double (FP.l2d P)), .second, .val (.double X), .second, .val (.double Y), .second, .val (.double TU), .second, .unset, .unset, .unset, .unset, .unset, .unset, .unset, .unset, .unset, .unset, .unset, .unset, .unset, .unset, .unset, .unset] [])) _
      refine XS.lload X0.here hx rfl (hb hby at_41) rfl ?_
      show Steps p.tables e below (s₁.setTop (mkF m 43 #[.val (.int a), .val (.int b), .val (.int shf), .val (.int sca), .val (.int fl), .val (.int sh), .val (.long ((a.toInt64 <<< (sh &&& 0x3f).toInt64) + b.toInt64)), .second, .val (.double (FP.l2d P)), .second, .val (.double X), .second, .val (.double Y), .second, .val (.double TU), .second, .unset, .unset, .unset, .unset, .unset, .unset, .unset, .unset, .unset, .unset, .unset, .unset, .unset, .unset, .unset, .unset] [(.long ((a.toInt64 <<< (sh &&& 0x3f).toInt64) + b.toInt64))])) _
      refine XS.dload X0.here hx rfl (hb hby at_43) rfl ?_
      show Steps p.tables e below (s₁.setTop (mkF m 45 #[.val (.int a), .val (.int b), .val (.int shf), .val (.int sca), .val (.int fl), .val (.int sh), .val (.long ((a.toInt64 <<< (sh &&& 0x3f).toInt64) + b.toInt64)), .second, .val (.double (FP.l2d P)), .second, .val (.double X), .second, .val (.double Y), .second, .val (.double TU), .second, .unset, .unset, .unset, .unset, .unset, .unset, .unset, .unset, .unset, .unset, .unset, .unset, .unset, .unset, .unset, .unset] [(.double TU), (.long ((a.toInt64 <<< (sh &&& 0x3f).toInt64) + b.toInt64))])) _
      refine XS.d2lS X0.here hx rfl (hb hby at_45) rfl (v := tl) htl ?_
      show Steps p.tables e below (s₁.setTop (mkF m 46 #[.val (.int a), .val (.int b), .val (.int shf), .val (.int sca), .val (.int fl), .val (.int sh), .val (.long ((a.toInt64 <<< (sh &&& 0x3f).toInt64) + b.toInt64)), .second, .val (.double (FP.l2d P)), .second, .val (.double X), .second, .val (.double Y), .second, .val (.double TU), .second, .unset, .unset, .unset, .unset, .unset, .unset, .unset, .unset, .unset, .unset, .unset, .unset, .unset, .unset, .unset, .unset] [(.long tl), (.long ((a.toInt64 <<< (sh &&& 0x3f).toInt64) + b.toInt64))])) _
      refine XS.lsub X0.here hx rfl (hb hby at_46) rfl ?_
      rw [hlo]
      show Steps p.tables e below (s₁.setTop (mkF m 47 #[.val (.int a), .val (.int b), .val (.int shf), .val (.int sca), .val (.int fl), .val (.int sh), .val (.long ((a.toInt64 <<< (sh &&& 0x3f).toInt64) + b.toInt64)), .second, .val (.double (FP.l2d P)), .second, .val (.double X), .second, .val (.double Y), .second, .val (.double TU), .second, .unset, .unset, .unset, .unset, .unset, .unset, .unset, .unset, .unset, .unset, .unset, .unset, .unset, .unset, .unset, .unset] [(.long lo)])) _
      refine XS.lstore X0.here hx rfl (hb hby at_47) rfl (l' := #[.val (.int a), .val (.int b), .val (.int shf), .val (.int sca), .val (.int fl), .val (.int sh), .val (.long ((a.toInt64 <<< (sh &&& 0x3f).toInt64) + b.toInt64)), .second, .val (.double (FP.l2d P)), .second, .val (.double X), .second, .val (.double Y), .second, .val (.double TU), .second, .val (.long lo), .second, .unset, .unset, .unset, .unset, .unset, .unset, .unset, .unset, .unset, .unset, .unset, .unset, .unset, .unset]) rfl ?_
      show Steps p.tables e below (s₁.setTop (mkF m 49 #[.val (.int a), .val (.int b), .val (.int shf), .val (.int sca), .val (.int fl), .val (.int sh), .val (.long ((a.toInt64 <<< (sh &&& 0x3f).toInt64) + b.toInt64)), .second, .val (.double (FP.l2d P)), .second, .val (.double X), .second, .val (.double Y), .second, .val (.double TU), .second, .val (.long lo), .second, .unset, .unset, .unset, .unset, .unset, .unset, .unset, .unset, .unset, .unset, .unset, .unset, .unset, .unset] [])) _
      refine XS.iloadN X0.here hx rfl (hb hby at_49) rfl ?_
      show Steps p.tables e below (s₁.setTop (mkF m 50 #[.val (.int a), .val (.int b), .val (.int shf), .val (.int sca), .val (.int fl), .val (.int sh), .val (.long ((a.toInt64 <<< (sh &&& 0x3f).toInt64) + b.toInt64)), .second, .val (.double (FP.l2d P)), .second, .val (.double X), .second, .val (.double Y), .second, .val (.double TU), .second, .val (.long lo), .second, .unset, .unset, .unset, .unset, .unset, .unset, .unset, .unset, .unset, .unset, .unset, .unset, .unset, .unset] [(.int sca)])) _
      refine st1 _ ?_
      show Steps p.tables e below (T1.setTop (mkF m 53 #[.val (.int a), .val (.int b), .val (.int shf), .val (.int sca), .val (.int fl), .val (.int sh), .val (.long ((a.toInt64 <<< (sh &&& 0x3f).toInt64) + b.toInt64)), .second, .val (.double (FP.l2d P)), .second, .val (.double X), .second, .val (.double Y), .second, .val (.double TU), .second, .val (.long lo), .second, .unset, .unset, .unset, .unset, .unset, .unset, .unset, .unset, .unset, .unset, .unset, .unset, .unset, .unset] [(.double S)])) _
      refine XS.dstore X1.here hx rfl (hb hby at_53) rfl (l' := #[.val (.int a), .val (.int b), .val (.int shf), .val (.int sca), .val (.int fl), .val (.int sh), .val (.long ((a.toInt64 <<< (sh &&& 0x3f).toInt64) + b.toInt64)), .second, .val (.double (FP.l2d P)), .second, .val (.double X), .second, .val (.double Y), .second, .val (.double TU), .second, .val (.long lo), .second, .val (.double S), .second, .unset, .unset, .unset, .unset, .unset, .unset, .unset, .unset, .unset, .unset, .unset, .unset]) rfl ?_
      show Steps p.tables e below (T1.setTop (mkF m 55 #[.val (.int a), .val (.int b), .val (.int shf), .val (.int sca), .val (.int fl), .val (.int sh), .val (.long ((a.toInt64 <<< (sh &&& 0x3f).toInt64) + b.toInt64)), .second, .val (.double (FP.l2d P)), .second, .val (.double X), .second, .val (.double Y), .second, .val (.double TU), .second, .val (.long lo), .second, .val (.double S), .second, .unset, .unset, .unset, .unset, .unset, .unset, .unset, .unset, .unset, .unset, .unset, .unset] [])) _
      refine XS.dload X1.here hx rfl (hb hby at_55) rfl ?_
      show Steps p.tables e below (T1.setTop (mkF m 57 #[.val (.int a), .val (.int b), .val (.int shf), .val (.int sca), .val (.int fl), .val (.int sh), .val (.long ((a.toInt64 <<< (sh &&& 0x3f).toInt64) + b.toInt64)), .second, .val (.double (FP.l2d P)), .second, .val (.double X), .second, .val (.double Y), .second, .val (.double TU), .second, .val (.long lo), .second, .val (.double S), .second, .unset, .unset, .unset, .unset, .unset, .unset, .unset, .unset, .unset, .unset, .unset, .unset] [(.double X)])) _
      refine XS.dload X1.here hx rfl (hb hby at_57) rfl ?_
      show Steps p.tables e below (T1.setTop (mkF m 59 #[.val (.int a), .val (.int b), .val (.int shf), .val (.int sca), .val (.int fl), .val (.int sh), .val (.long ((a.toInt64 <<< (sh &&& 0x3f).toInt64) + b.toInt64)), .second, .val (.double (FP.l2d P)), .second, .val (.double X), .second, .val (.double Y), .second, .val (.double TU), .second, .val (.long lo), .second, .val (.double S), .second, .unset, .unset, .unset, .unset, .unset, .unset, .unset, .unset, .unset, .unset, .unset, .unset] [(.double S), (.double X)])) _
      refine XS.dmulS X1.here hx rfl (hb hby at_59) rfl nXS (v := XS') hXS ?_
      show Steps p.tables e below (T1.setTop (mkF m 60 #[.val (.int a), .val (.int b), .val (.int shf), .val (.int sca), .val (.int fl), .val (.int sh), .val (.long ((a.toInt64 <<< (sh &&& 0x3f).toInt64) + b.toInt64)), .second, .val (.double (FP.l2d P)), .second, .val (.double X), .second, .val (.double Y), .second, .val (.double TU), .second, .val (.long lo), .second, .val (.double S), .second, .unset, .unset, .unset, .unset, .unset, .unset, .unset, .unset, .unset, .unset, .unset, .unset] [(.double (XS'))])) _
      refine XS.dstore X1.here hx rfl (hb hby at_60) rfl (l' := #[.val (.int a), .val (.int b), .val (.int shf), .val (.int sca), .val (.int fl), .val (.int sh), .val (.long ((a.toInt64 <<< (sh &&& 0x3f).toInt64) + b.toInt64)), .second, .val (.double (FP.l2d P)), .second, .val (.double X), .second, .val (.double Y), .second, .val (.double TU), .second, .val (.long lo), .second, .val (.double S), .second, .val (.double (XS')), .second, .unset, .unset, .unset, .unset, .unset, .unset, .unset, .unset, .unset, .unset]) rfl ?_
      show Steps p.tables e below (T1.setTop (mkF m 62 #[.val (.int a), .val (.int b), .val (.int shf), .val (.int sca), .val (.int fl), .val (.int sh), .val (.long ((a.toInt64 <<< (sh &&& 0x3f).toInt64) + b.toInt64)), .second, .val (.double (FP.l2d P)), .second, .val (.double X), .second, .val (.double Y), .second, .val (.double TU), .second, .val (.long lo), .second, .val (.double S), .second, .val (.double (XS')), .second, .unset, .unset, .unset, .unset, .unset, .unset, .unset, .unset, .unset, .unset] [])) _
      refine XS.dload X1.here hx rfl (hb hby at_62) rfl ?_
      show Steps p.tables e below (T1.setTop (mkF m 64 #[.val (.int a), .val (.int b), .val (.int shf), .val (.int sca), .val (.int fl), .val (.int sh), .val (.long ((a.toInt64 <<< (sh &&& 0x3f).toInt64) + b.toInt64)), .second, .val (.double (FP.l2d P)), .second, .val (.double X), .second, .val (.double Y), .second, .val (.double TU), .second, .val (.long lo), .second, .val (.double S), .second, .val (.double (XS')), .second, .unset, .unset, .unset, .unset, .unset, .unset, .unset, .unset, .unset, .unset] [(.double Y)])) _
      refine XS.dload X1.here hx rfl (hb hby at_64) rfl ?_
      show Steps p.tables e below (T1.setTop (mkF m 66 #[.val (.int a), .val (.int b), .val (.int shf), .val (.int sca), .val (.int fl), .val (.int sh), .val (.long ((a.toInt64 <<< (sh &&& 0x3f).toInt64) + b.toInt64)), .second, .val (.double (FP.l2d P)), .second, .val (.double X), .second, .val (.double Y), .second, .val (.double TU), .second, .val (.long lo), .second, .val (.double S), .second, .val (.double (XS')), .second, .unset, .unset, .unset, .unset, .unset, .unset, .unset, .unset, .unset, .unset] [(.double S), (.double Y)])) _
      refine XS.dmulS X1.here hx rfl (hb hby at_66) rfl nYS (v := YS') hYS ?_
      show Steps p.tables e below (T1.setTop (mkF m 67 #[.val (.int a), .val (.int b), .val (.int shf), .val (.int sca), .val (.int fl), .val (.int sh), .val (.long ((a.toInt64 <<< (sh &&& 0x3f).toInt64) + b.toInt64)), .second, .val (.double (FP.l2d P)), .second, .val (.double X), .second, .val (.double Y), .second, .val (.double TU), .second, .val (.long lo), .second, .val (.double S), .second, .val (.double (XS')), .second, .unset, .unset, .unset, .unset, .unset, .unset, .unset, .unset, .unset, .unset] [(.double (YS'))])) _
      refine XS.dstore X1.here hx rfl (hb hby at_67) rfl (l' := #[.val (.int a), .val (.int b), .val (.int shf), .val (.int sca), .val (.int fl), .val (.int sh), .val (.long ((a.toInt64 <<< (sh &&& 0x3f).toInt64) + b.toInt64)), .second, .val (.double (FP.l2d P)), .second, .val (.double X), .second, .val (.double Y), .second, .val (.double TU), .second, .val (.long lo), .second, .val (.double S), .second, .val (.double (XS')), .second, .val (.double (YS')), .second, .unset, .unset, .unset, .unset, .unset, .unset, .unset, .unset]) rfl ?_
      show Steps p.tables e below (T1.setTop (mkF m 69 #[.val (.int a), .val (.int b), .val (.int shf), .val (.int sca), .val (.int fl), .val (.int sh), .val (.long ((a.toInt64 <<< (sh &&& 0x3f).toInt64) + b.toInt64)), .second, .val (.double (FP.l2d P)), .second, .val (.double X), .second, .val (.double Y), .second, .val (.double TU), .second, .val (.long lo), .second, .val (.double S), .second, .val (.double (XS')), .second, .val (.double (YS')), .second, .unset, .unset, .unset, .unset, .unset, .unset, .unset, .unset] [])) _
      refine XS.iload X1.here hx rfl (hb hby at_69) rfl ?_
      show Steps p.tables e below (T1.setTop (mkF m 71 #[.val (.int a), .val (.int b), .val (.int shf), .val (.int sca), .val (.int fl), .val (.int sh), .val (.long ((a.toInt64 <<< (sh &&& 0x3f).toInt64) + b.toInt64)), .second, .val (.double (FP.l2d P)), .second, .val (.double X), .second, .val (.double Y), .second, .val (.double TU), .second, .val (.long lo), .second, .val (.double S), .second, .val (.double (XS')), .second, .val (.double (YS')), .second, .unset, .unset, .unset, .unset, .unset, .unset, .unset, .unset] [(.int fl)])) _
      refine XS.iconst X1.here hx rfl (hb hby at_71) ?_
      show Steps p.tables e below (T1.setTop (mkF m 72 #[.val (.int a), .val (.int b), .val (.int shf), .val (.int sca), .val (.int fl), .val (.int sh), .val (.long ((a.toInt64 <<< (sh &&& 0x3f).toInt64) + b.toInt64)), .second, .val (.double (FP.l2d P)), .second, .val (.double X), .second, .val (.double Y), .second, .val (.double TU), .second, .val (.long lo), .second, .val (.double S), .second, .val (.double (XS')), .second, .val (.double (YS')), .second, .unset, .unset, .unset, .unset, .unset, .unset, .unset, .unset] [(.int (1 : Int32)), (.int fl)])) _
      refine XS.iand X1.here hx rfl (hb hby at_72) rfl ?_
      show Steps p.tables e below (T1.setTop (mkF m 73 #[.val (.int a), .val (.int b), .val (.int shf), .val (.int sca), .val (.int fl), .val (.int sh), .val (.long ((a.toInt64 <<< (sh &&& 0x3f).toInt64) + b.toInt64)), .second, .val (.double (FP.l2d P)), .second, .val (.double X), .second, .val (.double Y), .second, .val (.double TU), .second, .val (.long lo), .second, .val (.double S), .second, .val (.double (XS')), .second, .val (.double (YS')), .second, .unset, .unset, .unset, .unset, .unset, .unset, .unset, .unset] [(.int (fl &&& (1 : Int32)))])) _
      refine XS.ifYes X1.here hx rfl (pc0 := 73) (pc' := 87) rfl (hb hby at_73) rfl ((Jvm.Own.holdsI _ _).trans (Jvm.Own.dT hf)) (by decide) (by decide) ?_
      show Steps p.tables e below (T1.setTop (mkF m 87 #[.val (.int a), .val (.int b), .val (.int shf), .val (.int sca), .val (.int fl), .val (.int sh), .val (.long ((a.toInt64 <<< (sh &&& 0x3f).toInt64) + b.toInt64)), .second, .val (.double (FP.l2d P)), .second, .val (.double X), .second, .val (.double Y), .second, .val (.double TU), .second, .val (.long lo), .second, .val (.double S), .second, .val (.double (XS')), .second, .val (.double (YS')), .second, .unset, .unset, .unset, .unset, .unset, .unset, .unset, .unset] [])) _
      refine XS.dload X1.here hx rfl (hb hby at_87) rfl ?_
      show Steps p.tables e below (T1.setTop (mkF m 89 #[.val (.int a), .val (.int b), .val (.int shf), .val (.int sca), .val (.int fl), .val (.int sh), .val (.long ((a.toInt64 <<< (sh &&& 0x3f).toInt64) + b.toInt64)), .second, .val (.double (FP.l2d P)), .second, .val (.double X), .second, .val (.double Y), .second, .val (.double TU), .second, .val (.long lo), .second, .val (.double S), .second, .val (.double (XS')), .second, .val (.double (YS')), .second, .unset, .unset, .unset, .unset, .unset, .unset, .unset, .unset] [(.double (XS'))])) _
      refine XS.dstore X1.here hx rfl (hb hby at_89) rfl (l' := #[.val (.int a), .val (.int b), .val (.int shf), .val (.int sca), .val (.int fl), .val (.int sh), .val (.long ((a.toInt64 <<< (sh &&& 0x3f).toInt64) + b.toInt64)), .second, .val (.double (FP.l2d P)), .second, .val (.double X), .second, .val (.double Y), .second, .val (.double TU), .second, .val (.long lo), .second, .val (.double S), .second, .val (.double (XS')), .second, .val (.double (YS')), .second, .val (.double (XS')), .second, .unset, .unset, .unset, .unset, .unset, .unset]) rfl ?_
      show Steps p.tables e below (T1.setTop (mkF m 91 #[.val (.int a), .val (.int b), .val (.int shf), .val (.int sca), .val (.int fl), .val (.int sh), .val (.long ((a.toInt64 <<< (sh &&& 0x3f).toInt64) + b.toInt64)), .second, .val (.double (FP.l2d P)), .second, .val (.double X), .second, .val (.double Y), .second, .val (.double TU), .second, .val (.long lo), .second, .val (.double S), .second, .val (.double (XS')), .second, .val (.double (YS')), .second, .val (.double (XS')), .second, .unset, .unset, .unset, .unset, .unset, .unset] [])) _
      refine XS.dload X1.here hx rfl (hb hby at_91) rfl ?_
      show Steps p.tables e below (T1.setTop (mkF m 93 #[.val (.int a), .val (.int b), .val (.int shf), .val (.int sca), .val (.int fl), .val (.int sh), .val (.long ((a.toInt64 <<< (sh &&& 0x3f).toInt64) + b.toInt64)), .second, .val (.double (FP.l2d P)), .second, .val (.double X), .second, .val (.double Y), .second, .val (.double TU), .second, .val (.long lo), .second, .val (.double S), .second, .val (.double (XS')), .second, .val (.double (YS')), .second, .val (.double (XS')), .second, .unset, .unset, .unset, .unset, .unset, .unset] [(.double (YS'))])) _
      refine XS.dstore X1.here hx rfl (hb hby at_93) rfl (l' := #[.val (.int a), .val (.int b), .val (.int shf), .val (.int sca), .val (.int fl), .val (.int sh), .val (.long ((a.toInt64 <<< (sh &&& 0x3f).toInt64) + b.toInt64)), .second, .val (.double (FP.l2d P)), .second, .val (.double X), .second, .val (.double Y), .second, .val (.double TU), .second, .val (.long lo), .second, .val (.double S), .second, .val (.double (XS')), .second, .val (.double (YS')), .second, .val (.double (XS')), .second, .val (.double (YS')), .second, .unset, .unset, .unset, .unset]) rfl ?_
      show Steps p.tables e below (T1.setTop (mkF m 95 #[.val (.int a), .val (.int b), .val (.int shf), .val (.int sca), .val (.int fl), .val (.int sh), .val (.long ((a.toInt64 <<< (sh &&& 0x3f).toInt64) + b.toInt64)), .second, .val (.double (FP.l2d P)), .second, .val (.double X), .second, .val (.double Y), .second, .val (.double TU), .second, .val (.long lo), .second, .val (.double S), .second, .val (.double (XS')), .second, .val (.double (YS')), .second, .val (.double (XS')), .second, .val (.double (YS')), .second, .unset, .unset, .unset, .unset] [])) _
      refine XS.dload X1.here hx rfl (hb hby at_95) rfl ?_
      show Steps p.tables e below (T1.setTop (mkF m 97 #[.val (.int a), .val (.int b), .val (.int shf), .val (.int sca), .val (.int fl), .val (.int sh), .val (.long ((a.toInt64 <<< (sh &&& 0x3f).toInt64) + b.toInt64)), .second, .val (.double (FP.l2d P)), .second, .val (.double X), .second, .val (.double Y), .second, .val (.double TU), .second, .val (.long lo), .second, .val (.double S), .second, .val (.double (XS')), .second, .val (.double (YS')), .second, .val (.double (XS')), .second, .val (.double (YS')), .second, .unset, .unset, .unset, .unset] [(.double (XS'))])) _
      refine XS.dload X1.here hx rfl (hb hby at_97) rfl ?_
      show Steps p.tables e below (T1.setTop (mkF m 99 #[.val (.int a), .val (.int b), .val (.int shf), .val (.int sca), .val (.int fl), .val (.int sh), .val (.long ((a.toInt64 <<< (sh &&& 0x3f).toInt64) + b.toInt64)), .second, .val (.double (FP.l2d P)), .second, .val (.double X), .second, .val (.double Y), .second, .val (.double TU), .second, .val (.long lo), .second, .val (.double S), .second, .val (.double (XS')), .second, .val (.double (YS')), .second, .val (.double (XS')), .second, .val (.double (YS')), .second, .unset, .unset, .unset, .unset] [(.double (YS')), (.double (XS'))])) _
      refine XS.daddS X1.here hx rfl (hb hby at_99) rfl nTT (v := TT) hTT ?_
      show Steps p.tables e below (T1.setTop (mkF m 100 #[.val (.int a), .val (.int b), .val (.int shf), .val (.int sca), .val (.int fl), .val (.int sh), .val (.long ((a.toInt64 <<< (sh &&& 0x3f).toInt64) + b.toInt64)), .second, .val (.double (FP.l2d P)), .second, .val (.double X), .second, .val (.double Y), .second, .val (.double TU), .second, .val (.long lo), .second, .val (.double S), .second, .val (.double (XS')), .second, .val (.double (YS')), .second, .val (.double (XS')), .second, .val (.double (YS')), .second, .unset, .unset, .unset, .unset] [(.double TT)])) _
      refine XS.dstore X1.here hx rfl (hb hby at_100) rfl (l' := #[.val (.int a), .val (.int b), .val (.int shf), .val (.int sca), .val (.int fl), .val (.int sh), .val (.long ((a.toInt64 <<< (sh &&& 0x3f).toInt64) + b.toInt64)), .second, .val (.double (FP.l2d P)), .second, .val (.double X), .second, .val (.double Y), .second, .val (.double TU), .second, .val (.long lo), .second, .val (.double S), .second, .val (.double (XS')), .second, .val (.double (YS')), .second, .val (.double (XS')), .second, .val (.double (YS')), .second, .val (.double TT), .second, .unset, .unset]) rfl ?_
      show Steps p.tables e below (T1.setTop (mkF m 102 #[.val (.int a), .val (.int b), .val (.int shf), .val (.int sca), .val (.int fl), .val (.int sh), .val (.long ((a.toInt64 <<< (sh &&& 0x3f).toInt64) + b.toInt64)), .second, .val (.double (FP.l2d P)), .second, .val (.double X), .second, .val (.double Y), .second, .val (.double TU), .second, .val (.long lo), .second, .val (.double S), .second, .val (.double (XS')), .second, .val (.double (YS')), .second, .val (.double (XS')), .second, .val (.double (YS')), .second, .val (.double TT), .second, .unset, .unset] [])) _
      refine XS.dload X1.here hx rfl (hb hby at_102) rfl ?_
      show Steps p.tables e below (T1.setTop (mkF m 104 #[.val (.int a), .val (.int b), .val (.int shf), .val (.int sca), .val (.int fl), .val (.int sh), .val (.long ((a.toInt64 <<< (sh &&& 0x3f).toInt64) + b.toInt64)), .second, .val (.double (FP.l2d P)), .second, .val (.double X), .second, .val (.double Y), .second, .val (.double TU), .second, .val (.long lo), .second, .val (.double S), .second, .val (.double (XS')), .second, .val (.double (YS')), .second, .val (.double (XS')), .second, .val (.double (YS')), .second, .val (.double TT), .second, .unset, .unset] [(.double (XS'))])) _
      refine XS.dload X1.here hx rfl (hb hby at_104) rfl ?_
      show Steps p.tables e below (T1.setTop (mkF m 106 #[.val (.int a), .val (.int b), .val (.int shf), .val (.int sca), .val (.int fl), .val (.int sh), .val (.long ((a.toInt64 <<< (sh &&& 0x3f).toInt64) + b.toInt64)), .second, .val (.double (FP.l2d P)), .second, .val (.double X), .second, .val (.double Y), .second, .val (.double TU), .second, .val (.long lo), .second, .val (.double S), .second, .val (.double (XS')), .second, .val (.double (YS')), .second, .val (.double (XS')), .second, .val (.double (YS')), .second, .val (.double TT), .second, .unset, .unset] [(.double (YS')), (.double (XS'))])) _
      refine XS.dload X1.here hx rfl (hb hby at_106) rfl ?_
      show Steps p.tables e below (T1.setTop (mkF m 108 #[.val (.int a), .val (.int b), .val (.int shf), .val (.int sca), .val (.int fl), .val (.int sh), .val (.long ((a.toInt64 <<< (sh &&& 0x3f).toInt64) + b.toInt64)), .second, .val (.double (FP.l2d P)), .second, .val (.double X), .second, .val (.double Y), .second, .val (.double TU), .second, .val (.long lo), .second, .val (.double S), .second, .val (.double (XS')), .second, .val (.double (YS')), .second, .val (.double (XS')), .second, .val (.double (YS')), .second, .val (.double TT), .second, .unset, .unset] [(.double TT), (.double (YS')), (.double (XS'))])) _
      refine st2 _ ?_
      show Steps p.tables e below (T2.setTop (mkF m 111 #[.val (.int a), .val (.int b), .val (.int shf), .val (.int sca), .val (.int fl), .val (.int sh), .val (.long ((a.toInt64 <<< (sh &&& 0x3f).toInt64) + b.toInt64)), .second, .val (.double (FP.l2d P)), .second, .val (.double X), .second, .val (.double Y), .second, .val (.double TU), .second, .val (.long lo), .second, .val (.double S), .second, .val (.double (XS')), .second, .val (.double (YS')), .second, .val (.double (XS')), .second, .val (.double (YS')), .second, .val (.double TT), .second, .unset, .unset] [(.double (own_ro XS' YS' TT))])) _
      refine XS.dstore X2.here hx rfl (hb hby at_111) rfl (l' := #[.val (.int a), .val (.int b), .val (.int shf), .val (.int sca), .val (.int fl), .val (.int sh), .val (.long ((a.toInt64 <<< (sh &&& 0x3f).toInt64) + b.toInt64)), .second, .val (.double (FP.l2d P)), .second, .val (.double X), .second, .val (.double Y), .second, .val (.double TU), .second, .val (.long lo), .second, .val (.double S), .second, .val (.double (XS')), .second, .val (.double (YS')), .second, .val (.double (XS')), .second, .val (.double (YS')), .second, .val (.double TT), .second, .val (.double (own_ro XS' YS' TT)), .second]) rfl ?_
      show Steps p.tables e below (T2.setTop (mkF m 113 #[.val (.int a), .val (.int b), .val (.int shf), .val (.int sca), .val (.int fl), .val (.int sh), .val (.long ((a.toInt64 <<< (sh &&& 0x3f).toInt64) + b.toInt64)), .second, .val (.double (FP.l2d P)), .second, .val (.double X), .second, .val (.double Y), .second, .val (.double TU), .second, .val (.long lo), .second, .val (.double S), .second, .val (.double (XS')), .second, .val (.double (YS')), .second, .val (.double (XS')), .second, .val (.double (YS')), .second, .val (.double TT), .second, .val (.double (own_ro XS' YS' TT)), .second] [])) _
      refine XS.dload X2.here hx rfl (hb hby at_113) rfl ?_
      show Steps p.tables e below (T2.setTop (mkF m 115 #[.val (.int a), .val (.int b), .val (.int shf), .val (.int sca), .val (.int fl), .val (.int sh), .val (.long ((a.toInt64 <<< (sh &&& 0x3f).toInt64) + b.toInt64)), .second, .val (.double (FP.l2d P)), .second, .val (.double X), .second, .val (.double Y), .second, .val (.double TU), .second, .val (.long lo), .second, .val (.double S), .second, .val (.double (XS')), .second, .val (.double (YS')), .second, .val (.double (XS')), .second, .val (.double (YS')), .second, .val (.double TT), .second, .val (.double (own_ro XS' YS' TT)), .second] [(.double TT)])) _
      refine XS.dload X2.here hx rfl (hb hby at_115) rfl ?_
      show Steps p.tables e below (T2.setTop (mkF m 117 #[.val (.int a), .val (.int b), .val (.int shf), .val (.int sca), .val (.int fl), .val (.int sh), .val (.long ((a.toInt64 <<< (sh &&& 0x3f).toInt64) + b.toInt64)), .second, .val (.double (FP.l2d P)), .second, .val (.double X), .second, .val (.double Y), .second, .val (.double TU), .second, .val (.long lo), .second, .val (.double S), .second, .val (.double (XS')), .second, .val (.double (YS')), .second, .val (.double (XS')), .second, .val (.double (YS')), .second, .val (.double TT), .second, .val (.double (own_ro XS' YS' TT)), .second] [(.double TU), (.double TT)])) _
      refine XS.dload X2.here hx rfl (hb hby at_117) rfl ?_
      show Steps p.tables e below (T2.setTop (mkF m 119 #[.val (.int a), .val (.int b), .val (.int shf), .val (.int sca), .val (.int fl), .val (.int sh), .val (.long ((a.toInt64 <<< (sh &&& 0x3f).toInt64) + b.toInt64)), .second, .val (.double (FP.l2d P)), .second, .val (.double X), .second, .val (.double Y), .second, .val (.double TU), .second, .val (.long lo), .second, .val (.double S), .second, .val (.double (XS')), .second, .val (.double (YS')), .second, .val (.double (XS')), .second, .val (.double (YS')), .second, .val (.double TT), .second, .val (.double (own_ro XS' YS' TT)), .second] [(.double S), (.double TU), (.double TT)])) _
      refine XS.dmulS X2.here hx rfl (hb hby at_119) rfl (Jvm.Own.nn fTS) (v := FP.dmul TU S) rfl ?_
      show Steps p.tables e below (T2.setTop (mkF m 120 #[.val (.int a), .val (.int b), .val (.int shf), .val (.int sca), .val (.int fl), .val (.int sh), .val (.long ((a.toInt64 <<< (sh &&& 0x3f).toInt64) + b.toInt64)), .second, .val (.double (FP.l2d P)), .second, .val (.double X), .second, .val (.double Y), .second, .val (.double TU), .second, .val (.long lo), .second, .val (.double S), .second, .val (.double (XS')), .second, .val (.double (YS')), .second, .val (.double (XS')), .second, .val (.double (YS')), .second, .val (.double TT), .second, .val (.double (own_ro XS' YS' TT)), .second] [(.double (FP.dmul TU S)), (.double TT)])) _
      refine XS.dcmpS X2.here hx rfl (hb hby at_120) rfl (v := Jvm.Op.cmpValue (FP.dcmp TT (FP.dmul TU S)) .l) rfl ?_
      show Steps p.tables e below (T2.setTop (mkF m 121 #[.val (.int a), .val (.int b), .val (.int shf), .val (.int sca), .val (.int fl), .val (.int sh), .val (.long ((a.toInt64 <<< (sh &&& 0x3f).toInt64) + b.toInt64)), .second, .val (.double (FP.l2d P)), .second, .val (.double X), .second, .val (.double Y), .second, .val (.double TU), .second, .val (.long lo), .second, .val (.double S), .second, .val (.double (XS')), .second, .val (.double (YS')), .second, .val (.double (XS')), .second, .val (.double (YS')), .second, .val (.double TT), .second, .val (.double (own_ro XS' YS' TT)), .second] [(.int (Jvm.Op.cmpValue (FP.dcmp TT (FP.dmul TU S)) .l))])) _
      refine XS.ifNo X2.here hx rfl (hb hby at_121) rfl ((Jvm.Own.holdsD fT fTS _ _).trans (Jvm.Own.dF (by rw [zTS]; exact fun q => q rfl))) ?_
      show Steps p.tables e below (T2.setTop (mkF m 124 #[.val (.int a), .val (.int b), .val (.int shf), .val (.int sca), .val (.int fl), .val (.int sh), .val (.long ((a.toInt64 <<< (sh &&& 0x3f).toInt64) + b.toInt64)), .second, .val (.double (FP.l2d P)), .second, .val (.double X), .second, .val (.double Y), .second, .val (.double TU), .second, .val (.long lo), .second, .val (.double S), .second, .val (.double (XS')), .second, .val (.double (YS')), .second, .val (.double (XS')), .second, .val (.double (YS')), .second, .val (.double TT), .second, .val (.double (own_ro XS' YS' TT)), .second] [])) _
      refine XS.dload X2.here hx rfl (hb hby at_124) rfl ?_
      show Steps p.tables e below (T2.setTop (mkF m 126 #[.val (.int a), .val (.int b), .val (.int shf), .val (.int sca), .val (.int fl), .val (.int sh), .val (.long ((a.toInt64 <<< (sh &&& 0x3f).toInt64) + b.toInt64)), .second, .val (.double (FP.l2d P)), .second, .val (.double X), .second, .val (.double Y), .second, .val (.double TU), .second, .val (.long lo), .second, .val (.double S), .second, .val (.double (XS')), .second, .val (.double (YS')), .second, .val (.double (XS')), .second, .val (.double (YS')), .second, .val (.double TT), .second, .val (.double (own_ro XS' YS' TT)), .second] [(.double (own_ro XS' YS' TT))])) _
      refine XS.lload X2.here hx rfl (hb hby at_126) rfl ?_
      show Steps p.tables e below (T2.setTop (mkF m 128 #[.val (.int a), .val (.int b), .val (.int shf), .val (.int sca), .val (.int fl), .val (.int sh), .val (.long ((a.toInt64 <<< (sh &&& 0x3f).toInt64) + b.toInt64)), .second, .val (.double (FP.l2d P)), .second, .val (.double X), .second, .val (.double Y), .second, .val (.double TU), .second, .val (.long lo), .second, .val (.double S), .second, .val (.double (XS')), .second, .val (.double (YS')), .second, .val (.double (XS')), .second, .val (.double (YS')), .second, .val (.double TT), .second, .val (.double (own_ro XS' YS' TT)), .second] [(.long lo), (.double (own_ro XS' YS' TT))])) _
      refine XS.l2dS X2.here hx rfl (hb hby at_128) rfl (v := FP.l2d lo) rfl ?_
      show Steps p.tables e below (T2.setTop (mkF m 129 #[.val (.int a), .val (.int b), .val (.int shf), .val (.int sca), .val (.int fl), .val (.int sh), .val (.long ((a.toInt64 <<< (sh &&& 0x3f).toInt64) + b.toInt64)), .second, .val (.double (FP.l2d P)), .second, .val (.double X), .second, .val (.double Y), .second, .val (.double TU), .second, .val (.long lo), .second, .val (.double S), .second, .val (.double (XS')), .second, .val (.double (YS')), .second, .val (.double (XS')), .second, .val (.double (YS')), .second, .val (.double TT), .second, .val (.double (own_ro XS' YS' TT)), .second] [(.double (FP.l2d lo)), (.double (own_ro XS' YS' TT))])) _
      refine XS.dload X2.here hx rfl (hb hby at_129) rfl ?_
      show Steps p.tables e below (T2.setTop (mkF m 131 #[.val (.int a), .val (.int b), .val (.int shf), .val (.int sca), .val (.int fl), .val (.int sh), .val (.long ((a.toInt64 <<< (sh &&& 0x3f).toInt64) + b.toInt64)), .second, .val (.double (FP.l2d P)), .second, .val (.double X), .second, .val (.double Y), .second, .val (.double TU), .second, .val (.long lo), .second, .val (.double S), .second, .val (.double (XS')), .second, .val (.double (YS')), .second, .val (.double (XS')), .second, .val (.double (YS')), .second, .val (.double TT), .second, .val (.double (own_ro XS' YS' TT)), .second] [(.double S), (.double (FP.l2d lo)), (.double (own_ro XS' YS' TT))])) _
      refine XS.dmulS X2.here hx rfl (hb hby at_131) rfl (Jvm.Own.nn fl2) (v := FP.dmul (FP.l2d lo) S) rfl ?_
      show Steps p.tables e below (T2.setTop (mkF m 132 #[.val (.int a), .val (.int b), .val (.int shf), .val (.int sca), .val (.int fl), .val (.int sh), .val (.long ((a.toInt64 <<< (sh &&& 0x3f).toInt64) + b.toInt64)), .second, .val (.double (FP.l2d P)), .second, .val (.double X), .second, .val (.double Y), .second, .val (.double TU), .second, .val (.long lo), .second, .val (.double S), .second, .val (.double (XS')), .second, .val (.double (YS')), .second, .val (.double (XS')), .second, .val (.double (YS')), .second, .val (.double TT), .second, .val (.double (own_ro XS' YS' TT)), .second] [(.double (FP.dmul (FP.l2d lo) S)), (.double (own_ro XS' YS' TT))])) _
      refine XS.dcmpS X2.here hx rfl (hb hby at_132) rfl (v := Jvm.Op.cmpValue (FP.dcmp (own_ro XS' YS' TT) (FP.dmul (FP.l2d lo) S)) .l) rfl ?_
      show Steps p.tables e below (T2.setTop (mkF m 133 #[.val (.int a), .val (.int b), .val (.int shf), .val (.int sca), .val (.int fl), .val (.int sh), .val (.long ((a.toInt64 <<< (sh &&& 0x3f).toInt64) + b.toInt64)), .second, .val (.double (FP.l2d P)), .second, .val (.double X), .second, .val (.double Y), .second, .val (.double TU), .second, .val (.long lo), .second, .val (.double S), .second, .val (.double (XS')), .second, .val (.double (YS')), .second, .val (.double (XS')), .second, .val (.double (YS')), .second, .val (.double TT), .second, .val (.double (own_ro XS' YS' TT)), .second] [(.int (Jvm.Op.cmpValue (FP.dcmp (own_ro XS' YS' TT) (FP.dmul (FP.l2d lo) S)) .l))])) _
      refine XS.ifNo X2.here hx rfl (hb hby at_133) rfl ((Jvm.Own.holdsD (show Jvm.FP.Core.DFin (own_ro XS' YS' TT) from g5) fl2 _ _).trans (Jvm.Own.dF (fun q => q (by rw [show Jvm.Own.z (own_ro XS' YS' TT) = _ from zr, zl2, hlost])))) ?_
      show Steps p.tables e below (T2.setTop (mkF m 136 #[.val (.int a), .val (.int b), .val (.int shf), .val (.int sca), .val (.int fl), .val (.int sh), .val (.long ((a.toInt64 <<< (sh &&& 0x3f).toInt64) + b.toInt64)), .second, .val (.double (FP.l2d P)), .second, .val (.double X), .second, .val (.double Y), .second, .val (.double TU), .second, .val (.long lo), .second, .val (.double S), .second, .val (.double (XS')), .second, .val (.double (YS')), .second, .val (.double (XS')), .second, .val (.double (YS')), .second, .val (.double TT), .second, .val (.double (own_ro XS' YS' TT)), .second] [])) _
      refine XS.iconst X2.here hx rfl (hb hby at_136) ?_
      show Steps p.tables e below (T2.setTop (mkF m 137 #[.val (.int a), .val (.int b), .val (.int shf), .val (.int sca), .val (.int fl), .val (.int sh), .val (.long ((a.toInt64 <<< (sh &&& 0x3f).toInt64) + b.toInt64)), .second, .val (.double (FP.l2d P)), .second, .val (.double X), .second, .val (.double Y), .second, .val (.double TU), .second, .val (.long lo), .second, .val (.double S), .second, .val (.double (XS')), .second, .val (.double (YS')), .second, .val (.double (XS')), .second, .val (.double (YS')), .second, .val (.double TT), .second, .val (.double (own_ro XS' YS' TT)), .second] [(.int (1 : Int32))])) _
      refine XS.goto X2.here hx rfl (pc0 := 137) (pc' := 141) rfl (hb hby at_137) (by decide) (by decide) ?_
      show Steps p.tables e below (T2.setTop (mkF m 141 #[.val (.int a), .val (.int b), .val (.int shf), .val (.int sca), .val (.int fl), .val (.int sh), .val (.long ((a.toInt64 <<< (sh &&& 0x3f).toInt64) + b.toInt64)), .second, .val (.double (FP.l2d P)), .second, .val (.double X), .second, .val (.double Y), .second, .val (.double TU), .second, .val (.long lo), .second, .val (.double S), .second, .val (.double (XS')), .second, .val (.double (YS')), .second, .val (.double (XS')), .second, .val (.double (YS')), .second, .val (.double TT), .second, .val (.double (own_ro XS' YS' TT)), .second] [(.int (1 : Int32))])) _
      exact retN X2 hx (t := .boolean) Bd.returns (by simp) (hb hby at_141) hr
    · show QL n0 _ T2.heap _
      exact ⟨rfl, Fr.app (Fr.app N0 N1) N2⟩
  · have rT := Jvm.Own.rnd_dadd fys fxs
    rw [zys, zxs, ← Int.add_mul, Int.add_comm b.toInt] at rT
    obtain ⟨fT, zT⟩ := hR J _ (by omega) (by omega) rT
    obtain ⟨TT, hTT⟩ : ∃ v, FP.dadd YS' XS' = v := ⟨_, rfl⟩
    have nTT : Jvm.Free.Fl.NoNaN64 (FP.dadd YS' XS') := Jvm.Own.nn fT
    rw [show FP.Core.dadd YS' XS' = FP.dadd YS' XS' from rfl, hTT] at fT zT
    obtain ⟨⟨g1, g2, g3, g4, g5⟩, zr⟩ := Jvm.Own.two_sum (J := J) (by omega) (by omega) fys zys fxs zxs fT zT (by omega) (by omega) (by omega) (by omega)
    obtain ⟨fTS, zTS⟩ := rTS.exactV fT (by rw [zT]; simp)
    obtain ⟨_, _, ⟨T1, L1, k1, n1⟩, -, X1, ⟨Lc1, hQ1, l1, y1, z1⟩, st1⟩ := Jvm.LawKit.callS X0 hx (y := (⟨"com/example/gaithersburg/gaithersburg/graph/DoubleDoubleRoundingOfPinLaw", "scaleOf", "(I)D"⟩ : MethodName)) hown (mvT hZ (hw _ (List.mem_of_getElem? (i := 0) rfl))) (mvT hZ (hw _ (List.mem_of_getElem? (i := 1) rfl))) (mvT hZ (hw _ (List.mem_of_getElem? (i := 2) rfl))) (mvT hZ (hw _ (List.mem_of_getElem? (i := 3) rfl))) (by decide) (backOf (W := 0) (rmSc l Z a0 hw [] sca h0 n0 Z0 s1 s2 s3 s4 s5 s6 s7 s8 s9 s10 S q0 q1 q2 q3 q4 q5 q6 q7 q8 q9 nS hS) hZ (hw _ (List.mem_of_getElem? (i := 3) rfl)) (hw _ (List.mem_of_getElem? (i := 2) rfl)) (by decide) (by decide)) (g := (mkF m 50 #[.val (.int a), .val (.int b), .val (.int shf), .val (.int sca), .val (.int fl), .val (.int sh), .val (.long ((a.toInt64 <<< (sh &&& 0x3f).toInt64) + b.toInt64)), .second, .val (.double (FP.l2d P)), .second, .val (.double X), .second, .val (.double Y), .second, .val (.double TU), .second, .val (.long lo), .second, .unset, .unset, .unset, .unset, .unset, .unset, .unset, .unset, .unset, .unset, .unset, .unset, .unset, .unset] [(.int sca)])) rfl (by rw [hml]; rfl) (argsL := [(.int sca)]) (rest := []) (lenOf pd_0 rfl) rfl (by show 2 * 0 + _ ≤ _; exact Nat.le_of_eq rfl) (hb hby at_50) (fun _ _ => ⟨rfl, e0, (by decide : 0 + 0 ≤ _), (by decide : 0 + 0 ≤ _)⟩)
    dsimp only [Pt.U, Pt.locs, Pt.cells, Pt.slots] at X1 l1 y1 z1 st1 hQ1
    subst l1 y1 z1
    obtain ⟨rfl, N1, e1⟩ := hQ1
    obtain ⟨_, _, ⟨T2, L2, k2, n2⟩, -, X2, ⟨Lc2, hQ2, l2, y2, z2⟩, st2⟩ := Jvm.LawKit.callS X1 hx (y := (⟨"com/example/gaithersburg/gaithersburg/graph/DoubleDouble", "roundingOf", "(DDD)D"⟩ : MethodName)) hown (mvT hZ (hw _ (List.mem_of_getElem? (i := 6) rfl))) (mvT hZ (hw _ (List.mem_of_getElem? (i := 7) rfl))) (mvT hZ (hw _ (List.mem_of_getElem? (i := 8) rfl))) (mvT hZ (hw _ (List.mem_of_getElem? (i := 9) rfl))) (by decide) (backOf (W := 0) (rmRo l Z a0 hw [] YS' XS' TT h0 n0 Z0 (Jvm.Own.nn g1) (Jvm.Own.nn g2) (Jvm.Own.nn g3) (Jvm.Own.nn g4) (Jvm.Own.nn g5)) hZ (hw _ (List.mem_of_getElem? (i := 9) rfl)) (hw _ (List.mem_of_getElem? (i := 8) rfl)) (by decide) (by decide)) (g := (mkF m 108 #[.val (.int a), .val (.int b), .val (.int shf), .val (.int sca), .val (.int fl), .val (.int sh), .val (.long ((a.toInt64 <<< (sh &&& 0x3f).toInt64) + b.toInt64)), .second, .val (.double (FP.l2d P)), .second, .val (.double X), .second, .val (.double Y), .second, .val (.double TU), .second, .val (.long lo), .second, .val (.double S), .second, .val (.double (XS')), .second, .val (.double (YS')), .second, .val (.double (YS')), .second, .val (.double (XS')), .second, .val (.double TT), .second, .unset, .unset] [(.double TT), (.double (XS')), (.double (YS'))])) rfl (by rw [hml]; rfl) (argsL := [(.double (YS')), (.double (XS')), (.double TT)]) (rest := []) (lenOf pd_1 rfl) rfl (by show 2 * 0 + _ ≤ _; exact Nat.le_of_eq rfl) (hb hby at_108) (fun _ _ => ⟨rfl, e1, (by decide : 0 + 0 ≤ _), (by decide : 0 + 0 ≤ _)⟩)
    dsimp only [Pt.U, Pt.locs, Pt.cells, Pt.slots] at X2 l2 y2 z2 st2 hQ2
    subst l2 y2 z2
    obtain ⟨rfl, N2, e2⟩ := hQ2
    obtain ⟨fs, hr, hrun, hended, hW, hsame⟩ := X2.leave (v := some (.int (1 : Int32))) (fun h => by rw [Bd.returns] at h; cases h)
    refine ⟨_, _, pre0 _ ?_, hrun, hended, _, _, rfl, ?_, ⟨_, rfl⟩, hW, hsame.mono (by decide) (by decide)⟩
    · show Steps p.tables e below (s₁.setTop (mkF m 0 #[.val (.int a), .val (.int b), .val (.int shf), .val (.int sca), .val (.int fl), .unset, .unset, .unset, .unset, .unset, .unset, .unset, .unset, .unset, .unset, .unset, .unset, .unset, .unset, .unset, .unset, .unset, .unset, .unset, .unset, .unset, .unset, .unset, .unset, .unset, .unset, .unset] [])) _
      refine XS.iloadN X0.here hx rfl (hb hby at_0) rfl ?_
      show Steps p.tables e below (s₁.setTop (mkF m 1 #[.val (.int a), .val (.int b), .val (.int shf), .val (.int sca), .val (.int fl), .unset, .unset, .unset, .unset, .unset, .unset, .unset, .unset, .unset, .unset, .unset, .unset, .unset, .unset, .unset, .unset, .unset, .unset, .unset, .unset, .unset, .unset, .unset, .unset, .unset, .unset, .unset] [(.int shf)])) _
      refine XS.bipush X0.here hx rfl (hb hby at_1) ?_
      show Steps p.tables e below (s₁.setTop (mkF m 3 #[.val (.int a), .val (.int b), .val (.int shf), .val (.int sca), .val (.int fl), .unset, .unset, .unset, .unset, .unset, .unset, .unset, .unset, .unset, .unset, .unset, .unset, .unset, .unset, .unset, .unset, .unset, .unset, .unset, .unset, .unset, .unset, .unset, .unset, .unset, .unset, .unset] [(.int (31 : Int32)), (.int shf)])) _
      refine XS.iand X0.here hx rfl (hb hby at_3) rfl ?_
      rw [hsh]
      show Steps p.tables e below (s₁.setTop (mkF m 4 #[.val (.int a), .val (.int b), .val (.int shf), .val (.int sca), .val (.int fl), .unset, .unset, .unset, .unset, .unset, .unset, .unset, .unset, .unset, .unset, .unset, .unset, .unset, .unset, .unset, .unset, .unset, .unset, .unset, .unset, .unset, .unset, .unset, .unset, .unset, .unset, .unset] [(.int sh)])) _
      refine XS.istore X0.here hx rfl (hb hby at_4) rfl (l' := #[.val (.int a), .val (.int b), .val (.int shf), .val (.int sca), .val (.int fl), .val (.int sh), .unset, .unset, .unset, .unset, .unset, .unset, .unset, .unset, .unset, .unset, .unset, .unset, .unset, .unset, .unset, .unset, .unset, .unset, .unset, .unset, .unset, .unset, .unset, .unset, .unset, .unset]) rfl ?_
      show Steps p.tables e below (s₁.setTop (mkF m 6 #[.val (.int a), .val (.int b), .val (.int shf), .val (.int sca), .val (.int fl), .val (.int sh), .unset, .unset, .unset, .unset, .unset, .unset, .unset, .unset, .unset, .unset, .unset, .unset, .unset, .unset, .unset, .unset, .unset, .unset, .unset, .unset, .unset, .unset, .unset, .unset, .unset, .unset] [])) _
      refine XS.iloadN X0.here hx rfl (hb hby at_6) rfl ?_
      show Steps p.tables e below (s₁.setTop (mkF m 7 #[.val (.int a), .val (.int b), .val (.int shf), .val (.int sca), .val (.int fl), .val (.int sh), .unset, .unset, .unset, .unset, .unset, .unset, .unset, .unset, .unset, .unset, .unset, .unset, .unset, .unset, .unset, .unset, .unset, .unset, .unset, .unset, .unset, .unset, .unset, .unset, .unset, .unset] [(.int a)])) _
      refine XS.i2l X0.here hx rfl (hb hby at_7) rfl ?_
      show Steps p.tables e below (s₁.setTop (mkF m 8 #[.val (.int a), .val (.int b), .val (.int shf), .val (.int sca), .val (.int fl), .val (.int sh), .unset, .unset, .unset, .unset, .unset, .unset, .unset, .unset, .unset, .unset, .unset, .unset, .unset, .unset, .unset, .unset, .unset, .unset, .unset, .unset, .unset, .unset, .unset, .unset, .unset, .unset] [(.long a.toInt64)])) _
      refine XS.iload X0.here hx rfl (hb hby at_8) rfl ?_
      show Steps p.tables e below (s₁.setTop (mkF m 10 #[.val (.int a), .val (.int b), .val (.int shf), .val (.int sca), .val (.int fl), .val (.int sh), .unset, .unset, .unset, .unset, .unset, .unset, .unset, .unset, .unset, .unset, .unset, .unset, .unset, .unset, .unset, .unset, .unset, .unset, .unset, .unset, .unset, .unset, .unset, .unset, .unset, .unset] [(.int sh), (.long a.toInt64)])) _
      refine XS.lshl X0.here hx rfl (hb hby at_10) rfl ?_
      show Steps p.tables e below (s₁.setTop (mkF m 11 #[.val (.int a), .val (.int b), .val (.int shf), .val (.int sca), .val (.int fl), .val (.int sh), .unset, .unset, .unset, .unset, .unset, .unset, .unset, .unset, .unset, .unset, .unset, .unset, .unset, .unset, .unset, .unset, .unset, .unset, .unset, .unset, .unset, .unset, .unset, .unset, .unset, .unset] [(.long (a.toInt64 <<< (sh &&& 0x3f).toInt64))])) _
      refine XS.iloadN X0.here hx rfl (hb hby at_11) rfl ?_
      show Steps p.tables e below (s₁.setTop (mkF m 12 #[.val (.int a), .val (.int b), .val (.int shf), .val (.int sca), .val (.int fl), .val (.int sh), .unset, .unset, .unset, .unset, .unset, .unset, .unset, .unset, .unset, .unset, .unset, .unset, .unset, .unset, .unset, .unset, .unset, .unset, .unset, .unset, .unset, .unset, .unset, .unset, .unset, .unset] [(.int b), (.long (a.toInt64 <<< (sh &&& 0x3f).toInt64))])) _
      refine XS.i2l X0.here hx rfl (hb hby at_12) rfl ?_
      show Steps p.tables e below (s₁.setTop (mkF m 13 #[.val (.int a), .val (.int b), .val (.int shf), .val (.int sca), .val (.int fl), .val (.int sh), .unset, .unset, .unset, .unset, .unset, .unset, .unset, .unset, .unset, .unset, .unset, .unset, .unset, .unset, .unset, .unset, .unset, .unset, .unset, .unset, .unset, .unset, .unset, .unset, .unset, .unset] [(.long b.toInt64), (.long (a.toInt64 <<< (sh &&& 0x3f).toInt64))])) _
      refine XS.ladd X0.here hx rfl (hb hby at_13) rfl ?_
      show Steps p.tables e below (s₁.setTop (mkF m 14 #[.val (.int a), .val (.int b), .val (.int shf), .val (.int sca), .val (.int fl), .val (.int sh), .unset, .unset, .unset, .unset, .unset, .unset, .unset, .unset, .unset, .unset, .unset, .unset, .unset, .unset, .unset, .unset, .unset, .unset, .unset, .unset, .unset, .unset, .unset, .unset, .unset, .unset] [(.long ((a.toInt64 <<< (sh &&& 0x3f).toInt64) + b.toInt64))])) _
      refine XS.lstore X0.here hx rfl (hb hby at_14) rfl (l' := #[.val (.int a), .val (.int b), .val (.int shf), .val (.int sca), .val (.int fl), .val (.int sh), .val (.long ((a.toInt64 <<< (sh &&& 0x3f).toInt64) + b.toInt64)), .second, .unset, .unset, .unset, .unset, .unset, .unset, .unset, .unset, .unset, .unset, .unset, .unset, .unset, .unset, .unset, .unset, .unset, .unset, .unset, .unset, .unset, .unset, .unset, .unset]) rfl ?_
      show Steps p.tables e below (s₁.setTop (mkF m 16 #[.val (.int a), .val (.int b), .val (.int shf), .val (.int sca), .val (.int fl), .val (.int sh), .val (.long ((a.toInt64 <<< (sh &&& 0x3f).toInt64) + b.toInt64)), .second, .unset, .unset, .unset, .unset, .unset, .unset, .unset, .unset, .unset, .unset, .unset, .unset, .unset, .unset, .unset, .unset, .unset, .unset, .unset, .unset, .unset, .unset, .unset, .unset] [])) _
      refine XS.lconst X0.here hx rfl (hb hby at_16) ?_
      show Steps p.tables e below (s₁.setTop (mkF m 17 #[.val (.int a), .val (.int b), .val (.int shf), .val (.int sca), .val (.int fl), .val (.int sh), .val (.long ((a.toInt64 <<< (sh &&& 0x3f).toInt64) + b.toInt64)), .second, .unset, .unset, .unset, .unset, .unset, .unset, .unset, .unset, .unset, .unset, .unset, .unset, .unset, .unset, .unset, .unset, .unset, .unset, .unset, .unset, .unset, .unset, .unset, .unset] [(.long (1 : Int64))])) _
      refine XS.iload X0.here hx rfl (hb hby at_17) rfl ?_
      show Steps p.tables e below (s₁.setTop (mkF m 19 #[.val (.int a), .val (.int b), .val (.int shf), .val (.int sca), .val (.int fl), .val (.int sh), .val (.long ((a.toInt64 <<< (sh &&& 0x3f).toInt64) + b.toInt64)), .second, .unset, .unset, .unset, .unset, .unset, .unset, .unset, .unset, .unset, .unset, .unset, .unset, .unset, .unset, .unset, .unset, .unset, .unset, .unset, .unset, .unset, .unset, .unset, .unset] [(.int sh), (.long (1 : Int64))])) _
      refine XS.lshl X0.here hx rfl (hb hby at_19) rfl ?_
      rw [hP]
      show Steps p.tables e below (s₁.setTop (mkF m 20 #[.val (.int a), .val (.int b), .val (.int shf), .val (.int sca), .val (.int fl), .val (.int sh), .val (.long ((a.toInt64 <<< (sh &&& 0x3f).toInt64) + b.toInt64)), .second, .unset, .unset, .unset, .unset, .unset, .unset, .unset, .unset, .unset, .unset, .unset, .unset, .unset, .unset, .unset, .unset, .unset, .unset, .unset, .unset, .unset, .unset, .unset, .unset] [(.long P)])) _
      refine XS.l2dS X0.here hx rfl (hb hby at_20) rfl (v := FP.l2d P) rfl ?_
      show Steps p.tables e below (s₁.setTop (mkF m 21 #[.val (.int a), .val (.int b), .val (.int shf), .val (.int sca), .val (.int fl), .val (.int sh), .val (.long ((a.toInt64 <<< (sh &&& 0x3f).toInt64) + b.toInt64)), .second, .unset, .unset, .unset, .unset, .unset, .unset, .unset, .unset, .unset, .unset, .unset, .unset, .unset, .unset, .unset, .unset, .unset, .unset, .unset, .unset, .unset, .unset, .unset, .unset] [(.double (FP.l2d P))])) _
      refine XS.dstore X0.here hx rfl (hb hby at_21) rfl (l' := #[.val (.int a), .val (.int b), .val (.int shf), .val (.int sca), .val (.int fl), .val (.int sh), .val (.long ((a.toInt64 <<< (sh &&& 0x3f).toInt64) + b.toInt64)), .second, .val (.double (FP.l2d P)), .second, .unset, .unset, .unset, .unset, .unset, .unset, .unset, .unset, .unset, .unset, .unset, .unset, .unset, .unset, .unset, .unset, .unset, .unset, .unset, .unset, .unset, .unset]) rfl ?_
      show Steps p.tables e below (s₁.setTop (mkF m 23 #[.val (.int a), .val (.int b), .val (.int shf), .val (.int sca), .val (.int fl), .val (.int sh), .val (.long ((a.toInt64 <<< (sh &&& 0x3f).toInt64) + b.toInt64)), .second, .val (.double (FP.l2d P)), .second, .unset, .unset, .unset, .unset, .unset, .unset, .unset, .unset, .unset, .unset, .unset, .unset, .unset, .unset, .unset, .unset, .unset, .unset, .unset, .unset, .unset, .unset] [])) _
      refine XS.iloadN X0.here hx rfl (hb hby at_23) rfl ?_
      show Steps p.tables e below (s₁.setTop (mkF m 24 #[.val (.int a), .val (.int b), .val (.int shf), .val (.int sca), .val (.int fl), .val (.int sh), .val (.long ((a.toInt64 <<< (sh &&& 0x3f).toInt64) + b.toInt64)), .second, .val (.double (FP.l2d P)), .second, .unset, .unset, .unset, .unset, .unset, .unset, .unset, .unset, .unset, .unset, .unset, .unset, .unset, .unset, .unset, .unset, .unset, .unset, .unset, .unset, .unset, .unset] [(.int a)])) _
      refine XS.i2dS X0.here hx rfl (hb hby at_24) rfl (v := FP.i2d a) rfl ?_
      show Steps p.tables e below (s₁.setTop (mkF m 25 #[.val (.int a), .val (.int b), .val (.int shf), .val (.int sca), .val (.int fl), .val (.int sh), .val (.long ((a.toInt64 <<< (sh &&& 0x3f).toInt64) + b.toInt64)), .second, .val (.double (FP.l2d P)), .second, .unset, .unset, .unset, .unset, .unset, .unset, .unset, .unset, .unset, .unset, .unset, .unset, .unset, .unset, .unset, .unset, .unset, .unset, .unset, .unset, .unset, .unset] [(.double (FP.i2d a))])) _
      refine XS.dload X0.here hx rfl (hb hby at_25) rfl ?_
      show Steps p.tables e below (s₁.setTop (mkF m 27 #[.val (.int a), .val (.int b), .val (.int shf), .val (.int sca), .val (.int fl), .val (.int sh), .val (.long ((a.toInt64 <<< (sh &&& 0x3f).toInt64) + b.toInt64)), .second, .val (.double (FP.l2d P)), .second, .unset, .unset, .unset, .unset, .unset, .unset, .unset, .unset, .unset, .unset, .unset, .unset, .unset, .unset, .unset, .unset, .unset, .unset, .unset, .unset, .unset, .unset] [(.double (FP.l2d P)), (.double (FP.i2d a))])) _
      refine XS.dmulS X0.here hx rfl (hb hby at_27) rfl nX (v := X) hX ?_
      show Steps p.tables e below (s₁.setTop (mkF m 28 #[.val (.int a), .val (.int b), .val (.int shf), .val (.int sca), .val (.int fl), .val (.int sh), .val (.long ((a.toInt64 <<< (sh &&& 0x3f).toInt64) + b.toInt64)), .second, .val (.double (FP.l2d P)), .second, .unset, .unset, .unset, .unset, .unset, .unset, .unset, .unset, .unset, .unset, .unset, .unset, .unset, .unset, .unset, .unset, .unset, .unset, .unset, .unset, .unset, .unset] [(.double X)])) _
      refine XS.dstore X0.here hx rfl (hb hby at_28) rfl (l' := #[.val (.int a), .val (.int b), .val (.int shf), .val (.int sca), .val (.int fl), .val (.int sh), .val (.long ((a.toInt64 <<< (sh &&& 0x3f).toInt64) + b.toInt64)), .second, .val (.double (FP.l2d P)), .second, .val (.double X), .second, .unset, .unset, .unset, .unset, .unset, .unset, .unset, .unset, .unset, .unset, .unset, .unset, .unset, .unset, .unset, .unset, .unset, .unset, .unset, .unset]) rfl ?_
      show Steps p.tables e below (s₁.setTop (mkF m 30 #[.val (.int a), .val (.int b), .val (.int shf), .val (.int sca), .val (.int fl), .val (.int sh), .val (.long ((a.toInt64 <<< (sh &&& 0x3f).toInt64) + b.toInt64)), .second, .val (.double (FP.l2d P)), .second, .val (.double X), .second, .unset, .unset, .unset, .unset, .unset, .unset, .unset, .unset, .unset, .unset, .unset, .unset, .unset, .unset, .unset, .unset, .unset, .unset, .unset, .unset] [])) _
      refine XS.iloadN X0.here hx rfl (hb hby at_30) rfl ?_
      show Steps p.tables e below (s₁.setTop (mkF m 31 #[.val (.int a), .val (.int b), .val (.int shf), .val (.int sca), .val (.int fl), .val (.int sh), .val (.long ((a.toInt64 <<< (sh &&& 0x3f).toInt64) + b.toInt64)), .second, .val (.double (FP.l2d P)), .second, .val (.double X), .second, .unset, .unset, .unset, .unset, .unset, .unset, .unset, .unset, .unset, .unset, .unset, .unset, .unset, .unset, .unset, .unset, .unset, .unset, .unset, .unset] [(.int b)])) _
      refine XS.i2dS X0.here hx rfl (hb hby at_31) rfl (v := Y) hY ?_
      show Steps p.tables e below (s₁.setTop (mkF m 32 #[.val (.int a), .val (.int b), .val (.int shf), .val (.int sca), .val (.int fl), .val (.int sh), .val (.long ((a.toInt64 <<< (sh &&& 0x3f).toInt64) + b.toInt64)), .second, .val (.double (FP.l2d P)), .second, .val (.double X), .second, .unset, .unset, .unset, .unset, .unset, .unset, .unset, .unset, .unset, .unset, .unset, .unset, .unset, .unset, .unset, .unset, .unset, .unset, .unset, .unset] [(.double Y)])) _
      refine XS.dstore X0.here hx rfl (hb hby at_32) rfl (l' := #[.val (.int a), .val (.int b), .val (.int shf), .val (.int sca), .val (.int fl), .val (.int sh), .val (.long ((a.toInt64 <<< (sh &&& 0x3f).toInt64) + b.toInt64)), .second, .val (.double (FP.l2d P)), .second, .val (.double X), .second, .val (.double Y), .second, .unset, .unset, .unset, .unset, .unset, .unset, .unset, .unset, .unset, .unset, .unset, .unset, .unset, .unset, .unset, .unset, .unset, .unset]) rfl ?_
      show Steps p.tables e below (s₁.setTop (mkF m 34 #[.val (.int a), .val (.int b), .val (.int shf), .val (.int sca), .val (.int fl), .val (.int sh), .val (.long ((a.toInt64 <<< (sh &&& 0x3f).toInt64) + b.toInt64)), .second, .val (.double (FP.l2d P)), .second, .val (.double X), .second, .val (.double Y), .second, .unset, .unset, .unset, .unset, .unset, .unset, .unset, .unset, .unset, .unset, .unset, .unset, .unset, .unset, .unset, .unset, .unset, .unset] [])) _
      refine XS.dload X0.here hx rfl (hb hby at_34) rfl ?_
      show Steps p.tables e below (s₁.setTop (mkF m 36 #[.val (.int a), .val (.int b), .val (.int shf), .val (.int sca), .val (.int fl), .val (.int sh), .val (.long ((a.toInt64 <<< (sh &&& 0x3f).toInt64) + b.toInt64)), .second, .val (.double (FP.l2d P)), .second, .val (.double X), .second, .val (.double Y), .second, .unset, .unset, .unset, .unset, .unset, .unset, .unset, .unset, .unset, .unset, .unset, .unset, .unset, .unset, .unset, .unset, .unset, .unset] [(.double X)])) _
      refine XS.dload X0.here hx rfl (hb hby at_36) rfl ?_
      show Steps p.tables e below (s₁.setTop (mkF m 38 #[.val (.int a), .val (.int b), .val (.int shf), .val (.int sca), .val (.int fl), .val (.int sh), .val (.long ((a.toInt64 <<< (sh &&& 0x3f).toInt64) + b.toInt64)), .second, .val (.double (FP.l2d P)), .second, .val (.double X), .second, .val (.double Y), .second, .unset, .unset, .unset, .unset, .unset, .unset, .unset, .unset, .unset, .unset, .unset, .unset, .unset, .unset, .unset, .unset, .unset, .unset] [(.double Y), (.double X)])) _
      refine XS.daddS X0.here hx rfl (hb hby at_38) rfl nTU (v := TU) hTU ?_
      show Steps p.tables e below (s₁.setTop (mkF m 39 #[.val (.int a), .val (.int b), .val (.int shf), .val (.int sca), .val (.int fl), .val (.int sh), .val (.long ((a.toInt64 <<< (sh &&& 0x3f).toInt64) + b.toInt64)), .second, .val (.double (FP.l2d P)), .second, .val (.double X), .second, .val (.double Y), .second, .unset, .unset, .unset, .unset, .unset, .unset, .unset, .unset, .unset, .unset, .unset, .unset, .unset, .unset, .unset, .unset, .unset, .unset] [(.double TU)])) _
      refine XS.dstore X0.here hx rfl (hb hby at_39) rfl (l' := #[.val (.int a), .val (.int b), .val (.int shf), .val (.int sca), .val (.int fl), .val (.int sh), .val (.long ((a.toInt64 <<< (sh &&& 0x3f).toInt64) + b.toInt64)), .second, .val (.double (FP.l2d P)), .second, .val (.double X), .second, .val (.double Y), .second, .val (.double TU), .second, .unset, .unset, .unset, .unset, .unset, .unset, .unset, .unset, .unset, .unset, .unset, .unset, .unset, .unset, .unset, .unset]) rfl ?_
      show Steps p.tables e below (s₁.setTop (mkF m 41 #[.val (.int a), .val (.int b), .val (.int shf), .val (.int sca), .val (.int fl), .val (.int sh), .val (.long ((a.toInt64 <<< (sh &&& 0x3f).toInt64) + b.toInt64)), .second, .val (.double (FP.l2d P)), .second, .val (.double X), .second, .val (.double Y), .second, .val (.double TU), .second, .unset, .unset, .unset, .unset, .unset, .unset, .unset, .unset, .unset, .unset, .unset, .unset, .unset, .unset, .unset, .unset] [])) _
      refine XS.lload X0.here hx rfl (hb hby at_41) rfl ?_
      show Steps p.tables e below (s₁.setTop (mkF m 43 #[.val (.int a), .val (.int b), .val (.int shf), .val (.int sca), .val (.int fl), .val (.int sh), .val (.long ((a.toInt64 <<< (sh &&& 0x3f).toInt64) + b.toInt64)), .second, .val (.double (FP.l2d P)), .second, .val (.double X), .second, .val (.double Y), .second, .val (.double TU), .second, .unset, .unset, .unset, .unset, .unset, .unset, .unset, .unset, .unset, .unset, .unset, .unset, .unset, .unset, .unset, .unset] [(.long ((a.toInt64 <<< (sh &&& 0x3f).toInt64) + b.toInt64))])) _
      refine XS.dload X0.here hx rfl (hb hby at_43) rfl ?_
      show Steps p.tables e below (s₁.setTop (mkF m 45 #[.val (.int a), .val (.int b), .val (.int shf), .val (.int sca), .val (.int fl), .val (.int sh), .val (.long ((a.toInt64 <<< (sh &&& 0x3f).toInt64) + b.toInt64)), .second, .val (.double (FP.l2d P)), .second, .val (.double X), .second, .val (.double Y), .second, .val (.double TU), .second, .unset, .unset, .unset, .unset, .unset, .unset, .unset, .unset, .unset, .unset, .unset, .unset, .unset, .unset, .unset, .unset] [(.double TU), (.long ((a.toInt64 <<< (sh &&& 0x3f).toInt64) + b.toInt64))])) _
      refine XS.d2lS X0.here hx rfl (hb hby at_45) rfl (v := tl) htl ?_
      show Steps p.tables e below (s₁.setTop (mkF m 46 #[.val (.int a), .val (.int b), .val (.int shf), .val (.int sca), .val (.int fl), .val (.int sh), .val (.long ((a.toInt64 <<< (sh &&& 0x3f).toInt64) + b.toInt64)), .second, .val (.double (FP.l2d P)), .second, .val (.double X), .second, .val (.double Y), .second, .val (.double TU), .second, .unset, .unset, .unset, .unset, .unset, .unset, .unset, .unset, .unset, .unset, .unset, .unset, .unset, .unset, .unset, .unset] [(.long tl), (.long ((a.toInt64 <<< (sh &&& 0x3f).toInt64) + b.toInt64))])) _
      refine XS.lsub X0.here hx rfl (hb hby at_46) rfl ?_
      rw [hlo]
      show Steps p.tables e below (s₁.setTop (mkF m 47 #[.val (.int a), .val (.int b), .val (.int shf), .val (.int sca), .val (.int fl), .val (.int sh), .val (.long ((a.toInt64 <<< (sh &&& 0x3f).toInt64) + b.toInt64)), .second, .val (.double (FP.l2d P)), .second, .val (.double X), .second, .val (.double Y), .second, .val (.double TU), .second, .unset, .unset, .unset, .unset, .unset, .unset, .unset, .unset, .unset, .unset, .unset, .unset, .unset, .unset, .unset, .unset] [(.long lo)])) _
      refine XS.lstore X0.here hx rfl (hb hby at_47) rfl (l' := #[.val (.int a), .val (.int b), .val (.int shf), .val (.int sca), .val (.int fl), .val (.int sh), .val (.long ((a.toInt64 <<< (sh &&& 0x3f).toInt64) + b.toInt64)), .second, .val (.double (FP.l2d P)), .second, .val (.double X), .second, .val (.double Y), .second, .val (.double TU), .second, .val (.long lo), .second, .unset, .unset, .unset, .unset, .unset, .unset, .unset, .unset, .unset, .unset, .unset, .unset, .unset, .unset]) rfl ?_
      show Steps p.tables e below (s₁.setTop (mkF m 49 #[.val (.int a), .val (.int b), .val (.int shf), .val (.int sca), .val (.int fl), .val (.int sh), .val (.long ((a.toInt64 <<< (sh &&& 0x3f).toInt64) + b.toInt64)), .second, .val (.double (FP.l2d P)), .second, .val (.double X), .second, .val (.double Y), .second, .val (.double TU), .second, .val (.long lo), .second, .unset, .unset, .unset, .unset, .unset, .unset, .unset, .unset, .unset, .unset, .unset, .unset, .unset, .unset] [])) _
      refine XS.iloadN X0.here hx rfl (hb hby at_49) rfl ?_
      show Steps p.tables e below (s₁.setTop (mkF m 50 #[.val (.int a), .val (.int b), .val (.int shf), .val (.int sca), .val (.int fl), .val (.int sh), .val (.long ((a.toInt64 <<< (sh &&& 0x3f).toInt64) + b.toInt64)), .second, .val (.double (FP.l2d P)), .second, .val (.double X), .second, .val (.double Y), .second, .val (.double TU), .second, .val (.long lo), .second, .unset, .unset, .unset, .unset, .unset, .unset, .unset, .unset, .unset, .unset, .unset, .unset, .unset, .unset] [(.int sca)])) _
      refine st1 _ ?_
      show Steps p.tables e below (T1.setTop (mkF m 53 #[.val (.int a), .val (.int b), .val (.int shf), .val (.int sca), .val (.int fl), .val (.int sh), .val (.long ((a.toInt64 <<< (sh &&& 0x3f).toInt64) + b.toInt64)), .second, .val (.double (FP.l2d P)), .second, .val (.double X), .second, .val (.double Y), .second, .val (.double TU), .second, .val (.long lo), .second, .unset, .unset, .unset, .unset, .unset, .unset, .unset, .unset, .unset, .unset, .unset, .unset, .unset, .unset] [(.double S)])) _
      refine XS.dstore X1.here hx rfl (hb hby at_53) rfl (l' := #[.val (.int a), .val (.int b), .val (.int shf), .val (.int sca), .val (.int fl), .val (.int sh), .val (.long ((a.toInt64 <<< (sh &&& 0x3f).toInt64) + b.toInt64)), .second, .val (.double (FP.l2d P)), .second, .val (.double X), .second, .val (.double Y), .second, .val (.double TU), .second, .val (.long lo), .second, .val (.double S), .second, .unset, .unset, .unset, .unset, .unset, .unset, .unset, .unset, .unset, .unset, .unset, .unset]) rfl ?_
      show Steps p.tables e below (T1.setTop (mkF m 55 #[.val (.int a), .val (.int b), .val (.int shf), .val (.int sca), .val (.int fl), .val (.int sh), .val (.long ((a.toInt64 <<< (sh &&& 0x3f).toInt64) + b.toInt64)), .second, .val (.double (FP.l2d P)), .second, .val (.double X), .second, .val (.double Y), .second, .val (.double TU), .second, .val (.long lo), .second, .val (.double S), .second, .unset, .unset, .unset, .unset, .unset, .unset, .unset, .unset, .unset, .unset, .unset, .unset] [])) _
      refine XS.dload X1.here hx rfl (hb hby at_55) rfl ?_
      show Steps p.tables e below (T1.setTop (mkF m 57 #[.val (.int a), .val (.int b), .val (.int shf), .val (.int sca), .val (.int fl), .val (.int sh), .val (.long ((a.toInt64 <<< (sh &&& 0x3f).toInt64) + b.toInt64)), .second, .val (.double (FP.l2d P)), .second, .val (.double X), .second, .val (.double Y), .second, .val (.double TU), .second, .val (.long lo), .second, .val (.double S), .second, .unset, .unset, .unset, .unset, .unset, .unset, .unset, .unset, .unset, .unset, .unset, .unset] [(.double X)])) _
      refine XS.dload X1.here hx rfl (hb hby at_57) rfl ?_
      show Steps p.tables e below (T1.setTop (mkF m 59 #[.val (.int a), .val (.int b), .val (.int shf), .val (.int sca), .val (.int fl), .val (.int sh), .val (.long ((a.toInt64 <<< (sh &&& 0x3f).toInt64) + b.toInt64)), .second, .val (.double (FP.l2d P)), .second, .val (.double X), .second, .val (.double Y), .second, .val (.double TU), .second, .val (.long lo), .second, .val (.double S), .second, .unset, .unset, .unset, .unset, .unset, .unset, .unset, .unset, .unset, .unset, .unset, .unset] [(.double S), (.double X)])) _
      refine XS.dmulS X1.here hx rfl (hb hby at_59) rfl nXS (v := XS') hXS ?_
      show Steps p.tables e below (T1.setTop (mkF m 60 #[.val (.int a), .val (.int b), .val (.int shf), .val (.int sca), .val (.int fl), .val (.int sh), .val (.long ((a.toInt64 <<< (sh &&& 0x3f).toInt64) + b.toInt64)), .second, .val (.double (FP.l2d P)), .second, .val (.double X), .second, .val (.double Y), .second, .val (.double TU), .second, .val (.long lo), .second, .val (.double S), .second, .unset, .unset, .unset, .unset, .unset, .unset, .unset, .unset, .unset, .unset, .unset, .unset] [(.double (XS'))])) _
      refine XS.dstore X1.here hx rfl (hb hby at_60) rfl (l' := #[.val (.int a), .val (.int b), .val (.int shf), .val (.int sca), .val (.int fl), .val (.int sh), .val (.long ((a.toInt64 <<< (sh &&& 0x3f).toInt64) + b.toInt64)), .second, .val (.double (FP.l2d P)), .second, .val (.double X), .second, .val (.double Y), .second, .val (.double TU), .second, .val (.long lo), .second, .val (.double S), .second, .val (.double (XS')), .second, .unset, .unset, .unset, .unset, .unset, .unset, .unset, .unset, .unset, .unset]) rfl ?_
      show Steps p.tables e below (T1.setTop (mkF m 62 #[.val (.int a), .val (.int b), .val (.int shf), .val (.int sca), .val (.int fl), .val (.int sh), .val (.long ((a.toInt64 <<< (sh &&& 0x3f).toInt64) + b.toInt64)), .second, .val (.double (FP.l2d P)), .second, .val (.double X), .second, .val (.double Y), .second, .val (.double TU), .second, .val (.long lo), .second, .val (.double S), .second, .val (.double (XS')), .second, .unset, .unset, .unset, .unset, .unset, .unset, .unset, .unset, .unset, .unset] [])) _
      refine XS.dload X1.here hx rfl (hb hby at_62) rfl ?_
      show Steps p.tables e below (T1.setTop (mkF m 64 #[.val (.int a), .val (.int b), .val (.int shf), .val (.int sca), .val (.int fl), .val (.int sh), .val (.long ((a.toInt64 <<< (sh &&& 0x3f).toInt64) + b.toInt64)), .second, .val (.double (FP.l2d P)), .second, .val (.double X), .second, .val (.double Y), .second, .val (.double TU), .second, .val (.long lo), .second, .val (.double S), .second, .val (.double (XS')), .second, .unset, .unset, .unset, .unset, .unset, .unset, .unset, .unset, .unset, .unset] [(.double Y)])) _
      refine XS.dload X1.here hx rfl (hb hby at_64) rfl ?_
      show Steps p.tables e below (T1.setTop (mkF m 66 #[.val (.int a), .val (.int b), .val (.int shf), .val (.int sca), .val (.int fl), .val (.int sh), .val (.long ((a.toInt64 <<< (sh &&& 0x3f).toInt64) + b.toInt64)), .second, .val (.double (FP.l2d P)), .second, .val (.double X), .second, .val (.double Y), .second, .val (.double TU), .second, .val (.long lo), .second, .val (.double S), .second, .val (.double (XS')), .second, .unset, .unset, .unset, .unset, .unset, .unset, .unset, .unset, .unset, .unset] [(.double S), (.double Y)])) _
      refine XS.dmulS X1.here hx rfl (hb hby at_66) rfl nYS (v := YS') hYS ?_
      show Steps p.tables e below (T1.setTop (mkF m 67 #[.val (.int a), .val (.int b), .val (.int shf), .val (.int sca), .val (.int fl), .val (.int sh), .val (.long ((a.toInt64 <<< (sh &&& 0x3f).toInt64) + b.toInt64)), .second, .val (.double (FP.l2d P)), .second, .val (.double X), .second, .val (.double Y), .second, .val (.double TU), .second, .val (.long lo), .second, .val (.double S), .second, .val (.double (XS')), .second, .unset, .unset, .unset, .unset, .unset, .unset, .unset, .unset, .unset, .unset] [(.double (YS'))])) _
      refine XS.dstore X1.here hx rfl (hb hby at_67) rfl (l' := #[.val (.int a), .val (.int b), .val (.int shf), .val (.int sca), .val (.int fl), .val (.int sh), .val (.long ((a.toInt64 <<< (sh &&& 0x3f).toInt64) + b.toInt64)), .second, .val (.double (FP.l2d P)), .second, .val (.double X), .second, .val (.double Y), .second, .val (.double TU), .second, .val (.long lo), .second, .val (.double S), .second, .val (.double (XS')), .second, .val (.double (YS')), .second, .unset, .unset, .unset, .unset, .unset, .unset, .unset, .unset]) rfl ?_
      show Steps p.tables e below (T1.setTop (mkF m 69 #[.val (.int a), .val (.int b), .val (.int shf), .val (.int sca), .val (.int fl), .val (.int sh), .val (.long ((a.toInt64 <<< (sh &&& 0x3f).toInt64) + b.toInt64)), .second, .val (.double (FP.l2d P)), .second, .val (.double X), .second, .val (.double Y), .second, .val (.double TU), .second, .val (.long lo), .second, .val (.double S), .second, .val (.double (XS')), .second, .val (.double (YS')), .second, .unset, .unset, .unset, .unset, .unset, .unset, .unset, .unset] [])) _
      refine XS.iload X1.here hx rfl (hb hby at_69) rfl ?_
      show Steps p.tables e below (T1.setTop (mkF m 71 #[.val (.int a), .val (.int b), .val (.int shf), .val (.int sca), .val (.int fl), .val (.int sh), .val (.long ((a.toInt64 <<< (sh &&& 0x3f).toInt64) + b.toInt64)), .second, .val (.double (FP.l2d P)), .second, .val (.double X), .second, .val (.double Y), .second, .val (.double TU), .second, .val (.long lo), .second, .val (.double S), .second, .val (.double (XS')), .second, .val (.double (YS')), .second, .unset, .unset, .unset, .unset, .unset, .unset, .unset, .unset] [(.int fl)])) _
      refine XS.iconst X1.here hx rfl (hb hby at_71) ?_
      show Steps p.tables e below (T1.setTop (mkF m 72 #[.val (.int a), .val (.int b), .val (.int shf), .val (.int sca), .val (.int fl), .val (.int sh), .val (.long ((a.toInt64 <<< (sh &&& 0x3f).toInt64) + b.toInt64)), .second, .val (.double (FP.l2d P)), .second, .val (.double X), .second, .val (.double Y), .second, .val (.double TU), .second, .val (.long lo), .second, .val (.double S), .second, .val (.double (XS')), .second, .val (.double (YS')), .second, .unset, .unset, .unset, .unset, .unset, .unset, .unset, .unset] [(.int (1 : Int32)), (.int fl)])) _
      refine XS.iand X1.here hx rfl (hb hby at_72) rfl ?_
      show Steps p.tables e below (T1.setTop (mkF m 73 #[.val (.int a), .val (.int b), .val (.int shf), .val (.int sca), .val (.int fl), .val (.int sh), .val (.long ((a.toInt64 <<< (sh &&& 0x3f).toInt64) + b.toInt64)), .second, .val (.double (FP.l2d P)), .second, .val (.double X), .second, .val (.double Y), .second, .val (.double TU), .second, .val (.long lo), .second, .val (.double S), .second, .val (.double (XS')), .second, .val (.double (YS')), .second, .unset, .unset, .unset, .unset, .unset, .unset, .unset, .unset] [(.int (fl &&& (1 : Int32)))])) _
      refine XS.ifNo X1.here hx rfl (hb hby at_73) rfl ((Jvm.Own.holdsI _ _).trans (Jvm.Own.dF hf)) ?_
      show Steps p.tables e below (T1.setTop (mkF m 76 #[.val (.int a), .val (.int b), .val (.int shf), .val (.int sca), .val (.int fl), .val (.int sh), .val (.long ((a.toInt64 <<< (sh &&& 0x3f).toInt64) + b.toInt64)), .second, .val (.double (FP.l2d P)), .second, .val (.double X), .second, .val (.double Y), .second, .val (.double TU), .second, .val (.long lo), .second, .val (.double S), .second, .val (.double (XS')), .second, .val (.double (YS')), .second, .unset, .unset, .unset, .unset, .unset, .unset, .unset, .unset] [])) _
      refine XS.dload X1.here hx rfl (hb hby at_76) rfl ?_
      show Steps p.tables e below (T1.setTop (mkF m 78 #[.val (.int a), .val (.int b), .val (.int shf), .val (.int sca), .val (.int fl), .val (.int sh), .val (.long ((a.toInt64 <<< (sh &&& 0x3f).toInt64) + b.toInt64)), .second, .val (.double (FP.l2d P)), .second, .val (.double X), .second, .val (.double Y), .second, .val (.double TU), .second, .val (.long lo), .second, .val (.double S), .second, .val (.double (XS')), .second, .val (.double (YS')), .second, .unset, .unset, .unset, .unset, .unset, .unset, .unset, .unset] [(.double (YS'))])) _
      refine XS.dstore X1.here hx rfl (hb hby at_78) rfl (l' := #[.val (.int a), .val (.int b), .val (.int shf), .val (.int sca), .val (.int fl), .val (.int sh), .val (.long ((a.toInt64 <<< (sh &&& 0x3f).toInt64) + b.toInt64)), .second, .val (.double (FP.l2d P)), .second, .val (.double X), .second, .val (.double Y), .second, .val (.double TU), .second, .val (.long lo), .second, .val (.double S), .second, .val (.double (XS')), .second, .val (.double (YS')), .second, .val (.double (YS')), .second, .unset, .unset, .unset, .unset, .unset, .unset]) rfl ?_
      show Steps p.tables e below (T1.setTop (mkF m 80 #[.val (.int a), .val (.int b), .val (.int shf), .val (.int sca), .val (.int fl), .val (.int sh), .val (.long ((a.toInt64 <<< (sh &&& 0x3f).toInt64) + b.toInt64)), .second, .val (.double (FP.l2d P)), .second, .val (.double X), .second, .val (.double Y), .second, .val (.double TU), .second, .val (.long lo), .second, .val (.double S), .second, .val (.double (XS')), .second, .val (.double (YS')), .second, .val (.double (YS')), .second, .unset, .unset, .unset, .unset, .unset, .unset] [])) _
      refine XS.dload X1.here hx rfl (hb hby at_80) rfl ?_
      show Steps p.tables e below (T1.setTop (mkF m 82 #[.val (.int a), .val (.int b), .val (.int shf), .val (.int sca), .val (.int fl), .val (.int sh), .val (.long ((a.toInt64 <<< (sh &&& 0x3f).toInt64) + b.toInt64)), .second, .val (.double (FP.l2d P)), .second, .val (.double X), .second, .val (.double Y), .second, .val (.double TU), .second, .val (.long lo), .second, .val (.double S), .second, .val (.double (XS')), .second, .val (.double (YS')), .second, .val (.double (YS')), .second, .unset, .unset, .unset, .unset, .unset, .unset] [(.double (XS'))])) _
      refine XS.dstore X1.here hx rfl (hb hby at_82) rfl (l' := #[.val (.int a), .val (.int b), .val (.int shf), .val (.int sca), .val (.int fl), .val (.int sh), .val (.long ((a.toInt64 <<< (sh &&& 0x3f).toInt64) + b.toInt64)), .second, .val (.double (FP.l2d P)), .second, .val (.double X), .second, .val (.double Y), .second, .val (.double TU), .second, .val (.long lo), .second, .val (.double S), .second, .val (.double (XS')), .second, .val (.double (YS')), .second, .val (.double (YS')), .second, .val (.double (XS')), .second, .unset, .unset, .unset, .unset]) rfl ?_
      show Steps p.tables e below (T1.setTop (mkF m 84 #[.val (.int a), .val (.int b), .val (.int shf), .val (.int sca), .val (.int fl), .val (.int sh), .val (.long ((a.toInt64 <<< (sh &&& 0x3f).toInt64) + b.toInt64)), .second, .val (.double (FP.l2d P)), .second, .val (.double X), .second, .val (.double Y), .second, .val (.double TU), .second, .val (.long lo), .second, .val (.double S), .second, .val (.double (XS')), .second, .val (.double (YS')), .second, .val (.double (YS')), .second, .val (.double (XS')), .second, .unset, .unset, .unset, .unset] [])) _
      refine XS.goto X1.here hx rfl (pc0 := 84) (pc' := 95) rfl (hb hby at_84) (by decide) (by decide) ?_
      show Steps p.tables e below (T1.setTop (mkF m 95 #[.val (.int a), .val (.int b), .val (.int shf), .val (.int sca), .val (.int fl), .val (.int sh), .val (.long ((a.toInt64 <<< (sh &&& 0x3f).toInt64) + b.toInt64)), .second, .val (.double (FP.l2d P)), .second, .val (.double X), .second, .val (.double Y), .second, .val (.double TU), .second, .val (.long lo), .second, .val (.double S), .second, .val (.double (XS')), .second, .val (.double (YS')), .second, .val (.double (YS')), .second, .val (.double (XS')), .second, .unset, .unset, .unset, .unset] [])) _
      refine XS.dload X1.here hx rfl (hb hby at_95) rfl ?_
      show Steps p.tables e below (T1.setTop (mkF m 97 #[.val (.int a), .val (.int b), .val (.int shf), .val (.int sca), .val (.int fl), .val (.int sh), .val (.long ((a.toInt64 <<< (sh &&& 0x3f).toInt64) + b.toInt64)), .second, .val (.double (FP.l2d P)), .second, .val (.double X), .second, .val (.double Y), .second, .val (.double TU), .second, .val (.long lo), .second, .val (.double S), .second, .val (.double (XS')), .second, .val (.double (YS')), .second, .val (.double (YS')), .second, .val (.double (XS')), .second, .unset, .unset, .unset, .unset] [(.double (YS'))])) _
      refine XS.dload X1.here hx rfl (hb hby at_97) rfl ?_
      show Steps p.tables e below (T1.setTop (mkF m 99 #[.val (.int a), .val (.int b), .val (.int shf), .val (.int sca), .val (.int fl), .val (.int sh), .val (.long ((a.toInt64 <<< (sh &&& 0x3f).toInt64) + b.toInt64)), .second, .val (.double (FP.l2d P)), .second, .val (.double X), .second, .val (.double Y), .second, .val (.double TU), .second, .val (.long lo), .second, .val (.double S), .second, .val (.double (XS')), .second, .val (.double (YS')), .second, .val (.double (YS')), .second, .val (.double (XS')), .second, .unset, .unset, .unset, .unset] [(.double (XS')), (.double (YS'))])) _
      refine XS.daddS X1.here hx rfl (hb hby at_99) rfl nTT (v := TT) hTT ?_
      show Steps p.tables e below (T1.setTop (mkF m 100 #[.val (.int a), .val (.int b), .val (.int shf), .val (.int sca), .val (.int fl), .val (.int sh), .val (.long ((a.toInt64 <<< (sh &&& 0x3f).toInt64) + b.toInt64)), .second, .val (.double (FP.l2d P)), .second, .val (.double X), .second, .val (.double Y), .second, .val (.double TU), .second, .val (.long lo), .second, .val (.double S), .second, .val (.double (XS')), .second, .val (.double (YS')), .second, .val (.double (YS')), .second, .val (.double (XS')), .second, .unset, .unset, .unset, .unset] [(.double TT)])) _
      refine XS.dstore X1.here hx rfl (hb hby at_100) rfl (l' := #[.val (.int a), .val (.int b), .val (.int shf), .val (.int sca), .val (.int fl), .val (.int sh), .val (.long ((a.toInt64 <<< (sh &&& 0x3f).toInt64) + b.toInt64)), .second, .val (.double (FP.l2d P)), .second, .val (.double X), .second, .val (.double Y), .second, .val (.double TU), .second, .val (.long lo), .second, .val (.double S), .second, .val (.double (XS')), .second, .val (.double (YS')), .second, .val (.double (YS')), .second, .val (.double (XS')), .second, .val (.double TT), .second, .unset, .unset]) rfl ?_
      show Steps p.tables e below (T1.setTop (mkF m 102 #[.val (.int a), .val (.int b), .val (.int shf), .val (.int sca), .val (.int fl), .val (.int sh), .val (.long ((a.toInt64 <<< (sh &&& 0x3f).toInt64) + b.toInt64)), .second, .val (.double (FP.l2d P)), .second, .val (.double X), .second, .val (.double Y), .second, .val (.double TU), .second, .val (.long lo), .second, .val (.double S), .second, .val (.double (XS')), .second, .val (.double (YS')), .second, .val (.double (YS')), .second, .val (.double (XS')), .second, .val (.double TT), .second, .unset, .unset] [])) _
      refine XS.dload X1.here hx rfl (hb hby at_102) rfl ?_
      show Steps p.tables e below (T1.setTop (mkF m 104 #[.val (.int a), .val (.int b), .val (.int shf), .val (.int sca), .val (.int fl), .val (.int sh), .val (.long ((a.toInt64 <<< (sh &&& 0x3f).toInt64) + b.toInt64)), .second, .val (.double (FP.l2d P)), .second, .val (.double X), .second, .val (.double Y), .second, .val (.double TU), .second, .val (.long lo), .second, .val (.double S), .second, .val (.double (XS')), .second, .val (.double (YS')), .second, .val (.double (YS')), .second, .val (.double (XS')), .second, .val (.double TT), .second, .unset, .unset] [(.double (YS'))])) _
      refine XS.dload X1.here hx rfl (hb hby at_104) rfl ?_
      show Steps p.tables e below (T1.setTop (mkF m 106 #[.val (.int a), .val (.int b), .val (.int shf), .val (.int sca), .val (.int fl), .val (.int sh), .val (.long ((a.toInt64 <<< (sh &&& 0x3f).toInt64) + b.toInt64)), .second, .val (.double (FP.l2d P)), .second, .val (.double X), .second, .val (.double Y), .second, .val (.double TU), .second, .val (.long lo), .second, .val (.double S), .second, .val (.double (XS')), .second, .val (.double (YS')), .second, .val (.double (YS')), .second, .val (.double (XS')), .second, .val (.double TT), .second, .unset, .unset] [(.double (XS')), (.double (YS'))])) _
      refine XS.dload X1.here hx rfl (hb hby at_106) rfl ?_
      show Steps p.tables e below (T1.setTop (mkF m 108 #[.val (.int a), .val (.int b), .val (.int shf), .val (.int sca), .val (.int fl), .val (.int sh), .val (.long ((a.toInt64 <<< (sh &&& 0x3f).toInt64) + b.toInt64)), .second, .val (.double (FP.l2d P)), .second, .val (.double X), .second, .val (.double Y), .second, .val (.double TU), .second, .val (.long lo), .second, .val (.double S), .second, .val (.double (XS')), .second, .val (.double (YS')), .second, .val (.double (YS')), .second, .val (.double (XS')), .second, .val (.double TT), .second, .unset, .unset] [(.double TT), (.double (XS')), (.double (YS'))])) _
      refine st2 _ ?_
      show Steps p.tables e below (T2.setTop (mkF m 111 #[.val (.int a), .val (.int b), .val (.int shf), .val (.int sca), .val (.int fl), .val (.int sh), .val (.long ((a.toInt64 <<< (sh &&& 0x3f).toInt64) + b.toInt64)), .second, .val (.double (FP.l2d P)), .second, .val (.double X), .second, .val (.double Y), .second, .val (.double TU), .second, .val (.long lo), .second, .val (.double S), .second, .val (.double (XS')), .second, .val (.double (YS')), .second, .val (.double (YS')), .second, .val (.double (XS')), .second, .val (.double TT), .second, .unset, .unset] [(.double (own_ro YS' XS' TT))])) _
      refine XS.dstore X2.here hx rfl (hb hby at_111) rfl (l' := #[.val (.int a), .val (.int b), .val (.int shf), .val (.int sca), .val (.int fl), .val (.int sh), .val (.long ((a.toInt64 <<< (sh &&& 0x3f).toInt64) + b.toInt64)), .second, .val (.double (FP.l2d P)), .second, .val (.double X), .second, .val (.double Y), .second, .val (.double TU), .second, .val (.long lo), .second, .val (.double S), .second, .val (.double (XS')), .second, .val (.double (YS')), .second, .val (.double (YS')), .second, .val (.double (XS')), .second, .val (.double TT), .second, .val (.double (own_ro YS' XS' TT)), .second]) rfl ?_
      show Steps p.tables e below (T2.setTop (mkF m 113 #[.val (.int a), .val (.int b), .val (.int shf), .val (.int sca), .val (.int fl), .val (.int sh), .val (.long ((a.toInt64 <<< (sh &&& 0x3f).toInt64) + b.toInt64)), .second, .val (.double (FP.l2d P)), .second, .val (.double X), .second, .val (.double Y), .second, .val (.double TU), .second, .val (.long lo), .second, .val (.double S), .second, .val (.double (XS')), .second, .val (.double (YS')), .second, .val (.double (YS')), .second, .val (.double (XS')), .second, .val (.double TT), .second, .val (.double (own_ro YS' XS' TT)), .second] [])) _
      refine XS.dload X2.here hx rfl (hb hby at_113) rfl ?_
      show Steps p.tables e below (T2.setTop (mkF m 115 #[.val (.int a), .val (.int b), .val (.int shf), .val (.int sca), .val (.int fl), .val (.int sh), .val (.long ((a.toInt64 <<< (sh &&& 0x3f).toInt64) + b.toInt64)), .second, .val (.double (FP.l2d P)), .second, .val (.double X), .second, .val (.double Y), .second, .val (.double TU), .second, .val (.long lo), .second, .val (.double S), .second, .val (.double (XS')), .second, .val (.double (YS')), .second, .val (.double (YS')), .second, .val (.double (XS')), .second, .val (.double TT), .second, .val (.double (own_ro YS' XS' TT)), .second] [(.double TT)])) _
      refine XS.dload X2.here hx rfl (hb hby at_115) rfl ?_
      show Steps p.tables e below (T2.setTop (mkF m 117 #[.val (.int a), .val (.int b), .val (.int shf), .val (.int sca), .val (.int fl), .val (.int sh), .val (.long ((a.toInt64 <<< (sh &&& 0x3f).toInt64) + b.toInt64)), .second, .val (.double (FP.l2d P)), .second, .val (.double X), .second, .val (.double Y), .second, .val (.double TU), .second, .val (.long lo), .second, .val (.double S), .second, .val (.double (XS')), .second, .val (.double (YS')), .second, .val (.double (YS')), .second, .val (.double (XS')), .second, .val (.double TT), .second, .val (.double (own_ro YS' XS' TT)), .second] [(.double TU), (.double TT)])) _
      refine XS.dload X2.here hx rfl (hb hby at_117) rfl ?_
      show Steps p.tables e below (T2.setTop (mkF m 119 #[.val (.int a), .val (.int b), .val (.int shf), .val (.int sca), .val (.int fl), .val (.int sh), .val (.long ((a.toInt64 <<< (sh &&& 0x3f).toInt64) + b.toInt64)), .second, .val (.double (FP.l2d P)), .second, .val (.double X), .second, .val (.double Y), .second, .val (.double TU), .second, .val (.long lo), .second, .val (.double S), .second, .val (.double (XS')), .second, .val (.double (YS')), .second, .val (.double (YS')), .second, .val (.double (XS')), .second, .val (.double TT), .second, .val (.double (own_ro YS' XS' TT)), .second] [(.double S), (.double TU), (.double TT)])) _
      refine XS.dmulS X2.here hx rfl (hb hby at_119) rfl (Jvm.Own.nn fTS) (v := FP.dmul TU S) rfl ?_
      show Steps p.tables e below (T2.setTop (mkF m 120 #[.val (.int a), .val (.int b), .val (.int shf), .val (.int sca), .val (.int fl), .val (.int sh), .val (.long ((a.toInt64 <<< (sh &&& 0x3f).toInt64) + b.toInt64)), .second, .val (.double (FP.l2d P)), .second, .val (.double X), .second, .val (.double Y), .second, .val (.double TU), .second, .val (.long lo), .second, .val (.double S), .second, .val (.double (XS')), .second, .val (.double (YS')), .second, .val (.double (YS')), .second, .val (.double (XS')), .second, .val (.double TT), .second, .val (.double (own_ro YS' XS' TT)), .second] [(.double (FP.dmul TU S)), (.double TT)])) _
      refine XS.dcmpS X2.here hx rfl (hb hby at_120) rfl (v := Jvm.Op.cmpValue (FP.dcmp TT (FP.dmul TU S)) .l) rfl ?_
      show Steps p.tables e below (T2.setTop (mkF m 121 #[.val (.int a), .val (.int b), .val (.int shf), .val (.int sca), .val (.int fl), .val (.int sh), .val (.long ((a.toInt64 <<< (sh &&& 0x3f).toInt64) + b.toInt64)), .second, .val (.double (FP.l2d P)), .second, .val (.double X), .second, .val (.double Y), .second, .val (.double TU), .second, .val (.long lo), .second, .val (.double S), .second, .val (.double (XS')), .second, .val (.double (YS')), .second, .val (.double (YS')), .second, .val (.double (XS')), .second, .val (.double TT), .second, .val (.double (own_ro YS' XS' TT)), .second] [(.int (Jvm.Op.cmpValue (FP.dcmp TT (FP.dmul TU S)) .l))])) _
      refine XS.ifNo X2.here hx rfl (hb hby at_121) rfl ((Jvm.Own.holdsD fT fTS _ _).trans (Jvm.Own.dF (by rw [zTS]; exact fun q => q rfl))) ?_
      show Steps p.tables e below (T2.setTop (mkF m 124 #[.val (.int a), .val (.int b), .val (.int shf), .val (.int sca), .val (.int fl), .val (.int sh), .val (.long ((a.toInt64 <<< (sh &&& 0x3f).toInt64) + b.toInt64)), .second, .val (.double (FP.l2d P)), .second, .val (.double X), .second, .val (.double Y), .second, .val (.double TU), .second, .val (.long lo), .second, .val (.double S), .second, .val (.double (XS')), .second, .val (.double (YS')), .second, .val (.double (YS')), .second, .val (.double (XS')), .second, .val (.double TT), .second, .val (.double (own_ro YS' XS' TT)), .second] [])) _
      refine XS.dload X2.here hx rfl (hb hby at_124) rfl ?_
      show Steps p.tables e below (T2.setTop (mkF m 126 #[.val (.int a), .val (.int b), .val (.int shf), .val (.int sca), .val (.int fl), .val (.int sh), .val (.long ((a.toInt64 <<< (sh &&& 0x3f).toInt64) + b.toInt64)), .second, .val (.double (FP.l2d P)), .second, .val (.double X), .second, .val (.double Y), .second, .val (.double TU), .second, .val (.long lo), .second, .val (.double S), .second, .val (.double (XS')), .second, .val (.double (YS')), .second, .val (.double (YS')), .second, .val (.double (XS')), .second, .val (.double TT), .second, .val (.double (own_ro YS' XS' TT)), .second] [(.double (own_ro YS' XS' TT))])) _
      refine XS.lload X2.here hx rfl (hb hby at_126) rfl ?_
      show Steps p.tables e below (T2.setTop (mkF m 128 #[.val (.int a), .val (.int b), .val (.int shf), .val (.int sca), .val (.int fl), .val (.int sh), .val (.long ((a.toInt64 <<< (sh &&& 0x3f).toInt64) + b.toInt64)), .second, .val (.double (FP.l2d P)), .second, .val (.double X), .second, .val (.double Y), .second, .val (.double TU), .second, .val (.long lo), .second, .val (.double S), .second, .val (.double (XS')), .second, .val (.double (YS')), .second, .val (.double (YS')), .second, .val (.double (XS')), .second, .val (.double TT), .second, .val (.double (own_ro YS' XS' TT)), .second] [(.long lo), (.double (own_ro YS' XS' TT))])) _
      refine XS.l2dS X2.here hx rfl (hb hby at_128) rfl (v := FP.l2d lo) rfl ?_
      show Steps p.tables e below (T2.setTop (mkF m 129 #[.val (.int a), .val (.int b), .val (.int shf), .val (.int sca), .val (.int fl), .val (.int sh), .val (.long ((a.toInt64 <<< (sh &&& 0x3f).toInt64) + b.toInt64)), .second, .val (.double (FP.l2d P)), .second, .val (.double X), .second, .val (.double Y), .second, .val (.double TU), .second, .val (.long lo), .second, .val (.double S), .second, .val (.double (XS')), .second, .val (.double (YS')), .second, .val (.double (YS')), .second, .val (.double (XS')), .second, .val (.double TT), .second, .val (.double (own_ro YS' XS' TT)), .second] [(.double (FP.l2d lo)), (.double (own_ro YS' XS' TT))])) _
      refine XS.dload X2.here hx rfl (hb hby at_129) rfl ?_
      show Steps p.tables e below (T2.setTop (mkF m 131 #[.val (.int a), .val (.int b), .val (.int shf), .val (.int sca), .val (.int fl), .val (.int sh), .val (.long ((a.toInt64 <<< (sh &&& 0x3f).toInt64) + b.toInt64)), .second, .val (.double (FP.l2d P)), .second, .val (.double X), .second, .val (.double Y), .second, .val (.double TU), .second, .val (.long lo), .second, .val (.double S), .second, .val (.double (XS')), .second, .val (.double (YS')), .second, .val (.double (YS')), .second, .val (.double (XS')), .second, .val (.double TT), .second, .val (.double (own_ro YS' XS' TT)), .second] [(.double S), (.double (FP.l2d lo)), (.double (own_ro YS' XS' TT))])) _
      refine XS.dmulS X2.here hx rfl (hb hby at_131) rfl (Jvm.Own.nn fl2) (v := FP.dmul (FP.l2d lo) S) rfl ?_
      show Steps p.tables e below (T2.setTop (mkF m 132 #[.val (.int a), .val (.int b), .val (.int shf), .val (.int sca), .val (.int fl), .val (.int sh), .val (.long ((a.toInt64 <<< (sh &&& 0x3f).toInt64) + b.toInt64)), .second, .val (.double (FP.l2d P)), .second, .val (.double X), .second, .val (.double Y), .second, .val (.double TU), .second, .val (.long lo), .second, .val (.double S), .second, .val (.double (XS')), .second, .val (.double (YS')), .second, .val (.double (YS')), .second, .val (.double (XS')), .second, .val (.double TT), .second, .val (.double (own_ro YS' XS' TT)), .second] [(.double (FP.dmul (FP.l2d lo) S)), (.double (own_ro YS' XS' TT))])) _
      refine XS.dcmpS X2.here hx rfl (hb hby at_132) rfl (v := Jvm.Op.cmpValue (FP.dcmp (own_ro YS' XS' TT) (FP.dmul (FP.l2d lo) S)) .l) rfl ?_
      show Steps p.tables e below (T2.setTop (mkF m 133 #[.val (.int a), .val (.int b), .val (.int shf), .val (.int sca), .val (.int fl), .val (.int sh), .val (.long ((a.toInt64 <<< (sh &&& 0x3f).toInt64) + b.toInt64)), .second, .val (.double (FP.l2d P)), .second, .val (.double X), .second, .val (.double Y), .second, .val (.double TU), .second, .val (.long lo), .second, .val (.double S), .second, .val (.double (XS')), .second, .val (.double (YS')), .second, .val (.double (YS')), .second, .val (.double (XS')), .second, .val (.double TT), .second, .val (.double (own_ro YS' XS' TT)), .second] [(.int (Jvm.Op.cmpValue (FP.dcmp (own_ro YS' XS' TT) (FP.dmul (FP.l2d lo) S)) .l))])) _
      refine XS.ifNo X2.here hx rfl (hb hby at_133) rfl ((Jvm.Own.holdsD (show Jvm.FP.Core.DFin (own_ro YS' XS' TT) from g5) fl2 _ _).trans (Jvm.Own.dF (fun q => q (by rw [show Jvm.Own.z (own_ro YS' XS' TT) = _ from zr, zl2, hlost]; congr 1; omega)))) ?_
      show Steps p.tables e below (T2.setTop (mkF m 136 #[.val (.int a), .val (.int b), .val (.int shf), .val (.int sca), .val (.int fl), .val (.int sh), .val (.long ((a.toInt64 <<< (sh &&& 0x3f).toInt64) + b.toInt64)), .second, .val (.double (FP.l2d P)), .second, .val (.double X), .second, .val (.double Y), .second, .val (.double TU), .second, .val (.long lo), .second, .val (.double S), .second, .val (.double (XS')), .second, .val (.double (YS')), .second, .val (.double (YS')), .second, .val (.double (XS')), .second, .val (.double TT), .second, .val (.double (own_ro YS' XS' TT)), .second] [])) _
      refine XS.iconst X2.here hx rfl (hb hby at_136) ?_
      show Steps p.tables e below (T2.setTop (mkF m 137 #[.val (.int a), .val (.int b), .val (.int shf), .val (.int sca), .val (.int fl), .val (.int sh), .val (.long ((a.toInt64 <<< (sh &&& 0x3f).toInt64) + b.toInt64)), .second, .val (.double (FP.l2d P)), .second, .val (.double X), .second, .val (.double Y), .second, .val (.double TU), .second, .val (.long lo), .second, .val (.double S), .second, .val (.double (XS')), .second, .val (.double (YS')), .second, .val (.double (YS')), .second, .val (.double (XS')), .second, .val (.double TT), .second, .val (.double (own_ro YS' XS' TT)), .second] [(.int (1 : Int32))])) _
      refine XS.goto X2.here hx rfl (pc0 := 137) (pc' := 141) rfl (hb hby at_137) (by decide) (by decide) ?_
      show Steps p.tables e below (T2.setTop (mkF m 141 #[.val (.int a), .val (.int b), .val (.int shf), .val (.int sca), .val (.int fl), .val (.int sh), .val (.long ((a.toInt64 <<< (sh &&& 0x3f).toInt64) + b.toInt64)), .second, .val (.double (FP.l2d P)), .second, .val (.double X), .second, .val (.double Y), .second, .val (.double TU), .second, .val (.long lo), .second, .val (.double S), .second, .val (.double (XS')), .second, .val (.double (YS')), .second, .val (.double (YS')), .second, .val (.double (XS')), .second, .val (.double TT), .second, .val (.double (own_ro YS' XS' TT)), .second] [(.int (1 : Int32))])) _
      exact retN X2 hx (t := .boolean) Bd.returns (by simp) (hb hby at_141) hr
    · show QL n0 _ T2.heap _
      exact ⟨rfl, Fr.app (Fr.app N0 N1) N2⟩
set_option maxRecDepth 65536 in
set_option maxHeartbeats 40000000 in
theorem comes_1 {Post : Tables → Env → Array Value → State → Outcome → State → Prop} (hpost : ∀ tb e args s v u, (limb_1_1.after args s (.returned v) u = true ∧ limb_1_2.after args s (.returned v) u = true ∧ True) → FrameEnd s (.returned v) u (Jvm.fieldLocs frame_1_writes args s ++ Jvm.arrayLocs frame_1_arrays args s ++ Jvm.staticLocs frame_1_statics s) 0 0 → Post tb e args s (.returned v) u) :
    ArmFor flags0 classFile x code maxLocals ret World_1 tables_1 room_1 Calls_1 rest_1 Pre_1 Post := by
  intro l hfl _ _ p e ha hc hk s m args below hf hA hF happ hP
  obtain ⟨hcalls, hrest, hpre⟩ := hP
  obtain ⟨-, -, -, hnamed, -, -, -, hat⟩ := (Spec.applies_iff hf).mp happ
  obtain ⟨hg, hn⟩ := and_e (Cond.before_iff.mp (show (Jvm.Cond.and given_1 narrow_1).before args s = true from hpre))
  obtain ⟨hcnt, g0⟩ := and_e hg
  obtain ⟨a0, g1⟩ := and_e g0
  obtain ⟨a1, g2⟩ := and_e g1
  obtain ⟨a2, g3⟩ := and_e g2
  obtain ⟨a3, g4⟩ := and_e g3
  obtain ⟨w0, w1, w2, w3, w4, rfl⟩ : ∃ w0 w1 w2 w3 w4 : Value, args = #[w0, w1, w2, w3, w4] := by
    have hs : args.size = 5 := by simpa [Cond.value, given_1] using hcnt
    obtain ⟨L⟩ := args
    match L, hs with
    | [w0, w1, w2, w3, w4], _ => exact ⟨w0, w1, w2, w3, w4, rfl⟩
  have hw := fun d (hd : d ∈ tables_1) => atoms_spec (ws := Jvm.Cond.code x code maxLocals ret :: tables_1) hat d (List.mem_cons_of_mem _ hd)
  have hfit : Fit s := fun {y c} hc i hi => by
    obtain ⟨ha, rfl⟩ := Array.getElem?_eq_some_iff.mp hc
    have q := List.all_eq_true.mp ((Array.all_eq_true_iff_forall_mem.mp hF) _ (Array.getElem_mem ha)) i (List.mem_range.mpr hi)
    simpa [Array.getElem?_eq_getElem hi] using q
  obtain ⟨v0, e0⟩ := is_v a0
  obtain rfl : w0 = (.int v0) := Option.some.inj e0
  obtain ⟨v1, e1⟩ := is_v a1
  obtain rfl : w1 = (.int v1) := Option.some.inj e1
  obtain ⟨v2, e2⟩ := is_v a2
  obtain rfl : w2 = (.int v2) := Option.some.inj e2
  obtain ⟨v3, e3⟩ := is_v a3
  obtain rfl : w3 = (.int v3) := Option.some.inj e3
  obtain ⟨v4, e4⟩ := is_v g4
  obtain rfl : w4 = (.int v4) := Option.some.inj e4
  obtain ⟨n, o, h1, h2, h3, _, L, rfl, ⟨rfl, N⟩, hq⟩ := rm0 l s _ hw tables_1 v0 v1 v2 v3 v4 s.heap s.heap.size (Nat.le_refl _)  p e ha hc hk s m _ below hf ((Spec.applies_iff_loose hf).mp happ).1 ⟨rfl, State.Warmed39.refl s, rfl⟩ trivial
  refine ⟨n, _, h1, h2, h3, hpost _ _ _ _ _ _ ⟨Cond.after_iff.mpr rfl, Cond.after_iff.mpr (eq_i res_at (Term.int_eval (1)) rfl), trivial⟩ ⟨hq.1, hq.2.1, (hq.2.2.sift fun y hy => Or.inr (N y hy)).mono (by decide) (by decide)⟩⟩
theorem main_1_1 : Claimed_1_1 := comes_1 fun _ _ _ _ _ _ h hF => ⟨h.1, hF⟩
theorem main_1_2 : Claimed_1_2 := comes_1 fun _ _ _ _ _ _ h hF => ⟨h.2.1, hF⟩
end Jvm.Pilot.@@N@@
namespace Jvm.Pilot.@@N@@
open Jvm Jvm.ClassFile Sem Op Lib Jvm.Free Jvm.Stand Jvm.Pilot.@@N@@.Jvm.D
/-! MADE BY PROGRAM (witnessworld.py) out of the Statement's table words and the real class files: 9 classes; the members and pool entries that the words name. The judged class is class 1, her method 2. -/
namespace start1
open Jvm.ClassFile
def u (s : String) : CpInfo := .utf8 (stringToUtf16 s)
/-- a pool by its gaps: so many unusable entries, then the entry; so many at the end -/
def gap : Nat → List CpInfo → List CpInfo
  | 0, r => r
  | n + 1, r => .unusable :: gap n r
def poolList (es : List (Nat × CpInfo)) (last : Nat) : List CpInfo := es.foldr (fun e r => gap e.1 (e.2 :: r)) (gap last [])
def pool (es : List (Nat × CpInfo)) (last : Nat) : Array CpInfo := ⟨poolList es last⟩
def fileOf (pool : Array CpInfo) (this : Nat) (attrs : Array Attribute := #[]) (ms : Array MethodInfo := #[]) (fl : Nat := 33) (sup : Nat := 0) (ifs : Array Nat := #[]) (fds : Array FieldInfo := #[]) : ClassFile where
  minorVersion := 0
  majorVersion := 65
  constantPool := pool
  accessFlags := fl
  thisClass := this
  superClass := sup
  interfaces := ifs
  fields := fds
  methods := ms
  attributes := attrs
def plain (name : String) (sup : Option ClassId) : Class where
  name := name
  kind := .ordinary
  loader := none
  accessFlags := 33
  super := sup
  interfaces := #[]
  cf := none
  fields := #[]
  methods := #[]
  instanceTypes := #[]
  staticTypes := #[]
  resolved := #[]
  callSites := []
  init := .initialized
  statics := none
  mirror := none

def pool0 : Array CpInfo := pool [(5, u "<init>"), (0, u "()V"), (1, .class_ 10), (1, u "java/lang/Object")] 113

def k0m0 : Method := { name := "<init>", desc := "()V", sig := { parameters := [], returnType := none }, accessFlags := 1, code := none }
/-- java/lang/Object -/
def k0 : Class := { plain "java/lang/Object" none with
  accessFlags := 33
  interfaces := #[]
  cf := some (fileOf pool0 8 #[] #[{ accessFlags := 1, nameIndex := 5, descriptorIndex := 6, attributes := #[] }] 33 0 #[] #[])
  fields := #[]
  methods := #[k0m0]
  instanceTypes := #[]
  staticTypes := #[]
  resolved := Array.replicate 124 none
  statics := none }

def pool1 : Array CpInfo := pool [(2, .class_ 4), (1, u "java/lang/Object"), (0, u "<init>"), (0, u "()V"), (0, .double 4611686018427387904), (1, .double 4616189618054758400), (1, .double 4625196817309499392), (1, .double 4643211215818981376), (1, .double 4679240012837945344), (1, .double 4751297606875873280), (1, .double 4895412794951729152), (1, .double 5183643171103440896), (1, .double 5760103923406864384), (1, .double 6913025428013711360), (1, .double 2301339409586323456), (1, .methodref 30 31), (0, .class_ 32), (0, .nameAndType 33 34), (0, u "com/example/gaithersburg/gaithersburg/graph/DoubleDoubleRoundingOfPinLaw"), (0, u "scaleOf"), (0, u "(I)D"), (0, .methodref 36 37), (0, .class_ 38), (0, .nameAndType 39 40), (0, u "com/example/gaithersburg/gaithersburg/graph/DoubleDouble"), (0, u "roundingOf"), (0, u "(DDD)D"), (3, u "law"), (0, u "(IIIII)Z")] 2

def k1m0 : Method := { name := "<init>", desc := "()V", sig := { parameters := [], returnType := none }, accessFlags := 2, code := none }
def k1c1 : Code := { maxStack := 4, maxLocals := 3, code := method_2_code, exceptionTable := #[], attributes := #[] }
def k1m1 : Method := { name := "scaleOf", desc := "(I)D", sig := { parameters := [.int], returnType := some .double }, accessFlags := 10, code := some k1c1 }
def k1c2 : Code := { maxStack := 6, maxLocals := 32, code := code, exceptionTable := #[], attributes := #[] }
def k1m2 : Method := { name := "law", desc := "(IIIII)Z", sig := { parameters := [.int, .int, .int, .int, .int], returnType := some .boolean }, accessFlags := 9, code := some k1c2 }
/-- com/example/gaithersburg/gaithersburg/graph/DoubleDoubleRoundingOfPinLaw -/
def k1 : Class := { plain "com/example/gaithersburg/gaithersburg/graph/DoubleDoubleRoundingOfPinLaw" (some 0) with
  accessFlags := 49
  interfaces := #[]
  cf := some (fileOf pool1 30 #[] #[{ accessFlags := 2, nameIndex := 5, descriptorIndex := 6, attributes := #[] }, { accessFlags := 10, nameIndex := 33, descriptorIndex := 34, attributes := #[] }, { accessFlags := 9, nameIndex := 44, descriptorIndex := 45, attributes := #[] }] 49 2 #[] #[])
  fields := #[]
  methods := #[k1m0, k1m1, k1m2]
  instanceTypes := #[]
  staticTypes := #[]
  resolved := Array.replicate 48 none
  statics := none }

def pool2 : Array CpInfo := pool [(2, .class_ 4), (1, u "java/lang/Object"), (0, u "<init>"), (0, u "()V"), (0, .class_ 8), (0, u "com/example/gaithersburg/gaithersburg/graph/DoubleDouble"), (8, u "high"), (0, u "D"), (2, u "low"), (2, u "roundingOf"), (0, u "(DDD)D"), (36, u "MAX_SQUARINGS"), (0, u "I"), (2, u "SPLITTER")] 11

def k2m0 : Method := { name := "<init>", desc := "()V", sig := { parameters := [], returnType := none }, accessFlags := 0, code := none }
def k2c1 : Code := { maxStack := 6, maxLocals := 8, code := prog_34_method_2_code, exceptionTable := #[], attributes := #[] }
def k2m1 : Method := { name := "roundingOf", desc := "(DDD)D", sig := { parameters := [.double, .double, .double], returnType := some .double }, accessFlags := 8, code := some k2c1 }
/-- com/example/gaithersburg/gaithersburg/graph/DoubleDouble -/
def k2 : Class := { plain "com/example/gaithersburg/gaithersburg/graph/DoubleDouble" (some 0) with
  accessFlags := 48
  interfaces := #[]
  cf := some (fileOf pool2 7 #[] #[{ accessFlags := 0, nameIndex := 5, descriptorIndex := 6, attributes := #[] }, { accessFlags := 8, nameIndex := 24, descriptorIndex := 25, attributes := #[] }] 48 2 #[] #[{ accessFlags := 26, nameIndex := 62, descriptorIndex := 63, attributes := #[] }, { accessFlags := 26, nameIndex := 66, descriptorIndex := 18, attributes := #[] }, { accessFlags := 2, nameIndex := 17, descriptorIndex := 18, attributes := #[] }, { accessFlags := 2, nameIndex := 21, descriptorIndex := 18, attributes := #[] }])
  fields := #[{ name := "MAX_SQUARINGS", type := .int, accessFlags := 26, slot := 0, constantValue := 0 }, { name := "SPLITTER", type := .double, accessFlags := 26, slot := 1, constantValue := 0 }, { name := "high", type := .double, accessFlags := 2, slot := 0, constantValue := 0 }, { name := "low", type := .double, accessFlags := 2, slot := 1, constantValue := 0 }]
  methods := #[k2m0, k2m1]
  instanceTypes := #[.double, .double]
  staticTypes := #[.int, .double]
  resolved := Array.replicate 78 none
  statics := none }

def pool3 : Array CpInfo := pool [(1, u "java/lang/Cloneable"), (0, .class_ 1), (0, u "java/lang/Object"), (0, .class_ 3)] 3

/-- java/lang/Cloneable -/
def k3 : Class := { plain "java/lang/Cloneable" (some 0) with
  accessFlags := 1537
  interfaces := #[]
  cf := some (fileOf pool3 2 #[] #[] 1537 4 #[] #[])
  fields := #[]
  methods := #[]
  instanceTypes := #[]
  staticTypes := #[]
  resolved := Array.replicate 8 none
  statics := none }

def pool4 : Array CpInfo := pool [(1, u "java/io/Serializable"), (0, .class_ 1), (0, u "java/lang/Object"), (0, .class_ 3)] 3

/-- java/io/Serializable -/
def k4 : Class := { plain "java/io/Serializable" (some 0) with
  accessFlags := 1537
  interfaces := #[]
  cf := some (fileOf pool4 2 #[] #[] 1537 4 #[] #[])
  fields := #[]
  methods := #[]
  instanceTypes := #[]
  staticTypes := #[]
  resolved := Array.replicate 8 none
  statics := none }

/-- the primitive byte -/
def k5 : Class := { plain "byte" none with kind := .primitive 'B', accessFlags := 0x411 }
/-- [B -/
def k6 : Class := { plain "[B" (some 0) with kind := .array 5 .byte, interfaces := #[3, 4], accessFlags := 1041 }

/-- the primitive int -/
def k7 : Class := { plain "int" none with kind := .primitive 'I', accessFlags := 0x411 }
/-- [I -/
def k8 : Class := { plain "[I" (some 0) with kind := .array 7 .int, interfaces := #[3, 4], accessFlags := 1041 }

def heap : Heap := #[]
def classes : Array Class := #[k0, k1, k2, k3, k4, k5, k6, k7, k8]
def interned : List (Array UInt16 × Addr) := []
def slotsUsed : Nat := 0
def theMethod : MethodId := ⟨1, 2⟩
def args0 : Array Value := #[.int 5, .int 3, .int 0, .int 1, .int 2]
def aboutOver (below : List Frame) : State where
  vm := { classes := classes, interned := interned.toArray }
  heap := heap
  slotsUsed := slotsUsed
  threads := #[{ frames := .invoking theMethod args0 :: below }]
def below0 : List Frame := [.native { method := ⟨0, 0⟩, args := #[] }]
def about1 : State := aboutOver below0
def p0 : Program := .bare "" "" ""
def e0 : Env := launch0.env 0 0 0
theorem w_frames : about1.frames = Frame.invoking theMethod args0 :: below0 := rfl
set_option maxRecDepth 65536 in
theorem w_args : argsFit about1.vm theMethod args0 = true := by decide +kernel
set_option maxRecDepth 65536 in
theorem w_heap : heapFits about1 = true := by decide +kernel
set_option maxRecDepth 65536 in
theorem w_runnable : about1.curStatus? = some .runnable := by decide +kernel
set_option maxRecDepth 65536 in
theorem w_alone : about1.alone = true := by decide +kernel
set_option maxRecDepth 65536 in
theorem w_named : about1.methodNamed? x = some theMethod := by decide +kernel
set_option maxRecDepth 65536 in
theorem w_hears : about1.hears theMethod below0 = true := by decide +kernel
set_option maxRecDepth 65536 in
theorem w_ripe : about1.ripe theMethod args0 below0 = true := by decide +kernel
theorem w_running : about1.status = .running := rfl
set_option maxRecDepth 65536 in
theorem w_room : about1.hasRoom e0.platform room_1 = true :=
  launch0.hasRoom_least _ room_1 (by decide +kernel) (by decide +kernel) (by decide +kernel) (by decide +kernel) (by decide +kernel) (by decide +kernel)
theorem allAtoms_all (ts : List Jvm.Cond) (a : Array Jvm.Value) (st : Jvm.State) : (allAtoms ts).before a st = ts.all (fun c => c.before a st) := by
  induction ts with
  | nil => rfl
  | cons c t ih =>
    show (Jvm.Cond.and c (allAtoms t)).before a st = _
    rw [Jvm.Cond.before_and, ih, List.all_cons]
def words1 : List Jvm.Cond := Jvm.Cond.code x code maxLocals ret :: tables_1
/-- a 'code' word, met by the world's own term for the bytes: nothing is compared byte by byte -/
theorem code_word {y : MethodName} {bytes : ByteArray} {mx : Nat} {rt : Option FieldType} {a : Array Value} {s : State} {m : MethodId} {meth : Method} {c : Code} (h1 : s.methodNamed? y = some m) (h2 : s.vm.method? m = some meth) (h3 : meth.code = some c) (h4 : c.code = bytes)
    (h5 : (c.maxLocals == mx && c.exceptionTable.isEmpty && decide (c.maxStack ≤ mostOperands) && decide (meth.sig.returnType = rt) && !meth.locks && decide (parseMethodDescriptor y.desc = some meth.sig)) = true) : (Jvm.Cond.code y bytes mx rt).before a s = true := by
  simp only [Bool.and_eq_true, beq_iff_eq, Bool.not_eq_true', decide_eq_true_eq] at h5
  obtain ⟨⟨⟨⟨⟨g1, g2⟩, g3⟩, g4⟩, g5⟩, g6⟩ := h5
  simp [Cond.before, Cond.holds, Cond.value, h1, h2, h3, h4, g1, g2, g3, g4, g5, g6]
def isCode : Jvm.Cond → Bool
  | .code _ _ _ _ => true
  | _ => false
theorem all_split {L : List Jvm.Cond} {P : Jvm.Cond → Bool} (h1 : L.all (fun c => isCode c || P c) = true) (h2 : ∀ c ∈ L.filter isCode, P c = true) : L.all P = true := by
  refine List.all_eq_true.mpr fun c hc => ?_
  have h := List.all_eq_true.mp h1 c hc
  rcases Bool.eq_false_or_eq_true (isCode c) with hi | hi
  · exact h2 c (List.mem_filter.mpr ⟨hc, hi⟩)
  · simpa [hi] using h
set_option maxRecDepth 65536 in
theorem w_c0 : (Jvm.Cond.code x code maxLocals ret).before args0 about1 = true := code_word (m := ⟨1, 2⟩) (meth := k1m2) (c := k1c2) (by decide +kernel) rfl rfl rfl (by decide +kernel)
set_option maxRecDepth 65536 in
theorem w_c1 : (Jvm.Cond.code ({ cls := "com/example/gaithersburg/gaithersburg/graph/DoubleDoubleRoundingOfPinLaw", name := "scaleOf", desc := "(I)D" } : Jvm.MethodName) method_2_code (3 : Nat) (Option.some Jvm.ClassFile.FieldType.double)).before args0 about1 = true := code_word (m := ⟨1, 1⟩) (meth := k1m1) (c := k1c1) (by decide +kernel) rfl rfl rfl (by decide +kernel)
set_option maxRecDepth 65536 in
theorem w_c2 : (Jvm.Cond.code ({ cls := "com/example/gaithersburg/gaithersburg/graph/DoubleDouble", name := "roundingOf", desc := "(DDD)D" } : Jvm.MethodName) prog_34_method_2_code (8 : Nat) (Option.some Jvm.ClassFile.FieldType.double)).before args0 about1 = true := code_word (m := ⟨2, 1⟩) (meth := k2m1) (c := k2c1) (by decide +kernel) rfl rfl rfl (by decide +kernel)
def codes1 : List Jvm.Cond := [Jvm.Cond.code x code maxLocals ret, Jvm.Cond.code ({ cls := "com/example/gaithersburg/gaithersburg/graph/DoubleDoubleRoundingOfPinLaw", name := "scaleOf", desc := "(I)D" } : Jvm.MethodName) method_2_code (3 : Nat) (Option.some Jvm.ClassFile.FieldType.double), Jvm.Cond.code ({ cls := "com/example/gaithersburg/gaithersburg/graph/DoubleDouble", name := "roundingOf", desc := "(DDD)D" } : Jvm.MethodName) prog_34_method_2_code (8 : Nat) (Option.some Jvm.ClassFile.FieldType.double)]
set_option maxRecDepth 65536 in
theorem codes_eq : words1.filter isCode = codes1 := rfl
theorem w_codes : ∀ c ∈ words1.filter isCode, c.before args0 about1 = true := by
  rw [codes_eq]
  intro c hc
  simp only [codes1, List.mem_cons, List.not_mem_nil, or_false] at hc
  rcases hc with rfl | rfl | rfl
  · exact w_c0
  · exact w_c1
  · exact w_c2
set_option maxRecDepth 65536 in
theorem w_t1 : words1.all (fun c => isCode c || c.before args0 about1) = true := by decide +kernel
theorem w_tables : (allAtoms (Jvm.Cond.code x code maxLocals ret :: tables_1)).before args0 about1 = true := by
  rw [allAtoms_all]
  show words1.all (fun c => c.before args0 about1) = true
  refine all_split ?_ w_codes
  rw [w_t1]
set_option maxRecDepth 65536 in
theorem w_case : (Jvm.Cond.and given_1 narrow_1).before args0 about1 = true := by decide +kernel
theorem w_applies : (headSpec (Jvm.Cond.code x code maxLocals ret :: tables_1) room_1).applies x e0.platform about1 = true :=
  (Spec.applies_iff w_frames).mpr ⟨w_running, w_runnable, w_alone, w_named, w_hears, w_ripe, w_room, w_tables⟩
theorem atStart : AtStart classFile x code maxLocals ret World_1 tables_1 room_1 Calls_1 rest_1 Pre_1 launch0 p0 e0 about1 theMethod args0 below0 :=
  ⟨lists_1, trivial, launch0.admits_env _ _ _, launch0.least_env, fairChoices_fair.cas, fairChoices_fair.clock, w_frames, w_args, w_heap, w_applies, trivial, trivial, w_case⟩
end start1
theorem witness_1 : WitnessClaimed_1 := ⟨start1.p0, start1.e0, start1.about1, start1.theMethod, start1.args0, start1.below0, start1.atStart⟩
end Jvm.Pilot.@@N@@

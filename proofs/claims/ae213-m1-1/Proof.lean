import JvmDerived
import JvmDerived.Pilot.@@N@@Statement
import JvmDerived.Pilot.@@N@@Code
set_option linter.unusedVariables false
set_option linter.unusedSimpArgs false
namespace Jvm.RoadKit
open Sem ClassFile Op Lib Jvm.Stand Jvm.Free Jvm.LawKit
section New
variable {p : Program} {l : Launch} {e : Env} {R : Room} {s : State} {m : MethodId} {args : Array Value} {below : List Frame} {meth : Method} {c : Code} {T : State} {locs : List Loc} {cells slots : Nat}
theorem retI (X : Stand p l e R s m args below meth c T locs cells slots) (hx : p.tables.exec = Jvm.exec) {pc : Nat} {Ls : Array Slot} {z : Int32} {rest : List Value} (hret : meth.sig.returnType = some .int) (hd : decode c.code pc = .ok (.ireturn, 1)) {fs : List Frame}
    (hl : ∀ (f : JFrame) (acts : List Action), f.method = m → f.locked = none → f.entered = [] → (doReturn e (T.setTop f) acts (some (.int z))).1 = T.setFrames fs) : Steps p.tables e below (T.setTop (mkF m pc Ls (.int z :: rest))) (T.setFrames fs) := by
  have hm' : T.vm.method? m = some meth := X.method'
  have hn : narrow .int (.int z) = .int z := rfl
  show Steps p.tables e below (T.setTop { method := m, pc := pc, locals := Ls, stack := _ :: rest, locked := none }) _
  jvm_step X.here [X.here.top, hx, hd, hm', hret, hn]
  first | (intro acts; rw [hl _ acts rfl rfl rfl]) | rw [hl _ _ rfl rfl rfl]
  exact Steps.refl _
theorem retD (X : Stand p l e R s m args below meth c T locs cells slots) (hx : p.tables.exec = Jvm.exec) {pc : Nat} {Ls : Array Slot} {z : UInt64} {rest : List Value} (hret : meth.sig.returnType = some .double) (hd : decode c.code pc = .ok (.dreturn, 1)) {fs : List Frame}
    (hl : ∀ (f : JFrame) (acts : List Action), f.method = m → f.locked = none → f.entered = [] → (doReturn e (T.setTop f) acts (some (.double z))).1 = T.setFrames fs) : Steps p.tables e below (T.setTop (mkF m pc Ls (.double z :: rest))) (T.setFrames fs) := by
  have hm' : T.vm.method? m = some meth := X.method'
  show Steps p.tables e below (T.setTop { method := m, pc := pc, locals := Ls, stack := _ :: rest, locked := none }) _
  jvm_step X.here [X.here.top, hx, hd, hm', hret]
  first | (intro acts; rw [hl _ acts rfl rfl rfl]) | rw [hl _ _ rfl rfl rfl]
  exact Steps.refl _
end New
/-- a body that leaves the heap as it was -/
def QP (w : Value) (h0 : Heap) (n0 : Nat) (v : Option Value) (h : Heap) (L : List Loc) : Prop := v = some w ∧ Fr n0 L ∧ h = h0
/-- the law says true, and writes into nothing that stood at the start -/
def QL (n0 : Nat) (v : Option Value) (h : Heap) (L : List Loc) : Prop := v = some (.int 1) ∧ Fr n0 L
end Jvm.RoadKit

/-! OwnFP: rounding, in units of the least double. My own text, pasted into each proof. -/
namespace Jvm.Own
open Jvm.FP.Core Jvm.Free.Fl
/-- a power of two that nothing reckons out -/
def PN (j : Nat) : Nat := 2 ^ j
theorem PN_pos (j : Nat) : 0 < PN j := Nat.two_pow_pos _
theorem PN_posI (j : Nat) : (0 : Int) < (PN j : Int) := Int.ofNat_lt.mpr (PN_pos j)
theorem PN_add (i j : Nat) : PN (i + j) = PN i * PN j := Nat.pow_add ..
theorem PN_addI (i j : Nat) : (PN (i + j) : Int) = (PN i : Int) * (PN j : Int) := by rw [PN_add, Int.natCast_mul]
/-- a double as a whole number of 2^-1074 -/
def z (a : UInt64) : Int := zval b64 (val64 a)
theorem z_fin {a : UInt64} {s : Bool} {c : Nat} {q : Int} (h : val64 a = .fin s c q) : z a = signed s (inUnits c q b64.qmin) := by
  unfold z; rw [h]; rfl
/-- r is the rounding of N / D, in these units -/
def Rnd (N : Int) (D : Nat) (r : UInt64) : Prop := 0 < D ∧ ∃ s, signed s N.natAbs = N ∧ val64 r = roundRatio b64 s N.natAbs D b64.qmin
theorem DFin.fits {a : UInt64} {s : Bool} {c : Nat} {q : Int} (h : val64 a = .fin s c q) : Jvm.FP.Core.fits b64 (.fin s c q) := h ▸ val64_fits a
theorem rnd_dadd {a b : UInt64} (ha : DFin a) (hb : DFin b) : Rnd (z a + z b) 1 (dadd a b) := by
  obtain ⟨s, c, q, h1⟩ := ha
  obtain ⟨t, d, r, h2⟩ := hb
  obtain ⟨sg, n, e, hs, he, hu⟩ := sum_units (DFin.fits h1) (DFin.fits h2)
  have hz : z a + z b = signed sg (inUnits n e b64.qmin) := by unfold z; rw [h1, h2, hu]
  have hn : (z a + z b).natAbs = inUnits n e b64.qmin := by rw [hz, natAbs_signed]
  refine ⟨by decide, sg, by rw [hn, hz], ?_⟩
  rw [val64_dadd, h1, h2, hs, hn]
  show roundRatio b64 sg n 1 e = _
  refine roundRatio_congr (by decide) (by decide) ?_
  rw [show (b64.qmin - e).toNat = 0 by omega]
  simp [inUnits]
theorem z_neg {b : UInt64} : z (Jvm.FP.Core.dneg b) = - z b := by unfold z; rw [val64_dneg, zval_negate]
theorem fin_neg {b : UInt64} (hb : DFin b) : DFin (Jvm.FP.Core.dneg b) := by
  obtain ⟨t, d, r, h2⟩ := hb
  exact ⟨!t, d, r, by rw [val64_dneg, h2]; rfl⟩
theorem z_dneg {b : UInt64} : z (Jvm.FP.dneg b) = - z b := by unfold z; rw [Jvm.FP.val64_dneg, zval_negate]
theorem fin_dneg {b : UInt64} (hb : DFin b) : DFin (Jvm.FP.dneg b) := by
  obtain ⟨t, d, r, h2⟩ := hb
  exact ⟨!t, d, r, by rw [Jvm.FP.val64_dneg, h2]; rfl⟩
theorem rnd_dsub {a b : UInt64} (ha : DFin a) (hb : DFin b) : Rnd (z a - z b) 1 (dsub a b) := by
  have h := rnd_dadd ha (fin_neg hb)
  rw [z_neg] at h
  rw [dsub_eq, Int.sub_eq_add_neg]
  exact h
theorem qm : b64.qmin = -1074 := qmin_b64
theorem rnd_dmul {a b : UInt64} (ha : DFin a) (hb : DFin b) : Rnd (z a * z b) (PN 1074) (dmul a b) := by
  obtain ⟨s, c, q, h1⟩ := ha
  obtain ⟨t, d, r, h2⟩ := hb
  obtain ⟨hp, hq, hu⟩ := product_units (DFin.fits h1) (DFin.fits h2)
  have hz : z a * z b = signed (s != t) (inUnits (c * d) (q + r) (2 * b64.qmin)) := by
    rw [hu, signed_xor]; unfold z; rw [h1, h2]; rfl
  have hn : (z a * z b).natAbs = inUnits (c * d) (q + r) (2 * b64.qmin) := by rw [hz, natAbs_signed]
  refine ⟨PN_pos _, s != t, by rw [hn, hz], ?_⟩
  rw [val64_dmul, h1, h2, hp, hn]
  show roundRatio b64 (s != t) (c * d) 1 (q + r) = _
  refine roundRatio_congr (by decide) (PN_pos _) ?_
  unfold inUnits PN
  have := qm
  generalize hk : (1074 : Nat) = K at *
  calc c * d * 2 ^ K * 2 ^ (q + r - b64.qmin).toNat = c * d * 2 ^ (K + (q + r - b64.qmin).toNat) := by rw [Nat.pow_add]; ac_rfl
    _ = c * d * 2 ^ ((q + r - 2 * b64.qmin).toNat + (b64.qmin - (q + r)).toNat) := by congr 2; omega
    _ = _ := by rw [Nat.pow_add]; ac_rfl
theorem pos_sign {b : UInt64} {t : Bool} {d : Nat} {r : Int} (h2 : val64 b = .fin t d r) (hb : 0 < z b) : t = false ∧ d ≠ 0 ∧ (z b).natAbs = d * 2 ^ (r - b64.qmin).toNat := by
  have h := z_fin h2
  have hn : (z b).natAbs = d * 2 ^ (r - b64.qmin).toNat := by rw [h, natAbs_signed]; rfl
  refine ⟨?_, ?_, hn⟩
  · cases t
    · rfl
    · simp only [signed, if_true] at h; omega
  · rintro rfl
    rw [Nat.zero_mul] at hn; omega
theorem rnd_ddiv {a b : UInt64} (ha : DFin a) (hb : DFin b) (hp : 0 < z b) : Rnd (z a * (PN 1074 : Int)) (z b).natAbs (ddiv a b) := by
  obtain ⟨s, c, q, h1⟩ := ha
  obtain ⟨t, d, r, h2⟩ := hb
  obtain ⟨rfl, hd0, hD⟩ := pos_sign h2 hp
  have hza : z a * (PN 1074 : Int) = signed s (inUnits c q b64.qmin * PN 1074) := by rw [z_fin h1, signed_mul]
  have hn : (z a * (PN 1074 : Int)).natAbs = inUnits c q b64.qmin * PN 1074 := by rw [hza, natAbs_signed]
  refine ⟨by omega, s, by rw [hn, hza], ?_⟩
  rw [val64_ddiv, h1, h2, hn, hD]
  simp only [quotient, if_neg hd0]
  rw [show (s != false) = s by cases s <;> rfl]
  refine roundRatio_congr (by omega) (Nat.mul_pos (by omega) (Nat.two_pow_pos _)) ?_
  have f1 := (DFin.fits h1).2.1
  have f2 := (DFin.fits h2).2.1
  unfold inUnits PN
  have := qm
  generalize hk : (1074 : Nat) = K at *
  calc c * (d * 2 ^ (r - b64.qmin).toNat) * 2 ^ (q - r - b64.qmin).toNat = c * d * 2 ^ ((r - b64.qmin).toNat + (q - r - b64.qmin).toNat) := by rw [Nat.pow_add]; ac_rfl
    _ = c * d * 2 ^ ((q - b64.qmin).toNat + K + (b64.qmin - (q - r)).toNat) := by congr 2; omega
    _ = _ := by rw [Nat.pow_add, Nat.pow_add]; ac_rfl
theorem rnd_l2d (v : Int64) : Rnd (v.toInt * (PN 1074 : Int)) 1 (l2d v) := by
  have hP := PN_posI 1074
  have hn : (v.toInt * (PN 1074 : Int)).natAbs = v.toInt.natAbs * PN 1074 := by rw [Int.natAbs_mul, Int.natAbs_natCast]
  refine ⟨by decide, decide (v.toInt < 0), ?_, ?_⟩
  · rw [hn, signed_mul]
    congr 1
    by_cases h : v.toInt < 0
    · simp only [signed, h, decide_true, if_true]; omega
    · simp only [signed, h, decide_false, Bool.false_eq_true, if_false]; omega
  · rw [val64_l2d, hn]
    show roundRatio b64 (decide (v.toInt < 0)) v.toInt.natAbs 1 0 = _
    refine roundRatio_congr (by decide) (by decide) ?_
    have := qm
    rw [show (0 - b64.qmin).toNat = 1074 by omega, show (b64.qmin - 0).toNat = 0 by omega]
    show v.toInt.natAbs * 1 * PN 1074 = v.toInt.natAbs * PN 1074 * 1 * 2 ^ 0
    rw [Nat.pow_zero, Nat.mul_one, Nat.mul_one, Nat.mul_one]
theorem i2d_l2d' (v : Int32) : i2d v = l2d v.toInt64 := i2d_l2d v
theorem rnd_i2d (v : Int32) : Rnd (v.toInt * (PN 1074 : Int)) 1 (i2d v) := by
  have h := rnd_l2d v.toInt64
  rw [Int32.toInt_toInt64] at h
  rw [i2d_l2d]; exact h
theorem Rnd.ne_nan {N : Int} {D : Nat} {r : UInt64} (h : Rnd N D r) : val64 r ≠ .nan := by
  obtain ⟨-, s, -, h⟩ := h
  rw [h]; exact roundRatio_ne_nan _ _ _ _ _
/-- the quotient alone counts -/
theorem Rnd.scale {N : Int} {D : Nat} {r : UInt64} (k : Nat) (hk : 0 < k) (h : Rnd (N * (k : Int)) (D * k) r) : Rnd N D r := by
  obtain ⟨hD, s, hs, hv⟩ := h
  have hD' : 0 < D := Nat.pos_of_mul_pos_right hD
  have hn : (N * (k : Int)).natAbs = N.natAbs * k := by rw [Int.natAbs_mul, Int.natAbs_natCast]
  refine ⟨hD', s, ?_, ?_⟩
  · rw [hn, signed_mul] at hs
    exact Int.eq_of_mul_eq_mul_right (by omega) hs
  · rw [hv, hn]
    refine roundRatio_congr hD hD' ?_
    simp only [Int.sub_self, Int.toNat_zero, Nat.pow_zero, Nat.mul_one]
    ac_rfl
theorem Rnd.up {N : Int} {D : Nat} {r : UInt64} (k : Nat) (hk : 0 < k) (h : Rnd N D r) : Rnd (N * (k : Int)) (D * k) r := by
  obtain ⟨hD, s, hs, hv⟩ := h
  have hn : (N * (k : Int)).natAbs = N.natAbs * k := by rw [Int.natAbs_mul, Int.natAbs_natCast]
  refine ⟨Nat.mul_pos hD hk, s, ?_, ?_⟩
  · rw [hn, signed_mul, hs]
  · rw [hv, hn]
    refine roundRatio_congr hD (Nat.mul_pos hD hk) ?_
    simp only [Int.sub_self, Int.toNat_zero, Nat.pow_zero, Nat.mul_one]
    ac_rfl
theorem Rnd.z_eq {N : Int} {D : Nat} {r : UInt64} {s : Bool} (h : val64 r = roundRatio b64 s N.natAbs D b64.qmin) : z r = signed s (zmag b64 (val64 r)) := by
  unfold z zval
  rw [show sgn (val64 r) = s by rw [h, sgn_roundRatio]]
theorem DFin.ne {a : UInt64} (h : DFin a) : val64 a ≠ .nan := h.ne_nan
theorem Rnd.le {N : Int} {D : Nat} {r V : UInt64} (h : Rnd N D r) (hV : DFin V) (hle : N ≤ z V * (D : Int)) : z r ≤ z V := by
  obtain ⟨hD, s, hs, hv⟩ := h
  have h1 := zmag_roundRatio_le good_b64 (s := s) (A := N.natAbs) (e := b64.qmin) (e0 := b64.qmin) hD (val64_fits V) hV.ne_nan (Int.le_refl _) (Int.le_refl _)
  have h2 := zmag_roundRatio_ge good_b64 (s := s) (A := N.natAbs) (e := b64.qmin) (e0 := b64.qmin) hD (val64_fits V) (Int.le_refl _) (Int.le_refl _)
  rw [← hv] at h1 h2
  have e1 : inUnits N.natAbs b64.qmin b64.qmin = N.natAbs := by simp [inUnits]
  rw [e1, Int.sub_self, Int.toNat_zero, Nat.pow_zero, Nat.mul_one] at h1 h2
  rw [Rnd.z_eq hv]
  have hzV : z V = signed (sgn (val64 V)) (zmag b64 (val64 V)) := rfl
  rw [hzV, ← signed_mul] at hle
  rw [hzV]
  have hz : zmag b64 (val64 V) * D = 0 → zmag b64 (val64 V) = 0 := by
    intro h
    rcases Nat.mul_eq_zero.mp h with h | h <;> omega
  generalize zmag b64 (val64 V) * D = vP at *
  generalize zmag b64 (val64 V) = v at *
  generalize zmag b64 (val64 r) = x at *
  generalize sgn (val64 V) = t at *
  cases s <;> cases t <;> simp only [signed, if_true, Bool.false_eq_true, if_false] at hle hs ⊢
  · have := h1 (by omega); omega
  · have := h1 (by omega); have := hz (by omega); omega
  · omega
  · have := h2 (by omega); omega
theorem Rnd.ge {N : Int} {D : Nat} {r V : UInt64} (h : Rnd N D r) (hV : DFin V) (hle : z V * (D : Int) ≤ N) : z V ≤ z r := by
  obtain ⟨hD, s, hs, hv⟩ := h
  have h1 := zmag_roundRatio_le good_b64 (s := s) (A := N.natAbs) (e := b64.qmin) (e0 := b64.qmin) hD (val64_fits V) hV.ne_nan (Int.le_refl _) (Int.le_refl _)
  have h2 := zmag_roundRatio_ge good_b64 (s := s) (A := N.natAbs) (e := b64.qmin) (e0 := b64.qmin) hD (val64_fits V) (Int.le_refl _) (Int.le_refl _)
  rw [← hv] at h1 h2
  have e1 : inUnits N.natAbs b64.qmin b64.qmin = N.natAbs := by simp [inUnits]
  rw [e1, Int.sub_self, Int.toNat_zero, Nat.pow_zero, Nat.mul_one] at h1 h2
  rw [Rnd.z_eq hv]
  have hzV : z V = signed (sgn (val64 V)) (zmag b64 (val64 V)) := rfl
  rw [hzV, ← signed_mul] at hle
  rw [hzV]
  have hz : zmag b64 (val64 V) * D = 0 → zmag b64 (val64 V) = 0 := by
    intro h
    rcases Nat.mul_eq_zero.mp h with h | h <;> omega
  generalize zmag b64 (val64 V) * D = vP at *
  generalize zmag b64 (val64 V) = v at *
  generalize zmag b64 (val64 r) = x at *
  generalize sgn (val64 V) = t at *
  cases s <;> cases t <;> simp only [signed, if_true, Bool.false_eq_true, if_false] at hle hs ⊢
  · have := h2 (by omega); omega
  · omega
  · have := h1 (by omega); have := hz (by omega); omega
  · have := h1 (by omega); omega
/-- a double between two finite ones is finite -/
theorem fin_between {r L H : UInt64} (hn : val64 r ≠ .nan) (hL : DFin L) (hH : DFin H) (h1 : z L ≤ z r) (h2 : z r ≤ z H) : DFin r := by
  obtain ⟨s, c, q, a1⟩ := hL
  obtain ⟨t, d, k, b1⟩ := hH
  have l1 := zmag_lt_top good_b64 (DFin.fits a1)
  have l2 := zmag_lt_top good_b64 (DFin.fits b1)
  rw [z_fin a1] at h1
  rw [z_fin b1] at h2
  cases hr : val64 r with
  | nan => exact absurd hr hn
  | fin s' c' q' => exact ⟨s', c', q', hr⟩
  | inf s' =>
    exfalso
    have hzr : z r = signed s' (b64.tails * 2 ^ (b64.exps - 2)) := by unfold z; rw [hr]; rfl
    rw [hzr] at h1 h2
    generalize b64.tails * 2 ^ (b64.exps - 2) = top at *
    generalize inUnits c q b64.qmin = u at *
    generalize inUnits d k b64.qmin = w at *
    cases s' <;> cases s <;> cases t <;> simp only [signed, if_true, Bool.false_eq_true, if_false] at h1 h2 <;> omega
/-- numbers of at most 53 digits are doubles -/
theorem rep (m : Int) (j : Nat) (hm : m.natAbs ≤ 2 ^ 53) (hj : j ≤ 2000) : ∃ V : UInt64, DFin V ∧ z V = m * (PN j : Int) := by
  have key : ∀ (m : Int) (j : Nat), m.natAbs < 2 ^ 53 → j ≤ 2001 → ∃ V : UInt64, DFin V ∧ z V = m * (PN j : Int) := by
    intro m j hm hj
    have hq : b64.qmin = -1074 := qm
    have hx : b64.qmax = 971 := by decide
    obtain ⟨c', q', h1, h2⟩ := round_exact good_b64 (decide (m < 0)) (c := m.natAbs) (q := (j : Int) - 1074) hm (by omega) (by omega)
    have hf := round_fits good_b64 (.fin (decide (m < 0)) m.natAbs ((j : Int) - 1074))
    refine ⟨of64 (round b64 (.fin (decide (m < 0)) m.natAbs ((j : Int) - 1074))), ⟨_, _, _, by rw [val64_of64 hf, h1]⟩, ?_⟩
    rw [z_fin (by rw [val64_of64 hf, h1]), h2]
    unfold inUnits
    rw [show ((j : Int) - 1074 - b64.qmin).toNat = j by omega, signed_mul]
    show signed (decide (m < 0)) m.natAbs * (PN j : Int) = m * (PN j : Int)
    congr 1
    by_cases h : m < 0
    · simp only [signed, h, decide_true, if_true]; omega
    · simp only [signed, h, decide_false, Bool.false_eq_true, if_false]; omega
  by_cases h : m.natAbs < 2 ^ 53
  · exact key m j h (by omega)
  · obtain ⟨V, hV, hz⟩ := key (m / 2) (j + 1) (by omega) (by omega)
    refine ⟨V, hV, ?_⟩
    have h2 : m = 2 * (m / 2) := by omega
    rw [hz, PN_addI, show (PN 1 : Int) = 2 from rfl]
    conv => rhs; rw [h2]
    generalize (PN j : Int) = P
    rw [Int.mul_comm P, ← Int.mul_assoc]
    congr 1
    exact Int.mul_comm _ _
theorem Rnd.fin_of {N : Int} {D : Nat} {r L H : UInt64} (h : Rnd N D r) (hL : DFin L) (hH : DFin H) (h1 : z L * (D : Int) ≤ N) (h2 : N ≤ z H * (D : Int)) : DFin r :=
  fin_between h.ne_nan hL hH (h.ge hL h1) (h.le hH h2)
/-- an exact quotient isn't rounded -/
theorem Rnd.exact {N : Int} {D : Nat} {r : UInt64} (h : Rnd N D r) (m : Int) (j : Nat) (hm : m.natAbs ≤ 2 ^ 53) (hj : j ≤ 2000) (hN : N = m * (PN j : Int) * (D : Int)) : DFin r ∧ z r = m * (PN j : Int) := by
  obtain ⟨V, hV, hz⟩ := rep m j hm hj
  have e : N = z V * (D : Int) := by rw [hz]; exact hN
  exact ⟨h.fin_of hV hV (by omega) (by omega), by have := h.le hV (by omega); have := h.ge hV (by omega); omega⟩
/-- off by less than g = 2^j, where the quotient is at most 2^53 g -/
theorem Rnd.near {N : Int} {D : Nat} {r : UInt64} (h : Rnd N D r) (j : Nat) (hj : j ≤ 2000) (h1 : -(2 ^ 53 * (PN j : Int) * (D : Int)) ≤ N) (h2 : N ≤ (2 ^ 53 - 1) * (PN j : Int) * (D : Int)) :
    DFin r ∧ N - (PN j : Int) * (D : Int) < z r * (D : Int) ∧ z r * (D : Int) < N + (PN j : Int) * (D : Int) := by
  have hD : 0 < D := h.1
  have hg : (0 : Int) < (PN j : Int) * (D : Int) := Int.mul_pos (PN_posI j) (by omega)
  have e1 := Int.mul_ediv_add_emod N ((PN j : Int) * (D : Int))
  have e2 := Int.emod_nonneg N (b := (PN j : Int) * (D : Int)) (by omega)
  have e3 := Int.emod_lt_of_pos N hg
  rw [Int.mul_assoc] at h1 h2
  have l1 : -(2 ^ 53) ≤ N / ((PN j : Int) * (D : Int)) := by
    refine (Int.le_ediv_iff_mul_le hg).mpr ?_
    rw [Int.neg_mul]; exact h1
  have l2 : N / ((PN j : Int) * (D : Int)) ≤ 2 ^ 53 - 1 := by
    refine Int.le_trans (Int.ediv_le_ediv hg h2) ?_
    rw [Int.mul_ediv_cancel _ (by omega)]; exact Int.le_refl _
  obtain ⟨L, hL, zL⟩ := rep (N / ((PN j : Int) * (D : Int))) j (by omega) hj
  obtain ⟨H, hH, zH⟩ := rep (N / ((PN j : Int) * (D : Int)) + 1) j (by omega) hj
  generalize N / ((PN j : Int) * (D : Int)) = m at *
  generalize N % ((PN j : Int) * (D : Int)) = t at *
  have c1 : z L * (D : Int) ≤ N := by
    rw [zL, Int.mul_assoc, Int.mul_comm m]; omega
  have c2 : N ≤ z H * (D : Int) := by
    rw [zH, Int.mul_assoc, Int.add_mul, Int.one_mul, Int.mul_comm m]; omega
  have c3 := Int.mul_le_mul_of_nonneg_right (h.ge hL c1) (c := (D : Int)) (by omega)
  have c4 := Int.mul_le_mul_of_nonneg_right (h.le hH c2) (c := (D : Int)) (by omega)
  refine ⟨h.fin_of hL hH c1 c2, ?_, ?_⟩
  · rw [zL, Int.mul_assoc, Int.mul_comm m] at c3; omega
  · rw [zH, Int.mul_assoc, Int.add_mul, Int.one_mul, Int.mul_comm m] at c4
    by_cases t0 : t = 0
    · have c5 := Int.mul_le_mul_of_nonneg_right (h.le hL (by rw [zL, Int.mul_assoc, Int.mul_comm m]; omega)) (c := (D : Int)) (by omega)
      rw [zL, Int.mul_assoc, Int.mul_comm m] at c5; omega
    · omega
theorem z_inj_zero {a : UInt64} (h : DFin a) : z a = 0 ↔ DZero a := by
  obtain ⟨s, c, q, h1⟩ := h
  rw [z_fin h1, signed_eq_zero]
  constructor
  · intro h
    have : c = 0 := by
      rcases Nat.mul_eq_zero.mp (show c * _ = 0 from h) with h | h
      · exact h
      · have := Nat.two_pow_pos (q - b64.qmin).toNat; omega
    exact ⟨s, q, this ▸ h1⟩
  · rintro ⟨s', q', h2⟩
    rw [h1] at h2
    cases h2
    exact Nat.zero_mul _
/-- nothing is nearer -/
theorem Rnd.nearest {N : Int} {D : Nat} {r V : UInt64} (h : Rnd N D r) (f : DFin r) (hV : DFin V) : (N - z r * (D : Int)).natAbs ≤ (N - z V * (D : Int)).natAbs := by
  obtain ⟨hD, s, hs, hv⟩ := h
  obtain ⟨s1, c, q, h1⟩ := f
  obtain ⟨t, c', q', h2⟩ := hV
  have f2 := DFin.fits h2
  rw [h1] at hv
  have hsg : s1 = s := by
    have := sgn_roundRatio b64 s N.natAbs D b64.qmin
    rw [← hv] at this; exact this
  subst hsg
  have d1 := roundRatio_nearest good_b64 hD hv.symm f2.1 f2.2.1 (Int.le_refl b64.qmin) (Int.le_refl b64.qmin)
  have d0 := roundRatio_nearest good_b64 (c' := 0) (q' := b64.qmin) hD hv.symm (Nat.two_pow_pos _) (Int.le_refl _) (Int.le_refl b64.qmin) (Int.le_refl b64.qmin)
  unfold distance at d1 d0
  have e1 : inUnits N.natAbs b64.qmin b64.qmin = N.natAbs := by simp [inUnits]
  have e0 : inUnits 0 b64.qmin b64.qmin = 0 := by simp [inUnits]
  rw [e1] at d1 d0
  rw [e0] at d0
  rw [z_fin h1, z_fin h2]
  generalize inUnits c q b64.qmin = u at *
  generalize inUnits c' q' b64.qmin = w at *
  generalize N.natAbs = A at *
  subst hs
  rw [← signed_mul, ← signed_mul]
  rw [← Int.natCast_mul] at d1 d0
  rw [← Int.natCast_mul] at d1 d0
  generalize u * D = X at *
  generalize w * D = Y at *
  cases s1 <;> cases t <;> simp only [signed, if_true, Bool.false_eq_true, if_false] <;> omega
theorem Rnd.same' {X : Int} {P : Nat} {r r' : UInt64} (h : Rnd X P r) (h' : Rnd X P r') : z r = z r' := by
  obtain ⟨hD, s, hs, hv⟩ := h
  obtain ⟨-, s', hs', hv'⟩ := h'
  by_cases e : s = s'
  · subst e
    unfold z; rw [hv, hv']
  · have h0 : X.natAbs = 0 := by
      clear hv hv'
      generalize X.natAbs = A at *
      cases s <;> cases s' <;> simp only [signed, if_true, Bool.false_eq_true, if_false] at hs hs' <;> first | omega | exact absurd rfl e
    have k : ∀ (s : Bool) (r : UInt64), val64 r = roundRatio b64 s X.natAbs P b64.qmin → z r = 0 := by
      intro s r hr
      rw [h0] at hr
      unfold roundRatio at hr
      rw [if_pos rfl] at hr
      rw [z_fin hr, signed_eq_zero]
      exact Nat.zero_mul _
    rw [k s r hv, k s' r' hv']
theorem Rnd.same {N N' : Int} {D D' : Nat} {r r' : UInt64} (h : Rnd N D r) (h' : Rnd N' D' r') (e : N * (D' : Int) = N' * (D : Int)) : z r = z r' := by
  have a := h.up D' h'.1
  have b := h'.up D h.1
  rw [← e, Nat.mul_comm] at b
  exact Rnd.same' a b
/-- rounding keeps the order -/
theorem Rnd.mono {N N' : Int} {D D' : Nat} {r r' : UInt64} (h : Rnd N D r) (h' : Rnd N' D' r') (f : DFin r) (f' : DFin r') (hle : N * (D' : Int) ≤ N' * (D : Int)) : z r ≤ z r' := by
  refine Int.le_of_not_gt fun hlt => ?_
  have hD := h.1
  have hD' := h'.1
  have n1 := h.nearest f f'
  have n2 := h'.nearest f' f
  have a1 : z r' * (D : Int) < N := Int.lt_of_not_ge fun q => by have := h.le f' q; omega
  have a2 : N' < z r * (D' : Int) := Int.lt_of_not_ge fun q => by have := h'.ge f q; omega
  have b1 : N < z r * (D : Int) := by
    have c1 := Int.mul_lt_mul_of_pos_right a2 (c := (D : Int)) (by omega)
    have c2 : N * (D' : Int) < z r * (D : Int) * (D' : Int) := by rw [Int.mul_right_comm]; omega
    exact Int.lt_of_mul_lt_mul_right c2 (by omega)
  have b2 : z r' * (D' : Int) < N' := by
    have c1 := Int.mul_lt_mul_of_pos_right a1 (c := (D' : Int)) (by omega)
    have c2 : z r' * (D' : Int) * (D : Int) < N' * (D : Int) := by rw [Int.mul_right_comm]; omega
    exact Int.lt_of_mul_lt_mul_right c2 (by omega)
  have m1 : z r * (D : Int) + z r' * (D : Int) ≤ 2 * N := by omega
  have m2 : 2 * N' ≤ z r * (D' : Int) + z r' * (D' : Int) := by omega
  have k1 := Int.mul_le_mul_of_nonneg_right m1 (c := (D' : Int)) (by omega)
  have k2 := Int.mul_le_mul_of_nonneg_right m2 (c := (D : Int)) (by omega)
  rw [Int.add_mul, Int.mul_assoc] at k1
  rw [Int.add_mul, Int.mul_assoc] at k2
  rw [Int.mul_right_comm (z r), Int.mul_right_comm (z r')] at k2
  rw [← Int.mul_assoc] at k1 k2
  have e : N * (D' : Int) = N' * (D : Int) := by
    rw [Int.mul_assoc 2] at k1
    have k2' : 2 * (N' * (D : Int)) ≤ z r * (D : Int) * (D' : Int) + z r' * (D : Int) * (D' : Int) := by
      rw [← Int.mul_assoc]; omega
    have k1' : z r * (D : Int) * (D' : Int) + z r' * (D : Int) * (D' : Int) ≤ 2 * (N * (D' : Int)) := by
      omega
    omega
  have := h.same h' e
  omega
/-! comparisons -/
theorem nn {a : UInt64} (h : DFin a) : NoNaN64 a := (fin64_core.mpr h).noNaN
theorem cmp_z {a b : UInt64} (ha : DFin a) (hb : DFin b) : Jvm.FP.dcmp a b = some (compare (z a) (z b)) := dcmp_zval ha.ne_nan hb.ne_nan
theorem cmp_lt {a b : UInt64} (ha : DFin a) (hb : DFin b) (h : z a < z b) (o : Jvm.ClassFile.CmpOp) : Jvm.Op.cmpValue (Jvm.FP.dcmp a b) o = -1 := by
  rw [cmp_z ha hb, (compare_lt_iff _ _).mpr h]; rfl
theorem cmp_eq {a b : UInt64} (ha : DFin a) (hb : DFin b) (h : z a = z b) (o : Jvm.ClassFile.CmpOp) : Jvm.Op.cmpValue (Jvm.FP.dcmp a b) o = 0 := by
  rw [cmp_z ha hb, (compare_eq_iff _ _).mpr h]; rfl
theorem cmp_gt {a b : UInt64} (ha : DFin a) (hb : DFin b) (h : z b < z a) (o : Jvm.ClassFile.CmpOp) : Jvm.Op.cmpValue (Jvm.FP.dcmp a b) o = 1 := by
  rw [cmp_z ha hb, (compare_gt_iff _ _).mpr h]; rfl
/-! whole numbers -/
theorem z_i2d (v : Int32) : DFin (i2d v) ∧ z (i2d v) = v.toInt * (PN 1074 : Int) := by
  have h1 := Int32.toInt_lt v
  have h2 := Int32.le_toInt v
  exact (rnd_i2d v).exact v.toInt 1074 (by omega) (by omega) (by simp)
theorem z_l2d {v : Int64} (h : v.toInt.natAbs ≤ 2 ^ 53) : DFin (l2d v) ∧ z (l2d v) = v.toInt * (PN 1074 : Int) :=
  (rnd_l2d v).exact v.toInt 1074 h (by omega) (by simp)
theorem fin_zero : DFin (0 : UInt64) := (fin_bits 0).mpr (by decide)
theorem z_zero : z (0 : UInt64) = 0 := by decide +kernel
theorem fin_one : DFin (4607182418800017408 : UInt64) := (fin_bits _).mpr (by decide)
theorem z_one : z (4607182418800017408 : UInt64) = (PN 1074 : Int) := by decide +kernel
end Jvm.Own

/-! OwnRel: what a branch asks, in whole numbers. -/
namespace Jvm.Own
open Jvm.ClassFile Jvm.Op
def rel : Jvm.ClassFile.Cond → Int → Int → Bool
  | .eq, a, b => decide (a = b)
  | .ne, a, b => decide (¬ a = b)
  | .lt, a, b => decide (a < b)
  | .ge, a, b => decide (b ≤ a)
  | .gt, a, b => decide (b < a)
  | .le, a, b => decide (a ≤ b)
theorem holdsII (cd : Jvm.ClassFile.Cond) (x y : Int32) : if_icmp.holds cd x y = rel cd x.toInt y.toInt := by
  have e : (x = y) ↔ (x.toInt = y.toInt) := Int32.toInt_inj.symm
  cases cd
  · show (x == y) = decide (x.toInt = y.toInt)
    rw [Bool.eq_iff_iff, beq_iff_eq, decide_eq_true_iff]; exact e
  · show (x != y) = decide (¬ x.toInt = y.toInt)
    rw [Bool.eq_iff_iff, bne_iff_ne, decide_eq_true_iff]; exact not_congr e
  all_goals
    simp only [if_icmp.holds, rel, GE.ge, GT.gt]
    rw [Bool.eq_iff_iff, decide_eq_true_iff, decide_eq_true_iff]
    first | exact Int32.lt_iff_toInt_lt | exact Int32.le_iff_toInt_le
theorem holdsI (cd : Jvm.ClassFile.Cond) (x : Int32) : ifCond.holds cd x = rel cd x.toInt 0 := by
  rw [Jvm.RoadKit.if0, holdsII]; rfl
theorem holdsL (cd : Jvm.ClassFile.Cond) (x y : Int64) : ifCond.holds cd (Jvm.RoadKit.lcmpW x y) = rel cd x.toInt y.toInt := by
  have h := Jvm.RoadKit.c_lcmp x y
  rw [holdsI]
  rcases Int.lt_trichotomy x.toInt y.toInt with q | q | q
  · rw [h.1 q]; cases cd <;> simp [rel] <;> omega
  · rw [h.2.1 q]; cases cd <;> simp [rel] <;> omega
  · rw [h.2.2 q]; cases cd <;> simp [rel] <;> omega
theorem holdsD {a b : UInt64} (ha : Jvm.FP.Core.DFin a) (hb : Jvm.FP.Core.DFin b) (cd : Jvm.ClassFile.Cond) (o : CmpOp) : ifCond.holds cd (Jvm.Op.cmpValue (Jvm.FP.dcmp a b) o) = rel cd (z a) (z b) := by
  rw [holdsI]
  rcases Int.lt_trichotomy (z a) (z b) with q | q | q
  · rw [cmp_lt ha hb q]; cases cd <;> simp [rel] <;> omega
  · rw [cmp_eq ha hb q]; cases cd <;> simp [rel] <;> omega
  · rw [cmp_gt ha hb q]; cases cd <;> simp [rel] <;> omega
theorem dT {p : Prop} [Decidable p] (h : p) : decide p = true := decide_eq_true h
theorem dF {p : Prop} [Decidable p] (h : ¬ p) : decide p = false := decide_eq_false h
theorem dup2X1 {tb : Tables} [Ours tb] {e : Env} {below : List Frame} {T target : State} {m : MethodId} {c : Code} {g : JFrame} (h : At T m c below) (hx : tb.exec = Jvm.exec) (hg : g.method = m) {x : Int64} {y : Value} {rest : List Value} (hd : decode c.code g.pc = .ok (.dup2_x1, 1)) (hs : g.stack = .long x :: y :: rest) (hc : y.category = 1)
    (hr : Steps tb e below (T.setTop { g with pc := g.pc + 1, stack := .long x :: y :: .long x :: rest }) target) : Steps tb e below (T.setTop g) target := by
  subst hg
  jvm_step h [h.top, hx, hd, hs, hc]
  exact hr
theorem irem_mod (x y : Int32) : x - (x / y) * y = x % y := by
  apply Int32.toInt_inj.mp
  have h1 := Int32.le_toInt (x % y)
  have h2 := Int32.toInt_lt (x % y)
  rw [Int32.toInt_sub, Int32.toInt_mul, Int32.toInt_div, Int.bmod_mul_bmod, Int.sub_bmod_bmod, Int.mul_comm (x.toInt.tdiv y.toInt), ← Int.tmod_def, ← Int32.toInt_mod]
  exact Int.bmod_eq_of_le_mul_two (by omega) (by omega)
end Jvm.Own

/-! OwnWhole: doubles that are whole numbers. -/
namespace Jvm.Own
open Jvm.FP.Core Jvm.Free.Fl
theorem DI.fin {i : Int} {a : UInt64} (h : DInt i a) : DFin a := by
  unfold DInt at h
  cases hv : val64 a with
  | nan => rw [hv] at h; exact h.elim
  | inf s => rw [hv] at h; exact h.elim
  | fin s c q => exact ⟨s, c, q, hv⟩
theorem DI.nn {i : Int} {a : UInt64} (h : DInt i a) : NoNaN64 a := Jvm.Own.nn (DI.fin h)
theorem DI.zero : DInt 0 (0 : UInt64) := by
  have h := l2d_int (a := 0) (by decide)
  have e : l2d 0 = 0 := by decide +kernel
  rw [e] at h; exact h
theorem holdsW {i j : Int} {a b : UInt64} (ha : DInt i a) (hb : DInt j b) (cd : Jvm.ClassFile.Cond) (o : Jvm.ClassFile.CmpOp) : Jvm.Op.ifCond.holds cd (Jvm.Op.cmpValue (Jvm.FP.dcmp a b) o) = rel cd i j := by
  have h : Jvm.FP.dcmp a b = some (compare i j) := dcmp_int ha hb
  rw [h, holdsI]
  rcases Int.lt_trichotomy i j with q | q | q
  · rw [(compare_lt_iff _ _).mpr q]; cases cd <;> simp [Jvm.Op.cmpValue, rel] <;> omega
  · rw [(compare_eq_iff _ _).mpr q]; cases cd <;> simp [Jvm.Op.cmpValue, rel] <;> omega
  · rw [(compare_gt_iff _ _).mpr q]; cases cd <;> simp [Jvm.Op.cmpValue, rel] <;> omega
end Jvm.Own
namespace Jvm.Own
open Jvm.FP.Core Jvm.Free.Fl
theorem DI.z {i : Int} {a : UInt64} (h : DInt i a) : z a = i * (PN 1074 : Int) := by
  have q := whole_zval good_b64 (val64_fits a) h
  have e : (-b64.qmin).toNat = 1074 := by rw [qm]; rfl
  rw [e] at q
  exact q
/-- the quotient of two whole doubles, the divisor above nought -/
theorem DI.div {i j : Int} {a b : UInt64} (ha : DInt i a) (hb : DInt j b) (hj : 0 < j) (hi : i.natAbs ≤ 2 ^ 53) : Rnd (i * (PN 1074 : Int)) j.natAbs (ddiv a b) ∧ DFin (ddiv a b) := by
  have hP := PN_posI 1074
  have zb := DI.z hb
  have hr := rnd_ddiv (DI.fin ha) (DI.fin hb) (by rw [zb]; exact Int.mul_pos hj hP)
  have hD : (Jvm.Own.z b).natAbs = j.natAbs * PN 1074 := by rw [zb, Int.natAbs_mul, Int.natAbs_natCast]
  rw [hD, DI.z ha] at hr
  have h := hr.scale (PN 1074) (PN_pos _)
  refine ⟨h, ?_⟩
  obtain ⟨L, fL, zL⟩ := rep (-(i.natAbs : Int)) 1074 (by omega) (by decide)
  obtain ⟨H, fH, zH⟩ := rep (i.natAbs : Int) 1074 (by omega) (by decide)
  have e : ((j.natAbs : Nat) : Int) = j := by omega
  refine h.fin_of fL fH ?_ ?_
  · rw [zL, e, Int.mul_right_comm]
    refine Int.mul_le_mul_of_nonneg_right ?_ (by omega)
    have : (i.natAbs : Int) * 1 ≤ (i.natAbs : Int) * j := Int.mul_le_mul_of_nonneg_left (by omega) (by omega)
    rw [Int.neg_mul]; omega
  · rw [zH, e, Int.mul_right_comm]
    refine Int.mul_le_mul_of_nonneg_right ?_ (by omega)
    have : (i.natAbs : Int) * 1 ≤ (i.natAbs : Int) * j := Int.mul_le_mul_of_nonneg_left (by omega) (by omega)
    omega
end Jvm.Own

/-! OwnLong: longs that don't wrap. -/
namespace Jvm.Own
open Jvm.RoadKit
theorem pb {a b : Int} {A B : Nat} (h1 : a.natAbs ≤ A) (h2 : b.natAbs ≤ B) : (a * b).natAbs ≤ A * B := by
  rw [Int.natAbs_mul]; exact Nat.mul_le_mul h1 h2
theorem lm {a b : Int64} {i j : Int} (A B : Nat) (h1 : a.toInt = i) (h2 : b.toInt = j) (k1 : i.natAbs ≤ A) (k2 : j.natAbs ≤ B) (h : A * B < 9223372036854775808) : (a * b).toInt = i * j := by
  subst h1 h2
  have h3 := pb k1 k2
  have h4 := c_lmul a b
  have h5 := rng64 (a * b)
  generalize a.toInt * b.toInt = w at *
  omega
theorem la {a b : Int64} {i j : Int} (h1 : a.toInt = i) (h2 : b.toInt = j) (h : (i + j).natAbs < 9223372036854775808) : (a + b).toInt = i + j := by
  subst h1 h2
  have h4 := c_ladd a b
  have h5 := rng64 (a + b)
  omega
theorem ls {a b : Int64} {i j : Int} (h1 : a.toInt = i) (h2 : b.toInt = j) (h : (i - j).natAbs < 9223372036854775808) : (a - b).toInt = i - j := by
  subst h1 h2
  have h4 := c_lsub a b
  have h5 := rng64 (a - b)
  omega
end Jvm.Own

namespace Jvm.Pilot.@@N@@
open Jvm Jvm.ClassFile Sem Op Lib Jvm.Free Jvm.Stand Jvm.LawKit Jvm.RoadKit Bundle Jvm.Pilot.@@N@@.Jvm.D

theorem d1_0 : decode method_2_code 0 = .ok (.iload_n 2, 1) := by decide +kernel
theorem d1_1 : decode method_2_code 1 = .ok (.iload_n 3, 1) := by decide +kernel
theorem d1_2 : decode method_2_code 2 = .ok (.iushr, 1) := by decide +kernel
theorem d1_3 : decode method_2_code 3 = .ok (.iconst 1, 1) := by decide +kernel
theorem d1_4 : decode method_2_code 4 = .ok (.iand, 1) := by decide +kernel
theorem d1_5 : decode method_2_code 5 = .ok (.ifCond .eq 5, 3) := by decide +kernel
theorem d1_8 : decode method_2_code 8 = .ok (.lconst 0, 1) := by decide +kernel
theorem d1_9 : decode method_2_code 9 = .ok (.lreturn, 1) := by decide +kernel
theorem d1_10 : decode method_2_code 10 = .ok (.lload_n 0, 1) := by decide +kernel
theorem d1_11 : decode method_2_code 11 = .ok (.ldc2_w 7, 3) := by decide +kernel
theorem d1_14 : decode method_2_code 14 = .ok (.land, 1) := by decide +kernel
theorem d1_15 : decode method_2_code 15 = .ok (.iload 4, 2) := by decide +kernel
theorem d1_17 : decode method_2_code 17 = .ok (.lushr, 1) := by decide +kernel
theorem d1_18 : decode method_2_code 18 = .ok (.lreturn, 1) := by decide +kernel
theorem d2_0 : decode prog_56_method_1_code 0 = .ok (.aload_n 0, 1) := by decide +kernel
theorem d2_1 : decode prog_56_method_1_code 1 = .ok (.invokespecial 1, 3) := by decide +kernel
theorem d2_4 : decode prog_56_method_1_code 4 = .ok (.aload_n 0, 1) := by decide +kernel
theorem d2_5 : decode prog_56_method_1_code 5 = .ok (.lload_n 1, 1) := by decide +kernel
theorem d2_6 : decode prog_56_method_1_code 6 = .ok (.putfield 7, 3) := by decide +kernel
theorem d2_9 : decode prog_56_method_1_code 9 = .ok (.aload_n 0, 1) := by decide +kernel
theorem d2_10 : decode prog_56_method_1_code 10 = .ok (.lload_n 3, 1) := by decide +kernel
theorem d2_11 : decode prog_56_method_1_code 11 = .ok (.putfield 13, 3) := by decide +kernel
theorem d2_14 : decode prog_56_method_1_code 14 = .ok (.aload_n 0, 1) := by decide +kernel
theorem d2_15 : decode prog_56_method_1_code 15 = .ok (.lload 5, 2) := by decide +kernel
theorem d2_17 : decode prog_56_method_1_code 17 = .ok (.putfield 16, 3) := by decide +kernel
theorem d2_20 : decode prog_56_method_1_code 20 = .ok (.aload_n 0, 1) := by decide +kernel
theorem d2_21 : decode prog_56_method_1_code 21 = .ok (.lload 7, 2) := by decide +kernel
theorem d2_23 : decode prog_56_method_1_code 23 = .ok (.putfield 19, 3) := by decide +kernel
theorem d2_26 : decode prog_56_method_1_code 26 = .ok (.return_, 1) := by decide +kernel
theorem d3_0 : decode jdk_30_method_1_code 0 = .ok (.aload_n 0, 1) := by decide +kernel
theorem d3_1 : decode jdk_30_method_1_code 1 = .ok (.invokespecial 1, 3) := by decide +kernel
theorem d3_4 : decode jdk_30_method_1_code 4 = .ok (.return_, 1) := by decide +kernel
theorem d5_0 : decode prog_56_method_7_code 0 = .ok (.aload_n 0, 1) := by decide +kernel
theorem d5_1 : decode prog_56_method_7_code 1 = .ok (.getfield 13, 3) := by decide +kernel
theorem d5_4 : decode prog_56_method_7_code 4 = .ok (.lconst 0, 1) := by decide +kernel
theorem d5_5 : decode prog_56_method_7_code 5 = .ok (.lcmp, 1) := by decide +kernel
theorem d5_6 : decode prog_56_method_7_code 6 = .ok (.ifCond .ne 14, 3) := by decide +kernel
theorem d5_9 : decode prog_56_method_7_code 9 = .ok (.aload_n 0, 1) := by decide +kernel
theorem d5_10 : decode prog_56_method_7_code 10 = .ok (.getfield 16, 3) := by decide +kernel
theorem d5_13 : decode prog_56_method_7_code 13 = .ok (.lconst 0, 1) := by decide +kernel
theorem d5_14 : decode prog_56_method_7_code 14 = .ok (.lcmp, 1) := by decide +kernel
theorem d5_15 : decode prog_56_method_7_code 15 = .ok (.ifCond .ne 5, 3) := by decide +kernel
theorem d5_18 : decode prog_56_method_7_code 18 = .ok (.dconst 1, 1) := by decide +kernel
theorem d5_19 : decode prog_56_method_7_code 19 = .ok (.dreturn, 1) := by decide +kernel
theorem d5_20 : decode prog_56_method_7_code 20 = .ok (.aload_n 0, 1) := by decide +kernel
theorem d5_21 : decode prog_56_method_7_code 21 = .ok (.getfield 7, 3) := by decide +kernel
theorem d5_24 : decode prog_56_method_7_code 24 = .ok (.l2d, 1) := by decide +kernel
theorem d5_25 : decode prog_56_method_7_code 25 = .ok (.dstore_n 1, 1) := by decide +kernel
theorem d5_26 : decode prog_56_method_7_code 26 = .ok (.aload_n 0, 1) := by decide +kernel
theorem d5_27 : decode prog_56_method_7_code 27 = .ok (.getfield 13, 3) := by decide +kernel
theorem d5_30 : decode prog_56_method_7_code 30 = .ok (.l2d, 1) := by decide +kernel
theorem d5_31 : decode prog_56_method_7_code 31 = .ok (.dstore_n 3, 1) := by decide +kernel
theorem d5_32 : decode prog_56_method_7_code 32 = .ok (.aload_n 0, 1) := by decide +kernel
theorem d5_33 : decode prog_56_method_7_code 33 = .ok (.getfield 16, 3) := by decide +kernel
theorem d5_36 : decode prog_56_method_7_code 36 = .ok (.l2d, 1) := by decide +kernel
theorem d5_37 : decode prog_56_method_7_code 37 = .ok (.dstore 5, 2) := by decide +kernel
theorem d5_39 : decode prog_56_method_7_code 39 = .ok (.aload_n 0, 1) := by decide +kernel
theorem d5_40 : decode prog_56_method_7_code 40 = .ok (.getfield 19, 3) := by decide +kernel
theorem d5_43 : decode prog_56_method_7_code 43 = .ok (.l2d, 1) := by decide +kernel
theorem d5_44 : decode prog_56_method_7_code 44 = .ok (.dstore 7, 2) := by decide +kernel
theorem d5_46 : decode prog_56_method_7_code 46 = .ok (.ldc2_w 72, 3) := by decide +kernel
theorem d5_49 : decode prog_56_method_7_code 49 = .ok (.dload_n 1, 1) := by decide +kernel
theorem d5_50 : decode prog_56_method_7_code 50 = .ok (.dload 7, 2) := by decide +kernel
theorem d5_52 : decode prog_56_method_7_code 52 = .ok (.dmul, 1) := by decide +kernel
theorem d5_53 : decode prog_56_method_7_code 53 = .ok (.dload_n 3, 1) := by decide +kernel
theorem d5_54 : decode prog_56_method_7_code 54 = .ok (.dload 5, 2) := by decide +kernel
theorem d5_56 : decode prog_56_method_7_code 56 = .ok (.dmul, 1) := by decide +kernel
theorem d5_57 : decode prog_56_method_7_code 57 = .ok (.dsub, 1) := by decide +kernel
theorem d5_58 : decode prog_56_method_7_code 58 = .ok (.dmul, 1) := by decide +kernel
theorem d5_59 : decode prog_56_method_7_code 59 = .ok (.dload_n 1, 1) := by decide +kernel
theorem d5_60 : decode prog_56_method_7_code 60 = .ok (.dload_n 3, 1) := by decide +kernel
theorem d5_61 : decode prog_56_method_7_code 61 = .ok (.dadd, 1) := by decide +kernel
theorem d5_62 : decode prog_56_method_7_code 62 = .ok (.dload_n 3, 1) := by decide +kernel
theorem d5_63 : decode prog_56_method_7_code 63 = .ok (.dload 7, 2) := by decide +kernel
theorem d5_65 : decode prog_56_method_7_code 65 = .ok (.dadd, 1) := by decide +kernel
theorem d5_66 : decode prog_56_method_7_code 66 = .ok (.dmul, 1) := by decide +kernel
theorem d5_67 : decode prog_56_method_7_code 67 = .ok (.dload_n 1, 1) := by decide +kernel
theorem d5_68 : decode prog_56_method_7_code 68 = .ok (.dload 5, 2) := by decide +kernel
theorem d5_70 : decode prog_56_method_7_code 70 = .ok (.dadd, 1) := by decide +kernel
theorem d5_71 : decode prog_56_method_7_code 71 = .ok (.dload 5, 2) := by decide +kernel
theorem d5_73 : decode prog_56_method_7_code 73 = .ok (.dload 7, 2) := by decide +kernel
theorem d5_75 : decode prog_56_method_7_code 75 = .ok (.dadd, 1) := by decide +kernel
theorem d5_76 : decode prog_56_method_7_code 76 = .ok (.dmul, 1) := by decide +kernel
theorem d5_77 : decode prog_56_method_7_code 77 = .ok (.dadd, 1) := by decide +kernel
theorem d5_78 : decode prog_56_method_7_code 78 = .ok (.ddiv, 1) := by decide +kernel
theorem d5_79 : decode prog_56_method_7_code 79 = .ok (.dreturn, 1) := by decide +kernel
theorem pd_0 : parseMethodDescriptor "()V" = some ⟨[], none⟩ := by decide +kernel
theorem pd_1 : parseMethodDescriptor "(JIII)J" = some ⟨[.long, .int, .int, .int], some .long⟩ := by decide +kernel
theorem pd_2 : parseMethodDescriptor "(JJJJ)V" = some ⟨[.long, .long, .long, .long], none⟩ := by decide +kernel
theorem pd_3 : parseMethodDescriptor "()D" = some ⟨[], some .double⟩ := by decide +kernel
theorem pn_0 : plainName "java/lang/Record" = true := by first | (simp [plainName, overriddenIn]; done) | decide +kernel
theorem pn_1 : plainName "com/example/driftgauge/driftgauge/PairCounts" = true := by first | (simp [plainName, overriddenIn]; done) | decide +kernel
theorem pn_2 : plainName "com/example/driftgauge/driftgauge/PairCountsAdjustedRandPinLaw" = true := by first | (simp [plainName, overriddenIn]; done) | decide +kernel
def QV (h0 : Heap) (n0 : Nat) (v : Option Value) (h : Heap) (L : List Loc) : Prop := v = none ∧ Fr n0 L ∧ h = h0
theorem ef_rmRec (m : MethodId) (a : Addr) : entryFrame m #[(.ref a)] 1 = mkF m 0 #[.val (.ref a)] [] := by first | (simp [entryFrame, mkF, argsToLocals, Value.category]; done) | rfl
set_option maxRecDepth 65536 in
set_option maxHeartbeats 40000000 in
theorem rmRec (l : Launch) (Z : State) (a0 : Array Value) (hw : ∀ d ∈ tables_1, d.before a0 Z = true) (ws : List Jvm.Cond) (a : Addr) (h0 : Heap) (n0 : Nat) (Z0 : n0 ≤ h0.size)  :
    MetFree l (⟨"java/lang/Record", "<init>", "()V"⟩ : MethodName) (head1 (Jvm.Cond.code (⟨"java/lang/Record", "<init>", "()V"⟩ : MethodName) jdk_30_method_1_code 1 none :: ws) ({ frames := 1, cells := 0, slots := 0, locals := 12 } : Room)) (fun a_ U_ => a_ = #[(.ref a)] ∧ Z.Warmed39 U_.vm ∧ U_.heap = h0) (fun _ _ _ _ _ => True) (fun _ U_ o_ V_ => ∃ v_ L_, o_ = .returned v_ ∧ QV h0 n0 v_ V_.heap L_ ∧ FrameEnd U_ o_ V_ L_ ({ frames := 1, cells := 0, slots := 0, locals := 12 } : Room).cells ({ frames := 1, cells := 0, slots := 0, locals := 12 } : Room).slots) := by
  refine MetFree.of_bodySF (plainFor_of_name pn_0) hisR ?_
  intro p e s m args below meth c s₁ Bd hml0 hP hK
  obtain ⟨rfl, hZ, hh⟩ := hP
  have hx := Bd.exec
  have hby := Bd.bytes
  have hml : c.maxLocals = 1 := hml0
  have hown : s.vm.findClass "java/lang/Record" = some m.cls := findClass_of_methodNamed Bd.named
  have hnm := (name_of_methodNamed Bd.named Bd.method).1
  have X0 : Stand p l e ({ frames := 1, cells := 0, slots := 0, locals := 12 } : Room) s m #[(.ref a)] below meth c s₁ [] 0 0 := Stand.of_body Bd
  have e0 : s₁.heap = h0 := by rw [← hh, Bd.state]; rfl
  have N0 := Fr.nil n0
  have pre0 : ∀ t, Steps p.tables e below (s₁.setTop (mkF m 0 #[.val (.ref a)] [])) t → Steps p.tables e below (s₁.setTop (entryFrame m #[(.ref a)] 1)) t := fun t_ k_ => castTop (ef_rmRec m a) k_
  obtain ⟨T1, X1, e1, st1⟩ := initO X0 hx hZ hown (hw _ (List.mem_of_getElem? (i := 16) rfl)) (hw _ (List.mem_of_getElem? (i := 17) rfl)) (hw _ (List.mem_of_getElem? (i := 18) rfl)) e0 (g := (mkF m 1 #[.val (.ref a)] [(.ref a)])) rfl (by rw [hml]; rfl) rfl (hb hby d3_1) (by decide) (W := 0) (by show 2 * 0 + _ ≤ _; exact Nat.le_of_eq rfl) (by decide)
  obtain ⟨fs, hr, hrun, hended, hW, hsame⟩ := X1.leave (v := none) (fun _ => rfl)
  refine ⟨_, _, pre0 _ ?_, hrun, hended, _, _, rfl, ?_, ⟨_, rfl⟩, hW, hsame.mono (by decide) (by decide)⟩
  · show Steps p.tables e below (s₁.setTop (mkF m 0 #[.val (.ref a)] [])) _
    refine XS.aloadN X0.here hx rfl (hb hby d3_0) rfl rfl ?_
    show Steps p.tables e below (s₁.setTop (mkF m 1 #[.val (.ref a)] [(.ref a)])) _
    refine st1 _ ?_
    show Steps p.tables e below (T1.setTop (mkF m 4 #[.val (.ref a)] [])) _
    exact X1.returnOut hx Bd.returns (hb hby d3_4) hr
  · show QV h0 n0 _ T1.heap _
    rw [e1]
    exact ⟨rfl, N0, rfl⟩
def QI (Z : State) (a : Addr) (x0 : Int64) (x1 : Int64) (x2 : Int64) (x3 : Int64) (h0 : Heap) (n0 : Nat) (v : Option Value) (h : Heap) (L : List Loc) : Prop := v = none ∧ Fr n0 L ∧ Keep h0 h [a] ∧ Exa Z h a "com/example/driftgauge/driftgauge/PairCounts" ∧ Fld Z h a "com/example/driftgauge/driftgauge/PairCounts" "together" "J" (.long x0) ∧ Fld Z h a "com/example/driftgauge/driftgauge/PairCounts" "sameClassOnly" "J" (.long x1) ∧ Fld Z h a "com/example/driftgauge/driftgauge/PairCounts" "sameClusterOnly" "J" (.long x2) ∧ Fld Z h a "com/example/driftgauge/driftgauge/PairCounts" "apart" "J" (.long x3)
theorem ef_rmInit (m : MethodId) (a : Addr) (x0 : Int64) (x1 : Int64) (x2 : Int64) (x3 : Int64) : entryFrame m #[(.ref a), (.long x0), (.long x1), (.long x2), (.long x3)] 9 = mkF m 0 #[.val (.ref a), .val (.long x0), .second, .val (.long x1), .second, .val (.long x2), .second, .val (.long x3), .second] [] := by first | (simp [entryFrame, mkF, argsToLocals, Value.category]; done) | rfl
set_option maxRecDepth 65536 in
set_option maxHeartbeats 40000000 in
theorem rmInit (l : Launch) (Z : State) (a0 : Array Value) (hw : ∀ d ∈ tables_1, d.before a0 Z = true) (ws : List Jvm.Cond) (a : Addr) (x0 : Int64) (x1 : Int64) (x2 : Int64) (x3 : Int64) (h0 : Heap) (n0 : Nat) (Z0 : n0 ≤ h0.size) (E : Exa Z h0 a "com/example/driftgauge/driftgauge/PairCounts") (ga : n0 ≤ a) (F0 : Fld Z h0 a "com/example/driftgauge/driftgauge/PairCounts" "together" "J" (.long 0)) (F1 : Fld Z h0 a "com/example/driftgauge/driftgauge/PairCounts" "sameClassOnly" "J" (.long 0)) (F2 : Fld Z h0 a "com/example/driftgauge/driftgauge/PairCounts" "sameClusterOnly" "J" (.long 0)) (F3 : Fld Z h0 a "com/example/driftgauge/driftgauge/PairCounts" "apart" "J" (.long 0)) :
    MetFree l (⟨"com/example/driftgauge/driftgauge/PairCounts", "<init>", "(JJJJ)V"⟩ : MethodName) (head1 (Jvm.Cond.code (⟨"com/example/driftgauge/driftgauge/PairCounts", "<init>", "(JJJJ)V"⟩ : MethodName) prog_56_method_1_code 9 none :: ws) ({ frames := 2, cells := 0, slots := 0, locals := 24 } : Room)) (fun a_ U_ => a_ = #[(.ref a), (.long x0), (.long x1), (.long x2), (.long x3)] ∧ Z.Warmed39 U_.vm ∧ U_.heap = h0) (fun _ _ _ _ _ => True) (fun _ U_ o_ V_ => ∃ v_ L_, o_ = .returned v_ ∧ QI Z a x0 x1 x2 x3 h0 n0 v_ V_.heap L_ ∧ FrameEnd U_ o_ V_ L_ ({ frames := 2, cells := 0, slots := 0, locals := 24 } : Room).cells ({ frames := 2, cells := 0, slots := 0, locals := 24 } : Room).slots) := by
  refine MetFree.of_bodySF (plainFor_of_name pn_1) hisR ?_
  intro p e s m args below meth c s₁ Bd hml0 hP hK
  obtain ⟨rfl, hZ, hh⟩ := hP
  have hx := Bd.exec
  have hby := Bd.bytes
  have hml : c.maxLocals = 9 := hml0
  have hown : s.vm.findClass "com/example/driftgauge/driftgauge/PairCounts" = some m.cls := findClass_of_methodNamed Bd.named
  have hnm := (name_of_methodNamed Bd.named Bd.method).1
  have X0 : Stand p l e ({ frames := 2, cells := 0, slots := 0, locals := 24 } : Room) s m #[(.ref a), (.long x0), (.long x1), (.long x2), (.long x3)] below meth c s₁ [] 0 0 := Stand.of_body Bd
  have e0 : s₁.heap = h0 := by rw [← hh, Bd.state]; rfl
  have N0 := Fr.nil n0
  have pre0 : ∀ t, Steps p.tables e below (s₁.setTop (mkF m 0 #[.val (.ref a), .val (.long x0), .second, .val (.long x1), .second, .val (.long x2), .second, .val (.long x3), .second] [])) t → Steps p.tables e below (s₁.setTop (entryFrame m #[(.ref a), (.long x0), (.long x1), (.long x2), (.long x3)] 9)) t := fun t_ k_ => castTop (ef_rmInit m a x0 x1 x2 x3) k_
  obtain ⟨_, _, ⟨TR, LR, kR, nR⟩, -, XR, ⟨LcR, hQR, lR, yR, zR⟩, stR⟩ := X0.specialBack hx (y := (⟨"java/lang/Record", "<init>", "()V"⟩ : MethodName)) rfl hown (mvT hZ (hw _ (List.mem_of_getElem? (i := 11) rfl))) (mvT hZ (hw _ (List.mem_of_getElem? (i := 12) rfl))) (mvT hZ (hw _ (List.mem_of_getElem? (i := 15) rfl))) (by decide) (backOf (W := 0) (rmRec l Z a0 hw [] a h0 n0 Z0) hZ (hw _ (List.mem_of_getElem? (i := 15) rfl)) (hw _ (List.mem_of_getElem? (i := 14) rfl)) (by decide) (by decide)) (g := (mkF m 1 #[.val (.ref a), .val (.long x0), .second, .val (.long x1), .second, .val (.long x2), .second, .val (.long x3), .second] [(.ref a)])) rfl (by rw [hml]; rfl) (Steps.refl _) (a := a) (argsL := []) (rest := []) (lenOf pd_0 rfl) rfl (by show 2 * 0 + _ ≤ _; exact Nat.le_of_eq rfl) (hb hby d2_1) (fun _ _ => ⟨rfl, e0, (by decide : 0 + 0 ≤ _), (by decide : 0 + 0 ≤ _)⟩)
  dsimp only [Pt.U, Pt.locs, Pt.cells, Pt.slots] at XR lR yR zR stR hQR
  subst lR yR zR
  obtain ⟨rfl, NR, eR⟩ := hQR
  obtain ⟨Tw0, hw0, Xw0, ew0, Ww0, stw0⟩ := putF XR hx hZ hown (host := "") (Or.inl (hw _ (List.mem_of_getElem? (i := 19) rfl))) Via.refl eR F0 E (Or.inr ⟨(hw _ (List.mem_of_getElem? (i := 20) rfl)), rfl, hnm⟩) (hw _ (List.mem_of_getElem? (i := 6) rfl)) (ty := .long) (by decide) rfl rfl (g := (mkF m 6 #[.val (.ref a), .val (.long x0), .second, .val (.long x1), .second, .val (.long x2), .second, .val (.long x3), .second] [(.long x0), (.ref a)])) rfl rfl (hb hby d2_6)
  have G0_0 : Fld Z hw0 a "com/example/driftgauge/driftgauge/PairCounts" "together" "J" (.long x0) := F0.same Ww0
  have G0_1 : Fld Z hw0 a "com/example/driftgauge/driftgauge/PairCounts" "sameClassOnly" "J" (.long 0) := F1.other Ww0 (Or.inr (slot_ne (Or.inr (hw _ (List.mem_of_getElem? (i := 22) rfl))) (Or.inr (hw _ (List.mem_of_getElem? (i := 20) rfl))) (by decide) (t := .long) (t' := .long) (by decide) (by decide)))
  have G0_2 : Fld Z hw0 a "com/example/driftgauge/driftgauge/PairCounts" "sameClusterOnly" "J" (.long 0) := F2.other Ww0 (Or.inr (slot_ne (Or.inr (hw _ (List.mem_of_getElem? (i := 24) rfl))) (Or.inr (hw _ (List.mem_of_getElem? (i := 20) rfl))) (by decide) (t := .long) (t' := .long) (by decide) (by decide)))
  have G0_3 : Fld Z hw0 a "com/example/driftgauge/driftgauge/PairCounts" "apart" "J" (.long 0) := F3.other Ww0 (Or.inr (slot_ne (Or.inr (hw _ (List.mem_of_getElem? (i := 26) rfl))) (Or.inr (hw _ (List.mem_of_getElem? (i := 20) rfl))) (by decide) (t := .long) (t' := .long) (by decide) (by decide)))
  have M0 := Fr.snoc Xw0 (Fr.app N0 NR) ga
  obtain ⟨Tw1, hw1, Xw1, ew1, Ww1, stw1⟩ := putF Xw0 hx hZ hown (host := "") (Or.inl (hw _ (List.mem_of_getElem? (i := 21) rfl))) Via.refl ew0 G0_1 (E.wr Ww0) (Or.inr ⟨(hw _ (List.mem_of_getElem? (i := 22) rfl)), rfl, hnm⟩) (hw _ (List.mem_of_getElem? (i := 6) rfl)) (ty := .long) (by decide) rfl rfl (g := (mkF m 11 #[.val (.ref a), .val (.long x0), .second, .val (.long x1), .second, .val (.long x2), .second, .val (.long x3), .second] [(.long x1), (.ref a)])) rfl rfl (hb hby d2_11)
  have G1_0 : Fld Z hw1 a "com/example/driftgauge/driftgauge/PairCounts" "together" "J" (.long x0) := G0_0.other Ww1 (Or.inr (slot_ne (Or.inr (hw _ (List.mem_of_getElem? (i := 20) rfl))) (Or.inr (hw _ (List.mem_of_getElem? (i := 22) rfl))) (by decide) (t := .long) (t' := .long) (by decide) (by decide)))
  have G1_1 : Fld Z hw1 a "com/example/driftgauge/driftgauge/PairCounts" "sameClassOnly" "J" (.long x1) := G0_1.same Ww1
  have G1_2 : Fld Z hw1 a "com/example/driftgauge/driftgauge/PairCounts" "sameClusterOnly" "J" (.long 0) := G0_2.other Ww1 (Or.inr (slot_ne (Or.inr (hw _ (List.mem_of_getElem? (i := 24) rfl))) (Or.inr (hw _ (List.mem_of_getElem? (i := 22) rfl))) (by decide) (t := .long) (t' := .long) (by decide) (by decide)))
  have G1_3 : Fld Z hw1 a "com/example/driftgauge/driftgauge/PairCounts" "apart" "J" (.long 0) := G0_3.other Ww1 (Or.inr (slot_ne (Or.inr (hw _ (List.mem_of_getElem? (i := 26) rfl))) (Or.inr (hw _ (List.mem_of_getElem? (i := 22) rfl))) (by decide) (t := .long) (t' := .long) (by decide) (by decide)))
  have M1 := Fr.snoc Xw1 M0 ga
  obtain ⟨Tw2, hw2, Xw2, ew2, Ww2, stw2⟩ := putF Xw1 hx hZ hown (host := "") (Or.inl (hw _ (List.mem_of_getElem? (i := 23) rfl))) Via.refl ew1 G1_2 ((E.wr Ww0).wr Ww1) (Or.inr ⟨(hw _ (List.mem_of_getElem? (i := 24) rfl)), rfl, hnm⟩) (hw _ (List.mem_of_getElem? (i := 6) rfl)) (ty := .long) (by decide) rfl rfl (g := (mkF m 17 #[.val (.ref a), .val (.long x0), .second, .val (.long x1), .second, .val (.long x2), .second, .val (.long x3), .second] [(.long x2), (.ref a)])) rfl rfl (hb hby d2_17)
  have G2_0 : Fld Z hw2 a "com/example/driftgauge/driftgauge/PairCounts" "together" "J" (.long x0) := G1_0.other Ww2 (Or.inr (slot_ne (Or.inr (hw _ (List.mem_of_getElem? (i := 20) rfl))) (Or.inr (hw _ (List.mem_of_getElem? (i := 24) rfl))) (by decide) (t := .long) (t' := .long) (by decide) (by decide)))
  have G2_1 : Fld Z hw2 a "com/example/driftgauge/driftgauge/PairCounts" "sameClassOnly" "J" (.long x1) := G1_1.other Ww2 (Or.inr (slot_ne (Or.inr (hw _ (List.mem_of_getElem? (i := 22) rfl))) (Or.inr (hw _ (List.mem_of_getElem? (i := 24) rfl))) (by decide) (t := .long) (t' := .long) (by decide) (by decide)))
  have G2_2 : Fld Z hw2 a "com/example/driftgauge/driftgauge/PairCounts" "sameClusterOnly" "J" (.long x2) := G1_2.same Ww2
  have G2_3 : Fld Z hw2 a "com/example/driftgauge/driftgauge/PairCounts" "apart" "J" (.long 0) := G1_3.other Ww2 (Or.inr (slot_ne (Or.inr (hw _ (List.mem_of_getElem? (i := 26) rfl))) (Or.inr (hw _ (List.mem_of_getElem? (i := 24) rfl))) (by decide) (t := .long) (t' := .long) (by decide) (by decide)))
  have M2 := Fr.snoc Xw2 M1 ga
  obtain ⟨Tw3, hw3, Xw3, ew3, Ww3, stw3⟩ := putF Xw2 hx hZ hown (host := "") (Or.inl (hw _ (List.mem_of_getElem? (i := 25) rfl))) Via.refl ew2 G2_3 (((E.wr Ww0).wr Ww1).wr Ww2) (Or.inr ⟨(hw _ (List.mem_of_getElem? (i := 26) rfl)), rfl, hnm⟩) (hw _ (List.mem_of_getElem? (i := 6) rfl)) (ty := .long) (by decide) rfl rfl (g := (mkF m 23 #[.val (.ref a), .val (.long x0), .second, .val (.long x1), .second, .val (.long x2), .second, .val (.long x3), .second] [(.long x3), (.ref a)])) rfl rfl (hb hby d2_23)
  have G3_0 : Fld Z hw3 a "com/example/driftgauge/driftgauge/PairCounts" "together" "J" (.long x0) := G2_0.other Ww3 (Or.inr (slot_ne (Or.inr (hw _ (List.mem_of_getElem? (i := 20) rfl))) (Or.inr (hw _ (List.mem_of_getElem? (i := 26) rfl))) (by decide) (t := .long) (t' := .long) (by decide) (by decide)))
  have G3_1 : Fld Z hw3 a "com/example/driftgauge/driftgauge/PairCounts" "sameClassOnly" "J" (.long x1) := G2_1.other Ww3 (Or.inr (slot_ne (Or.inr (hw _ (List.mem_of_getElem? (i := 22) rfl))) (Or.inr (hw _ (List.mem_of_getElem? (i := 26) rfl))) (by decide) (t := .long) (t' := .long) (by decide) (by decide)))
  have G3_2 : Fld Z hw3 a "com/example/driftgauge/driftgauge/PairCounts" "sameClusterOnly" "J" (.long x2) := G2_2.other Ww3 (Or.inr (slot_ne (Or.inr (hw _ (List.mem_of_getElem? (i := 24) rfl))) (Or.inr (hw _ (List.mem_of_getElem? (i := 26) rfl))) (by decide) (t := .long) (t' := .long) (by decide) (by decide)))
  have G3_3 : Fld Z hw3 a "com/example/driftgauge/driftgauge/PairCounts" "apart" "J" (.long x3) := G2_3.same Ww3
  have M3 := Fr.snoc Xw3 M2 ga
  obtain ⟨fs, hr, hrun, hended, hW, hsame⟩ := Xw3.leave (v := none) (fun _ => rfl)
  refine ⟨_, _, pre0 _ ?_, hrun, hended, _, _, rfl, ?_, ⟨_, rfl⟩, hW, hsame.mono (by decide) (by decide)⟩
  · show Steps p.tables e below (s₁.setTop (mkF m 0 #[.val (.ref a), .val (.long x0), .second, .val (.long x1), .second, .val (.long x2), .second, .val (.long x3), .second] [])) _
    refine XS.aloadN X0.here hx rfl (hb hby d2_0) rfl rfl ?_
    show Steps p.tables e below (s₁.setTop (mkF m 1 #[.val (.ref a), .val (.long x0), .second, .val (.long x1), .second, .val (.long x2), .second, .val (.long x3), .second] [(.ref a)])) _
    refine stR.trans ?_
    show Steps p.tables e below (TR.setTop (mkF m 4 #[.val (.ref a), .val (.long x0), .second, .val (.long x1), .second, .val (.long x2), .second, .val (.long x3), .second] [])) _
    refine XS.aloadN XR.here hx rfl (hb hby d2_4) rfl rfl ?_
    show Steps p.tables e below (TR.setTop (mkF m 5 #[.val (.ref a), .val (.long x0), .second, .val (.long x1), .second, .val (.long x2), .second, .val (.long x3), .second] [(.ref a)])) _
    refine XS.lloadN XR.here hx rfl (hb hby d2_5) rfl ?_
    show Steps p.tables e below (TR.setTop (mkF m 6 #[.val (.ref a), .val (.long x0), .second, .val (.long x1), .second, .val (.long x2), .second, .val (.long x3), .second] [(.long x0), (.ref a)])) _
    refine stw0 _ ?_
    show Steps p.tables e below (Tw0.setTop (mkF m 9 #[.val (.ref a), .val (.long x0), .second, .val (.long x1), .second, .val (.long x2), .second, .val (.long x3), .second] [])) _
    refine XS.aloadN Xw0.here hx rfl (hb hby d2_9) rfl rfl ?_
    show Steps p.tables e below (Tw0.setTop (mkF m 10 #[.val (.ref a), .val (.long x0), .second, .val (.long x1), .second, .val (.long x2), .second, .val (.long x3), .second] [(.ref a)])) _
    refine XS.lloadN Xw0.here hx rfl (hb hby d2_10) rfl ?_
    show Steps p.tables e below (Tw0.setTop (mkF m 11 #[.val (.ref a), .val (.long x0), .second, .val (.long x1), .second, .val (.long x2), .second, .val (.long x3), .second] [(.long x1), (.ref a)])) _
    refine stw1 _ ?_
    show Steps p.tables e below (Tw1.setTop (mkF m 14 #[.val (.ref a), .val (.long x0), .second, .val (.long x1), .second, .val (.long x2), .second, .val (.long x3), .second] [])) _
    refine XS.aloadN Xw1.here hx rfl (hb hby d2_14) rfl rfl ?_
    show Steps p.tables e below (Tw1.setTop (mkF m 15 #[.val (.ref a), .val (.long x0), .second, .val (.long x1), .second, .val (.long x2), .second, .val (.long x3), .second] [(.ref a)])) _
    refine XS.lload Xw1.here hx rfl (hb hby d2_15) rfl ?_
    show Steps p.tables e below (Tw1.setTop (mkF m 17 #[.val (.ref a), .val (.long x0), .second, .val (.long x1), .second, .val (.long x2), .second, .val (.long x3), .second] [(.long x2), (.ref a)])) _
    refine stw2 _ ?_
    show Steps p.tables e below (Tw2.setTop (mkF m 20 #[.val (.ref a), .val (.long x0), .second, .val (.long x1), .second, .val (.long x2), .second, .val (.long x3), .second] [])) _
    refine XS.aloadN Xw2.here hx rfl (hb hby d2_20) rfl rfl ?_
    show Steps p.tables e below (Tw2.setTop (mkF m 21 #[.val (.ref a), .val (.long x0), .second, .val (.long x1), .second, .val (.long x2), .second, .val (.long x3), .second] [(.ref a)])) _
    refine XS.lload Xw2.here hx rfl (hb hby d2_21) rfl ?_
    show Steps p.tables e below (Tw2.setTop (mkF m 23 #[.val (.ref a), .val (.long x0), .second, .val (.long x1), .second, .val (.long x2), .second, .val (.long x3), .second] [(.long x3), (.ref a)])) _
    refine stw3 _ ?_
    show Steps p.tables e below (Tw3.setTop (mkF m 26 #[.val (.ref a), .val (.long x0), .second, .val (.long x1), .second, .val (.long x2), .second, .val (.long x3), .second] [])) _
    exact Xw3.returnOut hx Bd.returns (hb hby d2_26) hr
  · show QI Z a x0 x1 x2 x3 h0 n0 _ Tw3.heap _
    rw [ew3]
    exact ⟨rfl, M3, (((((Keep.refl h0 [a]).wr Ww0 (Or.inl (List.mem_of_getElem? (i := 0) rfl))).wr Ww1 (Or.inl (List.mem_of_getElem? (i := 0) rfl))).wr Ww2 (Or.inl (List.mem_of_getElem? (i := 0) rfl))).wr Ww3 (Or.inl (List.mem_of_getElem? (i := 0) rfl))), ((((E.wr Ww0).wr Ww1).wr Ww2).wr Ww3), G3_0, G3_1, G3_2, G3_3⟩

def own_cnt (x : Int64) (k b sh : Int32) : Int64 := if ((k.toUInt32 >>> (b &&& 31).toUInt32).toInt32 &&& (1 : Int32)) = 0 then ((x &&& (1048575 : Int64)).toUInt64 >>> (sh &&& 0x3f).toInt64.toUInt64).toInt64 else 0
theorem own_cnt_rng (x : Int64) (k b sh : Int32) : 0 ≤ (own_cnt x k b sh).toInt ∧ (own_cnt x k b sh).toInt ≤ 1048575 := by
  unfold own_cnt
  split
  · have h1 := c_maskL x 1048575 20 (by decide) (by decide)
    obtain ⟨y, hy⟩ : ∃ v, x &&& (1048575 : Int64) = v := ⟨_, rfl⟩
    rw [hy] at h1 ⊢
    have hn : y.toUInt64.toNat ≤ 1048575 := by
      have e : y.toUInt64.toNat = y.toBitVec.toNat := rfl
      have e2 : y.toInt = y.toBitVec.toInt := rfl
      rw [e2, BitVec.toInt_eq_toNat_cond] at h1
      rw [e]
      have := y.toBitVec.isLt
      split at h1 <;> omega
    have hm : (y.toUInt64 >>> (sh &&& 0x3f).toInt64.toUInt64).toNat ≤ 1048575 := by
      rw [UInt64.toNat_shiftRight]
      exact Nat.le_trans (Nat.shiftRight_le _ _) hn
    generalize (y.toUInt64 >>> (sh &&& 0x3f).toInt64.toUInt64) = u at *
    have e3 : u.toInt64.toInt = u.toBitVec.toInt := rfl
    have e4 : u.toNat = u.toBitVec.toNat := rfl
    rw [e3, BitVec.toInt_eq_toNat_cond]
    rw [e4] at hm
    split <;> omega
  · decide
def own_num (a b c d : Int64) : UInt64 := FP.dmul (4611686018427387904 : UInt64) (FP.dsub (FP.dmul (FP.l2d a) (FP.l2d d)) (FP.dmul (FP.l2d b) (FP.l2d c)))
def own_den (a b c d : Int64) : UInt64 := FP.dadd (FP.dmul (FP.dadd (FP.l2d a) (FP.l2d b)) (FP.dadd (FP.l2d b) (FP.l2d d))) (FP.dmul (FP.dadd (FP.l2d a) (FP.l2d c)) (FP.dadd (FP.l2d c) (FP.l2d d)))
/-- every step of the sum is a number -/
def own_okv (a b c d : Int64) : Prop := Jvm.Free.Fl.NoNaN64 (FP.dmul (FP.l2d a) (FP.l2d d)) ∧ Jvm.Free.Fl.NoNaN64 (FP.dmul (FP.l2d b) (FP.l2d c)) ∧ Jvm.Free.Fl.NoNaN64 (FP.dsub (FP.dmul (FP.l2d a) (FP.l2d d)) (FP.dmul (FP.l2d b) (FP.l2d c))) ∧ Jvm.Free.Fl.NoNaN64 (own_num a b c d) ∧ Jvm.Free.Fl.NoNaN64 (FP.dadd (FP.l2d a) (FP.l2d b)) ∧ Jvm.Free.Fl.NoNaN64 (FP.dadd (FP.l2d b) (FP.l2d d)) ∧ Jvm.Free.Fl.NoNaN64 (FP.dmul (FP.dadd (FP.l2d a) (FP.l2d b)) (FP.dadd (FP.l2d b) (FP.l2d d))) ∧ Jvm.Free.Fl.NoNaN64 (FP.dadd (FP.l2d a) (FP.l2d c)) ∧ Jvm.Free.Fl.NoNaN64 (FP.dadd (FP.l2d c) (FP.l2d d)) ∧ Jvm.Free.Fl.NoNaN64 (FP.dmul (FP.dadd (FP.l2d a) (FP.l2d c)) (FP.dadd (FP.l2d c) (FP.l2d d))) ∧ Jvm.Free.Fl.NoNaN64 (own_den a b c d)
theorem own_two : Jvm.FP.Core.DInt 2 (4611686018427387904 : UInt64) := by
  have h := Jvm.FP.Core.l2d_int (a := 2) (by decide)
  have e : Jvm.FP.Core.l2d 2 = (4611686018427387904 : UInt64) := by decide +kernel
  rw [e] at h; exact h
theorem own_vals (a b c d : Int64) (a1 : 0 ≤ a.toInt ∧ a.toInt ≤ 1048575) (b1 : 0 ≤ b.toInt ∧ b.toInt ≤ 1048575) (c1 : 0 ≤ c.toInt ∧ c.toInt ≤ 1048575) (d1 : 0 ≤ d.toInt ∧ d.toInt ≤ 1048575) :
    own_okv a b c d ∧ Jvm.FP.Core.DInt (2 * (a.toInt * d.toInt - b.toInt * c.toInt)) (own_num a b c d) ∧ Jvm.FP.Core.DInt ((a.toInt + b.toInt) * (b.toInt + d.toInt) + (a.toInt + c.toInt) * (c.toInt + d.toInt)) (own_den a b c d) := by
  have ia := Jvm.FP.Core.l2d_int (a := a) (by omega)
  have ib := Jvm.FP.Core.l2d_int (a := b) (by omega)
  have ic := Jvm.FP.Core.l2d_int (a := c) (by omega)
  have id' := Jvm.FP.Core.l2d_int (a := d) (by omega)
  have p1 : (a.toInt * d.toInt).natAbs ≤ 1048575 * 1048575 := Jvm.Own.pb (by omega) (by omega)
  have p2 : (b.toInt * c.toInt).natAbs ≤ 1048575 * 1048575 := Jvm.Own.pb (by omega) (by omega)
  have p3 : ((a.toInt + b.toInt) * (b.toInt + d.toInt)).natAbs ≤ 2097150 * 2097150 := Jvm.Own.pb (by omega) (by omega)
  have p4 : ((a.toInt + c.toInt) * (c.toInt + d.toInt)).natAbs ≤ 2097150 * 2097150 := Jvm.Own.pb (by omega) (by omega)
  have m1 := Jvm.FP.Core.dmul_int ia id' (by omega)
  have m2 := Jvm.FP.Core.dmul_int ib ic (by omega)
  have m3 := Jvm.FP.Core.dsub_int m1 m2 (by omega)
  have m4 := Jvm.FP.Core.dmul_int own_two m3 (by omega)
  have s1 := Jvm.FP.Core.dadd_int ia ib (by omega)
  have s2 := Jvm.FP.Core.dadd_int ib id' (by omega)
  have s3 := Jvm.FP.Core.dmul_int s1 s2 (by omega)
  have s4 := Jvm.FP.Core.dadd_int ia ic (by omega)
  have s5 := Jvm.FP.Core.dadd_int ic id' (by omega)
  have s6 := Jvm.FP.Core.dmul_int s4 s5 (by omega)
  have s7 := Jvm.FP.Core.dadd_int s3 s6 (by omega)
  exact ⟨⟨Jvm.Own.DI.nn m1, Jvm.Own.DI.nn m2, Jvm.Own.DI.nn m3, Jvm.Own.DI.nn m4, Jvm.Own.DI.nn s1, Jvm.Own.DI.nn s2, Jvm.Own.DI.nn s3, Jvm.Own.DI.nn s4, Jvm.Own.DI.nn s5, Jvm.Own.DI.nn s6, Jvm.Own.DI.nn s7⟩, m4, s7⟩
theorem own_den_pos (a b c d : Int) (a1 : 0 ≤ a) (b1 : 0 ≤ b) (c1 : 0 ≤ c) (d1 : 0 ≤ d) (h : b ≠ 0 ∨ c ≠ 0) : 0 < (a + b) * (b + d) + (a + c) * (c + d) := by
  have q1 : 0 ≤ (a + b) * (b + d) := Int.mul_nonneg (by omega) (by omega)
  have q2 : 0 ≤ (a + c) * (c + d) := Int.mul_nonneg (by omega) (by omega)
  rcases h with h | h
  · have : 0 < (a + b) * (b + d) := Int.mul_pos (by omega) (by omega)
    omega
  · have : 0 < (a + c) * (c + d) := Int.mul_pos (by omega) (by omega)
    omega
/-- the law's own two longs -/
theorem own_longs (a b c d : Int64) (a1 : 0 ≤ a.toInt ∧ a.toInt ≤ 1048575) (b1 : 0 ≤ b.toInt ∧ b.toInt ≤ 1048575) (c1 : 0 ≤ c.toInt ∧ c.toInt ≤ 1048575) (d1 : 0 ≤ d.toInt ∧ d.toInt ≤ 1048575) :
    ((2 : Int64) * (a * (a + b + c + d) - (a + c) * (a + b))).toInt = 2 * (a.toInt * d.toInt - b.toInt * c.toInt) ∧ (((a + c) + (a + b)) * (a + b + c + d) - (2 : Int64) * (a + c) * (a + b)).toInt = (a.toInt + b.toInt) * (b.toInt + d.toInt) + (a.toInt + c.toInt) * (c.toInt + d.toInt) := by
  obtain ⟨A, hA⟩ : ∃ v, a.toInt = v := ⟨_, rfl⟩
  obtain ⟨B, hB⟩ : ∃ v, b.toInt = v := ⟨_, rfl⟩
  obtain ⟨G, hG⟩ : ∃ v, c.toInt = v := ⟨_, rfl⟩
  obtain ⟨D, hD⟩ : ∃ v, d.toInt = v := ⟨_, rfl⟩
  rw [hA, hB, hG, hD]
  rw [hA] at a1
  rw [hB] at b1
  rw [hG] at c1
  rw [hD] at d1
  have h2 : (2 : Int64).toInt = 2 := by decide
  have s1 := Jvm.Own.la hA hB (by omega)
  have s2 := Jvm.Own.la s1 hG (by omega)
  have s3 := Jvm.Own.la s2 hD (by omega)
  have t1 := Jvm.Own.la hA hG (by omega)
  have m1 := Jvm.Own.lm 1048575 4194300 hA s3 (by omega) (by omega) (by decide)
  have m2 := Jvm.Own.lm 2097150 2097150 t1 s1 (by omega) (by omega) (by decide)
  have q1 : (A * (A + B + G + D)).natAbs ≤ 1048575 * 4194300 := Jvm.Own.pb (by omega) (by omega)
  have q2 : ((A + G) * (A + B)).natAbs ≤ 2097150 * 2097150 := Jvm.Own.pb (by omega) (by omega)
  have m3 := Jvm.Own.ls m1 m2 (by omega)
  have m4 := Jvm.Own.lm 2 8796076245000 h2 m3 (by decide) (by omega) (by decide)
  have u1 := Jvm.Own.la t1 s1 (by omega)
  have u2 := Jvm.Own.lm 4194300 4194300 u1 s3 (by omega) (by omega) (by decide)
  have u3 := Jvm.Own.lm 2 2097150 h2 t1 (by decide) (by omega) (by decide)
  have u4 := Jvm.Own.lm 4194300 2097150 u3 s1 (by omega) (by omega) (by decide)
  have q3 : ((A + G + (A + B)) * (A + B + G + D)).natAbs ≤ 4194300 * 4194300 := Jvm.Own.pb (by omega) (by omega)
  have q4 : (2 * (A + G) * (A + B)).natAbs ≤ 4194300 * 2097150 := Jvm.Own.pb (by omega) (by omega)
  have u5 := Jvm.Own.ls u2 u4 (by omega)
  refine ⟨m4.trans ?_, u5.trans ?_⟩
  · grind
  · grind

theorem ef_rmCnt (m : MethodId) (x : Int64) (k : Int32) (b : Int32) (sh : Int32) : entryFrame m #[(.long x), (.int k), (.int b), (.int sh)] 5 = mkF m 0 #[.val (.long x), .second, .val (.int k), .val (.int b), .val (.int sh)] [] := by first | (simp [entryFrame, mkF, argsToLocals, Value.category]; done) | rfl
set_option maxRecDepth 65536 in
set_option maxHeartbeats 40000000 in
theorem rmCnt (l : Launch) (Z : State) (a0 : Array Value) (hw : ∀ d ∈ tables_1, d.before a0 Z = true) (ws : List Jvm.Cond) (x : Int64) (k : Int32) (b : Int32) (sh : Int32) (h0 : Heap) (n0 : Nat) (Z0 : n0 ≤ h0.size)  :
    MetFree l (⟨"com/example/driftgauge/driftgauge/PairCountsAdjustedRandPinLaw", "count", "(JIII)J"⟩ : MethodName) (head1 (Jvm.Cond.code (⟨"com/example/driftgauge/driftgauge/PairCountsAdjustedRandPinLaw", "count", "(JIII)J"⟩ : MethodName) method_2_code 5 (some .long) :: ws) ({ frames := 0, cells := 0, slots := 0, locals := 0 } : Room)) (fun a_ U_ => a_ = #[(.long x), (.int k), (.int b), (.int sh)] ∧ Z.Warmed39 U_.vm ∧ U_.heap = h0) (fun _ _ _ _ _ => True) (fun _ U_ o_ V_ => ∃ v_ L_, o_ = .returned v_ ∧ QP (.long (own_cnt x k b sh)) h0 n0 v_ V_.heap L_ ∧ FrameEnd U_ o_ V_ L_ ({ frames := 0, cells := 0, slots := 0, locals := 0 } : Room).cells ({ frames := 0, cells := 0, slots := 0, locals := 0 } : Room).slots) := by
  refine MetFree.of_bodySF (plainFor_of_name pn_2) hisR ?_
  intro p e s m args below meth c s₁ Bd hml0 hP hK
  obtain ⟨rfl, hZ, hh⟩ := hP
  have hx := Bd.exec
  have hby := Bd.bytes
  have hml : c.maxLocals = 5 := hml0
  have hown : s.vm.findClass "com/example/driftgauge/driftgauge/PairCountsAdjustedRandPinLaw" = some m.cls := findClass_of_methodNamed Bd.named
  have hnm := (name_of_methodNamed Bd.named Bd.method).1
  have X0 : Stand p l e ({ frames := 0, cells := 0, slots := 0, locals := 0 } : Room) s m #[(.long x), (.int k), (.int b), (.int sh)] below meth c s₁ [] 0 0 := Stand.of_body Bd
  have e0 : s₁.heap = h0 := by rw [← hh, Bd.state]; rfl
  have N0 := Fr.nil n0
  have pre0 : ∀ t, Steps p.tables e below (s₁.setTop (mkF m 0 #[.val (.long x), .second, .val (.int k), .val (.int b), .val (.int sh)] [])) t → Steps p.tables e below (s₁.setTop (entryFrame m #[(.long x), (.int k), (.int b), (.int sh)] 5)) t := fun t_ k_ => castTop (ef_rmCnt m x k b sh) k_
  by_cases hc : ((k.toUInt32 >>> (b &&& 31).toUInt32).toInt32 &&& (1 : Int32)) = 0
  · have hv : own_cnt x k b sh = ((x &&& (1048575 : Int64)).toUInt64 >>> (sh &&& 0x3f).toInt64.toUInt64).toInt64 := if_pos hc
    rw [hv]
    obtain ⟨fs, hr, hrun, hended, hW, hsame⟩ := X0.leave (v := some (.long (((x &&& (1048575 : Int64)).toUInt64 >>> (sh &&& 0x3f).toInt64.toUInt64).toInt64))) (fun h => by rw [Bd.returns] at h; cases h)
    refine ⟨_, _, pre0 _ ?_, hrun, hended, _, _, rfl, ?_, ⟨_, rfl⟩, hW, hsame.mono (by decide) (by decide)⟩
    · show Steps p.tables e below (s₁.setTop (mkF m 0 #[.val (.long x), .second, .val (.int k), .val (.int b), .val (.int sh)] [])) _
      refine XS.iloadN X0.here hx rfl (hb hby d1_0) rfl ?_
      show Steps p.tables e below (s₁.setTop (mkF m 1 #[.val (.long x), .second, .val (.int k), .val (.int b), .val (.int sh)] [(.int k)])) _
      refine XS.iloadN X0.here hx rfl (hb hby d1_1) rfl ?_
      show Steps p.tables e below (s₁.setTop (mkF m 2 #[.val (.long x), .second, .val (.int k), .val (.int b), .val (.int sh)] [(.int b), (.int k)])) _
      refine XS.iushr X0.here hx rfl (hb hby d1_2) rfl ?_
      show Steps p.tables e below (s₁.setTop (mkF m 3 #[.val (.long x), .second, .val (.int k), .val (.int b), .val (.int sh)] [(.int ((k.toUInt32 >>> (b &&& 31).toUInt32).toInt32))])) _
      refine XS.iconst X0.here hx rfl (hb hby d1_3) ?_
      show Steps p.tables e below (s₁.setTop (mkF m 4 #[.val (.long x), .second, .val (.int k), .val (.int b), .val (.int sh)] [(.int (1 : Int32)), (.int ((k.toUInt32 >>> (b &&& 31).toUInt32).toInt32))])) _
      refine XS.iand X0.here hx rfl (hb hby d1_4) rfl ?_
      show Steps p.tables e below (s₁.setTop (mkF m 5 #[.val (.long x), .second, .val (.int k), .val (.int b), .val (.int sh)] [(.int (((k.toUInt32 >>> (b &&& 31).toUInt32).toInt32) &&& (1 : Int32)))])) _
      refine XS.ifYes X0.here hx rfl (pc0 := 5) (pc' := 10) rfl (hb hby d1_5) rfl ((Jvm.Own.holdsI _ _).trans (Jvm.Own.dT (by rw [hc]; decide))) (by decide) (by decide) ?_
      show Steps p.tables e below (s₁.setTop (mkF m 10 #[.val (.long x), .second, .val (.int k), .val (.int b), .val (.int sh)] [])) _
      refine XS.lloadN X0.here hx rfl (hb hby d1_10) rfl ?_
      show Steps p.tables e below (s₁.setTop (mkF m 11 #[.val (.long x), .second, .val (.int k), .val (.int b), .val (.int sh)] [(.long x)])) _
      refine X0.ldc2Long hx hown (mvT hZ (hw _ (List.mem_of_getElem? (i := 4) rfl))) (g := (mkF m 11 #[.val (.long x), .second, .val (.int k), .val (.int b), .val (.int sh)] [(.long x)])) rfl (hb hby d1_11) _ ?_
      show Steps p.tables e below (s₁.setTop (mkF m 14 #[.val (.long x), .second, .val (.int k), .val (.int b), .val (.int sh)] [(.long (1048575 : Int64)), (.long x)])) _
      refine XS.land X0.here hx rfl (hb hby d1_14) rfl ?_
      show Steps p.tables e below (s₁.setTop (mkF m 15 #[.val (.long x), .second, .val (.int k), .val (.int b), .val (.int sh)] [(.long (x &&& (1048575 : Int64)))])) _
      refine XS.iload X0.here hx rfl (hb hby d1_15) rfl ?_
      show Steps p.tables e below (s₁.setTop (mkF m 17 #[.val (.long x), .second, .val (.int k), .val (.int b), .val (.int sh)] [(.int sh), (.long (x &&& (1048575 : Int64)))])) _
      refine XS.lushr X0.here hx rfl (hb hby d1_17) rfl ?_
      show Steps p.tables e below (s₁.setTop (mkF m 18 #[.val (.long x), .second, .val (.int k), .val (.int b), .val (.int sh)] [(.long (((x &&& (1048575 : Int64)).toUInt64 >>> (sh &&& 0x3f).toInt64.toUInt64).toInt64))])) _
      exact X0.lreturnOut hx Bd.returns (hb hby d1_18) hr
    · show QP (.long (((x &&& (1048575 : Int64)).toUInt64 >>> (sh &&& 0x3f).toInt64.toUInt64).toInt64)) h0 n0 _ s₁.heap _
      rw [e0]
      exact ⟨rfl, N0, rfl⟩
  · have hv : own_cnt x k b sh = (0 : Int64) := if_neg hc
    rw [hv]
    obtain ⟨fs, hr, hrun, hended, hW, hsame⟩ := X0.leave (v := some (.long (0 : Int64))) (fun h => by rw [Bd.returns] at h; cases h)
    refine ⟨_, _, pre0 _ ?_, hrun, hended, _, _, rfl, ?_, ⟨_, rfl⟩, hW, hsame.mono (by decide) (by decide)⟩
    · show Steps p.tables e below (s₁.setTop (mkF m 0 #[.val (.long x), .second, .val (.int k), .val (.int b), .val (.int sh)] [])) _
      refine XS.iloadN X0.here hx rfl (hb hby d1_0) rfl ?_
      show Steps p.tables e below (s₁.setTop (mkF m 1 #[.val (.long x), .second, .val (.int k), .val (.int b), .val (.int sh)] [(.int k)])) _
      refine XS.iloadN X0.here hx rfl (hb hby d1_1) rfl ?_
      show Steps p.tables e below (s₁.setTop (mkF m 2 #[.val (.long x), .second, .val (.int k), .val (.int b), .val (.int sh)] [(.int b), (.int k)])) _
      refine XS.iushr X0.here hx rfl (hb hby d1_2) rfl ?_
      show Steps p.tables e below (s₁.setTop (mkF m 3 #[.val (.long x), .second, .val (.int k), .val (.int b), .val (.int sh)] [(.int ((k.toUInt32 >>> (b &&& 31).toUInt32).toInt32))])) _
      refine XS.iconst X0.here hx rfl (hb hby d1_3) ?_
      show Steps p.tables e below (s₁.setTop (mkF m 4 #[.val (.long x), .second, .val (.int k), .val (.int b), .val (.int sh)] [(.int (1 : Int32)), (.int ((k.toUInt32 >>> (b &&& 31).toUInt32).toInt32))])) _
      refine XS.iand X0.here hx rfl (hb hby d1_4) rfl ?_
      show Steps p.tables e below (s₁.setTop (mkF m 5 #[.val (.long x), .second, .val (.int k), .val (.int b), .val (.int sh)] [(.int (((k.toUInt32 >>> (b &&& 31).toUInt32).toInt32) &&& (1 : Int32)))])) _
      refine XS.ifNo X0.here hx rfl (hb hby d1_5) rfl ((Jvm.Own.holdsI _ _).trans (Jvm.Own.dF (fun q => hc (Int32.toInt_inj.mp q)))) ?_
      show Steps p.tables e below (s₁.setTop (mkF m 8 #[.val (.long x), .second, .val (.int k), .val (.int b), .val (.int sh)] [])) _
      refine XS.lconst X0.here hx rfl (hb hby d1_8) ?_
      show Steps p.tables e below (s₁.setTop (mkF m 9 #[.val (.long x), .second, .val (.int k), .val (.int b), .val (.int sh)] [(.long (0 : Int64))])) _
      exact X0.lreturnOut hx Bd.returns (hb hby d1_9) hr
    · show QP (.long ((0 : Int64))) h0 n0 _ s₁.heap _
      rw [e0]
      exact ⟨rfl, N0, rfl⟩
theorem ef_rmAdj (m : MethodId) (a : Addr) : entryFrame m #[(.ref a)] 9 = mkF m 0 #[.val (.ref a), .unset, .unset, .unset, .unset, .unset, .unset, .unset, .unset] [] := by first | (simp [entryFrame, mkF, argsToLocals, Value.category]; done) | rfl
set_option maxRecDepth 65536 in
set_option maxHeartbeats 40000000 in
theorem rmAdj (l : Launch) (Z : State) (a0 : Array Value) (hw : ∀ d ∈ tables_1, d.before a0 Z = true) (ws : List Jvm.Cond) (a : Addr) (h0 : Heap) (n0 : Nat) (Z0 : n0 ≤ h0.size) (tp fn fp tn : Int64) (r : UInt64) (F0 : Fld Z h0 a "com/example/driftgauge/driftgauge/PairCounts" "together" "J" (.long tp)) (F1 : Fld Z h0 a "com/example/driftgauge/driftgauge/PairCounts" "sameClassOnly" "J" (.long fn)) (F2 : Fld Z h0 a "com/example/driftgauge/driftgauge/PairCounts" "sameClusterOnly" "J" (.long fp)) (F3 : Fld Z h0 a "com/example/driftgauge/driftgauge/PairCounts" "apart" "J" (.long tn)) (hr : (fn.toInt = 0 ∧ fp.toInt = 0 ∧ r = (4607182418800017408 : UInt64)) ∨ (fn.toInt = 0 ∧ fp.toInt ≠ 0 ∧ (FP.ddiv (own_num tp fn fp tn) (own_den tp fn fp tn)) = r) ∨ (fn.toInt ≠ 0 ∧ (FP.ddiv (own_num tp fn fp tn) (own_den tp fn fp tn)) = r)) (ok : own_okv tp fn fp tn) (nd : fn.toInt ≠ 0 ∨ fp.toInt ≠ 0 → Jvm.Free.Fl.NoNaN64 (FP.ddiv (own_num tp fn fp tn) (own_den tp fn fp tn))) :
    MetFree l (⟨"com/example/driftgauge/driftgauge/PairCounts", "adjustedRand", "()D"⟩ : MethodName) (head1 (Jvm.Cond.code (⟨"com/example/driftgauge/driftgauge/PairCounts", "adjustedRand", "()D"⟩ : MethodName) prog_56_method_7_code 9 (some .double) :: ws) ({ frames := 0, cells := 0, slots := 0, locals := 0 } : Room)) (fun a_ U_ => a_ = #[(.ref a)] ∧ Z.Warmed39 U_.vm ∧ U_.heap = h0) (fun _ _ _ _ _ => True) (fun _ U_ o_ V_ => ∃ v_ L_, o_ = .returned v_ ∧ QP (.double r) h0 n0 v_ V_.heap L_ ∧ FrameEnd U_ o_ V_ L_ ({ frames := 0, cells := 0, slots := 0, locals := 0 } : Room).cells ({ frames := 0, cells := 0, slots := 0, locals := 0 } : Room).slots) := by
  refine MetFree.of_bodySF (plainFor_of_name pn_1) hisR ?_
  intro p e s m args below meth c s₁ Bd hml0 hP hK
  obtain ⟨rfl, hZ, hh⟩ := hP
  have hx := Bd.exec
  have hby := Bd.bytes
  have hml : c.maxLocals = 9 := hml0
  have hown : s.vm.findClass "com/example/driftgauge/driftgauge/PairCounts" = some m.cls := findClass_of_methodNamed Bd.named
  have hnm := (name_of_methodNamed Bd.named Bd.method).1
  have X0 : Stand p l e ({ frames := 0, cells := 0, slots := 0, locals := 0 } : Room) s m #[(.ref a)] below meth c s₁ [] 0 0 := Stand.of_body Bd
  have e0 : s₁.heap = h0 := by rw [← hh, Bd.state]; rfl
  have N0 := Fr.nil n0
  have pre0 : ∀ t, Steps p.tables e below (s₁.setTop (mkF m 0 #[.val (.ref a), .unset, .unset, .unset, .unset, .unset, .unset, .unset, .unset] [])) t → Steps p.tables e below (s₁.setTop (entryFrame m #[(.ref a)] 9)) t := fun t_ k_ => castTop (ef_rmAdj m a) k_
  rcases hr with ⟨c1, c2, rfl⟩ | ⟨c1, c2, rfl⟩ | ⟨c1, rfl⟩
  · obtain ⟨T1, X1, e1, st1⟩ := getF X0 hx hZ hown (host := "") (Or.inl (hw _ (List.mem_of_getElem? (i := 21) rfl))) Via.refl e0 F1 (g := (mkF m 1 #[.val (.ref a), .unset, .unset, .unset, .unset, .unset, .unset, .unset, .unset] [(.ref a)])) rfl rfl (hb hby d5_1)
    obtain ⟨T2, X2, e2, st2⟩ := getF X1 hx hZ hown (host := "") (Or.inl (hw _ (List.mem_of_getElem? (i := 23) rfl))) Via.refl e1 F2 (g := (mkF m 10 #[.val (.ref a), .unset, .unset, .unset, .unset, .unset, .unset, .unset, .unset] [(.ref a)])) rfl rfl (hb hby d5_10)
    obtain ⟨fs, hr, hrun, hended, hW, hsame⟩ := X2.leave (v := some (.double (4607182418800017408 : UInt64))) (fun h => by rw [Bd.returns] at h; cases h)
    refine ⟨_, _, pre0 _ ?_, hrun, hended, _, _, rfl, ?_, ⟨_, rfl⟩, hW, hsame.mono (by decide) (by decide)⟩
    · show Steps p.tables e below (s₁.setTop (mkF m 0 #[.val (.ref a), .unset, .unset, .unset, .unset, .unset, .unset, .unset, .unset] [])) _
      refine XS.aloadN X0.here hx rfl (hb hby d5_0) rfl rfl ?_
      show Steps p.tables e below (s₁.setTop (mkF m 1 #[.val (.ref a), .unset, .unset, .unset, .unset, .unset, .unset, .unset, .unset] [(.ref a)])) _
      refine st1 _ ?_
      show Steps p.tables e below (T1.setTop (mkF m 4 #[.val (.ref a), .unset, .unset, .unset, .unset, .unset, .unset, .unset, .unset] [(.long fn)])) _
      refine XS.lconst X1.here hx rfl (hb hby d5_4) ?_
      show Steps p.tables e below (T1.setTop (mkF m 5 #[.val (.ref a), .unset, .unset, .unset, .unset, .unset, .unset, .unset, .unset] [(.long (0 : Int64)), (.long fn)])) _
      refine XS.lcmp X1.here hx rfl (hb hby d5_5) rfl ?_
      show Steps p.tables e below (T1.setTop (mkF m 6 #[.val (.ref a), .unset, .unset, .unset, .unset, .unset, .unset, .unset, .unset] [(.int (lcmpW fn (0 : Int64)))])) _
      refine XS.ifNo X1.here hx rfl (hb hby d5_6) rfl ((Jvm.Own.holdsL _ _ _).trans (Jvm.Own.dF (fun q => q c1))) ?_
      show Steps p.tables e below (T1.setTop (mkF m 9 #[.val (.ref a), .unset, .unset, .unset, .unset, .unset, .unset, .unset, .unset] [])) _
      refine XS.aloadN X1.here hx rfl (hb hby d5_9) rfl rfl ?_
      show Steps p.tables e below (T1.setTop (mkF m 10 #[.val (.ref a), .unset, .unset, .unset, .unset, .unset, .unset, .unset, .unset] [(.ref a)])) _
      refine st2 _ ?_
      show Steps p.tables e below (T2.setTop (mkF m 13 #[.val (.ref a), .unset, .unset, .unset, .unset, .unset, .unset, .unset, .unset] [(.long fp)])) _
      refine XS.lconst X2.here hx rfl (hb hby d5_13) ?_
      show Steps p.tables e below (T2.setTop (mkF m 14 #[.val (.ref a), .unset, .unset, .unset, .unset, .unset, .unset, .unset, .unset] [(.long (0 : Int64)), (.long fp)])) _
      refine XS.lcmp X2.here hx rfl (hb hby d5_14) rfl ?_
      show Steps p.tables e below (T2.setTop (mkF m 15 #[.val (.ref a), .unset, .unset, .unset, .unset, .unset, .unset, .unset, .unset] [(.int (lcmpW fp (0 : Int64)))])) _
      refine XS.ifNo X2.here hx rfl (hb hby d5_15) rfl ((Jvm.Own.holdsL _ _ _).trans (Jvm.Own.dF (fun q => q c2))) ?_
      show Steps p.tables e below (T2.setTop (mkF m 18 #[.val (.ref a), .unset, .unset, .unset, .unset, .unset, .unset, .unset, .unset] [])) _
      refine XS.dconst1 X2.here hx rfl (hb hby d5_18) (v := (4607182418800017408 : UInt64)) rfl ?_
      show Steps p.tables e below (T2.setTop (mkF m 19 #[.val (.ref a), .unset, .unset, .unset, .unset, .unset, .unset, .unset, .unset] [(.double (4607182418800017408 : UInt64))])) _
      exact Jvm.RoadKit.retD X2 hx Bd.returns (hb hby d5_19) hr
    · show QP (.double (4607182418800017408 : UInt64)) h0 n0 _ T2.heap _
      rw [e2]
      exact ⟨rfl, N0, rfl⟩
  · obtain ⟨T1, X1, e1, st1⟩ := getF X0 hx hZ hown (host := "") (Or.inl (hw _ (List.mem_of_getElem? (i := 21) rfl))) Via.refl e0 F1 (g := (mkF m 1 #[.val (.ref a), .unset, .unset, .unset, .unset, .unset, .unset, .unset, .unset] [(.ref a)])) rfl rfl (hb hby d5_1)
    obtain ⟨T2, X2, e2, st2⟩ := getF X1 hx hZ hown (host := "") (Or.inl (hw _ (List.mem_of_getElem? (i := 23) rfl))) Via.refl e1 F2 (g := (mkF m 10 #[.val (.ref a), .unset, .unset, .unset, .unset, .unset, .unset, .unset, .unset] [(.ref a)])) rfl rfl (hb hby d5_10)
    obtain ⟨T3, X3, e3, st3⟩ := getF X2 hx hZ hown (host := "") (Or.inl (hw _ (List.mem_of_getElem? (i := 19) rfl))) Via.refl e2 F0 (g := (mkF m 21 #[.val (.ref a), .unset, .unset, .unset, .unset, .unset, .unset, .unset, .unset] [(.ref a)])) rfl rfl (hb hby d5_21)
    obtain ⟨T4, X4, e4, st4⟩ := getF X3 hx hZ hown (host := "") (Or.inl (hw _ (List.mem_of_getElem? (i := 21) rfl))) Via.refl e3 F1 (g := (mkF m 27 #[.val (.ref a), .val (.double (FP.l2d tp)), .second, .unset, .unset, .unset, .unset, .unset, .unset] [(.ref a)])) rfl rfl (hb hby d5_27)
    obtain ⟨T5, X5, e5, st5⟩ := getF X4 hx hZ hown (host := "") (Or.inl (hw _ (List.mem_of_getElem? (i := 23) rfl))) Via.refl e4 F2 (g := (mkF m 33 #[.val (.ref a), .val (.double (FP.l2d tp)), .second, .val (.double (FP.l2d fn)), .second, .unset, .unset, .unset, .unset] [(.ref a)])) rfl rfl (hb hby d5_33)
    obtain ⟨T6, X6, e6, st6⟩ := getF X5 hx hZ hown (host := "") (Or.inl (hw _ (List.mem_of_getElem? (i := 25) rfl))) Via.refl e5 F3 (g := (mkF m 40 #[.val (.ref a), .val (.double (FP.l2d tp)), .second, .val (.double (FP.l2d fn)), .second, .val (.double (FP.l2d fp)), .second, .unset, .unset] [(.ref a)])) rfl rfl (hb hby d5_40)
    obtain ⟨fs, hr, hrun, hended, hW, hsame⟩ := X6.leave (v := some (.double (FP.ddiv (own_num tp fn fp tn) (own_den tp fn fp tn)))) (fun h => by rw [Bd.returns] at h; cases h)
    refine ⟨_, _, pre0 _ ?_, hrun, hended, _, _, rfl, ?_, ⟨_, rfl⟩, hW, hsame.mono (by decide) (by decide)⟩
    · show Steps p.tables e below (s₁.setTop (mkF m 0 #[.val (.ref a), .unset, .unset, .unset, .unset, .unset, .unset, .unset, .unset] [])) _
      refine XS.aloadN X0.here hx rfl (hb hby d5_0) rfl rfl ?_
      show Steps p.tables e below (s₁.setTop (mkF m 1 #[.val (.ref a), .unset, .unset, .unset, .unset, .unset, .unset, .unset, .unset] [(.ref a)])) _
      refine st1 _ ?_
      show Steps p.tables e below (T1.setTop (mkF m 4 #[.val (.ref a), .unset, .unset, .unset, .unset, .unset, .unset, .unset, .unset] [(.long fn)])) _
      refine XS.lconst X1.here hx rfl (hb hby d5_4) ?_
      show Steps p.tables e below (T1.setTop (mkF m 5 #[.val (.ref a), .unset, .unset, .unset, .unset, .unset, .unset, .unset, .unset] [(.long (0 : Int64)), (.long fn)])) _
      refine XS.lcmp X1.here hx rfl (hb hby d5_5) rfl ?_
      show Steps p.tables e below (T1.setTop (mkF m 6 #[.val (.ref a), .unset, .unset, .unset, .unset, .unset, .unset, .unset, .unset] [(.int (lcmpW fn (0 : Int64)))])) _
      refine XS.ifNo X1.here hx rfl (hb hby d5_6) rfl ((Jvm.Own.holdsL _ _ _).trans (Jvm.Own.dF (fun q => q c1))) ?_
      show Steps p.tables e below (T1.setTop (mkF m 9 #[.val (.ref a), .unset, .unset, .unset, .unset, .unset, .unset, .unset, .unset] [])) _
      refine XS.aloadN X1.here hx rfl (hb hby d5_9) rfl rfl ?_
      show Steps p.tables e below (T1.setTop (mkF m 10 #[.val (.ref a), .unset, .unset, .unset, .unset, .unset, .unset, .unset, .unset] [(.ref a)])) _
      refine st2 _ ?_
      show Steps p.tables e below (T2.setTop (mkF m 13 #[.val (.ref a), .unset, .unset, .unset, .unset, .unset, .unset, .unset, .unset] [(.long fp)])) _
      refine XS.lconst X2.here hx rfl (hb hby d5_13) ?_
      show Steps p.tables e below (T2.setTop (mkF m 14 #[.val (.ref a), .unset, .unset, .unset, .unset, .unset, .unset, .unset, .unset] [(.long (0 : Int64)), (.long fp)])) _
      refine XS.lcmp X2.here hx rfl (hb hby d5_14) rfl ?_
      show Steps p.tables e below (T2.setTop (mkF m 15 #[.val (.ref a), .unset, .unset, .unset, .unset, .unset, .unset, .unset, .unset] [(.int (lcmpW fp (0 : Int64)))])) _
      refine XS.ifYes X2.here hx rfl (pc0 := 15) (pc' := 20) rfl (hb hby d5_15) rfl ((Jvm.Own.holdsL _ _ _).trans (Jvm.Own.dT c2)) (by decide) (by decide) ?_
      show Steps p.tables e below (T2.setTop (mkF m 20 #[.val (.ref a), .unset, .unset, .unset, .unset, .unset, .unset, .unset, .unset] [])) _
      refine XS.aloadN X2.here hx rfl (hb hby d5_20) rfl rfl ?_
      show Steps p.tables e below (T2.setTop (mkF m 21 #[.val (.ref a), .unset, .unset, .unset, .unset, .unset, .unset, .unset, .unset] [(.ref a)])) _
      refine st3 _ ?_
      show Steps p.tables e below (T3.setTop (mkF m 24 #[.val (.ref a), .unset, .unset, .unset, .unset, .unset, .unset, .unset, .unset] [(.long tp)])) _
      refine XS.l2dS X3.here hx rfl (hb hby d5_24) rfl (v := FP.l2d tp) rfl ?_
      show Steps p.tables e below (T3.setTop (mkF m 25 #[.val (.ref a), .unset, .unset, .unset, .unset, .unset, .unset, .unset, .unset] [(.double (FP.l2d tp))])) _
      refine XS.dstoreN X3.here hx rfl (hb hby d5_25) rfl (l' := #[.val (.ref a), .val (.double (FP.l2d tp)), .second, .unset, .unset, .unset, .unset, .unset, .unset]) rfl ?_
      show Steps p.tables e below (T3.setTop (mkF m 26 #[.val (.ref a), .val (.double (FP.l2d tp)), .second, .unset, .unset, .unset, .unset, .unset, .unset] [])) _
      refine XS.aloadN X3.here hx rfl (hb hby d5_26) rfl rfl ?_
      show Steps p.tables e below (T3.setTop (mkF m 27 #[.val (.ref a), .val (.double (FP.l2d tp)), .second, .unset, .unset, .unset, .unset, .unset, .unset] [(.ref a)])) _
      refine st4 _ ?_
      show Steps p.tables e below (T4.setTop (mkF m 30 #[.val (.ref a), .val (.double (FP.l2d tp)), .second, .unset, .unset, .unset, .unset, .unset, .unset] [(.long fn)])) _
      refine XS.l2dS X4.here hx rfl (hb hby d5_30) rfl (v := FP.l2d fn) rfl ?_
      show Steps p.tables e below (T4.setTop (mkF m 31 #[.val (.ref a), .val (.double (FP.l2d tp)), .second, .unset, .unset, .unset, .unset, .unset, .unset] [(.double (FP.l2d fn))])) _
      refine XS.dstoreN X4.here hx rfl (hb hby d5_31) rfl (l' := #[.val (.ref a), .val (.double (FP.l2d tp)), .second, .val (.double (FP.l2d fn)), .second, .unset, .unset, .unset, .unset]) rfl ?_
      show Steps p.tables e below (T4.setTop (mkF m 32 #[.val (.ref a), .val (.double (FP.l2d tp)), .second, .val (.double (FP.l2d fn)), .second, .unset, .unset, .unset, .unset] [])) _
      refine XS.aloadN X4.here hx rfl (hb hby d5_32) rfl rfl ?_
      show Steps p.tables e below (T4.setTop (mkF m 33 #[.val (.ref a), .val (.double (FP.l2d tp)), .second, .val (.double (FP.l2d fn)), .second, .unset, .unset, .unset, .unset] [(.ref a)])) _
      refine st5 _ ?_
      show Steps p.tables e below (T5.setTop (mkF m 36 #[.val (.ref a), .val (.double (FP.l2d tp)), .second, .val (.double (FP.l2d fn)), .second, .unset, .unset, .unset, .unset] [(.long fp)])) _
      refine XS.l2dS X5.here hx rfl (hb hby d5_36) rfl (v := FP.l2d fp) rfl ?_
      show Steps p.tables e below (T5.setTop (mkF m 37 #[.val (.ref a), .val (.double (FP.l2d tp)), .second, .val (.double (FP.l2d fn)), .second, .unset, .unset, .unset, .unset] [(.double (FP.l2d fp))])) _
      refine XS.dstore X5.here hx rfl (hb hby d5_37) rfl (l' := #[.val (.ref a), .val (.double (FP.l2d tp)), .second, .val (.double (FP.l2d fn)), .second, .val (.double (FP.l2d fp)), .second, .unset, .unset]) rfl ?_
      show Steps p.tables e below (T5.setTop (mkF m 39 #[.val (.ref a), .val (.double (FP.l2d tp)), .second, .val (.double (FP.l2d fn)), .second, .val (.double (FP.l2d fp)), .second, .unset, .unset] [])) _
      refine XS.aloadN X5.here hx rfl (hb hby d5_39) rfl rfl ?_
      show Steps p.tables e below (T5.setTop (mkF m 40 #[.val (.ref a), .val (.double (FP.l2d tp)), .second, .val (.double (FP.l2d fn)), .second, .val (.double (FP.l2d fp)), .second, .unset, .unset] [(.ref a)])) _
      refine st6 _ ?_
      show Steps p.tables e below (T6.setTop (mkF m 43 #[.val (.ref a), .val (.double (FP.l2d tp)), .second, .val (.double (FP.l2d fn)), .second, .val (.double (FP.l2d fp)), .second, .unset, .unset] [(.long tn)])) _
      refine XS.l2dS X6.here hx rfl (hb hby d5_43) rfl (v := FP.l2d tn) rfl ?_
      show Steps p.tables e below (T6.setTop (mkF m 44 #[.val (.ref a), .val (.double (FP.l2d tp)), .second, .val (.double (FP.l2d fn)), .second, .val (.double (FP.l2d fp)), .second, .unset, .unset] [(.double (FP.l2d tn))])) _
      refine XS.dstore X6.here hx rfl (hb hby d5_44) rfl (l' := #[.val (.ref a), .val (.double (FP.l2d tp)), .second, .val (.double (FP.l2d fn)), .second, .val (.double (FP.l2d fp)), .second, .val (.double (FP.l2d tn)), .second]) rfl ?_
      show Steps p.tables e below (T6.setTop (mkF m 46 #[.val (.ref a), .val (.double (FP.l2d tp)), .second, .val (.double (FP.l2d fn)), .second, .val (.double (FP.l2d fp)), .second, .val (.double (FP.l2d tn)), .second] [])) _
      refine X6.ldc2DoubleC hx hown (mvT hZ (hw _ (List.mem_of_getElem? (i := 32) rfl))) (g := (mkF m 46 #[.val (.ref a), .val (.double (FP.l2d tp)), .second, .val (.double (FP.l2d fn)), .second, .val (.double (FP.l2d fp)), .second, .val (.double (FP.l2d tn)), .second] [])) rfl (hb hby d5_46) _ ?_
      show Steps p.tables e below (T6.setTop (mkF m 49 #[.val (.ref a), .val (.double (FP.l2d tp)), .second, .val (.double (FP.l2d fn)), .second, .val (.double (FP.l2d fp)), .second, .val (.double (FP.l2d tn)), .second] [(.double (4611686018427387904 : UInt64))])) _
      refine XS.dloadN X6.here hx rfl (hb hby d5_49) rfl ?_
      show Steps p.tables e below (T6.setTop (mkF m 50 #[.val (.ref a), .val (.double (FP.l2d tp)), .second, .val (.double (FP.l2d fn)), .second, .val (.double (FP.l2d fp)), .second, .val (.double (FP.l2d tn)), .second] [(.double (FP.l2d tp)), (.double (4611686018427387904 : UInt64))])) _
      refine XS.dload X6.here hx rfl (hb hby d5_50) rfl ?_
      show Steps p.tables e below (T6.setTop (mkF m 52 #[.val (.ref a), .val (.double (FP.l2d tp)), .second, .val (.double (FP.l2d fn)), .second, .val (.double (FP.l2d fp)), .second, .val (.double (FP.l2d tn)), .second] [(.double (FP.l2d tn)), (.double (FP.l2d tp)), (.double (4611686018427387904 : UInt64))])) _
      refine XS.dmulS X6.here hx rfl (hb hby d5_52) rfl ok.1 (v := FP.dmul (FP.l2d tp) (FP.l2d tn)) rfl ?_
      show Steps p.tables e below (T6.setTop (mkF m 53 #[.val (.ref a), .val (.double (FP.l2d tp)), .second, .val (.double (FP.l2d fn)), .second, .val (.double (FP.l2d fp)), .second, .val (.double (FP.l2d tn)), .second] [(.double (FP.dmul (FP.l2d tp) (FP.l2d tn))), (.double (4611686018427387904 : UInt64))])) _
      refine XS.dloadN X6.here hx rfl (hb hby d5_53) rfl ?_
      show Steps p.tables e below (T6.setTop (mkF m 54 #[.val (.ref a), .val (.double (FP.l2d tp)), .second, .val (.double (FP.l2d fn)), .second, .val (.double (FP.l2d fp)), .second, .val (.double (FP.l2d tn)), .second] [(.double (FP.l2d fn)), (.double (FP.dmul (FP.l2d tp) (FP.l2d tn))), (.double (4611686018427387904 : UInt64))])) _
      refine XS.dload X6.here hx rfl (hb hby d5_54) rfl ?_
      show Steps p.tables e below (T6.setTop (mkF m 56 #[.val (.ref a), .val (.double (FP.l2d tp)), .second, .val (.double (FP.l2d fn)), .second, .val (.double (FP.l2d fp)), .second, .val (.double (FP.l2d tn)), .second] [(.double (FP.l2d fp)), (.double (FP.l2d fn)), (.double (FP.dmul (FP.l2d tp) (FP.l2d tn))), (.double (4611686018427387904 : UInt64))])) _
      refine XS.dmulS X6.here hx rfl (hb hby d5_56) rfl ok.2.1 (v := FP.dmul (FP.l2d fn) (FP.l2d fp)) rfl ?_
      show Steps p.tables e below (T6.setTop (mkF m 57 #[.val (.ref a), .val (.double (FP.l2d tp)), .second, .val (.double (FP.l2d fn)), .second, .val (.double (FP.l2d fp)), .second, .val (.double (FP.l2d tn)), .second] [(.double (FP.dmul (FP.l2d fn) (FP.l2d fp))), (.double (FP.dmul (FP.l2d tp) (FP.l2d tn))), (.double (4611686018427387904 : UInt64))])) _
      refine XS.dsubS X6.here hx rfl (hb hby d5_57) rfl ok.2.2.1 (v := FP.dsub (FP.dmul (FP.l2d tp) (FP.l2d tn)) (FP.dmul (FP.l2d fn) (FP.l2d fp))) rfl ?_
      show Steps p.tables e below (T6.setTop (mkF m 58 #[.val (.ref a), .val (.double (FP.l2d tp)), .second, .val (.double (FP.l2d fn)), .second, .val (.double (FP.l2d fp)), .second, .val (.double (FP.l2d tn)), .second] [(.double (FP.dsub (FP.dmul (FP.l2d tp) (FP.l2d tn)) (FP.dmul (FP.l2d fn) (FP.l2d fp)))), (.double (4611686018427387904 : UInt64))])) _
      refine XS.dmulS X6.here hx rfl (hb hby d5_58) rfl ok.2.2.2.1 (v := (own_num tp fn fp tn)) rfl ?_
      show Steps p.tables e below (T6.setTop (mkF m 59 #[.val (.ref a), .val (.double (FP.l2d tp)), .second, .val (.double (FP.l2d fn)), .second, .val (.double (FP.l2d fp)), .second, .val (.double (FP.l2d tn)), .second] [(.double (own_num tp fn fp tn))])) _
      refine XS.dloadN X6.here hx rfl (hb hby d5_59) rfl ?_
      show Steps p.tables e below (T6.setTop (mkF m 60 #[.val (.ref a), .val (.double (FP.l2d tp)), .second, .val (.double (FP.l2d fn)), .second, .val (.double (FP.l2d fp)), .second, .val (.double (FP.l2d tn)), .second] [(.double (FP.l2d tp)), (.double (own_num tp fn fp tn))])) _
      refine XS.dloadN X6.here hx rfl (hb hby d5_60) rfl ?_
      show Steps p.tables e below (T6.setTop (mkF m 61 #[.val (.ref a), .val (.double (FP.l2d tp)), .second, .val (.double (FP.l2d fn)), .second, .val (.double (FP.l2d fp)), .second, .val (.double (FP.l2d tn)), .second] [(.double (FP.l2d fn)), (.double (FP.l2d tp)), (.double (own_num tp fn fp tn))])) _
      refine XS.daddS X6.here hx rfl (hb hby d5_61) rfl ok.2.2.2.2.1 (v := FP.dadd (FP.l2d tp) (FP.l2d fn)) rfl ?_
      show Steps p.tables e below (T6.setTop (mkF m 62 #[.val (.ref a), .val (.double (FP.l2d tp)), .second, .val (.double (FP.l2d fn)), .second, .val (.double (FP.l2d fp)), .second, .val (.double (FP.l2d tn)), .second] [(.double (FP.dadd (FP.l2d tp) (FP.l2d fn))), (.double (own_num tp fn fp tn))])) _
      refine XS.dloadN X6.here hx rfl (hb hby d5_62) rfl ?_
      show Steps p.tables e below (T6.setTop (mkF m 63 #[.val (.ref a), .val (.double (FP.l2d tp)), .second, .val (.double (FP.l2d fn)), .second, .val (.double (FP.l2d fp)), .second, .val (.double (FP.l2d tn)), .second] [(.double (FP.l2d fn)), (.double (FP.dadd (FP.l2d tp) (FP.l2d fn))), (.double (own_num tp fn fp tn))])) _
      refine XS.dload X6.here hx rfl (hb hby d5_63) rfl ?_
      show Steps p.tables e below (T6.setTop (mkF m 65 #[.val (.ref a), .val (.double (FP.l2d tp)), .second, .val (.double (FP.l2d fn)), .second, .val (.double (FP.l2d fp)), .second, .val (.double (FP.l2d tn)), .second] [(.double (FP.l2d tn)), (.double (FP.l2d fn)), (.double (FP.dadd (FP.l2d tp) (FP.l2d fn))), (.double (own_num tp fn fp tn))])) _
      refine XS.daddS X6.here hx rfl (hb hby d5_65) rfl ok.2.2.2.2.2.1 (v := FP.dadd (FP.l2d fn) (FP.l2d tn)) rfl ?_
      show Steps p.tables e below (T6.setTop (mkF m 66 #[.val (.ref a), .val (.double (FP.l2d tp)), .second, .val (.double (FP.l2d fn)), .second, .val (.double (FP.l2d fp)), .second, .val (.double (FP.l2d tn)), .second] [(.double (FP.dadd (FP.l2d fn) (FP.l2d tn))), (.double (FP.dadd (FP.l2d tp) (FP.l2d fn))), (.double (own_num tp fn fp tn))])) _
      refine XS.dmulS X6.here hx rfl (hb hby d5_66) rfl ok.2.2.2.2.2.2.1 (v := FP.dmul (FP.dadd (FP.l2d tp) (FP.l2d fn)) (FP.dadd (FP.l2d fn) (FP.l2d tn))) rfl ?_
      show Steps p.tables e below (T6.setTop (mkF m 67 #[.val (.ref a), .val (.double (FP.l2d tp)), .second, .val (.double (FP.l2d fn)), .second, .val (.double (FP.l2d fp)), .second, .val (.double (FP.l2d tn)), .second] [(.double (FP.dmul (FP.dadd (FP.l2d tp) (FP.l2d fn)) (FP.dadd (FP.l2d fn) (FP.l2d tn)))), (.double (own_num tp fn fp tn))])) _
      refine XS.dloadN X6.here hx rfl (hb hby d5_67) rfl ?_
      show Steps p.tables e below (T6.setTop (mkF m 68 #[.val (.ref a), .val (.double (FP.l2d tp)), .second, .val (.double (FP.l2d fn)), .second, .val (.double (FP.l2d fp)), .second, .val (.double (FP.l2d tn)), .second] [(.double (FP.l2d tp)), (.double (FP.dmul (FP.dadd (FP.l2d tp) (FP.l2d fn)) (FP.dadd (FP.l2d fn) (FP.l2d tn)))), (.double (own_num tp fn fp tn))])) _
      refine XS.dload X6.here hx rfl (hb hby d5_68) rfl ?_
      show Steps p.tables e below (T6.setTop (mkF m 70 #[.val (.ref a), .val (.double (FP.l2d tp)), .second, .val (.double (FP.l2d fn)), .second, .val (.double (FP.l2d fp)), .second, .val (.double (FP.l2d tn)), .second] [(.double (FP.l2d fp)), (.double (FP.l2d tp)), (.double (FP.dmul (FP.dadd (FP.l2d tp) (FP.l2d fn)) (FP.dadd (FP.l2d fn) (FP.l2d tn)))), (.double (own_num tp fn fp tn))])) _
      refine XS.daddS X6.here hx rfl (hb hby d5_70) rfl ok.2.2.2.2.2.2.2.1 (v := FP.dadd (FP.l2d tp) (FP.l2d fp)) rfl ?_
      show Steps p.tables e below (T6.setTop (mkF m 71 #[.val (.ref a), .val (.double (FP.l2d tp)), .second, .val (.double (FP.l2d fn)), .second, .val (.double (FP.l2d fp)), .second, .val (.double (FP.l2d tn)), .second] [(.double (FP.dadd (FP.l2d tp) (FP.l2d fp))), (.double (FP.dmul (FP.dadd (FP.l2d tp) (FP.l2d fn)) (FP.dadd (FP.l2d fn) (FP.l2d tn)))), (.double (own_num tp fn fp tn))])) _
      refine XS.dload X6.here hx rfl (hb hby d5_71) rfl ?_
      show Steps p.tables e below (T6.setTop (mkF m 73 #[.val (.ref a), .val (.double (FP.l2d tp)), .second, .val (.double (FP.l2d fn)), .second, .val (.double (FP.l2d fp)), .second, .val (.double (FP.l2d tn)), .second] [(.double (FP.l2d fp)), (.double (FP.dadd (FP.l2d tp) (FP.l2d fp))), (.double (FP.dmul (FP.dadd (FP.l2d tp) (FP.l2d fn)) (FP.dadd (FP.l2d fn) (FP.l2d tn)))), (.double (own_num tp fn fp tn))])) _
      refine XS.dload X6.here hx rfl (hb hby d5_73) rfl ?_
      show Steps p.tables e below (T6.setTop (mkF m 75 #[.val (.ref a), .val (.double (FP.l2d tp)), .second, .val (.double (FP.l2d fn)), .second, .val (.double (FP.l2d fp)), .second, .val (.double (FP.l2d tn)), .second] [(.double (FP.l2d tn)), (.double (FP.l2d fp)), (.double (FP.dadd (FP.l2d tp) (FP.l2d fp))), (.double (FP.dmul (FP.dadd (FP.l2d tp) (FP.l2d fn)) (FP.dadd (FP.l2d fn) (FP.l2d tn)))), (.double (own_num tp fn fp tn))])) _
      refine XS.daddS X6.here hx rfl (hb hby d5_75) rfl ok.2.2.2.2.2.2.2.2.1 (v := FP.dadd (FP.l2d fp) (FP.l2d tn)) rfl ?_
      show Steps p.tables e below (T6.setTop (mkF m 76 #[.val (.ref a), .val (.double (FP.l2d tp)), .second, .val (.double (FP.l2d fn)), .second, .val (.double (FP.l2d fp)), .second, .val (.double (FP.l2d tn)), .second] [(.double (FP.dadd (FP.l2d fp) (FP.l2d tn))), (.double (FP.dadd (FP.l2d tp) (FP.l2d fp))), (.double (FP.dmul (FP.dadd (FP.l2d tp) (FP.l2d fn)) (FP.dadd (FP.l2d fn) (FP.l2d tn)))), (.double (own_num tp fn fp tn))])) _
      refine XS.dmulS X6.here hx rfl (hb hby d5_76) rfl ok.2.2.2.2.2.2.2.2.2.1 (v := FP.dmul (FP.dadd (FP.l2d tp) (FP.l2d fp)) (FP.dadd (FP.l2d fp) (FP.l2d tn))) rfl ?_
      show Steps p.tables e below (T6.setTop (mkF m 77 #[.val (.ref a), .val (.double (FP.l2d tp)), .second, .val (.double (FP.l2d fn)), .second, .val (.double (FP.l2d fp)), .second, .val (.double (FP.l2d tn)), .second] [(.double (FP.dmul (FP.dadd (FP.l2d tp) (FP.l2d fp)) (FP.dadd (FP.l2d fp) (FP.l2d tn)))), (.double (FP.dmul (FP.dadd (FP.l2d tp) (FP.l2d fn)) (FP.dadd (FP.l2d fn) (FP.l2d tn)))), (.double (own_num tp fn fp tn))])) _
      refine XS.daddS X6.here hx rfl (hb hby d5_77) rfl ok.2.2.2.2.2.2.2.2.2.2 (v := (own_den tp fn fp tn)) rfl ?_
      show Steps p.tables e below (T6.setTop (mkF m 78 #[.val (.ref a), .val (.double (FP.l2d tp)), .second, .val (.double (FP.l2d fn)), .second, .val (.double (FP.l2d fp)), .second, .val (.double (FP.l2d tn)), .second] [(.double (own_den tp fn fp tn)), (.double (own_num tp fn fp tn))])) _
      refine XS.ddivS X6.here hx rfl (hb hby d5_78) rfl (nd (Or.inr c2)) (v := FP.ddiv (own_num tp fn fp tn) (own_den tp fn fp tn)) rfl ?_
      show Steps p.tables e below (T6.setTop (mkF m 79 #[.val (.ref a), .val (.double (FP.l2d tp)), .second, .val (.double (FP.l2d fn)), .second, .val (.double (FP.l2d fp)), .second, .val (.double (FP.l2d tn)), .second] [(.double (FP.ddiv (own_num tp fn fp tn) (own_den tp fn fp tn)))])) _
      exact Jvm.RoadKit.retD X6 hx Bd.returns (hb hby d5_79) hr
    · show QP (.double (FP.ddiv (own_num tp fn fp tn) (own_den tp fn fp tn))) h0 n0 _ T6.heap _
      rw [e6]
      exact ⟨rfl, N0, rfl⟩
  · obtain ⟨T1, X1, e1, st1⟩ := getF X0 hx hZ hown (host := "") (Or.inl (hw _ (List.mem_of_getElem? (i := 21) rfl))) Via.refl e0 F1 (g := (mkF m 1 #[.val (.ref a), .unset, .unset, .unset, .unset, .unset, .unset, .unset, .unset] [(.ref a)])) rfl rfl (hb hby d5_1)
    obtain ⟨T3, X3, e3, st3⟩ := getF X1 hx hZ hown (host := "") (Or.inl (hw _ (List.mem_of_getElem? (i := 19) rfl))) Via.refl e1 F0 (g := (mkF m 21 #[.val (.ref a), .unset, .unset, .unset, .unset, .unset, .unset, .unset, .unset] [(.ref a)])) rfl rfl (hb hby d5_21)
    obtain ⟨T4, X4, e4, st4⟩ := getF X3 hx hZ hown (host := "") (Or.inl (hw _ (List.mem_of_getElem? (i := 21) rfl))) Via.refl e3 F1 (g := (mkF m 27 #[.val (.ref a), .val (.double (FP.l2d tp)), .second, .unset, .unset, .unset, .unset, .unset, .unset] [(.ref a)])) rfl rfl (hb hby d5_27)
    obtain ⟨T5, X5, e5, st5⟩ := getF X4 hx hZ hown (host := "") (Or.inl (hw _ (List.mem_of_getElem? (i := 23) rfl))) Via.refl e4 F2 (g := (mkF m 33 #[.val (.ref a), .val (.double (FP.l2d tp)), .second, .val (.double (FP.l2d fn)), .second, .unset, .unset, .unset, .unset] [(.ref a)])) rfl rfl (hb hby d5_33)
    obtain ⟨T6, X6, e6, st6⟩ := getF X5 hx hZ hown (host := "") (Or.inl (hw _ (List.mem_of_getElem? (i := 25) rfl))) Via.refl e5 F3 (g := (mkF m 40 #[.val (.ref a), .val (.double (FP.l2d tp)), .second, .val (.double (FP.l2d fn)), .second, .val (.double (FP.l2d fp)), .second, .unset, .unset] [(.ref a)])) rfl rfl (hb hby d5_40)
    obtain ⟨fs, hr, hrun, hended, hW, hsame⟩ := X6.leave (v := some (.double (FP.ddiv (own_num tp fn fp tn) (own_den tp fn fp tn)))) (fun h => by rw [Bd.returns] at h; cases h)
    refine ⟨_, _, pre0 _ ?_, hrun, hended, _, _, rfl, ?_, ⟨_, rfl⟩, hW, hsame.mono (by decide) (by decide)⟩
    · show Steps p.tables e below (s₁.setTop (mkF m 0 #[.val (.ref a), .unset, .unset, .unset, .unset, .unset, .unset, .unset, .unset] [])) _
      refine XS.aloadN X0.here hx rfl (hb hby d5_0) rfl rfl ?_
      show Steps p.tables e below (s₁.setTop (mkF m 1 #[.val (.ref a), .unset, .unset, .unset, .unset, .unset, .unset, .unset, .unset] [(.ref a)])) _
      refine st1 _ ?_
      show Steps p.tables e below (T1.setTop (mkF m 4 #[.val (.ref a), .unset, .unset, .unset, .unset, .unset, .unset, .unset, .unset] [(.long fn)])) _
      refine XS.lconst X1.here hx rfl (hb hby d5_4) ?_
      show Steps p.tables e below (T1.setTop (mkF m 5 #[.val (.ref a), .unset, .unset, .unset, .unset, .unset, .unset, .unset, .unset] [(.long (0 : Int64)), (.long fn)])) _
      refine XS.lcmp X1.here hx rfl (hb hby d5_5) rfl ?_
      show Steps p.tables e below (T1.setTop (mkF m 6 #[.val (.ref a), .unset, .unset, .unset, .unset, .unset, .unset, .unset, .unset] [(.int (lcmpW fn (0 : Int64)))])) _
      refine XS.ifYes X1.here hx rfl (pc0 := 6) (pc' := 20) rfl (hb hby d5_6) rfl ((Jvm.Own.holdsL _ _ _).trans (Jvm.Own.dT c1)) (by decide) (by decide) ?_
      show Steps p.tables e below (T1.setTop (mkF m 20 #[.val (.ref a), .unset, .unset, .unset, .unset, .unset, .unset, .unset, .unset] [])) _
      refine XS.aloadN X1.here hx rfl (hb hby d5_20) rfl rfl ?_
      show Steps p.tables e below (T1.setTop (mkF m 21 #[.val (.ref a), .unset, .unset, .unset, .unset, .unset, .unset, .unset, .unset] [(.ref a)])) _
      refine st3 _ ?_
      show Steps p.tables e below (T3.setTop (mkF m 24 #[.val (.ref a), .unset, .unset, .unset, .unset, .unset, .unset, .unset, .unset] [(.long tp)])) _
      refine XS.l2dS X3.here hx rfl (hb hby d5_24) rfl (v := FP.l2d tp) rfl ?_
      show Steps p.tables e below (T3.setTop (mkF m 25 #[.val (.ref a), .unset, .unset, .unset, .unset, .unset, .unset, .unset, .unset] [(.double (FP.l2d tp))])) _
      refine XS.dstoreN X3.here hx rfl (hb hby d5_25) rfl (l' := #[.val (.ref a), .val (.double (FP.l2d tp)), .second, .unset, .unset, .unset, .unset, .unset, .unset]) rfl ?_
      show Steps p.tables e below (T3.setTop (mkF m 26 #[.val (.ref a), .val (.double (FP.l2d tp)), .second, .unset, .unset, .unset, .unset, .unset, .unset] [])) _
      refine XS.aloadN X3.here hx rfl (hb hby d5_26) rfl rfl ?_
      show Steps p.tables e below (T3.setTop (mkF m 27 #[.val (.ref a), .val (.double (FP.l2d tp)), .second, .unset, .unset, .unset, .unset, .unset, .unset] [(.ref a)])) _
      refine st4 _ ?_
      show Steps p.tables e below (T4.setTop (mkF m 30 #[.val (.ref a), .val (.double (FP.l2d tp)), .second, .unset, .unset, .unset, .unset, .unset, .unset] [(.long fn)])) _
      refine XS.l2dS X4.here hx rfl (hb hby d5_30) rfl (v := FP.l2d fn) rfl ?_
      show Steps p.tables e below (T4.setTop (mkF m 31 #[.val (.ref a), .val (.double (FP.l2d tp)), .second, .unset, .unset, .unset, .unset, .unset, .unset] [(.double (FP.l2d fn))])) _
      refine XS.dstoreN X4.here hx rfl (hb hby d5_31) rfl (l' := #[.val (.ref a), .val (.double (FP.l2d tp)), .second, .val (.double (FP.l2d fn)), .second, .unset, .unset, .unset, .unset]) rfl ?_
      show Steps p.tables e below (T4.setTop (mkF m 32 #[.val (.ref a), .val (.double (FP.l2d tp)), .second, .val (.double (FP.l2d fn)), .second, .unset, .unset, .unset, .unset] [])) _
      refine XS.aloadN X4.here hx rfl (hb hby d5_32) rfl rfl ?_
      show Steps p.tables e below (T4.setTop (mkF m 33 #[.val (.ref a), .val (.double (FP.l2d tp)), .second, .val (.double (FP.l2d fn)), .second, .unset, .unset, .unset, .unset] [(.ref a)])) _
      refine st5 _ ?_
      show Steps p.tables e below (T5.setTop (mkF m 36 #[.val (.ref a), .val (.double (FP.l2d tp)), .second, .val (.double (FP.l2d fn)), .second, .unset, .unset, .unset, .unset] [(.long fp)])) _
      refine XS.l2dS X5.here hx rfl (hb hby d5_36) rfl (v := FP.l2d fp) rfl ?_
      show Steps p.tables e below (T5.setTop (mkF m 37 #[.val (.ref a), .val (.double (FP.l2d tp)), .second, .val (.double (FP.l2d fn)), .second, .unset, .unset, .unset, .unset] [(.double (FP.l2d fp))])) _
      refine XS.dstore X5.here hx rfl (hb hby d5_37) rfl (l' := #[.val (.ref a), .val (.double (FP.l2d tp)), .second, .val (.double (FP.l2d fn)), .second, .val (.double (FP.l2d fp)), .second, .unset, .unset]) rfl ?_
      show Steps p.tables e below (T5.setTop (mkF m 39 #[.val (.ref a), .val (.double (FP.l2d tp)), .second, .val (.double (FP.l2d fn)), .second, .val (.double (FP.l2d fp)), .second, .unset, .unset] [])) _
      refine XS.aloadN X5.here hx rfl (hb hby d5_39) rfl rfl ?_
      show Steps p.tables e below (T5.setTop (mkF m 40 #[.val (.ref a), .val (.double (FP.l2d tp)), .second, .val (.double (FP.l2d fn)), .second, .val (.double (FP.l2d fp)), .second, .unset, .unset] [(.ref a)])) _
      refine st6 _ ?_
      show Steps p.tables e below (T6.setTop (mkF m 43 #[.val (.ref a), .val (.double (FP.l2d tp)), .second, .val (.double (FP.l2d fn)), .second, .val (.double (FP.l2d fp)), .second, .unset, .unset] [(.long tn)])) _
      refine XS.l2dS X6.here hx rfl (hb hby d5_43) rfl (v := FP.l2d tn) rfl ?_
      show Steps p.tables e below (T6.setTop (mkF m 44 #[.val (.ref a), .val (.double (FP.l2d tp)), .second, .val (.double (FP.l2d fn)), .second, .val (.double (FP.l2d fp)), .second, .unset, .unset] [(.double (FP.l2d tn))])) _
      refine XS.dstore X6.here hx rfl (hb hby d5_44) rfl (l' := #[.val (.ref a), .val (.double (FP.l2d tp)), .second, .val (.double (FP.l2d fn)), .second, .val (.double (FP.l2d fp)), .second, .val (.double (FP.l2d tn)), .second]) rfl ?_
      show Steps p.tables e below (T6.setTop (mkF m 46 #[.val (.ref a), .val (.double (FP.l2d tp)), .second, .val (.double (FP.l2d fn)), .second, .val (.double (FP.l2d fp)), .second, .val (.double (FP.l2d tn)), .second] [])) _
      refine X6.ldc2DoubleC hx hown (mvT hZ (hw _ (List.mem_of_getElem? (i := 32) rfl))) (g := (mkF m 46 #[.val (.ref a), .val (.double (FP.l2d tp)), .second, .val (.double (FP.l2d fn)), .second, .val (.double (FP.l2d fp)), .second, .val (.double (FP.l2d tn)), .second] [])) rfl (hb hby d5_46) _ ?_
      show Steps p.tables e below (T6.setTop (mkF m 49 #[.val (.ref a), .val (.double (FP.l2d tp)), .second, .val (.double (FP.l2d fn)), .second, .val (.double (FP.l2d fp)), .second, .val (.double (FP.l2d tn)), .second] [(.double (4611686018427387904 : UInt64))])) _
      refine XS.dloadN X6.here hx rfl (hb hby d5_49) rfl ?_
      show Steps p.tables e below (T6.setTop (mkF m 50 #[.val (.ref a), .val (.double (FP.l2d tp)), .second, .val (.double (FP.l2d fn)), .second, .val (.double (FP.l2d fp)), .second, .val (.double (FP.l2d tn)), .second] [(.double (FP.l2d tp)), (.double (4611686018427387904 : UInt64))])) _
      refine XS.dload X6.here hx rfl (hb hby d5_50) rfl ?_
      show Steps p.tables e below (T6.setTop (mkF m 52 #[.val (.ref a), .val (.double (FP.l2d tp)), .second, .val (.double (FP.l2d fn)), .second, .val (.double (FP.l2d fp)), .second, .val (.double (FP.l2d tn)), .second] [(.double (FP.l2d tn)), (.double (FP.l2d tp)), (.double (4611686018427387904 : UInt64))])) _
      refine XS.dmulS X6.here hx rfl (hb hby d5_52) rfl ok.1 (v := FP.dmul (FP.l2d tp) (FP.l2d tn)) rfl ?_
      show Steps p.tables e below (T6.setTop (mkF m 53 #[.val (.ref a), .val (.double (FP.l2d tp)), .second, .val (.double (FP.l2d fn)), .second, .val (.double (FP.l2d fp)), .second, .val (.double (FP.l2d tn)), .second] [(.double (FP.dmul (FP.l2d tp) (FP.l2d tn))), (.double (4611686018427387904 : UInt64))])) _
      refine XS.dloadN X6.here hx rfl (hb hby d5_53) rfl ?_
      show Steps p.tables e below (T6.setTop (mkF m 54 #[.val (.ref a), .val (.double (FP.l2d tp)), .second, .val (.double (FP.l2d fn)), .second, .val (.double (FP.l2d fp)), .second, .val (.double (FP.l2d tn)), .second] [(.double (FP.l2d fn)), (.double (FP.dmul (FP.l2d tp) (FP.l2d tn))), (.double (4611686018427387904 : UInt64))])) _
      refine XS.dload X6.here hx rfl (hb hby d5_54) rfl ?_
      show Steps p.tables e below (T6.setTop (mkF m 56 #[.val (.ref a), .val (.double (FP.l2d tp)), .second, .val (.double (FP.l2d fn)), .second, .val (.double (FP.l2d fp)), .second, .val (.double (FP.l2d tn)), .second] [(.double (FP.l2d fp)), (.double (FP.l2d fn)), (.double (FP.dmul (FP.l2d tp) (FP.l2d tn))), (.double (4611686018427387904 : UInt64))])) _
      refine XS.dmulS X6.here hx rfl (hb hby d5_56) rfl ok.2.1 (v := FP.dmul (FP.l2d fn) (FP.l2d fp)) rfl ?_
      show Steps p.tables e below (T6.setTop (mkF m 57 #[.val (.ref a), .val (.double (FP.l2d tp)), .second, .val (.double (FP.l2d fn)), .second, .val (.double (FP.l2d fp)), .second, .val (.double (FP.l2d tn)), .second] [(.double (FP.dmul (FP.l2d fn) (FP.l2d fp))), (.double (FP.dmul (FP.l2d tp) (FP.l2d tn))), (.double (4611686018427387904 : UInt64))])) _
      refine XS.dsubS X6.here hx rfl (hb hby d5_57) rfl ok.2.2.1 (v := FP.dsub (FP.dmul (FP.l2d tp) (FP.l2d tn)) (FP.dmul (FP.l2d fn) (FP.l2d fp))) rfl ?_
      show Steps p.tables e below (T6.setTop (mkF m 58 #[.val (.ref a), .val (.double (FP.l2d tp)), .second, .val (.double (FP.l2d fn)), .second, .val (.double (FP.l2d fp)), .second, .val (.double (FP.l2d tn)), .second] [(.double (FP.dsub (FP.dmul (FP.l2d tp) (FP.l2d tn)) (FP.dmul (FP.l2d fn) (FP.l2d fp)))), (.double (4611686018427387904 : UInt64))])) _
      refine XS.dmulS X6.here hx rfl (hb hby d5_58) rfl ok.2.2.2.1 (v := (own_num tp fn fp tn)) rfl ?_
      show Steps p.tables e below (T6.setTop (mkF m 59 #[.val (.ref a), .val (.double (FP.l2d tp)), .second, .val (.double (FP.l2d fn)), .second, .val (.double (FP.l2d fp)), .second, .val (.double (FP.l2d tn)), .second] [(.double (own_num tp fn fp tn))])) _
      refine XS.dloadN X6.here hx rfl (hb hby d5_59) rfl ?_
      show Steps p.tables e below (T6.setTop (mkF m 60 #[.val (.ref a), .val (.double (FP.l2d tp)), .second, .val (.double (FP.l2d fn)), .second, .val (.double (FP.l2d fp)), .second, .val (.double (FP.l2d tn)), .second] [(.double (FP.l2d tp)), (.double (own_num tp fn fp tn))])) _
      refine XS.dloadN X6.here hx rfl (hb hby d5_60) rfl ?_
      show Steps p.tables e below (T6.setTop (mkF m 61 #[.val (.ref a), .val (.double (FP.l2d tp)), .second, .val (.double (FP.l2d fn)), .second, .val (.double (FP.l2d fp)), .second, .val (.double (FP.l2d tn)), .second] [(.double (FP.l2d fn)), (.double (FP.l2d tp)), (.double (own_num tp fn fp tn))])) _
      refine XS.daddS X6.here hx rfl (hb hby d5_61) rfl ok.2.2.2.2.1 (v := FP.dadd (FP.l2d tp) (FP.l2d fn)) rfl ?_
      show Steps p.tables e below (T6.setTop (mkF m 62 #[.val (.ref a), .val (.double (FP.l2d tp)), .second, .val (.double (FP.l2d fn)), .second, .val (.double (FP.l2d fp)), .second, .val (.double (FP.l2d tn)), .second] [(.double (FP.dadd (FP.l2d tp) (FP.l2d fn))), (.double (own_num tp fn fp tn))])) _
      refine XS.dloadN X6.here hx rfl (hb hby d5_62) rfl ?_
      show Steps p.tables e below (T6.setTop (mkF m 63 #[.val (.ref a), .val (.double (FP.l2d tp)), .second, .val (.double (FP.l2d fn)), .second, .val (.double (FP.l2d fp)), .second, .val (.double (FP.l2d tn)), .second] [(.double (FP.l2d fn)), (.double (FP.dadd (FP.l2d tp) (FP.l2d fn))), (.double (own_num tp fn fp tn))])) _
      refine XS.dload X6.here hx rfl (hb hby d5_63) rfl ?_
      show Steps p.tables e below (T6.setTop (mkF m 65 #[.val (.ref a), .val (.double (FP.l2d tp)), .second, .val (.double (FP.l2d fn)), .second, .val (.double (FP.l2d fp)), .second, .val (.double (FP.l2d tn)), .second] [(.double (FP.l2d tn)), (.double (FP.l2d fn)), (.double (FP.dadd (FP.l2d tp) (FP.l2d fn))), (.double (own_num tp fn fp tn))])) _
      refine XS.daddS X6.here hx rfl (hb hby d5_65) rfl ok.2.2.2.2.2.1 (v := FP.dadd (FP.l2d fn) (FP.l2d tn)) rfl ?_
      show Steps p.tables e below (T6.setTop (mkF m 66 #[.val (.ref a), .val (.double (FP.l2d tp)), .second, .val (.double (FP.l2d fn)), .second, .val (.double (FP.l2d fp)), .second, .val (.double (FP.l2d tn)), .second] [(.double (FP.dadd (FP.l2d fn) (FP.l2d tn))), (.double (FP.dadd (FP.l2d tp) (FP.l2d fn))), (.double (own_num tp fn fp tn))])) _
      refine XS.dmulS X6.here hx rfl (hb hby d5_66) rfl ok.2.2.2.2.2.2.1 (v := FP.dmul (FP.dadd (FP.l2d tp) (FP.l2d fn)) (FP.dadd (FP.l2d fn) (FP.l2d tn))) rfl ?_
      show Steps p.tables e below (T6.setTop (mkF m 67 #[.val (.ref a), .val (.double (FP.l2d tp)), .second, .val (.double (FP.l2d fn)), .second, .val (.double (FP.l2d fp)), .second, .val (.double (FP.l2d tn)), .second] [(.double (FP.dmul (FP.dadd (FP.l2d tp) (FP.l2d fn)) (FP.dadd (FP.l2d fn) (FP.l2d tn)))), (.double (own_num tp fn fp tn))])) _
      refine XS.dloadN X6.here hx rfl (hb hby d5_67) rfl ?_
      show Steps p.tables e below (T6.setTop (mkF m 68 #[.val (.ref a), .val (.double (FP.l2d tp)), .second, .val (.double (FP.l2d fn)), .second, .val (.double (FP.l2d fp)), .second, .val (.double (FP.l2d tn)), .second] [(.double (FP.l2d tp)), (.double (FP.dmul (FP.dadd (FP.l2d tp) (FP.l2d fn)) (FP.dadd (FP.l2d fn) (FP.l2d tn)))), (.double (own_num tp fn fp tn))])) _
      refine XS.dload X6.here hx rfl (hb hby d5_68) rfl ?_
      show Steps p.tables e below (T6.setTop (mkF m 70 #[.val (.ref a), .val (.double (FP.l2d tp)), .second, .val (.double (FP.l2d fn)), .second, .val (.double (FP.l2d fp)), .second, .val (.double (FP.l2d tn)), .second] [(.double (FP.l2d fp)), (.double (FP.l2d tp)), (.double (FP.dmul (FP.dadd (FP.l2d tp) (FP.l2d fn)) (FP.dadd (FP.l2d fn) (FP.l2d tn)))), (.double (own_num tp fn fp tn))])) _
      refine XS.daddS X6.here hx rfl (hb hby d5_70) rfl ok.2.2.2.2.2.2.2.1 (v := FP.dadd (FP.l2d tp) (FP.l2d fp)) rfl ?_
      show Steps p.tables e below (T6.setTop (mkF m 71 #[.val (.ref a), .val (.double (FP.l2d tp)), .second, .val (.double (FP.l2d fn)), .second, .val (.double (FP.l2d fp)), .second, .val (.double (FP.l2d tn)), .second] [(.double (FP.dadd (FP.l2d tp) (FP.l2d fp))), (.double (FP.dmul (FP.dadd (FP.l2d tp) (FP.l2d fn)) (FP.dadd (FP.l2d fn) (FP.l2d tn)))), (.double (own_num tp fn fp tn))])) _
      refine XS.dload X6.here hx rfl (hb hby d5_71) rfl ?_
      show Steps p.tables e below (T6.setTop (mkF m 73 #[.val (.ref a), .val (.double (FP.l2d tp)), .second, .val (.double (FP.l2d fn)), .second, .val (.double (FP.l2d fp)), .second, .val (.double (FP.l2d tn)), .second] [(.double (FP.l2d fp)), (.double (FP.dadd (FP.l2d tp) (FP.l2d fp))), (.double (FP.dmul (FP.dadd (FP.l2d tp) (FP.l2d fn)) (FP.dadd (FP.l2d fn) (FP.l2d tn)))), (.double (own_num tp fn fp tn))])) _
      refine XS.dload X6.here hx rfl (hb hby d5_73) rfl ?_
      show Steps p.tables e below (T6.setTop (mkF m 75 #[.val (.ref a), .val (.double (FP.l2d tp)), .second, .val (.double (FP.l2d fn)), .second, .val (.double (FP.l2d fp)), .second, .val (.double (FP.l2d tn)), .second] [(.double (FP.l2d tn)), (.double (FP.l2d fp)), (.double (FP.dadd (FP.l2d tp) (FP.l2d fp))), (.double (FP.dmul (FP.dadd (FP.l2d tp) (FP.l2d fn)) (FP.dadd (FP.l2d fn) (FP.l2d tn)))), (.double (own_num tp fn fp tn))])) _
      refine XS.daddS X6.here hx rfl (hb hby d5_75) rfl ok.2.2.2.2.2.2.2.2.1 (v := FP.dadd (FP.l2d fp) (FP.l2d tn)) rfl ?_
      show Steps p.tables e below (T6.setTop (mkF m 76 #[.val (.ref a), .val (.double (FP.l2d tp)), .second, .val (.double (FP.l2d fn)), .second, .val (.double (FP.l2d fp)), .second, .val (.double (FP.l2d tn)), .second] [(.double (FP.dadd (FP.l2d fp) (FP.l2d tn))), (.double (FP.dadd (FP.l2d tp) (FP.l2d fp))), (.double (FP.dmul (FP.dadd (FP.l2d tp) (FP.l2d fn)) (FP.dadd (FP.l2d fn) (FP.l2d tn)))), (.double (own_num tp fn fp tn))])) _
      refine XS.dmulS X6.here hx rfl (hb hby d5_76) rfl ok.2.2.2.2.2.2.2.2.2.1 (v := FP.dmul (FP.dadd (FP.l2d tp) (FP.l2d fp)) (FP.dadd (FP.l2d fp) (FP.l2d tn))) rfl ?_
      show Steps p.tables e below (T6.setTop (mkF m 77 #[.val (.ref a), .val (.double (FP.l2d tp)), .second, .val (.double (FP.l2d fn)), .second, .val (.double (FP.l2d fp)), .second, .val (.double (FP.l2d tn)), .second] [(.double (FP.dmul (FP.dadd (FP.l2d tp) (FP.l2d fp)) (FP.dadd (FP.l2d fp) (FP.l2d tn)))), (.double (FP.dmul (FP.dadd (FP.l2d tp) (FP.l2d fn)) (FP.dadd (FP.l2d fn) (FP.l2d tn)))), (.double (own_num tp fn fp tn))])) _
      refine XS.daddS X6.here hx rfl (hb hby d5_77) rfl ok.2.2.2.2.2.2.2.2.2.2 (v := (own_den tp fn fp tn)) rfl ?_
      show Steps p.tables e below (T6.setTop (mkF m 78 #[.val (.ref a), .val (.double (FP.l2d tp)), .second, .val (.double (FP.l2d fn)), .second, .val (.double (FP.l2d fp)), .second, .val (.double (FP.l2d tn)), .second] [(.double (own_den tp fn fp tn)), (.double (own_num tp fn fp tn))])) _
      refine XS.ddivS X6.here hx rfl (hb hby d5_78) rfl (nd (Or.inl c1)) (v := FP.ddiv (own_num tp fn fp tn) (own_den tp fn fp tn)) rfl ?_
      show Steps p.tables e below (T6.setTop (mkF m 79 #[.val (.ref a), .val (.double (FP.l2d tp)), .second, .val (.double (FP.l2d fn)), .second, .val (.double (FP.l2d fp)), .second, .val (.double (FP.l2d tn)), .second] [(.double (FP.ddiv (own_num tp fn fp tn) (own_den tp fn fp tn)))])) _
      exact Jvm.RoadKit.retD X6 hx Bd.returns (hb hby d5_79) hr
    · show QP (.double (FP.ddiv (own_num tp fn fp tn) (own_den tp fn fp tn))) h0 n0 _ T6.heap _
      rw [e6]
      exact ⟨rfl, N0, rfl⟩
theorem ef_rm0 (m : MethodId) (xa : Int64) (xb : Int64) (xc : Int64) (xd : Int64) (k : Int32) : entryFrame m #[(.long xa), (.long xb), (.long xc), (.long xd), (.int k)] maxLocals = mkF m 0 #[.val (.long xa), .second, .val (.long xb), .second, .val (.long xc), .second, .val (.long xd), .second, .val (.int k), .unset, .unset, .unset, .unset, .unset, .unset, .unset, .unset, .unset, .unset, .unset, .unset, .unset, .unset, .unset, .unset, .unset, .unset, .unset, .unset, .unset, .unset, .unset, .unset] [] := by first | (simp [entryFrame, mkF, argsToLocals, Value.category, maxLocals]; done) | rfl
set_option maxRecDepth 65536 in
set_option maxHeartbeats 40000000 in
theorem rm0 (l : Launch) (Z : State) (a0 : Array Value) (hw : ∀ d ∈ tables_1, d.before a0 Z = true) (ws : List Jvm.Cond) (xa : Int64) (xb : Int64) (xc : Int64) (xd : Int64) (k : Int32) (h0 : Heap) (n0 : Nat) (Z0 : n0 ≤ h0.size)  :
    MetFree l x (head1 (Jvm.Cond.code x code maxLocals ret :: ws) room_1) (fun a_ U_ => a_ = #[(.long xa), (.long xb), (.long xc), (.long xd), (.int k)] ∧ Z.Warmed39 U_.vm ∧ U_.heap = h0) (fun _ _ _ _ _ => True) (fun _ U_ o_ V_ => ∃ v_ L_, o_ = .returned v_ ∧ QL n0 v_ V_.heap L_ ∧ FrameEnd U_ o_ V_ L_ room_1.cells room_1.slots) := by
  refine MetFree.of_bodySF (plainFor_of_name pn_2) hisR ?_
  intro p e s m args below meth c s₁ Bd hml0 hP hK
  obtain ⟨rfl, hZ, hh⟩ := hP
  have hx := Bd.exec
  have hby := Bd.bytes
  have hml : c.maxLocals = 33 := hml0
  have hown : s.vm.findClass "com/example/driftgauge/driftgauge/PairCountsAdjustedRandPinLaw" = some m.cls := findClass_of_methodNamed Bd.named
  have hnm := (name_of_methodNamed Bd.named Bd.method).1
  have X0 : Stand p l e room_1 s m #[(.long xa), (.long xb), (.long xc), (.long xd), (.int k)] below meth c s₁ [] 0 0 := Stand.of_body Bd
  have e0 : s₁.heap = h0 := by rw [← hh, Bd.state]; rfl
  have N0 := Fr.nil n0
  have pre0 : ∀ t, Steps p.tables e below (s₁.setTop (mkF m 0 #[.val (.long xa), .second, .val (.long xb), .second, .val (.long xc), .second, .val (.long xd), .second, .val (.int k), .unset, .unset, .unset, .unset, .unset, .unset, .unset, .unset, .unset, .unset, .unset, .unset, .unset, .unset, .unset, .unset, .unset, .unset, .unset, .unset, .unset, .unset, .unset, .unset] [])) t → Steps p.tables e below (s₁.setTop (entryFrame m #[(.long xa), (.long xb), (.long xc), (.long xd), (.int k)] maxLocals)) t := fun t_ k_ => castTop (ef_rm0 m xa xb xc xd k) k_
  obtain ⟨sh, hsh⟩ : ∃ v, ((k.toUInt32 >>> ((4 : Int32) &&& 31).toUInt32).toInt32 &&& (31 : Int32)) = v := ⟨_, rfl⟩
  have r_tp := own_cnt_rng xa k (0 : Int32) sh
  obtain ⟨tp, h_tp⟩ : ∃ v, own_cnt xa k (0 : Int32) sh = v := ⟨_, rfl⟩
  rw [h_tp] at r_tp
  have r_fn := own_cnt_rng xb k (1 : Int32) sh
  obtain ⟨fn, h_fn⟩ : ∃ v, own_cnt xb k (1 : Int32) sh = v := ⟨_, rfl⟩
  rw [h_fn] at r_fn
  have r_fp := own_cnt_rng xc k (2 : Int32) sh
  obtain ⟨fp, h_fp⟩ : ∃ v, own_cnt xc k (2 : Int32) sh = v := ⟨_, rfl⟩
  rw [h_fp] at r_fp
  have r_tn := own_cnt_rng xd k (3 : Int32) sh
  obtain ⟨tn, h_tn⟩ : ∃ v, own_cnt xd k (3 : Int32) sh = v := ⟨_, rfl⟩
  rw [h_tn] at r_tn
  obtain ⟨ok, inum, iden⟩ := own_vals tp fn fp tn r_tp r_fn r_fp r_tn
  obtain ⟨ln, ld⟩ := own_longs tp fn fp tn r_tp r_fn r_fp r_tn
  obtain ⟨all, hall⟩ : ∃ v, tp + fn + fp + tn = v := ⟨_, rfl⟩
  obtain ⟨sA, hsA⟩ : ∃ v, tp + fp = v := ⟨_, rfl⟩
  obtain ⟨sB, hsB⟩ : ∃ v, tp + fn = v := ⟨_, rfl⟩
  rw [hall, hsA, hsB] at ln ld
  obtain ⟨nm, hnm'⟩ : ∃ v, (2 : Int64) * (tp * all - sA * sB) = v := ⟨_, rfl⟩
  obtain ⟨dn, hdn⟩ : ∃ v, (sA + sB) * all - (2 : Int64) * sA * sB = v := ⟨_, rfl⟩
  rw [hnm'] at ln
  rw [hdn] at ld
  have n1 := Jvm.Own.pb (a := tp.toInt) (b := tn.toInt) (A := 1048575) (B := 1048575) (by omega) (by omega)
  have n2 := Jvm.Own.pb (a := fn.toInt) (b := fp.toInt) (A := 1048575) (B := 1048575) (by omega) (by omega)
  have n3 := Jvm.Own.pb (a := tp.toInt + fn.toInt) (b := fn.toInt + tn.toInt) (A := 2097150) (B := 2097150) (by omega) (by omega)
  have n4 := Jvm.Own.pb (a := tp.toInt + fp.toInt) (b := fp.toInt + tn.toInt) (A := 2097150) (B := 2097150) (by omega) (by omega)
  have inm : Jvm.FP.Core.DInt (2 * (tp.toInt * tn.toInt - fn.toInt * fp.toInt)) (FP.l2d nm) := by
    have q := Jvm.FP.Core.l2d_int (a := nm) (by rw [ln]; omega)
    rw [ln] at q; exact q
  have idn : Jvm.FP.Core.DInt ((tp.toInt + fn.toInt) * (fn.toInt + tn.toInt) + (tp.toInt + fp.toInt) * (fp.toInt + tn.toInt)) (FP.l2d dn) := by
    have q := Jvm.FP.Core.l2d_int (a := dn) (by rw [ld]; omega)
    rw [ld] at q; exact q
  have both : fn.toInt ≠ 0 ∨ fp.toInt ≠ 0 → 0 < dn.toInt ∧ Jvm.FP.Core.DFin (FP.ddiv (own_num tp fn fp tn) (own_den tp fn fp tn)) ∧ Jvm.FP.Core.DFin (FP.ddiv (FP.l2d nm) (FP.l2d dn)) ∧ Jvm.Own.z (FP.ddiv (own_num tp fn fp tn) (own_den tp fn fp tn)) = Jvm.Own.z (FP.ddiv (FP.l2d nm) (FP.l2d dn)) := by
    intro h
    have hp := own_den_pos tp.toInt fn.toInt fp.toInt tn.toInt r_tp.1 r_fn.1 r_fp.1 r_tn.1 h
    obtain ⟨d1, d2⟩ := Jvm.Own.DI.div inum iden hp (by omega)
    obtain ⟨d3, d4⟩ := Jvm.Own.DI.div inm idn hp (by omega)
    exact ⟨by rw [ld]; exact hp, d2, d4, Jvm.Own.Rnd.same' d1 d3⟩
  clear n1 n2 n3 n4
  have cases3 : (fn.toInt = 0 ∧ fp.toInt = 0) ∨ (fn.toInt = 0 ∧ fp.toInt ≠ 0) ∨ (fn.toInt ≠ 0) := by omega
  rcases cases3 with ⟨c1, c2⟩ | ⟨c1, c2⟩ | c1
  · obtain ⟨_, _, ⟨T1, L1, k1, n1⟩, -, X1, ⟨Lc1, hQ1, l1, y1, z1⟩, st1⟩ := Jvm.LawKit.callS X0 hx (y := (⟨"com/example/driftgauge/driftgauge/PairCountsAdjustedRandPinLaw", "count", "(JIII)J"⟩ : MethodName)) hown (mvT hZ (hw _ (List.mem_of_getElem? (i := 0) rfl))) (mvT hZ (hw _ (List.mem_of_getElem? (i := 1) rfl))) (mvT hZ (hw _ (List.mem_of_getElem? (i := 2) rfl))) (mvT hZ (hw _ (List.mem_of_getElem? (i := 3) rfl))) (by decide) (backOf (W := 0) (rmCnt l Z a0 hw [] xa k (0 : Int32) sh h0 n0 Z0) hZ (hw _ (List.mem_of_getElem? (i := 3) rfl)) (hw _ (List.mem_of_getElem? (i := 2) rfl)) (by decide) (by decide)) (g := (mkF m 15 #[.val (.long xa), .second, .val (.long xb), .second, .val (.long xc), .second, .val (.long xd), .second, .val (.int k), .val (.int sh), .unset, .unset, .unset, .unset, .unset, .unset, .unset, .unset, .unset, .unset, .unset, .unset, .unset, .unset, .unset, .unset, .unset, .unset, .unset, .unset, .unset, .unset, .unset] [(.int sh), (.int (0 : Int32)), (.int k), (.long xa)])) rfl (by rw [hml]; rfl) (argsL := [(.long xa), (.int k), (.int (0 : Int32)), (.int sh)]) (rest := []) (lenOf pd_1 rfl) rfl (by show 2 * 0 + _ ≤ _; exact Nat.le_of_eq rfl) (hb hby at_15) (fun _ _ => ⟨rfl, e0, (by decide : 0 + 0 ≤ _), (by decide : 0 + 0 ≤ _)⟩)
    dsimp only [Pt.U, Pt.locs, Pt.cells, Pt.slots] at X1 l1 y1 z1 st1 hQ1
    subst l1 y1 z1
    rw [h_tp] at hQ1; obtain ⟨rfl, N1, e1⟩ := hQ1
    obtain ⟨_, _, ⟨T2, L2, k2, n2⟩, -, X2, ⟨Lc2, hQ2, l2, y2, z2⟩, st2⟩ := Jvm.LawKit.callS X1 hx (y := (⟨"com/example/driftgauge/driftgauge/PairCountsAdjustedRandPinLaw", "count", "(JIII)J"⟩ : MethodName)) hown (mvT hZ (hw _ (List.mem_of_getElem? (i := 0) rfl))) (mvT hZ (hw _ (List.mem_of_getElem? (i := 1) rfl))) (mvT hZ (hw _ (List.mem_of_getElem? (i := 2) rfl))) (mvT hZ (hw _ (List.mem_of_getElem? (i := 3) rfl))) (by decide) (backOf (W := 0) (rmCnt l Z a0 hw [] xb k (1 : Int32) sh h0 n0 Z0) hZ (hw _ (List.mem_of_getElem? (i := 3) rfl)) (hw _ (List.mem_of_getElem? (i := 2) rfl)) (by decide) (by decide)) (g := (mkF m 26 #[.val (.long xa), .second, .val (.long xb), .second, .val (.long xc), .second, .val (.long xd), .second, .val (.int k), .val (.int sh), .val (.long tp), .second, .unset, .unset, .unset, .unset, .unset, .unset, .unset, .unset, .unset, .unset, .unset, .unset, .unset, .unset, .unset, .unset, .unset, .unset, .unset, .unset, .unset] [(.int sh), (.int (1 : Int32)), (.int k), (.long xb)])) rfl (by rw [hml]; rfl) (argsL := [(.long xb), (.int k), (.int (1 : Int32)), (.int sh)]) (rest := []) (lenOf pd_1 rfl) rfl (by show 2 * 0 + _ ≤ _; exact Nat.le_of_eq rfl) (hb hby at_26) (fun _ _ => ⟨rfl, e1, (by decide : 0 + 0 ≤ _), (by decide : 0 + 0 ≤ _)⟩)
    dsimp only [Pt.U, Pt.locs, Pt.cells, Pt.slots] at X2 l2 y2 z2 st2 hQ2
    subst l2 y2 z2
    rw [h_fn] at hQ2; obtain ⟨rfl, N2, e2⟩ := hQ2
    obtain ⟨_, _, ⟨T3, L3, k3, n3⟩, -, X3, ⟨Lc3, hQ3, l3, y3, z3⟩, st3⟩ := Jvm.LawKit.callS X2 hx (y := (⟨"com/example/driftgauge/driftgauge/PairCountsAdjustedRandPinLaw", "count", "(JIII)J"⟩ : MethodName)) hown (mvT hZ (hw _ (List.mem_of_getElem? (i := 0) rfl))) (mvT hZ (hw _ (List.mem_of_getElem? (i := 1) rfl))) (mvT hZ (hw _ (List.mem_of_getElem? (i := 2) rfl))) (mvT hZ (hw _ (List.mem_of_getElem? (i := 3) rfl))) (by decide) (backOf (W := 0) (rmCnt l Z a0 hw [] xc k (2 : Int32) sh h0 n0 Z0) hZ (hw _ (List.mem_of_getElem? (i := 3) rfl)) (hw _ (List.mem_of_getElem? (i := 2) rfl)) (by decide) (by decide)) (g := (mkF m 38 #[.val (.long xa), .second, .val (.long xb), .second, .val (.long xc), .second, .val (.long xd), .second, .val (.int k), .val (.int sh), .val (.long tp), .second, .val (.long fn), .second, .unset, .unset, .unset, .unset, .unset, .unset, .unset, .unset, .unset, .unset, .unset, .unset, .unset, .unset, .unset, .unset, .unset, .unset, .unset] [(.int sh), (.int (2 : Int32)), (.int k), (.long xc)])) rfl (by rw [hml]; rfl) (argsL := [(.long xc), (.int k), (.int (2 : Int32)), (.int sh)]) (rest := []) (lenOf pd_1 rfl) rfl (by show 2 * 0 + _ ≤ _; exact Nat.le_of_eq rfl) (hb hby at_38) (fun _ _ => ⟨rfl, e2, (by decide : 0 + 0 ≤ _), (by decide : 0 + 0 ≤ _)⟩)
    dsimp only [Pt.U, Pt.locs, Pt.cells, Pt.slots] at X3 l3 y3 z3 st3 hQ3
    subst l3 y3 z3
    rw [h_fp] at hQ3; obtain ⟨rfl, N3, e3⟩ := hQ3
    obtain ⟨_, _, ⟨T4, L4, k4, n4⟩, -, X4, ⟨Lc4, hQ4, l4, y4, z4⟩, st4⟩ := Jvm.LawKit.callS X3 hx (y := (⟨"com/example/driftgauge/driftgauge/PairCountsAdjustedRandPinLaw", "count", "(JIII)J"⟩ : MethodName)) hown (mvT hZ (hw _ (List.mem_of_getElem? (i := 0) rfl))) (mvT hZ (hw _ (List.mem_of_getElem? (i := 1) rfl))) (mvT hZ (hw _ (List.mem_of_getElem? (i := 2) rfl))) (mvT hZ (hw _ (List.mem_of_getElem? (i := 3) rfl))) (by decide) (backOf (W := 0) (rmCnt l Z a0 hw [] xd k (3 : Int32) sh h0 n0 Z0) hZ (hw _ (List.mem_of_getElem? (i := 3) rfl)) (hw _ (List.mem_of_getElem? (i := 2) rfl)) (by decide) (by decide)) (g := (mkF m 50 #[.val (.long xa), .second, .val (.long xb), .second, .val (.long xc), .second, .val (.long xd), .second, .val (.int k), .val (.int sh), .val (.long tp), .second, .val (.long fn), .second, .val (.long fp), .second, .unset, .unset, .unset, .unset, .unset, .unset, .unset, .unset, .unset, .unset, .unset, .unset, .unset, .unset, .unset, .unset, .unset] [(.int sh), (.int (3 : Int32)), (.int k), (.long xd)])) rfl (by rw [hml]; rfl) (argsL := [(.long xd), (.int k), (.int (3 : Int32)), (.int sh)]) (rest := []) (lenOf pd_1 rfl) rfl (by show 2 * 0 + _ ≤ _; exact Nat.le_of_eq rfl) (hb hby at_50) (fun _ _ => ⟨rfl, e3, (by decide : 0 + 0 ≤ _), (by decide : 0 + 0 ≤ _)⟩)
    dsimp only [Pt.U, Pt.locs, Pt.cells, Pt.slots] at X4 l4 y4 z4 st4 hQ4
    subst l4 y4 z4
    rw [h_tn] at hQ4; obtain ⟨rfl, N4, e4⟩ := hQ4
    obtain ⟨T5, h5, X5, e5, E5, A5, D5, -, st5⟩ := newO X4 hx hZ hown (hw _ (List.mem_of_getElem? (i := 5) rfl)) (hw _ (List.mem_of_getElem? (i := 6) rfl)) (hw _ (List.mem_of_getElem? (i := 7) rfl)) e4 (g := (mkF m 55 #[.val (.long xa), .second, .val (.long xb), .second, .val (.long xc), .second, .val (.long xd), .second, .val (.int k), .val (.int sh), .val (.long tp), .second, .val (.long fn), .second, .val (.long fp), .second, .val (.long tn), .second, .unset, .unset, .unset, .unset, .unset, .unset, .unset, .unset, .unset, .unset, .unset, .unset, .unset, .unset, .unset] [])) rfl (hb hby at_55) (by decide) (by decide)
    obtain ⟨a5, g5⟩ : ∃ z, z = h0.size := ⟨_, rfl⟩
    rw [← g5] at A5 D5 st5
    have D_0 := D5 (Or.inr (hw _ (List.mem_of_getElem? (i := 20) rfl))) (ty := .long) (by decide)
    have D_1 := D5 (Or.inr (hw _ (List.mem_of_getElem? (i := 22) rfl))) (ty := .long) (by decide)
    have D_2 := D5 (Or.inr (hw _ (List.mem_of_getElem? (i := 24) rfl))) (ty := .long) (by decide)
    have D_3 := D5 (Or.inr (hw _ (List.mem_of_getElem? (i := 26) rfl))) (ty := .long) (by decide)
    have Z5 : n0 ≤ h5.size := Nat.le_trans Z0 E5.1
    have ga : n0 ≤ a5 := Nat.le_trans Z0 (Nat.le_of_eq g5.symm)
    obtain ⟨_, _, ⟨T6, L6, k6, n6⟩, -, X6, ⟨Lc6, hQ6, l6, y6, z6⟩, st6⟩ := X5.specialBack hx (y := (⟨"com/example/driftgauge/driftgauge/PairCounts", "<init>", "(JJJJ)V"⟩ : MethodName)) rfl hown (mvT hZ (hw _ (List.mem_of_getElem? (i := 8) rfl))) (mvT hZ (hw _ (List.mem_of_getElem? (i := 9) rfl))) (mvT hZ (hw _ (List.mem_of_getElem? (i := 10) rfl))) (by decide) (backOf (W := 1) (rmInit l Z a0 hw [] a5 tp fn fp tn h5 n0 Z5 A5 ga D_0 D_1 D_2 D_3) hZ (hw _ (List.mem_of_getElem? (i := 10) rfl)) (hw _ (List.mem_of_getElem? (i := 7) rfl)) (by decide) (by decide)) (g := (mkF m 67 #[.val (.long xa), .second, .val (.long xb), .second, .val (.long xc), .second, .val (.long xd), .second, .val (.int k), .val (.int sh), .val (.long tp), .second, .val (.long fn), .second, .val (.long fp), .second, .val (.long tn), .second, .unset, .unset, .unset, .unset, .unset, .unset, .unset, .unset, .unset, .unset, .unset, .unset, .unset, .unset, .unset] [(.long tn), (.long fp), (.long fn), (.long tp), (.ref a5), (.ref a5)])) rfl (by rw [hml]; rfl) (Steps.refl _) (a := a5) (argsL := [(.long tp), (.long fn), (.long fp), (.long tn)]) (rest := [(.ref a5)]) (lenOf pd_2 rfl) rfl (by show 2 * 0 + _ ≤ _; exact Nat.le_of_eq rfl) (hb hby at_67) (fun _ _ => ⟨rfl, e5, (by decide : 1 + 0 ≤ _), (by decide : 4 + 0 ≤ _)⟩)
    dsimp only [Pt.U, Pt.locs, Pt.cells, Pt.slots] at X6 l6 y6 z6 st6 hQ6
    subst l6 y6 z6
    obtain ⟨rfl, N6, K6, E6, H0, H1, H2, H3⟩ := hQ6
    have Z6 : n0 ≤ T6.heap.size := Nat.le_trans Z5 K6.1
    obtain ⟨cq7, kq7, q7a, q7b, q7c⟩ := isOf hZ rfl E6
    obtain ⟨_, _, ⟨T7, L7, k7, n7⟩, -, X7, ⟨Lc7, hQ7, l7, y7, z7⟩, st7⟩ := X6.virtualBack hx (y := (⟨"com/example/driftgauge/driftgauge/PairCounts", "adjustedRand", "()D"⟩ : MethodName)) (z := (⟨"com/example/driftgauge/driftgauge/PairCounts", "adjustedRand", "()D"⟩ : MethodName)) hown (mvT hZ (hw _ (List.mem_of_getElem? (i := 27) rfl))) (mvT hZ (hw _ (List.mem_of_getElem? (i := 28) rfl))) (notFace_of_selects (args := #[]) (mvT hZ (hw _ (List.mem_of_getElem? (i := 30) rfl)))) (mvT hZ (hw _ (List.mem_of_getElem? (i := 30) rfl))) (mvT hZ (hw _ (List.mem_of_getElem? (i := 29) rfl))) (by decide) (backOf (W := 0) (rmAdj l Z a0 hw [] a5 T6.heap n0 Z6 tp fn fp tn (4607182418800017408 : UInt64) H0 H1 H2 H3 (Or.inl ⟨c1, c2, rfl⟩) ok (fun q => Jvm.Own.nn (both q).2.1)) hZ (hw _ (List.mem_of_getElem? (i := 31) rfl)) (hw _ (List.mem_of_getElem? (i := 7) rfl)) (by decide) (by decide)) q7a q7c (g := (mkF m 74 #[.val (.long xa), .second, .val (.long xb), .second, .val (.long xc), .second, .val (.long xd), .second, .val (.int k), .val (.int sh), .val (.long tp), .second, .val (.long fn), .second, .val (.long fp), .second, .val (.long tn), .second, .val (.ref a5), .unset, .unset, .unset, .unset, .unset, .unset, .unset, .unset, .unset, .unset, .unset, .unset, .unset, .unset] [(.ref a5)])) rfl (by rw [hml]; rfl) (Steps.refl _) (argsL := []) (rest := []) (lenOf pd_3 rfl) rfl (by show 2 * 0 + _ ≤ _; exact Nat.le_of_eq rfl) (hb hby at_74) (fun _ _ => ⟨rfl, rfl, (by decide : 1 + 0 ≤ _), (by decide : 4 + 0 ≤ _)⟩)
    dsimp only [Pt.U, Pt.locs, Pt.cells, Pt.slots] at X7 l7 y7 z7 st7 hQ7
    subst l7 y7 z7
    obtain ⟨rfl, N7, e7⟩ := hQ7
    obtain ⟨fs, hr, hrun, hended, hW, hsame⟩ := X7.leave (v := some (.int (1 : Int32))) (fun h => by rw [Bd.returns] at h; cases h)
    refine ⟨_, _, pre0 _ ?_, hrun, hended, _, _, rfl, ?_, ⟨_, rfl⟩, hW, hsame.mono (by decide) (by decide)⟩
    · show Steps p.tables e below (s₁.setTop (mkF m 0 #[.val (.long xa), .second, .val (.long xb), .second, .val (.long xc), .second, .val (.long xd), .second, .val (.int k), .unset, .unset, .unset, .unset, .unset, .unset, .unset, .unset, .unset, .unset, .unset, .unset, .unset, .unset, .unset, .unset, .unset, .unset, .unset, .unset, .unset, .unset, .unset, .unset] [])) _
      refine XS.iload X0.here hx rfl (hb hby at_0) rfl ?_
      show Steps p.tables e below (s₁.setTop (mkF m 2 #[.val (.long xa), .second, .val (.long xb), .second, .val (.long xc), .second, .val (.long xd), .second, .val (.int k), .unset, .unset, .unset, .unset, .unset, .unset, .unset, .unset, .unset, .unset, .unset, .unset, .unset, .unset, .unset, .unset, .unset, .unset, .unset, .unset, .unset, .unset, .unset, .unset] [(.int k)])) _
      refine XS.iconst X0.here hx rfl (hb hby at_2) ?_
      show Steps p.tables e below (s₁.setTop (mkF m 3 #[.val (.long xa), .second, .val (.long xb), .second, .val (.long xc), .second, .val (.long xd), .second, .val (.int k), .unset, .unset, .unset, .unset, .unset, .unset, .unset, .unset, .unset, .unset, .unset, .unset, .unset, .unset, .unset, .unset, .unset, .unset, .unset, .unset, .unset, .unset, .unset, .unset] [(.int (4 : Int32)), (.int k)])) _
      refine XS.iushr X0.here hx rfl (hb hby at_3) rfl ?_
      show Steps p.tables e below (s₁.setTop (mkF m 4 #[.val (.long xa), .second, .val (.long xb), .second, .val (.long xc), .second, .val (.long xd), .second, .val (.int k), .unset, .unset, .unset, .unset, .unset, .unset, .unset, .unset, .unset, .unset, .unset, .unset, .unset, .unset, .unset, .unset, .unset, .unset, .unset, .unset, .unset, .unset, .unset, .unset] [(.int ((k.toUInt32 >>> ((4 : Int32) &&& 31).toUInt32).toInt32))])) _
      refine XS.bipush X0.here hx rfl (hb hby at_4) ?_
      show Steps p.tables e below (s₁.setTop (mkF m 6 #[.val (.long xa), .second, .val (.long xb), .second, .val (.long xc), .second, .val (.long xd), .second, .val (.int k), .unset, .unset, .unset, .unset, .unset, .unset, .unset, .unset, .unset, .unset, .unset, .unset, .unset, .unset, .unset, .unset, .unset, .unset, .unset, .unset, .unset, .unset, .unset, .unset] [(.int (31 : Int32)), (.int ((k.toUInt32 >>> ((4 : Int32) &&& 31).toUInt32).toInt32))])) _
      refine XS.iand X0.here hx rfl (hb hby at_6) rfl ?_
      rw [hsh]
      show Steps p.tables e below (s₁.setTop (mkF m 7 #[.val (.long xa), .second, .val (.long xb), .second, .val (.long xc), .second, .val (.long xd), .second, .val (.int k), .unset, .unset, .unset, .unset, .unset, .unset, .unset, .unset, .unset, .unset, .unset, .unset, .unset, .unset, .unset, .unset, .unset, .unset, .unset, .unset, .unset, .unset, .unset, .unset] [(.int sh)])) _
      refine XS.istore X0.here hx rfl (hb hby at_7) rfl (l' := #[.val (.long xa), .second, .val (.long xb), .second, .val (.long xc), .second, .val (.long xd), .second, .val (.int k), .val (.int sh), .unset, .unset, .unset, .unset, .unset, .unset, .unset, .unset, .unset, .unset, .unset, .unset, .unset, .unset, .unset, .unset, .unset, .unset, .unset, .unset, .unset, .unset, .unset]) rfl ?_
      show Steps p.tables e below (s₁.setTop (mkF m 9 #[.val (.long xa), .second, .val (.long xb), .second, .val (.long xc), .second, .val (.long xd), .second, .val (.int k), .val (.int sh), .unset, .unset, .unset, .unset, .unset, .unset, .unset, .unset, .unset, .unset, .unset, .unset, .unset, .unset, .unset, .unset, .unset, .unset, .unset, .unset, .unset, .unset, .unset] [])) _
      refine XS.lloadN X0.here hx rfl (hb hby at_9) rfl ?_
      show Steps p.tables e below (s₁.setTop (mkF m 10 #[.val (.long xa), .second, .val (.long xb), .second, .val (.long xc), .second, .val (.long xd), .second, .val (.int k), .val (.int sh), .unset, .unset, .unset, .unset, .unset, .unset, .unset, .unset, .unset, .unset, .unset, .unset, .unset, .unset, .unset, .unset, .unset, .unset, .unset, .unset, .unset, .unset, .unset] [(.long xa)])) _
      refine XS.iload X0.here hx rfl (hb hby at_10) rfl ?_
      show Steps p.tables e below (s₁.setTop (mkF m 12 #[.val (.long xa), .second, .val (.long xb), .second, .val (.long xc), .second, .val (.long xd), .second, .val (.int k), .val (.int sh), .unset, .unset, .unset, .unset, .unset, .unset, .unset, .unset, .unset, .unset, .unset, .unset, .unset, .unset, .unset, .unset, .unset, .unset, .unset, .unset, .unset, .unset, .unset] [(.int k), (.long xa)])) _
      refine XS.iconst X0.here hx rfl (hb hby at_12) ?_
      show Steps p.tables e below (s₁.setTop (mkF m 13 #[.val (.long xa), .second, .val (.long xb), .second, .val (.long xc), .second, .val (.long xd), .second, .val (.int k), .val (.int sh), .unset, .unset, .unset, .unset, .unset, .unset, .unset, .unset, .unset, .unset, .unset, .unset, .unset, .unset, .unset, .unset, .unset, .unset, .unset, .unset, .unset, .unset, .unset] [(.int (0 : Int32)), (.int k), (.long xa)])) _
      refine XS.iload X0.here hx rfl (hb hby at_13) rfl ?_
      show Steps p.tables e below (s₁.setTop (mkF m 15 #[.val (.long xa), .second, .val (.long xb), .second, .val (.long xc), .second, .val (.long xd), .second, .val (.int k), .val (.int sh), .unset, .unset, .unset, .unset, .unset, .unset, .unset, .unset, .unset, .unset, .unset, .unset, .unset, .unset, .unset, .unset, .unset, .unset, .unset, .unset, .unset, .unset, .unset] [(.int sh), (.int (0 : Int32)), (.int k), (.long xa)])) _
      refine st1 _ ?_
      show Steps p.tables e below (T1.setTop (mkF m 18 #[.val (.long xa), .second, .val (.long xb), .second, .val (.long xc), .second, .val (.long xd), .second, .val (.int k), .val (.int sh), .unset, .unset, .unset, .unset, .unset, .unset, .unset, .unset, .unset, .unset, .unset, .unset, .unset, .unset, .unset, .unset, .unset, .unset, .unset, .unset, .unset, .unset, .unset] [(.long tp)])) _
      refine XS.lstore X1.here hx rfl (hb hby at_18) rfl (l' := #[.val (.long xa), .second, .val (.long xb), .second, .val (.long xc), .second, .val (.long xd), .second, .val (.int k), .val (.int sh), .val (.long tp), .second, .unset, .unset, .unset, .unset, .unset, .unset, .unset, .unset, .unset, .unset, .unset, .unset, .unset, .unset, .unset, .unset, .unset, .unset, .unset, .unset, .unset]) rfl ?_
      show Steps p.tables e below (T1.setTop (mkF m 20 #[.val (.long xa), .second, .val (.long xb), .second, .val (.long xc), .second, .val (.long xd), .second, .val (.int k), .val (.int sh), .val (.long tp), .second, .unset, .unset, .unset, .unset, .unset, .unset, .unset, .unset, .unset, .unset, .unset, .unset, .unset, .unset, .unset, .unset, .unset, .unset, .unset, .unset, .unset] [])) _
      refine XS.lloadN X1.here hx rfl (hb hby at_20) rfl ?_
      show Steps p.tables e below (T1.setTop (mkF m 21 #[.val (.long xa), .second, .val (.long xb), .second, .val (.long xc), .second, .val (.long xd), .second, .val (.int k), .val (.int sh), .val (.long tp), .second, .unset, .unset, .unset, .unset, .unset, .unset, .unset, .unset, .unset, .unset, .unset, .unset, .unset, .unset, .unset, .unset, .unset, .unset, .unset, .unset, .unset] [(.long xb)])) _
      refine XS.iload X1.here hx rfl (hb hby at_21) rfl ?_
      show Steps p.tables e below (T1.setTop (mkF m 23 #[.val (.long xa), .second, .val (.long xb), .second, .val (.long xc), .second, .val (.long xd), .second, .val (.int k), .val (.int sh), .val (.long tp), .second, .unset, .unset, .unset, .unset, .unset, .unset, .unset, .unset, .unset, .unset, .unset, .unset, .unset, .unset, .unset, .unset, .unset, .unset, .unset, .unset, .unset] [(.int k), (.long xb)])) _
      refine XS.iconst X1.here hx rfl (hb hby at_23) ?_
      show Steps p.tables e below (T1.setTop (mkF m 24 #[.val (.long xa), .second, .val (.long xb), .second, .val (.long xc), .second, .val (.long xd), .second, .val (.int k), .val (.int sh), .val (.long tp), .second, .unset, .unset, .unset, .unset, .unset, .unset, .unset, .unset, .unset, .unset, .unset, .unset, .unset, .unset, .unset, .unset, .unset, .unset, .unset, .unset, .unset] [(.int (1 : Int32)), (.int k), (.long xb)])) _
      refine XS.iload X1.here hx rfl (hb hby at_24) rfl ?_
      show Steps p.tables e below (T1.setTop (mkF m 26 #[.val (.long xa), .second, .val (.long xb), .second, .val (.long xc), .second, .val (.long xd), .second, .val (.int k), .val (.int sh), .val (.long tp), .second, .unset, .unset, .unset, .unset, .unset, .unset, .unset, .unset, .unset, .unset, .unset, .unset, .unset, .unset, .unset, .unset, .unset, .unset, .unset, .unset, .unset] [(.int sh), (.int (1 : Int32)), (.int k), (.long xb)])) _
      refine st2 _ ?_
      show Steps p.tables e below (T2.setTop (mkF m 29 #[.val (.long xa), .second, .val (.long xb), .second, .val (.long xc), .second, .val (.long xd), .second, .val (.int k), .val (.int sh), .val (.long tp), .second, .unset, .unset, .unset, .unset, .unset, .unset, .unset, .unset, .unset, .unset, .unset, .unset, .unset, .unset, .unset, .unset, .unset, .unset, .unset, .unset, .unset] [(.long fn)])) _
      refine XS.lstore X2.here hx rfl (hb hby at_29) rfl (l' := #[.val (.long xa), .second, .val (.long xb), .second, .val (.long xc), .second, .val (.long xd), .second, .val (.int k), .val (.int sh), .val (.long tp), .second, .val (.long fn), .second, .unset, .unset, .unset, .unset, .unset, .unset, .unset, .unset, .unset, .unset, .unset, .unset, .unset, .unset, .unset, .unset, .unset, .unset, .unset]) rfl ?_
      show Steps p.tables e below (T2.setTop (mkF m 31 #[.val (.long xa), .second, .val (.long xb), .second, .val (.long xc), .second, .val (.long xd), .second, .val (.int k), .val (.int sh), .val (.long tp), .second, .val (.long fn), .second, .unset, .unset, .unset, .unset, .unset, .unset, .unset, .unset, .unset, .unset, .unset, .unset, .unset, .unset, .unset, .unset, .unset, .unset, .unset] [])) _
      refine XS.lload X2.here hx rfl (hb hby at_31) rfl ?_
      show Steps p.tables e below (T2.setTop (mkF m 33 #[.val (.long xa), .second, .val (.long xb), .second, .val (.long xc), .second, .val (.long xd), .second, .val (.int k), .val (.int sh), .val (.long tp), .second, .val (.long fn), .second, .unset, .unset, .unset, .unset, .unset, .unset, .unset, .unset, .unset, .unset, .unset, .unset, .unset, .unset, .unset, .unset, .unset, .unset, .unset] [(.long xc)])) _
      refine XS.iload X2.here hx rfl (hb hby at_33) rfl ?_
      show Steps p.tables e below (T2.setTop (mkF m 35 #[.val (.long xa), .second, .val (.long xb), .second, .val (.long xc), .second, .val (.long xd), .second, .val (.int k), .val (.int sh), .val (.long tp), .second, .val (.long fn), .second, .unset, .unset, .unset, .unset, .unset, .unset, .unset, .unset, .unset, .unset, .unset, .unset, .unset, .unset, .unset, .unset, .unset, .unset, .unset] [(.int k), (.long xc)])) _
      refine XS.iconst X2.here hx rfl (hb hby at_35) ?_
      show Steps p.tables e below (T2.setTop (mkF m 36 #[.val (.long xa), .second, .val (.long xb), .second, .val (.long xc), .second, .val (.long xd), .second, .val (.int k), .val (.int sh), .val (.long tp), .second, .val (.long fn), .second, .unset, .unset, .unset, .unset, .unset, .unset, .unset, .unset, .unset, .unset, .unset, .unset, .unset, .unset, .unset, .unset, .unset, .unset, .unset] [(.int (2 : Int32)), (.int k), (.long xc)])) _
      refine XS.iload X2.here hx rfl (hb hby at_36) rfl ?_
      show Steps p.tables e below (T2.setTop (mkF m 38 #[.val (.long xa), .second, .val (.long xb), .second, .val (.long xc), .second, .val (.long xd), .second, .val (.int k), .val (.int sh), .val (.long tp), .second, .val (.long fn), .second, .unset, .unset, .unset, .unset, .unset, .unset, .unset, .unset, .unset, .unset, .unset, .unset, .unset, .unset, .unset, .unset, .unset, .unset, .unset] [(.int sh), (.int (2 : Int32)), (.int k), (.long xc)])) _
      refine st3 _ ?_
      show Steps p.tables e below (T3.setTop (mkF m 41 #[.val (.long xa), .second, .val (.long xb), .second, .val (.long xc), .second, .val (.long xd), .second, .val (.int k), .val (.int sh), .val (.long tp), .second, .val (.long fn), .second, .unset, .unset, .unset, .unset, .unset, .unset, .unset, .unset, .unset, .unset, .unset, .unset, .unset, .unset, .unset, .unset, .unset, .unset, .unset] [(.long fp)])) _
      refine XS.lstore X3.here hx rfl (hb hby at_41) rfl (l' := #[.val (.long xa), .second, .val (.long xb), .second, .val (.long xc), .second, .val (.long xd), .second, .val (.int k), .val (.int sh), .val (.long tp), .second, .val (.long fn), .second, .val (.long fp), .second, .unset, .unset, .unset, .unset, .unset, .unset, .unset, .unset, .unset, .unset, .unset, .unset, .unset, .unset, .unset, .unset, .unset]) rfl ?_
      show Steps p.tables e below (T3.setTop (mkF m 43 #[.val (.long xa), .second, .val (.long xb), .second, .val (.long xc), .second, .val (.long xd), .second, .val (.int k), .val (.int sh), .val (.long tp), .second, .val (.long fn), .second, .val (.long fp), .second, .unset, .unset, .unset, .unset, .unset, .unset, .unset, .unset, .unset, .unset, .unset, .unset, .unset, .unset, .unset, .unset, .unset] [])) _
      refine XS.lload X3.here hx rfl (hb hby at_43) rfl ?_
      show Steps p.tables e below (T3.setTop (mkF m 45 #[.val (.long xa), .second, .val (.long xb), .second, .val (.long xc), .second, .val (.long xd), .second, .val (.int k), .val (.int sh), .val (.long tp), .second, .val (.long fn), .second, .val (.long fp), .second, .unset, .unset, .unset, .unset, .unset, .unset, .unset, .unset, .unset, .unset, .unset, .unset, .unset, .unset, .unset, .unset, .unset] [(.long xd)])) _
      refine XS.iload X3.here hx rfl (hb hby at_45) rfl ?_
      show Steps p.tables e below (T3.setTop (mkF m 47 #[.val (.long xa), .second, .val (.long xb), .second, .val (.long xc), .second, .val (.long xd), .second, .val (.int k), .val (.int sh), .val (.long tp), .second, .val (.long fn), .second, .val (.long fp), .second, .unset, .unset, .unset, .unset, .unset, .unset, .unset, .unset, .unset, .unset, .unset, .unset, .unset, .unset, .unset, .unset, .unset] [(.int k), (.long xd)])) _
      refine XS.iconst X3.here hx rfl (hb hby at_47) ?_
      show Steps p.tables e below (T3.setTop (mkF m 48 #[.val (.long xa), .second, .val (.long xb), .second, .val (.long xc), .second, .val (.long xd), .second, .val (.int k), .val (.int sh), .val (.long tp), .second, .val (.long fn), .second, .val (.long fp), .second, .unset, .unset, .unset, .unset, .unset, .unset, .unset, .unset, .unset, .unset, .unset, .unset, .unset, .unset, .unset, .unset, .unset] [(.int (3 : Int32)), (.int k), (.long xd)])) _
      refine XS.iload X3.here hx rfl (hb hby at_48) rfl ?_
      show Steps p.tables e below (T3.setTop (mkF m 50 #[.val (.long xa), .second, .val (.long xb), .second, .val (.long xc), .second, .val (.long xd), .second, .val (.int k), .val (.int sh), .val (.long tp), .second, .val (.long fn), .second, .val (.long fp), .second, .unset, .unset, .unset, .unset, .unset, .unset, .unset, .unset, .unset, .unset, .unset, .unset, .unset, .unset, .unset, .unset, .unset] [(.int sh), (.int (3 : Int32)), (.int k), (.long xd)])) _
      refine st4 _ ?_
      show Steps p.tables e below (T4.setTop (mkF m 53 #[.val (.long xa), .second, .val (.long xb), .second, .val (.long xc), .second, .val (.long xd), .second, .val (.int k), .val (.int sh), .val (.long tp), .second, .val (.long fn), .second, .val (.long fp), .second, .unset, .unset, .unset, .unset, .unset, .unset, .unset, .unset, .unset, .unset, .unset, .unset, .unset, .unset, .unset, .unset, .unset] [(.long tn)])) _
      refine XS.lstore X4.here hx rfl (hb hby at_53) rfl (l' := #[.val (.long xa), .second, .val (.long xb), .second, .val (.long xc), .second, .val (.long xd), .second, .val (.int k), .val (.int sh), .val (.long tp), .second, .val (.long fn), .second, .val (.long fp), .second, .val (.long tn), .second, .unset, .unset, .unset, .unset, .unset, .unset, .unset, .unset, .unset, .unset, .unset, .unset, .unset, .unset, .unset]) rfl ?_
      show Steps p.tables e below (T4.setTop (mkF m 55 #[.val (.long xa), .second, .val (.long xb), .second, .val (.long xc), .second, .val (.long xd), .second, .val (.int k), .val (.int sh), .val (.long tp), .second, .val (.long fn), .second, .val (.long fp), .second, .val (.long tn), .second, .unset, .unset, .unset, .unset, .unset, .unset, .unset, .unset, .unset, .unset, .unset, .unset, .unset, .unset, .unset] [])) _
      refine st5 _ ?_
      show Steps p.tables e below (T5.setTop (mkF m 58 #[.val (.long xa), .second, .val (.long xb), .second, .val (.long xc), .second, .val (.long xd), .second, .val (.int k), .val (.int sh), .val (.long tp), .second, .val (.long fn), .second, .val (.long fp), .second, .val (.long tn), .second, .unset, .unset, .unset, .unset, .unset, .unset, .unset, .unset, .unset, .unset, .unset, .unset, .unset, .unset, .unset] [(.ref a5)])) _
      refine XS.dup X5.here hx rfl (hb hby at_58) rfl rfl ?_
      show Steps p.tables e below (T5.setTop (mkF m 59 #[.val (.long xa), .second, .val (.long xb), .second, .val (.long xc), .second, .val (.long xd), .second, .val (.int k), .val (.int sh), .val (.long tp), .second, .val (.long fn), .second, .val (.long fp), .second, .val (.long tn), .second, .unset, .unset, .unset, .unset, .unset, .unset, .unset, .unset, .unset, .unset, .unset, .unset, .unset, .unset, .unset] [(.ref a5), (.ref a5)])) _
      refine XS.lload X5.here hx rfl (hb hby at_59) rfl ?_
      show Steps p.tables e below (T5.setTop (mkF m 61 #[.val (.long xa), .second, .val (.long xb), .second, .val (.long xc), .second, .val (.long xd), .second, .val (.int k), .val (.int sh), .val (.long tp), .second, .val (.long fn), .second, .val (.long fp), .second, .val (.long tn), .second, .unset, .unset, .unset, .unset, .unset, .unset, .unset, .unset, .unset, .unset, .unset, .unset, .unset, .unset, .unset] [(.long tp), (.ref a5), (.ref a5)])) _
      refine XS.lload X5.here hx rfl (hb hby at_61) rfl ?_
      show Steps p.tables e below (T5.setTop (mkF m 63 #[.val (.long xa), .second, .val (.long xb), .second, .val (.long xc), .second, .val (.long xd), .second, .val (.int k), .val (.int sh), .val (.long tp), .second, .val (.long fn), .second, .val (.long fp), .second, .val (.long tn), .second, .unset, .unset, .unset, .unset, .unset, .unset, .unset, .unset, .unset, .unset, .unset, .unset, .unset, .unset, .unset] [(.long fn), (.long tp), (.ref a5), (.ref a5)])) _
      refine XS.lload X5.here hx rfl (hb hby at_63) rfl ?_
      show Steps p.tables e below (T5.setTop (mkF m 65 #[.val (.long xa), .second, .val (.long xb), .second, .val (.long xc), .second, .val (.long xd), .second, .val (.int k), .val (.int sh), .val (.long tp), .second, .val (.long fn), .second, .val (.long fp), .second, .val (.long tn), .second, .unset, .unset, .unset, .unset, .unset, .unset, .unset, .unset, .unset, .unset, .unset, .unset, .unset, .unset, .unset] [(.long fp), (.long fn), (.long tp), (.ref a5), (.ref a5)])) _
      refine XS.lload X5.here hx rfl (hb hby at_65) rfl ?_
      show Steps p.tables e below (T5.setTop (mkF m 67 #[.val (.long xa), .second, .val (.long xb), .second, .val (.long xc), .second, .val (.long xd), .second, .val (.int k), .val (.int sh), .val (.long tp), .second, .val (.long fn), .second, .val (.long fp), .second, .val (.long tn), .second, .unset, .unset, .unset, .unset, .unset, .unset, .unset, .unset, .unset, .unset, .unset, .unset, .unset, .unset, .unset] [(.long tn), (.long fp), (.long fn), (.long tp), (.ref a5), (.ref a5)])) _
      refine st6.trans ?_
      show Steps p.tables e below (T6.setTop (mkF m 70 #[.val (.long xa), .second, .val (.long xb), .second, .val (.long xc), .second, .val (.long xd), .second, .val (.int k), .val (.int sh), .val (.long tp), .second, .val (.long fn), .second, .val (.long fp), .second, .val (.long tn), .second, .unset, .unset, .unset, .unset, .unset, .unset, .unset, .unset, .unset, .unset, .unset, .unset, .unset, .unset, .unset] [(.ref a5)])) _
      refine XS.astore X6.here hx rfl (hb hby at_70) rfl rfl (l' := #[.val (.long xa), .second, .val (.long xb), .second, .val (.long xc), .second, .val (.long xd), .second, .val (.int k), .val (.int sh), .val (.long tp), .second, .val (.long fn), .second, .val (.long fp), .second, .val (.long tn), .second, .val (.ref a5), .unset, .unset, .unset, .unset, .unset, .unset, .unset, .unset, .unset, .unset, .unset, .unset, .unset, .unset]) rfl ?_
      show Steps p.tables e below (T6.setTop (mkF m 72 #[.val (.long xa), .second, .val (.long xb), .second, .val (.long xc), .second, .val (.long xd), .second, .val (.int k), .val (.int sh), .val (.long tp), .second, .val (.long fn), .second, .val (.long fp), .second, .val (.long tn), .second, .val (.ref a5), .unset, .unset, .unset, .unset, .unset, .unset, .unset, .unset, .unset, .unset, .unset, .unset, .unset, .unset] [])) _
      refine XS.aload X6.here hx rfl (hb hby at_72) rfl rfl ?_
      show Steps p.tables e below (T6.setTop (mkF m 74 #[.val (.long xa), .second, .val (.long xb), .second, .val (.long xc), .second, .val (.long xd), .second, .val (.int k), .val (.int sh), .val (.long tp), .second, .val (.long fn), .second, .val (.long fp), .second, .val (.long tn), .second, .val (.ref a5), .unset, .unset, .unset, .unset, .unset, .unset, .unset, .unset, .unset, .unset, .unset, .unset, .unset, .unset] [(.ref a5)])) _
      refine st7.trans ?_
      show Steps p.tables e below (T7.setTop (mkF m 77 #[.val (.long xa), .second, .val (.long xb), .second, .val (.long xc), .second, .val (.long xd), .second, .val (.int k), .val (.int sh), .val (.long tp), .second, .val (.long fn), .second, .val (.long fp), .second, .val (.long tn), .second, .val (.ref a5), .unset, .unset, .unset, .unset, .unset, .unset, .unset, .unset, .unset, .unset, .unset, .unset, .unset, .unset] [(.double (4607182418800017408 : UInt64))])) _
      refine XS.dstore X7.here hx rfl (hb hby at_77) rfl (l' := #[.val (.long xa), .second, .val (.long xb), .second, .val (.long xc), .second, .val (.long xd), .second, .val (.int k), .val (.int sh), .val (.long tp), .second, .val (.long fn), .second, .val (.long fp), .second, .val (.long tn), .second, .val (.ref a5), .val (.double (4607182418800017408 : UInt64)), .second, .unset, .unset, .unset, .unset, .unset, .unset, .unset, .unset, .unset, .unset, .unset, .unset]) rfl ?_
      show Steps p.tables e below (T7.setTop (mkF m 79 #[.val (.long xa), .second, .val (.long xb), .second, .val (.long xc), .second, .val (.long xd), .second, .val (.int k), .val (.int sh), .val (.long tp), .second, .val (.long fn), .second, .val (.long fp), .second, .val (.long tn), .second, .val (.ref a5), .val (.double (4607182418800017408 : UInt64)), .second, .unset, .unset, .unset, .unset, .unset, .unset, .unset, .unset, .unset, .unset, .unset, .unset] [])) _
      refine XS.lload X7.here hx rfl (hb hby at_79) rfl ?_
      show Steps p.tables e below (T7.setTop (mkF m 81 #[.val (.long xa), .second, .val (.long xb), .second, .val (.long xc), .second, .val (.long xd), .second, .val (.int k), .val (.int sh), .val (.long tp), .second, .val (.long fn), .second, .val (.long fp), .second, .val (.long tn), .second, .val (.ref a5), .val (.double (4607182418800017408 : UInt64)), .second, .unset, .unset, .unset, .unset, .unset, .unset, .unset, .unset, .unset, .unset, .unset, .unset] [(.long fn)])) _
      refine XS.lconst X7.here hx rfl (hb hby at_81) ?_
      show Steps p.tables e below (T7.setTop (mkF m 82 #[.val (.long xa), .second, .val (.long xb), .second, .val (.long xc), .second, .val (.long xd), .second, .val (.int k), .val (.int sh), .val (.long tp), .second, .val (.long fn), .second, .val (.long fp), .second, .val (.long tn), .second, .val (.ref a5), .val (.double (4607182418800017408 : UInt64)), .second, .unset, .unset, .unset, .unset, .unset, .unset, .unset, .unset, .unset, .unset, .unset, .unset] [(.long (0 : Int64)), (.long fn)])) _
      refine XS.lcmp X7.here hx rfl (hb hby at_82) rfl ?_
      show Steps p.tables e below (T7.setTop (mkF m 83 #[.val (.long xa), .second, .val (.long xb), .second, .val (.long xc), .second, .val (.long xd), .second, .val (.int k), .val (.int sh), .val (.long tp), .second, .val (.long fn), .second, .val (.long fp), .second, .val (.long tn), .second, .val (.ref a5), .val (.double (4607182418800017408 : UInt64)), .second, .unset, .unset, .unset, .unset, .unset, .unset, .unset, .unset, .unset, .unset, .unset, .unset] [(.int (lcmpW fn (0 : Int64)))])) _
      refine XS.ifNo X7.here hx rfl (hb hby at_83) rfl ((Jvm.Own.holdsL _ _ _).trans (Jvm.Own.dF (fun q => q c1))) ?_
      show Steps p.tables e below (T7.setTop (mkF m 86 #[.val (.long xa), .second, .val (.long xb), .second, .val (.long xc), .second, .val (.long xd), .second, .val (.int k), .val (.int sh), .val (.long tp), .second, .val (.long fn), .second, .val (.long fp), .second, .val (.long tn), .second, .val (.ref a5), .val (.double (4607182418800017408 : UInt64)), .second, .unset, .unset, .unset, .unset, .unset, .unset, .unset, .unset, .unset, .unset, .unset, .unset] [])) _
      refine XS.lload X7.here hx rfl (hb hby at_86) rfl ?_
      show Steps p.tables e below (T7.setTop (mkF m 88 #[.val (.long xa), .second, .val (.long xb), .second, .val (.long xc), .second, .val (.long xd), .second, .val (.int k), .val (.int sh), .val (.long tp), .second, .val (.long fn), .second, .val (.long fp), .second, .val (.long tn), .second, .val (.ref a5), .val (.double (4607182418800017408 : UInt64)), .second, .unset, .unset, .unset, .unset, .unset, .unset, .unset, .unset, .unset, .unset, .unset, .unset] [(.long fp)])) _
      refine XS.lconst X7.here hx rfl (hb hby at_88) ?_
      show Steps p.tables e below (T7.setTop (mkF m 89 #[.val (.long xa), .second, .val (.long xb), .second, .val (.long xc), .second, .val (.long xd), .second, .val (.int k), .val (.int sh), .val (.long tp), .second, .val (.long fn), .second, .val (.long fp), .second, .val (.long tn), .second, .val (.ref a5), .val (.double (4607182418800017408 : UInt64)), .second, .unset, .unset, .unset, .unset, .unset, .unset, .unset, .unset, .unset, .unset, .unset, .unset] [(.long (0 : Int64)), (.long fp)])) _
      refine XS.lcmp X7.here hx rfl (hb hby at_89) rfl ?_
      show Steps p.tables e below (T7.setTop (mkF m 90 #[.val (.long xa), .second, .val (.long xb), .second, .val (.long xc), .second, .val (.long xd), .second, .val (.int k), .val (.int sh), .val (.long tp), .second, .val (.long fn), .second, .val (.long fp), .second, .val (.long tn), .second, .val (.ref a5), .val (.double (4607182418800017408 : UInt64)), .second, .unset, .unset, .unset, .unset, .unset, .unset, .unset, .unset, .unset, .unset, .unset, .unset] [(.int (lcmpW fp (0 : Int64)))])) _
      refine XS.ifNo X7.here hx rfl (hb hby at_90) rfl ((Jvm.Own.holdsL _ _ _).trans (Jvm.Own.dF (fun q => q c2))) ?_
      show Steps p.tables e below (T7.setTop (mkF m 93 #[.val (.long xa), .second, .val (.long xb), .second, .val (.long xc), .second, .val (.long xd), .second, .val (.int k), .val (.int sh), .val (.long tp), .second, .val (.long fn), .second, .val (.long fp), .second, .val (.long tn), .second, .val (.ref a5), .val (.double (4607182418800017408 : UInt64)), .second, .unset, .unset, .unset, .unset, .unset, .unset, .unset, .unset, .unset, .unset, .unset, .unset] [])) _
      refine XS.dconst1 X7.here hx rfl (hb hby at_93) (v := (4607182418800017408 : UInt64)) rfl ?_
      show Steps p.tables e below (T7.setTop (mkF m 94 #[.val (.long xa), .second, .val (.long xb), .second, .val (.long xc), .second, .val (.long xd), .second, .val (.int k), .val (.int sh), .val (.long tp), .second, .val (.long fn), .second, .val (.long fp), .second, .val (.long tn), .second, .val (.ref a5), .val (.double (4607182418800017408 : UInt64)), .second, .unset, .unset, .unset, .unset, .unset, .unset, .unset, .unset, .unset, .unset, .unset, .unset] [(.double (4607182418800017408 : UInt64))])) _
      refine XS.dstore X7.here hx rfl (hb hby at_94) rfl (l' := #[.val (.long xa), .second, .val (.long xb), .second, .val (.long xc), .second, .val (.long xd), .second, .val (.int k), .val (.int sh), .val (.long tp), .second, .val (.long fn), .second, .val (.long fp), .second, .val (.long tn), .second, .val (.ref a5), .val (.double (4607182418800017408 : UInt64)), .second, .val (.double (4607182418800017408 : UInt64)), .second, .unset, .unset, .unset, .unset, .unset, .unset, .unset, .unset, .unset, .unset]) rfl ?_
      show Steps p.tables e below (T7.setTop (mkF m 96 #[.val (.long xa), .second, .val (.long xb), .second, .val (.long xc), .second, .val (.long xd), .second, .val (.int k), .val (.int sh), .val (.long tp), .second, .val (.long fn), .second, .val (.long fp), .second, .val (.long tn), .second, .val (.ref a5), .val (.double (4607182418800017408 : UInt64)), .second, .val (.double (4607182418800017408 : UInt64)), .second, .unset, .unset, .unset, .unset, .unset, .unset, .unset, .unset, .unset, .unset] [])) _
      refine XS.goto X7.here hx rfl (pc0 := 96) (pc' := 181) rfl (hb hby at_96) (by decide) (by decide) ?_
      show Steps p.tables e below (T7.setTop (mkF m 181 #[.val (.long xa), .second, .val (.long xb), .second, .val (.long xc), .second, .val (.long xd), .second, .val (.int k), .val (.int sh), .val (.long tp), .second, .val (.long fn), .second, .val (.long fp), .second, .val (.long tn), .second, .val (.ref a5), .val (.double (4607182418800017408 : UInt64)), .second, .val (.double (4607182418800017408 : UInt64)), .second, .unset, .unset, .unset, .unset, .unset, .unset, .unset, .unset, .unset, .unset] [])) _
      refine XS.dload X7.here hx rfl (hb hby at_181) rfl ?_
      show Steps p.tables e below (T7.setTop (mkF m 183 #[.val (.long xa), .second, .val (.long xb), .second, .val (.long xc), .second, .val (.long xd), .second, .val (.int k), .val (.int sh), .val (.long tp), .second, .val (.long fn), .second, .val (.long fp), .second, .val (.long tn), .second, .val (.ref a5), .val (.double (4607182418800017408 : UInt64)), .second, .val (.double (4607182418800017408 : UInt64)), .second, .unset, .unset, .unset, .unset, .unset, .unset, .unset, .unset, .unset, .unset] [(.double (4607182418800017408 : UInt64))])) _
      refine XS.dload X7.here hx rfl (hb hby at_183) rfl ?_
      show Steps p.tables e below (T7.setTop (mkF m 185 #[.val (.long xa), .second, .val (.long xb), .second, .val (.long xc), .second, .val (.long xd), .second, .val (.int k), .val (.int sh), .val (.long tp), .second, .val (.long fn), .second, .val (.long fp), .second, .val (.long tn), .second, .val (.ref a5), .val (.double (4607182418800017408 : UInt64)), .second, .val (.double (4607182418800017408 : UInt64)), .second, .unset, .unset, .unset, .unset, .unset, .unset, .unset, .unset, .unset, .unset] [(.double (4607182418800017408 : UInt64)), (.double (4607182418800017408 : UInt64))])) _
      refine XS.dcmpS X7.here hx rfl (hb hby at_185) rfl (v := Jvm.Op.cmpValue (FP.dcmp (4607182418800017408 : UInt64) (4607182418800017408 : UInt64)) .l) rfl ?_
      show Steps p.tables e below (T7.setTop (mkF m 186 #[.val (.long xa), .second, .val (.long xb), .second, .val (.long xc), .second, .val (.long xd), .second, .val (.int k), .val (.int sh), .val (.long tp), .second, .val (.long fn), .second, .val (.long fp), .second, .val (.long tn), .second, .val (.ref a5), .val (.double (4607182418800017408 : UInt64)), .second, .val (.double (4607182418800017408 : UInt64)), .second, .unset, .unset, .unset, .unset, .unset, .unset, .unset, .unset, .unset, .unset] [(.int (Jvm.Op.cmpValue (FP.dcmp (4607182418800017408 : UInt64) (4607182418800017408 : UInt64)) .l))])) _
      refine XS.ifNo X7.here hx rfl (hb hby at_186) rfl (by rw [Jvm.Own.holdsD Jvm.Own.fin_one Jvm.Own.fin_one]; simp [Jvm.Own.rel]) ?_
      show Steps p.tables e below (T7.setTop (mkF m 189 #[.val (.long xa), .second, .val (.long xb), .second, .val (.long xc), .second, .val (.long xd), .second, .val (.int k), .val (.int sh), .val (.long tp), .second, .val (.long fn), .second, .val (.long fp), .second, .val (.long tn), .second, .val (.ref a5), .val (.double (4607182418800017408 : UInt64)), .second, .val (.double (4607182418800017408 : UInt64)), .second, .unset, .unset, .unset, .unset, .unset, .unset, .unset, .unset, .unset, .unset] [])) _
      refine XS.iconst X7.here hx rfl (hb hby at_189) ?_
      show Steps p.tables e below (T7.setTop (mkF m 190 #[.val (.long xa), .second, .val (.long xb), .second, .val (.long xc), .second, .val (.long xd), .second, .val (.int k), .val (.int sh), .val (.long tp), .second, .val (.long fn), .second, .val (.long fp), .second, .val (.long tn), .second, .val (.ref a5), .val (.double (4607182418800017408 : UInt64)), .second, .val (.double (4607182418800017408 : UInt64)), .second, .unset, .unset, .unset, .unset, .unset, .unset, .unset, .unset, .unset, .unset] [(.int (1 : Int32))])) _
      refine XS.goto X7.here hx rfl (pc0 := 190) (pc' := 194) rfl (hb hby at_190) (by decide) (by decide) ?_
      show Steps p.tables e below (T7.setTop (mkF m 194 #[.val (.long xa), .second, .val (.long xb), .second, .val (.long xc), .second, .val (.long xd), .second, .val (.int k), .val (.int sh), .val (.long tp), .second, .val (.long fn), .second, .val (.long fp), .second, .val (.long tn), .second, .val (.ref a5), .val (.double (4607182418800017408 : UInt64)), .second, .val (.double (4607182418800017408 : UInt64)), .second, .unset, .unset, .unset, .unset, .unset, .unset, .unset, .unset, .unset, .unset] [(.int (1 : Int32))])) _
      exact retN X7 hx (t := .boolean) Bd.returns (by simp) (hb hby at_194) hr
    · show QL n0 _ T7.heap _
      exact ⟨rfl, (Fr.app (Fr.app (Fr.app (Fr.app (Fr.app (Fr.app N0 N1) N2) N3) N4) N6) N7)⟩
  · obtain ⟨_, _, ⟨T1, L1, k1, n1⟩, -, X1, ⟨Lc1, hQ1, l1, y1, z1⟩, st1⟩ := Jvm.LawKit.callS X0 hx (y := (⟨"com/example/driftgauge/driftgauge/PairCountsAdjustedRandPinLaw", "count", "(JIII)J"⟩ : MethodName)) hown (mvT hZ (hw _ (List.mem_of_getElem? (i := 0) rfl))) (mvT hZ (hw _ (List.mem_of_getElem? (i := 1) rfl))) (mvT hZ (hw _ (List.mem_of_getElem? (i := 2) rfl))) (mvT hZ (hw _ (List.mem_of_getElem? (i := 3) rfl))) (by decide) (backOf (W := 0) (rmCnt l Z a0 hw [] xa k (0 : Int32) sh h0 n0 Z0) hZ (hw _ (List.mem_of_getElem? (i := 3) rfl)) (hw _ (List.mem_of_getElem? (i := 2) rfl)) (by decide) (by decide)) (g := (mkF m 15 #[.val (.long xa), .second, .val (.long xb), .second, .val (.long xc), .second, .val (.long xd), .second, .val (.int k), .val (.int sh), .unset, .unset, .unset, .unset, .unset, .unset, .unset, .unset, .unset, .unset, .unset, .unset, .unset, .unset, .unset, .unset, .unset, .unset, .unset, .unset, .unset, .unset, .unset] [(.int sh), (.int (0 : Int32)), (.int k), (.long xa)])) rfl (by rw [hml]; rfl) (argsL := [(.long xa), (.int k), (.int (0 : Int32)), (.int sh)]) (rest := []) (lenOf pd_1 rfl) rfl (by show 2 * 0 + _ ≤ _; exact Nat.le_of_eq rfl) (hb hby at_15) (fun _ _ => ⟨rfl, e0, (by decide : 0 + 0 ≤ _), (by decide : 0 + 0 ≤ _)⟩)
    dsimp only [Pt.U, Pt.locs, Pt.cells, Pt.slots] at X1 l1 y1 z1 st1 hQ1
    subst l1 y1 z1
    rw [h_tp] at hQ1; obtain ⟨rfl, N1, e1⟩ := hQ1
    obtain ⟨_, _, ⟨T2, L2, k2, n2⟩, -, X2, ⟨Lc2, hQ2, l2, y2, z2⟩, st2⟩ := Jvm.LawKit.callS X1 hx (y := (⟨"com/example/driftgauge/driftgauge/PairCountsAdjustedRandPinLaw", "count", "(JIII)J"⟩ : MethodName)) hown (mvT hZ (hw _ (List.mem_of_getElem? (i := 0) rfl))) (mvT hZ (hw _ (List.mem_of_getElem? (i := 1) rfl))) (mvT hZ (hw _ (List.mem_of_getElem? (i := 2) rfl))) (mvT hZ (hw _ (List.mem_of_getElem? (i := 3) rfl))) (by decide) (backOf (W := 0) (rmCnt l Z a0 hw [] xb k (1 : Int32) sh h0 n0 Z0) hZ (hw _ (List.mem_of_getElem? (i := 3) rfl)) (hw _ (List.mem_of_getElem? (i := 2) rfl)) (by decide) (by decide)) (g := (mkF m 26 #[.val (.long xa), .second, .val (.long xb), .second, .val (.long xc), .second, .val (.long xd), .second, .val (.int k), .val (.int sh), .val (.long tp), .second, .unset, .unset, .unset, .unset, .unset, .unset, .unset, .unset, .unset, .unset, .unset, .unset, .unset, .unset, .unset, .unset, .unset, .unset, .unset, .unset, .unset] [(.int sh), (.int (1 : Int32)), (.int k), (.long xb)])) rfl (by rw [hml]; rfl) (argsL := [(.long xb), (.int k), (.int (1 : Int32)), (.int sh)]) (rest := []) (lenOf pd_1 rfl) rfl (by show 2 * 0 + _ ≤ _; exact Nat.le_of_eq rfl) (hb hby at_26) (fun _ _ => ⟨rfl, e1, (by decide : 0 + 0 ≤ _), (by decide : 0 + 0 ≤ _)⟩)
    dsimp only [Pt.U, Pt.locs, Pt.cells, Pt.slots] at X2 l2 y2 z2 st2 hQ2
    subst l2 y2 z2
    rw [h_fn] at hQ2; obtain ⟨rfl, N2, e2⟩ := hQ2
    obtain ⟨_, _, ⟨T3, L3, k3, n3⟩, -, X3, ⟨Lc3, hQ3, l3, y3, z3⟩, st3⟩ := Jvm.LawKit.callS X2 hx (y := (⟨"com/example/driftgauge/driftgauge/PairCountsAdjustedRandPinLaw", "count", "(JIII)J"⟩ : MethodName)) hown (mvT hZ (hw _ (List.mem_of_getElem? (i := 0) rfl))) (mvT hZ (hw _ (List.mem_of_getElem? (i := 1) rfl))) (mvT hZ (hw _ (List.mem_of_getElem? (i := 2) rfl))) (mvT hZ (hw _ (List.mem_of_getElem? (i := 3) rfl))) (by decide) (backOf (W := 0) (rmCnt l Z a0 hw [] xc k (2 : Int32) sh h0 n0 Z0) hZ (hw _ (List.mem_of_getElem? (i := 3) rfl)) (hw _ (List.mem_of_getElem? (i := 2) rfl)) (by decide) (by decide)) (g := (mkF m 38 #[.val (.long xa), .second, .val (.long xb), .second, .val (.long xc), .second, .val (.long xd), .second, .val (.int k), .val (.int sh), .val (.long tp), .second, .val (.long fn), .second, .unset, .unset, .unset, .unset, .unset, .unset, .unset, .unset, .unset, .unset, .unset, .unset, .unset, .unset, .unset, .unset, .unset, .unset, .unset] [(.int sh), (.int (2 : Int32)), (.int k), (.long xc)])) rfl (by rw [hml]; rfl) (argsL := [(.long xc), (.int k), (.int (2 : Int32)), (.int sh)]) (rest := []) (lenOf pd_1 rfl) rfl (by show 2 * 0 + _ ≤ _; exact Nat.le_of_eq rfl) (hb hby at_38) (fun _ _ => ⟨rfl, e2, (by decide : 0 + 0 ≤ _), (by decide : 0 + 0 ≤ _)⟩)
    dsimp only [Pt.U, Pt.locs, Pt.cells, Pt.slots] at X3 l3 y3 z3 st3 hQ3
    subst l3 y3 z3
    rw [h_fp] at hQ3; obtain ⟨rfl, N3, e3⟩ := hQ3
    obtain ⟨_, _, ⟨T4, L4, k4, n4⟩, -, X4, ⟨Lc4, hQ4, l4, y4, z4⟩, st4⟩ := Jvm.LawKit.callS X3 hx (y := (⟨"com/example/driftgauge/driftgauge/PairCountsAdjustedRandPinLaw", "count", "(JIII)J"⟩ : MethodName)) hown (mvT hZ (hw _ (List.mem_of_getElem? (i := 0) rfl))) (mvT hZ (hw _ (List.mem_of_getElem? (i := 1) rfl))) (mvT hZ (hw _ (List.mem_of_getElem? (i := 2) rfl))) (mvT hZ (hw _ (List.mem_of_getElem? (i := 3) rfl))) (by decide) (backOf (W := 0) (rmCnt l Z a0 hw [] xd k (3 : Int32) sh h0 n0 Z0) hZ (hw _ (List.mem_of_getElem? (i := 3) rfl)) (hw _ (List.mem_of_getElem? (i := 2) rfl)) (by decide) (by decide)) (g := (mkF m 50 #[.val (.long xa), .second, .val (.long xb), .second, .val (.long xc), .second, .val (.long xd), .second, .val (.int k), .val (.int sh), .val (.long tp), .second, .val (.long fn), .second, .val (.long fp), .second, .unset, .unset, .unset, .unset, .unset, .unset, .unset, .unset, .unset, .unset, .unset, .unset, .unset, .unset, .unset, .unset, .unset] [(.int sh), (.int (3 : Int32)), (.int k), (.long xd)])) rfl (by rw [hml]; rfl) (argsL := [(.long xd), (.int k), (.int (3 : Int32)), (.int sh)]) (rest := []) (lenOf pd_1 rfl) rfl (by show 2 * 0 + _ ≤ _; exact Nat.le_of_eq rfl) (hb hby at_50) (fun _ _ => ⟨rfl, e3, (by decide : 0 + 0 ≤ _), (by decide : 0 + 0 ≤ _)⟩)
    dsimp only [Pt.U, Pt.locs, Pt.cells, Pt.slots] at X4 l4 y4 z4 st4 hQ4
    subst l4 y4 z4
    rw [h_tn] at hQ4; obtain ⟨rfl, N4, e4⟩ := hQ4
    obtain ⟨T5, h5, X5, e5, E5, A5, D5, -, st5⟩ := newO X4 hx hZ hown (hw _ (List.mem_of_getElem? (i := 5) rfl)) (hw _ (List.mem_of_getElem? (i := 6) rfl)) (hw _ (List.mem_of_getElem? (i := 7) rfl)) e4 (g := (mkF m 55 #[.val (.long xa), .second, .val (.long xb), .second, .val (.long xc), .second, .val (.long xd), .second, .val (.int k), .val (.int sh), .val (.long tp), .second, .val (.long fn), .second, .val (.long fp), .second, .val (.long tn), .second, .unset, .unset, .unset, .unset, .unset, .unset, .unset, .unset, .unset, .unset, .unset, .unset, .unset, .unset, .unset] [])) rfl (hb hby at_55) (by decide) (by decide)
    obtain ⟨a5, g5⟩ : ∃ z, z = h0.size := ⟨_, rfl⟩
    rw [← g5] at A5 D5 st5
    have D_0 := D5 (Or.inr (hw _ (List.mem_of_getElem? (i := 20) rfl))) (ty := .long) (by decide)
    have D_1 := D5 (Or.inr (hw _ (List.mem_of_getElem? (i := 22) rfl))) (ty := .long) (by decide)
    have D_2 := D5 (Or.inr (hw _ (List.mem_of_getElem? (i := 24) rfl))) (ty := .long) (by decide)
    have D_3 := D5 (Or.inr (hw _ (List.mem_of_getElem? (i := 26) rfl))) (ty := .long) (by decide)
    have Z5 : n0 ≤ h5.size := Nat.le_trans Z0 E5.1
    have ga : n0 ≤ a5 := Nat.le_trans Z0 (Nat.le_of_eq g5.symm)
    obtain ⟨_, _, ⟨T6, L6, k6, n6⟩, -, X6, ⟨Lc6, hQ6, l6, y6, z6⟩, st6⟩ := X5.specialBack hx (y := (⟨"com/example/driftgauge/driftgauge/PairCounts", "<init>", "(JJJJ)V"⟩ : MethodName)) rfl hown (mvT hZ (hw _ (List.mem_of_getElem? (i := 8) rfl))) (mvT hZ (hw _ (List.mem_of_getElem? (i := 9) rfl))) (mvT hZ (hw _ (List.mem_of_getElem? (i := 10) rfl))) (by decide) (backOf (W := 1) (rmInit l Z a0 hw [] a5 tp fn fp tn h5 n0 Z5 A5 ga D_0 D_1 D_2 D_3) hZ (hw _ (List.mem_of_getElem? (i := 10) rfl)) (hw _ (List.mem_of_getElem? (i := 7) rfl)) (by decide) (by decide)) (g := (mkF m 67 #[.val (.long xa), .second, .val (.long xb), .second, .val (.long xc), .second, .val (.long xd), .second, .val (.int k), .val (.int sh), .val (.long tp), .second, .val (.long fn), .second, .val (.long fp), .second, .val (.long tn), .second, .unset, .unset, .unset, .unset, .unset, .unset, .unset, .unset, .unset, .unset, .unset, .unset, .unset, .unset, .unset] [(.long tn), (.long fp), (.long fn), (.long tp), (.ref a5), (.ref a5)])) rfl (by rw [hml]; rfl) (Steps.refl _) (a := a5) (argsL := [(.long tp), (.long fn), (.long fp), (.long tn)]) (rest := [(.ref a5)]) (lenOf pd_2 rfl) rfl (by show 2 * 0 + _ ≤ _; exact Nat.le_of_eq rfl) (hb hby at_67) (fun _ _ => ⟨rfl, e5, (by decide : 1 + 0 ≤ _), (by decide : 4 + 0 ≤ _)⟩)
    dsimp only [Pt.U, Pt.locs, Pt.cells, Pt.slots] at X6 l6 y6 z6 st6 hQ6
    subst l6 y6 z6
    obtain ⟨rfl, N6, K6, E6, H0, H1, H2, H3⟩ := hQ6
    have Z6 : n0 ≤ T6.heap.size := Nat.le_trans Z5 K6.1
    obtain ⟨cq7, kq7, q7a, q7b, q7c⟩ := isOf hZ rfl E6
    obtain ⟨_, _, ⟨T7, L7, k7, n7⟩, -, X7, ⟨Lc7, hQ7, l7, y7, z7⟩, st7⟩ := X6.virtualBack hx (y := (⟨"com/example/driftgauge/driftgauge/PairCounts", "adjustedRand", "()D"⟩ : MethodName)) (z := (⟨"com/example/driftgauge/driftgauge/PairCounts", "adjustedRand", "()D"⟩ : MethodName)) hown (mvT hZ (hw _ (List.mem_of_getElem? (i := 27) rfl))) (mvT hZ (hw _ (List.mem_of_getElem? (i := 28) rfl))) (notFace_of_selects (args := #[]) (mvT hZ (hw _ (List.mem_of_getElem? (i := 30) rfl)))) (mvT hZ (hw _ (List.mem_of_getElem? (i := 30) rfl))) (mvT hZ (hw _ (List.mem_of_getElem? (i := 29) rfl))) (by decide) (backOf (W := 0) (rmAdj l Z a0 hw [] a5 T6.heap n0 Z6 tp fn fp tn (FP.ddiv (own_num tp fn fp tn) (own_den tp fn fp tn)) H0 H1 H2 H3 (Or.inr (Or.inl ⟨c1, c2, rfl⟩)) ok (fun q => Jvm.Own.nn (both q).2.1)) hZ (hw _ (List.mem_of_getElem? (i := 31) rfl)) (hw _ (List.mem_of_getElem? (i := 7) rfl)) (by decide) (by decide)) q7a q7c (g := (mkF m 74 #[.val (.long xa), .second, .val (.long xb), .second, .val (.long xc), .second, .val (.long xd), .second, .val (.int k), .val (.int sh), .val (.long tp), .second, .val (.long fn), .second, .val (.long fp), .second, .val (.long tn), .second, .val (.ref a5), .unset, .unset, .unset, .unset, .unset, .unset, .unset, .unset, .unset, .unset, .unset, .unset, .unset, .unset] [(.ref a5)])) rfl (by rw [hml]; rfl) (Steps.refl _) (argsL := []) (rest := []) (lenOf pd_3 rfl) rfl (by show 2 * 0 + _ ≤ _; exact Nat.le_of_eq rfl) (hb hby at_74) (fun _ _ => ⟨rfl, rfl, (by decide : 1 + 0 ≤ _), (by decide : 4 + 0 ≤ _)⟩)
    dsimp only [Pt.U, Pt.locs, Pt.cells, Pt.slots] at X7 l7 y7 z7 st7 hQ7
    subst l7 y7 z7
    obtain ⟨rfl, N7, e7⟩ := hQ7
    obtain ⟨fs, hr, hrun, hended, hW, hsame⟩ := X7.leave (v := some (.int (1 : Int32))) (fun h => by rw [Bd.returns] at h; cases h)
    refine ⟨_, _, pre0 _ ?_, hrun, hended, _, _, rfl, ?_, ⟨_, rfl⟩, hW, hsame.mono (by decide) (by decide)⟩
    · show Steps p.tables e below (s₁.setTop (mkF m 0 #[.val (.long xa), .second, .val (.long xb), .second, .val (.long xc), .second, .val (.long xd), .second, .val (.int k), .unset, .unset, .unset, .unset, .unset, .unset, .unset, .unset, .unset, .unset, .unset, .unset, .unset, .unset, .unset, .unset, .unset, .unset, .unset, .unset, .unset, .unset, .unset, .unset] [])) _
      refine XS.iload X0.here hx rfl (hb hby at_0) rfl ?_
      show Steps p.tables e below (s₁.setTop (mkF m 2 #[.val (.long xa), .second, .val (.long xb), .second, .val (.long xc), .second, .val (.long xd), .second, .val (.int k), .unset, .unset, .unset, .unset, .unset, .unset, .unset, .unset, .unset, .unset, .unset, .unset, .unset, .unset, .unset, .unset, .unset, .unset, .unset, .unset, .unset, .unset, .unset, .unset] [(.int k)])) _
      refine XS.iconst X0.here hx rfl (hb hby at_2) ?_
      show Steps p.tables e below (s₁.setTop (mkF m 3 #[.val (.long xa), .second, .val (.long xb), .second, .val (.long xc), .second, .val (.long xd), .second, .val (.int k), .unset, .unset, .unset, .unset, .unset, .unset, .unset, .unset, .unset, .unset, .unset, .unset, .unset, .unset, .unset, .unset, .unset, .unset, .unset, .unset, .unset, .unset, .unset, .unset] [(.int (4 : Int32)), (.int k)])) _
      refine XS.iushr X0.here hx rfl (hb hby at_3) rfl ?_
      show Steps p.tables e below (s₁.setTop (mkF m 4 #[.val (.long xa), .second, .val (.long xb), .second, .val (.long xc), .second, .val (.long xd), .second, .val (.int k), .unset, .unset, .unset, .unset, .unset, .unset, .unset, .unset, .unset, .unset, .unset, .unset, .unset, .unset, .unset, .unset, .unset, .unset, .unset, .unset, .unset, .unset, .unset, .unset] [(.int ((k.toUInt32 >>> ((4 : Int32) &&& 31).toUInt32).toInt32))])) _
      refine XS.bipush X0.here hx rfl (hb hby at_4) ?_
      show Steps p.tables e below (s₁.setTop (mkF m 6 #[.val (.long xa), .second, .val (.long xb), .second, .val (.long xc), .second, .val (.long xd), .second, .val (.int k), .unset, .unset, .unset, .unset, .unset, .unset, .unset, .unset, .unset, .unset, .unset, .unset, .unset, .unset, .unset, .unset, .unset, .unset, .unset, .unset, .unset, .unset, .unset, .unset] [(.int (31 : Int32)), (.int ((k.toUInt32 >>> ((4 : Int32) &&& 31).toUInt32).toInt32))])) _
      refine XS.iand X0.here hx rfl (hb hby at_6) rfl ?_
      rw [hsh]
      show Steps p.tables e below (s₁.setTop (mkF m 7 #[.val (.long xa), .second, .val (.long xb), .second, .val (.long xc), .second, .val (.long xd), .second, .val (.int k), .unset, .unset, .unset, .unset, .unset, .unset, .unset, .unset, .unset, .unset, .unset, .unset, .unset, .unset, .unset, .unset, .unset, .unset, .unset, .unset, .unset, .unset, .unset, .unset] [(.int sh)])) _
      refine XS.istore X0.here hx rfl (hb hby at_7) rfl (l' := #[.val (.long xa), .second, .val (.long xb), .second, .val (.long xc), .second, .val (.long xd), .second, .val (.int k), .val (.int sh), .unset, .unset, .unset, .unset, .unset, .unset, .unset, .unset, .unset, .unset, .unset, .unset, .unset, .unset, .unset, .unset, .unset, .unset, .unset, .unset, .unset, .unset, .unset]) rfl ?_
      show Steps p.tables e below (s₁.setTop (mkF m 9 #[.val (.long xa), .second, .val (.long xb), .second, .val (.long xc), .second, .val (.long xd), .second, .val (.int k), .val (.int sh), .unset, .unset, .unset, .unset, .unset, .unset, .unset, .unset, .unset, .unset, .unset, .unset, .unset, .unset, .unset, .unset, .unset, .unset, .unset, .unset, .unset, .unset, .unset] [])) _
      refine XS.lloadN X0.here hx rfl (hb hby at_9) rfl ?_
      show Steps p.tables e below (s₁.setTop (mkF m 10 #[.val (.long xa), .second, .val (.long xb), .second, .val (.long xc), .second, .val (.long xd), .second, .val (.int k), .val (.int sh), .unset, .unset, .unset, .unset, .unset, .unset, .unset, .unset, .unset, .unset, .unset, .unset, .unset, .unset, .unset, .unset, .unset, .unset, .unset, .unset, .unset, .unset, .unset] [(.long xa)])) _
      refine XS.iload X0.here hx rfl (hb hby at_10) rfl ?_
      show Steps p.tables e below (s₁.setTop (mkF m 12 #[.val (.long xa), .second, .val (.long xb), .second, .val (.long xc), .second, .val (.long xd), .second, .val (.int k), .val (.int sh), .unset, .unset, .unset, .unset, .unset, .unset, .unset, .unset, .unset, .unset, .unset, .unset, .unset, .unset, .unset, .unset, .unset, .unset, .unset, .unset, .unset, .unset, .unset] [(.int k), (.long xa)])) _
      refine XS.iconst X0.here hx rfl (hb hby at_12) ?_
      show Steps p.tables e below (s₁.setTop (mkF m 13 #[.val (.long xa), .second, .val (.long xb), .second, .val (.long xc), .second, .val (.long xd), .second, .val (.int k), .val (.int sh), .unset, .unset, .unset, .unset, .unset, .unset, .unset, .unset, .unset, .unset, .unset, .unset, .unset, .unset, .unset, .unset, .unset, .unset, .unset, .unset, .unset, .unset, .unset] [(.int (0 : Int32)), (.int k), (.long xa)])) _
      refine XS.iload X0.here hx rfl (hb hby at_13) rfl ?_
      show Steps p.tables e below (s₁.setTop (mkF m 15 #[.val (.long xa), .second, .val (.long xb), .second, .val (.long xc), .second, .val (.long xd), .second, .val (.int k), .val (.int sh), .unset, .unset, .unset, .unset, .unset, .unset, .unset, .unset, .unset, .unset, .unset, .unset, .unset, .unset, .unset, .unset, .unset, .unset, .unset, .unset, .unset, .unset, .unset] [(.int sh), (.int (0 : Int32)), (.int k), (.long xa)])) _
      refine st1 _ ?_
      show Steps p.tables e below (T1.setTop (mkF m 18 #[.val (.long xa), .second, .val (.long xb), .second, .val (.long xc), .second, .val (.long xd), .second, .val (.int k), .val (.int sh), .unset, .unset, .unset, .unset, .unset, .unset, .unset, .unset, .unset, .unset, .unset, .unset, .unset, .unset, .unset, .unset, .unset, .unset, .unset, .unset, .unset, .unset, .unset] [(.long tp)])) _
      refine XS.lstore X1.here hx rfl (hb hby at_18) rfl (l' := #[.val (.long xa), .second, .val (.long xb), .second, .val (.long xc), .second, .val (.long xd), .second, .val (.int k), .val (.int sh), .val (.long tp), .second, .unset, .unset, .unset, .unset, .unset, .unset, .unset, .unset, .unset, .unset, .unset, .unset, .unset, .unset, .unset, .unset, .unset, .unset, .unset, .unset, .unset]) rfl ?_
      show Steps p.tables e below (T1.setTop (mkF m 20 #[.val (.long xa), .second, .val (.long xb), .second, .val (.long xc), .second, .val (.long xd), .second, .val (.int k), .val (.int sh), .val (.long tp), .second, .unset, .unset, .unset, .unset, .unset, .unset, .unset, .unset, .unset, .unset, .unset, .unset, .unset, .unset, .unset, .unset, .unset, .unset, .unset, .unset, .unset] [])) _
      refine XS.lloadN X1.here hx rfl (hb hby at_20) rfl ?_
      show Steps p.tables e below (T1.setTop (mkF m 21 #[.val (.long xa), .second, .val (.long xb), .second, .val (.long xc), .second, .val (.long xd), .second, .val (.int k), .val (.int sh), .val (.long tp), .second, .unset, .unset, .unset, .unset, .unset, .unset, .unset, .unset, .unset, .unset, .unset, .unset, .unset, .unset, .unset, .unset, .unset, .unset, .unset, .unset, .unset] [(.long xb)])) _
      refine XS.iload X1.here hx rfl (hb hby at_21) rfl ?_
      show Steps p.tables e below (T1.setTop (mkF m 23 #[.val (.long xa), .second, .val (.long xb), .second, .val (.long xc), .second, .val (.long xd), .second, .val (.int k), .val (.int sh), .val (.long tp), .second, .unset, .unset, .unset, .unset, .unset, .unset, .unset, .unset, .unset, .unset, .unset, .unset, .unset, .unset, .unset, .unset, .unset, .unset, .unset, .unset, .unset] [(.int k), (.long xb)])) _
      refine XS.iconst X1.here hx rfl (hb hby at_23) ?_
      show Steps p.tables e below (T1.setTop (mkF m 24 #[.val (.long xa), .second, .val (.long xb), .second, .val (.long xc), .second, .val (.long xd), .second, .val (.int k), .val (.int sh), .val (.long tp), .second, .unset, .unset, .unset, .unset, .unset, .unset, .unset, .unset, .unset, .unset, .unset, .unset, .unset, .unset, .unset, .unset, .unset, .unset, .unset, .unset, .unset] [(.int (1 : Int32)), (.int k), (.long xb)])) _
      refine XS.iload X1.here hx rfl (hb hby at_24) rfl ?_
      show Steps p.tables e below (T1.setTop (mkF m 26 #[.val (.long xa), .second, .val (.long xb), .second, .val (.long xc), .second, .val (.long xd), .second, .val (.int k), .val (.int sh), .val (.long tp), .second, .unset, .unset, .unset, .unset, .unset, .unset, .unset, .unset, .unset, .unset, .unset, .unset, .unset, .unset, .unset, .unset, .unset, .unset, .unset, .unset, .unset] [(.int sh), (.int (1 : Int32)), (.int k), (.long xb)])) _
      refine st2 _ ?_
      show Steps p.tables e below (T2.setTop (mkF m 29 #[.val (.long xa), .second, .val (.long xb), .second, .val (.long xc), .second, .val (.long xd), .second, .val (.int k), .val (.int sh), .val (.long tp), .second, .unset, .unset, .unset, .unset, .unset, .unset, .unset, .unset, .unset, .unset, .unset, .unset, .unset, .unset, .unset, .unset, .unset, .unset, .unset, .unset, .unset] [(.long fn)])) _
      refine XS.lstore X2.here hx rfl (hb hby at_29) rfl (l' := #[.val (.long xa), .second, .val (.long xb), .second, .val (.long xc), .second, .val (.long xd), .second, .val (.int k), .val (.int sh), .val (.long tp), .second, .val (.long fn), .second, .unset, .unset, .unset, .unset, .unset, .unset, .unset, .unset, .unset, .unset, .unset, .unset, .unset, .unset, .unset, .unset, .unset, .unset, .unset]) rfl ?_
      show Steps p.tables e below (T2.setTop (mkF m 31 #[.val (.long xa), .second, .val (.long xb), .second, .val (.long xc), .second, .val (.long xd), .second, .val (.int k), .val (.int sh), .val (.long tp), .second, .val (.long fn), .second, .unset, .unset, .unset, .unset, .unset, .unset, .unset, .unset, .unset, .unset, .unset, .unset, .unset, .unset, .unset, .unset, .unset, .unset, .unset] [])) _
      refine XS.lload X2.here hx rfl (hb hby at_31) rfl ?_
      show Steps p.tables e below (T2.setTop (mkF m 33 #[.val (.long xa), .second, .val (.long xb), .second, .val (.long xc), .second, .val (.long xd), .second, .val (.int k), .val (.int sh), .val (.long tp), .second, .val (.long fn), .second, .unset, .unset, .unset, .unset, .unset, .unset, .unset, .unset, .unset, .unset, .unset, .unset, .unset, .unset, .unset, .unset, .unset, .unset, .unset] [(.long xc)])) _
      refine XS.iload X2.here hx rfl (hb hby at_33) rfl ?_
      show Steps p.tables e below (T2.setTop (mkF m 35 #[.val (.long xa), .second, .val (.long xb), .second, .val (.long xc), .second, .val (.long xd), .second, .val (.int k), .val (.int sh), .val (.long tp), .second, .val (.long fn), .second, .unset, .unset, .unset, .unset, .unset, .unset, .unset, .unset, .unset, .unset, .unset, .unset, .unset, .unset, .unset, .unset, .unset, .unset, .unset] [(.int k), (.long xc)])) _
      refine XS.iconst X2.here hx rfl (hb hby at_35) ?_
      show Steps p.tables e below (T2.setTop (mkF m 36 #[.val (.long xa), .second, .val (.long xb), .second, .val (.long xc), .second, .val (.long xd), .second, .val (.int k), .val (.int sh), .val (.long tp), .second, .val (.long fn), .second, .unset, .unset, .unset, .unset, .unset, .unset, .unset, .unset, .unset, .unset, .unset, .unset, .unset, .unset, .unset, .unset, .unset, .unset, .unset] [(.int (2 : Int32)), (.int k), (.long xc)])) _
      refine XS.iload X2.here hx rfl (hb hby at_36) rfl ?_
      show Steps p.tables e below (T2.setTop (mkF m 38 #[.val (.long xa), .second, .val (.long xb), .second, .val (.long xc), .second, .val (.long xd), .second, .val (.int k), .val (.int sh), .val (.long tp), .second, .val (.long fn), .second, .unset, .unset, .unset, .unset, .unset, .unset, .unset, .unset, .unset, .unset, .unset, .unset, .unset, .unset, .unset, .unset, .unset, .unset, .unset] [(.int sh), (.int (2 : Int32)), (.int k), (.long xc)])) _
      refine st3 _ ?_
      show Steps p.tables e below (T3.setTop (mkF m 41 #[.val (.long xa), .second, .val (.long xb), .second, .val (.long xc), .second, .val (.long xd), .second, .val (.int k), .val (.int sh), .val (.long tp), .second, .val (.long fn), .second, .unset, .unset, .unset, .unset, .unset, .unset, .unset, .unset, .unset, .unset, .unset, .unset, .unset, .unset, .unset, .unset, .unset, .unset, .unset] [(.long fp)])) _
      refine XS.lstore X3.here hx rfl (hb hby at_41) rfl (l' := #[.val (.long xa), .second, .val (.long xb), .second, .val (.long xc), .second, .val (.long xd), .second, .val (.int k), .val (.int sh), .val (.long tp), .second, .val (.long fn), .second, .val (.long fp), .second, .unset, .unset, .unset, .unset, .unset, .unset, .unset, .unset, .unset, .unset, .unset, .unset, .unset, .unset, .unset, .unset, .unset]) rfl ?_
      show Steps p.tables e below (T3.setTop (mkF m 43 #[.val (.long xa), .second, .val (.long xb), .second, .val (.long xc), .second, .val (.long xd), .second, .val (.int k), .val (.int sh), .val (.long tp), .second, .val (.long fn), .second, .val (.long fp), .second, .unset, .unset, .unset, .unset, .unset, .unset, .unset, .unset, .unset, .unset, .unset, .unset, .unset, .unset, .unset, .unset, .unset] [])) _
      refine XS.lload X3.here hx rfl (hb hby at_43) rfl ?_
      show Steps p.tables e below (T3.setTop (mkF m 45 #[.val (.long xa), .second, .val (.long xb), .second, .val (.long xc), .second, .val (.long xd), .second, .val (.int k), .val (.int sh), .val (.long tp), .second, .val (.long fn), .second, .val (.long fp), .second, .unset, .unset, .unset, .unset, .unset, .unset, .unset, .unset, .unset, .unset, .unset, .unset, .unset, .unset, .unset, .unset, .unset] [(.long xd)])) _
      refine XS.iload X3.here hx rfl (hb hby at_45) rfl ?_
      show Steps p.tables e below (T3.setTop (mkF m 47 #[.val (.long xa), .second, .val (.long xb), .second, .val (.long xc), .second, .val (.long xd), .second, .val (.int k), .val (.int sh), .val (.long tp), .second, .val (.long fn), .second, .val (.long fp), .second, .unset, .unset, .unset, .unset, .unset, .unset, .unset, .unset, .unset, .unset, .unset, .unset, .unset, .unset, .unset, .unset, .unset] [(.int k), (.long xd)])) _
      refine XS.iconst X3.here hx rfl (hb hby at_47) ?_
      show Steps p.tables e below (T3.setTop (mkF m 48 #[.val (.long xa), .second, .val (.long xb), .second, .val (.long xc), .second, .val (.long xd), .second, .val (.int k), .val (.int sh), .val (.long tp), .second, .val (.long fn), .second, .val (.long fp), .second, .unset, .unset, .unset, .unset, .unset, .unset, .unset, .unset, .unset, .unset, .unset, .unset, .unset, .unset, .unset, .unset, .unset] [(.int (3 : Int32)), (.int k), (.long xd)])) _
      refine XS.iload X3.here hx rfl (hb hby at_48) rfl ?_
      show Steps p.tables e below (T3.setTop (mkF m 50 #[.val (.long xa), .second, .val (.long xb), .second, .val (.long xc), .second, .val (.long xd), .second, .val (.int k), .val (.int sh), .val (.long tp), .second, .val (.long fn), .second, .val (.long fp), .second, .unset, .unset, .unset, .unset, .unset, .unset, .unset, .unset, .unset, .unset, .unset, .unset, .unset, .unset, .unset, .unset, .unset] [(.int sh), (.int (3 : Int32)), (.int k), (.long xd)])) _
      refine st4 _ ?_
      show Steps p.tables e below (T4.setTop (mkF m 53 #[.val (.long xa), .second, .val (.long xb), .second, .val (.long xc), .second, .val (.long xd), .second, .val (.int k), .val (.int sh), .val (.long tp), .second, .val (.long fn), .second, .val (.long fp), .second, .unset, .unset, .unset, .unset, .unset, .unset, .unset, .unset, .unset, .unset, .unset, .unset, .unset, .unset, .unset, .unset, .unset] [(.long tn)])) _
      refine XS.lstore X4.here hx rfl (hb hby at_53) rfl (l' := #[.val (.long xa), .second, .val (.long xb), .second, .val (.long xc), .second, .val (.long xd), .second, .val (.int k), .val (.int sh), .val (.long tp), .second, .val (.long fn), .second, .val (.long fp), .second, .val (.long tn), .second, .unset, .unset, .unset, .unset, .unset, .unset, .unset, .unset, .unset, .unset, .unset, .unset, .unset, .unset, .unset]) rfl ?_
      show Steps p.tables e below (T4.setTop (mkF m 55 #[.val (.long xa), .second, .val (.long xb), .second, .val (.long xc), .second, .val (.long xd), .second, .val (.int k), .val (.int sh), .val (.long tp), .second, .val (.long fn), .second, .val (.long fp), .second, .val (.long tn), .second, .unset, .unset, .unset, .unset, .unset, .unset, .unset, .unset, .unset, .unset, .unset, .unset, .unset, .unset, .unset] [])) _
      refine st5 _ ?_
      show Steps p.tables e below (T5.setTop (mkF m 58 #[.val (.long xa), .second, .val (.long xb), .second, .val (.long xc), .second, .val (.long xd), .second, .val (.int k), .val (.int sh), .val (.long tp), .second, .val (.long fn), .second, .val (.long fp), .second, .val (.long tn), .second, .unset, .unset, .unset, .unset, .unset, .unset, .unset, .unset, .unset, .unset, .unset, .unset, .unset, .unset, .unset] [(.ref a5)])) _
      refine XS.dup X5.here hx rfl (hb hby at_58) rfl rfl ?_
      show Steps p.tables e below (T5.setTop (mkF m 59 #[.val (.long xa), .second, .val (.long xb), .second, .val (.long xc), .second, .val (.long xd), .second, .val (.int k), .val (.int sh), .val (.long tp), .second, .val (.long fn), .second, .val (.long fp), .second, .val (.long tn), .second, .unset, .unset, .unset, .unset, .unset, .unset, .unset, .unset, .unset, .unset, .unset, .unset, .unset, .unset, .unset] [(.ref a5), (.ref a5)])) _
      refine XS.lload X5.here hx rfl (hb hby at_59) rfl ?_
      show Steps p.tables e below (T5.setTop (mkF m 61 #[.val (.long xa), .second, .val (.long xb), .second, .val (.long xc), .second, .val (.long xd), .second, .val (.int k), .val (.int sh), .val (.long tp), .second, .val (.long fn), .second, .val (.long fp), .second, .val (.long tn), .second, .unset, .unset, .unset, .unset, .unset, .unset, .unset, .unset, .unset, .unset, .unset, .unset, .unset, .unset, .unset] [(.long tp), (.ref a5), (.ref a5)])) _
      refine XS.lload X5.here hx rfl (hb hby at_61) rfl ?_
      show Steps p.tables e below (T5.setTop (mkF m 63 #[.val (.long xa), .second, .val (.long xb), .second, .val (.long xc), .second, .val (.long xd), .second, .val (.int k), .val (.int sh), .val (.long tp), .second, .val (.long fn), .second, .val (.long fp), .second, .val (.long tn), .second, .unset, .unset, .unset, .unset, .unset, .unset, .unset, .unset, .unset, .unset, .unset, .unset, .unset, .unset, .unset] [(.long fn), (.long tp), (.ref a5), (.ref a5)])) _
      refine XS.lload X5.here hx rfl (hb hby at_63) rfl ?_
      show Steps p.tables e below (T5.setTop (mkF m 65 #[.val (.long xa), .second, .val (.long xb), .second, .val (.long xc), .second, .val (.long xd), .second, .val (.int k), .val (.int sh), .val (.long tp), .second, .val (.long fn), .second, .val (.long fp), .second, .val (.long tn), .second, .unset, .unset, .unset, .unset, .unset, .unset, .unset, .unset, .unset, .unset, .unset, .unset, .unset, .unset, .unset] [(.long fp), (.long fn), (.long tp), (.ref a5), (.ref a5)])) _
      refine XS.lload X5.here hx rfl (hb hby at_65) rfl ?_
      show Steps p.tables e below (T5.setTop (mkF m 67 #[.val (.long xa), .second, .val (.long xb), .second, .val (.long xc), .second, .val (.long xd), .second, .val (.int k), .val (.int sh), .val (.long tp), .second, .val (.long fn), .second, .val (.long fp), .second, .val (.long tn), .second, .unset, .unset, .unset, .unset, .unset, .unset, .unset, .unset, .unset, .unset, .unset, .unset, .unset, .unset, .unset] [(.long tn), (.long fp), (.long fn), (.long tp), (.ref a5), (.ref a5)])) _
      refine st6.trans ?_
      show Steps p.tables e below (T6.setTop (mkF m 70 #[.val (.long xa), .second, .val (.long xb), .second, .val (.long xc), .second, .val (.long xd), .second, .val (.int k), .val (.int sh), .val (.long tp), .second, .val (.long fn), .second, .val (.long fp), .second, .val (.long tn), .second, .unset, .unset, .unset, .unset, .unset, .unset, .unset, .unset, .unset, .unset, .unset, .unset, .unset, .unset, .unset] [(.ref a5)])) _
      refine XS.astore X6.here hx rfl (hb hby at_70) rfl rfl (l' := #[.val (.long xa), .second, .val (.long xb), .second, .val (.long xc), .second, .val (.long xd), .second, .val (.int k), .val (.int sh), .val (.long tp), .second, .val (.long fn), .second, .val (.long fp), .second, .val (.long tn), .second, .val (.ref a5), .unset, .unset, .unset, .unset, .unset, .unset, .unset, .unset, .unset, .unset, .unset, .unset, .unset, .unset]) rfl ?_
      show Steps p.tables e below (T6.setTop (mkF m 72 #[.val (.long xa), .second, .val (.long xb), .second, .val (.long xc), .second, .val (.long xd), .second, .val (.int k), .val (.int sh), .val (.long tp), .second, .val (.long fn), .second, .val (.long fp), .second, .val (.long tn), .second, .val (.ref a5), .unset, .unset, .unset, .unset, .unset, .unset, .unset, .unset, .unset, .unset, .unset, .unset, .unset, .unset] [])) _
      refine XS.aload X6.here hx rfl (hb hby at_72) rfl rfl ?_
      show Steps p.tables e below (T6.setTop (mkF m 74 #[.val (.long xa), .second, .val (.long xb), .second, .val (.long xc), .second, .val (.long xd), .second, .val (.int k), .val (.int sh), .val (.long tp), .second, .val (.long fn), .second, .val (.long fp), .second, .val (.long tn), .second, .val (.ref a5), .unset, .unset, .unset, .unset, .unset, .unset, .unset, .unset, .unset, .unset, .unset, .unset, .unset, .unset] [(.ref a5)])) _
      refine st7.trans ?_
      show Steps p.tables e below (T7.setTop (mkF m 77 #[.val (.long xa), .second, .val (.long xb), .second, .val (.long xc), .second, .val (.long xd), .second, .val (.int k), .val (.int sh), .val (.long tp), .second, .val (.long fn), .second, .val (.long fp), .second, .val (.long tn), .second, .val (.ref a5), .unset, .unset, .unset, .unset, .unset, .unset, .unset, .unset, .unset, .unset, .unset, .unset, .unset, .unset] [(.double (FP.ddiv (own_num tp fn fp tn) (own_den tp fn fp tn)))])) _
      refine XS.dstore X7.here hx rfl (hb hby at_77) rfl (l' := #[.val (.long xa), .second, .val (.long xb), .second, .val (.long xc), .second, .val (.long xd), .second, .val (.int k), .val (.int sh), .val (.long tp), .second, .val (.long fn), .second, .val (.long fp), .second, .val (.long tn), .second, .val (.ref a5), .val (.double (FP.ddiv (own_num tp fn fp tn) (own_den tp fn fp tn))), .second, .unset, .unset, .unset, .unset, .unset, .unset, .unset, .unset, .unset, .unset, .unset, .unset]) rfl ?_
      show Steps p.tables e below (T7.setTop (mkF m 79 #[.val (.long xa), .second, .val (.long xb), .second, .val (.long xc), .second, .val (.long xd), .second, .val (.int k), .val (.int sh), .val (.long tp), .second, .val (.long fn), .second, .val (.long fp), .second, .val (.long tn), .second, .val (.ref a5), .val (.double (FP.ddiv (own_num tp fn fp tn) (own_den tp fn fp tn))), .second, .unset, .unset, .unset, .unset, .unset, .unset, .unset, .unset, .unset, .unset, .unset, .unset] [])) _
      refine XS.lload X7.here hx rfl (hb hby at_79) rfl ?_
      show Steps p.tables e below (T7.setTop (mkF m 81 #[.val (.long xa), .second, .val (.long xb), .second, .val (.long xc), .second, .val (.long xd), .second, .val (.int k), .val (.int sh), .val (.long tp), .second, .val (.long fn), .second, .val (.long fp), .second, .val (.long tn), .second, .val (.ref a5), .val (.double (FP.ddiv (own_num tp fn fp tn) (own_den tp fn fp tn))), .second, .unset, .unset, .unset, .unset, .unset, .unset, .unset, .unset, .unset, .unset, .unset, .unset] [(.long fn)])) _
      refine XS.lconst X7.here hx rfl (hb hby at_81) ?_
      show Steps p.tables e below (T7.setTop (mkF m 82 #[.val (.long xa), .second, .val (.long xb), .second, .val (.long xc), .second, .val (.long xd), .second, .val (.int k), .val (.int sh), .val (.long tp), .second, .val (.long fn), .second, .val (.long fp), .second, .val (.long tn), .second, .val (.ref a5), .val (.double (FP.ddiv (own_num tp fn fp tn) (own_den tp fn fp tn))), .second, .unset, .unset, .unset, .unset, .unset, .unset, .unset, .unset, .unset, .unset, .unset, .unset] [(.long (0 : Int64)), (.long fn)])) _
      refine XS.lcmp X7.here hx rfl (hb hby at_82) rfl ?_
      show Steps p.tables e below (T7.setTop (mkF m 83 #[.val (.long xa), .second, .val (.long xb), .second, .val (.long xc), .second, .val (.long xd), .second, .val (.int k), .val (.int sh), .val (.long tp), .second, .val (.long fn), .second, .val (.long fp), .second, .val (.long tn), .second, .val (.ref a5), .val (.double (FP.ddiv (own_num tp fn fp tn) (own_den tp fn fp tn))), .second, .unset, .unset, .unset, .unset, .unset, .unset, .unset, .unset, .unset, .unset, .unset, .unset] [(.int (lcmpW fn (0 : Int64)))])) _
      refine XS.ifNo X7.here hx rfl (hb hby at_83) rfl ((Jvm.Own.holdsL _ _ _).trans (Jvm.Own.dF (fun q => q c1))) ?_
      show Steps p.tables e below (T7.setTop (mkF m 86 #[.val (.long xa), .second, .val (.long xb), .second, .val (.long xc), .second, .val (.long xd), .second, .val (.int k), .val (.int sh), .val (.long tp), .second, .val (.long fn), .second, .val (.long fp), .second, .val (.long tn), .second, .val (.ref a5), .val (.double (FP.ddiv (own_num tp fn fp tn) (own_den tp fn fp tn))), .second, .unset, .unset, .unset, .unset, .unset, .unset, .unset, .unset, .unset, .unset, .unset, .unset] [])) _
      refine XS.lload X7.here hx rfl (hb hby at_86) rfl ?_
      show Steps p.tables e below (T7.setTop (mkF m 88 #[.val (.long xa), .second, .val (.long xb), .second, .val (.long xc), .second, .val (.long xd), .second, .val (.int k), .val (.int sh), .val (.long tp), .second, .val (.long fn), .second, .val (.long fp), .second, .val (.long tn), .second, .val (.ref a5), .val (.double (FP.ddiv (own_num tp fn fp tn) (own_den tp fn fp tn))), .second, .unset, .unset, .unset, .unset, .unset, .unset, .unset, .unset, .unset, .unset, .unset, .unset] [(.long fp)])) _
      refine XS.lconst X7.here hx rfl (hb hby at_88) ?_
      show Steps p.tables e below (T7.setTop (mkF m 89 #[.val (.long xa), .second, .val (.long xb), .second, .val (.long xc), .second, .val (.long xd), .second, .val (.int k), .val (.int sh), .val (.long tp), .second, .val (.long fn), .second, .val (.long fp), .second, .val (.long tn), .second, .val (.ref a5), .val (.double (FP.ddiv (own_num tp fn fp tn) (own_den tp fn fp tn))), .second, .unset, .unset, .unset, .unset, .unset, .unset, .unset, .unset, .unset, .unset, .unset, .unset] [(.long (0 : Int64)), (.long fp)])) _
      refine XS.lcmp X7.here hx rfl (hb hby at_89) rfl ?_
      show Steps p.tables e below (T7.setTop (mkF m 90 #[.val (.long xa), .second, .val (.long xb), .second, .val (.long xc), .second, .val (.long xd), .second, .val (.int k), .val (.int sh), .val (.long tp), .second, .val (.long fn), .second, .val (.long fp), .second, .val (.long tn), .second, .val (.ref a5), .val (.double (FP.ddiv (own_num tp fn fp tn) (own_den tp fn fp tn))), .second, .unset, .unset, .unset, .unset, .unset, .unset, .unset, .unset, .unset, .unset, .unset, .unset] [(.int (lcmpW fp (0 : Int64)))])) _
      refine XS.ifYes X7.here hx rfl (pc0 := 90) (pc' := 99) rfl (hb hby at_90) rfl ((Jvm.Own.holdsL _ _ _).trans (Jvm.Own.dT c2)) (by decide) (by decide) ?_
      show Steps p.tables e below (T7.setTop (mkF m 99 #[.val (.long xa), .second, .val (.long xb), .second, .val (.long xc), .second, .val (.long xd), .second, .val (.int k), .val (.int sh), .val (.long tp), .second, .val (.long fn), .second, .val (.long fp), .second, .val (.long tn), .second, .val (.ref a5), .val (.double (FP.ddiv (own_num tp fn fp tn) (own_den tp fn fp tn))), .second, .unset, .unset, .unset, .unset, .unset, .unset, .unset, .unset, .unset, .unset, .unset, .unset] [])) _
      refine XS.lload X7.here hx rfl (hb hby at_99) rfl ?_
      show Steps p.tables e below (T7.setTop (mkF m 101 #[.val (.long xa), .second, .val (.long xb), .second, .val (.long xc), .second, .val (.long xd), .second, .val (.int k), .val (.int sh), .val (.long tp), .second, .val (.long fn), .second, .val (.long fp), .second, .val (.long tn), .second, .val (.ref a5), .val (.double (FP.ddiv (own_num tp fn fp tn) (own_den tp fn fp tn))), .second, .unset, .unset, .unset, .unset, .unset, .unset, .unset, .unset, .unset, .unset, .unset, .unset] [(.long tp)])) _
      refine XS.lload X7.here hx rfl (hb hby at_101) rfl ?_
      show Steps p.tables e below (T7.setTop (mkF m 103 #[.val (.long xa), .second, .val (.long xb), .second, .val (.long xc), .second, .val (.long xd), .second, .val (.int k), .val (.int sh), .val (.long tp), .second, .val (.long fn), .second, .val (.long fp), .second, .val (.long tn), .second, .val (.ref a5), .val (.double (FP.ddiv (own_num tp fn fp tn) (own_den tp fn fp tn))), .second, .unset, .unset, .unset, .unset, .unset, .unset, .unset, .unset, .unset, .unset, .unset, .unset] [(.long fn), (.long tp)])) _
      refine XS.ladd X7.here hx rfl (hb hby at_103) rfl ?_
      show Steps p.tables e below (T7.setTop (mkF m 104 #[.val (.long xa), .second, .val (.long xb), .second, .val (.long xc), .second, .val (.long xd), .second, .val (.int k), .val (.int sh), .val (.long tp), .second, .val (.long fn), .second, .val (.long fp), .second, .val (.long tn), .second, .val (.ref a5), .val (.double (FP.ddiv (own_num tp fn fp tn) (own_den tp fn fp tn))), .second, .unset, .unset, .unset, .unset, .unset, .unset, .unset, .unset, .unset, .unset, .unset, .unset] [(.long (tp + fn))])) _
      refine XS.lload X7.here hx rfl (hb hby at_104) rfl ?_
      show Steps p.tables e below (T7.setTop (mkF m 106 #[.val (.long xa), .second, .val (.long xb), .second, .val (.long xc), .second, .val (.long xd), .second, .val (.int k), .val (.int sh), .val (.long tp), .second, .val (.long fn), .second, .val (.long fp), .second, .val (.long tn), .second, .val (.ref a5), .val (.double (FP.ddiv (own_num tp fn fp tn) (own_den tp fn fp tn))), .second, .unset, .unset, .unset, .unset, .unset, .unset, .unset, .unset, .unset, .unset, .unset, .unset] [(.long fp), (.long (tp + fn))])) _
      refine XS.ladd X7.here hx rfl (hb hby at_106) rfl ?_
      show Steps p.tables e below (T7.setTop (mkF m 107 #[.val (.long xa), .second, .val (.long xb), .second, .val (.long xc), .second, .val (.long xd), .second, .val (.int k), .val (.int sh), .val (.long tp), .second, .val (.long fn), .second, .val (.long fp), .second, .val (.long tn), .second, .val (.ref a5), .val (.double (FP.ddiv (own_num tp fn fp tn) (own_den tp fn fp tn))), .second, .unset, .unset, .unset, .unset, .unset, .unset, .unset, .unset, .unset, .unset, .unset, .unset] [(.long ((tp + fn) + fp))])) _
      refine XS.lload X7.here hx rfl (hb hby at_107) rfl ?_
      show Steps p.tables e below (T7.setTop (mkF m 109 #[.val (.long xa), .second, .val (.long xb), .second, .val (.long xc), .second, .val (.long xd), .second, .val (.int k), .val (.int sh), .val (.long tp), .second, .val (.long fn), .second, .val (.long fp), .second, .val (.long tn), .second, .val (.ref a5), .val (.double (FP.ddiv (own_num tp fn fp tn) (own_den tp fn fp tn))), .second, .unset, .unset, .unset, .unset, .unset, .unset, .unset, .unset, .unset, .unset, .unset, .unset] [(.long tn), (.long ((tp + fn) + fp))])) _
      refine XS.ladd X7.here hx rfl (hb hby at_109) rfl ?_
      rw [hall]
      show Steps p.tables e below (T7.setTop (mkF m 110 #[.val (.long xa), .second, .val (.long xb), .second, .val (.long xc), .second, .val (.long xd), .second, .val (.int k), .val (.int sh), .val (.long tp), .second, .val (.long fn), .second, .val (.long fp), .second, .val (.long tn), .second, .val (.ref a5), .val (.double (FP.ddiv (own_num tp fn fp tn) (own_den tp fn fp tn))), .second, .unset, .unset, .unset, .unset, .unset, .unset, .unset, .unset, .unset, .unset, .unset, .unset] [(.long all)])) _
      refine XS.lstore X7.here hx rfl (hb hby at_110) rfl (l' := #[.val (.long xa), .second, .val (.long xb), .second, .val (.long xc), .second, .val (.long xd), .second, .val (.int k), .val (.int sh), .val (.long tp), .second, .val (.long fn), .second, .val (.long fp), .second, .val (.long tn), .second, .val (.ref a5), .val (.double (FP.ddiv (own_num tp fn fp tn) (own_den tp fn fp tn))), .second, .unset, .unset, .val (.long all), .second, .unset, .unset, .unset, .unset, .unset, .unset, .unset, .unset]) rfl ?_
      show Steps p.tables e below (T7.setTop (mkF m 112 #[.val (.long xa), .second, .val (.long xb), .second, .val (.long xc), .second, .val (.long xd), .second, .val (.int k), .val (.int sh), .val (.long tp), .second, .val (.long fn), .second, .val (.long fp), .second, .val (.long tn), .second, .val (.ref a5), .val (.double (FP.ddiv (own_num tp fn fp tn) (own_den tp fn fp tn))), .second, .unset, .unset, .val (.long all), .second, .unset, .unset, .unset, .unset, .unset, .unset, .unset, .unset] [])) _
      refine XS.lload X7.here hx rfl (hb hby at_112) rfl ?_
      show Steps p.tables e below (T7.setTop (mkF m 114 #[.val (.long xa), .second, .val (.long xb), .second, .val (.long xc), .second, .val (.long xd), .second, .val (.int k), .val (.int sh), .val (.long tp), .second, .val (.long fn), .second, .val (.long fp), .second, .val (.long tn), .second, .val (.ref a5), .val (.double (FP.ddiv (own_num tp fn fp tn) (own_den tp fn fp tn))), .second, .unset, .unset, .val (.long all), .second, .unset, .unset, .unset, .unset, .unset, .unset, .unset, .unset] [(.long tp)])) _
      refine XS.lload X7.here hx rfl (hb hby at_114) rfl ?_
      show Steps p.tables e below (T7.setTop (mkF m 116 #[.val (.long xa), .second, .val (.long xb), .second, .val (.long xc), .second, .val (.long xd), .second, .val (.int k), .val (.int sh), .val (.long tp), .second, .val (.long fn), .second, .val (.long fp), .second, .val (.long tn), .second, .val (.ref a5), .val (.double (FP.ddiv (own_num tp fn fp tn) (own_den tp fn fp tn))), .second, .unset, .unset, .val (.long all), .second, .unset, .unset, .unset, .unset, .unset, .unset, .unset, .unset] [(.long fp), (.long tp)])) _
      refine XS.ladd X7.here hx rfl (hb hby at_116) rfl ?_
      rw [hsA]
      show Steps p.tables e below (T7.setTop (mkF m 117 #[.val (.long xa), .second, .val (.long xb), .second, .val (.long xc), .second, .val (.long xd), .second, .val (.int k), .val (.int sh), .val (.long tp), .second, .val (.long fn), .second, .val (.long fp), .second, .val (.long tn), .second, .val (.ref a5), .val (.double (FP.ddiv (own_num tp fn fp tn) (own_den tp fn fp tn))), .second, .unset, .unset, .val (.long all), .second, .unset, .unset, .unset, .unset, .unset, .unset, .unset, .unset] [(.long sA)])) _
      refine XS.lstore X7.here hx rfl (hb hby at_117) rfl (l' := #[.val (.long xa), .second, .val (.long xb), .second, .val (.long xc), .second, .val (.long xd), .second, .val (.int k), .val (.int sh), .val (.long tp), .second, .val (.long fn), .second, .val (.long fp), .second, .val (.long tn), .second, .val (.ref a5), .val (.double (FP.ddiv (own_num tp fn fp tn) (own_den tp fn fp tn))), .second, .unset, .unset, .val (.long all), .second, .val (.long sA), .second, .unset, .unset, .unset, .unset, .unset, .unset]) rfl ?_
      show Steps p.tables e below (T7.setTop (mkF m 119 #[.val (.long xa), .second, .val (.long xb), .second, .val (.long xc), .second, .val (.long xd), .second, .val (.int k), .val (.int sh), .val (.long tp), .second, .val (.long fn), .second, .val (.long fp), .second, .val (.long tn), .second, .val (.ref a5), .val (.double (FP.ddiv (own_num tp fn fp tn) (own_den tp fn fp tn))), .second, .unset, .unset, .val (.long all), .second, .val (.long sA), .second, .unset, .unset, .unset, .unset, .unset, .unset] [])) _
      refine XS.lload X7.here hx rfl (hb hby at_119) rfl ?_
      show Steps p.tables e below (T7.setTop (mkF m 121 #[.val (.long xa), .second, .val (.long xb), .second, .val (.long xc), .second, .val (.long xd), .second, .val (.int k), .val (.int sh), .val (.long tp), .second, .val (.long fn), .second, .val (.long fp), .second, .val (.long tn), .second, .val (.ref a5), .val (.double (FP.ddiv (own_num tp fn fp tn) (own_den tp fn fp tn))), .second, .unset, .unset, .val (.long all), .second, .val (.long sA), .second, .unset, .unset, .unset, .unset, .unset, .unset] [(.long tp)])) _
      refine XS.lload X7.here hx rfl (hb hby at_121) rfl ?_
      show Steps p.tables e below (T7.setTop (mkF m 123 #[.val (.long xa), .second, .val (.long xb), .second, .val (.long xc), .second, .val (.long xd), .second, .val (.int k), .val (.int sh), .val (.long tp), .second, .val (.long fn), .second, .val (.long fp), .second, .val (.long tn), .second, .val (.ref a5), .val (.double (FP.ddiv (own_num tp fn fp tn) (own_den tp fn fp tn))), .second, .unset, .unset, .val (.long all), .second, .val (.long sA), .second, .unset, .unset, .unset, .unset, .unset, .unset] [(.long fn), (.long tp)])) _
      refine XS.ladd X7.here hx rfl (hb hby at_123) rfl ?_
      rw [hsB]
      show Steps p.tables e below (T7.setTop (mkF m 124 #[.val (.long xa), .second, .val (.long xb), .second, .val (.long xc), .second, .val (.long xd), .second, .val (.int k), .val (.int sh), .val (.long tp), .second, .val (.long fn), .second, .val (.long fp), .second, .val (.long tn), .second, .val (.ref a5), .val (.double (FP.ddiv (own_num tp fn fp tn) (own_den tp fn fp tn))), .second, .unset, .unset, .val (.long all), .second, .val (.long sA), .second, .unset, .unset, .unset, .unset, .unset, .unset] [(.long sB)])) _
      refine XS.lstore X7.here hx rfl (hb hby at_124) rfl (l' := #[.val (.long xa), .second, .val (.long xb), .second, .val (.long xc), .second, .val (.long xd), .second, .val (.int k), .val (.int sh), .val (.long tp), .second, .val (.long fn), .second, .val (.long fp), .second, .val (.long tn), .second, .val (.ref a5), .val (.double (FP.ddiv (own_num tp fn fp tn) (own_den tp fn fp tn))), .second, .unset, .unset, .val (.long all), .second, .val (.long sA), .second, .val (.long sB), .second, .unset, .unset, .unset, .unset]) rfl ?_
      show Steps p.tables e below (T7.setTop (mkF m 126 #[.val (.long xa), .second, .val (.long xb), .second, .val (.long xc), .second, .val (.long xd), .second, .val (.int k), .val (.int sh), .val (.long tp), .second, .val (.long fn), .second, .val (.long fp), .second, .val (.long tn), .second, .val (.ref a5), .val (.double (FP.ddiv (own_num tp fn fp tn) (own_den tp fn fp tn))), .second, .unset, .unset, .val (.long all), .second, .val (.long sA), .second, .val (.long sB), .second, .unset, .unset, .unset, .unset] [])) _
      refine X7.ldc2Long hx hown (mvT hZ (hw _ (List.mem_of_getElem? (i := 33) rfl))) (g := (mkF m 126 #[.val (.long xa), .second, .val (.long xb), .second, .val (.long xc), .second, .val (.long xd), .second, .val (.int k), .val (.int sh), .val (.long tp), .second, .val (.long fn), .second, .val (.long fp), .second, .val (.long tn), .second, .val (.ref a5), .val (.double (FP.ddiv (own_num tp fn fp tn) (own_den tp fn fp tn))), .second, .unset, .unset, .val (.long all), .second, .val (.long sA), .second, .val (.long sB), .second, .unset, .unset, .unset, .unset] [])) rfl (hb hby at_126) _ ?_
      show Steps p.tables e below (T7.setTop (mkF m 129 #[.val (.long xa), .second, .val (.long xb), .second, .val (.long xc), .second, .val (.long xd), .second, .val (.int k), .val (.int sh), .val (.long tp), .second, .val (.long fn), .second, .val (.long fp), .second, .val (.long tn), .second, .val (.ref a5), .val (.double (FP.ddiv (own_num tp fn fp tn) (own_den tp fn fp tn))), .second, .unset, .unset, .val (.long all), .second, .val (.long sA), .second, .val (.long sB), .second, .unset, .unset, .unset, .unset] [(.long (2 : Int64))])) _
      refine XS.lload X7.here hx rfl (hb hby at_129) rfl ?_
      show Steps p.tables e below (T7.setTop (mkF m 131 #[.val (.long xa), .second, .val (.long xb), .second, .val (.long xc), .second, .val (.long xd), .second, .val (.int k), .val (.int sh), .val (.long tp), .second, .val (.long fn), .second, .val (.long fp), .second, .val (.long tn), .second, .val (.ref a5), .val (.double (FP.ddiv (own_num tp fn fp tn) (own_den tp fn fp tn))), .second, .unset, .unset, .val (.long all), .second, .val (.long sA), .second, .val (.long sB), .second, .unset, .unset, .unset, .unset] [(.long tp), (.long (2 : Int64))])) _
      refine XS.lload X7.here hx rfl (hb hby at_131) rfl ?_
      show Steps p.tables e below (T7.setTop (mkF m 133 #[.val (.long xa), .second, .val (.long xb), .second, .val (.long xc), .second, .val (.long xd), .second, .val (.int k), .val (.int sh), .val (.long tp), .second, .val (.long fn), .second, .val (.long fp), .second, .val (.long tn), .second, .val (.ref a5), .val (.double (FP.ddiv (own_num tp fn fp tn) (own_den tp fn fp tn))), .second, .unset, .unset, .val (.long all), .second, .val (.long sA), .second, .val (.long sB), .second, .unset, .unset, .unset, .unset] [(.long all), (.long tp), (.long (2 : Int64))])) _
      refine XS.lmul X7.here hx rfl (hb hby at_133) rfl ?_
      show Steps p.tables e below (T7.setTop (mkF m 134 #[.val (.long xa), .second, .val (.long xb), .second, .val (.long xc), .second, .val (.long xd), .second, .val (.int k), .val (.int sh), .val (.long tp), .second, .val (.long fn), .second, .val (.long fp), .second, .val (.long tn), .second, .val (.ref a5), .val (.double (FP.ddiv (own_num tp fn fp tn) (own_den tp fn fp tn))), .second, .unset, .unset, .val (.long all), .second, .val (.long sA), .second, .val (.long sB), .second, .unset, .unset, .unset, .unset] [(.long (tp * all)), (.long (2 : Int64))])) _
      refine XS.lload X7.here hx rfl (hb hby at_134) rfl ?_
      show Steps p.tables e below (T7.setTop (mkF m 136 #[.val (.long xa), .second, .val (.long xb), .second, .val (.long xc), .second, .val (.long xd), .second, .val (.int k), .val (.int sh), .val (.long tp), .second, .val (.long fn), .second, .val (.long fp), .second, .val (.long tn), .second, .val (.ref a5), .val (.double (FP.ddiv (own_num tp fn fp tn) (own_den tp fn fp tn))), .second, .unset, .unset, .val (.long all), .second, .val (.long sA), .second, .val (.long sB), .second, .unset, .unset, .unset, .unset] [(.long sA), (.long (tp * all)), (.long (2 : Int64))])) _
      refine XS.lload X7.here hx rfl (hb hby at_136) rfl ?_
      show Steps p.tables e below (T7.setTop (mkF m 138 #[.val (.long xa), .second, .val (.long xb), .second, .val (.long xc), .second, .val (.long xd), .second, .val (.int k), .val (.int sh), .val (.long tp), .second, .val (.long fn), .second, .val (.long fp), .second, .val (.long tn), .second, .val (.ref a5), .val (.double (FP.ddiv (own_num tp fn fp tn) (own_den tp fn fp tn))), .second, .unset, .unset, .val (.long all), .second, .val (.long sA), .second, .val (.long sB), .second, .unset, .unset, .unset, .unset] [(.long sB), (.long sA), (.long (tp * all)), (.long (2 : Int64))])) _
      refine XS.lmul X7.here hx rfl (hb hby at_138) rfl ?_
      show Steps p.tables e below (T7.setTop (mkF m 139 #[.val (.long xa), .second, .val (.long xb), .second, .val (.long xc), .second, .val (.long xd), .second, .val (.int k), .val (.int sh), .val (.long tp), .second, .val (.long fn), .second, .val (.long fp), .second, .val (.long tn), .second, .val (.ref a5), .val (.double (FP.ddiv (own_num tp fn fp tn) (own_den tp fn fp tn))), .second, .unset, .unset, .val (.long all), .second, .val (.long sA), .second, .val (.long sB), .second, .unset, .unset, .unset, .unset] [(.long (sA * sB)), (.long (tp * all)), (.long (2 : Int64))])) _
      refine XS.lsub X7.here hx rfl (hb hby at_139) rfl ?_
      show Steps p.tables e below (T7.setTop (mkF m 140 #[.val (.long xa), .second, .val (.long xb), .second, .val (.long xc), .second, .val (.long xd), .second, .val (.int k), .val (.int sh), .val (.long tp), .second, .val (.long fn), .second, .val (.long fp), .second, .val (.long tn), .second, .val (.ref a5), .val (.double (FP.ddiv (own_num tp fn fp tn) (own_den tp fn fp tn))), .second, .unset, .unset, .val (.long all), .second, .val (.long sA), .second, .val (.long sB), .second, .unset, .unset, .unset, .unset] [(.long ((tp * all) - (sA * sB))), (.long (2 : Int64))])) _
      refine XS.lmul X7.here hx rfl (hb hby at_140) rfl ?_
      rw [hnm']
      show Steps p.tables e below (T7.setTop (mkF m 141 #[.val (.long xa), .second, .val (.long xb), .second, .val (.long xc), .second, .val (.long xd), .second, .val (.int k), .val (.int sh), .val (.long tp), .second, .val (.long fn), .second, .val (.long fp), .second, .val (.long tn), .second, .val (.ref a5), .val (.double (FP.ddiv (own_num tp fn fp tn) (own_den tp fn fp tn))), .second, .unset, .unset, .val (.long all), .second, .val (.long sA), .second, .val (.long sB), .second, .unset, .unset, .unset, .unset] [(.long nm)])) _
      refine XS.lstore X7.here hx rfl (hb hby at_141) rfl (l' := #[.val (.long xa), .second, .val (.long xb), .second, .val (.long xc), .second, .val (.long xd), .second, .val (.int k), .val (.int sh), .val (.long tp), .second, .val (.long fn), .second, .val (.long fp), .second, .val (.long tn), .second, .val (.ref a5), .val (.double (FP.ddiv (own_num tp fn fp tn) (own_den tp fn fp tn))), .second, .unset, .unset, .val (.long all), .second, .val (.long sA), .second, .val (.long sB), .second, .val (.long nm), .second, .unset, .unset]) rfl ?_
      show Steps p.tables e below (T7.setTop (mkF m 143 #[.val (.long xa), .second, .val (.long xb), .second, .val (.long xc), .second, .val (.long xd), .second, .val (.int k), .val (.int sh), .val (.long tp), .second, .val (.long fn), .second, .val (.long fp), .second, .val (.long tn), .second, .val (.ref a5), .val (.double (FP.ddiv (own_num tp fn fp tn) (own_den tp fn fp tn))), .second, .unset, .unset, .val (.long all), .second, .val (.long sA), .second, .val (.long sB), .second, .val (.long nm), .second, .unset, .unset] [])) _
      refine XS.lload X7.here hx rfl (hb hby at_143) rfl ?_
      show Steps p.tables e below (T7.setTop (mkF m 145 #[.val (.long xa), .second, .val (.long xb), .second, .val (.long xc), .second, .val (.long xd), .second, .val (.int k), .val (.int sh), .val (.long tp), .second, .val (.long fn), .second, .val (.long fp), .second, .val (.long tn), .second, .val (.ref a5), .val (.double (FP.ddiv (own_num tp fn fp tn) (own_den tp fn fp tn))), .second, .unset, .unset, .val (.long all), .second, .val (.long sA), .second, .val (.long sB), .second, .val (.long nm), .second, .unset, .unset] [(.long sA)])) _
      refine XS.lload X7.here hx rfl (hb hby at_145) rfl ?_
      show Steps p.tables e below (T7.setTop (mkF m 147 #[.val (.long xa), .second, .val (.long xb), .second, .val (.long xc), .second, .val (.long xd), .second, .val (.int k), .val (.int sh), .val (.long tp), .second, .val (.long fn), .second, .val (.long fp), .second, .val (.long tn), .second, .val (.ref a5), .val (.double (FP.ddiv (own_num tp fn fp tn) (own_den tp fn fp tn))), .second, .unset, .unset, .val (.long all), .second, .val (.long sA), .second, .val (.long sB), .second, .val (.long nm), .second, .unset, .unset] [(.long sB), (.long sA)])) _
      refine XS.ladd X7.here hx rfl (hb hby at_147) rfl ?_
      show Steps p.tables e below (T7.setTop (mkF m 148 #[.val (.long xa), .second, .val (.long xb), .second, .val (.long xc), .second, .val (.long xd), .second, .val (.int k), .val (.int sh), .val (.long tp), .second, .val (.long fn), .second, .val (.long fp), .second, .val (.long tn), .second, .val (.ref a5), .val (.double (FP.ddiv (own_num tp fn fp tn) (own_den tp fn fp tn))), .second, .unset, .unset, .val (.long all), .second, .val (.long sA), .second, .val (.long sB), .second, .val (.long nm), .second, .unset, .unset] [(.long (sA + sB))])) _
      refine XS.lload X7.here hx rfl (hb hby at_148) rfl ?_
      show Steps p.tables e below (T7.setTop (mkF m 150 #[.val (.long xa), .second, .val (.long xb), .second, .val (.long xc), .second, .val (.long xd), .second, .val (.int k), .val (.int sh), .val (.long tp), .second, .val (.long fn), .second, .val (.long fp), .second, .val (.long tn), .second, .val (.ref a5), .val (.double (FP.ddiv (own_num tp fn fp tn) (own_den tp fn fp tn))), .second, .unset, .unset, .val (.long all), .second, .val (.long sA), .second, .val (.long sB), .second, .val (.long nm), .second, .unset, .unset] [(.long all), (.long (sA + sB))])) _
      refine XS.lmul X7.here hx rfl (hb hby at_150) rfl ?_
      show Steps p.tables e below (T7.setTop (mkF m 151 #[.val (.long xa), .second, .val (.long xb), .second, .val (.long xc), .second, .val (.long xd), .second, .val (.int k), .val (.int sh), .val (.long tp), .second, .val (.long fn), .second, .val (.long fp), .second, .val (.long tn), .second, .val (.ref a5), .val (.double (FP.ddiv (own_num tp fn fp tn) (own_den tp fn fp tn))), .second, .unset, .unset, .val (.long all), .second, .val (.long sA), .second, .val (.long sB), .second, .val (.long nm), .second, .unset, .unset] [(.long ((sA + sB) * all))])) _
      refine X7.ldc2Long hx hown (mvT hZ (hw _ (List.mem_of_getElem? (i := 33) rfl))) (g := (mkF m 151 #[.val (.long xa), .second, .val (.long xb), .second, .val (.long xc), .second, .val (.long xd), .second, .val (.int k), .val (.int sh), .val (.long tp), .second, .val (.long fn), .second, .val (.long fp), .second, .val (.long tn), .second, .val (.ref a5), .val (.double (FP.ddiv (own_num tp fn fp tn) (own_den tp fn fp tn))), .second, .unset, .unset, .val (.long all), .second, .val (.long sA), .second, .val (.long sB), .second, .val (.long nm), .second, .unset, .unset] [(.long ((sA + sB) * all))])) rfl (hb hby at_151) _ ?_
      show Steps p.tables e below (T7.setTop (mkF m 154 #[.val (.long xa), .second, .val (.long xb), .second, .val (.long xc), .second, .val (.long xd), .second, .val (.int k), .val (.int sh), .val (.long tp), .second, .val (.long fn), .second, .val (.long fp), .second, .val (.long tn), .second, .val (.ref a5), .val (.double (FP.ddiv (own_num tp fn fp tn) (own_den tp fn fp tn))), .second, .unset, .unset, .val (.long all), .second, .val (.long sA), .second, .val (.long sB), .second, .val (.long nm), .second, .unset, .unset] [(.long (2 : Int64)), (.long ((sA + sB) * all))])) _
      refine XS.lload X7.here hx rfl (hb hby at_154) rfl ?_
      show Steps p.tables e below (T7.setTop (mkF m 156 #[.val (.long xa), .second, .val (.long xb), .second, .val (.long xc), .second, .val (.long xd), .second, .val (.int k), .val (.int sh), .val (.long tp), .second, .val (.long fn), .second, .val (.long fp), .second, .val (.long tn), .second, .val (.ref a5), .val (.double (FP.ddiv (own_num tp fn fp tn) (own_den tp fn fp tn))), .second, .unset, .unset, .val (.long all), .second, .val (.long sA), .second, .val (.long sB), .second, .val (.long nm), .second, .unset, .unset] [(.long sA), (.long (2 : Int64)), (.long ((sA + sB) * all))])) _
      refine XS.lmul X7.here hx rfl (hb hby at_156) rfl ?_
      show Steps p.tables e below (T7.setTop (mkF m 157 #[.val (.long xa), .second, .val (.long xb), .second, .val (.long xc), .second, .val (.long xd), .second, .val (.int k), .val (.int sh), .val (.long tp), .second, .val (.long fn), .second, .val (.long fp), .second, .val (.long tn), .second, .val (.ref a5), .val (.double (FP.ddiv (own_num tp fn fp tn) (own_den tp fn fp tn))), .second, .unset, .unset, .val (.long all), .second, .val (.long sA), .second, .val (.long sB), .second, .val (.long nm), .second, .unset, .unset] [(.long ((2 : Int64) * sA)), (.long ((sA + sB) * all))])) _
      refine XS.lload X7.here hx rfl (hb hby at_157) rfl ?_
      show Steps p.tables e below (T7.setTop (mkF m 159 #[.val (.long xa), .second, .val (.long xb), .second, .val (.long xc), .second, .val (.long xd), .second, .val (.int k), .val (.int sh), .val (.long tp), .second, .val (.long fn), .second, .val (.long fp), .second, .val (.long tn), .second, .val (.ref a5), .val (.double (FP.ddiv (own_num tp fn fp tn) (own_den tp fn fp tn))), .second, .unset, .unset, .val (.long all), .second, .val (.long sA), .second, .val (.long sB), .second, .val (.long nm), .second, .unset, .unset] [(.long sB), (.long ((2 : Int64) * sA)), (.long ((sA + sB) * all))])) _
      refine XS.lmul X7.here hx rfl (hb hby at_159) rfl ?_
      show Steps p.tables e below (T7.setTop (mkF m 160 #[.val (.long xa), .second, .val (.long xb), .second, .val (.long xc), .second, .val (.long xd), .second, .val (.int k), .val (.int sh), .val (.long tp), .second, .val (.long fn), .second, .val (.long fp), .second, .val (.long tn), .second, .val (.ref a5), .val (.double (FP.ddiv (own_num tp fn fp tn) (own_den tp fn fp tn))), .second, .unset, .unset, .val (.long all), .second, .val (.long sA), .second, .val (.long sB), .second, .val (.long nm), .second, .unset, .unset] [(.long (((2 : Int64) * sA) * sB)), (.long ((sA + sB) * all))])) _
      refine XS.lsub X7.here hx rfl (hb hby at_160) rfl ?_
      rw [hdn]
      show Steps p.tables e below (T7.setTop (mkF m 161 #[.val (.long xa), .second, .val (.long xb), .second, .val (.long xc), .second, .val (.long xd), .second, .val (.int k), .val (.int sh), .val (.long tp), .second, .val (.long fn), .second, .val (.long fp), .second, .val (.long tn), .second, .val (.ref a5), .val (.double (FP.ddiv (own_num tp fn fp tn) (own_den tp fn fp tn))), .second, .unset, .unset, .val (.long all), .second, .val (.long sA), .second, .val (.long sB), .second, .val (.long nm), .second, .unset, .unset] [(.long dn)])) _
      refine XS.lstore X7.here hx rfl (hb hby at_161) rfl (l' := #[.val (.long xa), .second, .val (.long xb), .second, .val (.long xc), .second, .val (.long xd), .second, .val (.int k), .val (.int sh), .val (.long tp), .second, .val (.long fn), .second, .val (.long fp), .second, .val (.long tn), .second, .val (.ref a5), .val (.double (FP.ddiv (own_num tp fn fp tn) (own_den tp fn fp tn))), .second, .unset, .unset, .val (.long all), .second, .val (.long sA), .second, .val (.long sB), .second, .val (.long nm), .second, .val (.long dn), .second]) rfl ?_
      show Steps p.tables e below (T7.setTop (mkF m 163 #[.val (.long xa), .second, .val (.long xb), .second, .val (.long xc), .second, .val (.long xd), .second, .val (.int k), .val (.int sh), .val (.long tp), .second, .val (.long fn), .second, .val (.long fp), .second, .val (.long tn), .second, .val (.ref a5), .val (.double (FP.ddiv (own_num tp fn fp tn) (own_den tp fn fp tn))), .second, .unset, .unset, .val (.long all), .second, .val (.long sA), .second, .val (.long sB), .second, .val (.long nm), .second, .val (.long dn), .second] [])) _
      refine XS.lload X7.here hx rfl (hb hby at_163) rfl ?_
      show Steps p.tables e below (T7.setTop (mkF m 165 #[.val (.long xa), .second, .val (.long xb), .second, .val (.long xc), .second, .val (.long xd), .second, .val (.int k), .val (.int sh), .val (.long tp), .second, .val (.long fn), .second, .val (.long fp), .second, .val (.long tn), .second, .val (.ref a5), .val (.double (FP.ddiv (own_num tp fn fp tn) (own_den tp fn fp tn))), .second, .unset, .unset, .val (.long all), .second, .val (.long sA), .second, .val (.long sB), .second, .val (.long nm), .second, .val (.long dn), .second] [(.long dn)])) _
      refine XS.lconst X7.here hx rfl (hb hby at_165) ?_
      show Steps p.tables e below (T7.setTop (mkF m 166 #[.val (.long xa), .second, .val (.long xb), .second, .val (.long xc), .second, .val (.long xd), .second, .val (.int k), .val (.int sh), .val (.long tp), .second, .val (.long fn), .second, .val (.long fp), .second, .val (.long tn), .second, .val (.ref a5), .val (.double (FP.ddiv (own_num tp fn fp tn) (own_den tp fn fp tn))), .second, .unset, .unset, .val (.long all), .second, .val (.long sA), .second, .val (.long sB), .second, .val (.long nm), .second, .val (.long dn), .second] [(.long (0 : Int64)), (.long dn)])) _
      refine XS.lcmp X7.here hx rfl (hb hby at_166) rfl ?_
      show Steps p.tables e below (T7.setTop (mkF m 167 #[.val (.long xa), .second, .val (.long xb), .second, .val (.long xc), .second, .val (.long xd), .second, .val (.int k), .val (.int sh), .val (.long tp), .second, .val (.long fn), .second, .val (.long fp), .second, .val (.long tn), .second, .val (.ref a5), .val (.double (FP.ddiv (own_num tp fn fp tn) (own_den tp fn fp tn))), .second, .unset, .unset, .val (.long all), .second, .val (.long sA), .second, .val (.long sB), .second, .val (.long nm), .second, .val (.long dn), .second] [(.int (lcmpW dn (0 : Int64)))])) _
      refine XS.ifYes X7.here hx rfl (pc0 := 167) (pc' := 172) rfl (hb hby at_167) rfl ((Jvm.Own.holdsL _ _ _).trans (Jvm.Own.dT (both (Or.inr c2)).1)) (by decide) (by decide) ?_
      show Steps p.tables e below (T7.setTop (mkF m 172 #[.val (.long xa), .second, .val (.long xb), .second, .val (.long xc), .second, .val (.long xd), .second, .val (.int k), .val (.int sh), .val (.long tp), .second, .val (.long fn), .second, .val (.long fp), .second, .val (.long tn), .second, .val (.ref a5), .val (.double (FP.ddiv (own_num tp fn fp tn) (own_den tp fn fp tn))), .second, .unset, .unset, .val (.long all), .second, .val (.long sA), .second, .val (.long sB), .second, .val (.long nm), .second, .val (.long dn), .second] [])) _
      refine XS.lload X7.here hx rfl (hb hby at_172) rfl ?_
      show Steps p.tables e below (T7.setTop (mkF m 174 #[.val (.long xa), .second, .val (.long xb), .second, .val (.long xc), .second, .val (.long xd), .second, .val (.int k), .val (.int sh), .val (.long tp), .second, .val (.long fn), .second, .val (.long fp), .second, .val (.long tn), .second, .val (.ref a5), .val (.double (FP.ddiv (own_num tp fn fp tn) (own_den tp fn fp tn))), .second, .unset, .unset, .val (.long all), .second, .val (.long sA), .second, .val (.long sB), .second, .val (.long nm), .second, .val (.long dn), .second] [(.long nm)])) _
      refine XS.l2dS X7.here hx rfl (hb hby at_174) rfl (v := FP.l2d nm) rfl ?_
      show Steps p.tables e below (T7.setTop (mkF m 175 #[.val (.long xa), .second, .val (.long xb), .second, .val (.long xc), .second, .val (.long xd), .second, .val (.int k), .val (.int sh), .val (.long tp), .second, .val (.long fn), .second, .val (.long fp), .second, .val (.long tn), .second, .val (.ref a5), .val (.double (FP.ddiv (own_num tp fn fp tn) (own_den tp fn fp tn))), .second, .unset, .unset, .val (.long all), .second, .val (.long sA), .second, .val (.long sB), .second, .val (.long nm), .second, .val (.long dn), .second] [(.double (FP.l2d nm))])) _
      refine XS.lload X7.here hx rfl (hb hby at_175) rfl ?_
      show Steps p.tables e below (T7.setTop (mkF m 177 #[.val (.long xa), .second, .val (.long xb), .second, .val (.long xc), .second, .val (.long xd), .second, .val (.int k), .val (.int sh), .val (.long tp), .second, .val (.long fn), .second, .val (.long fp), .second, .val (.long tn), .second, .val (.ref a5), .val (.double (FP.ddiv (own_num tp fn fp tn) (own_den tp fn fp tn))), .second, .unset, .unset, .val (.long all), .second, .val (.long sA), .second, .val (.long sB), .second, .val (.long nm), .second, .val (.long dn), .second] [(.long dn), (.double (FP.l2d nm))])) _
      refine XS.l2dS X7.here hx rfl (hb hby at_177) rfl (v := FP.l2d dn) rfl ?_
      show Steps p.tables e below (T7.setTop (mkF m 178 #[.val (.long xa), .second, .val (.long xb), .second, .val (.long xc), .second, .val (.long xd), .second, .val (.int k), .val (.int sh), .val (.long tp), .second, .val (.long fn), .second, .val (.long fp), .second, .val (.long tn), .second, .val (.ref a5), .val (.double (FP.ddiv (own_num tp fn fp tn) (own_den tp fn fp tn))), .second, .unset, .unset, .val (.long all), .second, .val (.long sA), .second, .val (.long sB), .second, .val (.long nm), .second, .val (.long dn), .second] [(.double (FP.l2d dn)), (.double (FP.l2d nm))])) _
      refine XS.ddivS X7.here hx rfl (hb hby at_178) rfl (Jvm.Own.nn (both (Or.inr c2)).2.2.1) (v := FP.ddiv (FP.l2d nm) (FP.l2d dn)) rfl ?_
      show Steps p.tables e below (T7.setTop (mkF m 179 #[.val (.long xa), .second, .val (.long xb), .second, .val (.long xc), .second, .val (.long xd), .second, .val (.int k), .val (.int sh), .val (.long tp), .second, .val (.long fn), .second, .val (.long fp), .second, .val (.long tn), .second, .val (.ref a5), .val (.double (FP.ddiv (own_num tp fn fp tn) (own_den tp fn fp tn))), .second, .unset, .unset, .val (.long all), .second, .val (.long sA), .second, .val (.long sB), .second, .val (.long nm), .second, .val (.long dn), .second] [(.double (FP.ddiv (FP.l2d nm) (FP.l2d dn)))])) _
      refine XS.dstore X7.here hx rfl (hb hby at_179) rfl (l' := #[.val (.long xa), .second, .val (.long xb), .second, .val (.long xc), .second, .val (.long xd), .second, .val (.int k), .val (.int sh), .val (.long tp), .second, .val (.long fn), .second, .val (.long fp), .second, .val (.long tn), .second, .val (.ref a5), .val (.double (FP.ddiv (own_num tp fn fp tn) (own_den tp fn fp tn))), .second, .val (.double (FP.ddiv (FP.l2d nm) (FP.l2d dn))), .second, .val (.long all), .second, .val (.long sA), .second, .val (.long sB), .second, .val (.long nm), .second, .val (.long dn), .second]) rfl ?_
      show Steps p.tables e below (T7.setTop (mkF m 181 #[.val (.long xa), .second, .val (.long xb), .second, .val (.long xc), .second, .val (.long xd), .second, .val (.int k), .val (.int sh), .val (.long tp), .second, .val (.long fn), .second, .val (.long fp), .second, .val (.long tn), .second, .val (.ref a5), .val (.double (FP.ddiv (own_num tp fn fp tn) (own_den tp fn fp tn))), .second, .val (.double (FP.ddiv (FP.l2d nm) (FP.l2d dn))), .second, .val (.long all), .second, .val (.long sA), .second, .val (.long sB), .second, .val (.long nm), .second, .val (.long dn), .second] [])) _
      refine XS.dload X7.here hx rfl (hb hby at_181) rfl ?_
      show Steps p.tables e below (T7.setTop (mkF m 183 #[.val (.long xa), .second, .val (.long xb), .second, .val (.long xc), .second, .val (.long xd), .second, .val (.int k), .val (.int sh), .val (.long tp), .second, .val (.long fn), .second, .val (.long fp), .second, .val (.long tn), .second, .val (.ref a5), .val (.double (FP.ddiv (own_num tp fn fp tn) (own_den tp fn fp tn))), .second, .val (.double (FP.ddiv (FP.l2d nm) (FP.l2d dn))), .second, .val (.long all), .second, .val (.long sA), .second, .val (.long sB), .second, .val (.long nm), .second, .val (.long dn), .second] [(.double (FP.ddiv (own_num tp fn fp tn) (own_den tp fn fp tn)))])) _
      refine XS.dload X7.here hx rfl (hb hby at_183) rfl ?_
      show Steps p.tables e below (T7.setTop (mkF m 185 #[.val (.long xa), .second, .val (.long xb), .second, .val (.long xc), .second, .val (.long xd), .second, .val (.int k), .val (.int sh), .val (.long tp), .second, .val (.long fn), .second, .val (.long fp), .second, .val (.long tn), .second, .val (.ref a5), .val (.double (FP.ddiv (own_num tp fn fp tn) (own_den tp fn fp tn))), .second, .val (.double (FP.ddiv (FP.l2d nm) (FP.l2d dn))), .second, .val (.long all), .second, .val (.long sA), .second, .val (.long sB), .second, .val (.long nm), .second, .val (.long dn), .second] [(.double (FP.ddiv (FP.l2d nm) (FP.l2d dn))), (.double (FP.ddiv (own_num tp fn fp tn) (own_den tp fn fp tn)))])) _
      refine XS.dcmpS X7.here hx rfl (hb hby at_185) rfl (v := Jvm.Op.cmpValue (FP.dcmp (FP.ddiv (own_num tp fn fp tn) (own_den tp fn fp tn)) (FP.ddiv (FP.l2d nm) (FP.l2d dn))) .l) rfl ?_
      show Steps p.tables e below (T7.setTop (mkF m 186 #[.val (.long xa), .second, .val (.long xb), .second, .val (.long xc), .second, .val (.long xd), .second, .val (.int k), .val (.int sh), .val (.long tp), .second, .val (.long fn), .second, .val (.long fp), .second, .val (.long tn), .second, .val (.ref a5), .val (.double (FP.ddiv (own_num tp fn fp tn) (own_den tp fn fp tn))), .second, .val (.double (FP.ddiv (FP.l2d nm) (FP.l2d dn))), .second, .val (.long all), .second, .val (.long sA), .second, .val (.long sB), .second, .val (.long nm), .second, .val (.long dn), .second] [(.int (Jvm.Op.cmpValue (FP.dcmp (FP.ddiv (own_num tp fn fp tn) (own_den tp fn fp tn)) (FP.ddiv (FP.l2d nm) (FP.l2d dn))) .l))])) _
      refine XS.ifNo X7.here hx rfl (hb hby at_186) rfl ((Jvm.Own.holdsD (both (Or.inr c2)).2.1 (both (Or.inr c2)).2.2.1 _ _).trans (Jvm.Own.dF (by rw [(both (Or.inr c2)).2.2.2]; exact fun q => q rfl))) ?_
      show Steps p.tables e below (T7.setTop (mkF m 189 #[.val (.long xa), .second, .val (.long xb), .second, .val (.long xc), .second, .val (.long xd), .second, .val (.int k), .val (.int sh), .val (.long tp), .second, .val (.long fn), .second, .val (.long fp), .second, .val (.long tn), .second, .val (.ref a5), .val (.double (FP.ddiv (own_num tp fn fp tn) (own_den tp fn fp tn))), .second, .val (.double (FP.ddiv (FP.l2d nm) (FP.l2d dn))), .second, .val (.long all), .second, .val (.long sA), .second, .val (.long sB), .second, .val (.long nm), .second, .val (.long dn), .second] [])) _
      refine XS.iconst X7.here hx rfl (hb hby at_189) ?_
      show Steps p.tables e below (T7.setTop (mkF m 190 #[.val (.long xa), .second, .val (.long xb), .second, .val (.long xc), .second, .val (.long xd), .second, .val (.int k), .val (.int sh), .val (.long tp), .second, .val (.long fn), .second, .val (.long fp), .second, .val (.long tn), .second, .val (.ref a5), .val (.double (FP.ddiv (own_num tp fn fp tn) (own_den tp fn fp tn))), .second, .val (.double (FP.ddiv (FP.l2d nm) (FP.l2d dn))), .second, .val (.long all), .second, .val (.long sA), .second, .val (.long sB), .second, .val (.long nm), .second, .val (.long dn), .second] [(.int (1 : Int32))])) _
      refine XS.goto X7.here hx rfl (pc0 := 190) (pc' := 194) rfl (hb hby at_190) (by decide) (by decide) ?_
      show Steps p.tables e below (T7.setTop (mkF m 194 #[.val (.long xa), .second, .val (.long xb), .second, .val (.long xc), .second, .val (.long xd), .second, .val (.int k), .val (.int sh), .val (.long tp), .second, .val (.long fn), .second, .val (.long fp), .second, .val (.long tn), .second, .val (.ref a5), .val (.double (FP.ddiv (own_num tp fn fp tn) (own_den tp fn fp tn))), .second, .val (.double (FP.ddiv (FP.l2d nm) (FP.l2d dn))), .second, .val (.long all), .second, .val (.long sA), .second, .val (.long sB), .second, .val (.long nm), .second, .val (.long dn), .second] [(.int (1 : Int32))])) _
      exact retN X7 hx (t := .boolean) Bd.returns (by simp) (hb hby at_194) hr
    · show QL n0 _ T7.heap _
      exact ⟨rfl, (Fr.app (Fr.app (Fr.app (Fr.app (Fr.app (Fr.app N0 N1) N2) N3) N4) N6) N7)⟩
  · obtain ⟨_, _, ⟨T1, L1, k1, n1⟩, -, X1, ⟨Lc1, hQ1, l1, y1, z1⟩, st1⟩ := Jvm.LawKit.callS X0 hx (y := (⟨"com/example/driftgauge/driftgauge/PairCountsAdjustedRandPinLaw", "count", "(JIII)J"⟩ : MethodName)) hown (mvT hZ (hw _ (List.mem_of_getElem? (i := 0) rfl))) (mvT hZ (hw _ (List.mem_of_getElem? (i := 1) rfl))) (mvT hZ (hw _ (List.mem_of_getElem? (i := 2) rfl))) (mvT hZ (hw _ (List.mem_of_getElem? (i := 3) rfl))) (by decide) (backOf (W := 0) (rmCnt l Z a0 hw [] xa k (0 : Int32) sh h0 n0 Z0) hZ (hw _ (List.mem_of_getElem? (i := 3) rfl)) (hw _ (List.mem_of_getElem? (i := 2) rfl)) (by decide) (by decide)) (g := (mkF m 15 #[.val (.long xa), .second, .val (.long xb), .second, .val (.long xc), .second, .val (.long xd), .second, .val (.int k), .val (.int sh), .unset, .unset, .unset, .unset, .unset, .unset, .unset, .unset, .unset, .unset, .unset, .unset, .unset, .unset, .unset, .unset, .unset, .unset, .unset, .unset, .unset, .unset, .unset] [(.int sh), (.int (0 : Int32)), (.int k), (.long xa)])) rfl (by rw [hml]; rfl) (argsL := [(.long xa), (.int k), (.int (0 : Int32)), (.int sh)]) (rest := []) (lenOf pd_1 rfl) rfl (by show 2 * 0 + _ ≤ _; exact Nat.le_of_eq rfl) (hb hby at_15) (fun _ _ => ⟨rfl, e0, (by decide : 0 + 0 ≤ _), (by decide : 0 + 0 ≤ _)⟩)
    dsimp only [Pt.U, Pt.locs, Pt.cells, Pt.slots] at X1 l1 y1 z1 st1 hQ1
    subst l1 y1 z1
    rw [h_tp] at hQ1; obtain ⟨rfl, N1, e1⟩ := hQ1
    obtain ⟨_, _, ⟨T2, L2, k2, n2⟩, -, X2, ⟨Lc2, hQ2, l2, y2, z2⟩, st2⟩ := Jvm.LawKit.callS X1 hx (y := (⟨"com/example/driftgauge/driftgauge/PairCountsAdjustedRandPinLaw", "count", "(JIII)J"⟩ : MethodName)) hown (mvT hZ (hw _ (List.mem_of_getElem? (i := 0) rfl))) (mvT hZ (hw _ (List.mem_of_getElem? (i := 1) rfl))) (mvT hZ (hw _ (List.mem_of_getElem? (i := 2) rfl))) (mvT hZ (hw _ (List.mem_of_getElem? (i := 3) rfl))) (by decide) (backOf (W := 0) (rmCnt l Z a0 hw [] xb k (1 : Int32) sh h0 n0 Z0) hZ (hw _ (List.mem_of_getElem? (i := 3) rfl)) (hw _ (List.mem_of_getElem? (i := 2) rfl)) (by decide) (by decide)) (g := (mkF m 26 #[.val (.long xa), .second, .val (.long xb), .second, .val (.long xc), .second, .val (.long xd), .second, .val (.int k), .val (.int sh), .val (.long tp), .second, .unset, .unset, .unset, .unset, .unset, .unset, .unset, .unset, .unset, .unset, .unset, .unset, .unset, .unset, .unset, .unset, .unset, .unset, .unset, .unset, .unset] [(.int sh), (.int (1 : Int32)), (.int k), (.long xb)])) rfl (by rw [hml]; rfl) (argsL := [(.long xb), (.int k), (.int (1 : Int32)), (.int sh)]) (rest := []) (lenOf pd_1 rfl) rfl (by show 2 * 0 + _ ≤ _; exact Nat.le_of_eq rfl) (hb hby at_26) (fun _ _ => ⟨rfl, e1, (by decide : 0 + 0 ≤ _), (by decide : 0 + 0 ≤ _)⟩)
    dsimp only [Pt.U, Pt.locs, Pt.cells, Pt.slots] at X2 l2 y2 z2 st2 hQ2
    subst l2 y2 z2
    rw [h_fn] at hQ2; obtain ⟨rfl, N2, e2⟩ := hQ2
    obtain ⟨_, _, ⟨T3, L3, k3, n3⟩, -, X3, ⟨Lc3, hQ3, l3, y3, z3⟩, st3⟩ := Jvm.LawKit.callS X2 hx (y := (⟨"com/example/driftgauge/driftgauge/PairCountsAdjustedRandPinLaw", "count", "(JIII)J"⟩ : MethodName)) hown (mvT hZ (hw _ (List.mem_of_getElem? (i := 0) rfl))) (mvT hZ (hw _ (List.mem_of_getElem? (i := 1) rfl))) (mvT hZ (hw _ (List.mem_of_getElem? (i := 2) rfl))) (mvT hZ (hw _ (List.mem_of_getElem? (i := 3) rfl))) (by decide) (backOf (W := 0) (rmCnt l Z a0 hw [] xc k (2 : Int32) sh h0 n0 Z0) hZ (hw _ (List.mem_of_getElem? (i := 3) rfl)) (hw _ (List.mem_of_getElem? (i := 2) rfl)) (by decide) (by decide)) (g := (mkF m 38 #[.val (.long xa), .second, .val (.long xb), .second, .val (.long xc), .second, .val (.long xd), .second, .val (.int k), .val (.int sh), .val (.long tp), .second, .val (.long fn), .second, .unset, .unset, .unset, .unset, .unset, .unset, .unset, .unset, .unset, .unset, .unset, .unset, .unset, .unset, .unset, .unset, .unset, .unset, .unset] [(.int sh), (.int (2 : Int32)), (.int k), (.long xc)])) rfl (by rw [hml]; rfl) (argsL := [(.long xc), (.int k), (.int (2 : Int32)), (.int sh)]) (rest := []) (lenOf pd_1 rfl) rfl (by show 2 * 0 + _ ≤ _; exact Nat.le_of_eq rfl) (hb hby at_38) (fun _ _ => ⟨rfl, e2, (by decide : 0 + 0 ≤ _), (by decide : 0 + 0 ≤ _)⟩)
    dsimp only [Pt.U, Pt.locs, Pt.cells, Pt.slots] at X3 l3 y3 z3 st3 hQ3
    subst l3 y3 z3
    rw [h_fp] at hQ3; obtain ⟨rfl, N3, e3⟩ := hQ3
    obtain ⟨_, _, ⟨T4, L4, k4, n4⟩, -, X4, ⟨Lc4, hQ4, l4, y4, z4⟩, st4⟩ := Jvm.LawKit.callS X3 hx (y := (⟨"com/example/driftgauge/driftgauge/PairCountsAdjustedRandPinLaw", "count", "(JIII)J"⟩ : MethodName)) hown (mvT hZ (hw _ (List.mem_of_getElem? (i := 0) rfl))) (mvT hZ (hw _ (List.mem_of_getElem? (i := 1) rfl))) (mvT hZ (hw _ (List.mem_of_getElem? (i := 2) rfl))) (mvT hZ (hw _ (List.mem_of_getElem? (i := 3) rfl))) (by decide) (backOf (W := 0) (rmCnt l Z a0 hw [] xd k (3 : Int32) sh h0 n0 Z0) hZ (hw _ (List.mem_of_getElem? (i := 3) rfl)) (hw _ (List.mem_of_getElem? (i := 2) rfl)) (by decide) (by decide)) (g := (mkF m 50 #[.val (.long xa), .second, .val (.long xb), .second, .val (.long xc), .second, .val (.long xd), .second, .val (.int k), .val (.int sh), .val (.long tp), .second, .val (.long fn), .second, .val (.long fp), .second, .unset, .unset, .unset, .unset, .unset, .unset, .unset, .unset, .unset, .unset, .unset, .unset, .unset, .unset, .unset, .unset, .unset] [(.int sh), (.int (3 : Int32)), (.int k), (.long xd)])) rfl (by rw [hml]; rfl) (argsL := [(.long xd), (.int k), (.int (3 : Int32)), (.int sh)]) (rest := []) (lenOf pd_1 rfl) rfl (by show 2 * 0 + _ ≤ _; exact Nat.le_of_eq rfl) (hb hby at_50) (fun _ _ => ⟨rfl, e3, (by decide : 0 + 0 ≤ _), (by decide : 0 + 0 ≤ _)⟩)
    dsimp only [Pt.U, Pt.locs, Pt.cells, Pt.slots] at X4 l4 y4 z4 st4 hQ4
    subst l4 y4 z4
    rw [h_tn] at hQ4; obtain ⟨rfl, N4, e4⟩ := hQ4
    obtain ⟨T5, h5, X5, e5, E5, A5, D5, -, st5⟩ := newO X4 hx hZ hown (hw _ (List.mem_of_getElem? (i := 5) rfl)) (hw _ (List.mem_of_getElem? (i := 6) rfl)) (hw _ (List.mem_of_getElem? (i := 7) rfl)) e4 (g := (mkF m 55 #[.val (.long xa), .second, .val (.long xb), .second, .val (.long xc), .second, .val (.long xd), .second, .val (.int k), .val (.int sh), .val (.long tp), .second, .val (.long fn), .second, .val (.long fp), .second, .val (.long tn), .second, .unset, .unset, .unset, .unset, .unset, .unset, .unset, .unset, .unset, .unset, .unset, .unset, .unset, .unset, .unset] [])) rfl (hb hby at_55) (by decide) (by decide)
    obtain ⟨a5, g5⟩ : ∃ z, z = h0.size := ⟨_, rfl⟩
    rw [← g5] at A5 D5 st5
    have D_0 := D5 (Or.inr (hw _ (List.mem_of_getElem? (i := 20) rfl))) (ty := .long) (by decide)
    have D_1 := D5 (Or.inr (hw _ (List.mem_of_getElem? (i := 22) rfl))) (ty := .long) (by decide)
    have D_2 := D5 (Or.inr (hw _ (List.mem_of_getElem? (i := 24) rfl))) (ty := .long) (by decide)
    have D_3 := D5 (Or.inr (hw _ (List.mem_of_getElem? (i := 26) rfl))) (ty := .long) (by decide)
    have Z5 : n0 ≤ h5.size := Nat.le_trans Z0 E5.1
    have ga : n0 ≤ a5 := Nat.le_trans Z0 (Nat.le_of_eq g5.symm)
    obtain ⟨_, _, ⟨T6, L6, k6, n6⟩, -, X6, ⟨Lc6, hQ6, l6, y6, z6⟩, st6⟩ := X5.specialBack hx (y := (⟨"com/example/driftgauge/driftgauge/PairCounts", "<init>", "(JJJJ)V"⟩ : MethodName)) rfl hown (mvT hZ (hw _ (List.mem_of_getElem? (i := 8) rfl))) (mvT hZ (hw _ (List.mem_of_getElem? (i := 9) rfl))) (mvT hZ (hw _ (List.mem_of_getElem? (i := 10) rfl))) (by decide) (backOf (W := 1) (rmInit l Z a0 hw [] a5 tp fn fp tn h5 n0 Z5 A5 ga D_0 D_1 D_2 D_3) hZ (hw _ (List.mem_of_getElem? (i := 10) rfl)) (hw _ (List.mem_of_getElem? (i := 7) rfl)) (by decide) (by decide)) (g := (mkF m 67 #[.val (.long xa), .second, .val (.long xb), .second, .val (.long xc), .second, .val (.long xd), .second, .val (.int k), .val (.int sh), .val (.long tp), .second, .val (.long fn), .second, .val (.long fp), .second, .val (.long tn), .second, .unset, .unset, .unset, .unset, .unset, .unset, .unset, .unset, .unset, .unset, .unset, .unset, .unset, .unset, .unset] [(.long tn), (.long fp), (.long fn), (.long tp), (.ref a5), (.ref a5)])) rfl (by rw [hml]; rfl) (Steps.refl _) (a := a5) (argsL := [(.long tp), (.long fn), (.long fp), (.long tn)]) (rest := [(.ref a5)]) (lenOf pd_2 rfl) rfl (by show 2 * 0 + _ ≤ _; exact Nat.le_of_eq rfl) (hb hby at_67) (fun _ _ => ⟨rfl, e5, (by decide : 1 + 0 ≤ _), (by decide : 4 + 0 ≤ _)⟩)
    dsimp only [Pt.U, Pt.locs, Pt.cells, Pt.slots] at X6 l6 y6 z6 st6 hQ6
    subst l6 y6 z6
    obtain ⟨rfl, N6, K6, E6, H0, H1, H2, H3⟩ := hQ6
    have Z6 : n0 ≤ T6.heap.size := Nat.le_trans Z5 K6.1
    obtain ⟨cq7, kq7, q7a, q7b, q7c⟩ := isOf hZ rfl E6
    obtain ⟨_, _, ⟨T7, L7, k7, n7⟩, -, X7, ⟨Lc7, hQ7, l7, y7, z7⟩, st7⟩ := X6.virtualBack hx (y := (⟨"com/example/driftgauge/driftgauge/PairCounts", "adjustedRand", "()D"⟩ : MethodName)) (z := (⟨"com/example/driftgauge/driftgauge/PairCounts", "adjustedRand", "()D"⟩ : MethodName)) hown (mvT hZ (hw _ (List.mem_of_getElem? (i := 27) rfl))) (mvT hZ (hw _ (List.mem_of_getElem? (i := 28) rfl))) (notFace_of_selects (args := #[]) (mvT hZ (hw _ (List.mem_of_getElem? (i := 30) rfl)))) (mvT hZ (hw _ (List.mem_of_getElem? (i := 30) rfl))) (mvT hZ (hw _ (List.mem_of_getElem? (i := 29) rfl))) (by decide) (backOf (W := 0) (rmAdj l Z a0 hw [] a5 T6.heap n0 Z6 tp fn fp tn (FP.ddiv (own_num tp fn fp tn) (own_den tp fn fp tn)) H0 H1 H2 H3 (Or.inr (Or.inr ⟨c1, rfl⟩)) ok (fun q => Jvm.Own.nn (both q).2.1)) hZ (hw _ (List.mem_of_getElem? (i := 31) rfl)) (hw _ (List.mem_of_getElem? (i := 7) rfl)) (by decide) (by decide)) q7a q7c (g := (mkF m 74 #[.val (.long xa), .second, .val (.long xb), .second, .val (.long xc), .second, .val (.long xd), .second, .val (.int k), .val (.int sh), .val (.long tp), .second, .val (.long fn), .second, .val (.long fp), .second, .val (.long tn), .second, .val (.ref a5), .unset, .unset, .unset, .unset, .unset, .unset, .unset, .unset, .unset, .unset, .unset, .unset, .unset, .unset] [(.ref a5)])) rfl (by rw [hml]; rfl) (Steps.refl _) (argsL := []) (rest := []) (lenOf pd_3 rfl) rfl (by show 2 * 0 + _ ≤ _; exact Nat.le_of_eq rfl) (hb hby at_74) (fun _ _ => ⟨rfl, rfl, (by decide : 1 + 0 ≤ _), (by decide : 4 + 0 ≤ _)⟩)
    dsimp only [Pt.U, Pt.locs, Pt.cells, Pt.slots] at X7 l7 y7 z7 st7 hQ7
    subst l7 y7 z7
    obtain ⟨rfl, N7, e7⟩ := hQ7
    obtain ⟨fs, hr, hrun, hended, hW, hsame⟩ := X7.leave (v := some (.int (1 : Int32))) (fun h => by rw [Bd.returns] at h; cases h)
    refine ⟨_, _, pre0 _ ?_, hrun, hended, _, _, rfl, ?_, ⟨_, rfl⟩, hW, hsame.mono (by decide) (by decide)⟩
    · show Steps p.tables e below (s₁.setTop (mkF m 0 #[.val (.long xa), .second, .val (.long xb), .second, .val (.long xc), .second, .val (.long xd), .second, .val (.int k), .unset, .unset, .unset, .unset, .unset, .unset, .unset, .unset, .unset, .unset, .unset, .unset, .unset, .unset, .unset, .unset, .unset, .unset, .unset, .unset, .unset, .unset, .unset, .unset] [])) _
      refine XS.iload X0.here hx rfl (hb hby at_0) rfl ?_
      show Steps p.tables e below (s₁.setTop (mkF m 2 #[.val (.long xa), .second, .val (.long xb), .second, .val (.long xc), .second, .val (.long xd), .second, .val (.int k), .unset, .unset, .unset, .unset, .unset, .unset, .unset, .unset, .unset, .unset, .unset, .unset, .unset, .unset, .unset, .unset, .unset, .unset, .unset, .unset, .unset, .unset, .unset, .unset] [(.int k)])) _
      refine XS.iconst X0.here hx rfl (hb hby at_2) ?_
      show Steps p.tables e below (s₁.setTop (mkF m 3 #[.val (.long xa), .second, .val (.long xb), .second, .val (.long xc), .second, .val (.long xd), .second, .val (.int k), .unset, .unset, .unset, .unset, .unset, .unset, .unset, .unset, .unset, .unset, .unset, .unset, .unset, .unset, .unset, .unset, .unset, .unset, .unset, .unset, .unset, .unset, .unset, .unset] [(.int (4 : Int32)), (.int k)])) _
      refine XS.iushr X0.here hx rfl (hb hby at_3) rfl ?_
      show Steps p.tables e below (s₁.setTop (mkF m 4 #[.val (.long xa), .second, .val (.long xb), .second, .val (.long xc), .second, .val (.long xd), .second, .val (.int k), .unset, .unset, .unset, .unset, .unset, .unset, .unset, .unset, .unset, .unset, .unset, .unset, .unset, .unset, .unset, .unset, .unset, .unset, .unset, .unset, .unset, .unset, .unset, .unset] [(.int ((k.toUInt32 >>> ((4 : Int32) &&& 31).toUInt32).toInt32))])) _
      refine XS.bipush X0.here hx rfl (hb hby at_4) ?_
      show Steps p.tables e below (s₁.setTop (mkF m 6 #[.val (.long xa), .second, .val (.long xb), .second, .val (.long xc), .second, .val (.long xd), .second, .val (.int k), .unset, .unset, .unset, .unset, .unset, .unset, .unset, .unset, .unset, .unset, .unset, .unset, .unset, .unset, .unset, .unset, .unset, .unset, .unset, .unset, .unset, .unset, .unset, .unset] [(.int (31 : Int32)), (.int ((k.toUInt32 >>> ((4 : Int32) &&& 31).toUInt32).toInt32))])) _
      refine XS.iand X0.here hx rfl (hb hby at_6) rfl ?_
      rw [hsh]
      show Steps p.tables e below (s₁.setTop (mkF m 7 #[.val (.long xa), .second, .val (.long xb), .second, .val (.long xc), .second, .val (.long xd), .second, .val (.int k), .unset, .unset, .unset, .unset, .unset, .unset, .unset, .unset, .unset, .unset, .unset, .unset, .unset, .unset, .unset, .unset, .unset, .unset, .unset, .unset, .unset, .unset, .unset, .unset] [(.int sh)])) _
      refine XS.istore X0.here hx rfl (hb hby at_7) rfl (l' := #[.val (.long xa), .second, .val (.long xb), .second, .val (.long xc), .second, .val (.long xd), .second, .val (.int k), .val (.int sh), .unset, .unset, .unset, .unset, .unset, .unset, .unset, .unset, .unset, .unset, .unset, .unset, .unset, .unset, .unset, .unset, .unset, .unset, .unset, .unset, .unset, .unset, .unset]) rfl ?_
      show Steps p.tables e below (s₁.setTop (mkF m 9 #[.val (.long xa), .second, .val (.long xb), .second, .val (.long xc), .second, .val (.long xd), .second, .val (.int k), .val (.int sh), .unset, .unset, .unset, .unset, .unset, .unset, .unset, .unset, .unset, .unset, .unset, .unset, .unset, .unset, .unset, .unset, .unset, .unset, .unset, .unset, .unset, .unset, .unset] [])) _
      refine XS.lloadN X0.here hx rfl (hb hby at_9) rfl ?_
      show Steps p.tables e below (s₁.setTop (mkF m 10 #[.val (.long xa), .second, .val (.long xb), .second, .val (.long xc), .second, .val (.long xd), .second, .val (.int k), .val (.int sh), .unset, .unset, .unset, .unset, .unset, .unset, .unset, .unset, .unset, .unset, .unset, .unset, .unset, .unset, .unset, .unset, .unset, .unset, .unset, .unset, .unset, .unset, .unset] [(.long xa)])) _
      refine XS.iload X0.here hx rfl (hb hby at_10) rfl ?_
      show Steps p.tables e below (s₁.setTop (mkF m 12 #[.val (.long xa), .second, .val (.long xb), .second, .val (.long xc), .second, .val (.long xd), .second, .val (.int k), .val (.int sh), .unset, .unset, .unset, .unset, .unset, .unset, .unset, .unset, .unset, .unset, .unset, .unset, .unset, .unset, .unset, .unset, .unset, .unset, .unset, .unset, .unset, .unset, .unset] [(.int k), (.long xa)])) _
      refine XS.iconst X0.here hx rfl (hb hby at_12) ?_
      show Steps p.tables e below (s₁.setTop (mkF m 13 #[.val (.long xa), .second, .val (.long xb), .second, .val (.long xc), .second, .val (.long xd), .second, .val (.int k), .val (.int sh), .unset, .unset, .unset, .unset, .unset, .unset, .unset, .unset, .unset, .unset, .unset, .unset, .unset, .unset, .unset, .unset, .unset, .unset, .unset, .unset, .unset, .unset, .unset] [(.int (0 : Int32)), (.int k), (.long xa)])) _
      refine XS.iload X0.here hx rfl (hb hby at_13) rfl ?_
      show Steps p.tables e below (s₁.setTop (mkF m 15 #[.val (.long xa), .second, .val (.long xb), .second, .val (.long xc), .second, .val (.long xd), .second, .val (.int k), .val (.int sh), .unset, .unset, .unset, .unset, .unset, .unset, .unset, .unset, .unset, .unset, .unset, .unset, .unset, .unset, .unset, .unset, .unset, .unset, .unset, .unset, .unset, .unset, .unset] [(.int sh), (.int (0 : Int32)), (.int k), (.long xa)])) _
      refine st1 _ ?_
      show Steps p.tables e below (T1.setTop (mkF m 18 #[.val (.long xa), .second, .val (.long xb), .second, .val (.long xc), .second, .val (.long xd), .second, .val (.int k), .val (.int sh), .unset, .unset, .unset, .unset, .unset, .unset, .unset, .unset, .unset, .unset, .unset, .unset, .unset, .unset, .unset, .unset, .unset, .unset, .unset, .unset, .unset, .unset, .unset] [(.long tp)])) _
      refine XS.lstore X1.here hx rfl (hb hby at_18) rfl (l' := #[.val (.long xa), .second, .val (.long xb), .second, .val (.long xc), .second, .val (.long xd), .second, .val (.int k), .val (.int sh), .val (.long tp), .second, .unset, .unset, .unset, .unset, .unset, .unset, .unset, .unset, .unset, .unset, .unset, .unset, .unset, .unset, .unset, .unset, .unset, .unset, .unset, .unset, .unset]) rfl ?_
      show Steps p.tables e below (T1.setTop (mkF m 20 #[.val (.long xa), .second, .val (.long xb), .second, .val (.long xc), .second, .val (.long xd), .second, .val (.int k), .val (.int sh), .val (.long tp), .second, .unset, .unset, .unset, .unset, .unset, .unset, .unset, .unset, .unset, .unset, .unset, .unset, .unset, .unset, .unset, .unset, .unset, .unset, .unset, .unset, .unset] [])) _
      refine XS.lloadN X1.here hx rfl (hb hby at_20) rfl ?_
      show Steps p.tables e below (T1.setTop (mkF m 21 #[.val (.long xa), .second, .val (.long xb), .second, .val (.long xc), .second, .val (.long xd), .second, .val (.int k), .val (.int sh), .val (.long tp), .second, .unset, .unset, .unset, .unset, .unset, .unset, .unset, .unset, .unset, .unset, .unset, .unset, .unset, .unset, .unset, .unset, .unset, .unset, .unset, .unset, .unset] [(.long xb)])) _
      refine XS.iload X1.here hx rfl (hb hby at_21) rfl ?_
      show Steps p.tables e below (T1.setTop (mkF m 23 #[.val (.long xa), .second, .val (.long xb), .second, .val (.long xc), .second, .val (.long xd), .second, .val (.int k), .val (.int sh), .val (.long tp), .second, .unset, .unset, .unset, .unset, .unset, .unset, .unset, .unset, .unset, .unset, .unset, .unset, .unset, .unset, .unset, .unset, .unset, .unset, .unset, .unset, .unset] [(.int k), (.long xb)])) _
      refine XS.iconst X1.here hx rfl (hb hby at_23) ?_
      show Steps p.tables e below (T1.setTop (mkF m 24 #[.val (.long xa), .second, .val (.long xb), .second, .val (.long xc), .second, .val (.long xd), .second, .val (.int k), .val (.int sh), .val (.long tp), .second, .unset, .unset, .unset, .unset, .unset, .unset, .unset, .unset, .unset, .unset, .unset, .unset, .unset, .unset, .unset, .unset, .unset, .unset, .unset, .unset, .unset] [(.int (1 : Int32)), (.int k), (.long xb)])) _
      refine XS.iload X1.here hx rfl (hb hby at_24) rfl ?_
      show Steps p.tables e below (T1.setTop (mkF m 26 #[.val (.long xa), .second, .val (.long xb), .second, .val (.long xc), .second, .val (.long xd), .second, .val (.int k), .val (.int sh), .val (.long tp), .second, .unset, .unset, .unset, .unset, .unset, .unset, .unset, .unset, .unset, .unset, .unset, .unset, .unset, .unset, .unset, .unset, .unset, .unset, .unset, .unset, .unset] [(.int sh), (.int (1 : Int32)), (.int k), (.long xb)])) _
      refine st2 _ ?_
      show Steps p.tables e below (T2.setTop (mkF m 29 #[.val (.long xa), .second, .val (.long xb), .second, .val (.long xc), .second, .val (.long xd), .second, .val (.int k), .val (.int sh), .val (.long tp), .second, .unset, .unset, .unset, .unset, .unset, .unset, .unset, .unset, .unset, .unset, .unset, .unset, .unset, .unset, .unset, .unset, .unset, .unset, .unset, .unset, .unset] [(.long fn)])) _
      refine XS.lstore X2.here hx rfl (hb hby at_29) rfl (l' := #[.val (.long xa), .second, .val (.long xb), .second, .val (.long xc), .second, .val (.long xd), .second, .val (.int k), .val (.int sh), .val (.long tp), .second, .val (.long fn), .second, .unset, .unset, .unset, .unset, .unset, .unset, .unset, .unset, .unset, .unset, .unset, .unset, .unset, .unset, .unset, .unset, .unset, .unset, .unset]) rfl ?_
      show Steps p.tables e below (T2.setTop (mkF m 31 #[.val (.long xa), .second, .val (.long xb), .second, .val (.long xc), .second, .val (.long xd), .second, .val (.int k), .val (.int sh), .val (.long tp), .second, .val (.long fn), .second, .unset, .unset, .unset, .unset, .unset, .unset, .unset, .unset, .unset, .unset, .unset, .unset, .unset, .unset, .unset, .unset, .unset, .unset, .unset] [])) _
      refine XS.lload X2.here hx rfl (hb hby at_31) rfl ?_
      show Steps p.tables e below (T2.setTop (mkF m 33 #[.val (.long xa), .second, .val (.long xb), .second, .val (.long xc), .second, .val (.long xd), .second, .val (.int k), .val (.int sh), .val (.long tp), .second, .val (.long fn), .second, .unset, .unset, .unset, .unset, .unset, .unset, .unset, .unset, .unset, .unset, .unset, .unset, .unset, .unset, .unset, .unset, .unset, .unset, .unset] [(.long xc)])) _
      refine XS.iload X2.here hx rfl (hb hby at_33) rfl ?_
      show Steps p.tables e below (T2.setTop (mkF m 35 #[.val (.long xa), .second, .val (.long xb), .second, .val (.long xc), .second, .val (.long xd), .second, .val (.int k), .val (.int sh), .val (.long tp), .second, .val (.long fn), .second, .unset, .unset, .unset, .unset, .unset, .unset, .unset, .unset, .unset, .unset, .unset, .unset, .unset, .unset, .unset, .unset, .unset, .unset, .unset] [(.int k), (.long xc)])) _
      refine XS.iconst X2.here hx rfl (hb hby at_35) ?_
      show Steps p.tables e below (T2.setTop (mkF m 36 #[.val (.long xa), .second, .val (.long xb), .second, .val (.long xc), .second, .val (.long xd), .second, .val (.int k), .val (.int sh), .val (.long tp), .second, .val (.long fn), .second, .unset, .unset, .unset, .unset, .unset, .unset, .unset, .unset, .unset, .unset, .unset, .unset, .unset, .unset, .unset, .unset, .unset, .unset, .unset] [(.int (2 : Int32)), (.int k), (.long xc)])) _
      refine XS.iload X2.here hx rfl (hb hby at_36) rfl ?_
      show Steps p.tables e below (T2.setTop (mkF m 38 #[.val (.long xa), .second, .val (.long xb), .second, .val (.long xc), .second, .val (.long xd), .second, .val (.int k), .val (.int sh), .val (.long tp), .second, .val (.long fn), .second, .unset, .unset, .unset, .unset, .unset, .unset, .unset, .unset, .unset, .unset, .unset, .unset, .unset, .unset, .unset, .unset, .unset, .unset, .unset] [(.int sh), (.int (2 : Int32)), (.int k), (.long xc)])) _
      refine st3 _ ?_
      show Steps p.tables e below (T3.setTop (mkF m 41 #[.val (.long xa), .second, .val (.long xb), .second, .val (.long xc), .second, .val (.long xd), .second, .val (.int k), .val (.int sh), .val (.long tp), .second, .val (.long fn), .second, .unset, .unset, .unset, .unset, .unset, .unset, .unset, .unset, .unset, .unset, .unset, .unset, .unset, .unset, .unset, .unset, .unset, .unset, .unset] [(.long fp)])) _
      refine XS.lstore X3.here hx rfl (hb hby at_41) rfl (l' := #[.val (.long xa), .second, .val (.long xb), .second, .val (.long xc), .second, .val (.long xd), .second, .val (.int k), .val (.int sh), .val (.long tp), .second, .val (.long fn), .second, .val (.long fp), .second, .unset, .unset, .unset, .unset, .unset, .unset, .unset, .unset, .unset, .unset, .unset, .unset, .unset, .unset, .unset, .unset, .unset]) rfl ?_
      show Steps p.tables e below (T3.setTop (mkF m 43 #[.val (.long xa), .second, .val (.long xb), .second, .val (.long xc), .second, .val (.long xd), .second, .val (.int k), .val (.int sh), .val (.long tp), .second, .val (.long fn), .second, .val (.long fp), .second, .unset, .unset, .unset, .unset, .unset, .unset, .unset, .unset, .unset, .unset, .unset, .unset, .unset, .unset, .unset, .unset, .unset] [])) _
      refine XS.lload X3.here hx rfl (hb hby at_43) rfl ?_
      show Steps p.tables e below (T3.setTop (mkF m 45 #[.val (.long xa), .second, .val (.long xb), .second, .val (.long xc), .second, .val (.long xd), .second, .val (.int k), .val (.int sh), .val (.long tp), .second, .val (.long fn), .second, .val (.long fp), .second, .unset, .unset, .unset, .unset, .unset, .unset, .unset, .unset, .unset, .unset, .unset, .unset, .unset, .unset, .unset, .unset, .unset] [(.long xd)])) _
      refine XS.iload X3.here hx rfl (hb hby at_45) rfl ?_
      show Steps p.tables e below (T3.setTop (mkF m 47 #[.val (.long xa), .second, .val (.long xb), .second, .val (.long xc), .second, .val (.long xd), .second, .val (.int k), .val (.int sh), .val (.long tp), .second, .val (.long fn), .second, .val (.long fp), .second, .unset, .unset, .unset, .unset, .unset, .unset, .unset, .unset, .unset, .unset, .unset, .unset, .unset, .unset, .unset, .unset, .unset] [(.int k), (.long xd)])) _
      refine XS.iconst X3.here hx rfl (hb hby at_47) ?_
      show Steps p.tables e below (T3.setTop (mkF m 48 #[.val (.long xa), .second, .val (.long xb), .second, .val (.long xc), .second, .val (.long xd), .second, .val (.int k), .val (.int sh), .val (.long tp), .second, .val (.long fn), .second, .val (.long fp), .second, .unset, .unset, .unset, .unset, .unset, .unset, .unset, .unset, .unset, .unset, .unset, .unset, .unset, .unset, .unset, .unset, .unset] [(.int (3 : Int32)), (.int k), (.long xd)])) _
      refine XS.iload X3.here hx rfl (hb hby at_48) rfl ?_
      show Steps p.tables e below (T3.setTop (mkF m 50 #[.val (.long xa), .second, .val (.long xb), .second, .val (.long xc), .second, .val (.long xd), .second, .val (.int k), .val (.int sh), .val (.long tp), .second, .val (.long fn), .second, .val (.long fp), .second, .unset, .unset, .unset, .unset, .unset, .unset, .unset, .unset, .unset, .unset, .unset, .unset, .unset, .unset, .unset, .unset, .unset] [(.int sh), (.int (3 : Int32)), (.int k), (.long xd)])) _
      refine st4 _ ?_
      show Steps p.tables e below (T4.setTop (mkF m 53 #[.val (.long xa), .second, .val (.long xb), .second, .val (.long xc), .second, .val (.long xd), .second, .val (.int k), .val (.int sh), .val (.long tp), .second, .val (.long fn), .second, .val (.long fp), .second, .unset, .unset, .unset, .unset, .unset, .unset, .unset, .unset, .unset, .unset, .unset, .unset, .unset, .unset, .unset, .unset, .unset] [(.long tn)])) _
      refine XS.lstore X4.here hx rfl (hb hby at_53) rfl (l' := #[.val (.long xa), .second, .val (.long xb), .second, .val (.long xc), .second, .val (.long xd), .second, .val (.int k), .val (.int sh), .val (.long tp), .second, .val (.long fn), .second, .val (.long fp), .second, .val (.long tn), .second, .unset, .unset, .unset, .unset, .unset, .unset, .unset, .unset, .unset, .unset, .unset, .unset, .unset, .unset, .unset]) rfl ?_
      show Steps p.tables e below (T4.setTop (mkF m 55 #[.val (.long xa), .second, .val (.long xb), .second, .val (.long xc), .second, .val (.long xd), .second, .val (.int k), .val (.int sh), .val (.long tp), .second, .val (.long fn), .second, .val (.long fp), .second, .val (.long tn), .second, .unset, .unset, .unset, .unset, .unset, .unset, .unset, .unset, .unset, .unset, .unset, .unset, .unset, .unset, .unset] [])) _
      refine st5 _ ?_
      show Steps p.tables e below (T5.setTop (mkF m 58 #[.val (.long xa), .second, .val (.long xb), .second, .val (.long xc), .second, .val (.long xd), .second, .val (.int k), .val (.int sh), .val (.long tp), .second, .val (.long fn), .second, .val (.long fp), .second, .val (.long tn), .second, .unset, .unset, .unset, .unset, .unset, .unset, .unset, .unset, .unset, .unset, .unset, .unset, .unset, .unset, .unset] [(.ref a5)])) _
      refine XS.dup X5.here hx rfl (hb hby at_58) rfl rfl ?_
      show Steps p.tables e below (T5.setTop (mkF m 59 #[.val (.long xa), .second, .val (.long xb), .second, .val (.long xc), .second, .val (.long xd), .second, .val (.int k), .val (.int sh), .val (.long tp), .second, .val (.long fn), .second, .val (.long fp), .second, .val (.long tn), .second, .unset, .unset, .unset, .unset, .unset, .unset, .unset, .unset, .unset, .unset, .unset, .unset, .unset, .unset, .unset] [(.ref a5), (.ref a5)])) _
      refine XS.lload X5.here hx rfl (hb hby at_59) rfl ?_
      show Steps p.tables e below (T5.setTop (mkF m 61 #[.val (.long xa), .second, .val (.long xb), .second, .val (.long xc), .second, .val (.long xd), .second, .val (.int k), .val (.int sh), .val (.long tp), .second, .val (.long fn), .second, .val (.long fp), .second, .val (.long tn), .second, .unset, .unset, .unset, .unset, .unset, .unset, .unset, .unset, .unset, .unset, .unset, .unset, .unset, .unset, .unset] [(.long tp), (.ref a5), (.ref a5)])) _
      refine XS.lload X5.here hx rfl (hb hby at_61) rfl ?_
      show Steps p.tables e below (T5.setTop (mkF m 63 #[.val (.long xa), .second, .val (.long xb), .second, .val (.long xc), .second, .val (.long xd), .second, .val (.int k), .val (.int sh), .val (.long tp), .second, .val (.long fn), .second, .val (.long fp), .second, .val (.long tn), .second, .unset, .unset, .unset, .unset, .unset, .unset, .unset, .unset, .unset, .unset, .unset, .unset, .unset, .unset, .unset] [(.long fn), (.long tp), (.ref a5), (.ref a5)])) _
      refine XS.lload X5.here hx rfl (hb hby at_63) rfl ?_
      show Steps p.tables e below (T5.setTop (mkF m 65 #[.val (.long xa), .second, .val (.long xb), .second, .val (.long xc), .second, .val (.long xd), .second, .val (.int k), .val (.int sh), .val (.long tp), .second, .val (.long fn), .second, .val (.long fp), .second, .val (.long tn), .second, .unset, .unset, .unset, .unset, .unset, .unset, .unset, .unset, .unset, .unset, .unset, .unset, .unset, .unset, .unset] [(.long fp), (.long fn), (.long tp), (.ref a5), (.ref a5)])) _
      refine XS.lload X5.here hx rfl (hb hby at_65) rfl ?_
      show Steps p.tables e below (T5.setTop (mkF m 67 #[.val (.long xa), .second, .val (.long xb), .second, .val (.long xc), .second, .val (.long xd), .second, .val (.int k), .val (.int sh), .val (.long tp), .second, .val (.long fn), .second, .val (.long fp), .second, .val (.long tn), .second, .unset, .unset, .unset, .unset, .unset, .unset, .unset, .unset, .unset, .unset, .unset, .unset, .unset, .unset, .unset] [(.long tn), (.long fp), (.long fn), (.long tp), (.ref a5), (.ref a5)])) _
      refine st6.trans ?_
      show Steps p.tables e below (T6.setTop (mkF m 70 #[.val (.long xa), .second, .val (.long xb), .second, .val (.long xc), .second, .val (.long xd), .second, .val (.int k), .val (.int sh), .val (.long tp), .second, .val (.long fn), .second, .val (.long fp), .second, .val (.long tn), .second, .unset, .unset, .unset, .unset, .unset, .unset, .unset, .unset, .unset, .unset, .unset, .unset, .unset, .unset, .unset] [(.ref a5)])) _
      refine XS.astore X6.here hx rfl (hb hby at_70) rfl rfl (l' := #[.val (.long xa), .second, .val (.long xb), .second, .val (.long xc), .second, .val (.long xd), .second, .val (.int k), .val (.int sh), .val (.long tp), .second, .val (.long fn), .second, .val (.long fp), .second, .val (.long tn), .second, .val (.ref a5), .unset, .unset, .unset, .unset, .unset, .unset, .unset, .unset, .unset, .unset, .unset, .unset, .unset, .unset]) rfl ?_
      show Steps p.tables e below (T6.setTop (mkF m 72 #[.val (.long xa), .second, .val (.long xb), .second, .val (.long xc), .second, .val (.long xd), .second, .val (.int k), .val (.int sh), .val (.long tp), .second, .val (.long fn), .second, .val (.long fp), .second, .val (.long tn), .second, .val (.ref a5), .unset, .unset, .unset, .unset, .unset, .unset, .unset, .unset, .unset, .unset, .unset, .unset, .unset, .unset] [])) _
      refine XS.aload X6.here hx rfl (hb hby at_72) rfl rfl ?_
      show Steps p.tables e below (T6.setTop (mkF m 74 #[.val (.long xa), .second, .val (.long xb), .second, .val (.long xc), .second, .val (.long xd), .second, .val (.int k), .val (.int sh), .val (.long tp), .second, .val (.long fn), .second, .val (.long fp), .second, .val (.long tn), .second, .val (.ref a5), .unset, .unset, .unset, .unset, .unset, .unset, .unset, .unset, .unset, .unset, .unset, .unset, .unset, .unset] [(.ref a5)])) _
      refine st7.trans ?_
      show Steps p.tables e below (T7.setTop (mkF m 77 #[.val (.long xa), .second, .val (.long xb), .second, .val (.long xc), .second, .val (.long xd), .second, .val (.int k), .val (.int sh), .val (.long tp), .second, .val (.long fn), .second, .val (.long fp), .second, .val (.long tn), .second, .val (.ref a5), .unset, .unset, .unset, .unset, .unset, .unset, .unset, .unset, .unset, .unset, .unset, .unset, .unset, .unset] [(.double (FP.ddiv (own_num tp fn fp tn) (own_den tp fn fp tn)))])) _
      refine XS.dstore X7.here hx rfl (hb hby at_77) rfl (l' := #[.val (.long xa), .second, .val (.long xb), .second, .val (.long xc), .second, .val (.long xd), .second, .val (.int k), .val (.int sh), .val (.long tp), .second, .val (.long fn), .second, .val (.long fp), .second, .val (.long tn), .second, .val (.ref a5), .val (.double (FP.ddiv (own_num tp fn fp tn) (own_den tp fn fp tn))), .second, .unset, .unset, .unset, .unset, .unset, .unset, .unset, .unset, .unset, .unset, .unset, .unset]) rfl ?_
      show Steps p.tables e below (T7.setTop (mkF m 79 #[.val (.long xa), .second, .val (.long xb), .second, .val (.long xc), .second, .val (.long xd), .second, .val (.int k), .val (.int sh), .val (.long tp), .second, .val (.long fn), .second, .val (.long fp), .second, .val (.long tn), .second, .val (.ref a5), .val (.double (FP.ddiv (own_num tp fn fp tn) (own_den tp fn fp tn))), .second, .unset, .unset, .unset, .unset, .unset, .unset, .unset, .unset, .unset, .unset, .unset, .unset] [])) _
      refine XS.lload X7.here hx rfl (hb hby at_79) rfl ?_
      show Steps p.tables e below (T7.setTop (mkF m 81 #[.val (.long xa), .second, .val (.long xb), .second, .val (.long xc), .second, .val (.long xd), .second, .val (.int k), .val (.int sh), .val (.long tp), .second, .val (.long fn), .second, .val (.long fp), .second, .val (.long tn), .second, .val (.ref a5), .val (.double (FP.ddiv (own_num tp fn fp tn) (own_den tp fn fp tn))), .second, .unset, .unset, .unset, .unset, .unset, .unset, .unset, .unset, .unset, .unset, .unset, .unset] [(.long fn)])) _
      refine XS.lconst X7.here hx rfl (hb hby at_81) ?_
      show Steps p.tables e below (T7.setTop (mkF m 82 #[.val (.long xa), .second, .val (.long xb), .second, .val (.long xc), .second, .val (.long xd), .second, .val (.int k), .val (.int sh), .val (.long tp), .second, .val (.long fn), .second, .val (.long fp), .second, .val (.long tn), .second, .val (.ref a5), .val (.double (FP.ddiv (own_num tp fn fp tn) (own_den tp fn fp tn))), .second, .unset, .unset, .unset, .unset, .unset, .unset, .unset, .unset, .unset, .unset, .unset, .unset] [(.long (0 : Int64)), (.long fn)])) _
      refine XS.lcmp X7.here hx rfl (hb hby at_82) rfl ?_
      show Steps p.tables e below (T7.setTop (mkF m 83 #[.val (.long xa), .second, .val (.long xb), .second, .val (.long xc), .second, .val (.long xd), .second, .val (.int k), .val (.int sh), .val (.long tp), .second, .val (.long fn), .second, .val (.long fp), .second, .val (.long tn), .second, .val (.ref a5), .val (.double (FP.ddiv (own_num tp fn fp tn) (own_den tp fn fp tn))), .second, .unset, .unset, .unset, .unset, .unset, .unset, .unset, .unset, .unset, .unset, .unset, .unset] [(.int (lcmpW fn (0 : Int64)))])) _
      refine XS.ifYes X7.here hx rfl (pc0 := 83) (pc' := 99) rfl (hb hby at_83) rfl ((Jvm.Own.holdsL _ _ _).trans (Jvm.Own.dT c1)) (by decide) (by decide) ?_
      show Steps p.tables e below (T7.setTop (mkF m 99 #[.val (.long xa), .second, .val (.long xb), .second, .val (.long xc), .second, .val (.long xd), .second, .val (.int k), .val (.int sh), .val (.long tp), .second, .val (.long fn), .second, .val (.long fp), .second, .val (.long tn), .second, .val (.ref a5), .val (.double (FP.ddiv (own_num tp fn fp tn) (own_den tp fn fp tn))), .second, .unset, .unset, .unset, .unset, .unset, .unset, .unset, .unset, .unset, .unset, .unset, .unset] [])) _
      refine XS.lload X7.here hx rfl (hb hby at_99) rfl ?_
      show Steps p.tables e below (T7.setTop (mkF m 101 #[.val (.long xa), .second, .val (.long xb), .second, .val (.long xc), .second, .val (.long xd), .second, .val (.int k), .val (.int sh), .val (.long tp), .second, .val (.long fn), .second, .val (.long fp), .second, .val (.long tn), .second, .val (.ref a5), .val (.double (FP.ddiv (own_num tp fn fp tn) (own_den tp fn fp tn))), .second, .unset, .unset, .unset, .unset, .unset, .unset, .unset, .unset, .unset, .unset, .unset, .unset] [(.long tp)])) _
      refine XS.lload X7.here hx rfl (hb hby at_101) rfl ?_
      show Steps p.tables e below (T7.setTop (mkF m 103 #[.val (.long xa), .second, .val (.long xb), .second, .val (.long xc), .second, .val (.long xd), .second, .val (.int k), .val (.int sh), .val (.long tp), .second, .val (.long fn), .second, .val (.long fp), .second, .val (.long tn), .second, .val (.ref a5), .val (.double (FP.ddiv (own_num tp fn fp tn) (own_den tp fn fp tn))), .second, .unset, .unset, .unset, .unset, .unset, .unset, .unset, .unset, .unset, .unset, .unset, .unset] [(.long fn), (.long tp)])) _
      refine XS.ladd X7.here hx rfl (hb hby at_103) rfl ?_
      show Steps p.tables e below (T7.setTop (mkF m 104 #[.val (.long xa), .second, .val (.long xb), .second, .val (.long xc), .second, .val (.long xd), .second, .val (.int k), .val (.int sh), .val (.long tp), .second, .val (.long fn), .second, .val (.long fp), .second, .val (.long tn), .second, .val (.ref a5), .val (.double (FP.ddiv (own_num tp fn fp tn) (own_den tp fn fp tn))), .second, .unset, .unset, .unset, .unset, .unset, .unset, .unset, .unset, .unset, .unset, .unset, .unset] [(.long (tp + fn))])) _
      refine XS.lload X7.here hx rfl (hb hby at_104) rfl ?_
      show Steps p.tables e below (T7.setTop (mkF m 106 #[.val (.long xa), .second, .val (.long xb), .second, .val (.long xc), .second, .val (.long xd), .second, .val (.int k), .val (.int sh), .val (.long tp), .second, .val (.long fn), .second, .val (.long fp), .second, .val (.long tn), .second, .val (.ref a5), .val (.double (FP.ddiv (own_num tp fn fp tn) (own_den tp fn fp tn))), .second, .unset, .unset, .unset, .unset, .unset, .unset, .unset, .unset, .unset, .unset, .unset, .unset] [(.long fp), (.long (tp + fn))])) _
      refine XS.ladd X7.here hx rfl (hb hby at_106) rfl ?_
      show Steps p.tables e below (T7.setTop (mkF m 107 #[.val (.long xa), .second, .val (.long xb), .second, .val (.long xc), .second, .val (.long xd), .second, .val (.int k), .val (.int sh), .val (.long tp), .second, .val (.long fn), .second, .val (.long fp), .second, .val (.long tn), .second, .val (.ref a5), .val (.double (FP.ddiv (own_num tp fn fp tn) (own_den tp fn fp tn))), .second, .unset, .unset, .unset, .unset, .unset, .unset, .unset, .unset, .unset, .unset, .unset, .unset] [(.long ((tp + fn) + fp))])) _
      refine XS.lload X7.here hx rfl (hb hby at_107) rfl ?_
      show Steps p.tables e below (T7.setTop (mkF m 109 #[.val (.long xa), .second, .val (.long xb), .second, .val (.long xc), .second, .val (.long xd), .second, .val (.int k), .val (.int sh), .val (.long tp), .second, .val (.long fn), .second, .val (.long fp), .second, .val (.long tn), .second, .val (.ref a5), .val (.double (FP.ddiv (own_num tp fn fp tn) (own_den tp fn fp tn))), .second, .unset, .unset, .unset, .unset, .unset, .unset, .unset, .unset, .unset, .unset, .unset, .unset] [(.long tn), (.long ((tp + fn) + fp))])) _
      refine XS.ladd X7.here hx rfl (hb hby at_109) rfl ?_
      rw [hall]
      show Steps p.tables e below (T7.setTop (mkF m 110 #[.val (.long xa), .second, .val (.long xb), .second, .val (.long xc), .second, .val (.long xd), .second, .val (.int k), .val (.int sh), .val (.long tp), .second, .val (.long fn), .second, .val (.long fp), .second, .val (.long tn), .second, .val (.ref a5), .val (.double (FP.ddiv (own_num tp fn fp tn) (own_den tp fn fp tn))), .second, .unset, .unset, .unset, .unset, .unset, .unset, .unset, .unset, .unset, .unset, .unset, .unset] [(.long all)])) _
      refine XS.lstore X7.here hx rfl (hb hby at_110) rfl (l' := #[.val (.long xa), .second, .val (.long xb), .second, .val (.long xc), .second, .val (.long xd), .second, .val (.int k), .val (.int sh), .val (.long tp), .second, .val (.long fn), .second, .val (.long fp), .second, .val (.long tn), .second, .val (.ref a5), .val (.double (FP.ddiv (own_num tp fn fp tn) (own_den tp fn fp tn))), .second, .unset, .unset, .val (.long all), .second, .unset, .unset, .unset, .unset, .unset, .unset, .unset, .unset]) rfl ?_
      show Steps p.tables e below (T7.setTop (mkF m 112 #[.val (.long xa), .second, .val (.long xb), .second, .val (.long xc), .second, .val (.long xd), .second, .val (.int k), .val (.int sh), .val (.long tp), .second, .val (.long fn), .second, .val (.long fp), .second, .val (.long tn), .second, .val (.ref a5), .val (.double (FP.ddiv (own_num tp fn fp tn) (own_den tp fn fp tn))), .second, .unset, .unset, .val (.long all), .second, .unset, .unset, .unset, .unset, .unset, .unset, .unset, .unset] [])) _
      refine XS.lload X7.here hx rfl (hb hby at_112) rfl ?_
      show Steps p.tables e below (T7.setTop (mkF m 114 #[.val (.long xa), .second, .val (.long xb), .second, .val (.long xc), .second, .val (.long xd), .second, .val (.int k), .val (.int sh), .val (.long tp), .second, .val (.long fn), .second, .val (.long fp), .second, .val (.long tn), .second, .val (.ref a5), .val (.double (FP.ddiv (own_num tp fn fp tn) (own_den tp fn fp tn))), .second, .unset, .unset, .val (.long all), .second, .unset, .unset, .unset, .unset, .unset, .unset, .unset, .unset] [(.long tp)])) _
      refine XS.lload X7.here hx rfl (hb hby at_114) rfl ?_
      show Steps p.tables e below (T7.setTop (mkF m 116 #[.val (.long xa), .second, .val (.long xb), .second, .val (.long xc), .second, .val (.long xd), .second, .val (.int k), .val (.int sh), .val (.long tp), .second, .val (.long fn), .second, .val (.long fp), .second, .val (.long tn), .second, .val (.ref a5), .val (.double (FP.ddiv (own_num tp fn fp tn) (own_den tp fn fp tn))), .second, .unset, .unset, .val (.long all), .second, .unset, .unset, .unset, .unset, .unset, .unset, .unset, .unset] [(.long fp), (.long tp)])) _
      refine XS.ladd X7.here hx rfl (hb hby at_116) rfl ?_
      rw [hsA]
      show Steps p.tables e below (T7.setTop (mkF m 117 #[.val (.long xa), .second, .val (.long xb), .second, .val (.long xc), .second, .val (.long xd), .second, .val (.int k), .val (.int sh), .val (.long tp), .second, .val (.long fn), .second, .val (.long fp), .second, .val (.long tn), .second, .val (.ref a5), .val (.double (FP.ddiv (own_num tp fn fp tn) (own_den tp fn fp tn))), .second, .unset, .unset, .val (.long all), .second, .unset, .unset, .unset, .unset, .unset, .unset, .unset, .unset] [(.long sA)])) _
      refine XS.lstore X7.here hx rfl (hb hby at_117) rfl (l' := #[.val (.long xa), .second, .val (.long xb), .second, .val (.long xc), .second, .val (.long xd), .second, .val (.int k), .val (.int sh), .val (.long tp), .second, .val (.long fn), .second, .val (.long fp), .second, .val (.long tn), .second, .val (.ref a5), .val (.double (FP.ddiv (own_num tp fn fp tn) (own_den tp fn fp tn))), .second, .unset, .unset, .val (.long all), .second, .val (.long sA), .second, .unset, .unset, .unset, .unset, .unset, .unset]) rfl ?_
      show Steps p.tables e below (T7.setTop (mkF m 119 #[.val (.long xa), .second, .val (.long xb), .second, .val (.long xc), .second, .val (.long xd), .second, .val (.int k), .val (.int sh), .val (.long tp), .second, .val (.long fn), .second, .val (.long fp), .second, .val (.long tn), .second, .val (.ref a5), .val (.double (FP.ddiv (own_num tp fn fp tn) (own_den tp fn fp tn))), .second, .unset, .unset, .val (.long all), .second, .val (.long sA), .second, .unset, .unset, .unset, .unset, .unset, .unset] [])) _
      refine XS.lload X7.here hx rfl (hb hby at_119) rfl ?_
      show Steps p.tables e below (T7.setTop (mkF m 121 #[.val (.long xa), .second, .val (.long xb), .second, .val (.long xc), .second, .val (.long xd), .second, .val (.int k), .val (.int sh), .val (.long tp), .second, .val (.long fn), .second, .val (.long fp), .second, .val (.long tn), .second, .val (.ref a5), .val (.double (FP.ddiv (own_num tp fn fp tn) (own_den tp fn fp tn))), .second, .unset, .unset, .val (.long all), .second, .val (.long sA), .second, .unset, .unset, .unset, .unset, .unset, .unset] [(.long tp)])) _
      refine XS.lload X7.here hx rfl (hb hby at_121) rfl ?_
      show Steps p.tables e below (T7.setTop (mkF m 123 #[.val (.long xa), .second, .val (.long xb), .second, .val (.long xc), .second, .val (.long xd), .second, .val (.int k), .val (.int sh), .val (.long tp), .second, .val (.long fn), .second, .val (.long fp), .second, .val (.long tn), .second, .val (.ref a5), .val (.double (FP.ddiv (own_num tp fn fp tn) (own_den tp fn fp tn))), .second, .unset, .unset, .val (.long all), .second, .val (.long sA), .second, .unset, .unset, .unset, .unset, .unset, .unset] [(.long fn), (.long tp)])) _
      refine XS.ladd X7.here hx rfl (hb hby at_123) rfl ?_
      rw [hsB]
      show Steps p.tables e below (T7.setTop (mkF m 124 #[.val (.long xa), .second, .val (.long xb), .second, .val (.long xc), .second, .val (.long xd), .second, .val (.int k), .val (.int sh), .val (.long tp), .second, .val (.long fn), .second, .val (.long fp), .second, .val (.long tn), .second, .val (.ref a5), .val (.double (FP.ddiv (own_num tp fn fp tn) (own_den tp fn fp tn))), .second, .unset, .unset, .val (.long all), .second, .val (.long sA), .second, .unset, .unset, .unset, .unset, .unset, .unset] [(.long sB)])) _
      refine XS.lstore X7.here hx rfl (hb hby at_124) rfl (l' := #[.val (.long xa), .second, .val (.long xb), .second, .val (.long xc), .second, .val (.long xd), .second, .val (.int k), .val (.int sh), .val (.long tp), .second, .val (.long fn), .second, .val (.long fp), .second, .val (.long tn), .second, .val (.ref a5), .val (.double (FP.ddiv (own_num tp fn fp tn) (own_den tp fn fp tn))), .second, .unset, .unset, .val (.long all), .second, .val (.long sA), .second, .val (.long sB), .second, .unset, .unset, .unset, .unset]) rfl ?_
      show Steps p.tables e below (T7.setTop (mkF m 126 #[.val (.long xa), .second, .val (.long xb), .second, .val (.long xc), .second, .val (.long xd), .second, .val (.int k), .val (.int sh), .val (.long tp), .second, .val (.long fn), .second, .val (.long fp), .second, .val (.long tn), .second, .val (.ref a5), .val (.double (FP.ddiv (own_num tp fn fp tn) (own_den tp fn fp tn))), .second, .unset, .unset, .val (.long all), .second, .val (.long sA), .second, .val (.long sB), .second, .unset, .unset, .unset, .unset] [])) _
      refine X7.ldc2Long hx hown (mvT hZ (hw _ (List.mem_of_getElem? (i := 33) rfl))) (g := (mkF m 126 #[.val (.long xa), .second, .val (.long xb), .second, .val (.long xc), .second, .val (.long xd), .second, .val (.int k), .val (.int sh), .val (.long tp), .second, .val (.long fn), .second, .val (.long fp), .second, .val (.long tn), .second, .val (.ref a5), .val (.double (FP.ddiv (own_num tp fn fp tn) (own_den tp fn fp tn))), .second, .unset, .unset, .val (.long all), .second, .val (.long sA), .second, .val (.long sB), .second, .unset, .unset, .unset, .unset] [])) rfl (hb hby at_126) _ ?_
      show Steps p.tables e below (T7.setTop (mkF m 129 #[.val (.long xa), .second, .val (.long xb), .second, .val (.long xc), .second, .val (.long xd), .second, .val (.int k), .val (.int sh), .val (.long tp), .second, .val (.long fn), .second, .val (.long fp), .second, .val (.long tn), .second, .val (.ref a5), .val (.double (FP.ddiv (own_num tp fn fp tn) (own_den tp fn fp tn))), .second, .unset, .unset, .val (.long all), .second, .val (.long sA), .second, .val (.long sB), .second, .unset, .unset, .unset, .unset] [(.long (2 : Int64))])) _
      refine XS.lload X7.here hx rfl (hb hby at_129) rfl ?_
      show Steps p.tables e below (T7.setTop (mkF m 131 #[.val (.long xa), .second, .val (.long xb), .second, .val (.long xc), .second, .val (.long xd), .second, .val (.int k), .val (.int sh), .val (.long tp), .second, .val (.long fn), .second, .val (.long fp), .second, .val (.long tn), .second, .val (.ref a5), .val (.double (FP.ddiv (own_num tp fn fp tn) (own_den tp fn fp tn))), .second, .unset, .unset, .val (.long all), .second, .val (.long sA), .second, .val (.long sB), .second, .unset, .unset, .unset, .unset] [(.long tp), (.long (2 : Int64))])) _
      refine XS.lload X7.here hx rfl (hb hby at_131) rfl ?_
      show Steps p.tables e below (T7.setTop (mkF m 133 #[.val (.long xa), .second, .val (.long xb), .second, .val (.long xc), .second, .val (.long xd), .second, .val (.int k), .val (.int sh), .val (.long tp), .second, .val (.long fn), .second, .val (.long fp), .second, .val (.long tn), .second, .val (.ref a5), .val (.double (FP.ddiv (own_num tp fn fp tn) (own_den tp fn fp tn))), .second, .unset, .unset, .val (.long all), .second, .val (.long sA), .second, .val (.long sB), .second, .unset, .unset, .unset, .unset] [(.long all), (.long tp), (.long (2 : Int64))])) _
      refine XS.lmul X7.here hx rfl (hb hby at_133) rfl ?_
      show Steps p.tables e below (T7.setTop (mkF m 134 #[.val (.long xa), .second, .val (.long xb), .second, .val (.long xc), .second, .val (.long xd), .second, .val (.int k), .val (.int sh), .val (.long tp), .second, .val (.long fn), .second, .val (.long fp), .second, .val (.long tn), .second, .val (.ref a5), .val (.double (FP.ddiv (own_num tp fn fp tn) (own_den tp fn fp tn))), .second, .unset, .unset, .val (.long all), .second, .val (.long sA), .second, .val (.long sB), .second, .unset, .unset, .unset, .unset] [(.long (tp * all)), (.long (2 : Int64))])) _
      refine XS.lload X7.here hx rfl (hb hby at_134) rfl ?_
      show Steps p.tables e below (T7.setTop (mkF m 136 #[.val (.long xa), .second, .val (.long xb), .second, .val (.long xc), .second, .val (.long xd), .second, .val (.int k), .val (.int sh), .val (.long tp), .second, .val (.long fn), .second, .val (.long fp), .second, .val (.long tn), .second, .val (.ref a5), .val (.double (FP.ddiv (own_num tp fn fp tn) (own_den tp fn fp tn))), .second, .unset, .unset, .val (.long all), .second, .val (.long sA), .second, .val (.long sB), .second, .unset, .unset, .unset, .unset] [(.long sA), (.long (tp * all)), (.long (2 : Int64))])) _
      refine XS.lload X7.here hx rfl (hb hby at_136) rfl ?_
      show Steps p.tables e below (T7.setTop (mkF m 138 #[.val (.long xa), .second, .val (.long xb), .second, .val (.long xc), .second, .val (.long xd), .second, .val (.int k), .val (.int sh), .val (.long tp), .second, .val (.long fn), .second, .val (.long fp), .second, .val (.long tn), .second, .val (.ref a5), .val (.double (FP.ddiv (own_num tp fn fp tn) (own_den tp fn fp tn))), .second, .unset, .unset, .val (.long all), .second, .val (.long sA), .second, .val (.long sB), .second, .unset, .unset, .unset, .unset] [(.long sB), (.long sA), (.long (tp * all)), (.long (2 : Int64))])) _
      refine XS.lmul X7.here hx rfl (hb hby at_138) rfl ?_
      show Steps p.tables e below (T7.setTop (mkF m 139 #[.val (.long xa), .second, .val (.long xb), .second, .val (.long xc), .second, .val (.long xd), .second, .val (.int k), .val (.int sh), .val (.long tp), .second, .val (.long fn), .second, .val (.long fp), .second, .val (.long tn), .second, .val (.ref a5), .val (.double (FP.ddiv (own_num tp fn fp tn) (own_den tp fn fp tn))), .second, .unset, .unset, .val (.long all), .second, .val (.long sA), .second, .val (.long sB), .second, .unset, .unset, .unset, .unset] [(.long (sA * sB)), (.long (tp * all)), (.long (2 : Int64))])) _
      refine XS.lsub X7.here hx rfl (hb hby at_139) rfl ?_
      show Steps p.tables e below (T7.setTop (mkF m 140 #[.val (.long xa), .second, .val (.long xb), .second, .val (.long xc), .second, .val (.long xd), .second, .val (.int k), .val (.int sh), .val (.long tp), .second, .val (.long fn), .second, .val (.long fp), .second, .val (.long tn), .second, .val (.ref a5), .val (.double (FP.ddiv (own_num tp fn fp tn) (own_den tp fn fp tn))), .second, .unset, .unset, .val (.long all), .second, .val (.long sA), .second, .val (.long sB), .second, .unset, .unset, .unset, .unset] [(.long ((tp * all) - (sA * sB))), (.long (2 : Int64))])) _
      refine XS.lmul X7.here hx rfl (hb hby at_140) rfl ?_
      rw [hnm']
      show Steps p.tables e below (T7.setTop (mkF m 141 #[.val (.long xa), .second, .val (.long xb), .second, .val (.long xc), .second, .val (.long xd), .second, .val (.int k), .val (.int sh), .val (.long tp), .second, .val (.long fn), .second, .val (.long fp), .second, .val (.long tn), .second, .val (.ref a5), .val (.double (FP.ddiv (own_num tp fn fp tn) (own_den tp fn fp tn))), .second, .unset, .unset, .val (.long all), .second, .val (.long sA), .second, .val (.long sB), .second, .unset, .unset, .unset, .unset] [(.long nm)])) _
      refine XS.lstore X7.here hx rfl (hb hby at_141) rfl (l' := #[.val (.long xa), .second, .val (.long xb), .second, .val (.long xc), .second, .val (.long xd), .second, .val (.int k), .val (.int sh), .val (.long tp), .second, .val (.long fn), .second, .val (.long fp), .second, .val (.long tn), .second, .val (.ref a5), .val (.double (FP.ddiv (own_num tp fn fp tn) (own_den tp fn fp tn))), .second, .unset, .unset, .val (.long all), .second, .val (.long sA), .second, .val (.long sB), .second, .val (.long nm), .second, .unset, .unset]) rfl ?_
      show Steps p.tables e below (T7.setTop (mkF m 143 #[.val (.long xa), .second, .val (.long xb), .second, .val (.long xc), .second, .val (.long xd), .second, .val (.int k), .val (.int sh), .val (.long tp), .second, .val (.long fn), .second, .val (.long fp), .second, .val (.long tn), .second, .val (.ref a5), .val (.double (FP.ddiv (own_num tp fn fp tn) (own_den tp fn fp tn))), .second, .unset, .unset, .val (.long all), .second, .val (.long sA), .second, .val (.long sB), .second, .val (.long nm), .second, .unset, .unset] [])) _
      refine XS.lload X7.here hx rfl (hb hby at_143) rfl ?_
      show Steps p.tables e below (T7.setTop (mkF m 145 #[.val (.long xa), .second, .val (.long xb), .second, .val (.long xc), .second, .val (.long xd), .second, .val (.int k), .val (.int sh), .val (.long tp), .second, .val (.long fn), .second, .val (.long fp), .second, .val (.long tn), .second, .val (.ref a5), .val (.double (FP.ddiv (own_num tp fn fp tn) (own_den tp fn fp tn))), .second, .unset, .unset, .val (.long all), .second, .val (.long sA), .second, .val (.long sB), .second, .val (.long nm), .second, .unset, .unset] [(.long sA)])) _
      refine XS.lload X7.here hx rfl (hb hby at_145) rfl ?_
      show Steps p.tables e below (T7.setTop (mkF m 147 #[.val (.long xa), .second, .val (.long xb), .second, .val (.long xc), .second, .val (.long xd), .second, .val (.int k), .val (.int sh), .val (.long tp), .second, .val (.long fn), .second, .val (.long fp), .second, .val (.long tn), .second, .val (.ref a5), .val (.double (FP.ddiv (own_num tp fn fp tn) (own_den tp fn fp tn))), .second, .unset, .unset, .val (.long all), .second, .val (.long sA), .second, .val (.long sB), .second, .val (.long nm), .second, .unset, .unset] [(.long sB), (.long sA)])) _
      refine XS.ladd X7.here hx rfl (hb hby at_147) rfl ?_
      show Steps p.tables e below (T7.setTop (mkF m 148 #[.val (.long xa), .second, .val (.long xb), .second, .val (.long xc), .second, .val (.long xd), .second, .val (.int k), .val (.int sh), .val (.long tp), .second, .val (.long fn), .second, .val (.long fp), .second, .val (.long tn), .second, .val (.ref a5), .val (.double (FP.ddiv (own_num tp fn fp tn) (own_den tp fn fp tn))), .second, .unset, .unset, .val (.long all), .second, .val (.long sA), .second, .val (.long sB), .second, .val (.long nm), .second, .unset, .unset] [(.long (sA + sB))])) _
      refine XS.lload X7.here hx rfl (hb hby at_148) rfl ?_
      show Steps p.tables e below (T7.setTop (mkF m 150 #[.val (.long xa), .second, .val (.long xb), .second, .val (.long xc), .second, .val (.long xd), .second, .val (.int k), .val (.int sh), .val (.long tp), .second, .val (.long fn), .second, .val (.long fp), .second, .val (.long tn), .second, .val (.ref a5), .val (.double (FP.ddiv (own_num tp fn fp tn) (own_den tp fn fp tn))), .second, .unset, .unset, .val (.long all), .second, .val (.long sA), .second, .val (.long sB), .second, .val (.long nm), .second, .unset, .unset] [(.long all), (.long (sA + sB))])) _
      refine XS.lmul X7.here hx rfl (hb hby at_150) rfl ?_
      show Steps p.tables e below (T7.setTop (mkF m 151 #[.val (.long xa), .second, .val (.long xb), .second, .val (.long xc), .second, .val (.long xd), .second, .val (.int k), .val (.int sh), .val (.long tp), .second, .val (.long fn), .second, .val (.long fp), .second, .val (.long tn), .second, .val (.ref a5), .val (.double (FP.ddiv (own_num tp fn fp tn) (own_den tp fn fp tn))), .second, .unset, .unset, .val (.long all), .second, .val (.long sA), .second, .val (.long sB), .second, .val (.long nm), .second, .unset, .unset] [(.long ((sA + sB) * all))])) _
      refine X7.ldc2Long hx hown (mvT hZ (hw _ (List.mem_of_getElem? (i := 33) rfl))) (g := (mkF m 151 #[.val (.long xa), .second, .val (.long xb), .second, .val (.long xc), .second, .val (.long xd), .second, .val (.int k), .val (.int sh), .val (.long tp), .second, .val (.long fn), .second, .val (.long fp), .second, .val (.long tn), .second, .val (.ref a5), .val (.double (FP.ddiv (own_num tp fn fp tn) (own_den tp fn fp tn))), .second, .unset, .unset, .val (.long all), .second, .val (.long sA), .second, .val (.long sB), .second, .val (.long nm), .second, .unset, .unset] [(.long ((sA + sB) * all))])) rfl (hb hby at_151) _ ?_
      show Steps p.tables e below (T7.setTop (mkF m 154 #[.val (.long xa), .second, .val (.long xb), .second, .val (.long xc), .second, .val (.long xd), .second, .val (.int k), .val (.int sh), .val (.long tp), .second, .val (.long fn), .second, .val (.long fp), .second, .val (.long tn), .second, .val (.ref a5), .val (.double (FP.ddiv (own_num tp fn fp tn) (own_den tp fn fp tn))), .second, .unset, .unset, .val (.long all), .second, .val (.long sA), .second, .val (.long sB), .second, .val (.long nm), .second, .unset, .unset] [(.long (2 : Int64)), (.long ((sA + sB) * all))])) _
      refine XS.lload X7.here hx rfl (hb hby at_154) rfl ?_
      show Steps p.tables e below (T7.setTop (mkF m 156 #[.val (.long xa), .second, .val (.long xb), .second, .val (.long xc), .second, .val (.long xd), .second, .val (.int k), .val (.int sh), .val (.long tp), .second, .val (.long fn), .second, .val (.long fp), .second, .val (.long tn), .second, .val (.ref a5), .val (.double (FP.ddiv (own_num tp fn fp tn) (own_den tp fn fp tn))), .second, .unset, .unset, .val (.long all), .second, .val (.long sA), .second, .val (.long sB), .second, .val (.long nm), .second, .unset, .unset] [(.long sA), (.long (2 : Int64)), (.long ((sA + sB) * all))])) _
      refine XS.lmul X7.here hx rfl (hb hby at_156) rfl ?_
      show Steps p.tables e below (T7.setTop (mkF m 157 #[.val (.long xa), .second, .val (.long xb), .second, .val (.long xc), .second, .val (.long xd), .second, .val (.int k), .val (.int sh), .val (.long tp), .second, .val (.long fn), .second, .val (.long fp), .second, .val (.long tn), .second, .val (.ref a5), .val (.double (FP.ddiv (own_num tp fn fp tn) (own_den tp fn fp tn))), .second, .unset, .unset, .val (.long all), .second, .val (.long sA), .second, .val (.long sB), .second, .val (.long nm), .second, .unset, .unset] [(.long ((2 : Int64) * sA)), (.long ((sA + sB) * all))])) _
      refine XS.lload X7.here hx rfl (hb hby at_157) rfl ?_
      show Steps p.tables e below (T7.setTop (mkF m 159 #[.val (.long xa), .second, .val (.long xb), .second, .val (.long xc), .second, .val (.long xd), .second, .val (.int k), .val (.int sh), .val (.long tp), .second, .val (.long fn), .second, .val (.long fp), .second, .val (.long tn), .second, .val (.ref a5), .val (.double (FP.ddiv (own_num tp fn fp tn) (own_den tp fn fp tn))), .second, .unset, .unset, .val (.long all), .second, .val (.long sA), .second, .val (.long sB), .second, .val (.long nm), .second, .unset, .unset] [(.long sB), (.long ((2 : Int64) * sA)), (.long ((sA + sB) * all))])) _
      refine XS.lmul X7.here hx rfl (hb hby at_159) rfl ?_
      show Steps p.tables e below (T7.setTop (mkF m 160 #[.val (.long xa), .second, .val (.long xb), .second, .val (.long xc), .second, .val (.long xd), .second, .val (.int k), .val (.int sh), .val (.long tp), .second, .val (.long fn), .second, .val (.long fp), .second, .val (.long tn), .second, .val (.ref a5), .val (.double (FP.ddiv (own_num tp fn fp tn) (own_den tp fn fp tn))), .second, .unset, .unset, .val (.long all), .second, .val (.long sA), .second, .val (.long sB), .second, .val (.long nm), .second, .unset, .unset] [(.long (((2 : Int64) * sA) * sB)), (.long ((sA + sB) * all))])) _
      refine XS.lsub X7.here hx rfl (hb hby at_160) rfl ?_
      rw [hdn]
      show Steps p.tables e below (T7.setTop (mkF m 161 #[.val (.long xa), .second, .val (.long xb), .second, .val (.long xc), .second, .val (.long xd), .second, .val (.int k), .val (.int sh), .val (.long tp), .second, .val (.long fn), .second, .val (.long fp), .second, .val (.long tn), .second, .val (.ref a5), .val (.double (FP.ddiv (own_num tp fn fp tn) (own_den tp fn fp tn))), .second, .unset, .unset, .val (.long all), .second, .val (.long sA), .second, .val (.long sB), .second, .val (.long nm), .second, .unset, .unset] [(.long dn)])) _
      refine XS.lstore X7.here hx rfl (hb hby at_161) rfl (l' := #[.val (.long xa), .second, .val (.long xb), .second, .val (.long xc), .second, .val (.long xd), .second, .val (.int k), .val (.int sh), .val (.long tp), .second, .val (.long fn), .second, .val (.long fp), .second, .val (.long tn), .second, .val (.ref a5), .val (.double (FP.ddiv (own_num tp fn fp tn) (own_den tp fn fp tn))), .second, .unset, .unset, .val (.long all), .second, .val (.long sA), .second, .val (.long sB), .second, .val (.long nm), .second, .val (.long dn), .second]) rfl ?_
      show Steps p.tables e below (T7.setTop (mkF m 163 #[.val (.long xa), .second, .val (.long xb), .second, .val (.long xc), .second, .val (.long xd), .second, .val (.int k), .val (.int sh), .val (.long tp), .second, .val (.long fn), .second, .val (.long fp), .second, .val (.long tn), .second, .val (.ref a5), .val (.double (FP.ddiv (own_num tp fn fp tn) (own_den tp fn fp tn))), .second, .unset, .unset, .val (.long all), .second, .val (.long sA), .second, .val (.long sB), .second, .val (.long nm), .second, .val (.long dn), .second] [])) _
      refine XS.lload X7.here hx rfl (hb hby at_163) rfl ?_
      show Steps p.tables e below (T7.setTop (mkF m 165 #[.val (.long xa), .second, .val (.long xb), .second, .val (.long xc), .second, .val (.long xd), .second, .val (.int k), .val (.int sh), .val (.long tp), .second, .val (.long fn), .second, .val (.long fp), .second, .val (.long tn), .second, .val (.ref a5), .val (.double (FP.ddiv (own_num tp fn fp tn) (own_den tp fn fp tn))), .second, .unset, .unset, .val (.long all), .second, .val (.long sA), .second, .val (.long sB), .second, .val (.long nm), .second, .val (.long dn), .second] [(.long dn)])) _
      refine XS.lconst X7.here hx rfl (hb hby at_165) ?_
      show Steps p.tables e below (T7.setTop (mkF m 166 #[.val (.long xa), .second, .val (.long xb), .second, .val (.long xc), .second, .val (.long xd), .second, .val (.int k), .val (.int sh), .val (.long tp), .second, .val (.long fn), .second, .val (.long fp), .second, .val (.long tn), .second, .val (.ref a5), .val (.double (FP.ddiv (own_num tp fn fp tn) (own_den tp fn fp tn))), .second, .unset, .unset, .val (.long all), .second, .val (.long sA), .second, .val (.long sB), .second, .val (.long nm), .second, .val (.long dn), .second] [(.long (0 : Int64)), (.long dn)])) _
      refine XS.lcmp X7.here hx rfl (hb hby at_166) rfl ?_
      show Steps p.tables e below (T7.setTop (mkF m 167 #[.val (.long xa), .second, .val (.long xb), .second, .val (.long xc), .second, .val (.long xd), .second, .val (.int k), .val (.int sh), .val (.long tp), .second, .val (.long fn), .second, .val (.long fp), .second, .val (.long tn), .second, .val (.ref a5), .val (.double (FP.ddiv (own_num tp fn fp tn) (own_den tp fn fp tn))), .second, .unset, .unset, .val (.long all), .second, .val (.long sA), .second, .val (.long sB), .second, .val (.long nm), .second, .val (.long dn), .second] [(.int (lcmpW dn (0 : Int64)))])) _
      refine XS.ifYes X7.here hx rfl (pc0 := 167) (pc' := 172) rfl (hb hby at_167) rfl ((Jvm.Own.holdsL _ _ _).trans (Jvm.Own.dT (both (Or.inl c1)).1)) (by decide) (by decide) ?_
      show Steps p.tables e below (T7.setTop (mkF m 172 #[.val (.long xa), .second, .val (.long xb), .second, .val (.long xc), .second, .val (.long xd), .second, .val (.int k), .val (.int sh), .val (.long tp), .second, .val (.long fn), .second, .val (.long fp), .second, .val (.long tn), .second, .val (.ref a5), .val (.double (FP.ddiv (own_num tp fn fp tn) (own_den tp fn fp tn))), .second, .unset, .unset, .val (.long all), .second, .val (.long sA), .second, .val (.long sB), .second, .val (.long nm), .second, .val (.long dn), .second] [])) _
      refine XS.lload X7.here hx rfl (hb hby at_172) rfl ?_
      show Steps p.tables e below (T7.setTop (mkF m 174 #[.val (.long xa), .second, .val (.long xb), .second, .val (.long xc), .second, .val (.long xd), .second, .val (.int k), .val (.int sh), .val (.long tp), .second, .val (.long fn), .second, .val (.long fp), .second, .val (.long tn), .second, .val (.ref a5), .val (.double (FP.ddiv (own_num tp fn fp tn) (own_den tp fn fp tn))), .second, .unset, .unset, .val (.long all), .second, .val (.long sA), .second, .val (.long sB), .second, .val (.long nm), .second, .val (.long dn), .second] [(.long nm)])) _
      refine XS.l2dS X7.here hx rfl (hb hby at_174) rfl (v := FP.l2d nm) rfl ?_
      show Steps p.tables e below (T7.setTop (mkF m 175 #[.val (.long xa), .second, .val (.long xb), .second, .val (.long xc), .second, .val (.long xd), .second, .val (.int k), .val (.int sh), .val (.long tp), .second, .val (.long fn), .second, .val (.long fp), .second, .val (.long tn), .second, .val (.ref a5), .val (.double (FP.ddiv (own_num tp fn fp tn) (own_den tp fn fp tn))), .second, .unset, .unset, .val (.long all), .second, .val (.long sA), .second, .val (.long sB), .second, .val (.long nm), .second, .val (.long dn), .second] [(.double (FP.l2d nm))])) _
      refine XS.lload X7.here hx rfl (hb hby at_175) rfl ?_
      show Steps p.tables e below (T7.setTop (mkF m 177 #[.val (.long xa), .second, .val (.long xb), .second, .val (.long xc), .second, .val (.long xd), .second, .val (.int k), .val (.int sh), .val (.long tp), .second, .val (.long fn), .second, .val (.long fp), .second, .val (.long tn), .second, .val (.ref a5), .val (.double (FP.ddiv (own_num tp fn fp tn) (own_den tp fn fp tn))), .second, .unset, .unset, .val (.long all), .second, .val (.long sA), .second, .val (.long sB), .second, .val (.long nm), .second, .val (.long dn), .second] [(.long dn), (.double (FP.l2d nm))])) _
      refine XS.l2dS X7.here hx rfl (hb hby at_177) rfl (v := FP.l2d dn) rfl ?_
      show Steps p.tables e below (T7.setTop (mkF m 178 #[.val (.long xa), .second, .val (.long xb), .second, .val (.long xc), .second, .val (.long xd), .second, .val (.int k), .val (.int sh), .val (.long tp), .second, .val (.long fn), .second, .val (.long fp), .second, .val (.long tn), .second, .val (.ref a5), .val (.double (FP.ddiv (own_num tp fn fp tn) (own_den tp fn fp tn))), .second, .unset, .unset, .val (.long all), .second, .val (.long sA), .second, .val (.long sB), .second, .val (.long nm), .second, .val (.long dn), .second] [(.double (FP.l2d dn)), (.double (FP.l2d nm))])) _
      refine XS.ddivS X7.here hx rfl (hb hby at_178) rfl (Jvm.Own.nn (both (Or.inl c1)).2.2.1) (v := FP.ddiv (FP.l2d nm) (FP.l2d dn)) rfl ?_
      show Steps p.tables e below (T7.setTop (mkF m 179 #[.val (.long xa), .second, .val (.long xb), .second, .val (.long xc), .second, .val (.long xd), .second, .val (.int k), .val (.int sh), .val (.long tp), .second, .val (.long fn), .second, .val (.long fp), .second, .val (.long tn), .second, .val (.ref a5), .val (.double (FP.ddiv (own_num tp fn fp tn) (own_den tp fn fp tn))), .second, .unset, .unset, .val (.long all), .second, .val (.long sA), .second, .val (.long sB), .second, .val (.long nm), .second, .val (.long dn), .second] [(.double (FP.ddiv (FP.l2d nm) (FP.l2d dn)))])) _
      refine XS.dstore X7.here hx rfl (hb hby at_179) rfl (l' := #[.val (.long xa), .second, .val (.long xb), .second, .val (.long xc), .second, .val (.long xd), .second, .val (.int k), .val (.int sh), .val (.long tp), .second, .val (.long fn), .second, .val (.long fp), .second, .val (.long tn), .second, .val (.ref a5), .val (.double (FP.ddiv (own_num tp fn fp tn) (own_den tp fn fp tn))), .second, .val (.double (FP.ddiv (FP.l2d nm) (FP.l2d dn))), .second, .val (.long all), .second, .val (.long sA), .second, .val (.long sB), .second, .val (.long nm), .second, .val (.long dn), .second]) rfl ?_
      show Steps p.tables e below (T7.setTop (mkF m 181 #[.val (.long xa), .second, .val (.long xb), .second, .val (.long xc), .second, .val (.long xd), .second, .val (.int k), .val (.int sh), .val (.long tp), .second, .val (.long fn), .second, .val (.long fp), .second, .val (.long tn), .second, .val (.ref a5), .val (.double (FP.ddiv (own_num tp fn fp tn) (own_den tp fn fp tn))), .second, .val (.double (FP.ddiv (FP.l2d nm) (FP.l2d dn))), .second, .val (.long all), .second, .val (.long sA), .second, .val (.long sB), .second, .val (.long nm), .second, .val (.long dn), .second] [])) _
      refine XS.dload X7.here hx rfl (hb hby at_181) rfl ?_
      show Steps p.tables e below (T7.setTop (mkF m 183 #[.val (.long xa), .second, .val (.long xb), .second, .val (.long xc), .second, .val (.long xd), .second, .val (.int k), .val (.int sh), .val (.long tp), .second, .val (.long fn), .second, .val (.long fp), .second, .val (.long tn), .second, .val (.ref a5), .val (.double (FP.ddiv (own_num tp fn fp tn) (own_den tp fn fp tn))), .second, .val (.double (FP.ddiv (FP.l2d nm) (FP.l2d dn))), .second, .val (.long all), .second, .val (.long sA), .second, .val (.long sB), .second, .val (.long nm), .second, .val (.long dn), .second] [(.double (FP.ddiv (own_num tp fn fp tn) (own_den tp fn fp tn)))])) _
      refine XS.dload X7.here hx rfl (hb hby at_183) rfl ?_
      show Steps p.tables e below (T7.setTop (mkF m 185 #[.val (.long xa), .second, .val (.long xb), .second, .val (.long xc), .second, .val (.long xd), .second, .val (.int k), .val (.int sh), .val (.long tp), .second, .val (.long fn), .second, .val (.long fp), .second, .val (.long tn), .second, .val (.ref a5), .val (.double (FP.ddiv (own_num tp fn fp tn) (own_den tp fn fp tn))), .second, .val (.double (FP.ddiv (FP.l2d nm) (FP.l2d dn))), .second, .val (.long all), .second, .val (.long sA), .second, .val (.long sB), .second, .val (.long nm), .second, .val (.long dn), .second] [(.double (FP.ddiv (FP.l2d nm) (FP.l2d dn))), (.double (FP.ddiv (own_num tp fn fp tn) (own_den tp fn fp tn)))])) _
      refine XS.dcmpS X7.here hx rfl (hb hby at_185) rfl (v := Jvm.Op.cmpValue (FP.dcmp (FP.ddiv (own_num tp fn fp tn) (own_den tp fn fp tn)) (FP.ddiv (FP.l2d nm) (FP.l2d dn))) .l) rfl ?_
      show Steps p.tables e below (T7.setTop (mkF m 186 #[.val (.long xa), .second, .val (.long xb), .second, .val (.long xc), .second, .val (.long xd), .second, .val (.int k), .val (.int sh), .val (.long tp), .second, .val (.long fn), .second, .val (.long fp), .second, .val (.long tn), .second, .val (.ref a5), .val (.double (FP.ddiv (own_num tp fn fp tn) (own_den tp fn fp tn))), .second, .val (.double (FP.ddiv (FP.l2d nm) (FP.l2d dn))), .second, .val (.long all), .second, .val (.long sA), .second, .val (.long sB), .second, .val (.long nm), .second, .val (.long dn), .second] [(.int (Jvm.Op.cmpValue (FP.dcmp (FP.ddiv (own_num tp fn fp tn) (own_den tp fn fp tn)) (FP.ddiv (FP.l2d nm) (FP.l2d dn))) .l))])) _
      refine XS.ifNo X7.here hx rfl (hb hby at_186) rfl ((Jvm.Own.holdsD (both (Or.inl c1)).2.1 (both (Or.inl c1)).2.2.1 _ _).trans (Jvm.Own.dF (by rw [(both (Or.inl c1)).2.2.2]; exact fun q => q rfl))) ?_
      show Steps p.tables e below (T7.setTop (mkF m 189 #[.val (.long xa), .second, .val (.long xb), .second, .val (.long xc), .second, .val (.long xd), .second, .val (.int k), .val (.int sh), .val (.long tp), .second, .val (.long fn), .second, .val (.long fp), .second, .val (.long tn), .second, .val (.ref a5), .val (.double (FP.ddiv (own_num tp fn fp tn) (own_den tp fn fp tn))), .second, .val (.double (FP.ddiv (FP.l2d nm) (FP.l2d dn))), .second, .val (.long all), .second, .val (.long sA), .second, .val (.long sB), .second, .val (.long nm), .second, .val (.long dn), .second] [])) _
      refine XS.iconst X7.here hx rfl (hb hby at_189) ?_
      show Steps p.tables e below (T7.setTop (mkF m 190 #[.val (.long xa), .second, .val (.long xb), .second, .val (.long xc), .second, .val (.long xd), .second, .val (.int k), .val (.int sh), .val (.long tp), .second, .val (.long fn), .second, .val (.long fp), .second, .val (.long tn), .second, .val (.ref a5), .val (.double (FP.ddiv (own_num tp fn fp tn) (own_den tp fn fp tn))), .second, .val (.double (FP.ddiv (FP.l2d nm) (FP.l2d dn))), .second, .val (.long all), .second, .val (.long sA), .second, .val (.long sB), .second, .val (.long nm), .second, .val (.long dn), .second] [(.int (1 : Int32))])) _
      refine XS.goto X7.here hx rfl (pc0 := 190) (pc' := 194) rfl (hb hby at_190) (by decide) (by decide) ?_
      show Steps p.tables e below (T7.setTop (mkF m 194 #[.val (.long xa), .second, .val (.long xb), .second, .val (.long xc), .second, .val (.long xd), .second, .val (.int k), .val (.int sh), .val (.long tp), .second, .val (.long fn), .second, .val (.long fp), .second, .val (.long tn), .second, .val (.ref a5), .val (.double (FP.ddiv (own_num tp fn fp tn) (own_den tp fn fp tn))), .second, .val (.double (FP.ddiv (FP.l2d nm) (FP.l2d dn))), .second, .val (.long all), .second, .val (.long sA), .second, .val (.long sB), .second, .val (.long nm), .second, .val (.long dn), .second] [(.int (1 : Int32))])) _
      exact retN X7 hx (t := .boolean) Bd.returns (by simp) (hb hby at_194) hr
    · show QL n0 _ T7.heap _
      exact ⟨rfl, (Fr.app (Fr.app (Fr.app (Fr.app (Fr.app (Fr.app N0 N1) N2) N3) N4) N6) N7)⟩
set_option maxRecDepth 65536 in
set_option maxHeartbeats 40000000 in
theorem comes_1 {Post : Tables → Env → Array Value → State → Outcome → State → Prop} (hpost : ∀ tb e args s v u, (limb_1_1.after args s (.returned v) u = true ∧ limb_1_2.after args s (.returned v) u = true ∧ True) → FrameEnd s (.returned v) u (Jvm.fieldLocs frame_1_writes args s ++ Jvm.arrayLocs frame_1_arrays args s ++ Jvm.staticLocs frame_1_statics s) 16 128 → Post tb e args s (.returned v) u) :
    ArmFor flags0 classFile x code maxLocals ret World_1 tables_1 room_1 Calls_1 rest_1 Pre_1 Post := by
  intro l hfl _ _ p e ha hc hk s m args below hf hA hF happ hP
  obtain ⟨hcalls, hrest, hpre⟩ := hP
  obtain ⟨-, -, -, hnamed, -, -, -, hat⟩ := (Spec.applies_iff hf).mp happ
  obtain ⟨hg, hn⟩ := and_e (Cond.before_iff.mp (show (Jvm.Cond.and given_1 narrow_1).before args s = true from hpre))
  obtain ⟨hcnt, g0⟩ := and_e hg
  obtain ⟨a0, g1⟩ := and_e g0
  obtain ⟨a1, g2⟩ := and_e g1
  obtain ⟨a2, g3⟩ := and_e g2
  obtain ⟨a3, g4⟩ := and_e g3
  obtain ⟨w0, w1, w2, w3, w4, rfl⟩ : ∃ w0 w1 w2 w3 w4 : Value, args = #[w0, w1, w2, w3, w4] := by
    have hs : args.size = 5 := by simpa [Cond.value, given_1] using hcnt
    obtain ⟨L⟩ := args
    match L, hs with
    | [w0, w1, w2, w3, w4], _ => exact ⟨w0, w1, w2, w3, w4, rfl⟩
  have hw := fun d (hd : d ∈ tables_1) => atoms_spec (ws := Jvm.Cond.code x code maxLocals ret :: tables_1) hat d (List.mem_cons_of_mem _ hd)
  have hfit : Fit s := fun {y c} hc i hi => by
    obtain ⟨ha, rfl⟩ := Array.getElem?_eq_some_iff.mp hc
    have q := List.all_eq_true.mp ((Array.all_eq_true_iff_forall_mem.mp hF) _ (Array.getElem_mem ha)) i (List.mem_range.mpr hi)
    simpa [Array.getElem?_eq_getElem hi] using q
  obtain ⟨v0, e0⟩ := isL_v a0
  obtain rfl : w0 = (.long v0) := Option.some.inj e0
  obtain ⟨v1, e1⟩ := isL_v a1
  obtain rfl : w1 = (.long v1) := Option.some.inj e1
  obtain ⟨v2, e2⟩ := isL_v a2
  obtain rfl : w2 = (.long v2) := Option.some.inj e2
  obtain ⟨v3, e3⟩ := isL_v a3
  obtain rfl : w3 = (.long v3) := Option.some.inj e3
  obtain ⟨v4, e4⟩ := is_v g4
  obtain rfl : w4 = (.int v4) := Option.some.inj e4
  obtain ⟨n, o, h1, h2, h3, _, L, rfl, ⟨rfl, N⟩, hq⟩ := rm0 l s _ hw tables_1 v0 v1 v2 v3 v4 s.heap s.heap.size (Nat.le_refl _)  p e ha hc hk s m _ below hf ((Spec.applies_iff_loose hf).mp happ).1 ⟨rfl, State.Warmed39.refl s, rfl⟩ trivial
  refine ⟨n, _, h1, h2, h3, hpost _ _ _ _ _ _ ⟨Cond.after_iff.mpr rfl, Cond.after_iff.mpr (eq_i res_at (Term.int_eval (1)) rfl), trivial⟩ ⟨hq.1, hq.2.1, (hq.2.2.sift fun y hy => Or.inr (N y hy)).mono (by decide) (by decide)⟩⟩
theorem main_1_1 : Claimed_1_1 := comes_1 fun _ _ _ _ _ _ h hF => ⟨h.1, hF⟩
theorem main_1_2 : Claimed_1_2 := comes_1 fun _ _ _ _ _ _ h hF => ⟨h.2.1, hF⟩
end Jvm.Pilot.@@N@@
namespace Jvm.Pilot.@@N@@
open Jvm Jvm.ClassFile Sem Op Lib Jvm.Free Jvm.Stand Jvm.Pilot.@@N@@.Jvm.D
/-! MADE BY PROGRAM (witnessworld.py) out of the Statement's table words and the real class files: 10 classes; the members and pool entries that the words name. The judged class is class 1, her method 2. -/
namespace start1
open Jvm.ClassFile
def u (s : String) : CpInfo := .utf8 (stringToUtf16 s)
/-- a pool by its gaps: so many unusable entries, then the entry; so many at the end -/
def gap : Nat → List CpInfo → List CpInfo
  | 0, r => r
  | n + 1, r => .unusable :: gap n r
def poolList (es : List (Nat × CpInfo)) (last : Nat) : List CpInfo := es.foldr (fun e r => gap e.1 (e.2 :: r)) (gap last [])
def pool (es : List (Nat × CpInfo)) (last : Nat) : Array CpInfo := ⟨poolList es last⟩
def fileOf (pool : Array CpInfo) (this : Nat) (attrs : Array Attribute := #[]) (ms : Array MethodInfo := #[]) (fl : Nat := 33) (sup : Nat := 0) (ifs : Array Nat := #[]) (fds : Array FieldInfo := #[]) : ClassFile where
  minorVersion := 0
  majorVersion := 65
  constantPool := pool
  accessFlags := fl
  thisClass := this
  superClass := sup
  interfaces := ifs
  fields := fds
  methods := ms
  attributes := attrs
def plain (name : String) (sup : Option ClassId) : Class where
  name := name
  kind := .ordinary
  loader := none
  accessFlags := 33
  super := sup
  interfaces := #[]
  cf := none
  fields := #[]
  methods := #[]
  instanceTypes := #[]
  staticTypes := #[]
  resolved := #[]
  callSites := []
  init := .initialized
  statics := none
  mirror := none

def pool0 : Array CpInfo := pool [(5, u "<init>"), (0, u "()V"), (1, .class_ 10), (1, u "java/lang/Object")] 113

def k0c0 : Code := { maxStack := 0, maxLocals := 1, code := object_method_1_code, exceptionTable := #[], attributes := #[] }
def k0m0 : Method := { name := "<init>", desc := "()V", sig := { parameters := [], returnType := none }, accessFlags := 1, code := some k0c0 }
/-- java/lang/Object -/
def k0 : Class := { plain "java/lang/Object" none with
  accessFlags := 33
  interfaces := #[]
  cf := some (fileOf pool0 8 #[] #[{ accessFlags := 1, nameIndex := 5, descriptorIndex := 6, attributes := #[] }] 33 0 #[] #[])
  fields := #[]
  methods := #[k0m0]
  instanceTypes := #[]
  staticTypes := #[]
  resolved := Array.replicate 124 none
  statics := none }

def pool1 : Array CpInfo := pool [(2, .class_ 4), (1, u "java/lang/Object"), (0, u "<init>"), (0, u "()V"), (0, .long 1048575), (1, .methodref 10 11), (0, .class_ 12), (0, .nameAndType 13 14), (0, u "com/example/driftgauge/driftgauge/PairCountsAdjustedRandPinLaw"), (0, u "count"), (0, u "(JIII)J"), (0, .class_ 16), (0, u "com/example/driftgauge/driftgauge/PairCounts"), (0, .methodref 15 18), (0, .nameAndType 5 19), (0, u "(JJJJ)V"), (0, .methodref 15 21), (0, .nameAndType 22 23), (0, u "adjustedRand"), (0, u "()D"), (0, .long 2), (4, u "law"), (0, u "(JJJJI)Z")] 2

def k1m0 : Method := { name := "<init>", desc := "()V", sig := { parameters := [], returnType := none }, accessFlags := 1, code := none }
def k1c1 : Code := { maxStack := 4, maxLocals := 5, code := method_2_code, exceptionTable := #[], attributes := #[] }
def k1m1 : Method := { name := "count", desc := "(JIII)J", sig := { parameters := [.long, .int, .int, .int], returnType := some .long }, accessFlags := 10, code := some k1c1 }
def k1c2 : Code := { maxStack := 10, maxLocals := 33, code := code, exceptionTable := #[], attributes := #[] }
def k1m2 : Method := { name := "law", desc := "(JJJJI)Z", sig := { parameters := [.long, .long, .long, .long, .int], returnType := some .boolean }, accessFlags := 9, code := some k1c2 }
/-- com/example/driftgauge/driftgauge/PairCountsAdjustedRandPinLaw -/
def k1 : Class := { plain "com/example/driftgauge/driftgauge/PairCountsAdjustedRandPinLaw" (some 0) with
  accessFlags := 49
  interfaces := #[]
  cf := some (fileOf pool1 10 #[] #[{ accessFlags := 1, nameIndex := 5, descriptorIndex := 6, attributes := #[] }, { accessFlags := 10, nameIndex := 13, descriptorIndex := 14, attributes := #[] }, { accessFlags := 9, nameIndex := 29, descriptorIndex := 30, attributes := #[] }] 49 2 #[] #[])
  fields := #[]
  methods := #[k1m0, k1m1, k1m2]
  instanceTypes := #[]
  staticTypes := #[]
  resolved := Array.replicate 33 none
  statics := none }

def pool2 : Array CpInfo := pool [(1, .methodref 2 3), (0, .class_ 4), (0, .nameAndType 5 6), (0, u "java/lang/Object"), (0, u "<init>"), (0, u "()V"), (0, .class_ 8), (0, u "java/lang/Record")] 13

def k2c0 : Code := { maxStack := 1, maxLocals := 1, code := jdk_30_method_1_code, exceptionTable := #[], attributes := #[] }
def k2m0 : Method := { name := "<init>", desc := "()V", sig := { parameters := [], returnType := none }, accessFlags := 4, code := some k2c0 }
/-- java/lang/Record -/
def k2 : Class := { plain "java/lang/Record" (some 0) with
  accessFlags := 1057
  interfaces := #[]
  cf := some (fileOf pool2 7 #[] #[{ accessFlags := 4, nameIndex := 5, descriptorIndex := 6, attributes := #[] }] 1057 2 #[] #[])
  fields := #[]
  methods := #[k2m0]
  instanceTypes := #[]
  staticTypes := #[]
  resolved := Array.replicate 22 none
  statics := none }

def pool3 : Array CpInfo := pool [(1, .methodref 2 3), (0, .class_ 4), (0, .nameAndType 5 6), (0, u "java/lang/Record"), (0, u "<init>"), (0, u "()V"), (0, .fieldref 8 9), (0, .class_ 10), (0, .nameAndType 11 12), (0, u "com/example/driftgauge/driftgauge/PairCounts"), (0, u "together"), (0, u "J"), (0, .fieldref 8 14), (0, .nameAndType 15 12), (0, u "sameClassOnly"), (0, .fieldref 8 17), (0, .nameAndType 18 12), (0, u "sameClusterOnly"), (0, .fieldref 8 20), (0, .nameAndType 21 12), (0, u "apart"), (44, u "(JJJJ)V"), (5, .double 4611686018427387904), (30, u "()D"), (0, u "adjustedRand")] 42

def k3c0 : Code := { maxStack := 3, maxLocals := 9, code := prog_56_method_1_code, exceptionTable := #[], attributes := #[] }
def k3m0 : Method := { name := "<init>", desc := "(JJJJ)V", sig := { parameters := [.long, .long, .long, .long], returnType := none }, accessFlags := 0, code := some k3c0 }
def k3c1 : Code := { maxStack := 10, maxLocals := 9, code := prog_56_method_7_code, exceptionTable := #[], attributes := #[] }
def k3m1 : Method := { name := "adjustedRand", desc := "()D", sig := { parameters := [], returnType := some .double }, accessFlags := 0, code := some k3c1 }
/-- com/example/driftgauge/driftgauge/PairCounts -/
def k3 : Class := { plain "com/example/driftgauge/driftgauge/PairCounts" (some 2) with
  accessFlags := 48
  interfaces := #[]
  cf := some (fileOf pool3 8 #[] #[{ accessFlags := 0, nameIndex := 5, descriptorIndex := 66, attributes := #[] }, { accessFlags := 0, nameIndex := 104, descriptorIndex := 103, attributes := #[] }] 48 2 #[] #[{ accessFlags := 18, nameIndex := 11, descriptorIndex := 12, attributes := #[] }, { accessFlags := 18, nameIndex := 15, descriptorIndex := 12, attributes := #[] }, { accessFlags := 18, nameIndex := 18, descriptorIndex := 12, attributes := #[] }, { accessFlags := 18, nameIndex := 21, descriptorIndex := 12, attributes := #[] }])
  fields := #[{ name := "together", type := .long, accessFlags := 18, slot := 0, constantValue := 0 }, { name := "sameClassOnly", type := .long, accessFlags := 18, slot := 1, constantValue := 0 }, { name := "sameClusterOnly", type := .long, accessFlags := 18, slot := 2, constantValue := 0 }, { name := "apart", type := .long, accessFlags := 18, slot := 3, constantValue := 0 }]
  methods := #[k3m0, k3m1]
  instanceTypes := #[.long, .long, .long, .long]
  staticTypes := #[]
  resolved := Array.replicate 147 none
  statics := none }

def pool4 : Array CpInfo := pool [(1, u "java/lang/Cloneable"), (0, .class_ 1), (0, u "java/lang/Object"), (0, .class_ 3)] 3

/-- java/lang/Cloneable -/
def k4 : Class := { plain "java/lang/Cloneable" (some 0) with
  accessFlags := 1537
  interfaces := #[]
  cf := some (fileOf pool4 2 #[] #[] 1537 4 #[] #[])
  fields := #[]
  methods := #[]
  instanceTypes := #[]
  staticTypes := #[]
  resolved := Array.replicate 8 none
  statics := none }

def pool5 : Array CpInfo := pool [(1, u "java/io/Serializable"), (0, .class_ 1), (0, u "java/lang/Object"), (0, .class_ 3)] 3

/-- java/io/Serializable -/
def k5 : Class := { plain "java/io/Serializable" (some 0) with
  accessFlags := 1537
  interfaces := #[]
  cf := some (fileOf pool5 2 #[] #[] 1537 4 #[] #[])
  fields := #[]
  methods := #[]
  instanceTypes := #[]
  staticTypes := #[]
  resolved := Array.replicate 8 none
  statics := none }

/-- the primitive byte -/
def k6 : Class := { plain "byte" none with kind := .primitive 'B', accessFlags := 0x411 }
/-- [B -/
def k7 : Class := { plain "[B" (some 0) with kind := .array 6 .byte, interfaces := #[4, 5], accessFlags := 1041 }

/-- the primitive int -/
def k8 : Class := { plain "int" none with kind := .primitive 'I', accessFlags := 0x411 }
/-- [I -/
def k9 : Class := { plain "[I" (some 0) with kind := .array 8 .int, interfaces := #[4, 5], accessFlags := 1041 }

def heap : Heap := #[]
def classes : Array Class := #[k0, k1, k2, k3, k4, k5, k6, k7, k8, k9]
def interned : List (Array UInt16 × Addr) := []
def slotsUsed : Nat := 0
def theMethod : MethodId := ⟨1, 2⟩
def args0 : Array Value := #[.long 5, .long 3, .long 2, .long 1, .int 0]
def aboutOver (below : List Frame) : State where
  vm := { classes := classes, interned := interned.toArray }
  heap := heap
  slotsUsed := slotsUsed
  threads := #[{ frames := .invoking theMethod args0 :: below }]
def below0 : List Frame := [.native { method := ⟨0, 0⟩, args := #[] }]
def about1 : State := aboutOver below0
def p0 : Program := .bare "" "" ""
def e0 : Env := launch0.env 0 0 0
theorem w_frames : about1.frames = Frame.invoking theMethod args0 :: below0 := rfl
set_option maxRecDepth 65536 in
theorem w_args : argsFit about1.vm theMethod args0 = true := by decide +kernel
set_option maxRecDepth 65536 in
theorem w_heap : heapFits about1 = true := by decide +kernel
set_option maxRecDepth 65536 in
theorem w_runnable : about1.curStatus? = some .runnable := by decide +kernel
set_option maxRecDepth 65536 in
theorem w_alone : about1.alone = true := by decide +kernel
set_option maxRecDepth 65536 in
theorem w_named : about1.methodNamed? x = some theMethod := by decide +kernel
set_option maxRecDepth 65536 in
theorem w_hears : about1.hears theMethod below0 = true := by decide +kernel
set_option maxRecDepth 65536 in
theorem w_ripe : about1.ripe theMethod args0 below0 = true := by decide +kernel
theorem w_running : about1.status = .running := rfl
set_option maxRecDepth 65536 in
theorem w_room : about1.hasRoom e0.platform room_1 = true :=
  launch0.hasRoom_least _ room_1 (by decide +kernel) (by decide +kernel) (by decide +kernel) (by decide +kernel) (by decide +kernel) (by decide +kernel)
theorem allAtoms_all (ts : List Jvm.Cond) (a : Array Jvm.Value) (st : Jvm.State) : (allAtoms ts).before a st = ts.all (fun c => c.before a st) := by
  induction ts with
  | nil => rfl
  | cons c t ih =>
    show (Jvm.Cond.and c (allAtoms t)).before a st = _
    rw [Jvm.Cond.before_and, ih, List.all_cons]
def words1 : List Jvm.Cond := Jvm.Cond.code x code maxLocals ret :: tables_1
/-- a 'code' word, met by the world's own term for the bytes: nothing is compared byte by byte -/
theorem code_word {y : MethodName} {bytes : ByteArray} {mx : Nat} {rt : Option FieldType} {a : Array Value} {s : State} {m : MethodId} {meth : Method} {c : Code} (h1 : s.methodNamed? y = some m) (h2 : s.vm.method? m = some meth) (h3 : meth.code = some c) (h4 : c.code = bytes)
    (h5 : (c.maxLocals == mx && c.exceptionTable.isEmpty && decide (c.maxStack ≤ mostOperands) && decide (meth.sig.returnType = rt) && !meth.locks && decide (parseMethodDescriptor y.desc = some meth.sig)) = true) : (Jvm.Cond.code y bytes mx rt).before a s = true := by
  simp only [Bool.and_eq_true, beq_iff_eq, Bool.not_eq_true', decide_eq_true_eq] at h5
  obtain ⟨⟨⟨⟨⟨g1, g2⟩, g3⟩, g4⟩, g5⟩, g6⟩ := h5
  simp [Cond.before, Cond.holds, Cond.value, h1, h2, h3, h4, g1, g2, g3, g4, g5, g6]
def isCode : Jvm.Cond → Bool
  | .code _ _ _ _ => true
  | _ => false
theorem all_split {L : List Jvm.Cond} {P : Jvm.Cond → Bool} (h1 : L.all (fun c => isCode c || P c) = true) (h2 : ∀ c ∈ L.filter isCode, P c = true) : L.all P = true := by
  refine List.all_eq_true.mpr fun c hc => ?_
  have h := List.all_eq_true.mp h1 c hc
  rcases Bool.eq_false_or_eq_true (isCode c) with hi | hi
  · exact h2 c (List.mem_filter.mpr ⟨hc, hi⟩)
  · simpa [hi] using h
set_option maxRecDepth 65536 in
theorem w_c0 : (Jvm.Cond.code x code maxLocals ret).before args0 about1 = true := code_word (m := ⟨1, 2⟩) (meth := k1m2) (c := k1c2) (by decide +kernel) rfl rfl rfl (by decide +kernel)
set_option maxRecDepth 65536 in
theorem w_c1 : (Jvm.Cond.code ({ cls := "com/example/driftgauge/driftgauge/PairCountsAdjustedRandPinLaw", name := "count", desc := "(JIII)J" } : Jvm.MethodName) method_2_code (5 : Nat) (Option.some Jvm.ClassFile.FieldType.long)).before args0 about1 = true := code_word (m := ⟨1, 1⟩) (meth := k1m1) (c := k1c1) (by decide +kernel) rfl rfl rfl (by decide +kernel)
set_option maxRecDepth 65536 in
theorem w_c2 : (Jvm.Cond.code ({ cls := "com/example/driftgauge/driftgauge/PairCounts", name := "<init>", desc := "(JJJJ)V" } : Jvm.MethodName) prog_56_method_1_code (9 : Nat) (Option.none : Option Jvm.ClassFile.FieldType)).before args0 about1 = true := code_word (m := ⟨3, 0⟩) (meth := k3m0) (c := k3c0) (by decide +kernel) rfl rfl rfl (by decide +kernel)
set_option maxRecDepth 65536 in
theorem w_c3 : (Jvm.Cond.code ({ cls := "java/lang/Record", name := "<init>", desc := "()V" } : Jvm.MethodName) jdk_30_method_1_code (1 : Nat) (Option.none : Option Jvm.ClassFile.FieldType)).before args0 about1 = true := code_word (m := ⟨2, 0⟩) (meth := k2m0) (c := k2c0) (by decide +kernel) rfl rfl rfl (by decide +kernel)
set_option maxRecDepth 65536 in
theorem w_c4 : (Jvm.Cond.code ({ cls := "java/lang/Object", name := "<init>", desc := "()V" } : Jvm.MethodName) object_method_1_code (1 : Nat) (Option.none : Option Jvm.ClassFile.FieldType)).before args0 about1 = true := code_word (m := ⟨0, 0⟩) (meth := k0m0) (c := k0c0) (by decide +kernel) rfl rfl rfl (by decide +kernel)
set_option maxRecDepth 65536 in
theorem w_c5 : (Jvm.Cond.code ({ cls := "com/example/driftgauge/driftgauge/PairCounts", name := "adjustedRand", desc := "()D" } : Jvm.MethodName) prog_56_method_7_code (9 : Nat) (Option.some Jvm.ClassFile.FieldType.double)).before args0 about1 = true := code_word (m := ⟨3, 1⟩) (meth := k3m1) (c := k3c1) (by decide +kernel) rfl rfl rfl (by decide +kernel)
def codes1 : List Jvm.Cond := [Jvm.Cond.code x code maxLocals ret, Jvm.Cond.code ({ cls := "com/example/driftgauge/driftgauge/PairCountsAdjustedRandPinLaw", name := "count", desc := "(JIII)J" } : Jvm.MethodName) method_2_code (5 : Nat) (Option.some Jvm.ClassFile.FieldType.long), Jvm.Cond.code ({ cls := "com/example/driftgauge/driftgauge/PairCounts", name := "<init>", desc := "(JJJJ)V" } : Jvm.MethodName) prog_56_method_1_code (9 : Nat) (Option.none : Option Jvm.ClassFile.FieldType), Jvm.Cond.code ({ cls := "java/lang/Record", name := "<init>", desc := "()V" } : Jvm.MethodName) jdk_30_method_1_code (1 : Nat) (Option.none : Option Jvm.ClassFile.FieldType), Jvm.Cond.code ({ cls := "java/lang/Object", name := "<init>", desc := "()V" } : Jvm.MethodName) object_method_1_code (1 : Nat) (Option.none : Option Jvm.ClassFile.FieldType), Jvm.Cond.code ({ cls := "com/example/driftgauge/driftgauge/PairCounts", name := "adjustedRand", desc := "()D" } : Jvm.MethodName) prog_56_method_7_code (9 : Nat) (Option.some Jvm.ClassFile.FieldType.double)]
set_option maxRecDepth 65536 in
theorem codes_eq : words1.filter isCode = codes1 := rfl
theorem w_codes : ∀ c ∈ words1.filter isCode, c.before args0 about1 = true := by
  rw [codes_eq]
  intro c hc
  simp only [codes1, List.mem_cons, List.not_mem_nil, or_false] at hc
  rcases hc with rfl | rfl | rfl | rfl | rfl | rfl
  · exact w_c0
  · exact w_c1
  · exact w_c2
  · exact w_c3
  · exact w_c4
  · exact w_c5
set_option maxRecDepth 65536 in
theorem w_t1 : (words1.take 24).all (fun c => isCode c || c.before args0 about1) = true := by decide +kernel
set_option maxRecDepth 65536 in
theorem w_t2 : (words1.drop 24).all (fun c => isCode c || c.before args0 about1) = true := by decide +kernel
theorem w_tables : (allAtoms (Jvm.Cond.code x code maxLocals ret :: tables_1)).before args0 about1 = true := by
  rw [allAtoms_all]
  show words1.all (fun c => c.before args0 about1) = true
  refine all_split ?_ w_codes
  rw [← List.take_append_drop 24 words1, List.all_append, w_t1, w_t2]
  rfl
set_option maxRecDepth 65536 in
theorem w_case : (Jvm.Cond.and given_1 narrow_1).before args0 about1 = true := by decide +kernel
theorem w_applies : (headSpec (Jvm.Cond.code x code maxLocals ret :: tables_1) room_1).applies x e0.platform about1 = true :=
  (Spec.applies_iff w_frames).mpr ⟨w_running, w_runnable, w_alone, w_named, w_hears, w_ripe, w_room, w_tables⟩
theorem atStart : AtStart classFile x code maxLocals ret World_1 tables_1 room_1 Calls_1 rest_1 Pre_1 launch0 p0 e0 about1 theMethod args0 below0 :=
  ⟨lists_1, trivial, launch0.admits_env _ _ _, launch0.least_env, fairChoices_fair.cas, fairChoices_fair.clock, w_frames, w_args, w_heap, w_applies, trivial, trivial, w_case⟩
end start1
theorem witness_1 : WitnessClaimed_1 := ⟨start1.p0, start1.e0, start1.about1, start1.theMethod, start1.args0, start1.below0, start1.atStart⟩
end Jvm.Pilot.@@N@@

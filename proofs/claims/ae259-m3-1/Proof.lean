import JvmDerived
import JvmDerived.Pilot.@@N@@Statement
import JvmDerived.Pilot.@@N@@Code
set_option linter.unusedVariables false
set_option linter.unusedSimpArgs false
namespace Jvm.RoadKit
open Sem ClassFile Op Lib Jvm.Stand Jvm.Free Jvm.LawKit
section New
variable {p : Program} {l : Launch} {e : Env} {R : Room} {s : State} {m : MethodId} {args : Array Value} {below : List Frame} {meth : Method} {c : Code} {T : State} {locs : List Loc} {cells slots : Nat}
theorem retI (X : Stand p l e R s m args below meth c T locs cells slots) (hx : p.tables.exec = Jvm.exec) {pc : Nat} {Ls : Array Slot} {z : Int32} {rest : List Value} (hret : meth.sig.returnType = some .int) (hd : decode c.code pc = .ok (.ireturn, 1)) {fs : List Frame}
    (hl : ∀ (f : JFrame) (acts : List Action), f.method = m → f.locked = none → f.entered = [] → (doReturn e (T.setTop f) acts (some (.int z))).1 = T.setFrames fs) : Steps p.tables e below (T.setTop (mkF m pc Ls (.int z :: rest))) (T.setFrames fs) := by
  have hm' : T.vm.method? m = some meth := X.method'
  have hn : narrow .int (.int z) = .int z := rfl
  show Steps p.tables e below (T.setTop { method := m, pc := pc, locals := Ls, stack := _ :: rest, locked := none }) _
  jvm_step X.here [X.here.top, hx, hd, hm', hret, hn]
  first | (intro acts; rw [hl _ acts rfl rfl rfl]) | rw [hl _ _ rfl rfl rfl]
  exact Steps.refl _
theorem retD (X : Stand p l e R s m args below meth c T locs cells slots) (hx : p.tables.exec = Jvm.exec) {pc : Nat} {Ls : Array Slot} {z : UInt64} {rest : List Value} (hret : meth.sig.returnType = some .double) (hd : decode c.code pc = .ok (.dreturn, 1)) {fs : List Frame}
    (hl : ∀ (f : JFrame) (acts : List Action), f.method = m → f.locked = none → f.entered = [] → (doReturn e (T.setTop f) acts (some (.double z))).1 = T.setFrames fs) : Steps p.tables e below (T.setTop (mkF m pc Ls (.double z :: rest))) (T.setFrames fs) := by
  have hm' : T.vm.method? m = some meth := X.method'
  show Steps p.tables e below (T.setTop { method := m, pc := pc, locals := Ls, stack := _ :: rest, locked := none }) _
  jvm_step X.here [X.here.top, hx, hd, hm', hret]
  first | (intro acts; rw [hl _ acts rfl rfl rfl]) | rw [hl _ _ rfl rfl rfl]
  exact Steps.refl _
end New
/-- a body that leaves the heap as it was -/
def QP (w : Value) (h0 : Heap) (n0 : Nat) (v : Option Value) (h : Heap) (L : List Loc) : Prop := v = some w ∧ Fr n0 L ∧ h = h0
/-- the law says true, and writes into nothing that stood at the start -/
def QL (n0 : Nat) (v : Option Value) (h : Heap) (L : List Loc) : Prop := v = some (.int 1) ∧ Fr n0 L
end Jvm.RoadKit

/-! OwnFP: rounding, in units of the least double. My own text, pasted into each proof. -/
namespace Jvm.Own
open Jvm.FP.Core Jvm.Free.Fl
/-- a power of two that nothing reckons out -/
def PN (j : Nat) : Nat := 2 ^ j
theorem PN_pos (j : Nat) : 0 < PN j := Nat.two_pow_pos _
theorem PN_posI (j : Nat) : (0 : Int) < (PN j : Int) := Int.ofNat_lt.mpr (PN_pos j)
theorem PN_add (i j : Nat) : PN (i + j) = PN i * PN j := Nat.pow_add ..
theorem PN_addI (i j : Nat) : (PN (i + j) : Int) = (PN i : Int) * (PN j : Int) := by rw [PN_add, Int.natCast_mul]
/-- a double as a whole number of 2^-1074 -/
def z (a : UInt64) : Int := zval b64 (val64 a)
theorem z_fin {a : UInt64} {s : Bool} {c : Nat} {q : Int} (h : val64 a = .fin s c q) : z a = signed s (inUnits c q b64.qmin) := by
  unfold z; rw [h]; rfl
/-- r is the rounding of N / D, in these units -/
def Rnd (N : Int) (D : Nat) (r : UInt64) : Prop := 0 < D ∧ ∃ s, signed s N.natAbs = N ∧ val64 r = roundRatio b64 s N.natAbs D b64.qmin
theorem DFin.fits {a : UInt64} {s : Bool} {c : Nat} {q : Int} (h : val64 a = .fin s c q) : Jvm.FP.Core.fits b64 (.fin s c q) := h ▸ val64_fits a
theorem rnd_dadd {a b : UInt64} (ha : DFin a) (hb : DFin b) : Rnd (z a + z b) 1 (dadd a b) := by
  obtain ⟨s, c, q, h1⟩ := ha
  obtain ⟨t, d, r, h2⟩ := hb
  obtain ⟨sg, n, e, hs, he, hu⟩ := sum_units (DFin.fits h1) (DFin.fits h2)
  have hz : z a + z b = signed sg (inUnits n e b64.qmin) := by unfold z; rw [h1, h2, hu]
  have hn : (z a + z b).natAbs = inUnits n e b64.qmin := by rw [hz, natAbs_signed]
  refine ⟨by decide, sg, by rw [hn, hz], ?_⟩
  rw [val64_dadd, h1, h2, hs, hn]
  show roundRatio b64 sg n 1 e = _
  refine roundRatio_congr (by decide) (by decide) ?_
  rw [show (b64.qmin - e).toNat = 0 by omega]
  simp [inUnits]
theorem z_neg {b : UInt64} : z (Jvm.FP.Core.dneg b) = - z b := by unfold z; rw [val64_dneg, zval_negate]
theorem fin_neg {b : UInt64} (hb : DFin b) : DFin (Jvm.FP.Core.dneg b) := by
  obtain ⟨t, d, r, h2⟩ := hb
  exact ⟨!t, d, r, by rw [val64_dneg, h2]; rfl⟩
theorem z_dneg {b : UInt64} : z (Jvm.FP.dneg b) = - z b := by unfold z; rw [Jvm.FP.val64_dneg, zval_negate]
theorem fin_dneg {b : UInt64} (hb : DFin b) : DFin (Jvm.FP.dneg b) := by
  obtain ⟨t, d, r, h2⟩ := hb
  exact ⟨!t, d, r, by rw [Jvm.FP.val64_dneg, h2]; rfl⟩
theorem rnd_dsub {a b : UInt64} (ha : DFin a) (hb : DFin b) : Rnd (z a - z b) 1 (dsub a b) := by
  have h := rnd_dadd ha (fin_neg hb)
  rw [z_neg] at h
  rw [dsub_eq, Int.sub_eq_add_neg]
  exact h
theorem qm : b64.qmin = -1074 := qmin_b64
theorem rnd_dmul {a b : UInt64} (ha : DFin a) (hb : DFin b) : Rnd (z a * z b) (PN 1074) (dmul a b) := by
  obtain ⟨s, c, q, h1⟩ := ha
  obtain ⟨t, d, r, h2⟩ := hb
  obtain ⟨hp, hq, hu⟩ := product_units (DFin.fits h1) (DFin.fits h2)
  have hz : z a * z b = signed (s != t) (inUnits (c * d) (q + r) (2 * b64.qmin)) := by
    rw [hu, signed_xor]; unfold z; rw [h1, h2]; rfl
  have hn : (z a * z b).natAbs = inUnits (c * d) (q + r) (2 * b64.qmin) := by rw [hz, natAbs_signed]
  refine ⟨PN_pos _, s != t, by rw [hn, hz], ?_⟩
  rw [val64_dmul, h1, h2, hp, hn]
  show roundRatio b64 (s != t) (c * d) 1 (q + r) = _
  refine roundRatio_congr (by decide) (PN_pos _) ?_
  unfold inUnits PN
  have := qm
  generalize hk : (1074 : Nat) = K at *
  calc c * d * 2 ^ K * 2 ^ (q + r - b64.qmin).toNat = c * d * 2 ^ (K + (q + r - b64.qmin).toNat) := by rw [Nat.pow_add]; ac_rfl
    _ = c * d * 2 ^ ((q + r - 2 * b64.qmin).toNat + (b64.qmin - (q + r)).toNat) := by congr 2; omega
    _ = _ := by rw [Nat.pow_add]; ac_rfl
theorem pos_sign {b : UInt64} {t : Bool} {d : Nat} {r : Int} (h2 : val64 b = .fin t d r) (hb : 0 < z b) : t = false ∧ d ≠ 0 ∧ (z b).natAbs = d * 2 ^ (r - b64.qmin).toNat := by
  have h := z_fin h2
  have hn : (z b).natAbs = d * 2 ^ (r - b64.qmin).toNat := by rw [h, natAbs_signed]; rfl
  refine ⟨?_, ?_, hn⟩
  · cases t
    · rfl
    · simp only [signed, if_true] at h; omega
  · rintro rfl
    rw [Nat.zero_mul] at hn; omega
theorem rnd_ddiv {a b : UInt64} (ha : DFin a) (hb : DFin b) (hp : 0 < z b) : Rnd (z a * (PN 1074 : Int)) (z b).natAbs (ddiv a b) := by
  obtain ⟨s, c, q, h1⟩ := ha
  obtain ⟨t, d, r, h2⟩ := hb
  obtain ⟨rfl, hd0, hD⟩ := pos_sign h2 hp
  have hza : z a * (PN 1074 : Int) = signed s (inUnits c q b64.qmin * PN 1074) := by rw [z_fin h1, signed_mul]
  have hn : (z a * (PN 1074 : Int)).natAbs = inUnits c q b64.qmin * PN 1074 := by rw [hza, natAbs_signed]
  refine ⟨by omega, s, by rw [hn, hza], ?_⟩
  rw [val64_ddiv, h1, h2, hn, hD]
  simp only [quotient, if_neg hd0]
  rw [show (s != false) = s by cases s <;> rfl]
  refine roundRatio_congr (by omega) (Nat.mul_pos (by omega) (Nat.two_pow_pos _)) ?_
  have f1 := (DFin.fits h1).2.1
  have f2 := (DFin.fits h2).2.1
  unfold inUnits PN
  have := qm
  generalize hk : (1074 : Nat) = K at *
  calc c * (d * 2 ^ (r - b64.qmin).toNat) * 2 ^ (q - r - b64.qmin).toNat = c * d * 2 ^ ((r - b64.qmin).toNat + (q - r - b64.qmin).toNat) := by rw [Nat.pow_add]; ac_rfl
    _ = c * d * 2 ^ ((q - b64.qmin).toNat + K + (b64.qmin - (q - r)).toNat) := by congr 2; omega
    _ = _ := by rw [Nat.pow_add, Nat.pow_add]; ac_rfl
theorem rnd_l2d (v : Int64) : Rnd (v.toInt * (PN 1074 : Int)) 1 (l2d v) := by
  have hP := PN_posI 1074
  have hn : (v.toInt * (PN 1074 : Int)).natAbs = v.toInt.natAbs * PN 1074 := by rw [Int.natAbs_mul, Int.natAbs_natCast]
  refine ⟨by decide, decide (v.toInt < 0), ?_, ?_⟩
  · rw [hn, signed_mul]
    congr 1
    by_cases h : v.toInt < 0
    · simp only [signed, h, decide_true, if_true]; omega
    · simp only [signed, h, decide_false, Bool.false_eq_true, if_false]; omega
  · rw [val64_l2d, hn]
    show roundRatio b64 (decide (v.toInt < 0)) v.toInt.natAbs 1 0 = _
    refine roundRatio_congr (by decide) (by decide) ?_
    have := qm
    rw [show (0 - b64.qmin).toNat = 1074 by omega, show (b64.qmin - 0).toNat = 0 by omega]
    show v.toInt.natAbs * 1 * PN 1074 = v.toInt.natAbs * PN 1074 * 1 * 2 ^ 0
    rw [Nat.pow_zero, Nat.mul_one, Nat.mul_one, Nat.mul_one]
theorem i2d_l2d' (v : Int32) : i2d v = l2d v.toInt64 := i2d_l2d v
theorem rnd_i2d (v : Int32) : Rnd (v.toInt * (PN 1074 : Int)) 1 (i2d v) := by
  have h := rnd_l2d v.toInt64
  rw [Int32.toInt_toInt64] at h
  rw [i2d_l2d]; exact h
theorem Rnd.ne_nan {N : Int} {D : Nat} {r : UInt64} (h : Rnd N D r) : val64 r ≠ .nan := by
  obtain ⟨-, s, -, h⟩ := h
  rw [h]; exact roundRatio_ne_nan _ _ _ _ _
/-- the quotient alone counts -/
theorem Rnd.scale {N : Int} {D : Nat} {r : UInt64} (k : Nat) (hk : 0 < k) (h : Rnd (N * (k : Int)) (D * k) r) : Rnd N D r := by
  obtain ⟨hD, s, hs, hv⟩ := h
  have hD' : 0 < D := Nat.pos_of_mul_pos_right hD
  have hn : (N * (k : Int)).natAbs = N.natAbs * k := by rw [Int.natAbs_mul, Int.natAbs_natCast]
  refine ⟨hD', s, ?_, ?_⟩
  · rw [hn, signed_mul] at hs
    exact Int.eq_of_mul_eq_mul_right (by omega) hs
  · rw [hv, hn]
    refine roundRatio_congr hD hD' ?_
    simp only [Int.sub_self, Int.toNat_zero, Nat.pow_zero, Nat.mul_one]
    ac_rfl
theorem Rnd.up {N : Int} {D : Nat} {r : UInt64} (k : Nat) (hk : 0 < k) (h : Rnd N D r) : Rnd (N * (k : Int)) (D * k) r := by
  obtain ⟨hD, s, hs, hv⟩ := h
  have hn : (N * (k : Int)).natAbs = N.natAbs * k := by rw [Int.natAbs_mul, Int.natAbs_natCast]
  refine ⟨Nat.mul_pos hD hk, s, ?_, ?_⟩
  · rw [hn, signed_mul, hs]
  · rw [hv, hn]
    refine roundRatio_congr hD (Nat.mul_pos hD hk) ?_
    simp only [Int.sub_self, Int.toNat_zero, Nat.pow_zero, Nat.mul_one]
    ac_rfl
theorem Rnd.z_eq {N : Int} {D : Nat} {r : UInt64} {s : Bool} (h : val64 r = roundRatio b64 s N.natAbs D b64.qmin) : z r = signed s (zmag b64 (val64 r)) := by
  unfold z zval
  rw [show sgn (val64 r) = s by rw [h, sgn_roundRatio]]
theorem DFin.ne {a : UInt64} (h : DFin a) : val64 a ≠ .nan := h.ne_nan
theorem Rnd.le {N : Int} {D : Nat} {r V : UInt64} (h : Rnd N D r) (hV : DFin V) (hle : N ≤ z V * (D : Int)) : z r ≤ z V := by
  obtain ⟨hD, s, hs, hv⟩ := h
  have h1 := zmag_roundRatio_le good_b64 (s := s) (A := N.natAbs) (e := b64.qmin) (e0 := b64.qmin) hD (val64_fits V) hV.ne_nan (Int.le_refl _) (Int.le_refl _)
  have h2 := zmag_roundRatio_ge good_b64 (s := s) (A := N.natAbs) (e := b64.qmin) (e0 := b64.qmin) hD (val64_fits V) (Int.le_refl _) (Int.le_refl _)
  rw [← hv] at h1 h2
  have e1 : inUnits N.natAbs b64.qmin b64.qmin = N.natAbs := by simp [inUnits]
  rw [e1, Int.sub_self, Int.toNat_zero, Nat.pow_zero, Nat.mul_one] at h1 h2
  rw [Rnd.z_eq hv]
  have hzV : z V = signed (sgn (val64 V)) (zmag b64 (val64 V)) := rfl
  rw [hzV, ← signed_mul] at hle
  rw [hzV]
  have hz : zmag b64 (val64 V) * D = 0 → zmag b64 (val64 V) = 0 := by
    intro h
    rcases Nat.mul_eq_zero.mp h with h | h <;> omega
  generalize zmag b64 (val64 V) * D = vP at *
  generalize zmag b64 (val64 V) = v at *
  generalize zmag b64 (val64 r) = x at *
  generalize sgn (val64 V) = t at *
  cases s <;> cases t <;> simp only [signed, if_true, Bool.false_eq_true, if_false] at hle hs ⊢
  · have := h1 (by omega); omega
  · have := h1 (by omega); have := hz (by omega); omega
  · omega
  · have := h2 (by omega); omega
theorem Rnd.ge {N : Int} {D : Nat} {r V : UInt64} (h : Rnd N D r) (hV : DFin V) (hle : z V * (D : Int) ≤ N) : z V ≤ z r := by
  obtain ⟨hD, s, hs, hv⟩ := h
  have h1 := zmag_roundRatio_le good_b64 (s := s) (A := N.natAbs) (e := b64.qmin) (e0 := b64.qmin) hD (val64_fits V) hV.ne_nan (Int.le_refl _) (Int.le_refl _)
  have h2 := zmag_roundRatio_ge good_b64 (s := s) (A := N.natAbs) (e := b64.qmin) (e0 := b64.qmin) hD (val64_fits V) (Int.le_refl _) (Int.le_refl _)
  rw [← hv] at h1 h2
  have e1 : inUnits N.natAbs b64.qmin b64.qmin = N.natAbs := by simp [inUnits]
  rw [e1, Int.sub_self, Int.toNat_zero, Nat.pow_zero, Nat.mul_one] at h1 h2
  rw [Rnd.z_eq hv]
  have hzV : z V = signed (sgn (val64 V)) (zmag b64 (val64 V)) := rfl
  rw [hzV, ← signed_mul] at hle
  rw [hzV]
  have hz : zmag b64 (val64 V) * D = 0 → zmag b64 (val64 V) = 0 := by
    intro h
    rcases Nat.mul_eq_zero.mp h with h | h <;> omega
  generalize zmag b64 (val64 V) * D = vP at *
  generalize zmag b64 (val64 V) = v at *
  generalize zmag b64 (val64 r) = x at *
  generalize sgn (val64 V) = t at *
  cases s <;> cases t <;> simp only [signed, if_true, Bool.false_eq_true, if_false] at hle hs ⊢
  · have := h2 (by omega); omega
  · omega
  · have := h1 (by omega); have := hz (by omega); omega
  · have := h1 (by omega); omega
/-- a double between two finite ones is finite -/
theorem fin_between {r L H : UInt64} (hn : val64 r ≠ .nan) (hL : DFin L) (hH : DFin H) (h1 : z L ≤ z r) (h2 : z r ≤ z H) : DFin r := by
  obtain ⟨s, c, q, a1⟩ := hL
  obtain ⟨t, d, k, b1⟩ := hH
  have l1 := zmag_lt_top good_b64 (DFin.fits a1)
  have l2 := zmag_lt_top good_b64 (DFin.fits b1)
  rw [z_fin a1] at h1
  rw [z_fin b1] at h2
  cases hr : val64 r with
  | nan => exact absurd hr hn
  | fin s' c' q' => exact ⟨s', c', q', hr⟩
  | inf s' =>
    exfalso
    have hzr : z r = signed s' (b64.tails * 2 ^ (b64.exps - 2)) := by unfold z; rw [hr]; rfl
    rw [hzr] at h1 h2
    generalize b64.tails * 2 ^ (b64.exps - 2) = top at *
    generalize inUnits c q b64.qmin = u at *
    generalize inUnits d k b64.qmin = w at *
    cases s' <;> cases s <;> cases t <;> simp only [signed, if_true, Bool.false_eq_true, if_false] at h1 h2 <;> omega
/-- numbers of at most 53 digits are doubles -/
theorem rep (m : Int) (j : Nat) (hm : m.natAbs ≤ 2 ^ 53) (hj : j ≤ 2000) : ∃ V : UInt64, DFin V ∧ z V = m * (PN j : Int) := by
  have key : ∀ (m : Int) (j : Nat), m.natAbs < 2 ^ 53 → j ≤ 2001 → ∃ V : UInt64, DFin V ∧ z V = m * (PN j : Int) := by
    intro m j hm hj
    have hq : b64.qmin = -1074 := qm
    have hx : b64.qmax = 971 := by decide
    obtain ⟨c', q', h1, h2⟩ := round_exact good_b64 (decide (m < 0)) (c := m.natAbs) (q := (j : Int) - 1074) hm (by omega) (by omega)
    have hf := round_fits good_b64 (.fin (decide (m < 0)) m.natAbs ((j : Int) - 1074))
    refine ⟨of64 (round b64 (.fin (decide (m < 0)) m.natAbs ((j : Int) - 1074))), ⟨_, _, _, by rw [val64_of64 hf, h1]⟩, ?_⟩
    rw [z_fin (by rw [val64_of64 hf, h1]), h2]
    unfold inUnits
    rw [show ((j : Int) - 1074 - b64.qmin).toNat = j by omega, signed_mul]
    show signed (decide (m < 0)) m.natAbs * (PN j : Int) = m * (PN j : Int)
    congr 1
    by_cases h : m < 0
    · simp only [signed, h, decide_true, if_true]; omega
    · simp only [signed, h, decide_false, Bool.false_eq_true, if_false]; omega
  by_cases h : m.natAbs < 2 ^ 53
  · exact key m j h (by omega)
  · obtain ⟨V, hV, hz⟩ := key (m / 2) (j + 1) (by omega) (by omega)
    refine ⟨V, hV, ?_⟩
    have h2 : m = 2 * (m / 2) := by omega
    rw [hz, PN_addI, show (PN 1 : Int) = 2 from rfl]
    conv => rhs; rw [h2]
    generalize (PN j : Int) = P
    rw [Int.mul_comm P, ← Int.mul_assoc]
    congr 1
    exact Int.mul_comm _ _
theorem Rnd.fin_of {N : Int} {D : Nat} {r L H : UInt64} (h : Rnd N D r) (hL : DFin L) (hH : DFin H) (h1 : z L * (D : Int) ≤ N) (h2 : N ≤ z H * (D : Int)) : DFin r :=
  fin_between h.ne_nan hL hH (h.ge hL h1) (h.le hH h2)
/-- an exact quotient isn't rounded -/
theorem Rnd.exact {N : Int} {D : Nat} {r : UInt64} (h : Rnd N D r) (m : Int) (j : Nat) (hm : m.natAbs ≤ 2 ^ 53) (hj : j ≤ 2000) (hN : N = m * (PN j : Int) * (D : Int)) : DFin r ∧ z r = m * (PN j : Int) := by
  obtain ⟨V, hV, hz⟩ := rep m j hm hj
  have e : N = z V * (D : Int) := by rw [hz]; exact hN
  exact ⟨h.fin_of hV hV (by omega) (by omega), by have := h.le hV (by omega); have := h.ge hV (by omega); omega⟩
/-- off by less than g = 2^j, where the quotient is at most 2^53 g -/
theorem Rnd.near {N : Int} {D : Nat} {r : UInt64} (h : Rnd N D r) (j : Nat) (hj : j ≤ 2000) (h1 : -(2 ^ 53 * (PN j : Int) * (D : Int)) ≤ N) (h2 : N ≤ (2 ^ 53 - 1) * (PN j : Int) * (D : Int)) :
    DFin r ∧ N - (PN j : Int) * (D : Int) < z r * (D : Int) ∧ z r * (D : Int) < N + (PN j : Int) * (D : Int) := by
  have hD : 0 < D := h.1
  have hg : (0 : Int) < (PN j : Int) * (D : Int) := Int.mul_pos (PN_posI j) (by omega)
  have e1 := Int.mul_ediv_add_emod N ((PN j : Int) * (D : Int))
  have e2 := Int.emod_nonneg N (b := (PN j : Int) * (D : Int)) (by omega)
  have e3 := Int.emod_lt_of_pos N hg
  rw [Int.mul_assoc] at h1 h2
  have l1 : -(2 ^ 53) ≤ N / ((PN j : Int) * (D : Int)) := by
    refine (Int.le_ediv_iff_mul_le hg).mpr ?_
    rw [Int.neg_mul]; exact h1
  have l2 : N / ((PN j : Int) * (D : Int)) ≤ 2 ^ 53 - 1 := by
    refine Int.le_trans (Int.ediv_le_ediv hg h2) ?_
    rw [Int.mul_ediv_cancel _ (by omega)]; exact Int.le_refl _
  obtain ⟨L, hL, zL⟩ := rep (N / ((PN j : Int) * (D : Int))) j (by omega) hj
  obtain ⟨H, hH, zH⟩ := rep (N / ((PN j : Int) * (D : Int)) + 1) j (by omega) hj
  generalize N / ((PN j : Int) * (D : Int)) = m at *
  generalize N % ((PN j : Int) * (D : Int)) = t at *
  have c1 : z L * (D : Int) ≤ N := by
    rw [zL, Int.mul_assoc, Int.mul_comm m]; omega
  have c2 : N ≤ z H * (D : Int) := by
    rw [zH, Int.mul_assoc, Int.add_mul, Int.one_mul, Int.mul_comm m]; omega
  have c3 := Int.mul_le_mul_of_nonneg_right (h.ge hL c1) (c := (D : Int)) (by omega)
  have c4 := Int.mul_le_mul_of_nonneg_right (h.le hH c2) (c := (D : Int)) (by omega)
  refine ⟨h.fin_of hL hH c1 c2, ?_, ?_⟩
  · rw [zL, Int.mul_assoc, Int.mul_comm m] at c3; omega
  · rw [zH, Int.mul_assoc, Int.add_mul, Int.one_mul, Int.mul_comm m] at c4
    by_cases t0 : t = 0
    · have c5 := Int.mul_le_mul_of_nonneg_right (h.le hL (by rw [zL, Int.mul_assoc, Int.mul_comm m]; omega)) (c := (D : Int)) (by omega)
      rw [zL, Int.mul_assoc, Int.mul_comm m] at c5; omega
    · omega
theorem z_inj_zero {a : UInt64} (h : DFin a) : z a = 0 ↔ DZero a := by
  obtain ⟨s, c, q, h1⟩ := h
  rw [z_fin h1, signed_eq_zero]
  constructor
  · intro h
    have : c = 0 := by
      rcases Nat.mul_eq_zero.mp (show c * _ = 0 from h) with h | h
      · exact h
      · have := Nat.two_pow_pos (q - b64.qmin).toNat; omega
    exact ⟨s, q, this ▸ h1⟩
  · rintro ⟨s', q', h2⟩
    rw [h1] at h2
    cases h2
    exact Nat.zero_mul _
/-- nothing is nearer -/
theorem Rnd.nearest {N : Int} {D : Nat} {r V : UInt64} (h : Rnd N D r) (f : DFin r) (hV : DFin V) : (N - z r * (D : Int)).natAbs ≤ (N - z V * (D : Int)).natAbs := by
  obtain ⟨hD, s, hs, hv⟩ := h
  obtain ⟨s1, c, q, h1⟩ := f
  obtain ⟨t, c', q', h2⟩ := hV
  have f2 := DFin.fits h2
  rw [h1] at hv
  have hsg : s1 = s := by
    have := sgn_roundRatio b64 s N.natAbs D b64.qmin
    rw [← hv] at this; exact this
  subst hsg
  have d1 := roundRatio_nearest good_b64 hD hv.symm f2.1 f2.2.1 (Int.le_refl b64.qmin) (Int.le_refl b64.qmin)
  have d0 := roundRatio_nearest good_b64 (c' := 0) (q' := b64.qmin) hD hv.symm (Nat.two_pow_pos _) (Int.le_refl _) (Int.le_refl b64.qmin) (Int.le_refl b64.qmin)
  unfold distance at d1 d0
  have e1 : inUnits N.natAbs b64.qmin b64.qmin = N.natAbs := by simp [inUnits]
  have e0 : inUnits 0 b64.qmin b64.qmin = 0 := by simp [inUnits]
  rw [e1] at d1 d0
  rw [e0] at d0
  rw [z_fin h1, z_fin h2]
  generalize inUnits c q b64.qmin = u at *
  generalize inUnits c' q' b64.qmin = w at *
  generalize N.natAbs = A at *
  subst hs
  rw [← signed_mul, ← signed_mul]
  rw [← Int.natCast_mul] at d1 d0
  rw [← Int.natCast_mul] at d1 d0
  generalize u * D = X at *
  generalize w * D = Y at *
  cases s1 <;> cases t <;> simp only [signed, if_true, Bool.false_eq_true, if_false] <;> omega
theorem Rnd.same' {X : Int} {P : Nat} {r r' : UInt64} (h : Rnd X P r) (h' : Rnd X P r') : z r = z r' := by
  obtain ⟨hD, s, hs, hv⟩ := h
  obtain ⟨-, s', hs', hv'⟩ := h'
  by_cases e : s = s'
  · subst e
    unfold z; rw [hv, hv']
  · have h0 : X.natAbs = 0 := by
      clear hv hv'
      generalize X.natAbs = A at *
      cases s <;> cases s' <;> simp only [signed, if_true, Bool.false_eq_true, if_false] at hs hs' <;> first | omega | exact absurd rfl e
    have k : ∀ (s : Bool) (r : UInt64), val64 r = roundRatio b64 s X.natAbs P b64.qmin → z r = 0 := by
      intro s r hr
      rw [h0] at hr
      unfold roundRatio at hr
      rw [if_pos rfl] at hr
      rw [z_fin hr, signed_eq_zero]
      exact Nat.zero_mul _
    rw [k s r hv, k s' r' hv']
theorem Rnd.same {N N' : Int} {D D' : Nat} {r r' : UInt64} (h : Rnd N D r) (h' : Rnd N' D' r') (e : N * (D' : Int) = N' * (D : Int)) : z r = z r' := by
  have a := h.up D' h'.1
  have b := h'.up D h.1
  rw [← e, Nat.mul_comm] at b
  exact Rnd.same' a b
/-- rounding keeps the order -/
theorem Rnd.mono {N N' : Int} {D D' : Nat} {r r' : UInt64} (h : Rnd N D r) (h' : Rnd N' D' r') (f : DFin r) (f' : DFin r') (hle : N * (D' : Int) ≤ N' * (D : Int)) : z r ≤ z r' := by
  refine Int.le_of_not_gt fun hlt => ?_
  have hD := h.1
  have hD' := h'.1
  have n1 := h.nearest f f'
  have n2 := h'.nearest f' f
  have a1 : z r' * (D : Int) < N := Int.lt_of_not_ge fun q => by have := h.le f' q; omega
  have a2 : N' < z r * (D' : Int) := Int.lt_of_not_ge fun q => by have := h'.ge f q; omega
  have b1 : N < z r * (D : Int) := by
    have c1 := Int.mul_lt_mul_of_pos_right a2 (c := (D : Int)) (by omega)
    have c2 : N * (D' : Int) < z r * (D : Int) * (D' : Int) := by rw [Int.mul_right_comm]; omega
    exact Int.lt_of_mul_lt_mul_right c2 (by omega)
  have b2 : z r' * (D' : Int) < N' := by
    have c1 := Int.mul_lt_mul_of_pos_right a1 (c := (D' : Int)) (by omega)
    have c2 : z r' * (D' : Int) * (D : Int) < N' * (D : Int) := by rw [Int.mul_right_comm]; omega
    exact Int.lt_of_mul_lt_mul_right c2 (by omega)
  have m1 : z r * (D : Int) + z r' * (D : Int) ≤ 2 * N := by omega
  have m2 : 2 * N' ≤ z r * (D' : Int) + z r' * (D' : Int) := by omega
  have k1 := Int.mul_le_mul_of_nonneg_right m1 (c := (D' : Int)) (by omega)
  have k2 := Int.mul_le_mul_of_nonneg_right m2 (c := (D : Int)) (by omega)
  rw [Int.add_mul, Int.mul_assoc] at k1
  rw [Int.add_mul, Int.mul_assoc] at k2
  rw [Int.mul_right_comm (z r), Int.mul_right_comm (z r')] at k2
  rw [← Int.mul_assoc] at k1 k2
  have e : N * (D' : Int) = N' * (D : Int) := by
    rw [Int.mul_assoc 2] at k1
    have k2' : 2 * (N' * (D : Int)) ≤ z r * (D : Int) * (D' : Int) + z r' * (D : Int) * (D' : Int) := by
      rw [← Int.mul_assoc]; omega
    have k1' : z r * (D : Int) * (D' : Int) + z r' * (D : Int) * (D' : Int) ≤ 2 * (N * (D' : Int)) := by
      omega
    omega
  have := h.same h' e
  omega
/-! comparisons -/
theorem nn {a : UInt64} (h : DFin a) : NoNaN64 a := (fin64_core.mpr h).noNaN
theorem cmp_z {a b : UInt64} (ha : DFin a) (hb : DFin b) : Jvm.FP.dcmp a b = some (compare (z a) (z b)) := dcmp_zval ha.ne_nan hb.ne_nan
theorem cmp_lt {a b : UInt64} (ha : DFin a) (hb : DFin b) (h : z a < z b) (o : Jvm.ClassFile.CmpOp) : Jvm.Op.cmpValue (Jvm.FP.dcmp a b) o = -1 := by
  rw [cmp_z ha hb, (compare_lt_iff _ _).mpr h]; rfl
theorem cmp_eq {a b : UInt64} (ha : DFin a) (hb : DFin b) (h : z a = z b) (o : Jvm.ClassFile.CmpOp) : Jvm.Op.cmpValue (Jvm.FP.dcmp a b) o = 0 := by
  rw [cmp_z ha hb, (compare_eq_iff _ _).mpr h]; rfl
theorem cmp_gt {a b : UInt64} (ha : DFin a) (hb : DFin b) (h : z b < z a) (o : Jvm.ClassFile.CmpOp) : Jvm.Op.cmpValue (Jvm.FP.dcmp a b) o = 1 := by
  rw [cmp_z ha hb, (compare_gt_iff _ _).mpr h]; rfl
/-! whole numbers -/
theorem z_i2d (v : Int32) : DFin (i2d v) ∧ z (i2d v) = v.toInt * (PN 1074 : Int) := by
  have h1 := Int32.toInt_lt v
  have h2 := Int32.le_toInt v
  exact (rnd_i2d v).exact v.toInt 1074 (by omega) (by omega) (by simp)
theorem z_l2d {v : Int64} (h : v.toInt.natAbs ≤ 2 ^ 53) : DFin (l2d v) ∧ z (l2d v) = v.toInt * (PN 1074 : Int) :=
  (rnd_l2d v).exact v.toInt 1074 h (by omega) (by simp)
theorem fin_zero : DFin (0 : UInt64) := (fin_bits 0).mpr (by decide)
theorem z_zero : z (0 : UInt64) = 0 := by decide +kernel
theorem fin_one : DFin (4607182418800017408 : UInt64) := (fin_bits _).mpr (by decide)
theorem z_one : z (4607182418800017408 : UInt64) = (PN 1074 : Int) := by decide +kernel
end Jvm.Own

/-! OwnRel: what a branch asks, in whole numbers. -/
namespace Jvm.Own
open Jvm.ClassFile Jvm.Op
def rel : Jvm.ClassFile.Cond → Int → Int → Bool
  | .eq, a, b => decide (a = b)
  | .ne, a, b => decide (¬ a = b)
  | .lt, a, b => decide (a < b)
  | .ge, a, b => decide (b ≤ a)
  | .gt, a, b => decide (b < a)
  | .le, a, b => decide (a ≤ b)
theorem holdsII (cd : Jvm.ClassFile.Cond) (x y : Int32) : if_icmp.holds cd x y = rel cd x.toInt y.toInt := by
  have e : (x = y) ↔ (x.toInt = y.toInt) := Int32.toInt_inj.symm
  cases cd
  · show (x == y) = decide (x.toInt = y.toInt)
    rw [Bool.eq_iff_iff, beq_iff_eq, decide_eq_true_iff]; exact e
  · show (x != y) = decide (¬ x.toInt = y.toInt)
    rw [Bool.eq_iff_iff, bne_iff_ne, decide_eq_true_iff]; exact not_congr e
  all_goals
    simp only [if_icmp.holds, rel, GE.ge, GT.gt]
    rw [Bool.eq_iff_iff, decide_eq_true_iff, decide_eq_true_iff]
    first | exact Int32.lt_iff_toInt_lt | exact Int32.le_iff_toInt_le
theorem holdsI (cd : Jvm.ClassFile.Cond) (x : Int32) : ifCond.holds cd x = rel cd x.toInt 0 := by
  rw [Jvm.RoadKit.if0, holdsII]; rfl
theorem holdsL (cd : Jvm.ClassFile.Cond) (x y : Int64) : ifCond.holds cd (Jvm.RoadKit.lcmpW x y) = rel cd x.toInt y.toInt := by
  have h := Jvm.RoadKit.c_lcmp x y
  rw [holdsI]
  rcases Int.lt_trichotomy x.toInt y.toInt with q | q | q
  · rw [h.1 q]; cases cd <;> simp [rel] <;> omega
  · rw [h.2.1 q]; cases cd <;> simp [rel] <;> omega
  · rw [h.2.2 q]; cases cd <;> simp [rel] <;> omega
theorem holdsD {a b : UInt64} (ha : Jvm.FP.Core.DFin a) (hb : Jvm.FP.Core.DFin b) (cd : Jvm.ClassFile.Cond) (o : CmpOp) : ifCond.holds cd (Jvm.Op.cmpValue (Jvm.FP.dcmp a b) o) = rel cd (z a) (z b) := by
  rw [holdsI]
  rcases Int.lt_trichotomy (z a) (z b) with q | q | q
  · rw [cmp_lt ha hb q]; cases cd <;> simp [rel] <;> omega
  · rw [cmp_eq ha hb q]; cases cd <;> simp [rel] <;> omega
  · rw [cmp_gt ha hb q]; cases cd <;> simp [rel] <;> omega
theorem dT {p : Prop} [Decidable p] (h : p) : decide p = true := decide_eq_true h
theorem dF {p : Prop} [Decidable p] (h : ¬ p) : decide p = false := decide_eq_false h
theorem dup2X1 {tb : Tables} [Ours tb] {e : Env} {below : List Frame} {T target : State} {m : MethodId} {c : Code} {g : JFrame} (h : At T m c below) (hx : tb.exec = Jvm.exec) (hg : g.method = m) {x : Int64} {y : Value} {rest : List Value} (hd : decode c.code g.pc = .ok (.dup2_x1, 1)) (hs : g.stack = .long x :: y :: rest) (hc : y.category = 1)
    (hr : Steps tb e below (T.setTop { g with pc := g.pc + 1, stack := .long x :: y :: .long x :: rest }) target) : Steps tb e below (T.setTop g) target := by
  subst hg
  jvm_step h [h.top, hx, hd, hs, hc]
  exact hr
theorem irem_mod (x y : Int32) : x - (x / y) * y = x % y := by
  apply Int32.toInt_inj.mp
  have h1 := Int32.le_toInt (x % y)
  have h2 := Int32.toInt_lt (x % y)
  rw [Int32.toInt_sub, Int32.toInt_mul, Int32.toInt_div, Int.bmod_mul_bmod, Int.sub_bmod_bmod, Int.mul_comm (x.toInt.tdiv y.toInt), ← Int.tmod_def, ← Int32.toInt_mod]
  exact Int.bmod_eq_of_le_mul_two (by omega) (by omega)
end Jvm.Own

namespace Jvm.Pilot.@@N@@
open Jvm Jvm.ClassFile Sem Op Lib Jvm.Free Jvm.Stand Jvm.LawKit Jvm.RoadKit Bundle Jvm.Pilot.@@N@@.Jvm.D

theorem d1_0 : decode prog_17_method_1_code 0 = .ok (.aload_n 0, 1) := by decide +kernel
theorem d1_1 : decode prog_17_method_1_code 1 = .ok (.invokespecial 1, 3) := by decide +kernel
theorem d1_4 : decode prog_17_method_1_code 4 = .ok (.aload_n 0, 1) := by decide +kernel
theorem d1_5 : decode prog_17_method_1_code 5 = .ok (.dload_n 1, 1) := by decide +kernel
theorem d1_6 : decode prog_17_method_1_code 6 = .ok (.putfield 7, 3) := by decide +kernel
theorem d1_9 : decode prog_17_method_1_code 9 = .ok (.aload_n 0, 1) := by decide +kernel
theorem d1_10 : decode prog_17_method_1_code 10 = .ok (.dload_n 3, 1) := by decide +kernel
theorem d1_11 : decode prog_17_method_1_code 11 = .ok (.putfield 13, 3) := by decide +kernel
theorem d1_14 : decode prog_17_method_1_code 14 = .ok (.aload_n 0, 1) := by decide +kernel
theorem d1_15 : decode prog_17_method_1_code 15 = .ok (.dload 5, 2) := by decide +kernel
theorem d1_17 : decode prog_17_method_1_code 17 = .ok (.putfield 16, 3) := by decide +kernel
theorem d1_20 : decode prog_17_method_1_code 20 = .ok (.aload_n 0, 1) := by decide +kernel
theorem d1_21 : decode prog_17_method_1_code 21 = .ok (.dload 7, 2) := by decide +kernel
theorem d1_23 : decode prog_17_method_1_code 23 = .ok (.putfield 19, 3) := by decide +kernel
theorem d1_26 : decode prog_17_method_1_code 26 = .ok (.aload_n 0, 1) := by decide +kernel
theorem d1_27 : decode prog_17_method_1_code 27 = .ok (.dload 9, 2) := by decide +kernel
theorem d1_29 : decode prog_17_method_1_code 29 = .ok (.putfield 22, 3) := by decide +kernel
theorem d1_32 : decode prog_17_method_1_code 32 = .ok (.aload_n 0, 1) := by decide +kernel
theorem d1_33 : decode prog_17_method_1_code 33 = .ok (.dload 11, 2) := by decide +kernel
theorem d1_35 : decode prog_17_method_1_code 35 = .ok (.putfield 25, 3) := by decide +kernel
theorem d1_38 : decode prog_17_method_1_code 38 = .ok (.return_, 1) := by decide +kernel
theorem d2_0 : decode jdk_30_method_1_code 0 = .ok (.aload_n 0, 1) := by decide +kernel
theorem d2_1 : decode jdk_30_method_1_code 1 = .ok (.invokespecial 1, 3) := by decide +kernel
theorem d2_4 : decode jdk_30_method_1_code 4 = .ok (.return_, 1) := by decide +kernel
theorem d4_0 : decode prog_17_method_2_code 0 = .ok (.aload_n 0, 1) := by decide +kernel
theorem d4_1 : decode prog_17_method_2_code 1 = .ok (.getfield 7, 3) := by decide +kernel
theorem d4_4 : decode prog_17_method_2_code 4 = .ok (.aload_n 0, 1) := by decide +kernel
theorem d4_5 : decode prog_17_method_2_code 5 = .ok (.getfield 13, 3) := by decide +kernel
theorem d4_8 : decode prog_17_method_2_code 8 = .ok (.aload_n 0, 1) := by decide +kernel
theorem d4_9 : decode prog_17_method_2_code 9 = .ok (.getfield 16, 3) := by decide +kernel
theorem d4_12 : decode prog_17_method_2_code 12 = .ok (.invokestatic 28, 3) := by decide +kernel
theorem d4_15 : decode prog_17_method_2_code 15 = .ok (.invokestatic 28, 3) := by decide +kernel
theorem d4_18 : decode prog_17_method_2_code 18 = .ok (.dreturn, 1) := by decide +kernel
theorem pd_0 : parseMethodDescriptor "()V" = some ⟨[], none⟩ := by decide +kernel
theorem pd_1 : parseMethodDescriptor "(DD)D" = some ⟨[.double, .double], some .double⟩ := by decide +kernel
theorem pd_2 : parseMethodDescriptor "(DDDDDD)V" = some ⟨[.double, .double, .double, .double, .double, .double], none⟩ := by decide +kernel
theorem pd_3 : parseMethodDescriptor "()D" = some ⟨[], some .double⟩ := by decide +kernel
theorem pn_0 : plainName "java/lang/Record" = true := by first | (simp [plainName, overriddenIn]; done) | decide +kernel
theorem pn_1 : plainName "com/example/surefoot/surefoot/QuadraticProgram$Residuals" = true := by first | (simp [plainName, overriddenIn]; done) | decide +kernel
theorem pn_2 : plainName "com/example/surefoot/surefoot/ResidualsLargestPinLaw" = true := by first | (simp [plainName, overriddenIn]; done) | decide +kernel
def QV (h0 : Heap) (n0 : Nat) (v : Option Value) (h : Heap) (L : List Loc) : Prop := v = none ∧ Fr n0 L ∧ h = h0
theorem ef_rmRec (m : MethodId) (a : Addr) : entryFrame m #[(.ref a)] 1 = mkF m 0 #[.val (.ref a)] [] := by first | (simp [entryFrame, mkF, argsToLocals, Value.category]; done) | rfl
set_option maxRecDepth 65536 in
set_option maxHeartbeats 40000000 in
theorem rmRec (l : Launch) (Z : State) (a0 : Array Value) (hw : ∀ d ∈ tables_1, d.before a0 Z = true) (ws : List Jvm.Cond) (a : Addr) (h0 : Heap) (n0 : Nat) (Z0 : n0 ≤ h0.size)  :
    MetFree l (⟨"java/lang/Record", "<init>", "()V"⟩ : MethodName) (head1 (Jvm.Cond.code (⟨"java/lang/Record", "<init>", "()V"⟩ : MethodName) jdk_30_method_1_code 1 none :: ws) ({ frames := 1, cells := 0, slots := 0, locals := 12 } : Room)) (fun a_ U_ => a_ = #[(.ref a)] ∧ Z.Warmed39 U_.vm ∧ U_.heap = h0) (fun _ _ _ _ _ => True) (fun _ U_ o_ V_ => ∃ v_ L_, o_ = .returned v_ ∧ QV h0 n0 v_ V_.heap L_ ∧ FrameEnd U_ o_ V_ L_ ({ frames := 1, cells := 0, slots := 0, locals := 12 } : Room).cells ({ frames := 1, cells := 0, slots := 0, locals := 12 } : Room).slots) := by
  refine MetFree.of_bodySF (plainFor_of_name pn_0) hisR ?_
  intro p e s m args below meth c s₁ Bd hml0 hP hK
  obtain ⟨rfl, hZ, hh⟩ := hP
  have hx := Bd.exec
  have hby := Bd.bytes
  have hml : c.maxLocals = 1 := hml0
  have hown : s.vm.findClass "java/lang/Record" = some m.cls := findClass_of_methodNamed Bd.named
  have hnm := (name_of_methodNamed Bd.named Bd.method).1
  have X0 : Stand p l e ({ frames := 1, cells := 0, slots := 0, locals := 12 } : Room) s m #[(.ref a)] below meth c s₁ [] 0 0 := Stand.of_body Bd
  have e0 : s₁.heap = h0 := by rw [← hh, Bd.state]; rfl
  have N0 := Fr.nil n0
  have pre0 : ∀ t, Steps p.tables e below (s₁.setTop (mkF m 0 #[.val (.ref a)] [])) t → Steps p.tables e below (s₁.setTop (entryFrame m #[(.ref a)] 1)) t := fun t_ k_ => castTop (ef_rmRec m a) k_
  obtain ⟨T1, X1, e1, st1⟩ := initO X0 hx hZ hown (hw _ (List.mem_of_getElem? (i := 12) rfl)) (hw _ (List.mem_of_getElem? (i := 13) rfl)) (hw _ (List.mem_of_getElem? (i := 14) rfl)) e0 (g := (mkF m 1 #[.val (.ref a)] [(.ref a)])) rfl (by rw [hml]; rfl) rfl (hb hby d2_1) (by decide) (W := 0) (by show 2 * 0 + _ ≤ _; exact Nat.le_of_eq rfl) (by decide)
  obtain ⟨fs, hr, hrun, hended, hW, hsame⟩ := X1.leave (v := none) (fun _ => rfl)
  refine ⟨_, _, pre0 _ ?_, hrun, hended, _, _, rfl, ?_, ⟨_, rfl⟩, hW, hsame.mono (by decide) (by decide)⟩
  · show Steps p.tables e below (s₁.setTop (mkF m 0 #[.val (.ref a)] [])) _
    refine XS.aloadN X0.here hx rfl (hb hby d2_0) rfl rfl ?_
    show Steps p.tables e below (s₁.setTop (mkF m 1 #[.val (.ref a)] [(.ref a)])) _
    refine st1 _ ?_
    show Steps p.tables e below (T1.setTop (mkF m 4 #[.val (.ref a)] [])) _
    exact X1.returnOut hx Bd.returns (hb hby d2_4) hr
  · show QV h0 n0 _ T1.heap _
    rw [e1]
    exact ⟨rfl, N0, rfl⟩
def QI (Z : State) (a : Addr) (x0 : UInt64) (x1 : UInt64) (x2 : UInt64) (x3 : UInt64) (x4 : UInt64) (x5 : UInt64) (h0 : Heap) (n0 : Nat) (v : Option Value) (h : Heap) (L : List Loc) : Prop := v = none ∧ Fr n0 L ∧ Keep h0 h [a] ∧ Exa Z h a "com/example/surefoot/surefoot/QuadraticProgram$Residuals" ∧ Fld Z h a "com/example/surefoot/surefoot/QuadraticProgram$Residuals" "primal" "D" (.double x0) ∧ Fld Z h a "com/example/surefoot/surefoot/QuadraticProgram$Residuals" "dual" "D" (.double x1) ∧ Fld Z h a "com/example/surefoot/surefoot/QuadraticProgram$Residuals" "gap" "D" (.double x2) ∧ Fld Z h a "com/example/surefoot/surefoot/QuadraticProgram$Residuals" "primalScale" "D" (.double x3) ∧ Fld Z h a "com/example/surefoot/surefoot/QuadraticProgram$Residuals" "dualScale" "D" (.double x4) ∧ Fld Z h a "com/example/surefoot/surefoot/QuadraticProgram$Residuals" "gapScale" "D" (.double x5)
theorem ef_rmInit (m : MethodId) (a : Addr) (x0 : UInt64) (x1 : UInt64) (x2 : UInt64) (x3 : UInt64) (x4 : UInt64) (x5 : UInt64) : entryFrame m #[(.ref a), (.double x0), (.double x1), (.double x2), (.double x3), (.double x4), (.double x5)] 13 = mkF m 0 #[.val (.ref a), .val (.double x0), .second, .val (.double x1), .second, .val (.double x2), .second, .val (.double x3), .second, .val (.double x4), .second, .val (.double x5), .second] [] := by first | (simp [entryFrame, mkF, argsToLocals, Value.category]; done) | rfl
set_option maxRecDepth 65536 in
set_option maxHeartbeats 40000000 in
theorem rmInit (l : Launch) (Z : State) (a0 : Array Value) (hw : ∀ d ∈ tables_1, d.before a0 Z = true) (ws : List Jvm.Cond) (a : Addr) (x0 : UInt64) (x1 : UInt64) (x2 : UInt64) (x3 : UInt64) (x4 : UInt64) (x5 : UInt64) (h0 : Heap) (n0 : Nat) (Z0 : n0 ≤ h0.size) (E : Exa Z h0 a "com/example/surefoot/surefoot/QuadraticProgram$Residuals") (ga : n0 ≤ a) (F0 : Fld Z h0 a "com/example/surefoot/surefoot/QuadraticProgram$Residuals" "primal" "D" (.double 0)) (F1 : Fld Z h0 a "com/example/surefoot/surefoot/QuadraticProgram$Residuals" "dual" "D" (.double 0)) (F2 : Fld Z h0 a "com/example/surefoot/surefoot/QuadraticProgram$Residuals" "gap" "D" (.double 0)) (F3 : Fld Z h0 a "com/example/surefoot/surefoot/QuadraticProgram$Residuals" "primalScale" "D" (.double 0)) (F4 : Fld Z h0 a "com/example/surefoot/surefoot/QuadraticProgram$Residuals" "dualScale" "D" (.double 0)) (F5 : Fld Z h0 a "com/example/surefoot/surefoot/QuadraticProgram$Residuals" "gapScale" "D" (.double 0)) :
    MetFree l (⟨"com/example/surefoot/surefoot/QuadraticProgram$Residuals", "<init>", "(DDDDDD)V"⟩ : MethodName) (head1 (Jvm.Cond.code (⟨"com/example/surefoot/surefoot/QuadraticProgram$Residuals", "<init>", "(DDDDDD)V"⟩ : MethodName) prog_17_method_1_code 13 none :: ws) ({ frames := 2, cells := 0, slots := 0, locals := 24 } : Room)) (fun a_ U_ => a_ = #[(.ref a), (.double x0), (.double x1), (.double x2), (.double x3), (.double x4), (.double x5)] ∧ Z.Warmed39 U_.vm ∧ U_.heap = h0) (fun _ _ _ _ _ => True) (fun _ U_ o_ V_ => ∃ v_ L_, o_ = .returned v_ ∧ QI Z a x0 x1 x2 x3 x4 x5 h0 n0 v_ V_.heap L_ ∧ FrameEnd U_ o_ V_ L_ ({ frames := 2, cells := 0, slots := 0, locals := 24 } : Room).cells ({ frames := 2, cells := 0, slots := 0, locals := 24 } : Room).slots) := by
  refine MetFree.of_bodySF (plainFor_of_name pn_1) hisR ?_
  intro p e s m args below meth c s₁ Bd hml0 hP hK
  obtain ⟨rfl, hZ, hh⟩ := hP
  have hx := Bd.exec
  have hby := Bd.bytes
  have hml : c.maxLocals = 13 := hml0
  have hown : s.vm.findClass "com/example/surefoot/surefoot/QuadraticProgram$Residuals" = some m.cls := findClass_of_methodNamed Bd.named
  have hnm := (name_of_methodNamed Bd.named Bd.method).1
  have X0 : Stand p l e ({ frames := 2, cells := 0, slots := 0, locals := 24 } : Room) s m #[(.ref a), (.double x0), (.double x1), (.double x2), (.double x3), (.double x4), (.double x5)] below meth c s₁ [] 0 0 := Stand.of_body Bd
  have e0 : s₁.heap = h0 := by rw [← hh, Bd.state]; rfl
  have N0 := Fr.nil n0
  have pre0 : ∀ t, Steps p.tables e below (s₁.setTop (mkF m 0 #[.val (.ref a), .val (.double x0), .second, .val (.double x1), .second, .val (.double x2), .second, .val (.double x3), .second, .val (.double x4), .second, .val (.double x5), .second] [])) t → Steps p.tables e below (s₁.setTop (entryFrame m #[(.ref a), (.double x0), (.double x1), (.double x2), (.double x3), (.double x4), (.double x5)] 13)) t := fun t_ k_ => castTop (ef_rmInit m a x0 x1 x2 x3 x4 x5) k_
  obtain ⟨_, _, ⟨TR, LR, kR, nR⟩, -, XR, ⟨LcR, hQR, lR, yR, zR⟩, stR⟩ := X0.specialBack hx (y := (⟨"java/lang/Record", "<init>", "()V"⟩ : MethodName)) rfl hown (mvT hZ (hw _ (List.mem_of_getElem? (i := 7) rfl))) (mvT hZ (hw _ (List.mem_of_getElem? (i := 8) rfl))) (mvT hZ (hw _ (List.mem_of_getElem? (i := 11) rfl))) (by decide) (backOf (W := 0) (rmRec l Z a0 hw [] a h0 n0 Z0) hZ (hw _ (List.mem_of_getElem? (i := 11) rfl)) (hw _ (List.mem_of_getElem? (i := 10) rfl)) (by decide) (by decide)) (g := (mkF m 1 #[.val (.ref a), .val (.double x0), .second, .val (.double x1), .second, .val (.double x2), .second, .val (.double x3), .second, .val (.double x4), .second, .val (.double x5), .second] [(.ref a)])) rfl (by rw [hml]; rfl) (Steps.refl _) (a := a) (argsL := []) (rest := []) (lenOf pd_0 rfl) rfl (by show 2 * 0 + _ ≤ _; exact Nat.le_of_eq rfl) (hb hby d1_1) (fun _ _ => ⟨rfl, e0, (by decide : 0 + 0 ≤ _), (by decide : 0 + 0 ≤ _)⟩)
  dsimp only [Pt.U, Pt.locs, Pt.cells, Pt.slots] at XR lR yR zR stR hQR
  subst lR yR zR
  obtain ⟨rfl, NR, eR⟩ := hQR
  obtain ⟨Tw0, hw0, Xw0, ew0, Ww0, stw0⟩ := putF XR hx hZ hown (host := "") (Or.inl (hw _ (List.mem_of_getElem? (i := 15) rfl))) Via.refl eR F0 E (Or.inr ⟨(hw _ (List.mem_of_getElem? (i := 16) rfl)), rfl, hnm⟩) (hw _ (List.mem_of_getElem? (i := 2) rfl)) (ty := .double) (by decide) rfl rfl (g := (mkF m 6 #[.val (.ref a), .val (.double x0), .second, .val (.double x1), .second, .val (.double x2), .second, .val (.double x3), .second, .val (.double x4), .second, .val (.double x5), .second] [(.double x0), (.ref a)])) rfl rfl (hb hby d1_6)
  have G0_0 : Fld Z hw0 a "com/example/surefoot/surefoot/QuadraticProgram$Residuals" "primal" "D" (.double x0) := F0.same Ww0
  have G0_1 : Fld Z hw0 a "com/example/surefoot/surefoot/QuadraticProgram$Residuals" "dual" "D" (.double 0) := F1.other Ww0 (Or.inr (slot_ne (Or.inr (hw _ (List.mem_of_getElem? (i := 18) rfl))) (Or.inr (hw _ (List.mem_of_getElem? (i := 16) rfl))) (by decide) (t := .double) (t' := .double) (by decide) (by decide)))
  have G0_2 : Fld Z hw0 a "com/example/surefoot/surefoot/QuadraticProgram$Residuals" "gap" "D" (.double 0) := F2.other Ww0 (Or.inr (slot_ne (Or.inr (hw _ (List.mem_of_getElem? (i := 20) rfl))) (Or.inr (hw _ (List.mem_of_getElem? (i := 16) rfl))) (by decide) (t := .double) (t' := .double) (by decide) (by decide)))
  have G0_3 : Fld Z hw0 a "com/example/surefoot/surefoot/QuadraticProgram$Residuals" "primalScale" "D" (.double 0) := F3.other Ww0 (Or.inr (slot_ne (Or.inr (hw _ (List.mem_of_getElem? (i := 22) rfl))) (Or.inr (hw _ (List.mem_of_getElem? (i := 16) rfl))) (by decide) (t := .double) (t' := .double) (by decide) (by decide)))
  have G0_4 : Fld Z hw0 a "com/example/surefoot/surefoot/QuadraticProgram$Residuals" "dualScale" "D" (.double 0) := F4.other Ww0 (Or.inr (slot_ne (Or.inr (hw _ (List.mem_of_getElem? (i := 24) rfl))) (Or.inr (hw _ (List.mem_of_getElem? (i := 16) rfl))) (by decide) (t := .double) (t' := .double) (by decide) (by decide)))
  have G0_5 : Fld Z hw0 a "com/example/surefoot/surefoot/QuadraticProgram$Residuals" "gapScale" "D" (.double 0) := F5.other Ww0 (Or.inr (slot_ne (Or.inr (hw _ (List.mem_of_getElem? (i := 26) rfl))) (Or.inr (hw _ (List.mem_of_getElem? (i := 16) rfl))) (by decide) (t := .double) (t' := .double) (by decide) (by decide)))
  have M0 := Fr.snoc Xw0 (Fr.app N0 NR) ga
  obtain ⟨Tw1, hw1, Xw1, ew1, Ww1, stw1⟩ := putF Xw0 hx hZ hown (host := "") (Or.inl (hw _ (List.mem_of_getElem? (i := 17) rfl))) Via.refl ew0 G0_1 (E.wr Ww0) (Or.inr ⟨(hw _ (List.mem_of_getElem? (i := 18) rfl)), rfl, hnm⟩) (hw _ (List.mem_of_getElem? (i := 2) rfl)) (ty := .double) (by decide) rfl rfl (g := (mkF m 11 #[.val (.ref a), .val (.double x0), .second, .val (.double x1), .second, .val (.double x2), .second, .val (.double x3), .second, .val (.double x4), .second, .val (.double x5), .second] [(.double x1), (.ref a)])) rfl rfl (hb hby d1_11)
  have G1_0 : Fld Z hw1 a "com/example/surefoot/surefoot/QuadraticProgram$Residuals" "primal" "D" (.double x0) := G0_0.other Ww1 (Or.inr (slot_ne (Or.inr (hw _ (List.mem_of_getElem? (i := 16) rfl))) (Or.inr (hw _ (List.mem_of_getElem? (i := 18) rfl))) (by decide) (t := .double) (t' := .double) (by decide) (by decide)))
  have G1_1 : Fld Z hw1 a "com/example/surefoot/surefoot/QuadraticProgram$Residuals" "dual" "D" (.double x1) := G0_1.same Ww1
  have G1_2 : Fld Z hw1 a "com/example/surefoot/surefoot/QuadraticProgram$Residuals" "gap" "D" (.double 0) := G0_2.other Ww1 (Or.inr (slot_ne (Or.inr (hw _ (List.mem_of_getElem? (i := 20) rfl))) (Or.inr (hw _ (List.mem_of_getElem? (i := 18) rfl))) (by decide) (t := .double) (t' := .double) (by decide) (by decide)))
  have G1_3 : Fld Z hw1 a "com/example/surefoot/surefoot/QuadraticProgram$Residuals" "primalScale" "D" (.double 0) := G0_3.other Ww1 (Or.inr (slot_ne (Or.inr (hw _ (List.mem_of_getElem? (i := 22) rfl))) (Or.inr (hw _ (List.mem_of_getElem? (i := 18) rfl))) (by decide) (t := .double) (t' := .double) (by decide) (by decide)))
  have G1_4 : Fld Z hw1 a "com/example/surefoot/surefoot/QuadraticProgram$Residuals" "dualScale" "D" (.double 0) := G0_4.other Ww1 (Or.inr (slot_ne (Or.inr (hw _ (List.mem_of_getElem? (i := 24) rfl))) (Or.inr (hw _ (List.mem_of_getElem? (i := 18) rfl))) (by decide) (t := .double) (t' := .double) (by decide) (by decide)))
  have G1_5 : Fld Z hw1 a "com/example/surefoot/surefoot/QuadraticProgram$Residuals" "gapScale" "D" (.double 0) := G0_5.other Ww1 (Or.inr (slot_ne (Or.inr (hw _ (List.mem_of_getElem? (i := 26) rfl))) (Or.inr (hw _ (List.mem_of_getElem? (i := 18) rfl))) (by decide) (t := .double) (t' := .double) (by decide) (by decide)))
  have M1 := Fr.snoc Xw1 M0 ga
  obtain ⟨Tw2, hw2, Xw2, ew2, Ww2, stw2⟩ := putF Xw1 hx hZ hown (host := "") (Or.inl (hw _ (List.mem_of_getElem? (i := 19) rfl))) Via.refl ew1 G1_2 ((E.wr Ww0).wr Ww1) (Or.inr ⟨(hw _ (List.mem_of_getElem? (i := 20) rfl)), rfl, hnm⟩) (hw _ (List.mem_of_getElem? (i := 2) rfl)) (ty := .double) (by decide) rfl rfl (g := (mkF m 17 #[.val (.ref a), .val (.double x0), .second, .val (.double x1), .second, .val (.double x2), .second, .val (.double x3), .second, .val (.double x4), .second, .val (.double x5), .second] [(.double x2), (.ref a)])) rfl rfl (hb hby d1_17)
  have G2_0 : Fld Z hw2 a "com/example/surefoot/surefoot/QuadraticProgram$Residuals" "primal" "D" (.double x0) := G1_0.other Ww2 (Or.inr (slot_ne (Or.inr (hw _ (List.mem_of_getElem? (i := 16) rfl))) (Or.inr (hw _ (List.mem_of_getElem? (i := 20) rfl))) (by decide) (t := .double) (t' := .double) (by decide) (by decide)))
  have G2_1 : Fld Z hw2 a "com/example/surefoot/surefoot/QuadraticProgram$Residuals" "dual" "D" (.double x1) := G1_1.other Ww2 (Or.inr (slot_ne (Or.inr (hw _ (List.mem_of_getElem? (i := 18) rfl))) (Or.inr (hw _ (List.mem_of_getElem? (i := 20) rfl))) (by decide) (t := .double) (t' := .double) (by decide) (by decide)))
  have G2_2 : Fld Z hw2 a "com/example/surefoot/surefoot/QuadraticProgram$Residuals" "gap" "D" (.double x2) := G1_2.same Ww2
  have G2_3 : Fld Z hw2 a "com/example/surefoot/surefoot/QuadraticProgram$Residuals" "primalScale" "D" (.double 0) := G1_3.other Ww2 (Or.inr (slot_ne (Or.inr (hw _ (List.mem_of_getElem? (i := 22) rfl))) (Or.inr (hw _ (List.mem_of_getElem? (i := 20) rfl))) (by decide) (t := .double) (t' := .double) (by decide) (by decide)))
  have G2_4 : Fld Z hw2 a "com/example/surefoot/surefoot/QuadraticProgram$Residuals" "dualScale" "D" (.double 0) := G1_4.other Ww2 (Or.inr (slot_ne (Or.inr (hw _ (List.mem_of_getElem? (i := 24) rfl))) (Or.inr (hw _ (List.mem_of_getElem? (i := 20) rfl))) (by decide) (t := .double) (t' := .double) (by decide) (by decide)))
  have G2_5 : Fld Z hw2 a "com/example/surefoot/surefoot/QuadraticProgram$Residuals" "gapScale" "D" (.double 0) := G1_5.other Ww2 (Or.inr (slot_ne (Or.inr (hw _ (List.mem_of_getElem? (i := 26) rfl))) (Or.inr (hw _ (List.mem_of_getElem? (i := 20) rfl))) (by decide) (t := .double) (t' := .double) (by decide) (by decide)))
  have M2 := Fr.snoc Xw2 M1 ga
  obtain ⟨Tw3, hw3, Xw3, ew3, Ww3, stw3⟩ := putF Xw2 hx hZ hown (host := "") (Or.inl (hw _ (List.mem_of_getElem? (i := 21) rfl))) Via.refl ew2 G2_3 (((E.wr Ww0).wr Ww1).wr Ww2) (Or.inr ⟨(hw _ (List.mem_of_getElem? (i := 22) rfl)), rfl, hnm⟩) (hw _ (List.mem_of_getElem? (i := 2) rfl)) (ty := .double) (by decide) rfl rfl (g := (mkF m 23 #[.val (.ref a), .val (.double x0), .second, .val (.double x1), .second, .val (.double x2), .second, .val (.double x3), .second, .val (.double x4), .second, .val (.double x5), .second] [(.double x3), (.ref a)])) rfl rfl (hb hby d1_23)
  have G3_0 : Fld Z hw3 a "com/example/surefoot/surefoot/QuadraticProgram$Residuals" "primal" "D" (.double x0) := G2_0.other Ww3 (Or.inr (slot_ne (Or.inr (hw _ (List.mem_of_getElem? (i := 16) rfl))) (Or.inr (hw _ (List.mem_of_getElem? (i := 22) rfl))) (by decide) (t := .double) (t' := .double) (by decide) (by decide)))
  have G3_1 : Fld Z hw3 a "com/example/surefoot/surefoot/QuadraticProgram$Residuals" "dual" "D" (.double x1) := G2_1.other Ww3 (Or.inr (slot_ne (Or.inr (hw _ (List.mem_of_getElem? (i := 18) rfl))) (Or.inr (hw _ (List.mem_of_getElem? (i := 22) rfl))) (by decide) (t := .double) (t' := .double) (by decide) (by decide)))
  have G3_2 : Fld Z hw3 a "com/example/surefoot/surefoot/QuadraticProgram$Residuals" "gap" "D" (.double x2) := G2_2.other Ww3 (Or.inr (slot_ne (Or.inr (hw _ (List.mem_of_getElem? (i := 20) rfl))) (Or.inr (hw _ (List.mem_of_getElem? (i := 22) rfl))) (by decide) (t := .double) (t' := .double) (by decide) (by decide)))
  have G3_3 : Fld Z hw3 a "com/example/surefoot/surefoot/QuadraticProgram$Residuals" "primalScale" "D" (.double x3) := G2_3.same Ww3
  have G3_4 : Fld Z hw3 a "com/example/surefoot/surefoot/QuadraticProgram$Residuals" "dualScale" "D" (.double 0) := G2_4.other Ww3 (Or.inr (slot_ne (Or.inr (hw _ (List.mem_of_getElem? (i := 24) rfl))) (Or.inr (hw _ (List.mem_of_getElem? (i := 22) rfl))) (by decide) (t := .double) (t' := .double) (by decide) (by decide)))
  have G3_5 : Fld Z hw3 a "com/example/surefoot/surefoot/QuadraticProgram$Residuals" "gapScale" "D" (.double 0) := G2_5.other Ww3 (Or.inr (slot_ne (Or.inr (hw _ (List.mem_of_getElem? (i := 26) rfl))) (Or.inr (hw _ (List.mem_of_getElem? (i := 22) rfl))) (by decide) (t := .double) (t' := .double) (by decide) (by decide)))
  have M3 := Fr.snoc Xw3 M2 ga
  obtain ⟨Tw4, hw4, Xw4, ew4, Ww4, stw4⟩ := putF Xw3 hx hZ hown (host := "") (Or.inl (hw _ (List.mem_of_getElem? (i := 23) rfl))) Via.refl ew3 G3_4 ((((E.wr Ww0).wr Ww1).wr Ww2).wr Ww3) (Or.inr ⟨(hw _ (List.mem_of_getElem? (i := 24) rfl)), rfl, hnm⟩) (hw _ (List.mem_of_getElem? (i := 2) rfl)) (ty := .double) (by decide) rfl rfl (g := (mkF m 29 #[.val (.ref a), .val (.double x0), .second, .val (.double x1), .second, .val (.double x2), .second, .val (.double x3), .second, .val (.double x4), .second, .val (.double x5), .second] [(.double x4), (.ref a)])) rfl rfl (hb hby d1_29)
  have G4_0 : Fld Z hw4 a "com/example/surefoot/surefoot/QuadraticProgram$Residuals" "primal" "D" (.double x0) := G3_0.other Ww4 (Or.inr (slot_ne (Or.inr (hw _ (List.mem_of_getElem? (i := 16) rfl))) (Or.inr (hw _ (List.mem_of_getElem? (i := 24) rfl))) (by decide) (t := .double) (t' := .double) (by decide) (by decide)))
  have G4_1 : Fld Z hw4 a "com/example/surefoot/surefoot/QuadraticProgram$Residuals" "dual" "D" (.double x1) := G3_1.other Ww4 (Or.inr (slot_ne (Or.inr (hw _ (List.mem_of_getElem? (i := 18) rfl))) (Or.inr (hw _ (List.mem_of_getElem? (i := 24) rfl))) (by decide) (t := .double) (t' := .double) (by decide) (by decide)))
  have G4_2 : Fld Z hw4 a "com/example/surefoot/surefoot/QuadraticProgram$Residuals" "gap" "D" (.double x2) := G3_2.other Ww4 (Or.inr (slot_ne (Or.inr (hw _ (List.mem_of_getElem? (i := 20) rfl))) (Or.inr (hw _ (List.mem_of_getElem? (i := 24) rfl))) (by decide) (t := .double) (t' := .double) (by decide) (by decide)))
  have G4_3 : Fld Z hw4 a "com/example/surefoot/surefoot/QuadraticProgram$Residuals" "primalScale" "D" (.double x3) := G3_3.other Ww4 (Or.inr (slot_ne (Or.inr (hw _ (List.mem_of_getElem? (i := 22) rfl))) (Or.inr (hw _ (List.mem_of_getElem? (i := 24) rfl))) (by decide) (t := .double) (t' := .double) (by decide) (by decide)))
  have G4_4 : Fld Z hw4 a "com/example/surefoot/surefoot/QuadraticProgram$Residuals" "dualScale" "D" (.double x4) := G3_4.same Ww4
  have G4_5 : Fld Z hw4 a "com/example/surefoot/surefoot/QuadraticProgram$Residuals" "gapScale" "D" (.double 0) := G3_5.other Ww4 (Or.inr (slot_ne (Or.inr (hw _ (List.mem_of_getElem? (i := 26) rfl))) (Or.inr (hw _ (List.mem_of_getElem? (i := 24) rfl))) (by decide) (t := .double) (t' := .double) (by decide) (by decide)))
  have M4 := Fr.snoc Xw4 M3 ga
  obtain ⟨Tw5, hw5, Xw5, ew5, Ww5, stw5⟩ := putF Xw4 hx hZ hown (host := "") (Or.inl (hw _ (List.mem_of_getElem? (i := 25) rfl))) Via.refl ew4 G4_5 (((((E.wr Ww0).wr Ww1).wr Ww2).wr Ww3).wr Ww4) (Or.inr ⟨(hw _ (List.mem_of_getElem? (i := 26) rfl)), rfl, hnm⟩) (hw _ (List.mem_of_getElem? (i := 2) rfl)) (ty := .double) (by decide) rfl rfl (g := (mkF m 35 #[.val (.ref a), .val (.double x0), .second, .val (.double x1), .second, .val (.double x2), .second, .val (.double x3), .second, .val (.double x4), .second, .val (.double x5), .second] [(.double x5), (.ref a)])) rfl rfl (hb hby d1_35)
  have G5_0 : Fld Z hw5 a "com/example/surefoot/surefoot/QuadraticProgram$Residuals" "primal" "D" (.double x0) := G4_0.other Ww5 (Or.inr (slot_ne (Or.inr (hw _ (List.mem_of_getElem? (i := 16) rfl))) (Or.inr (hw _ (List.mem_of_getElem? (i := 26) rfl))) (by decide) (t := .double) (t' := .double) (by decide) (by decide)))
  have G5_1 : Fld Z hw5 a "com/example/surefoot/surefoot/QuadraticProgram$Residuals" "dual" "D" (.double x1) := G4_1.other Ww5 (Or.inr (slot_ne (Or.inr (hw _ (List.mem_of_getElem? (i := 18) rfl))) (Or.inr (hw _ (List.mem_of_getElem? (i := 26) rfl))) (by decide) (t := .double) (t' := .double) (by decide) (by decide)))
  have G5_2 : Fld Z hw5 a "com/example/surefoot/surefoot/QuadraticProgram$Residuals" "gap" "D" (.double x2) := G4_2.other Ww5 (Or.inr (slot_ne (Or.inr (hw _ (List.mem_of_getElem? (i := 20) rfl))) (Or.inr (hw _ (List.mem_of_getElem? (i := 26) rfl))) (by decide) (t := .double) (t' := .double) (by decide) (by decide)))
  have G5_3 : Fld Z hw5 a "com/example/surefoot/surefoot/QuadraticProgram$Residuals" "primalScale" "D" (.double x3) := G4_3.other Ww5 (Or.inr (slot_ne (Or.inr (hw _ (List.mem_of_getElem? (i := 22) rfl))) (Or.inr (hw _ (List.mem_of_getElem? (i := 26) rfl))) (by decide) (t := .double) (t' := .double) (by decide) (by decide)))
  have G5_4 : Fld Z hw5 a "com/example/surefoot/surefoot/QuadraticProgram$Residuals" "dualScale" "D" (.double x4) := G4_4.other Ww5 (Or.inr (slot_ne (Or.inr (hw _ (List.mem_of_getElem? (i := 24) rfl))) (Or.inr (hw _ (List.mem_of_getElem? (i := 26) rfl))) (by decide) (t := .double) (t' := .double) (by decide) (by decide)))
  have G5_5 : Fld Z hw5 a "com/example/surefoot/surefoot/QuadraticProgram$Residuals" "gapScale" "D" (.double x5) := G4_5.same Ww5
  have M5 := Fr.snoc Xw5 M4 ga
  obtain ⟨fs, hr, hrun, hended, hW, hsame⟩ := Xw5.leave (v := none) (fun _ => rfl)
  refine ⟨_, _, pre0 _ ?_, hrun, hended, _, _, rfl, ?_, ⟨_, rfl⟩, hW, hsame.mono (by decide) (by decide)⟩
  · show Steps p.tables e below (s₁.setTop (mkF m 0 #[.val (.ref a), .val (.double x0), .second, .val (.double x1), .second, .val (.double x2), .second, .val (.double x3), .second, .val (.double x4), .second, .val (.double x5), .second] [])) _
    refine XS.aloadN X0.here hx rfl (hb hby d1_0) rfl rfl ?_
    show Steps p.tables e below (s₁.setTop (mkF m 1 #[.val (.ref a), .val (.double x0), .second, .val (.double x1), .second, .val (.double x2), .second, .val (.double x3), .second, .val (.double x4), .second, .val (.double x5), .second] [(.ref a)])) _
    refine stR.trans ?_
    show Steps p.tables e below (TR.setTop (mkF m 4 #[.val (.ref a), .val (.double x0), .second, .val (.double x1), .second, .val (.double x2), .second, .val (.double x3), .second, .val (.double x4), .second, .val (.double x5), .second] [])) _
    refine XS.aloadN XR.here hx rfl (hb hby d1_4) rfl rfl ?_
    show Steps p.tables e below (TR.setTop (mkF m 5 #[.val (.ref a), .val (.double x0), .second, .val (.double x1), .second, .val (.double x2), .second, .val (.double x3), .second, .val (.double x4), .second, .val (.double x5), .second] [(.ref a)])) _
    refine XS.dloadN XR.here hx rfl (hb hby d1_5) rfl ?_
    show Steps p.tables e below (TR.setTop (mkF m 6 #[.val (.ref a), .val (.double x0), .second, .val (.double x1), .second, .val (.double x2), .second, .val (.double x3), .second, .val (.double x4), .second, .val (.double x5), .second] [(.double x0), (.ref a)])) _
    refine stw0 _ ?_
    show Steps p.tables e below (Tw0.setTop (mkF m 9 #[.val (.ref a), .val (.double x0), .second, .val (.double x1), .second, .val (.double x2), .second, .val (.double x3), .second, .val (.double x4), .second, .val (.double x5), .second] [])) _
    refine XS.aloadN Xw0.here hx rfl (hb hby d1_9) rfl rfl ?_
    show Steps p.tables e below (Tw0.setTop (mkF m 10 #[.val (.ref a), .val (.double x0), .second, .val (.double x1), .second, .val (.double x2), .second, .val (.double x3), .second, .val (.double x4), .second, .val (.double x5), .second] [(.ref a)])) _
    refine XS.dloadN Xw0.here hx rfl (hb hby d1_10) rfl ?_
    show Steps p.tables e below (Tw0.setTop (mkF m 11 #[.val (.ref a), .val (.double x0), .second, .val (.double x1), .second, .val (.double x2), .second, .val (.double x3), .second, .val (.double x4), .second, .val (.double x5), .second] [(.double x1), (.ref a)])) _
    refine stw1 _ ?_
    show Steps p.tables e below (Tw1.setTop (mkF m 14 #[.val (.ref a), .val (.double x0), .second, .val (.double x1), .second, .val (.double x2), .second, .val (.double x3), .second, .val (.double x4), .second, .val (.double x5), .second] [])) _
    refine XS.aloadN Xw1.here hx rfl (hb hby d1_14) rfl rfl ?_
    show Steps p.tables e below (Tw1.setTop (mkF m 15 #[.val (.ref a), .val (.double x0), .second, .val (.double x1), .second, .val (.double x2), .second, .val (.double x3), .second, .val (.double x4), .second, .val (.double x5), .second] [(.ref a)])) _
    refine XS.dload Xw1.here hx rfl (hb hby d1_15) rfl ?_
    show Steps p.tables e below (Tw1.setTop (mkF m 17 #[.val (.ref a), .val (.double x0), .second, .val (.double x1), .second, .val (.double x2), .second, .val (.double x3), .second, .val (.double x4), .second, .val (.double x5), .second] [(.double x2), (.ref a)])) _
    refine stw2 _ ?_
    show Steps p.tables e below (Tw2.setTop (mkF m 20 #[.val (.ref a), .val (.double x0), .second, .val (.double x1), .second, .val (.double x2), .second, .val (.double x3), .second, .val (.double x4), .second, .val (.double x5), .second] [])) _
    refine XS.aloadN Xw2.here hx rfl (hb hby d1_20) rfl rfl ?_
    show Steps p.tables e below (Tw2.setTop (mkF m 21 #[.val (.ref a), .val (.double x0), .second, .val (.double x1), .second, .val (.double x2), .second, .val (.double x3), .second, .val (.double x4), .second, .val (.double x5), .second] [(.ref a)])) _
    refine XS.dload Xw2.here hx rfl (hb hby d1_21) rfl ?_
    show Steps p.tables e below (Tw2.setTop (mkF m 23 #[.val (.ref a), .val (.double x0), .second, .val (.double x1), .second, .val (.double x2), .second, .val (.double x3), .second, .val (.double x4), .second, .val (.double x5), .second] [(.double x3), (.ref a)])) _
    refine stw3 _ ?_
    show Steps p.tables e below (Tw3.setTop (mkF m 26 #[.val (.ref a), .val (.double x0), .second, .val (.double x1), .second, .val (.double x2), .second, .val (.double x3), .second, .val (.double x4), .second, .val (.double x5), .second] [])) _
    refine XS.aloadN Xw3.here hx rfl (hb hby d1_26) rfl rfl ?_
    show Steps p.tables e below (Tw3.setTop (mkF m 27 #[.val (.ref a), .val (.double x0), .second, .val (.double x1), .second, .val (.double x2), .second, .val (.double x3), .second, .val (.double x4), .second, .val (.double x5), .second] [(.ref a)])) _
    refine XS.dload Xw3.here hx rfl (hb hby d1_27) rfl ?_
    show Steps p.tables e below (Tw3.setTop (mkF m 29 #[.val (.ref a), .val (.double x0), .second, .val (.double x1), .second, .val (.double x2), .second, .val (.double x3), .second, .val (.double x4), .second, .val (.double x5), .second] [(.double x4), (.ref a)])) _
    refine stw4 _ ?_
    show Steps p.tables e below (Tw4.setTop (mkF m 32 #[.val (.ref a), .val (.double x0), .second, .val (.double x1), .second, .val (.double x2), .second, .val (.double x3), .second, .val (.double x4), .second, .val (.double x5), .second] [])) _
    refine XS.aloadN Xw4.here hx rfl (hb hby d1_32) rfl rfl ?_
    show Steps p.tables e below (Tw4.setTop (mkF m 33 #[.val (.ref a), .val (.double x0), .second, .val (.double x1), .second, .val (.double x2), .second, .val (.double x3), .second, .val (.double x4), .second, .val (.double x5), .second] [(.ref a)])) _
    refine XS.dload Xw4.here hx rfl (hb hby d1_33) rfl ?_
    show Steps p.tables e below (Tw4.setTop (mkF m 35 #[.val (.ref a), .val (.double x0), .second, .val (.double x1), .second, .val (.double x2), .second, .val (.double x3), .second, .val (.double x4), .second, .val (.double x5), .second] [(.double x5), (.ref a)])) _
    refine stw5 _ ?_
    show Steps p.tables e below (Tw5.setTop (mkF m 38 #[.val (.ref a), .val (.double x0), .second, .val (.double x1), .second, .val (.double x2), .second, .val (.double x3), .second, .val (.double x4), .second, .val (.double x5), .second] [])) _
    exact Xw5.returnOut hx Bd.returns (hb hby d1_38) hr
  · show QI Z a x0 x1 x2 x3 x4 x5 h0 n0 _ Tw5.heap _
    rw [ew5]
    exact ⟨rfl, M5, (((((((Keep.refl h0 [a]).wr Ww0 (Or.inl (List.mem_of_getElem? (i := 0) rfl))).wr Ww1 (Or.inl (List.mem_of_getElem? (i := 0) rfl))).wr Ww2 (Or.inl (List.mem_of_getElem? (i := 0) rfl))).wr Ww3 (Or.inl (List.mem_of_getElem? (i := 0) rfl))).wr Ww4 (Or.inl (List.mem_of_getElem? (i := 0) rfl))).wr Ww5 (Or.inl (List.mem_of_getElem? (i := 0) rfl))), ((((((E.wr Ww0).wr Ww1).wr Ww2).wr Ww3).wr Ww4).wr Ww5), G5_0, G5_1, G5_2, G5_3, G5_4, G5_5⟩

theorem own_pick {a b : UInt64} (ha : Jvm.FP.Core.DFin a) (hb : Jvm.FP.Core.DFin b) : Jvm.FP.Core.DFin (Jvm.Native.java_lang_Math.nans.pick64 true a b) ∧ ((Jvm.Own.z a ≤ Jvm.Own.z b → Jvm.Own.z (Jvm.Native.java_lang_Math.nans.pick64 true a b) = Jvm.Own.z b) ∧ (Jvm.Own.z b ≤ Jvm.Own.z a → Jvm.Own.z (Jvm.Native.java_lang_Math.nans.pick64 true a b) = Jvm.Own.z a)) := by
  have hc := Jvm.Own.cmp_z ha hb
  have key : (Jvm.Own.z a < Jvm.Own.z b → Jvm.Native.java_lang_Math.nans.pick64 true a b = b) ∧ (Jvm.Own.z b < Jvm.Own.z a → Jvm.Native.java_lang_Math.nans.pick64 true a b = a) ∧ (Jvm.Native.java_lang_Math.nans.pick64 true a b = a ∨ Jvm.Native.java_lang_Math.nans.pick64 true a b = b) := by
    unfold Jvm.Native.java_lang_Math.nans.pick64
    rcases Int.lt_trichotomy (Jvm.Own.z a) (Jvm.Own.z b) with q | q | q
    · rw [hc, (Jvm.FP.Core.compare_lt_iff _ _).mpr q]
      exact ⟨fun _ => rfl, fun r => by omega, Or.inr rfl⟩
    · rw [hc, (Jvm.FP.Core.compare_eq_iff _ _).mpr q]
      refine ⟨fun r => by omega, fun r => by omega, ?_⟩
      by_cases s : ((a >>> 63 == 1) == true) = true
      · exact Or.inr (if_pos s)
      · exact Or.inl (if_neg s)
    · rw [hc, (Jvm.FP.Core.compare_gt_iff _ _).mpr q]
      exact ⟨fun r => by omega, fun _ => rfl, Or.inl rfl⟩
  obtain ⟨k1, k2, k3⟩ := key
  refine ⟨by rcases k3 with k | k <;> rw [k] <;> assumption, fun h => ?_, fun h => ?_⟩
  · rcases Int.lt_or_eq_of_le h with q | q
    · rw [k1 q]
    · rcases k3 with k | k <;> rw [k]; exact q
  · rcases Int.lt_or_eq_of_le h with q | q
    · rw [k2 q]
    · rcases k3 with k | k <;> rw [k]; exact q
theorem z_C2 : Jvm.Own.z (4611686018427387904 : UInt64) = 2 * (Jvm.Own.PN 1074 : Int) := by decide +kernel
theorem fin_C2 : Jvm.FP.Core.DFin (4611686018427387904 : UInt64) := (Jvm.FP.Core.fin_bits _).mpr (by decide)
theorem own_half (p : Int32) : Jvm.FP.Core.DFin (FP.ddiv (FP.i2d p) (4611686018427387904 : UInt64)) ∧ Jvm.Own.z (FP.ddiv (FP.i2d p) (4611686018427387904 : UInt64)) = p.toInt * (Jvm.Own.PN 1073 : Int) := by
  have h1 := Int32.toInt_lt p
  have h2 := Int32.le_toInt p
  obtain ⟨f1, z1⟩ := Jvm.Own.z_i2d p
  have hP := Jvm.Own.PN_posI 1074
  have hr := Jvm.Own.rnd_ddiv f1 fin_C2 (by rw [z_C2]; omega)
  refine hr.exact p.toInt 1073 (by omega) (by decide) ?_
  have hD : ((Jvm.Own.z (4611686018427387904 : UInt64)).natAbs : Int) = (Jvm.Own.PN 1 : Int) * (Jvm.Own.PN 1074 : Int) := by rw [z_C2, show (Jvm.Own.PN 1 : Int) = 2 from rfl]; omega
  rw [hD, z1, ← Int.mul_assoc, Int.mul_assoc p.toInt (Jvm.Own.PN 1073 : Int), ← Jvm.Own.PN_addI]
theorem max_code : jdk_29_method_68_code = Jvm.Free.Fl.Abs.maxDCode := by decide +kernel

theorem ef_rmLg (m : MethodId) (a : Addr) : entryFrame m #[(.ref a)] 1 = mkF m 0 #[.val (.ref a)] [] := by first | (simp [entryFrame, mkF, argsToLocals, Value.category]; done) | rfl
set_option maxRecDepth 65536 in
set_option maxHeartbeats 40000000 in
theorem rmLg (l : Launch) (Z : State) (a0 : Array Value) (hw : ∀ d ∈ tables_1, d.before a0 Z = true) (ws : List Jvm.Cond) (a : Addr) (h0 : Heap) (n0 : Nat) (Z0 : n0 ≤ h0.size) (x0 x1 x2 : UInt64) (f0 : Jvm.FP.Core.DFin x0) (f1 : Jvm.FP.Core.DFin x1) (f2 : Jvm.FP.Core.DFin x2) (F0 : Fld Z h0 a "com/example/surefoot/surefoot/QuadraticProgram$Residuals" "primal" "D" (.double x0)) (F1 : Fld Z h0 a "com/example/surefoot/surefoot/QuadraticProgram$Residuals" "dual" "D" (.double x1)) (F2 : Fld Z h0 a "com/example/surefoot/surefoot/QuadraticProgram$Residuals" "gap" "D" (.double x2)) :
    MetFree l (⟨"com/example/surefoot/surefoot/QuadraticProgram$Residuals", "largest", "()D"⟩ : MethodName) (head1 (Jvm.Cond.code (⟨"com/example/surefoot/surefoot/QuadraticProgram$Residuals", "largest", "()D"⟩ : MethodName) prog_17_method_2_code 1 (some .double) :: ws) ({ frames := 1, cells := 0, slots := 0, locals := 17 } : Room)) (fun a_ U_ => a_ = #[(.ref a)] ∧ Z.Warmed39 U_.vm ∧ U_.heap = h0) (fun _ _ _ _ _ => True) (fun _ U_ o_ V_ => ∃ v_ L_, o_ = .returned v_ ∧ QP (.double (Jvm.Native.java_lang_Math.nans.pick64 true x0 (Jvm.Native.java_lang_Math.nans.pick64 true x1 x2))) h0 n0 v_ V_.heap L_ ∧ FrameEnd U_ o_ V_ L_ ({ frames := 1, cells := 0, slots := 0, locals := 17 } : Room).cells ({ frames := 1, cells := 0, slots := 0, locals := 17 } : Room).slots) := by
  refine MetFree.of_bodySF (plainFor_of_name pn_1) hisR ?_
  intro p e s m args below meth c s₁ Bd hml0 hP hK
  obtain ⟨rfl, hZ, hh⟩ := hP
  have hx := Bd.exec
  have hby := Bd.bytes
  have hml : c.maxLocals = 1 := hml0
  have hown : s.vm.findClass "com/example/surefoot/surefoot/QuadraticProgram$Residuals" = some m.cls := findClass_of_methodNamed Bd.named
  have hnm := (name_of_methodNamed Bd.named Bd.method).1
  have X0 : Stand p l e ({ frames := 1, cells := 0, slots := 0, locals := 17 } : Room) s m #[(.ref a)] below meth c s₁ [] 0 0 := Stand.of_body Bd
  have e0 : s₁.heap = h0 := by rw [← hh, Bd.state]; rfl
  have N0 := Fr.nil n0
  have pre0 : ∀ t, Steps p.tables e below (s₁.setTop (mkF m 0 #[.val (.ref a)] [])) t → Steps p.tables e below (s₁.setTop (entryFrame m #[(.ref a)] 1)) t := fun t_ k_ => castTop (ef_rmLg m a) k_
  obtain ⟨T1, X1, e1, st1⟩ := getF X0 hx hZ hown (host := "") (Or.inl (hw _ (List.mem_of_getElem? (i := 15) rfl))) Via.refl e0 F0 (g := (mkF m 1 #[.val (.ref a)] [(.ref a)])) rfl rfl (hb hby d4_1)
  obtain ⟨T2, X2, e2, st2⟩ := getF X1 hx hZ hown (host := "") (Or.inl (hw _ (List.mem_of_getElem? (i := 17) rfl))) Via.refl e1 F1 (g := (mkF m 5 #[.val (.ref a)] [(.ref a), (.double x0)])) rfl rfl (hb hby d4_5)
  obtain ⟨T3, X3, e3, st3⟩ := getF X2 hx hZ hown (host := "") (Or.inl (hw _ (List.mem_of_getElem? (i := 19) rfl))) Via.refl e2 F2 (g := (mkF m 9 #[.val (.ref a)] [(.ref a), (.double x1), (.double x0)])) rfl rfl (hb hby d4_9)
  have wc : (Cond.code Jvm.Free.Fl.Abs.maxDN Jvm.Free.Fl.Abs.maxDCode 4 (some .double)).before a0 Z = true := max_code ▸ (hw _ (List.mem_of_getElem? (i := 35) rfl))
  obtain ⟨T4, X4, e4, st4⟩ := natS X3 hx hZ (y := Jvm.Free.Fl.Abs.maxDN) hown (hw _ (List.mem_of_getElem? (i := 32) rfl)) (hw _ (List.mem_of_getElem? (i := 33) rfl)) (hw _ (List.mem_of_getElem? (i := 34) rfl)) wc (by decide) e3 (hK := fun hc => Jvm.Free.Fl.Abs.maxD_pays (W := 2) x1 x2 hc (by decide) (by decide)) (val' := .double (Jvm.Native.java_lang_Math.nans.pick64 true x1 x2)) (g := (mkF m 12 #[.val (.ref a)] [(.double x2), (.double x1), (.double x0)])) rfl (by rw [hml]; rfl) (argsL := [.double x1, .double x2]) (rest := [(.double x0)]) (lenOf pd_1 rfl) rfl (by show 2 * 0 + _ ≤ _; exact Nat.le_of_eq rfl) (hb hby d4_12) (by decide) (by decide) ⟨rfl, Jvm.Own.nn f1, Jvm.Own.nn f2⟩ rfl
  obtain ⟨T5, X5, e5, st5⟩ := natS X4 hx hZ (y := Jvm.Free.Fl.Abs.maxDN) hown (hw _ (List.mem_of_getElem? (i := 32) rfl)) (hw _ (List.mem_of_getElem? (i := 33) rfl)) (hw _ (List.mem_of_getElem? (i := 34) rfl)) wc (by decide) e4 (hK := fun hc => Jvm.Free.Fl.Abs.maxD_pays (W := 0) x0 (Jvm.Native.java_lang_Math.nans.pick64 true x1 x2) hc (by decide) (by decide)) (val' := .double (Jvm.Native.java_lang_Math.nans.pick64 true x0 (Jvm.Native.java_lang_Math.nans.pick64 true x1 x2))) (g := (mkF m 15 #[.val (.ref a)] [(.double (Jvm.Native.java_lang_Math.nans.pick64 true x1 x2)), (.double x0)])) rfl (by rw [hml]; rfl) (argsL := [.double x0, .double (Jvm.Native.java_lang_Math.nans.pick64 true x1 x2)]) (rest := []) (lenOf pd_1 rfl) rfl (by show 2 * 0 + _ ≤ _; exact Nat.le_of_eq rfl) (hb hby d4_15) (by decide) (by decide) ⟨rfl, Jvm.Own.nn f0, Jvm.Own.nn (own_pick f1 f2).1⟩ rfl
  obtain ⟨fs, hr, hrun, hended, hW, hsame⟩ := X5.leave (v := some (.double (Jvm.Native.java_lang_Math.nans.pick64 true x0 (Jvm.Native.java_lang_Math.nans.pick64 true x1 x2)))) (fun h => by rw [Bd.returns] at h; cases h)
  refine ⟨_, _, pre0 _ ?_, hrun, hended, _, _, rfl, ?_, ⟨_, rfl⟩, hW, hsame.mono (by decide) (by decide)⟩
  · show Steps p.tables e below (s₁.setTop (mkF m 0 #[.val (.ref a)] [])) _
    refine XS.aloadN X0.here hx rfl (hb hby d4_0) rfl rfl ?_
    show Steps p.tables e below (s₁.setTop (mkF m 1 #[.val (.ref a)] [(.ref a)])) _
    refine st1 _ ?_
    show Steps p.tables e below (T1.setTop (mkF m 4 #[.val (.ref a)] [(.double x0)])) _
    refine XS.aloadN X1.here hx rfl (hb hby d4_4) rfl rfl ?_
    show Steps p.tables e below (T1.setTop (mkF m 5 #[.val (.ref a)] [(.ref a), (.double x0)])) _
    refine st2 _ ?_
    show Steps p.tables e below (T2.setTop (mkF m 8 #[.val (.ref a)] [(.double x1), (.double x0)])) _
    refine XS.aloadN X2.here hx rfl (hb hby d4_8) rfl rfl ?_
    show Steps p.tables e below (T2.setTop (mkF m 9 #[.val (.ref a)] [(.ref a), (.double x1), (.double x0)])) _
    refine st3 _ ?_
    show Steps p.tables e below (T3.setTop (mkF m 12 #[.val (.ref a)] [(.double x2), (.double x1), (.double x0)])) _
    refine st4 _ ?_
    show Steps p.tables e below (T4.setTop (mkF m 15 #[.val (.ref a)] [(.double (Jvm.Native.java_lang_Math.nans.pick64 true x1 x2)), (.double x0)])) _
    refine st5 _ ?_
    show Steps p.tables e below (T5.setTop (mkF m 18 #[.val (.ref a)] [(.double (Jvm.Native.java_lang_Math.nans.pick64 true x0 (Jvm.Native.java_lang_Math.nans.pick64 true x1 x2)))])) _
    exact Jvm.RoadKit.retD X5 hx Bd.returns (hb hby d4_18) hr
  · show QP (.double (Jvm.Native.java_lang_Math.nans.pick64 true x0 (Jvm.Native.java_lang_Math.nans.pick64 true x1 x2))) h0 n0 _ T5.heap _
    rw [e5]
    exact ⟨rfl, N0, rfl⟩
theorem ef_rm0 (m : MethodId) (pp : Int32) (dd : Int32) (gg : Int32) (ps : Int32) (ds : Int32) (gs : Int32) : entryFrame m #[(.int pp), (.int dd), (.int gg), (.int ps), (.int ds), (.int gs)] maxLocals = mkF m 0 #[.val (.int pp), .val (.int dd), .val (.int gg), .val (.int ps), .val (.int ds), .val (.int gs), .unset, .unset, .unset, .unset, .unset, .unset, .unset, .unset, .unset, .unset] [] := by first | (simp [entryFrame, mkF, argsToLocals, Value.category, maxLocals]; done) | rfl
set_option maxRecDepth 65536 in
set_option maxHeartbeats 40000000 in
theorem rm0 (l : Launch) (Z : State) (a0 : Array Value) (hw : ∀ d ∈ tables_1, d.before a0 Z = true) (ws : List Jvm.Cond) (pp : Int32) (dd : Int32) (gg : Int32) (ps : Int32) (ds : Int32) (gs : Int32) (h0 : Heap) (n0 : Nat) (Z0 : n0 ≤ h0.size)  :
    MetFree l x (head1 (Jvm.Cond.code x code maxLocals ret :: ws) room_1) (fun a_ U_ => a_ = #[(.int pp), (.int dd), (.int gg), (.int ps), (.int ds), (.int gs)] ∧ Z.Warmed39 U_.vm ∧ U_.heap = h0) (fun _ _ _ _ _ => True) (fun _ U_ o_ V_ => ∃ v_ L_, o_ = .returned v_ ∧ QL n0 v_ V_.heap L_ ∧ FrameEnd U_ o_ V_ L_ room_1.cells room_1.slots) := by
  refine MetFree.of_bodySF (plainFor_of_name pn_2) hisR ?_
  intro p e s m args below meth c s₁ Bd hml0 hP hK
  obtain ⟨rfl, hZ, hh⟩ := hP
  have hx := Bd.exec
  have hby := Bd.bytes
  have hml : c.maxLocals = 16 := hml0
  have hown : s.vm.findClass "com/example/surefoot/surefoot/ResidualsLargestPinLaw" = some m.cls := findClass_of_methodNamed Bd.named
  have hnm := (name_of_methodNamed Bd.named Bd.method).1
  have X0 : Stand p l e room_1 s m #[(.int pp), (.int dd), (.int gg), (.int ps), (.int ds), (.int gs)] below meth c s₁ [] 0 0 := Stand.of_body Bd
  have e0 : s₁.heap = h0 := by rw [← hh, Bd.state]; rfl
  have N0 := Fr.nil n0
  have pre0 : ∀ t, Steps p.tables e below (s₁.setTop (mkF m 0 #[.val (.int pp), .val (.int dd), .val (.int gg), .val (.int ps), .val (.int ds), .val (.int gs), .unset, .unset, .unset, .unset, .unset, .unset, .unset, .unset, .unset, .unset] [])) t → Steps p.tables e below (s₁.setTop (entryFrame m #[(.int pp), (.int dd), (.int gg), (.int ps), (.int ds), (.int gs)] maxLocals)) t := fun t_ k_ => castTop (ef_rm0 m pp dd gg ps ds gs) k_
  obtain ⟨fp, zp⟩ := own_half pp
  obtain ⟨fd, zd⟩ := own_half dd
  obtain ⟨fg, zg⟩ := own_half gg
  obtain ⟨P, hP⟩ : ∃ v, FP.ddiv (FP.i2d pp) (4611686018427387904 : UInt64) = v := ⟨_, rfl⟩
  obtain ⟨D, hD⟩ : ∃ v, FP.ddiv (FP.i2d dd) (4611686018427387904 : UInt64) = v := ⟨_, rfl⟩
  obtain ⟨G, hG⟩ : ∃ v, FP.ddiv (FP.i2d gg) (4611686018427387904 : UInt64) = v := ⟨_, rfl⟩
  have nP := Jvm.Own.nn fp
  have nD := Jvm.Own.nn fd
  have nG := Jvm.Own.nn fg
  rw [hP] at fp zp
  rw [hD] at fd zd
  rw [hG] at fg zg
  have hQ := Jvm.Own.PN_posI 1073
  obtain ⟨k1, k2, k3⟩ := own_pick fd fg
  obtain ⟨j1, j2, j3⟩ := own_pick fp k1
  have ord : ∀ a b : Int, a ≤ b → a * (Jvm.Own.PN 1073 : Int) ≤ b * (Jvm.Own.PN 1073 : Int) := fun a b h => Int.mul_le_mul_of_nonneg_right h (by omega)
  have cpd := ord pp.toInt dd.toInt
  have cdp := ord dd.toInt pp.toInt
  have cpg := ord pp.toInt gg.toInt
  have cgp := ord gg.toInt pp.toInt
  have cdg := ord dd.toInt gg.toInt
  have cgd := ord gg.toInt dd.toInt
  by_cases c1 : dd.toInt ≤ pp.toInt
  · by_cases c2 : gg.toInt ≤ pp.toInt
    · obtain ⟨T1, h1, X1, e1, E1, A1, D1, -, st1⟩ := newO X0 hx hZ hown (hw _ (List.mem_of_getElem? (i := 1) rfl)) (hw _ (List.mem_of_getElem? (i := 2) rfl)) (hw _ (List.mem_of_getElem? (i := 3) rfl)) e0 (g := (mkF m 24 #[.val (.int pp), .val (.int dd), .val (.int gg), .val (.int ps), .val (.int ds), .val (.int gs), .val (.double P), .second, .val (.double D), .second, .val (.double G), .second, .unset, .unset, .unset, .unset] [])) rfl (hb hby at_24) (by decide) (by decide)
      obtain ⟨a1, g1⟩ : ∃ z, z = h0.size := ⟨_, rfl⟩
      rw [← g1] at A1 D1 st1
      have D_0 := D1 (Or.inr (hw _ (List.mem_of_getElem? (i := 16) rfl))) (ty := .double) (by decide)
      have D_1 := D1 (Or.inr (hw _ (List.mem_of_getElem? (i := 18) rfl))) (ty := .double) (by decide)
      have D_2 := D1 (Or.inr (hw _ (List.mem_of_getElem? (i := 20) rfl))) (ty := .double) (by decide)
      have D_3 := D1 (Or.inr (hw _ (List.mem_of_getElem? (i := 22) rfl))) (ty := .double) (by decide)
      have D_4 := D1 (Or.inr (hw _ (List.mem_of_getElem? (i := 24) rfl))) (ty := .double) (by decide)
      have D_5 := D1 (Or.inr (hw _ (List.mem_of_getElem? (i := 26) rfl))) (ty := .double) (by decide)
      have Z1 : n0 ≤ h1.size := Nat.le_trans Z0 E1.1
      have ga : n0 ≤ a1 := Nat.le_trans Z0 (Nat.le_of_eq g1.symm)
      obtain ⟨_, _, ⟨T2, L2, k2, n2⟩, -, X2, ⟨Lc2, hQ2, l2, y2, z2⟩, st2⟩ := X1.specialBack hx (y := (⟨"com/example/surefoot/surefoot/QuadraticProgram$Residuals", "<init>", "(DDDDDD)V"⟩ : MethodName)) rfl hown (mvT hZ (hw _ (List.mem_of_getElem? (i := 4) rfl))) (mvT hZ (hw _ (List.mem_of_getElem? (i := 5) rfl))) (mvT hZ (hw _ (List.mem_of_getElem? (i := 6) rfl))) (by decide) (backOf (W := 1) (rmInit l Z a0 hw [] a1 P D G (FP.i2d ps) (FP.i2d ds) (FP.i2d gs) h1 n0 Z1 A1 ga D_0 D_1 D_2 D_3 D_4 D_5) hZ (hw _ (List.mem_of_getElem? (i := 6) rfl)) (hw _ (List.mem_of_getElem? (i := 3) rfl)) (by decide) (by decide)) (g := (mkF m 42 #[.val (.int pp), .val (.int dd), .val (.int gg), .val (.int ps), .val (.int ds), .val (.int gs), .val (.double P), .second, .val (.double D), .second, .val (.double G), .second, .unset, .unset, .unset, .unset] [(.double (FP.i2d gs)), (.double (FP.i2d ds)), (.double (FP.i2d ps)), (.double G), (.double D), (.double P), (.ref a1), (.ref a1)])) rfl (by rw [hml]; rfl) (Steps.refl _) (a := a1) (argsL := [(.double P), (.double D), (.double G), (.double (FP.i2d ps)), (.double (FP.i2d ds)), (.double (FP.i2d gs))]) (rest := [(.ref a1)]) (lenOf pd_2 rfl) rfl (by show 2 * 0 + _ ≤ _; exact Nat.le_of_eq rfl) (hb hby at_42) (fun _ _ => ⟨rfl, e1, (by decide : 1 + 0 ≤ _), (by decide : 6 + 0 ≤ _)⟩)
      dsimp only [Pt.U, Pt.locs, Pt.cells, Pt.slots] at X2 l2 y2 z2 st2 hQ2
      subst l2 y2 z2
      obtain ⟨rfl, N2, K2, E2, H0, H1, H2, H3, H4, H5⟩ := hQ2
      have Z2 : n0 ≤ T2.heap.size := Nat.le_trans Z1 K2.1
      obtain ⟨cq3, kq3, q3a, q3b, q3c⟩ := isOf hZ rfl E2
      obtain ⟨_, _, ⟨T3, L3, k3, n3⟩, -, X3, ⟨Lc3, hQ3, l3, y3, z3⟩, st3⟩ := X2.virtualBack hx (y := (⟨"com/example/surefoot/surefoot/QuadraticProgram$Residuals", "largest", "()D"⟩ : MethodName)) (z := (⟨"com/example/surefoot/surefoot/QuadraticProgram$Residuals", "largest", "()D"⟩ : MethodName)) hown (mvT hZ (hw _ (List.mem_of_getElem? (i := 27) rfl))) (mvT hZ (hw _ (List.mem_of_getElem? (i := 28) rfl))) (notFace_of_selects (args := #[]) (mvT hZ (hw _ (List.mem_of_getElem? (i := 30) rfl)))) (mvT hZ (hw _ (List.mem_of_getElem? (i := 30) rfl))) (mvT hZ (hw _ (List.mem_of_getElem? (i := 29) rfl))) (by decide) (backOf (W := 0) (rmLg l Z a0 hw [] a1 T2.heap n0 Z2 P D G fp fd fg H0 H1 H2) hZ (hw _ (List.mem_of_getElem? (i := 31) rfl)) (hw _ (List.mem_of_getElem? (i := 3) rfl)) (by decide) (by decide)) q3a q3c (g := (mkF m 79 #[.val (.int pp), .val (.int dd), .val (.int gg), .val (.int ps), .val (.int ds), .val (.int gs), .val (.double P), .second, .val (.double D), .second, .val (.double G), .second, .val (.ref a1), .val (.int pp), .val (.double P), .second] [(.ref a1)])) rfl (by rw [hml]; rfl) (Steps.refl _) (argsL := []) (rest := []) (lenOf pd_3 rfl) rfl (by show 2 * 0 + _ ≤ _; exact Nat.le_of_eq rfl) (hb hby at_79) (fun _ _ => ⟨rfl, rfl, (by decide : 1 + 0 ≤ _), (by decide : 6 + 0 ≤ _)⟩)
      dsimp only [Pt.U, Pt.locs, Pt.cells, Pt.slots] at X3 l3 y3 z3 st3 hQ3
      subst l3 y3 z3
      obtain ⟨rfl, N3, e3⟩ := hQ3
      have fin : Jvm.Own.z (Jvm.Native.java_lang_Math.nans.pick64 true P (Jvm.Native.java_lang_Math.nans.pick64 true D G)) = Jvm.Own.z P := by
        rcases Int.le_total dd.toInt gg.toInt with r1 | r1
        · have := k2 (by omega); rcases Int.le_total pp.toInt gg.toInt with r2 | r2
          · have := j2 (by omega); omega
          · have := j3 (by omega); omega
        · have := k3 (by omega); rcases Int.le_total pp.toInt dd.toInt with r2 | r2
          · have := j2 (by omega); omega
          · have := j3 (by omega); omega
      obtain ⟨fs, hr, hrun, hended, hW, hsame⟩ := X3.leave (v := some (.int (1 : Int32))) (fun h => by rw [Bd.returns] at h; cases h)
      refine ⟨_, _, pre0 _ ?_, hrun, hended, _, _, rfl, ?_, ⟨_, rfl⟩, hW, hsame.mono (by decide) (by decide)⟩
      · show Steps p.tables e below (s₁.setTop (mkF m 0 #[.val (.int pp), .val (.int dd), .val (.int gg), .val (.int ps), .val (.int ds), .val (.int gs), .unset, .unset, .unset, .unset, .unset, .unset, .unset, .unset, .unset, .unset] [])) _
        refine XS.iloadN X0.here hx rfl (hb hby at_0) rfl ?_
        show Steps p.tables e below (s₁.setTop (mkF m 1 #[.val (.int pp), .val (.int dd), .val (.int gg), .val (.int ps), .val (.int ds), .val (.int gs), .unset, .unset, .unset, .unset, .unset, .unset, .unset, .unset, .unset, .unset] [(.int pp)])) _
        refine XS.i2dS X0.here hx rfl (hb hby at_1) rfl (v := FP.i2d pp) rfl ?_
        show Steps p.tables e below (s₁.setTop (mkF m 2 #[.val (.int pp), .val (.int dd), .val (.int gg), .val (.int ps), .val (.int ds), .val (.int gs), .unset, .unset, .unset, .unset, .unset, .unset, .unset, .unset, .unset, .unset] [(.double (FP.i2d pp))])) _
        refine X0.ldc2DoubleC hx hown (mvT hZ (hw _ (List.mem_of_getElem? (i := 0) rfl))) (g := (mkF m 2 #[.val (.int pp), .val (.int dd), .val (.int gg), .val (.int ps), .val (.int ds), .val (.int gs), .unset, .unset, .unset, .unset, .unset, .unset, .unset, .unset, .unset, .unset] [(.double (FP.i2d pp))])) rfl (hb hby at_2) _ ?_
        show Steps p.tables e below (s₁.setTop (mkF m 5 #[.val (.int pp), .val (.int dd), .val (.int gg), .val (.int ps), .val (.int ds), .val (.int gs), .unset, .unset, .unset, .unset, .unset, .unset, .unset, .unset, .unset, .unset] [(.double (4611686018427387904 : UInt64)), (.double (FP.i2d pp))])) _
        refine XS.ddivS X0.here hx rfl (hb hby at_5) rfl nP (v := P) hP ?_
        show Steps p.tables e below (s₁.setTop (mkF m 6 #[.val (.int pp), .val (.int dd), .val (.int gg), .val (.int ps), .val (.int ds), .val (.int gs), .unset, .unset, .unset, .unset, .unset, .unset, .unset, .unset, .unset, .unset] [(.double P)])) _
        refine XS.dstore X0.here hx rfl (hb hby at_6) rfl (l' := #[.val (.int pp), .val (.int dd), .val (.int gg), .val (.int ps), .val (.int ds), .val (.int gs), .val (.double P), .second, .unset, .unset, .unset, .unset, .unset, .unset, .unset, .unset]) rfl ?_
        show Steps p.tables e below (s₁.setTop (mkF m 8 #[.val (.int pp), .val (.int dd), .val (.int gg), .val (.int ps), .val (.int ds), .val (.int gs), .val (.double P), .second, .unset, .unset, .unset, .unset, .unset, .unset, .unset, .unset] [])) _
        refine XS.iloadN X0.here hx rfl (hb hby at_8) rfl ?_
        show Steps p.tables e below (s₁.setTop (mkF m 9 #[.val (.int pp), .val (.int dd), .val (.int gg), .val (.int ps), .val (.int ds), .val (.int gs), .val (.double P), .second, .unset, .unset, .unset, .unset, .unset, .unset, .unset, .unset] [(.int dd)])) _
        refine XS.i2dS X0.here hx rfl (hb hby at_9) rfl (v := FP.i2d dd) rfl ?_
        show Steps p.tables e below (s₁.setTop (mkF m 10 #[.val (.int pp), .val (.int dd), .val (.int gg), .val (.int ps), .val (.int ds), .val (.int gs), .val (.double P), .second, .unset, .unset, .unset, .unset, .unset, .unset, .unset, .unset] [(.double (FP.i2d dd))])) _
        refine X0.ldc2DoubleC hx hown (mvT hZ (hw _ (List.mem_of_getElem? (i := 0) rfl))) (g := (mkF m 10 #[.val (.int pp), .val (.int dd), .val (.int gg), .val (.int ps), .val (.int ds), .val (.int gs), .val (.double P), .second, .unset, .unset, .unset, .unset, .unset, .unset, .unset, .unset] [(.double (FP.i2d dd))])) rfl (hb hby at_10) _ ?_
        show Steps p.tables e below (s₁.setTop (mkF m 13 #[.val (.int pp), .val (.int dd), .val (.int gg), .val (.int ps), .val (.int ds), .val (.int gs), .val (.double P), .second, .unset, .unset, .unset, .unset, .unset, .unset, .unset, .unset] [(.double (4611686018427387904 : UInt64)), (.double (FP.i2d dd))])) _
        refine XS.ddivS X0.here hx rfl (hb hby at_13) rfl nD (v := D) hD ?_
        show Steps p.tables e below (s₁.setTop (mkF m 14 #[.val (.int pp), .val (.int dd), .val (.int gg), .val (.int ps), .val (.int ds), .val (.int gs), .val (.double P), .second, .unset, .unset, .unset, .unset, .unset, .unset, .unset, .unset] [(.double D)])) _
        refine XS.dstore X0.here hx rfl (hb hby at_14) rfl (l' := #[.val (.int pp), .val (.int dd), .val (.int gg), .val (.int ps), .val (.int ds), .val (.int gs), .val (.double P), .second, .val (.double D), .second, .unset, .unset, .unset, .unset, .unset, .unset]) rfl ?_
        show Steps p.tables e below (s₁.setTop (mkF m 16 #[.val (.int pp), .val (.int dd), .val (.int gg), .val (.int ps), .val (.int ds), .val (.int gs), .val (.double P), .second, .val (.double D), .second, .unset, .unset, .unset, .unset, .unset, .unset] [])) _
        refine XS.iloadN X0.here hx rfl (hb hby at_16) rfl ?_
        show Steps p.tables e below (s₁.setTop (mkF m 17 #[.val (.int pp), .val (.int dd), .val (.int gg), .val (.int ps), .val (.int ds), .val (.int gs), .val (.double P), .second, .val (.double D), .second, .unset, .unset, .unset, .unset, .unset, .unset] [(.int gg)])) _
        refine XS.i2dS X0.here hx rfl (hb hby at_17) rfl (v := FP.i2d gg) rfl ?_
        show Steps p.tables e below (s₁.setTop (mkF m 18 #[.val (.int pp), .val (.int dd), .val (.int gg), .val (.int ps), .val (.int ds), .val (.int gs), .val (.double P), .second, .val (.double D), .second, .unset, .unset, .unset, .unset, .unset, .unset] [(.double (FP.i2d gg))])) _
        refine X0.ldc2DoubleC hx hown (mvT hZ (hw _ (List.mem_of_getElem? (i := 0) rfl))) (g := (mkF m 18 #[.val (.int pp), .val (.int dd), .val (.int gg), .val (.int ps), .val (.int ds), .val (.int gs), .val (.double P), .second, .val (.double D), .second, .unset, .unset, .unset, .unset, .unset, .unset] [(.double (FP.i2d gg))])) rfl (hb hby at_18) _ ?_
        show Steps p.tables e below (s₁.setTop (mkF m 21 #[.val (.int pp), .val (.int dd), .val (.int gg), .val (.int ps), .val (.int ds), .val (.int gs), .val (.double P), .second, .val (.double D), .second, .unset, .unset, .unset, .unset, .unset, .unset] [(.double (4611686018427387904 : UInt64)), (.double (FP.i2d gg))])) _
        refine XS.ddivS X0.here hx rfl (hb hby at_21) rfl nG (v := G) hG ?_
        show Steps p.tables e below (s₁.setTop (mkF m 22 #[.val (.int pp), .val (.int dd), .val (.int gg), .val (.int ps), .val (.int ds), .val (.int gs), .val (.double P), .second, .val (.double D), .second, .unset, .unset, .unset, .unset, .unset, .unset] [(.double G)])) _
        refine XS.dstore X0.here hx rfl (hb hby at_22) rfl (l' := #[.val (.int pp), .val (.int dd), .val (.int gg), .val (.int ps), .val (.int ds), .val (.int gs), .val (.double P), .second, .val (.double D), .second, .val (.double G), .second, .unset, .unset, .unset, .unset]) rfl ?_
        show Steps p.tables e below (s₁.setTop (mkF m 24 #[.val (.int pp), .val (.int dd), .val (.int gg), .val (.int ps), .val (.int ds), .val (.int gs), .val (.double P), .second, .val (.double D), .second, .val (.double G), .second, .unset, .unset, .unset, .unset] [])) _
        refine st1 _ ?_
        show Steps p.tables e below (T1.setTop (mkF m 27 #[.val (.int pp), .val (.int dd), .val (.int gg), .val (.int ps), .val (.int ds), .val (.int gs), .val (.double P), .second, .val (.double D), .second, .val (.double G), .second, .unset, .unset, .unset, .unset] [(.ref a1)])) _
        refine XS.dup X1.here hx rfl (hb hby at_27) rfl rfl ?_
        show Steps p.tables e below (T1.setTop (mkF m 28 #[.val (.int pp), .val (.int dd), .val (.int gg), .val (.int ps), .val (.int ds), .val (.int gs), .val (.double P), .second, .val (.double D), .second, .val (.double G), .second, .unset, .unset, .unset, .unset] [(.ref a1), (.ref a1)])) _
        refine XS.dload X1.here hx rfl (hb hby at_28) rfl ?_
        show Steps p.tables e below (T1.setTop (mkF m 30 #[.val (.int pp), .val (.int dd), .val (.int gg), .val (.int ps), .val (.int ds), .val (.int gs), .val (.double P), .second, .val (.double D), .second, .val (.double G), .second, .unset, .unset, .unset, .unset] [(.double P), (.ref a1), (.ref a1)])) _
        refine XS.dload X1.here hx rfl (hb hby at_30) rfl ?_
        show Steps p.tables e below (T1.setTop (mkF m 32 #[.val (.int pp), .val (.int dd), .val (.int gg), .val (.int ps), .val (.int ds), .val (.int gs), .val (.double P), .second, .val (.double D), .second, .val (.double G), .second, .unset, .unset, .unset, .unset] [(.double D), (.double P), (.ref a1), (.ref a1)])) _
        refine XS.dload X1.here hx rfl (hb hby at_32) rfl ?_
        show Steps p.tables e below (T1.setTop (mkF m 34 #[.val (.int pp), .val (.int dd), .val (.int gg), .val (.int ps), .val (.int ds), .val (.int gs), .val (.double P), .second, .val (.double D), .second, .val (.double G), .second, .unset, .unset, .unset, .unset] [(.double G), (.double D), (.double P), (.ref a1), (.ref a1)])) _
        refine XS.iloadN X1.here hx rfl (hb hby at_34) rfl ?_
        show Steps p.tables e below (T1.setTop (mkF m 35 #[.val (.int pp), .val (.int dd), .val (.int gg), .val (.int ps), .val (.int ds), .val (.int gs), .val (.double P), .second, .val (.double D), .second, .val (.double G), .second, .unset, .unset, .unset, .unset] [(.int ps), (.double G), (.double D), (.double P), (.ref a1), (.ref a1)])) _
        refine XS.i2dS X1.here hx rfl (hb hby at_35) rfl (v := FP.i2d ps) rfl ?_
        show Steps p.tables e below (T1.setTop (mkF m 36 #[.val (.int pp), .val (.int dd), .val (.int gg), .val (.int ps), .val (.int ds), .val (.int gs), .val (.double P), .second, .val (.double D), .second, .val (.double G), .second, .unset, .unset, .unset, .unset] [(.double (FP.i2d ps)), (.double G), (.double D), (.double P), (.ref a1), (.ref a1)])) _
        refine XS.iload X1.here hx rfl (hb hby at_36) rfl ?_
        show Steps p.tables e below (T1.setTop (mkF m 38 #[.val (.int pp), .val (.int dd), .val (.int gg), .val (.int ps), .val (.int ds), .val (.int gs), .val (.double P), .second, .val (.double D), .second, .val (.double G), .second, .unset, .unset, .unset, .unset] [(.int ds), (.double (FP.i2d ps)), (.double G), (.double D), (.double P), (.ref a1), (.ref a1)])) _
        refine XS.i2dS X1.here hx rfl (hb hby at_38) rfl (v := FP.i2d ds) rfl ?_
        show Steps p.tables e below (T1.setTop (mkF m 39 #[.val (.int pp), .val (.int dd), .val (.int gg), .val (.int ps), .val (.int ds), .val (.int gs), .val (.double P), .second, .val (.double D), .second, .val (.double G), .second, .unset, .unset, .unset, .unset] [(.double (FP.i2d ds)), (.double (FP.i2d ps)), (.double G), (.double D), (.double P), (.ref a1), (.ref a1)])) _
        refine XS.iload X1.here hx rfl (hb hby at_39) rfl ?_
        show Steps p.tables e below (T1.setTop (mkF m 41 #[.val (.int pp), .val (.int dd), .val (.int gg), .val (.int ps), .val (.int ds), .val (.int gs), .val (.double P), .second, .val (.double D), .second, .val (.double G), .second, .unset, .unset, .unset, .unset] [(.int gs), (.double (FP.i2d ds)), (.double (FP.i2d ps)), (.double G), (.double D), (.double P), (.ref a1), (.ref a1)])) _
        refine XS.i2dS X1.here hx rfl (hb hby at_41) rfl (v := FP.i2d gs) rfl ?_
        show Steps p.tables e below (T1.setTop (mkF m 42 #[.val (.int pp), .val (.int dd), .val (.int gg), .val (.int ps), .val (.int ds), .val (.int gs), .val (.double P), .second, .val (.double D), .second, .val (.double G), .second, .unset, .unset, .unset, .unset] [(.double (FP.i2d gs)), (.double (FP.i2d ds)), (.double (FP.i2d ps)), (.double G), (.double D), (.double P), (.ref a1), (.ref a1)])) _
        refine st2.trans ?_
        show Steps p.tables e below (T2.setTop (mkF m 45 #[.val (.int pp), .val (.int dd), .val (.int gg), .val (.int ps), .val (.int ds), .val (.int gs), .val (.double P), .second, .val (.double D), .second, .val (.double G), .second, .unset, .unset, .unset, .unset] [(.ref a1)])) _
        refine XS.astore X2.here hx rfl (hb hby at_45) rfl rfl (l' := #[.val (.int pp), .val (.int dd), .val (.int gg), .val (.int ps), .val (.int ds), .val (.int gs), .val (.double P), .second, .val (.double D), .second, .val (.double G), .second, .val (.ref a1), .unset, .unset, .unset]) rfl ?_
        show Steps p.tables e below (T2.setTop (mkF m 47 #[.val (.int pp), .val (.int dd), .val (.int gg), .val (.int ps), .val (.int ds), .val (.int gs), .val (.double P), .second, .val (.double D), .second, .val (.double G), .second, .val (.ref a1), .unset, .unset, .unset] [])) _
        refine XS.iloadN X2.here hx rfl (hb hby at_47) rfl ?_
        show Steps p.tables e below (T2.setTop (mkF m 48 #[.val (.int pp), .val (.int dd), .val (.int gg), .val (.int ps), .val (.int ds), .val (.int gs), .val (.double P), .second, .val (.double D), .second, .val (.double G), .second, .val (.ref a1), .unset, .unset, .unset] [(.int pp)])) _
        refine XS.istore X2.here hx rfl (hb hby at_48) rfl (l' := #[.val (.int pp), .val (.int dd), .val (.int gg), .val (.int ps), .val (.int ds), .val (.int gs), .val (.double P), .second, .val (.double D), .second, .val (.double G), .second, .val (.ref a1), .val (.int pp), .unset, .unset]) rfl ?_
        show Steps p.tables e below (T2.setTop (mkF m 50 #[.val (.int pp), .val (.int dd), .val (.int gg), .val (.int ps), .val (.int ds), .val (.int gs), .val (.double P), .second, .val (.double D), .second, .val (.double G), .second, .val (.ref a1), .val (.int pp), .unset, .unset] [])) _
        refine XS.iloadN X2.here hx rfl (hb hby at_50) rfl ?_
        show Steps p.tables e below (T2.setTop (mkF m 51 #[.val (.int pp), .val (.int dd), .val (.int gg), .val (.int ps), .val (.int ds), .val (.int gs), .val (.double P), .second, .val (.double D), .second, .val (.double G), .second, .val (.ref a1), .val (.int pp), .unset, .unset] [(.int dd)])) _
        refine XS.iload X2.here hx rfl (hb hby at_51) rfl ?_
        show Steps p.tables e below (T2.setTop (mkF m 53 #[.val (.int pp), .val (.int dd), .val (.int gg), .val (.int ps), .val (.int ds), .val (.int gs), .val (.double P), .second, .val (.double D), .second, .val (.double G), .second, .val (.ref a1), .val (.int pp), .unset, .unset] [(.int pp), (.int dd)])) _
        refine XS.icmpYes X2.here hx rfl (pc0 := 53) (pc' := 59) rfl (hb hby at_53) rfl ((Jvm.Own.holdsII _ _ _).trans (Jvm.Own.dT c1)) (by decide) (by decide) ?_
        show Steps p.tables e below (T2.setTop (mkF m 59 #[.val (.int pp), .val (.int dd), .val (.int gg), .val (.int ps), .val (.int ds), .val (.int gs), .val (.double P), .second, .val (.double D), .second, .val (.double G), .second, .val (.ref a1), .val (.int pp), .unset, .unset] [])) _
        refine XS.iloadN X2.here hx rfl (hb hby at_59) rfl ?_
        show Steps p.tables e below (T2.setTop (mkF m 60 #[.val (.int pp), .val (.int dd), .val (.int gg), .val (.int ps), .val (.int ds), .val (.int gs), .val (.double P), .second, .val (.double D), .second, .val (.double G), .second, .val (.ref a1), .val (.int pp), .unset, .unset] [(.int gg)])) _
        refine XS.iload X2.here hx rfl (hb hby at_60) rfl ?_
        show Steps p.tables e below (T2.setTop (mkF m 62 #[.val (.int pp), .val (.int dd), .val (.int gg), .val (.int ps), .val (.int ds), .val (.int gs), .val (.double P), .second, .val (.double D), .second, .val (.double G), .second, .val (.ref a1), .val (.int pp), .unset, .unset] [(.int pp), (.int gg)])) _
        refine XS.icmpYes X2.here hx rfl (pc0 := 62) (pc' := 68) rfl (hb hby at_62) rfl ((Jvm.Own.holdsII _ _ _).trans (Jvm.Own.dT c2)) (by decide) (by decide) ?_
        show Steps p.tables e below (T2.setTop (mkF m 68 #[.val (.int pp), .val (.int dd), .val (.int gg), .val (.int ps), .val (.int ds), .val (.int gs), .val (.double P), .second, .val (.double D), .second, .val (.double G), .second, .val (.ref a1), .val (.int pp), .unset, .unset] [])) _
        refine XS.iload X2.here hx rfl (hb hby at_68) rfl ?_
        show Steps p.tables e below (T2.setTop (mkF m 70 #[.val (.int pp), .val (.int dd), .val (.int gg), .val (.int ps), .val (.int ds), .val (.int gs), .val (.double P), .second, .val (.double D), .second, .val (.double G), .second, .val (.ref a1), .val (.int pp), .unset, .unset] [(.int pp)])) _
        refine XS.i2dS X2.here hx rfl (hb hby at_70) rfl (v := FP.i2d pp) rfl ?_
        show Steps p.tables e below (T2.setTop (mkF m 71 #[.val (.int pp), .val (.int dd), .val (.int gg), .val (.int ps), .val (.int ds), .val (.int gs), .val (.double P), .second, .val (.double D), .second, .val (.double G), .second, .val (.ref a1), .val (.int pp), .unset, .unset] [(.double (FP.i2d pp))])) _
        refine X2.ldc2DoubleC hx hown (mvT hZ (hw _ (List.mem_of_getElem? (i := 0) rfl))) (g := (mkF m 71 #[.val (.int pp), .val (.int dd), .val (.int gg), .val (.int ps), .val (.int ds), .val (.int gs), .val (.double P), .second, .val (.double D), .second, .val (.double G), .second, .val (.ref a1), .val (.int pp), .unset, .unset] [(.double (FP.i2d pp))])) rfl (hb hby at_71) _ ?_
        show Steps p.tables e below (T2.setTop (mkF m 74 #[.val (.int pp), .val (.int dd), .val (.int gg), .val (.int ps), .val (.int ds), .val (.int gs), .val (.double P), .second, .val (.double D), .second, .val (.double G), .second, .val (.ref a1), .val (.int pp), .unset, .unset] [(.double (4611686018427387904 : UInt64)), (.double (FP.i2d pp))])) _
        refine XS.ddivS X2.here hx rfl (hb hby at_74) rfl nP (v := P) hP ?_
        show Steps p.tables e below (T2.setTop (mkF m 75 #[.val (.int pp), .val (.int dd), .val (.int gg), .val (.int ps), .val (.int ds), .val (.int gs), .val (.double P), .second, .val (.double D), .second, .val (.double G), .second, .val (.ref a1), .val (.int pp), .unset, .unset] [(.double P)])) _
        refine XS.dstore X2.here hx rfl (hb hby at_75) rfl (l' := #[.val (.int pp), .val (.int dd), .val (.int gg), .val (.int ps), .val (.int ds), .val (.int gs), .val (.double P), .second, .val (.double D), .second, .val (.double G), .second, .val (.ref a1), .val (.int pp), .val (.double P), .second]) rfl ?_
        show Steps p.tables e below (T2.setTop (mkF m 77 #[.val (.int pp), .val (.int dd), .val (.int gg), .val (.int ps), .val (.int ds), .val (.int gs), .val (.double P), .second, .val (.double D), .second, .val (.double G), .second, .val (.ref a1), .val (.int pp), .val (.double P), .second] [])) _
        refine XS.aload X2.here hx rfl (hb hby at_77) rfl rfl ?_
        show Steps p.tables e below (T2.setTop (mkF m 79 #[.val (.int pp), .val (.int dd), .val (.int gg), .val (.int ps), .val (.int ds), .val (.int gs), .val (.double P), .second, .val (.double D), .second, .val (.double G), .second, .val (.ref a1), .val (.int pp), .val (.double P), .second] [(.ref a1)])) _
        refine st3.trans ?_
        show Steps p.tables e below (T3.setTop (mkF m 82 #[.val (.int pp), .val (.int dd), .val (.int gg), .val (.int ps), .val (.int ds), .val (.int gs), .val (.double P), .second, .val (.double D), .second, .val (.double G), .second, .val (.ref a1), .val (.int pp), .val (.double P), .second] [(.double (Jvm.Native.java_lang_Math.nans.pick64 true P (Jvm.Native.java_lang_Math.nans.pick64 true D G)))])) _
        refine XS.dload X3.here hx rfl (hb hby at_82) rfl ?_
        show Steps p.tables e below (T3.setTop (mkF m 84 #[.val (.int pp), .val (.int dd), .val (.int gg), .val (.int ps), .val (.int ds), .val (.int gs), .val (.double P), .second, .val (.double D), .second, .val (.double G), .second, .val (.ref a1), .val (.int pp), .val (.double P), .second] [(.double P), (.double (Jvm.Native.java_lang_Math.nans.pick64 true P (Jvm.Native.java_lang_Math.nans.pick64 true D G)))])) _
        refine XS.dcmpS X3.here hx rfl (hb hby at_84) rfl (v := Jvm.Op.cmpValue (FP.dcmp (Jvm.Native.java_lang_Math.nans.pick64 true P (Jvm.Native.java_lang_Math.nans.pick64 true D G)) P) .l) rfl ?_
        show Steps p.tables e below (T3.setTop (mkF m 85 #[.val (.int pp), .val (.int dd), .val (.int gg), .val (.int ps), .val (.int ds), .val (.int gs), .val (.double P), .second, .val (.double D), .second, .val (.double G), .second, .val (.ref a1), .val (.int pp), .val (.double P), .second] [(.int (Jvm.Op.cmpValue (FP.dcmp (Jvm.Native.java_lang_Math.nans.pick64 true P (Jvm.Native.java_lang_Math.nans.pick64 true D G)) P) .l))])) _
        refine XS.ifNo X3.here hx rfl (hb hby at_85) rfl ((Jvm.Own.holdsD j1 fp _ _).trans (Jvm.Own.dF (by rw [fin]; exact fun q => q rfl))) ?_
        show Steps p.tables e below (T3.setTop (mkF m 88 #[.val (.int pp), .val (.int dd), .val (.int gg), .val (.int ps), .val (.int ds), .val (.int gs), .val (.double P), .second, .val (.double D), .second, .val (.double G), .second, .val (.ref a1), .val (.int pp), .val (.double P), .second] [])) _
        refine XS.iconst X3.here hx rfl (hb hby at_88) ?_
        show Steps p.tables e below (T3.setTop (mkF m 89 #[.val (.int pp), .val (.int dd), .val (.int gg), .val (.int ps), .val (.int ds), .val (.int gs), .val (.double P), .second, .val (.double D), .second, .val (.double G), .second, .val (.ref a1), .val (.int pp), .val (.double P), .second] [(.int (1 : Int32))])) _
        refine XS.goto X3.here hx rfl (pc0 := 89) (pc' := 93) rfl (hb hby at_89) (by decide) (by decide) ?_
        show Steps p.tables e below (T3.setTop (mkF m 93 #[.val (.int pp), .val (.int dd), .val (.int gg), .val (.int ps), .val (.int ds), .val (.int gs), .val (.double P), .second, .val (.double D), .second, .val (.double G), .second, .val (.ref a1), .val (.int pp), .val (.double P), .second] [(.int (1 : Int32))])) _
        exact retN X3 hx (t := .boolean) Bd.returns (by simp) (hb hby at_93) hr
      · show QL n0 _ T3.heap _
        exact ⟨rfl, Fr.app (Fr.app N0 N2) N3⟩
    · obtain ⟨T1, h1, X1, e1, E1, A1, D1, -, st1⟩ := newO X0 hx hZ hown (hw _ (List.mem_of_getElem? (i := 1) rfl)) (hw _ (List.mem_of_getElem? (i := 2) rfl)) (hw _ (List.mem_of_getElem? (i := 3) rfl)) e0 (g := (mkF m 24 #[.val (.int pp), .val (.int dd), .val (.int gg), .val (.int ps), .val (.int ds), .val (.int gs), .val (.double P), .second, .val (.double D), .second, .val (.double G), .second, .unset, .unset, .unset, .unset] [])) rfl (hb hby at_24) (by decide) (by decide)
      obtain ⟨a1, g1⟩ : ∃ z, z = h0.size := ⟨_, rfl⟩
      rw [← g1] at A1 D1 st1
      have D_0 := D1 (Or.inr (hw _ (List.mem_of_getElem? (i := 16) rfl))) (ty := .double) (by decide)
      have D_1 := D1 (Or.inr (hw _ (List.mem_of_getElem? (i := 18) rfl))) (ty := .double) (by decide)
      have D_2 := D1 (Or.inr (hw _ (List.mem_of_getElem? (i := 20) rfl))) (ty := .double) (by decide)
      have D_3 := D1 (Or.inr (hw _ (List.mem_of_getElem? (i := 22) rfl))) (ty := .double) (by decide)
      have D_4 := D1 (Or.inr (hw _ (List.mem_of_getElem? (i := 24) rfl))) (ty := .double) (by decide)
      have D_5 := D1 (Or.inr (hw _ (List.mem_of_getElem? (i := 26) rfl))) (ty := .double) (by decide)
      have Z1 : n0 ≤ h1.size := Nat.le_trans Z0 E1.1
      have ga : n0 ≤ a1 := Nat.le_trans Z0 (Nat.le_of_eq g1.symm)
      obtain ⟨_, _, ⟨T2, L2, k2, n2⟩, -, X2, ⟨Lc2, hQ2, l2, y2, z2⟩, st2⟩ := X1.specialBack hx (y := (⟨"com/example/surefoot/surefoot/QuadraticProgram$Residuals", "<init>", "(DDDDDD)V"⟩ : MethodName)) rfl hown (mvT hZ (hw _ (List.mem_of_getElem? (i := 4) rfl))) (mvT hZ (hw _ (List.mem_of_getElem? (i := 5) rfl))) (mvT hZ (hw _ (List.mem_of_getElem? (i := 6) rfl))) (by decide) (backOf (W := 1) (rmInit l Z a0 hw [] a1 P D G (FP.i2d ps) (FP.i2d ds) (FP.i2d gs) h1 n0 Z1 A1 ga D_0 D_1 D_2 D_3 D_4 D_5) hZ (hw _ (List.mem_of_getElem? (i := 6) rfl)) (hw _ (List.mem_of_getElem? (i := 3) rfl)) (by decide) (by decide)) (g := (mkF m 42 #[.val (.int pp), .val (.int dd), .val (.int gg), .val (.int ps), .val (.int ds), .val (.int gs), .val (.double P), .second, .val (.double D), .second, .val (.double G), .second, .unset, .unset, .unset, .unset] [(.double (FP.i2d gs)), (.double (FP.i2d ds)), (.double (FP.i2d ps)), (.double G), (.double D), (.double P), (.ref a1), (.ref a1)])) rfl (by rw [hml]; rfl) (Steps.refl _) (a := a1) (argsL := [(.double P), (.double D), (.double G), (.double (FP.i2d ps)), (.double (FP.i2d ds)), (.double (FP.i2d gs))]) (rest := [(.ref a1)]) (lenOf pd_2 rfl) rfl (by show 2 * 0 + _ ≤ _; exact Nat.le_of_eq rfl) (hb hby at_42) (fun _ _ => ⟨rfl, e1, (by decide : 1 + 0 ≤ _), (by decide : 6 + 0 ≤ _)⟩)
      dsimp only [Pt.U, Pt.locs, Pt.cells, Pt.slots] at X2 l2 y2 z2 st2 hQ2
      subst l2 y2 z2
      obtain ⟨rfl, N2, K2, E2, H0, H1, H2, H3, H4, H5⟩ := hQ2
      have Z2 : n0 ≤ T2.heap.size := Nat.le_trans Z1 K2.1
      obtain ⟨cq3, kq3, q3a, q3b, q3c⟩ := isOf hZ rfl E2
      obtain ⟨_, _, ⟨T3, L3, k3, n3⟩, -, X3, ⟨Lc3, hQ3, l3, y3, z3⟩, st3⟩ := X2.virtualBack hx (y := (⟨"com/example/surefoot/surefoot/QuadraticProgram$Residuals", "largest", "()D"⟩ : MethodName)) (z := (⟨"com/example/surefoot/surefoot/QuadraticProgram$Residuals", "largest", "()D"⟩ : MethodName)) hown (mvT hZ (hw _ (List.mem_of_getElem? (i := 27) rfl))) (mvT hZ (hw _ (List.mem_of_getElem? (i := 28) rfl))) (notFace_of_selects (args := #[]) (mvT hZ (hw _ (List.mem_of_getElem? (i := 30) rfl)))) (mvT hZ (hw _ (List.mem_of_getElem? (i := 30) rfl))) (mvT hZ (hw _ (List.mem_of_getElem? (i := 29) rfl))) (by decide) (backOf (W := 0) (rmLg l Z a0 hw [] a1 T2.heap n0 Z2 P D G fp fd fg H0 H1 H2) hZ (hw _ (List.mem_of_getElem? (i := 31) rfl)) (hw _ (List.mem_of_getElem? (i := 3) rfl)) (by decide) (by decide)) q3a q3c (g := (mkF m 79 #[.val (.int pp), .val (.int dd), .val (.int gg), .val (.int ps), .val (.int ds), .val (.int gs), .val (.double P), .second, .val (.double D), .second, .val (.double G), .second, .val (.ref a1), .val (.int gg), .val (.double G), .second] [(.ref a1)])) rfl (by rw [hml]; rfl) (Steps.refl _) (argsL := []) (rest := []) (lenOf pd_3 rfl) rfl (by show 2 * 0 + _ ≤ _; exact Nat.le_of_eq rfl) (hb hby at_79) (fun _ _ => ⟨rfl, rfl, (by decide : 1 + 0 ≤ _), (by decide : 6 + 0 ≤ _)⟩)
      dsimp only [Pt.U, Pt.locs, Pt.cells, Pt.slots] at X3 l3 y3 z3 st3 hQ3
      subst l3 y3 z3
      obtain ⟨rfl, N3, e3⟩ := hQ3
      have fin : Jvm.Own.z (Jvm.Native.java_lang_Math.nans.pick64 true P (Jvm.Native.java_lang_Math.nans.pick64 true D G)) = Jvm.Own.z G := by
        rcases Int.le_total dd.toInt gg.toInt with r1 | r1
        · have := k2 (by omega); rcases Int.le_total pp.toInt gg.toInt with r2 | r2
          · have := j2 (by omega); omega
          · have := j3 (by omega); omega
        · have := k3 (by omega); rcases Int.le_total pp.toInt dd.toInt with r2 | r2
          · have := j2 (by omega); omega
          · have := j3 (by omega); omega
      obtain ⟨fs, hr, hrun, hended, hW, hsame⟩ := X3.leave (v := some (.int (1 : Int32))) (fun h => by rw [Bd.returns] at h; cases h)
      refine ⟨_, _, pre0 _ ?_, hrun, hended, _, _, rfl, ?_, ⟨_, rfl⟩, hW, hsame.mono (by decide) (by decide)⟩
      · show Steps p.tables e below (s₁.setTop (mkF m 0 #[.val (.int pp), .val (.int dd), .val (.int gg), .val (.int ps), .val (.int ds), .val (.int gs), .unset, .unset, .unset, .unset, .unset, .unset, .unset, .unset, .unset, .unset] [])) _
        refine XS.iloadN X0.here hx rfl (hb hby at_0) rfl ?_
        show Steps p.tables e below (s₁.setTop (mkF m 1 #[.val (.int pp), .val (.int dd), .val (.int gg), .val (.int ps), .val (.int ds), .val (.int gs), .unset, .unset, .unset, .unset, .unset, .unset, .unset, .unset, .unset, .unset] [(.int pp)])) _
        refine XS.i2dS X0.here hx rfl (hb hby at_1) rfl (v := FP.i2d pp) rfl ?_
        show Steps p.tables e below (s₁.setTop (mkF m 2 #[.val (.int pp), .val (.int dd), .val (.int gg), .val (.int ps), .val (.int ds), .val (.int gs), .unset, .unset, .unset, .unset, .unset, .unset, .unset, .unset, .unset, .unset] [(.double (FP.i2d pp))])) _
        refine X0.ldc2DoubleC hx hown (mvT hZ (hw _ (List.mem_of_getElem? (i := 0) rfl))) (g := (mkF m 2 #[.val (.int pp), .val (.int dd), .val (.int gg), .val (.int ps), .val (.int ds), .val (.int gs), .unset, .unset, .unset, .unset, .unset, .unset, .unset, .unset, .unset, .unset] [(.double (FP.i2d pp))])) rfl (hb hby at_2) _ ?_
        show Steps p.tables e below (s₁.setTop (mkF m 5 #[.val (.int pp), .val (.int dd), .val (.int gg), .val (.int ps), .val (.int ds), .val (.int gs), .unset, .unset, .unset, .unset, .unset, .unset, .unset, .unset, .unset, .unset] [(.double (4611686018427387904 : UInt64)), (.double (FP.i2d pp))])) _
        refine XS.ddivS X0.here hx rfl (hb hby at_5) rfl nP (v := P) hP ?_
        show Steps p.tables e below (s₁.setTop (mkF m 6 #[.val (.int pp), .val (.int dd), .val (.int gg), .val (.int ps), .val (.int ds), .val (.int gs), .unset, .unset, .unset, .unset, .unset, .unset, .unset, .unset, .unset, .unset] [(.double P)])) _
        refine XS.dstore X0.here hx rfl (hb hby at_6) rfl (l' := #[.val (.int pp), .val (.int dd), .val (.int gg), .val (.int ps), .val (.int ds), .val (.int gs), .val (.double P), .second, .unset, .unset, .unset, .unset, .unset, .unset, .unset, .unset]) rfl ?_
        show Steps p.tables e below (s₁.setTop (mkF m 8 #[.val (.int pp), .val (.int dd), .val (.int gg), .val (.int ps), .val (.int ds), .val (.int gs), .val (.double P), .second, .unset, .unset, .unset, .unset, .unset, .unset, .unset, .unset] [])) _
        refine XS.iloadN X0.here hx rfl (hb hby at_8) rfl ?_
        show Steps p.tables e below (s₁.setTop (mkF m 9 #[.val (.int pp), .val (.int dd), .val (.int gg), .val (.int ps), .val (.int ds), .val (.int gs), .val (.double P), .second, .unset, .unset, .unset, .unset, .unset, .unset, .unset, .unset] [(.int dd)])) _
        refine XS.i2dS X0.here hx rfl (hb hby at_9) rfl (v := FP.i2d dd) rfl ?_
        show Steps p.tables e below (s₁.setTop (mkF m 10 #[.val (.int pp), .val (.int dd), .val (.int gg), .val (.int ps), .val (.int ds), .val (.int gs), .val (.double P), .second, .unset, .unset, .unset, .unset, .unset, .unset, .unset, .unset] [(.double (FP.i2d dd))])) _
        refine X0.ldc2DoubleC hx hown (mvT hZ (hw _ (List.mem_of_getElem? (i := 0) rfl))) (g := (mkF m 10 #[.val (.int pp), .val (.int dd), .val (.int gg), .val (.int ps), .val (.int ds), .val (.int gs), .val (.double P), .second, .unset, .unset, .unset, .unset, .unset, .unset, .unset, .unset] [(.double (FP.i2d dd))])) rfl (hb hby at_10) _ ?_
        show Steps p.tables e below (s₁.setTop (mkF m 13 #[.val (.int pp), .val (.int dd), .val (.int gg), .val (.int ps), .val (.int ds), .val (.int gs), .val (.double P), .second, .unset, .unset, .unset, .unset, .unset, .unset, .unset, .unset] [(.double (4611686018427387904 : UInt64)), (.double (FP.i2d dd))])) _
        refine XS.ddivS X0.here hx rfl (hb hby at_13) rfl nD (v := D) hD ?_
        show Steps p.tables e below (s₁.setTop (mkF m 14 #[.val (.int pp), .val (.int dd), .val (.int gg), .val (.int ps), .val (.int ds), .val (.int gs), .val (.double P), .second, .unset, .unset, .unset, .unset, .unset, .unset, .unset, .unset] [(.double D)])) _
        refine XS.dstore X0.here hx rfl (hb hby at_14) rfl (l' := #[.val (.int pp), .val (.int dd), .val (.int gg), .val (.int ps), .val (.int ds), .val (.int gs), .val (.double P), .second, .val (.double D), .second, .unset, .unset, .unset, .unset, .unset, .unset]) rfl ?_
        show Steps p.tables e below (s₁.setTop (mkF m 16 #[.val (.int pp), .val (.int dd), .val (.int gg), .val (.int ps), .val (.int ds), .val (.int gs), .val (.double P), .second, .val (.double D), .second, .unset, .unset, .unset, .unset, .unset, .unset] [])) _
        refine XS.iloadN X0.here hx rfl (hb hby at_16) rfl ?_
        show Steps p.tables e below (s₁.setTop (mkF m 17 #[.val (.int pp), .val (.int dd), .val (.int gg), .val (.int ps), .val (.int ds), .val (.int gs), .val (.double P), .second, .val (.double D), .second, .unset, .unset, .unset, .unset, .unset, .unset] [(.int gg)])) _
        refine XS.i2dS X0.here hx rfl (hb hby at_17) rfl (v := FP.i2d gg) rfl ?_
        show Steps p.tables e below (s₁.setTop (mkF m 18 #[.val (.int pp), .val (.int dd), .val (.int gg), .val (.int ps), .val (.int ds), .val (.int gs), .val (.double P), .second, .val (.double D), .second, .unset, .unset, .unset, .unset, .unset, .unset] [(.double (FP.i2d gg))])) _
        refine X0.ldc2DoubleC hx hown (mvT hZ (hw _ (List.mem_of_getElem? (i := 0) rfl))) (g := (mkF m 18 #[.val (.int pp), .val (.int dd), .val (.int gg), .val (.int ps), .val (.int ds), .val (.int gs), .val (.double P), .second, .val (.double D), .second, .unset, .unset, .unset, .unset, .unset, .unset] [(.double (FP.i2d gg))])) rfl (hb hby at_18) _ ?_
        show Steps p.tables e below (s₁.setTop (mkF m 21 #[.val (.int pp), .val (.int dd), .val (.int gg), .val (.int ps), .val (.int ds), .val (.int gs), .val (.double P), .second, .val (.double D), .second, .unset, .unset, .unset, .unset, .unset, .unset] [(.double (4611686018427387904 : UInt64)), (.double (FP.i2d gg))])) _
        refine XS.ddivS X0.here hx rfl (hb hby at_21) rfl nG (v := G) hG ?_
        show Steps p.tables e below (s₁.setTop (mkF m 22 #[.val (.int pp), .val (.int dd), .val (.int gg), .val (.int ps), .val (.int ds), .val (.int gs), .val (.double P), .second, .val (.double D), .second, .unset, .unset, .unset, .unset, .unset, .unset] [(.double G)])) _
        refine XS.dstore X0.here hx rfl (hb hby at_22) rfl (l' := #[.val (.int pp), .val (.int dd), .val (.int gg), .val (.int ps), .val (.int ds), .val (.int gs), .val (.double P), .second, .val (.double D), .second, .val (.double G), .second, .unset, .unset, .unset, .unset]) rfl ?_
        show Steps p.tables e below (s₁.setTop (mkF m 24 #[.val (.int pp), .val (.int dd), .val (.int gg), .val (.int ps), .val (.int ds), .val (.int gs), .val (.double P), .second, .val (.double D), .second, .val (.double G), .second, .unset, .unset, .unset, .unset] [])) _
        refine st1 _ ?_
        show Steps p.tables e below (T1.setTop (mkF m 27 #[.val (.int pp), .val (.int dd), .val (.int gg), .val (.int ps), .val (.int ds), .val (.int gs), .val (.double P), .second, .val (.double D), .second, .val (.double G), .second, .unset, .unset, .unset, .unset] [(.ref a1)])) _
        refine XS.dup X1.here hx rfl (hb hby at_27) rfl rfl ?_
        show Steps p.tables e below (T1.setTop (mkF m 28 #[.val (.int pp), .val (.int dd), .val (.int gg), .val (.int ps), .val (.int ds), .val (.int gs), .val (.double P), .second, .val (.double D), .second, .val (.double G), .second, .unset, .unset, .unset, .unset] [(.ref a1), (.ref a1)])) _
        refine XS.dload X1.here hx rfl (hb hby at_28) rfl ?_
        show Steps p.tables e below (T1.setTop (mkF m 30 #[.val (.int pp), .val (.int dd), .val (.int gg), .val (.int ps), .val (.int ds), .val (.int gs), .val (.double P), .second, .val (.double D), .second, .val (.double G), .second, .unset, .unset, .unset, .unset] [(.double P), (.ref a1), (.ref a1)])) _
        refine XS.dload X1.here hx rfl (hb hby at_30) rfl ?_
        show Steps p.tables e below (T1.setTop (mkF m 32 #[.val (.int pp), .val (.int dd), .val (.int gg), .val (.int ps), .val (.int ds), .val (.int gs), .val (.double P), .second, .val (.double D), .second, .val (.double G), .second, .unset, .unset, .unset, .unset] [(.double D), (.double P), (.ref a1), (.ref a1)])) _
        refine XS.dload X1.here hx rfl (hb hby at_32) rfl ?_
        show Steps p.tables e below (T1.setTop (mkF m 34 #[.val (.int pp), .val (.int dd), .val (.int gg), .val (.int ps), .val (.int ds), .val (.int gs), .val (.double P), .second, .val (.double D), .second, .val (.double G), .second, .unset, .unset, .unset, .unset] [(.double G), (.double D), (.double P), (.ref a1), (.ref a1)])) _
        refine XS.iloadN X1.here hx rfl (hb hby at_34) rfl ?_
        show Steps p.tables e below (T1.setTop (mkF m 35 #[.val (.int pp), .val (.int dd), .val (.int gg), .val (.int ps), .val (.int ds), .val (.int gs), .val (.double P), .second, .val (.double D), .second, .val (.double G), .second, .unset, .unset, .unset, .unset] [(.int ps), (.double G), (.double D), (.double P), (.ref a1), (.ref a1)])) _
        refine XS.i2dS X1.here hx rfl (hb hby at_35) rfl (v := FP.i2d ps) rfl ?_
        show Steps p.tables e below (T1.setTop (mkF m 36 #[.val (.int pp), .val (.int dd), .val (.int gg), .val (.int ps), .val (.int ds), .val (.int gs), .val (.double P), .second, .val (.double D), .second, .val (.double G), .second, .unset, .unset, .unset, .unset] [(.double (FP.i2d ps)), (.double G), (.double D), (.double P), (.ref a1), (.ref a1)])) _
        refine XS.iload X1.here hx rfl (hb hby at_36) rfl ?_
        show Steps p.tables e below (T1.setTop (mkF m 38 #[.val (.int pp), .val (.int dd), .val (.int gg), .val (.int ps), .val (.int ds), .val (.int gs), .val (.double P), .second, .val (.double D), .second, .val (.double G), .second, .unset, .unset, .unset, .unset] [(.int ds), (.double (FP.i2d ps)), (.double G), (.double D), (.double P), (.ref a1), (.ref a1)])) _
        refine XS.i2dS X1.here hx rfl (hb hby at_38) rfl (v := FP.i2d ds) rfl ?_
        show Steps p.tables e below (T1.setTop (mkF m 39 #[.val (.int pp), .val (.int dd), .val (.int gg), .val (.int ps), .val (.int ds), .val (.int gs), .val (.double P), .second, .val (.double D), .second, .val (.double G), .second, .unset, .unset, .unset, .unset] [(.double (FP.i2d ds)), (.double (FP.i2d ps)), (.double G), (.double D), (.double P), (.ref a1), (.ref a1)])) _
        refine XS.iload X1.here hx rfl (hb hby at_39) rfl ?_
        show Steps p.tables e below (T1.setTop (mkF m 41 #[.val (.int pp), .val (.int dd), .val (.int gg), .val (.int ps), .val (.int ds), .val (.int gs), .val (.double P), .second, .val (.double D), .second, .val (.double G), .second, .unset, .unset, .unset, .unset] [(.int gs), (.double (FP.i2d ds)), (.double (FP.i2d ps)), (.double G), (.double D), (.double P), (.ref a1), (.ref a1)])) _
        refine XS.i2dS X1.here hx rfl (hb hby at_41) rfl (v := FP.i2d gs) rfl ?_
        show Steps p.tables e below (T1.setTop (mkF m 42 #[.val (.int pp), .val (.int dd), .val (.int gg), .val (.int ps), .val (.int ds), .val (.int gs), .val (.double P), .second, .val (.double D), .second, .val (.double G), .second, .unset, .unset, .unset, .unset] [(.double (FP.i2d gs)), (.double (FP.i2d ds)), (.double (FP.i2d ps)), (.double G), (.double D), (.double P), (.ref a1), (.ref a1)])) _
        refine st2.trans ?_
        show Steps p.tables e below (T2.setTop (mkF m 45 #[.val (.int pp), .val (.int dd), .val (.int gg), .val (.int ps), .val (.int ds), .val (.int gs), .val (.double P), .second, .val (.double D), .second, .val (.double G), .second, .unset, .unset, .unset, .unset] [(.ref a1)])) _
        refine XS.astore X2.here hx rfl (hb hby at_45) rfl rfl (l' := #[.val (.int pp), .val (.int dd), .val (.int gg), .val (.int ps), .val (.int ds), .val (.int gs), .val (.double P), .second, .val (.double D), .second, .val (.double G), .second, .val (.ref a1), .unset, .unset, .unset]) rfl ?_
        show Steps p.tables e below (T2.setTop (mkF m 47 #[.val (.int pp), .val (.int dd), .val (.int gg), .val (.int ps), .val (.int ds), .val (.int gs), .val (.double P), .second, .val (.double D), .second, .val (.double G), .second, .val (.ref a1), .unset, .unset, .unset] [])) _
        refine XS.iloadN X2.here hx rfl (hb hby at_47) rfl ?_
        show Steps p.tables e below (T2.setTop (mkF m 48 #[.val (.int pp), .val (.int dd), .val (.int gg), .val (.int ps), .val (.int ds), .val (.int gs), .val (.double P), .second, .val (.double D), .second, .val (.double G), .second, .val (.ref a1), .unset, .unset, .unset] [(.int pp)])) _
        refine XS.istore X2.here hx rfl (hb hby at_48) rfl (l' := #[.val (.int pp), .val (.int dd), .val (.int gg), .val (.int ps), .val (.int ds), .val (.int gs), .val (.double P), .second, .val (.double D), .second, .val (.double G), .second, .val (.ref a1), .val (.int pp), .unset, .unset]) rfl ?_
        show Steps p.tables e below (T2.setTop (mkF m 50 #[.val (.int pp), .val (.int dd), .val (.int gg), .val (.int ps), .val (.int ds), .val (.int gs), .val (.double P), .second, .val (.double D), .second, .val (.double G), .second, .val (.ref a1), .val (.int pp), .unset, .unset] [])) _
        refine XS.iloadN X2.here hx rfl (hb hby at_50) rfl ?_
        show Steps p.tables e below (T2.setTop (mkF m 51 #[.val (.int pp), .val (.int dd), .val (.int gg), .val (.int ps), .val (.int ds), .val (.int gs), .val (.double P), .second, .val (.double D), .second, .val (.double G), .second, .val (.ref a1), .val (.int pp), .unset, .unset] [(.int dd)])) _
        refine XS.iload X2.here hx rfl (hb hby at_51) rfl ?_
        show Steps p.tables e below (T2.setTop (mkF m 53 #[.val (.int pp), .val (.int dd), .val (.int gg), .val (.int ps), .val (.int ds), .val (.int gs), .val (.double P), .second, .val (.double D), .second, .val (.double G), .second, .val (.ref a1), .val (.int pp), .unset, .unset] [(.int pp), (.int dd)])) _
        refine XS.icmpYes X2.here hx rfl (pc0 := 53) (pc' := 59) rfl (hb hby at_53) rfl ((Jvm.Own.holdsII _ _ _).trans (Jvm.Own.dT c1)) (by decide) (by decide) ?_
        show Steps p.tables e below (T2.setTop (mkF m 59 #[.val (.int pp), .val (.int dd), .val (.int gg), .val (.int ps), .val (.int ds), .val (.int gs), .val (.double P), .second, .val (.double D), .second, .val (.double G), .second, .val (.ref a1), .val (.int pp), .unset, .unset] [])) _
        refine XS.iloadN X2.here hx rfl (hb hby at_59) rfl ?_
        show Steps p.tables e below (T2.setTop (mkF m 60 #[.val (.int pp), .val (.int dd), .val (.int gg), .val (.int ps), .val (.int ds), .val (.int gs), .val (.double P), .second, .val (.double D), .second, .val (.double G), .second, .val (.ref a1), .val (.int pp), .unset, .unset] [(.int gg)])) _
        refine XS.iload X2.here hx rfl (hb hby at_60) rfl ?_
        show Steps p.tables e below (T2.setTop (mkF m 62 #[.val (.int pp), .val (.int dd), .val (.int gg), .val (.int ps), .val (.int ds), .val (.int gs), .val (.double P), .second, .val (.double D), .second, .val (.double G), .second, .val (.ref a1), .val (.int pp), .unset, .unset] [(.int pp), (.int gg)])) _
        refine XS.icmpNo X2.here hx rfl (hb hby at_62) rfl ((Jvm.Own.holdsII _ _ _).trans (Jvm.Own.dF c2)) ?_
        show Steps p.tables e below (T2.setTop (mkF m 65 #[.val (.int pp), .val (.int dd), .val (.int gg), .val (.int ps), .val (.int ds), .val (.int gs), .val (.double P), .second, .val (.double D), .second, .val (.double G), .second, .val (.ref a1), .val (.int pp), .unset, .unset] [])) _
        refine XS.iloadN X2.here hx rfl (hb hby at_65) rfl ?_
        show Steps p.tables e below (T2.setTop (mkF m 66 #[.val (.int pp), .val (.int dd), .val (.int gg), .val (.int ps), .val (.int ds), .val (.int gs), .val (.double P), .second, .val (.double D), .second, .val (.double G), .second, .val (.ref a1), .val (.int pp), .unset, .unset] [(.int gg)])) _
        refine XS.istore X2.here hx rfl (hb hby at_66) rfl (l' := #[.val (.int pp), .val (.int dd), .val (.int gg), .val (.int ps), .val (.int ds), .val (.int gs), .val (.double P), .second, .val (.double D), .second, .val (.double G), .second, .val (.ref a1), .val (.int gg), .unset, .unset]) rfl ?_
        show Steps p.tables e below (T2.setTop (mkF m 68 #[.val (.int pp), .val (.int dd), .val (.int gg), .val (.int ps), .val (.int ds), .val (.int gs), .val (.double P), .second, .val (.double D), .second, .val (.double G), .second, .val (.ref a1), .val (.int gg), .unset, .unset] [])) _
        refine XS.iload X2.here hx rfl (hb hby at_68) rfl ?_
        show Steps p.tables e below (T2.setTop (mkF m 70 #[.val (.int pp), .val (.int dd), .val (.int gg), .val (.int ps), .val (.int ds), .val (.int gs), .val (.double P), .second, .val (.double D), .second, .val (.double G), .second, .val (.ref a1), .val (.int gg), .unset, .unset] [(.int gg)])) _
        refine XS.i2dS X2.here hx rfl (hb hby at_70) rfl (v := FP.i2d gg) rfl ?_
        show Steps p.tables e below (T2.setTop (mkF m 71 #[.val (.int pp), .val (.int dd), .val (.int gg), .val (.int ps), .val (.int ds), .val (.int gs), .val (.double P), .second, .val (.double D), .second, .val (.double G), .second, .val (.ref a1), .val (.int gg), .unset, .unset] [(.double (FP.i2d gg))])) _
        refine X2.ldc2DoubleC hx hown (mvT hZ (hw _ (List.mem_of_getElem? (i := 0) rfl))) (g := (mkF m 71 #[.val (.int pp), .val (.int dd), .val (.int gg), .val (.int ps), .val (.int ds), .val (.int gs), .val (.double P), .second, .val (.double D), .second, .val (.double G), .second, .val (.ref a1), .val (.int gg), .unset, .unset] [(.double (FP.i2d gg))])) rfl (hb hby at_71) _ ?_
        show Steps p.tables e below (T2.setTop (mkF m 74 #[.val (.int pp), .val (.int dd), .val (.int gg), .val (.int ps), .val (.int ds), .val (.int gs), .val (.double P), .second, .val (.double D), .second, .val (.double G), .second, .val (.ref a1), .val (.int gg), .unset, .unset] [(.double (4611686018427387904 : UInt64)), (.double (FP.i2d gg))])) _
        refine XS.ddivS X2.here hx rfl (hb hby at_74) rfl nG (v := G) hG ?_
        show Steps p.tables e below (T2.setTop (mkF m 75 #[.val (.int pp), .val (.int dd), .val (.int gg), .val (.int ps), .val (.int ds), .val (.int gs), .val (.double P), .second, .val (.double D), .second, .val (.double G), .second, .val (.ref a1), .val (.int gg), .unset, .unset] [(.double G)])) _
        refine XS.dstore X2.here hx rfl (hb hby at_75) rfl (l' := #[.val (.int pp), .val (.int dd), .val (.int gg), .val (.int ps), .val (.int ds), .val (.int gs), .val (.double P), .second, .val (.double D), .second, .val (.double G), .second, .val (.ref a1), .val (.int gg), .val (.double G), .second]) rfl ?_
        show Steps p.tables e below (T2.setTop (mkF m 77 #[.val (.int pp), .val (.int dd), .val (.int gg), .val (.int ps), .val (.int ds), .val (.int gs), .val (.double P), .second, .val (.double D), .second, .val (.double G), .second, .val (.ref a1), .val (.int gg), .val (.double G), .second] [])) _
        refine XS.aload X2.here hx rfl (hb hby at_77) rfl rfl ?_
        show Steps p.tables e below (T2.setTop (mkF m 79 #[.val (.int pp), .val (.int dd), .val (.int gg), .val (.int ps), .val (.int ds), .val (.int gs), .val (.double P), .second, .val (.double D), .second, .val (.double G), .second, .val (.ref a1), .val (.int gg), .val (.double G), .second] [(.ref a1)])) _
        refine st3.trans ?_
        show Steps p.tables e below (T3.setTop (mkF m 82 #[.val (.int pp), .val (.int dd), .val (.int gg), .val (.int ps), .val (.int ds), .val (.int gs), .val (.double P), .second, .val (.double D), .second, .val (.double G), .second, .val (.ref a1), .val (.int gg), .val (.double G), .second] [(.double (Jvm.Native.java_lang_Math.nans.pick64 true P (Jvm.Native.java_lang_Math.nans.pick64 true D G)))])) _
        refine XS.dload X3.here hx rfl (hb hby at_82) rfl ?_
        show Steps p.tables e below (T3.setTop (mkF m 84 #[.val (.int pp), .val (.int dd), .val (.int gg), .val (.int ps), .val (.int ds), .val (.int gs), .val (.double P), .second, .val (.double D), .second, .val (.double G), .second, .val (.ref a1), .val (.int gg), .val (.double G), .second] [(.double G), (.double (Jvm.Native.java_lang_Math.nans.pick64 true P (Jvm.Native.java_lang_Math.nans.pick64 true D G)))])) _
        refine XS.dcmpS X3.here hx rfl (hb hby at_84) rfl (v := Jvm.Op.cmpValue (FP.dcmp (Jvm.Native.java_lang_Math.nans.pick64 true P (Jvm.Native.java_lang_Math.nans.pick64 true D G)) G) .l) rfl ?_
        show Steps p.tables e below (T3.setTop (mkF m 85 #[.val (.int pp), .val (.int dd), .val (.int gg), .val (.int ps), .val (.int ds), .val (.int gs), .val (.double P), .second, .val (.double D), .second, .val (.double G), .second, .val (.ref a1), .val (.int gg), .val (.double G), .second] [(.int (Jvm.Op.cmpValue (FP.dcmp (Jvm.Native.java_lang_Math.nans.pick64 true P (Jvm.Native.java_lang_Math.nans.pick64 true D G)) G) .l))])) _
        refine XS.ifNo X3.here hx rfl (hb hby at_85) rfl ((Jvm.Own.holdsD j1 fg _ _).trans (Jvm.Own.dF (by rw [fin]; exact fun q => q rfl))) ?_
        show Steps p.tables e below (T3.setTop (mkF m 88 #[.val (.int pp), .val (.int dd), .val (.int gg), .val (.int ps), .val (.int ds), .val (.int gs), .val (.double P), .second, .val (.double D), .second, .val (.double G), .second, .val (.ref a1), .val (.int gg), .val (.double G), .second] [])) _
        refine XS.iconst X3.here hx rfl (hb hby at_88) ?_
        show Steps p.tables e below (T3.setTop (mkF m 89 #[.val (.int pp), .val (.int dd), .val (.int gg), .val (.int ps), .val (.int ds), .val (.int gs), .val (.double P), .second, .val (.double D), .second, .val (.double G), .second, .val (.ref a1), .val (.int gg), .val (.double G), .second] [(.int (1 : Int32))])) _
        refine XS.goto X3.here hx rfl (pc0 := 89) (pc' := 93) rfl (hb hby at_89) (by decide) (by decide) ?_
        show Steps p.tables e below (T3.setTop (mkF m 93 #[.val (.int pp), .val (.int dd), .val (.int gg), .val (.int ps), .val (.int ds), .val (.int gs), .val (.double P), .second, .val (.double D), .second, .val (.double G), .second, .val (.ref a1), .val (.int gg), .val (.double G), .second] [(.int (1 : Int32))])) _
        exact retN X3 hx (t := .boolean) Bd.returns (by simp) (hb hby at_93) hr
      · show QL n0 _ T3.heap _
        exact ⟨rfl, Fr.app (Fr.app N0 N2) N3⟩
  · by_cases c2 : gg.toInt ≤ dd.toInt
    · obtain ⟨T1, h1, X1, e1, E1, A1, D1, -, st1⟩ := newO X0 hx hZ hown (hw _ (List.mem_of_getElem? (i := 1) rfl)) (hw _ (List.mem_of_getElem? (i := 2) rfl)) (hw _ (List.mem_of_getElem? (i := 3) rfl)) e0 (g := (mkF m 24 #[.val (.int pp), .val (.int dd), .val (.int gg), .val (.int ps), .val (.int ds), .val (.int gs), .val (.double P), .second, .val (.double D), .second, .val (.double G), .second, .unset, .unset, .unset, .unset] [])) rfl (hb hby at_24) (by decide) (by decide)
      obtain ⟨a1, g1⟩ : ∃ z, z = h0.size := ⟨_, rfl⟩
      rw [← g1] at A1 D1 st1
      have D_0 := D1 (Or.inr (hw _ (List.mem_of_getElem? (i := 16) rfl))) (ty := .double) (by decide)
      have D_1 := D1 (Or.inr (hw _ (List.mem_of_getElem? (i := 18) rfl))) (ty := .double) (by decide)
      have D_2 := D1 (Or.inr (hw _ (List.mem_of_getElem? (i := 20) rfl))) (ty := .double) (by decide)
      have D_3 := D1 (Or.inr (hw _ (List.mem_of_getElem? (i := 22) rfl))) (ty := .double) (by decide)
      have D_4 := D1 (Or.inr (hw _ (List.mem_of_getElem? (i := 24) rfl))) (ty := .double) (by decide)
      have D_5 := D1 (Or.inr (hw _ (List.mem_of_getElem? (i := 26) rfl))) (ty := .double) (by decide)
      have Z1 : n0 ≤ h1.size := Nat.le_trans Z0 E1.1
      have ga : n0 ≤ a1 := Nat.le_trans Z0 (Nat.le_of_eq g1.symm)
      obtain ⟨_, _, ⟨T2, L2, k2, n2⟩, -, X2, ⟨Lc2, hQ2, l2, y2, z2⟩, st2⟩ := X1.specialBack hx (y := (⟨"com/example/surefoot/surefoot/QuadraticProgram$Residuals", "<init>", "(DDDDDD)V"⟩ : MethodName)) rfl hown (mvT hZ (hw _ (List.mem_of_getElem? (i := 4) rfl))) (mvT hZ (hw _ (List.mem_of_getElem? (i := 5) rfl))) (mvT hZ (hw _ (List.mem_of_getElem? (i := 6) rfl))) (by decide) (backOf (W := 1) (rmInit l Z a0 hw [] a1 P D G (FP.i2d ps) (FP.i2d ds) (FP.i2d gs) h1 n0 Z1 A1 ga D_0 D_1 D_2 D_3 D_4 D_5) hZ (hw _ (List.mem_of_getElem? (i := 6) rfl)) (hw _ (List.mem_of_getElem? (i := 3) rfl)) (by decide) (by decide)) (g := (mkF m 42 #[.val (.int pp), .val (.int dd), .val (.int gg), .val (.int ps), .val (.int ds), .val (.int gs), .val (.double P), .second, .val (.double D), .second, .val (.double G), .second, .unset, .unset, .unset, .unset] [(.double (FP.i2d gs)), (.double (FP.i2d ds)), (.double (FP.i2d ps)), (.double G), (.double D), (.double P), (.ref a1), (.ref a1)])) rfl (by rw [hml]; rfl) (Steps.refl _) (a := a1) (argsL := [(.double P), (.double D), (.double G), (.double (FP.i2d ps)), (.double (FP.i2d ds)), (.double (FP.i2d gs))]) (rest := [(.ref a1)]) (lenOf pd_2 rfl) rfl (by show 2 * 0 + _ ≤ _; exact Nat.le_of_eq rfl) (hb hby at_42) (fun _ _ => ⟨rfl, e1, (by decide : 1 + 0 ≤ _), (by decide : 6 + 0 ≤ _)⟩)
      dsimp only [Pt.U, Pt.locs, Pt.cells, Pt.slots] at X2 l2 y2 z2 st2 hQ2
      subst l2 y2 z2
      obtain ⟨rfl, N2, K2, E2, H0, H1, H2, H3, H4, H5⟩ := hQ2
      have Z2 : n0 ≤ T2.heap.size := Nat.le_trans Z1 K2.1
      obtain ⟨cq3, kq3, q3a, q3b, q3c⟩ := isOf hZ rfl E2
      obtain ⟨_, _, ⟨T3, L3, k3, n3⟩, -, X3, ⟨Lc3, hQ3, l3, y3, z3⟩, st3⟩ := X2.virtualBack hx (y := (⟨"com/example/surefoot/surefoot/QuadraticProgram$Residuals", "largest", "()D"⟩ : MethodName)) (z := (⟨"com/example/surefoot/surefoot/QuadraticProgram$Residuals", "largest", "()D"⟩ : MethodName)) hown (mvT hZ (hw _ (List.mem_of_getElem? (i := 27) rfl))) (mvT hZ (hw _ (List.mem_of_getElem? (i := 28) rfl))) (notFace_of_selects (args := #[]) (mvT hZ (hw _ (List.mem_of_getElem? (i := 30) rfl)))) (mvT hZ (hw _ (List.mem_of_getElem? (i := 30) rfl))) (mvT hZ (hw _ (List.mem_of_getElem? (i := 29) rfl))) (by decide) (backOf (W := 0) (rmLg l Z a0 hw [] a1 T2.heap n0 Z2 P D G fp fd fg H0 H1 H2) hZ (hw _ (List.mem_of_getElem? (i := 31) rfl)) (hw _ (List.mem_of_getElem? (i := 3) rfl)) (by decide) (by decide)) q3a q3c (g := (mkF m 79 #[.val (.int pp), .val (.int dd), .val (.int gg), .val (.int ps), .val (.int ds), .val (.int gs), .val (.double P), .second, .val (.double D), .second, .val (.double G), .second, .val (.ref a1), .val (.int dd), .val (.double D), .second] [(.ref a1)])) rfl (by rw [hml]; rfl) (Steps.refl _) (argsL := []) (rest := []) (lenOf pd_3 rfl) rfl (by show 2 * 0 + _ ≤ _; exact Nat.le_of_eq rfl) (hb hby at_79) (fun _ _ => ⟨rfl, rfl, (by decide : 1 + 0 ≤ _), (by decide : 6 + 0 ≤ _)⟩)
      dsimp only [Pt.U, Pt.locs, Pt.cells, Pt.slots] at X3 l3 y3 z3 st3 hQ3
      subst l3 y3 z3
      obtain ⟨rfl, N3, e3⟩ := hQ3
      have fin : Jvm.Own.z (Jvm.Native.java_lang_Math.nans.pick64 true P (Jvm.Native.java_lang_Math.nans.pick64 true D G)) = Jvm.Own.z D := by
        rcases Int.le_total dd.toInt gg.toInt with r1 | r1
        · have := k2 (by omega); rcases Int.le_total pp.toInt gg.toInt with r2 | r2
          · have := j2 (by omega); omega
          · have := j3 (by omega); omega
        · have := k3 (by omega); rcases Int.le_total pp.toInt dd.toInt with r2 | r2
          · have := j2 (by omega); omega
          · have := j3 (by omega); omega
      obtain ⟨fs, hr, hrun, hended, hW, hsame⟩ := X3.leave (v := some (.int (1 : Int32))) (fun h => by rw [Bd.returns] at h; cases h)
      refine ⟨_, _, pre0 _ ?_, hrun, hended, _, _, rfl, ?_, ⟨_, rfl⟩, hW, hsame.mono (by decide) (by decide)⟩
      · show Steps p.tables e below (s₁.setTop (mkF m 0 #[.val (.int pp), .val (.int dd), .val (.int gg), .val (.int ps), .val (.int ds), .val (.int gs), .unset, .unset, .unset, .unset, .unset, .unset, .unset, .unset, .unset, .unset] [])) _
        refine XS.iloadN X0.here hx rfl (hb hby at_0) rfl ?_
        show Steps p.tables e below (s₁.setTop (mkF m 1 #[.val (.int pp), .val (.int dd), .val (.int gg), .val (.int ps), .val (.int ds), .val (.int gs), .unset, .unset, .unset, .unset, .unset, .unset, .unset, .unset, .unset, .unset] [(.int pp)])) _
        refine XS.i2dS X0.here hx rfl (hb hby at_1) rfl (v := FP.i2d pp) rfl ?_
        show Steps p.tables e below (s₁.setTop (mkF m 2 #[.val (.int pp), .val (.int dd), .val (.int gg), .val (.int ps), .val (.int ds), .val (.int gs), .unset, .unset, .unset, .unset, .unset, .unset, .unset, .unset, .unset, .unset] [(.double (FP.i2d pp))])) _
        refine X0.ldc2DoubleC hx hown (mvT hZ (hw _ (List.mem_of_getElem? (i := 0) rfl))) (g := (mkF m 2 #[.val (.int pp), .val (.int dd), .val (.int gg), .val (.int ps), .val (.int ds), .val (.int gs), .unset, .unset, .unset, .unset, .unset, .unset, .unset, .unset, .unset, .unset] [(.double (FP.i2d pp))])) rfl (hb hby at_2) _ ?_
        show Steps p.tables e below (s₁.setTop (mkF m 5 #[.val (.int pp), .val (.int dd), .val (.int gg), .val (.int ps), .val (.int ds), .val (.int gs), .unset, .unset, .unset, .unset, .unset, .unset, .unset, .unset, .unset, .unset] [(.double (4611686018427387904 : UInt64)), (.double (FP.i2d pp))])) _
        refine XS.ddivS X0.here hx rfl (hb hby at_5) rfl nP (v := P) hP ?_
        show Steps p.tables e below (s₁.setTop (mkF m 6 #[.val (.int pp), .val (.int dd), .val (.int gg), .val (.int ps), .val (.int ds), .val (.int gs), .unset, .unset, .unset, .unset, .unset, .unset, .unset, .unset, .unset, .unset] [(.double P)])) _
        refine XS.dstore X0.here hx rfl (hb hby at_6) rfl (l' := #[.val (.int pp), .val (.int dd), .val (.int gg), .val (.int ps), .val (.int ds), .val (.int gs), .val (.double P), .second, .unset, .unset, .unset, .unset, .unset, .unset, .unset, .unset]) rfl ?_
        show Steps p.tables e below (s₁.setTop (mkF m 8 #[.val (.int pp), .val (.int dd), .val (.int gg), .val (.int ps), .val (.int ds), .val (.int gs), .val (.double P), .second, .unset, .unset, .unset, .unset, .unset, .unset, .unset, .unset] [])) _
        refine XS.iloadN X0.here hx rfl (hb hby at_8) rfl ?_
        show Steps p.tables e below (s₁.setTop (mkF m 9 #[.val (.int pp), .val (.int dd), .val (.int gg), .val (.int ps), .val (.int ds), .val (.int gs), .val (.double P), .second, .unset, .unset, .unset, .unset, .unset, .unset, .unset, .unset] [(.int dd)])) _
        refine XS.i2dS X0.here hx rfl (hb hby at_9) rfl (v := FP.i2d dd) rfl ?_
        show Steps p.tables e below (s₁.setTop (mkF m 10 #[.val (.int pp), .val (.int dd), .val (.int gg), .val (.int ps), .val (.int ds), .val (.int gs), .val (.double P), .second, .unset, .unset, .unset, .unset, .unset, .unset, .unset, .unset] [(.double (FP.i2d dd))])) _
        refine X0.ldc2DoubleC hx hown (mvT hZ (hw _ (List.mem_of_getElem? (i := 0) rfl))) (g := (mkF m 10 #[.val (.int pp), .val (.int dd), .val (.int gg), .val (.int ps), .val (.int ds), .val (.int gs), .val (.double P), .second, .unset, .unset, .unset, .unset, .unset, .unset, .unset, .unset] [(.double (FP.i2d dd))])) rfl (hb hby at_10) _ ?_
        show Steps p.tables e below (s₁.setTop (mkF m 13 #[.val (.int pp), .val (.int dd), .val (.int gg), .val (.int ps), .val (.int ds), .val (.int gs), .val (.double P), .second, .unset, .unset, .unset, .unset, .unset, .unset, .unset, .unset] [(.double (4611686018427387904 : UInt64)), (.double (FP.i2d dd))])) _
        refine XS.ddivS X0.here hx rfl (hb hby at_13) rfl nD (v := D) hD ?_
        show Steps p.tables e below (s₁.setTop (mkF m 14 #[.val (.int pp), .val (.int dd), .val (.int gg), .val (.int ps), .val (.int ds), .val (.int gs), .val (.double P), .second, .unset, .unset, .unset, .unset, .unset, .unset, .unset, .unset] [(.double D)])) _
        refine XS.dstore X0.here hx rfl (hb hby at_14) rfl (l' := #[.val (.int pp), .val (.int dd), .val (.int gg), .val (.int ps), .val (.int ds), .val (.int gs), .val (.double P), .second, .val (.double D), .second, .unset, .unset, .unset, .unset, .unset, .unset]) rfl ?_
        show Steps p.tables e below (s₁.setTop (mkF m 16 #[.val (.int pp), .val (.int dd), .val (.int gg), .val (.int ps), .val (.int ds), .val (.int gs), .val (.double P), .second, .val (.double D), .second, .unset, .unset, .unset, .unset, .unset, .unset] [])) _
        refine XS.iloadN X0.here hx rfl (hb hby at_16) rfl ?_
        show Steps p.tables e below (s₁.setTop (mkF m 17 #[.val (.int pp), .val (.int dd), .val (.int gg), .val (.int ps), .val (.int ds), .val (.int gs), .val (.double P), .second, .val (.double D), .second, .unset, .unset, .unset, .unset, .unset, .unset] [(.int gg)])) _
        refine XS.i2dS X0.here hx rfl (hb hby at_17) rfl (v := FP.i2d gg) rfl ?_
        show Steps p.tables e below (s₁.setTop (mkF m 18 #[.val (.int pp), .val (.int dd), .val (.int gg), .val (.int ps), .val (.int ds), .val (.int gs), .val (.double P), .second, .val (.double D), .second, .unset, .unset, .unset, .unset, .unset, .unset] [(.double (FP.i2d gg))])) _
        refine X0.ldc2DoubleC hx hown (mvT hZ (hw _ (List.mem_of_getElem? (i := 0) rfl))) (g := (mkF m 18 #[.val (.int pp), .val (.int dd), .val (.int gg), .val (.int ps), .val (.int ds), .val (.int gs), .val (.double P), .second, .val (.double D), .second, .unset, .unset, .unset, .unset, .unset, .unset] [(.double (FP.i2d gg))])) rfl (hb hby at_18) _ ?_
        show Steps p.tables e below (s₁.setTop (mkF m 21 #[.val (.int pp), .val (.int dd), .val (.int gg), .val (.int ps), .val (.int ds), .val (.int gs), .val (.double P), .second, .val (.double D), .second, .unset, .unset, .unset, .unset, .unset, .unset] [(.double (4611686018427387904 : UInt64)), (.double (FP.i2d gg))])) _
        refine XS.ddivS X0.here hx rfl (hb hby at_21) rfl nG (v := G) hG ?_
        show Steps p.tables e below (s₁.setTop (mkF m 22 #[.val (.int pp), .val (.int dd), .val (.int gg), .val (.int ps), .val (.int ds), .val (.int gs), .val (.double P), .second, .val (.double D), .second, .unset, .unset, .unset, .unset, .unset, .unset] [(.double G)])) _
        refine XS.dstore X0.here hx rfl (hb hby at_22) rfl (l' := #[.val (.int pp), .val (.int dd), .val (.int gg), .val (.int ps), .val (.int ds), .val (.int gs), .val (.double P), .second, .val (.double D), .second, .val (.double G), .second, .unset, .unset, .unset, .unset]) rfl ?_
        show Steps p.tables e below (s₁.setTop (mkF m 24 #[.val (.int pp), .val (.int dd), .val (.int gg), .val (.int ps), .val (.int ds), .val (.int gs), .val (.double P), .second, .val (.double D), .second, .val (.double G), .second, .unset, .unset, .unset, .unset] [])) _
        refine st1 _ ?_
        show Steps p.tables e below (T1.setTop (mkF m 27 #[.val (.int pp), .val (.int dd), .val (.int gg), .val (.int ps), .val (.int ds), .val (.int gs), .val (.double P), .second, .val (.double D), .second, .val (.double G), .second, .unset, .unset, .unset, .unset] [(.ref a1)])) _
        refine XS.dup X1.here hx rfl (hb hby at_27) rfl rfl ?_
        show Steps p.tables e below (T1.setTop (mkF m 28 #[.val (.int pp), .val (.int dd), .val (.int gg), .val (.int ps), .val (.int ds), .val (.int gs), .val (.double P), .second, .val (.double D), .second, .val (.double G), .second, .unset, .unset, .unset, .unset] [(.ref a1), (.ref a1)])) _
        refine XS.dload X1.here hx rfl (hb hby at_28) rfl ?_
        show Steps p.tables e below (T1.setTop (mkF m 30 #[.val (.int pp), .val (.int dd), .val (.int gg), .val (.int ps), .val (.int ds), .val (.int gs), .val (.double P), .second, .val (.double D), .second, .val (.double G), .second, .unset, .unset, .unset, .unset] [(.double P), (.ref a1), (.ref a1)])) _
        refine XS.dload X1.here hx rfl (hb hby at_30) rfl ?_
        show Steps p.tables e below (T1.setTop (mkF m 32 #[.val (.int pp), .val (.int dd), .val (.int gg), .val (.int ps), .val (.int ds), .val (.int gs), .val (.double P), .second, .val (.double D), .second, .val (.double G), .second, .unset, .unset, .unset, .unset] [(.double D), (.double P), (.ref a1), (.ref a1)])) _
        refine XS.dload X1.here hx rfl (hb hby at_32) rfl ?_
        show Steps p.tables e below (T1.setTop (mkF m 34 #[.val (.int pp), .val (.int dd), .val (.int gg), .val (.int ps), .val (.int ds), .val (.int gs), .val (.double P), .second, .val (.double D), .second, .val (.double G), .second, .unset, .unset, .unset, .unset] [(.double G), (.double D), (.double P), (.ref a1), (.ref a1)])) _
        refine XS.iloadN X1.here hx rfl (hb hby at_34) rfl ?_
        show Steps p.tables e below (T1.setTop (mkF m 35 #[.val (.int pp), .val (.int dd), .val (.int gg), .val (.int ps), .val (.int ds), .val (.int gs), .val (.double P), .second, .val (.double D), .second, .val (.double G), .second, .unset, .unset, .unset, .unset] [(.int ps), (.double G), (.double D), (.double P), (.ref a1), (.ref a1)])) _
        refine XS.i2dS X1.here hx rfl (hb hby at_35) rfl (v := FP.i2d ps) rfl ?_
        show Steps p.tables e below (T1.setTop (mkF m 36 #[.val (.int pp), .val (.int dd), .val (.int gg), .val (.int ps), .val (.int ds), .val (.int gs), .val (.double P), .second, .val (.double D), .second, .val (.double G), .second, .unset, .unset, .unset, .unset] [(.double (FP.i2d ps)), (.double G), (.double D), (.double P), (.ref a1), (.ref a1)])) _
        refine XS.iload X1.here hx rfl (hb hby at_36) rfl ?_
        show Steps p.tables e below (T1.setTop (mkF m 38 #[.val (.int pp), .val (.int dd), .val (.int gg), .val (.int ps), .val (.int ds), .val (.int gs), .val (.double P), .second, .val (.double D), .second, .val (.double G), .second, .unset, .unset, .unset, .unset] [(.int ds), (.double (FP.i2d ps)), (.double G), (.double D), (.double P), (.ref a1), (.ref a1)])) _
        refine XS.i2dS X1.here hx rfl (hb hby at_38) rfl (v := FP.i2d ds) rfl ?_
        show Steps p.tables e below (T1.setTop (mkF m 39 #[.val (.int pp), .val (.int dd), .val (.int gg), .val (.int ps), .val (.int ds), .val (.int gs), .val (.double P), .second, .val (.double D), .second, .val (.double G), .second, .unset, .unset, .unset, .unset] [(.double (FP.i2d ds)), (.double (FP.i2d ps)), (.double G), (.double D), (.double P), (.ref a1), (.ref a1)])) _
        refine XS.iload X1.here hx rfl (hb hby at_39) rfl ?_
        show Steps p.tables e below (T1.setTop (mkF m 41 #[.val (.int pp), .val (.int dd), .val (.int gg), .val (.int ps), .val (.int ds), .val (.int gs), .val (.double P), .second, .val (.double D), .second, .val (.double G), .second, .unset, .unset, .unset, .unset] [(.int gs), (.double (FP.i2d ds)), (.double (FP.i2d ps)), (.double G), (.double D), (.double P), (.ref a1), (.ref a1)])) _
        refine XS.i2dS X1.here hx rfl (hb hby at_41) rfl (v := FP.i2d gs) rfl ?_
        show Steps p.tables e below (T1.setTop (mkF m 42 #[.val (.int pp), .val (.int dd), .val (.int gg), .val (.int ps), .val (.int ds), .val (.int gs), .val (.double P), .second, .val (.double D), .second, .val (.double G), .second, .unset, .unset, .unset, .unset] [(.double (FP.i2d gs)), (.double (FP.i2d ds)), (.double (FP.i2d ps)), (.double G), (.double D), (.double P), (.ref a1), (.ref a1)])) _
        refine st2.trans ?_
        show Steps p.tables e below (T2.setTop (mkF m 45 #[.val (.int pp), .val (.int dd), .val (.int gg), .val (.int ps), .val (.int ds), .val (.int gs), .val (.double P), .second, .val (.double D), .second, .val (.double G), .second, .unset, .unset, .unset, .unset] [(.ref a1)])) _
        refine XS.astore X2.here hx rfl (hb hby at_45) rfl rfl (l' := #[.val (.int pp), .val (.int dd), .val (.int gg), .val (.int ps), .val (.int ds), .val (.int gs), .val (.double P), .second, .val (.double D), .second, .val (.double G), .second, .val (.ref a1), .unset, .unset, .unset]) rfl ?_
        show Steps p.tables e below (T2.setTop (mkF m 47 #[.val (.int pp), .val (.int dd), .val (.int gg), .val (.int ps), .val (.int ds), .val (.int gs), .val (.double P), .second, .val (.double D), .second, .val (.double G), .second, .val (.ref a1), .unset, .unset, .unset] [])) _
        refine XS.iloadN X2.here hx rfl (hb hby at_47) rfl ?_
        show Steps p.tables e below (T2.setTop (mkF m 48 #[.val (.int pp), .val (.int dd), .val (.int gg), .val (.int ps), .val (.int ds), .val (.int gs), .val (.double P), .second, .val (.double D), .second, .val (.double G), .second, .val (.ref a1), .unset, .unset, .unset] [(.int pp)])) _
        refine XS.istore X2.here hx rfl (hb hby at_48) rfl (l' := #[.val (.int pp), .val (.int dd), .val (.int gg), .val (.int ps), .val (.int ds), .val (.int gs), .val (.double P), .second, .val (.double D), .second, .val (.double G), .second, .val (.ref a1), .val (.int pp), .unset, .unset]) rfl ?_
        show Steps p.tables e below (T2.setTop (mkF m 50 #[.val (.int pp), .val (.int dd), .val (.int gg), .val (.int ps), .val (.int ds), .val (.int gs), .val (.double P), .second, .val (.double D), .second, .val (.double G), .second, .val (.ref a1), .val (.int pp), .unset, .unset] [])) _
        refine XS.iloadN X2.here hx rfl (hb hby at_50) rfl ?_
        show Steps p.tables e below (T2.setTop (mkF m 51 #[.val (.int pp), .val (.int dd), .val (.int gg), .val (.int ps), .val (.int ds), .val (.int gs), .val (.double P), .second, .val (.double D), .second, .val (.double G), .second, .val (.ref a1), .val (.int pp), .unset, .unset] [(.int dd)])) _
        refine XS.iload X2.here hx rfl (hb hby at_51) rfl ?_
        show Steps p.tables e below (T2.setTop (mkF m 53 #[.val (.int pp), .val (.int dd), .val (.int gg), .val (.int ps), .val (.int ds), .val (.int gs), .val (.double P), .second, .val (.double D), .second, .val (.double G), .second, .val (.ref a1), .val (.int pp), .unset, .unset] [(.int pp), (.int dd)])) _
        refine XS.icmpNo X2.here hx rfl (hb hby at_53) rfl ((Jvm.Own.holdsII _ _ _).trans (Jvm.Own.dF c1)) ?_
        show Steps p.tables e below (T2.setTop (mkF m 56 #[.val (.int pp), .val (.int dd), .val (.int gg), .val (.int ps), .val (.int ds), .val (.int gs), .val (.double P), .second, .val (.double D), .second, .val (.double G), .second, .val (.ref a1), .val (.int pp), .unset, .unset] [])) _
        refine XS.iloadN X2.here hx rfl (hb hby at_56) rfl ?_
        show Steps p.tables e below (T2.setTop (mkF m 57 #[.val (.int pp), .val (.int dd), .val (.int gg), .val (.int ps), .val (.int ds), .val (.int gs), .val (.double P), .second, .val (.double D), .second, .val (.double G), .second, .val (.ref a1), .val (.int pp), .unset, .unset] [(.int dd)])) _
        refine XS.istore X2.here hx rfl (hb hby at_57) rfl (l' := #[.val (.int pp), .val (.int dd), .val (.int gg), .val (.int ps), .val (.int ds), .val (.int gs), .val (.double P), .second, .val (.double D), .second, .val (.double G), .second, .val (.ref a1), .val (.int dd), .unset, .unset]) rfl ?_
        show Steps p.tables e below (T2.setTop (mkF m 59 #[.val (.int pp), .val (.int dd), .val (.int gg), .val (.int ps), .val (.int ds), .val (.int gs), .val (.double P), .second, .val (.double D), .second, .val (.double G), .second, .val (.ref a1), .val (.int dd), .unset, .unset] [])) _
        refine XS.iloadN X2.here hx rfl (hb hby at_59) rfl ?_
        show Steps p.tables e below (T2.setTop (mkF m 60 #[.val (.int pp), .val (.int dd), .val (.int gg), .val (.int ps), .val (.int ds), .val (.int gs), .val (.double P), .second, .val (.double D), .second, .val (.double G), .second, .val (.ref a1), .val (.int dd), .unset, .unset] [(.int gg)])) _
        refine XS.iload X2.here hx rfl (hb hby at_60) rfl ?_
        show Steps p.tables e below (T2.setTop (mkF m 62 #[.val (.int pp), .val (.int dd), .val (.int gg), .val (.int ps), .val (.int ds), .val (.int gs), .val (.double P), .second, .val (.double D), .second, .val (.double G), .second, .val (.ref a1), .val (.int dd), .unset, .unset] [(.int dd), (.int gg)])) _
        refine XS.icmpYes X2.here hx rfl (pc0 := 62) (pc' := 68) rfl (hb hby at_62) rfl ((Jvm.Own.holdsII _ _ _).trans (Jvm.Own.dT c2)) (by decide) (by decide) ?_
        show Steps p.tables e below (T2.setTop (mkF m 68 #[.val (.int pp), .val (.int dd), .val (.int gg), .val (.int ps), .val (.int ds), .val (.int gs), .val (.double P), .second, .val (.double D), .second, .val (.double G), .second, .val (.ref a1), .val (.int dd), .unset, .unset] [])) _
        refine XS.iload X2.here hx rfl (hb hby at_68) rfl ?_
        show Steps p.tables e below (T2.setTop (mkF m 70 #[.val (.int pp), .val (.int dd), .val (.int gg), .val (.int ps), .val (.int ds), .val (.int gs), .val (.double P), .second, .val (.double D), .second, .val (.double G), .second, .val (.ref a1), .val (.int dd), .unset, .unset] [(.int dd)])) _
        refine XS.i2dS X2.here hx rfl (hb hby at_70) rfl (v := FP.i2d dd) rfl ?_
        show Steps p.tables e below (T2.setTop (mkF m 71 #[.val (.int pp), .val (.int dd), .val (.int gg), .val (.int ps), .val (.int ds), .val (.int gs), .val (.double P), .second, .val (.double D), .second, .val (.double G), .second, .val (.ref a1), .val (.int dd), .unset, .unset] [(.double (FP.i2d dd))])) _
        refine X2.ldc2DoubleC hx hown (mvT hZ (hw _ (List.mem_of_getElem? (i := 0) rfl))) (g := (mkF m 71 #[.val (.int pp), .val (.int dd), .val (.int gg), .val (.int ps), .val (.int ds), .val (.int gs), .val (.double P), .second, .val (.double D), .second, .val (.double G), .second, .val (.ref a1), .val (.int dd), .unset, .unset] [(.double (FP.i2d dd))])) rfl (hb hby at_71) _ ?_
        show Steps p.tables e below (T2.setTop (mkF m 74 #[.val (.int pp), .val (.int dd), .val (.int gg), .val (.int ps), .val (.int ds), .val (.int gs), .val (.double P), .second, .val (.double D), .second, .val (.double G), .second, .val (.ref a1), .val (.int dd), .unset, .unset] [(.double (4611686018427387904 : UInt64)), (.double (FP.i2d dd))])) _
        refine XS.ddivS X2.here hx rfl (hb hby at_74) rfl nD (v := D) hD ?_
        show Steps p.tables e below (T2.setTop (mkF m 75 #[.val (.int pp), .val (.int dd), .val (.int gg), .val (.int ps), .val (.int ds), .val (.int gs), .val (.double P), .second, .val (.double D), .second, .val (.double G), .second, .val (.ref a1), .val (.int dd), .unset, .unset] [(.double D)])) _
        refine XS.dstore X2.here hx rfl (hb hby at_75) rfl (l' := #[.val (.int pp), .val (.int dd), .val (.int gg), .val (.int ps), .val (.int ds), .val (.int gs), .val (.double P), .second, .val (.double D), .second, .val (.double G), .second, .val (.ref a1), .val (.int dd), .val (.double D), .second]) rfl ?_
        show Steps p.tables e below (T2.setTop (mkF m 77 #[.val (.int pp), .val (.int dd), .val (.int gg), .val (.int ps), .val (.int ds), .val (.int gs), .val (.double P), .second, .val (.double D), .second, .val (.double G), .second, .val (.ref a1), .val (.int dd), .val (.double D), .second] [])) _
        refine XS.aload X2.here hx rfl (hb hby at_77) rfl rfl ?_
        show Steps p.tables e below (T2.setTop (mkF m 79 #[.val (.int pp), .val (.int dd), .val (.int gg), .val (.int ps), .val (.int ds), .val (.int gs), .val (.double P), .second, .val (.double D), .second, .val (.double G), .second, .val (.ref a1), .val (.int dd), .val (.double D), .second] [(.ref a1)])) _
        refine st3.trans ?_
        show Steps p.tables e below (T3.setTop (mkF m 82 #[.val (.int pp), .val (.int dd), .val (.int gg), .val (.int ps), .val (.int ds), .val (.int gs), .val (.double P), .second, .val (.double D), .second, .val (.double G), .second, .val (.ref a1), .val (.int dd), .val (.double D), .second] [(.double (Jvm.Native.java_lang_Math.nans.pick64 true P (Jvm.Native.java_lang_Math.nans.pick64 true D G)))])) _
        refine XS.dload X3.here hx rfl (hb hby at_82) rfl ?_
        show Steps p.tables e below (T3.setTop (mkF m 84 #[.val (.int pp), .val (.int dd), .val (.int gg), .val (.int ps), .val (.int ds), .val (.int gs), .val (.double P), .second, .val (.double D), .second, .val (.double G), .second, .val (.ref a1), .val (.int dd), .val (.double D), .second] [(.double D), (.double (Jvm.Native.java_lang_Math.nans.pick64 true P (Jvm.Native.java_lang_Math.nans.pick64 true D G)))])) _
        refine XS.dcmpS X3.here hx rfl (hb hby at_84) rfl (v := Jvm.Op.cmpValue (FP.dcmp (Jvm.Native.java_lang_Math.nans.pick64 true P (Jvm.Native.java_lang_Math.nans.pick64 true D G)) D) .l) rfl ?_
        show Steps p.tables e below (T3.setTop (mkF m 85 #[.val (.int pp), .val (.int dd), .val (.int gg), .val (.int ps), .val (.int ds), .val (.int gs), .val (.double P), .second, .val (.double D), .second, .val (.double G), .second, .val (.ref a1), .val (.int dd), .val (.double D), .second] [(.int (Jvm.Op.cmpValue (FP.dcmp (Jvm.Native.java_lang_Math.nans.pick64 true P (Jvm.Native.java_lang_Math.nans.pick64 true D G)) D) .l))])) _
        refine XS.ifNo X3.here hx rfl (hb hby at_85) rfl ((Jvm.Own.holdsD j1 fd _ _).trans (Jvm.Own.dF (by rw [fin]; exact fun q => q rfl))) ?_
        show Steps p.tables e below (T3.setTop (mkF m 88 #[.val (.int pp), .val (.int dd), .val (.int gg), .val (.int ps), .val (.int ds), .val (.int gs), .val (.double P), .second, .val (.double D), .second, .val (.double G), .second, .val (.ref a1), .val (.int dd), .val (.double D), .second] [])) _
        refine XS.iconst X3.here hx rfl (hb hby at_88) ?_
        show Steps p.tables e below (T3.setTop (mkF m 89 #[.val (.int pp), .val (.int dd), .val (.int gg), .val (.int ps), .val (.int ds), .val (.int gs), .val (.double P), .second, .val (.double D), .second, .val (.double G), .second, .val (.ref a1), .val (.int dd), .val (.double D), .second] [(.int (1 : Int32))])) _
        refine XS.goto X3.here hx rfl (pc0 := 89) (pc' := 93) rfl (hb hby at_89) (by decide) (by decide) ?_
        show Steps p.tables e below (T3.setTop (mkF m 93 #[.val (.int pp), .val (.int dd), .val (.int gg), .val (.int ps), .val (.int ds), .val (.int gs), .val (.double P), .second, .val (.double D), .second, .val (.double G), .second, .val (.ref a1), .val (.int dd), .val (.double D), .second] [(.int (1 : Int32))])) _
        exact retN X3 hx (t := .boolean) Bd.returns (by simp) (hb hby at_93) hr
      · show QL n0 _ T3.heap _
        exact ⟨rfl, Fr.app (Fr.app N0 N2) N3⟩
    · obtain ⟨T1, h1, X1, e1, E1, A1, D1, -, st1⟩ := newO X0 hx hZ hown (hw _ (List.mem_of_getElem? (i := 1) rfl)) (hw _ (List.mem_of_getElem? (i := 2) rfl)) (hw _ (List.mem_of_getElem? (i := 3) rfl)) e0 (g := (mkF m 24 #[.val (.int pp), .val (.int dd), .val (.int gg), .val (.int ps), .val (.int ds), .val (.int gs), .val (.double P), .second, .val (.double D), .second, .val (.double G), .second, .unset, .unset, .unset, .unset] [])) rfl (hb hby at_24) (by decide) (by decide)
      obtain ⟨a1, g1⟩ : ∃ z, z = h0.size := ⟨_, rfl⟩
      rw [← g1] at A1 D1 st1
      have D_0 := D1 (Or.inr (hw _ (List.mem_of_getElem? (i := 16) rfl))) (ty := .double) (by decide)
      have D_1 := D1 (Or.inr (hw _ (List.mem_of_getElem? (i := 18) rfl))) (ty := .double) (by decide)
      have D_2 := D1 (Or.inr (hw _ (List.mem_of_getElem? (i := 20) rfl))) (ty := .double) (by decide)
      have D_3 := D1 (Or.inr (hw _ (List.mem_of_getElem? (i := 22) rfl))) (ty := .double) (by decide)
      have D_4 := D1 (Or.inr (hw _ (List.mem_of_getElem? (i := 24) rfl))) (ty := .double) (by decide)
      have D_5 := D1 (Or.inr (hw _ (List.mem_of_getElem? (i := 26) rfl))) (ty := .double) (by decide)
      have Z1 : n0 ≤ h1.size := Nat.le_trans Z0 E1.1
      have ga : n0 ≤ a1 := Nat.le_trans Z0 (Nat.le_of_eq g1.symm)
      obtain ⟨_, _, ⟨T2, L2, k2, n2⟩, -, X2, ⟨Lc2, hQ2, l2, y2, z2⟩, st2⟩ := X1.specialBack hx (y := (⟨"com/example/surefoot/surefoot/QuadraticProgram$Residuals", "<init>", "(DDDDDD)V"⟩ : MethodName)) rfl hown (mvT hZ (hw _ (List.mem_of_getElem? (i := 4) rfl))) (mvT hZ (hw _ (List.mem_of_getElem? (i := 5) rfl))) (mvT hZ (hw _ (List.mem_of_getElem? (i := 6) rfl))) (by decide) (backOf (W := 1) (rmInit l Z a0 hw [] a1 P D G (FP.i2d ps) (FP.i2d ds) (FP.i2d gs) h1 n0 Z1 A1 ga D_0 D_1 D_2 D_3 D_4 D_5) hZ (hw _ (List.mem_of_getElem? (i := 6) rfl)) (hw _ (List.mem_of_getElem? (i := 3) rfl)) (by decide) (by decide)) (g := (mkF m 42 #[.val (.int pp), .val (.int dd), .val (.int gg), .val (.int ps), .val (.int ds), .val (.int gs), .val (.double P), .second, .val (.double D), .second, .val (.double G), .second, .unset, .unset, .unset, .unset] [(.double (FP.i2d gs)), (.double (FP.i2d ds)), (.double (FP.i2d ps)), (.double G), (.double D), (.double P), (.ref a1), (.ref a1)])) rfl (by rw [hml]; rfl) (Steps.refl _) (a := a1) (argsL := [(.double P), (.double D), (.double G), (.double (FP.i2d ps)), (.double (FP.i2d ds)), (.double (FP.i2d gs))]) (rest := [(.ref a1)]) (lenOf pd_2 rfl) rfl (by show 2 * 0 + _ ≤ _; exact Nat.le_of_eq rfl) (hb hby at_42) (fun _ _ => ⟨rfl, e1, (by decide : 1 + 0 ≤ _), (by decide : 6 + 0 ≤ _)⟩)
      dsimp only [Pt.U, Pt.locs, Pt.cells, Pt.slots] at X2 l2 y2 z2 st2 hQ2
      subst l2 y2 z2
      obtain ⟨rfl, N2, K2, E2, H0, H1, H2, H3, H4, H5⟩ := hQ2
      have Z2 : n0 ≤ T2.heap.size := Nat.le_trans Z1 K2.1
      obtain ⟨cq3, kq3, q3a, q3b, q3c⟩ := isOf hZ rfl E2
      obtain ⟨_, _, ⟨T3, L3, k3, n3⟩, -, X3, ⟨Lc3, hQ3, l3, y3, z3⟩, st3⟩ := X2.virtualBack hx (y := (⟨"com/example/surefoot/surefoot/QuadraticProgram$Residuals", "largest", "()D"⟩ : MethodName)) (z := (⟨"com/example/surefoot/surefoot/QuadraticProgram$Residuals", "largest", "()D"⟩ : MethodName)) hown (mvT hZ (hw _ (List.mem_of_getElem? (i := 27) rfl))) (mvT hZ (hw _ (List.mem_of_getElem? (i := 28) rfl))) (notFace_of_selects (args := #[]) (mvT hZ (hw _ (List.mem_of_getElem? (i := 30) rfl)))) (mvT hZ (hw _ (List.mem_of_getElem? (i := 30) rfl))) (mvT hZ (hw _ (List.mem_of_getElem? (i := 29) rfl))) (by decide) (backOf (W := 0) (rmLg l Z a0 hw [] a1 T2.heap n0 Z2 P D G fp fd fg H0 H1 H2) hZ (hw _ (List.mem_of_getElem? (i := 31) rfl)) (hw _ (List.mem_of_getElem? (i := 3) rfl)) (by decide) (by decide)) q3a q3c (g := (mkF m 79 #[.val (.int pp), .val (.int dd), .val (.int gg), .val (.int ps), .val (.int ds), .val (.int gs), .val (.double P), .second, .val (.double D), .second, .val (.double G), .second, .val (.ref a1), .val (.int gg), .val (.double G), .second] [(.ref a1)])) rfl (by rw [hml]; rfl) (Steps.refl _) (argsL := []) (rest := []) (lenOf pd_3 rfl) rfl (by show 2 * 0 + _ ≤ _; exact Nat.le_of_eq rfl) (hb hby at_79) (fun _ _ => ⟨rfl, rfl, (by decide : 1 + 0 ≤ _), (by decide : 6 + 0 ≤ _)⟩)
      dsimp only [Pt.U, Pt.locs, Pt.cells, Pt.slots] at X3 l3 y3 z3 st3 hQ3
      subst l3 y3 z3
      obtain ⟨rfl, N3, e3⟩ := hQ3
      have fin : Jvm.Own.z (Jvm.Native.java_lang_Math.nans.pick64 true P (Jvm.Native.java_lang_Math.nans.pick64 true D G)) = Jvm.Own.z G := by
        rcases Int.le_total dd.toInt gg.toInt with r1 | r1
        · have := k2 (by omega); rcases Int.le_total pp.toInt gg.toInt with r2 | r2
          · have := j2 (by omega); omega
          · have := j3 (by omega); omega
        · have := k3 (by omega); rcases Int.le_total pp.toInt dd.toInt with r2 | r2
          · have := j2 (by omega); omega
          · have := j3 (by omega); omega
      obtain ⟨fs, hr, hrun, hended, hW, hsame⟩ := X3.leave (v := some (.int (1 : Int32))) (fun h => by rw [Bd.returns] at h; cases h)
      refine ⟨_, _, pre0 _ ?_, hrun, hended, _, _, rfl, ?_, ⟨_, rfl⟩, hW, hsame.mono (by decide) (by decide)⟩
      · show Steps p.tables e below (s₁.setTop (mkF m 0 #[.val (.int pp), .val (.int dd), .val (.int gg), .val (.int ps), .val (.int ds), .val (.int gs), .unset, .unset, .unset, .unset, .unset, .unset, .unset, .unset, .unset, .unset] [])) _
        refine XS.iloadN X0.here hx rfl (hb hby at_0) rfl ?_
        show Steps p.tables e below (s₁.setTop (mkF m 1 #[.val (.int pp), .val (.int dd), .val (.int gg), .val (.int ps), .val (.int ds), .val (.int gs), .unset, .unset, .unset, .unset, .unset, .unset, .unset, .unset, .unset, .unset] [(.int pp)])) _
        refine XS.i2dS X0.here hx rfl (hb hby at_1) rfl (v := FP.i2d pp) rfl ?_
        show Steps p.tables e below (s₁.setTop (mkF m 2 #[.val (.int pp), .val (.int dd), .val (.int gg), .val (.int ps), .val (.int ds), .val (.int gs), .unset, .unset, .unset, .unset, .unset, .unset, .unset, .unset, .unset, .unset] [(.double (FP.i2d pp))])) _
        refine X0.ldc2DoubleC hx hown (mvT hZ (hw _ (List.mem_of_getElem? (i := 0) rfl))) (g := (mkF m 2 #[.val (.int pp), .val (.int dd), .val (.int gg), .val (.int ps), .val (.int ds), .val (.int gs), .unset, .unset, .unset, .unset, .unset, .unset, .unset, .unset, .unset, .unset] [(.double (FP.i2d pp))])) rfl (hb hby at_2) _ ?_
        show Steps p.tables e below (s₁.setTop (mkF m 5 #[.val (.int pp), .val (.int dd), .val (.int gg), .val (.int ps), .val (.int ds), .val (.int gs), .unset, .unset, .unset, .unset, .unset, .unset, .unset, .unset, .unset, .unset] [(.double (4611686018427387904 : UInt64)), (.double (FP.i2d pp))])) _
        refine XS.ddivS X0.here hx rfl (hb hby at_5) rfl nP (v := P) hP ?_
        show Steps p.tables e below (s₁.setTop (mkF m 6 #[.val (.int pp), .val (.int dd), .val (.int gg), .val (.int ps), .val (.int ds), .val (.int gs), .unset, .unset, .unset, .unset, .unset, .unset, .unset, .unset, .unset, .unset] [(.double P)])) _
        refine XS.dstore X0.here hx rfl (hb hby at_6) rfl (l' := #[.val (.int pp), .val (.int dd), .val (.int gg), .val (.int ps), .val (.int ds), .val (.int gs), .val (.double P), .second, .unset, .unset, .unset, .unset, .unset, .unset, .unset, .unset]) rfl ?_
        show Steps p.tables e below (s₁.setTop (mkF m 8 #[.val (.int pp), .val (.int dd), .val (.int gg), .val (.int ps), .val (.int ds), .val (.int gs), .val (.double P), .second, .unset, .unset, .unset, .unset, .unset, .unset, .unset, .unset] [])) _
        refine XS.iloadN X0.here hx rfl (hb hby at_8) rfl ?_
        show Steps p.tables e below (s₁.setTop (mkF m 9 #[.val (.int pp), .val (.int dd), .val (.int gg), .val (.int ps), .val (.int ds), .val (.int gs), .val (.double P), .second, .unset, .unset, .unset, .unset, .unset, .unset, .unset, .unset] [(.int dd)])) _
        refine XS.i2dS X0.here hx rfl (hb hby at_9) rfl (v := FP.i2d dd) rfl ?_
        show Steps p.tables e below (s₁.setTop (mkF m 10 #[.val (.int pp), .val (.int dd), .val (.int gg), .val (.int ps), .val (.int ds), .val (.int gs), .val (.double P), .second, .unset, .unset, .unset, .unset, .unset, .unset, .unset, .unset] [(.double (FP.i2d dd))])) _
        refine X0.ldc2DoubleC hx hown (mvT hZ (hw _ (List.mem_of_getElem? (i := 0) rfl))) (g := (mkF m 10 #[.val (.int pp), .val (.int dd), .val (.int gg), .val (.int ps), .val (.int ds), .val (.int gs), .val (.double P), .second, .unset, .unset, .unset, .unset, .unset, .unset, .unset, .unset] [(.double (FP.i2d dd))])) rfl (hb hby at_10) _ ?_
        show Steps p.tables e below (s₁.setTop (mkF m 13 #[.val (.int pp), .val (.int dd), .val (.int gg), .val (.int ps), .val (.int ds), .val (.int gs), .val (.double P), .second, .unset, .unset, .unset, .unset, .unset, .unset, .unset, .unset] [(.double (4611686018427387904 : UInt64)), (.double (FP.i2d dd))])) _
        refine XS.ddivS X0.here hx rfl (hb hby at_13) rfl nD (v := D) hD ?_
        show Steps p.tables e below (s₁.setTop (mkF m 14 #[.val (.int pp), .val (.int dd), .val (.int gg), .val (.int ps), .val (.int ds), .val (.int gs), .val (.double P), .second, .unset, .unset, .unset, .unset, .unset, .unset, .unset, .unset] [(.double D)])) _
        refine XS.dstore X0.here hx rfl (hb hby at_14) rfl (l' := #[.val (.int pp), .val (.int dd), .val (.int gg), .val (.int ps), .val (.int ds), .val (.int gs), .val (.double P), .second, .val (.double D), .second, .unset, .unset, .unset, .unset, .unset, .unset]) rfl ?_
        show Steps p.tables e below (s₁.setTop (mkF m 16 #[.val (.int pp), .val (.int dd), .val (.int gg), .val (.int ps), .val (.int ds), .val (.int gs), .val (.double P), .second, .val (.double D), .second, .unset, .unset, .unset, .unset, .unset, .unset] [])) _
        refine XS.iloadN X0.here hx rfl (hb hby at_16) rfl ?_
        show Steps p.tables e below (s₁.setTop (mkF m 17 #[.val (.int pp), .val (.int dd), .val (.int gg), .val (.int ps), .val (.int ds), .val (.int gs), .val (.double P), .second, .val (.double D), .second, .unset, .unset, .unset, .unset, .unset, .unset] [(.int gg)])) _
        refine XS.i2dS X0.here hx rfl (hb hby at_17) rfl (v := FP.i2d gg) rfl ?_
        show Steps p.tables e below (s₁.setTop (mkF m 18 #[.val (.int pp), .val (.int dd), .val (.int gg), .val (.int ps), .val (.int ds), .val (.int gs), .val (.double P), .second, .val (.double D), .second, .unset, .unset, .unset, .unset, .unset, .unset] [(.double (FP.i2d gg))])) _
        refine X0.ldc2DoubleC hx hown (mvT hZ (hw _ (List.mem_of_getElem? (i := 0) rfl))) (g := (mkF m 18 #[.val (.int pp), .val (.int dd), .val (.int gg), .val (.int ps), .val (.int ds), .val (.int gs), .val (.double P), .second, .val (.double D), .second, .unset, .unset, .unset, .unset, .unset, .unset] [(.double (FP.i2d gg))])) rfl (hb hby at_18) _ ?_
        show Steps p.tables e below (s₁.setTop (mkF m 21 #[.val (.int pp), .val (.int dd), .val (.int gg), .val (.int ps), .val (.int ds), .val (.int gs), .val (.double P), .second, .val (.double D), .second, .unset, .unset, .unset, .unset, .unset, .unset] [(.double (4611686018427387904 : UInt64)), (.double (FP.i2d gg))])) _
        refine XS.ddivS X0.here hx rfl (hb hby at_21) rfl nG (v := G) hG ?_
        show Steps p.tables e below (s₁.setTop (mkF m 22 #[.val (.int pp), .val (.int dd), .val (.int gg), .val (.int ps), .val (.int ds), .val (.int gs), .val (.double P), .second, .val (.double D), .second, .unset, .unset, .unset, .unset, .unset, .unset] [(.double G)])) _
        refine XS.dstore X0.here hx rfl (hb hby at_22) rfl (l' := #[.val (.int pp), .val (.int dd), .val (.int gg), .val (.int ps), .val (.int ds), .val (.int gs), .val (.double P), .second, .val (.double D), .second, .val (.double G), .second, .unset, .unset, .unset, .unset]) rfl ?_
        show Steps p.tables e below (s₁.setTop (mkF m 24 #[.val (.int pp), .val (.int dd), .val (.int gg), .val (.int ps), .val (.int ds), .val (.int gs), .val (.double P), .second, .val (.double D), .second, .val (.double G), .second, .unset, .unset, .unset, .unset] [])) _
        refine st1 _ ?_
        show Steps p.tables e below (T1.setTop (mkF m 27 #[.val (.int pp), .val (.int dd), .val (.int gg), .val (.int ps), .val (.int ds), .val (.int gs), .val (.double P), .second, .val (.double D), .second, .val (.double G), .second, .unset, .unset, .unset, .unset] [(.ref a1)])) _
        refine XS.dup X1.here hx rfl (hb hby at_27) rfl rfl ?_
        show Steps p.tables e below (T1.setTop (mkF m 28 #[.val (.int pp), .val (.int dd), .val (.int gg), .val (.int ps), .val (.int ds), .val (.int gs), .val (.double P), .second, .val (.double D), .second, .val (.double G), .second, .unset, .unset, .unset, .unset] [(.ref a1), (.ref a1)])) _
        refine XS.dload X1.here hx rfl (hb hby at_28) rfl ?_
        show Steps p.tables e below (T1.setTop (mkF m 30 #[.val (.int pp), .val (.int dd), .val (.int gg), .val (.int ps), .val (.int ds), .val (.int gs), .val (.double P), .second, .val (.double D), .second, .val (.double G), .second, .unset, .unset, .unset, .unset] [(.double P), (.ref a1), (.ref a1)])) _
        refine XS.dload X1.here hx rfl (hb hby at_30) rfl ?_
        show Steps p.tables e below (T1.setTop (mkF m 32 #[.val (.int pp), .val (.int dd), .val (.int gg), .val (.int ps), .val (.int ds), .val (.int gs), .val (.double P), .second, .val (.double D), .second, .val (.double G), .second, .unset, .unset, .unset, .unset] [(.double D), (.double P), (.ref a1), (.ref a1)])) _
        refine XS.dload X1.here hx rfl (hb hby at_32) rfl ?_
        show Steps p.tables e below (T1.setTop (mkF m 34 #[.val (.int pp), .val (.int dd), .val (.int gg), .val (.int ps), .val (.int ds), .val (.int gs), .val (.double P), .second, .val (.double D), .second, .val (.double G), .second, .unset, .unset, .unset, .unset] [(.double G), (.double D), (.double P), (.ref a1), (.ref a1)])) _
        refine XS.iloadN X1.here hx rfl (hb hby at_34) rfl ?_
        show Steps p.tables e below (T1.setTop (mkF m 35 #[.val (.int pp), .val (.int dd), .val (.int gg), .val (.int ps), .val (.int ds), .val (.int gs), .val (.double P), .second, .val (.double D), .second, .val (.double G), .second, .unset, .unset, .unset, .unset] [(.int ps), (.double G), (.double D), (.double P), (.ref a1), (.ref a1)])) _
        refine XS.i2dS X1.here hx rfl (hb hby at_35) rfl (v := FP.i2d ps) rfl ?_
        show Steps p.tables e below (T1.setTop (mkF m 36 #[.val (.int pp), .val (.int dd), .val (.int gg), .val (.int ps), .val (.int ds), .val (.int gs), .val (.double P), .second, .val (.double D), .second, .val (.double G), .second, .unset, .unset, .unset, .unset] [(.double (FP.i2d ps)), (.double G), (.double D), (.double P), (.ref a1), (.ref a1)])) _
        refine XS.iload X1.here hx rfl (hb hby at_36) rfl ?_
        show Steps p.tables e below (T1.setTop (mkF m 38 #[.val (.int pp), .val (.int dd), .val (.int gg), .val (.int ps), .val (.int ds), .val (.int gs), .val (.double P), .second, .val (.double D), .second, .val (.double G), .second, .unset, .unset, .unset, .unset] [(.int ds), (.double (FP.i2d ps)), (.double G), (.double D), (.double P), (.ref a1), (.ref a1)])) _
        refine XS.i2dS X1.here hx rfl (hb hby at_38) rfl (v := FP.i2d ds) rfl ?_
        show Steps p.tables e below (T1.setTop (mkF m 39 #[.val (.int pp), .val (.int dd), .val (.int gg), .val (.int ps), .val (.int ds), .val (.int gs), .val (.double P), .second, .val (.double D), .second, .val (.double G), .second, .unset, .unset, .unset, .unset] [(.double (FP.i2d ds)), (.double (FP.i2d ps)), (.double G), (.double D), (.double P), (.ref a1), (.ref a1)])) _
        refine XS.iload X1.here hx rfl (hb hby at_39) rfl ?_
        show Steps p.tables e below (T1.setTop (mkF m 41 #[.val (.int pp), .val (.int dd), .val (.int gg), .val (.int ps), .val (.int ds), .val (.int gs), .val (.double P), .second, .val (.double D), .second, .val (.double G), .second, .unset, .unset, .unset, .unset] [(.int gs), (.double (FP.i2d ds)), (.double (FP.i2d ps)), (.double G), (.double D), (.double P), (.ref a1), (.ref a1)])) _
        refine XS.i2dS X1.here hx rfl (hb hby at_41) rfl (v := FP.i2d gs) rfl ?_
        show Steps p.tables e below (T1.setTop (mkF m 42 #[.val (.int pp), .val (.int dd), .val (.int gg), .val (.int ps), .val (.int ds), .val (.int gs), .val (.double P), .second, .val (.double D), .second, .val (.double G), .second, .unset, .unset, .unset, .unset] [(.double (FP.i2d gs)), (.double (FP.i2d ds)), (.double (FP.i2d ps)), (.double G), (.double D), (.double P), (.ref a1), (.ref a1)])) _
        refine st2.trans ?_
        show Steps p.tables e below (T2.setTop (mkF m 45 #[.val (.int pp), .val (.int dd), .val (.int gg), .val (.int ps), .val (.int ds), .val (.int gs), .val (.double P), .second, .val (.double D), .second, .val (.double G), .second, .unset, .unset, .unset, .unset] [(.ref a1)])) _
        refine XS.astore X2.here hx rfl (hb hby at_45) rfl rfl (l' := #[.val (.int pp), .val (.int dd), .val (.int gg), .val (.int ps), .val (.int ds), .val (.int gs), .val (.double P), .second, .val (.double D), .second, .val (.double G), .second, .val (.ref a1), .unset, .unset, .unset]) rfl ?_
        show Steps p.tables e below (T2.setTop (mkF m 47 #[.val (.int pp), .val (.int dd), .val (.int gg), .val (.int ps), .val (.int ds), .val (.int gs), .val (.double P), .second, .val (.double D), .second, .val (.double G), .second, .val (.ref a1), .unset, .unset, .unset] [])) _
        refine XS.iloadN X2.here hx rfl (hb hby at_47) rfl ?_
        show Steps p.tables e below (T2.setTop (mkF m 48 #[.val (.int pp), .val (.int dd), .val (.int gg), .val (.int ps), .val (.int ds), .val (.int gs), .val (.double P), .second, .val (.double D), .second, .val (.double G), .second, .val (.ref a1), .unset, .unset, .unset] [(.int pp)])) _
        refine XS.istore X2.here hx rfl (hb hby at_48) rfl (l' := #[.val (.int pp), .val (.int dd), .val (.int gg), .val (.int ps), .val (.int ds), .val (.int gs), .val (.double P), .second, .val (.double D), .second, .val (.double G), .second, .val (.ref a1), .val (.int pp), .unset, .unset]) rfl ?_
        show Steps p.tables e below (T2.setTop (mkF m 50 #[.val (.int pp), .val (.int dd), .val (.int gg), .val (.int ps), .val (.int ds), .val (.int gs), .val (.double P), .second, .val (.double D), .second, .val (.double G), .second, .val (.ref a1), .val (.int pp), .unset, .unset] [])) _
        refine XS.iloadN X2.here hx rfl (hb hby at_50) rfl ?_
        show Steps p.tables e below (T2.setTop (mkF m 51 #[.val (.int pp), .val (.int dd), .val (.int gg), .val (.int ps), .val (.int ds), .val (.int gs), .val (.double P), .second, .val (.double D), .second, .val (.double G), .second, .val (.ref a1), .val (.int pp), .unset, .unset] [(.int dd)])) _
        refine XS.iload X2.here hx rfl (hb hby at_51) rfl ?_
        show Steps p.tables e below (T2.setTop (mkF m 53 #[.val (.int pp), .val (.int dd), .val (.int gg), .val (.int ps), .val (.int ds), .val (.int gs), .val (.double P), .second, .val (.double D), .second, .val (.double G), .second, .val (.ref a1), .val (.int pp), .unset, .unset] [(.int pp), (.int dd)])) _
        refine XS.icmpNo X2.here hx rfl (hb hby at_53) rfl ((Jvm.Own.holdsII _ _ _).trans (Jvm.Own.dF c1)) ?_
        show Steps p.tables e below (T2.setTop (mkF m 56 #[.val (.int pp), .val (.int dd), .val (.int gg), .val (.int ps), .val (.int ds), .val (.int gs), .val (.double P), .second, .val (.double D), .second, .val (.double G), .second, .val (.ref a1), .val (.int pp), .unset, .unset] [])) _
        refine XS.iloadN X2.here hx rfl (hb hby at_56) rfl ?_
        show Steps p.tables e below (T2.setTop (mkF m 57 #[.val (.int pp), .val (.int dd), .val (.int gg), .val (.int ps), .val (.int ds), .val (.int gs), .val (.double P), .second, .val (.double D), .second, .val (.double G), .second, .val (.ref a1), .val (.int pp), .unset, .unset] [(.int dd)])) _
        refine XS.istore X2.here hx rfl (hb hby at_57) rfl (l' := #[.val (.int pp), .val (.int dd), .val (.int gg), .val (.int ps), .val (.int ds), .val (.int gs), .val (.double P), .second, .val (.double D), .second, .val (.double G), .second, .val (.ref a1), .val (.int dd), .unset, .unset]) rfl ?_
        show Steps p.tables e below (T2.setTop (mkF m 59 #[.val (.int pp), .val (.int dd), .val (.int gg), .val (.int ps), .val (.int ds), .val (.int gs), .val (.double P), .second, .val (.double D), .second, .val (.double G), .second, .val (.ref a1), .val (.int dd), .unset, .unset] [])) _
        refine XS.iloadN X2.here hx rfl (hb hby at_59) rfl ?_
        show Steps p.tables e below (T2.setTop (mkF m 60 #[.val (.int pp), .val (.int dd), .val (.int gg), .val (.int ps), .val (.int ds), .val (.int gs), .val (.double P), .second, .val (.double D), .second, .val (.double G), .second, .val (.ref a1), .val (.int dd), .unset, .unset] [(.int gg)])) _
        refine XS.iload X2.here hx rfl (hb hby at_60) rfl ?_
        show Steps p.tables e below (T2.setTop (mkF m 62 #[.val (.int pp), .val (.int dd), .val (.int gg), .val (.int ps), .val (.int ds), .val (.int gs), .val (.double P), .second, .val (.double D), .second, .val (.double G), .second, .val (.ref a1), .val (.int dd), .unset, .unset] [(.int dd), (.int gg)])) _
        refine XS.icmpNo X2.here hx rfl (hb hby at_62) rfl ((Jvm.Own.holdsII _ _ _).trans (Jvm.Own.dF c2)) ?_
        show Steps p.tables e below (T2.setTop (mkF m 65 #[.val (.int pp), .val (.int dd), .val (.int gg), .val (.int ps), .val (.int ds), .val (.int gs), .val (.double P), .second, .val (.double D), .second, .val (.double G), .second, .val (.ref a1), .val (.int dd), .unset, .unset] [])) _
        refine XS.iloadN X2.here hx rfl (hb hby at_65) rfl ?_
        show Steps p.tables e below (T2.setTop (mkF m 66 #[.val (.int pp), .val (.int dd), .val (.int gg), .val (.int ps), .val (.int ds), .val (.int gs), .val (.double P), .second, .val (.double D), .second, .val (.double G), .second, .val (.ref a1), .val (.int dd), .unset, .unset] [(.int gg)])) _
        refine XS.istore X2.here hx rfl (hb hby at_66) rfl (l' := #[.val (.int pp), .val (.int dd), .val (.int gg), .val (.int ps), .val (.int ds), .val (.int gs), .val (.double P), .second, .val (.double D), .second, .val (.double G), .second, .val (.ref a1), .val (.int gg), .unset, .unset]) rfl ?_
        show Steps p.tables e below (T2.setTop (mkF m 68 #[.val (.int pp), .val (.int dd), .val (.int gg), .val (.int ps), .val (.int ds), .val (.int gs), .val (.double P), .second, .val (.double D), .second, .val (.double G), .second, .val (.ref a1), .val (.int gg), .unset, .unset] [])) _
        refine XS.iload X2.here hx rfl (hb hby at_68) rfl ?_
        show Steps p.tables e below (T2.setTop (mkF m 70 #[.val (.int pp), .val (.int dd), .val (.int gg), .val (.int ps), .val (.int ds), .val (.int gs), .val (.double P), .second, .val (.double D), .second, .val (.double G), .second, .val (.ref a1), .val (.int gg), .unset, .unset] [(.int gg)])) _
        refine XS.i2dS X2.here hx rfl (hb hby at_70) rfl (v := FP.i2d gg) rfl ?_
        show Steps p.tables e below (T2.setTop (mkF m 71 #[.val (.int pp), .val (.int dd), .val (.int gg), .val (.int ps), .val (.int ds), .val (.int gs), .val (.double P), .second, .val (.double D), .second, .val (.double G), .second, .val (.ref a1), .val (.int gg), .unset, .unset] [(.double (FP.i2d gg))])) _
        refine X2.ldc2DoubleC hx hown (mvT hZ (hw _ (List.mem_of_getElem? (i := 0) rfl))) (g := (mkF m 71 #[.val (.int pp), .val (.int dd), .val (.int gg), .val (.int ps), .val (.int ds), .val (.int gs), .val (.double P), .second, .val (.double D), .second, .val (.double G), .second, .val (.ref a1), .val (.int gg), .unset, .unset] [(.double (FP.i2d gg))])) rfl (hb hby at_71) _ ?_
        show Steps p.tables e below (T2.setTop (mkF m 74 #[.val (.int pp), .val (.int dd), .val (.int gg), .val (.int ps), .val (.int ds), .val (.int gs), .val (.double P), .second, .val (.double D), .second, .val (.double G), .second, .val (.ref a1), .val (.int gg), .unset, .unset] [(.double (4611686018427387904 : UInt64)), (.double (FP.i2d gg))])) _
        refine XS.ddivS X2.here hx rfl (hb hby at_74) rfl nG (v := G) hG ?_
        show Steps p.tables e below (T2.setTop (mkF m 75 #[.val (.int pp), .val (.int dd), .val (.int gg), .val (.int ps), .val (.int ds), .val (.int gs), .val (.double P), .second, .val (.double D), .second, .val (.double G), .second, .val (.ref a1), .val (.int gg), .unset, .unset] [(.double G)])) _
        refine XS.dstore X2.here hx rfl (hb hby at_75) rfl (l' := #[.val (.int pp), .val (.int dd), .val (.int gg), .val (.int ps), .val (.int ds), .val (.int gs), .val (.double P), .second, .val (.double D), .second, .val (.double G), .second, .val (.ref a1), .val (.int gg), .val (.double G), .second]) rfl ?_
        show Steps p.tables e below (T2.setTop (mkF m 77 #[.val (.int pp), .val (.int dd), .val (.int gg), .val (.int ps), .val (.int ds), .val (.int gs), .val (.double P), .second, .val (.double D), .second, .val (.double G), .second, .val (.ref a1), .val (.int gg), .val (.double G), .second] [])) _
        refine XS.aload X2.here hx rfl (hb hby at_77) rfl rfl ?_
        show Steps p.tables e below (T2.setTop (mkF m 79 #[.val (.int pp), .val (.int dd), .val (.int gg), .val (.int ps), .val (.int ds), .val (.int gs), .val (.double P), .second, .val (.double D), .second, .val (.double G), .second, .val (.ref a1), .val (.int gg), .val (.double G), .second] [(.ref a1)])) _
        refine st3.trans ?_
        show Steps p.tables e below (T3.setTop (mkF m 82 #[.val (.int pp), .val (.int dd), .val (.int gg), .val (.int ps), .val (.int ds), .val (.int gs), .val (.double P), .second, .val (.double D), .second, .val (.double G), .second, .val (.ref a1), .val (.int gg), .val (.double G), .second] [(.double (Jvm.Native.java_lang_Math.nans.pick64 true P (Jvm.Native.java_lang_Math.nans.pick64 true D G)))])) _
        refine XS.dload X3.here hx rfl (hb hby at_82) rfl ?_
        show Steps p.tables e below (T3.setTop (mkF m 84 #[.val (.int pp), .val (.int dd), .val (.int gg), .val (.int ps), .val (.int ds), .val (.int gs), .val (.double P), .second, .val (.double D), .second, .val (.double G), .second, .val (.ref a1), .val (.int gg), .val (.double G), .second] [(.double G), (.double (Jvm.Native.java_lang_Math.nans.pick64 true P (Jvm.Native.java_lang_Math.nans.pick64 true D G)))])) _
        refine XS.dcmpS X3.here hx rfl (hb hby at_84) rfl (v := Jvm.Op.cmpValue (FP.dcmp (Jvm.Native.java_lang_Math.nans.pick64 true P (Jvm.Native.java_lang_Math.nans.pick64 true D G)) G) .l) rfl ?_
        show Steps p.tables e below (T3.setTop (mkF m 85 #[.val (.int pp), .val (.int dd), .val (.int gg), .val (.int ps), .val (.int ds), .val (.int gs), .val (.double P), .second, .val (.double D), .second, .val (.double G), .second, .val (.ref a1), .val (.int gg), .val (.double G), .second] [(.int (Jvm.Op.cmpValue (FP.dcmp (Jvm.Native.java_lang_Math.nans.pick64 true P (Jvm.Native.java_lang_Math.nans.pick64 true D G)) G) .l))])) _
        refine XS.ifNo X3.here hx rfl (hb hby at_85) rfl ((Jvm.Own.holdsD j1 fg _ _).trans (Jvm.Own.dF (by rw [fin]; exact fun q => q rfl))) ?_
        show Steps p.tables e below (T3.setTop (mkF m 88 #[.val (.int pp), .val (.int dd), .val (.int gg), .val (.int ps), .val (.int ds), .val (.int gs), .val (.double P), .second, .val (.double D), .second, .val (.double G), .second, .val (.ref a1), .val (.int gg), .val (.double G), .second] [])) _
        refine XS.iconst X3.here hx rfl (hb hby at_88) ?_
        show Steps p.tables e below (T3.setTop (mkF m 89 #[.val (.int pp), .val (.int dd), .val (.int gg), .val (.int ps), .val (.int ds), .val (.int gs), .val (.double P), .second, .val (.double D), .second, .val (.double G), .second, .val (.ref a1), .val (.int gg), .val (.double G), .second] [(.int (1 : Int32))])) _
        refine XS.goto X3.here hx rfl (pc0 := 89) (pc' := 93) rfl (hb hby at_89) (by decide) (by decide) ?_
        show Steps p.tables e below (T3.setTop (mkF m 93 #[.val (.int pp), .val (.int dd), .val (.int gg), .val (.int ps), .val (.int ds), .val (.int gs), .val (.double P), .second, .val (.double D), .second, .val (.double G), .second, .val (.ref a1), .val (.int gg), .val (.double G), .second] [(.int (1 : Int32))])) _
        exact retN X3 hx (t := .boolean) Bd.returns (by simp) (hb hby at_93) hr
      · show QL n0 _ T3.heap _
        exact ⟨rfl, Fr.app (Fr.app N0 N2) N3⟩
set_option maxRecDepth 65536 in
set_option maxHeartbeats 40000000 in
theorem comes_1 {Post : Tables → Env → Array Value → State → Outcome → State → Prop} (hpost : ∀ tb e args s v u, (limb_1_1.after args s (.returned v) u = true ∧ limb_1_2.after args s (.returned v) u = true ∧ True) → FrameEnd s (.returned v) u (Jvm.fieldLocs frame_1_writes args s ++ Jvm.arrayLocs frame_1_arrays args s ++ Jvm.staticLocs frame_1_statics s) 16 128 → Post tb e args s (.returned v) u) :
    ArmFor flags0 classFile x code maxLocals ret World_1 tables_1 room_1 Calls_1 rest_1 Pre_1 Post := by
  intro l hfl _ _ p e ha hc hk s m args below hf hA hF happ hP
  obtain ⟨hcalls, hrest, hpre⟩ := hP
  obtain ⟨-, -, -, hnamed, -, -, -, hat⟩ := (Spec.applies_iff hf).mp happ
  obtain ⟨hg, hn⟩ := and_e (Cond.before_iff.mp (show (Jvm.Cond.and given_1 narrow_1).before args s = true from hpre))
  obtain ⟨hcnt, g0⟩ := and_e hg
  obtain ⟨a0, g1⟩ := and_e g0
  obtain ⟨a1, g2⟩ := and_e g1
  obtain ⟨a2, g3⟩ := and_e g2
  obtain ⟨a3, g4⟩ := and_e g3
  obtain ⟨a4, g5⟩ := and_e g4
  obtain ⟨w0, w1, w2, w3, w4, w5, rfl⟩ : ∃ w0 w1 w2 w3 w4 w5 : Value, args = #[w0, w1, w2, w3, w4, w5] := by
    have hs : args.size = 6 := by simpa [Cond.value, given_1] using hcnt
    obtain ⟨L⟩ := args
    match L, hs with
    | [w0, w1, w2, w3, w4, w5], _ => exact ⟨w0, w1, w2, w3, w4, w5, rfl⟩
  have hw := fun d (hd : d ∈ tables_1) => atoms_spec (ws := Jvm.Cond.code x code maxLocals ret :: tables_1) hat d (List.mem_cons_of_mem _ hd)
  have hfit : Fit s := fun {y c} hc i hi => by
    obtain ⟨ha, rfl⟩ := Array.getElem?_eq_some_iff.mp hc
    have q := List.all_eq_true.mp ((Array.all_eq_true_iff_forall_mem.mp hF) _ (Array.getElem_mem ha)) i (List.mem_range.mpr hi)
    simpa [Array.getElem?_eq_getElem hi] using q
  obtain ⟨v0, e0⟩ := is_v a0
  obtain rfl : w0 = (.int v0) := Option.some.inj e0
  obtain ⟨v1, e1⟩ := is_v a1
  obtain rfl : w1 = (.int v1) := Option.some.inj e1
  obtain ⟨v2, e2⟩ := is_v a2
  obtain rfl : w2 = (.int v2) := Option.some.inj e2
  obtain ⟨v3, e3⟩ := is_v a3
  obtain rfl : w3 = (.int v3) := Option.some.inj e3
  obtain ⟨v4, e4⟩ := is_v a4
  obtain rfl : w4 = (.int v4) := Option.some.inj e4
  obtain ⟨v5, e5⟩ := is_v g5
  obtain rfl : w5 = (.int v5) := Option.some.inj e5
  obtain ⟨n, o, h1, h2, h3, _, L, rfl, ⟨rfl, N⟩, hq⟩ := rm0 l s _ hw tables_1 v0 v1 v2 v3 v4 v5 s.heap s.heap.size (Nat.le_refl _)  p e ha hc hk s m _ below hf ((Spec.applies_iff_loose hf).mp happ).1 ⟨rfl, State.Warmed39.refl s, rfl⟩ trivial
  refine ⟨n, _, h1, h2, h3, hpost _ _ _ _ _ _ ⟨Cond.after_iff.mpr rfl, Cond.after_iff.mpr (eq_i res_at (Term.int_eval (1)) rfl), trivial⟩ ⟨hq.1, hq.2.1, (hq.2.2.sift fun y hy => Or.inr (N y hy)).mono (by decide) (by decide)⟩⟩
theorem main_1_1 : Claimed_1_1 := comes_1 fun _ _ _ _ _ _ h hF => ⟨h.1, hF⟩
theorem main_1_2 : Claimed_1_2 := comes_1 fun _ _ _ _ _ _ h hF => ⟨h.2.1, hF⟩
end Jvm.Pilot.@@N@@
namespace Jvm.Pilot.@@N@@
open Jvm Jvm.ClassFile Sem Op Lib Jvm.Free Jvm.Stand Jvm.Pilot.@@N@@.Jvm.D
/-! MADE BY PROGRAM (witnessworld.py) out of the Statement's table words and the real class files: 11 classes; the members and pool entries that the words name. The judged class is class 1, her method 1. -/
namespace start1
open Jvm.ClassFile
def u (s : String) : CpInfo := .utf8 (stringToUtf16 s)
/-- a pool by its gaps: so many unusable entries, then the entry; so many at the end -/
def gap : Nat → List CpInfo → List CpInfo
  | 0, r => r
  | n + 1, r => .unusable :: gap n r
def poolList (es : List (Nat × CpInfo)) (last : Nat) : List CpInfo := es.foldr (fun e r => gap e.1 (e.2 :: r)) (gap last [])
def pool (es : List (Nat × CpInfo)) (last : Nat) : Array CpInfo := ⟨poolList es last⟩
def fileOf (pool : Array CpInfo) (this : Nat) (attrs : Array Attribute := #[]) (ms : Array MethodInfo := #[]) (fl : Nat := 33) (sup : Nat := 0) (ifs : Array Nat := #[]) (fds : Array FieldInfo := #[]) : ClassFile where
  minorVersion := 0
  majorVersion := 65
  constantPool := pool
  accessFlags := fl
  thisClass := this
  superClass := sup
  interfaces := ifs
  fields := fds
  methods := ms
  attributes := attrs
def plain (name : String) (sup : Option ClassId) : Class where
  name := name
  kind := .ordinary
  loader := none
  accessFlags := 33
  super := sup
  interfaces := #[]
  cf := none
  fields := #[]
  methods := #[]
  instanceTypes := #[]
  staticTypes := #[]
  resolved := #[]
  callSites := []
  init := .initialized
  statics := none
  mirror := none

def pool0 : Array CpInfo := pool [(5, u "<init>"), (0, u "()V"), (1, .class_ 10), (1, u "java/lang/Object")] 113

def k0c0 : Code := { maxStack := 0, maxLocals := 1, code := object_method_1_code, exceptionTable := #[], attributes := #[] }
def k0m0 : Method := { name := "<init>", desc := "()V", sig := { parameters := [], returnType := none }, accessFlags := 1, code := some k0c0 }
/-- java/lang/Object -/
def k0 : Class := { plain "java/lang/Object" none with
  accessFlags := 33
  interfaces := #[]
  cf := some (fileOf pool0 8 #[] #[{ accessFlags := 1, nameIndex := 5, descriptorIndex := 6, attributes := #[] }] 33 0 #[] #[])
  fields := #[]
  methods := #[k0m0]
  instanceTypes := #[]
  staticTypes := #[]
  resolved := Array.replicate 124 none
  statics := none }

def pool1 : Array CpInfo := pool [(2, .class_ 4), (1, u "java/lang/Object"), (0, u "<init>"), (0, u "()V"), (0, .double 4611686018427387904), (1, .class_ 10), (0, u "com/example/surefoot/surefoot/QuadraticProgram$Residuals"), (0, .methodref 9 12), (0, .nameAndType 5 13), (0, u "(DDDDDD)V"), (0, .methodref 9 15), (0, .nameAndType 16 17), (0, u "largest"), (0, u "()D"), (0, .class_ 19), (0, u "com/example/surefoot/surefoot/ResidualsLargestPinLaw"), (2, u "law"), (0, u "(IIIIII)Z")] 7

def k1m0 : Method := { name := "<init>", desc := "()V", sig := { parameters := [], returnType := none }, accessFlags := 1, code := none }
def k1c1 : Code := { maxStack := 14, maxLocals := 16, code := code, exceptionTable := #[], attributes := #[] }
def k1m1 : Method := { name := "law", desc := "(IIIIII)Z", sig := { parameters := [.int, .int, .int, .int, .int, .int], returnType := some .boolean }, accessFlags := 9, code := some k1c1 }
/-- com/example/surefoot/surefoot/ResidualsLargestPinLaw -/
def k1 : Class := { plain "com/example/surefoot/surefoot/ResidualsLargestPinLaw" (some 0) with
  accessFlags := 49
  interfaces := #[]
  cf := some (fileOf pool1 18 #[] #[{ accessFlags := 1, nameIndex := 5, descriptorIndex := 6, attributes := #[] }, { accessFlags := 9, nameIndex := 22, descriptorIndex := 23, attributes := #[] }] 49 2 #[] #[])
  fields := #[]
  methods := #[k1m0, k1m1]
  instanceTypes := #[]
  staticTypes := #[]
  resolved := Array.replicate 31 none
  statics := none }

def pool2 : Array CpInfo := pool [(1, .methodref 2 3), (0, .class_ 4), (0, .nameAndType 5 6), (0, u "java/lang/Object"), (0, u "<init>"), (0, u "()V"), (0, .class_ 8), (0, u "java/lang/Record")] 13

def k2c0 : Code := { maxStack := 1, maxLocals := 1, code := jdk_30_method_1_code, exceptionTable := #[], attributes := #[] }
def k2m0 : Method := { name := "<init>", desc := "()V", sig := { parameters := [], returnType := none }, accessFlags := 4, code := some k2c0 }
/-- java/lang/Record -/
def k2 : Class := { plain "java/lang/Record" (some 0) with
  accessFlags := 1057
  interfaces := #[]
  cf := some (fileOf pool2 7 #[] #[{ accessFlags := 4, nameIndex := 5, descriptorIndex := 6, attributes := #[] }] 1057 2 #[] #[])
  fields := #[]
  methods := #[k2m0]
  instanceTypes := #[]
  staticTypes := #[]
  resolved := Array.replicate 22 none
  statics := none }

def pool3 : Array CpInfo := pool [(1, .methodref 2 3), (0, .class_ 4), (0, .nameAndType 5 6), (0, u "java/lang/Record"), (0, u "<init>"), (0, u "()V"), (0, .fieldref 8 9), (0, .class_ 10), (0, .nameAndType 11 12), (0, u "com/example/surefoot/surefoot/QuadraticProgram$Residuals"), (0, u "primal"), (0, u "D"), (0, .fieldref 8 14), (0, .nameAndType 15 12), (0, u "dual"), (0, .fieldref 8 17), (0, .nameAndType 18 12), (0, u "gap"), (0, .fieldref 8 20), (0, .nameAndType 21 12), (0, u "primalScale"), (0, .fieldref 8 23), (0, .nameAndType 24 12), (0, u "dualScale"), (0, .fieldref 8 26), (0, .nameAndType 27 12), (0, u "gapScale"), (0, .methodref 29 30), (0, .class_ 31), (0, .nameAndType 32 33), (0, u "java/lang/Math"), (0, u "max"), (0, u "(DD)D"), (24, u "(DDDDDD)V"), (3, u "largest"), (0, u "()D"), (11, .class_ 76), (0, u "com/example/surefoot/surefoot/QuadraticProgram")] 34

def k3c0 : Code := { maxStack := 3, maxLocals := 13, code := prog_17_method_1_code, exceptionTable := #[], attributes := #[] }
def k3m0 : Method := { name := "<init>", desc := "(DDDDDD)V", sig := { parameters := [.double, .double, .double, .double, .double, .double], returnType := none }, accessFlags := 0, code := some k3c0 }
def k3c1 : Code := { maxStack := 6, maxLocals := 1, code := prog_17_method_2_code, exceptionTable := #[], attributes := #[] }
def k3m1 : Method := { name := "largest", desc := "()D", sig := { parameters := [], returnType := some .double }, accessFlags := 0, code := some k3c1 }
/-- com/example/surefoot/surefoot/QuadraticProgram$Residuals -/
def k3 : Class := { plain "com/example/surefoot/surefoot/QuadraticProgram$Residuals" (some 2) with
  accessFlags := 48
  interfaces := #[]
  cf := some (fileOf pool3 8 #[.nestHost 75] #[{ accessFlags := 0, nameIndex := 5, descriptorIndex := 58, attributes := #[] }, { accessFlags := 0, nameIndex := 62, descriptorIndex := 63, attributes := #[] }] 48 2 #[] #[{ accessFlags := 18, nameIndex := 11, descriptorIndex := 12, attributes := #[] }, { accessFlags := 18, nameIndex := 15, descriptorIndex := 12, attributes := #[] }, { accessFlags := 18, nameIndex := 18, descriptorIndex := 12, attributes := #[] }, { accessFlags := 18, nameIndex := 21, descriptorIndex := 12, attributes := #[] }, { accessFlags := 18, nameIndex := 24, descriptorIndex := 12, attributes := #[] }, { accessFlags := 18, nameIndex := 27, descriptorIndex := 12, attributes := #[] }])
  fields := #[{ name := "primal", type := .double, accessFlags := 18, slot := 0, constantValue := 0 }, { name := "dual", type := .double, accessFlags := 18, slot := 1, constantValue := 0 }, { name := "gap", type := .double, accessFlags := 18, slot := 2, constantValue := 0 }, { name := "primalScale", type := .double, accessFlags := 18, slot := 3, constantValue := 0 }, { name := "dualScale", type := .double, accessFlags := 18, slot := 4, constantValue := 0 }, { name := "gapScale", type := .double, accessFlags := 18, slot := 5, constantValue := 0 }]
  methods := #[k3m0, k3m1]
  instanceTypes := #[.double, .double, .double, .double, .double, .double]
  staticTypes := #[]
  resolved := Array.replicate 111 none
  statics := none }

def pool4 : Array CpInfo := pool [(1, .class_ 2), (0, u "java/lang/Math"), (1, .class_ 6), (1, u "java/lang/Object"), (0, u "<init>"), (0, u "()V"), (43, u "(DD)D"), (45, .class_ 100), (1, u "java/lang/Math$RandomNumberGeneratorHolder"), (71, u "negativeZeroFloatBits"), (0, u "J"), (2, u "negativeZeroDoubleBits"), (21, u "max"), (46, u "$assertionsDisabled"), (0, u "Z"), (91, u "twoToTheDoubleScaleDown"), (0, u "D"), (4, u "twoToTheDoubleScaleUp"), (9, u "E"), (3, u "PI"), (2, u "TAU"), (2, u "DEGREES_TO_RADIANS"), (0, u "RADIANS_TO_DEGREES")] 94

def k4m0 : Method := { name := "<init>", desc := "()V", sig := { parameters := [], returnType := none }, accessFlags := 2, code := none }
def k4c1 : Code := { maxStack := 4, maxLocals := 4, code := jdk_29_method_68_code, exceptionTable := #[], attributes := #[] }
def k4m1 : Method := { name := "max", desc := "(DD)D", sig := { parameters := [.double, .double], returnType := some .double }, accessFlags := 9, code := some k4c1 }
/-- java/lang/Math -/
def k4 : Class := { plain "java/lang/Math" (some 0) with
  accessFlags := 49
  interfaces := #[]
  cf := some (fileOf pool4 1 #[.nestMembers #[98]] #[{ accessFlags := 2, nameIndex := 7, descriptorIndex := 8, attributes := #[] }, { accessFlags := 9, nameIndex := 198, descriptorIndex := 52, attributes := #[] }] 49 4 #[] #[{ accessFlags := 25, nameIndex := 354, descriptorIndex := 339, attributes := #[] }, { accessFlags := 25, nameIndex := 358, descriptorIndex := 339, attributes := #[] }, { accessFlags := 25, nameIndex := 361, descriptorIndex := 339, attributes := #[] }, { accessFlags := 26, nameIndex := 364, descriptorIndex := 339, attributes := #[] }, { accessFlags := 26, nameIndex := 365, descriptorIndex := 339, attributes := #[] }, { accessFlags := 26, nameIndex := 172, descriptorIndex := 173, attributes := #[] }, { accessFlags := 26, nameIndex := 176, descriptorIndex := 173, attributes := #[] }, { accessFlags := 8, nameIndex := 344, descriptorIndex := 339, attributes := #[] }, { accessFlags := 8, nameIndex := 338, descriptorIndex := 339, attributes := #[] }, { accessFlags := 4120, nameIndex := 245, descriptorIndex := 246, attributes := #[] }])
  fields := #[{ name := "E", type := .double, accessFlags := 25, slot := 0, constantValue := 0 }, { name := "PI", type := .double, accessFlags := 25, slot := 1, constantValue := 0 }, { name := "TAU", type := .double, accessFlags := 25, slot := 2, constantValue := 0 }, { name := "DEGREES_TO_RADIANS", type := .double, accessFlags := 26, slot := 3, constantValue := 0 }, { name := "RADIANS_TO_DEGREES", type := .double, accessFlags := 26, slot := 4, constantValue := 0 }, { name := "negativeZeroFloatBits", type := .long, accessFlags := 26, slot := 5, constantValue := 0 }, { name := "negativeZeroDoubleBits", type := .long, accessFlags := 26, slot := 6, constantValue := 0 }, { name := "twoToTheDoubleScaleUp", type := .double, accessFlags := 8, slot := 7, constantValue := 0 }, { name := "twoToTheDoubleScaleDown", type := .double, accessFlags := 8, slot := 8, constantValue := 0 }, { name := "$assertionsDisabled", type := .boolean, accessFlags := 4120, slot := 9, constantValue := 0 }]
  methods := #[k4m0, k4m1]
  instanceTypes := #[]
  staticTypes := #[.double, .double, .double, .double, .double, .long, .long, .double, .double, .boolean]
  resolved := Array.replicate 460 none
  statics := none }

def pool5 : Array CpInfo := pool [(1, u "java/lang/Cloneable"), (0, .class_ 1), (0, u "java/lang/Object"), (0, .class_ 3)] 3

/-- java/lang/Cloneable -/
def k5 : Class := { plain "java/lang/Cloneable" (some 0) with
  accessFlags := 1537
  interfaces := #[]
  cf := some (fileOf pool5 2 #[] #[] 1537 4 #[] #[])
  fields := #[]
  methods := #[]
  instanceTypes := #[]
  staticTypes := #[]
  resolved := Array.replicate 8 none
  statics := none }

def pool6 : Array CpInfo := pool [(1, u "java/io/Serializable"), (0, .class_ 1), (0, u "java/lang/Object"), (0, .class_ 3)] 3

/-- java/io/Serializable -/
def k6 : Class := { plain "java/io/Serializable" (some 0) with
  accessFlags := 1537
  interfaces := #[]
  cf := some (fileOf pool6 2 #[] #[] 1537 4 #[] #[])
  fields := #[]
  methods := #[]
  instanceTypes := #[]
  staticTypes := #[]
  resolved := Array.replicate 8 none
  statics := none }

/-- the primitive byte -/
def k7 : Class := { plain "byte" none with kind := .primitive 'B', accessFlags := 0x411 }
/-- [B -/
def k8 : Class := { plain "[B" (some 0) with kind := .array 7 .byte, interfaces := #[5, 6], accessFlags := 1041 }

/-- the primitive int -/
def k9 : Class := { plain "int" none with kind := .primitive 'I', accessFlags := 0x411 }
/-- [I -/
def k10 : Class := { plain "[I" (some 0) with kind := .array 9 .int, interfaces := #[5, 6], accessFlags := 1041 }

def heap : Heap := #[]
def classes : Array Class := #[k0, k1, k2, k3, k4, k5, k6, k7, k8, k9, k10]
def interned : List (Array UInt16 × Addr) := []
def slotsUsed : Nat := 0
def theMethod : MethodId := ⟨1, 1⟩
def args0 : Array Value := #[.int 5, .int 3, .int 0, .int 1, .int 2, .int 3]
def aboutOver (below : List Frame) : State where
  vm := { classes := classes, interned := interned.toArray }
  heap := heap
  slotsUsed := slotsUsed
  threads := #[{ frames := .invoking theMethod args0 :: below }]
def below0 : List Frame := [.native { method := ⟨0, 0⟩, args := #[] }]
def about1 : State := aboutOver below0
def p0 : Program := .bare "" "" ""
def e0 : Env := launch0.env 0 0 0
theorem w_frames : about1.frames = Frame.invoking theMethod args0 :: below0 := rfl
set_option maxRecDepth 65536 in
theorem w_args : argsFit about1.vm theMethod args0 = true := by decide +kernel
set_option maxRecDepth 65536 in
theorem w_heap : heapFits about1 = true := by decide +kernel
set_option maxRecDepth 65536 in
theorem w_runnable : about1.curStatus? = some .runnable := by decide +kernel
set_option maxRecDepth 65536 in
theorem w_alone : about1.alone = true := by decide +kernel
set_option maxRecDepth 65536 in
theorem w_named : about1.methodNamed? x = some theMethod := by decide +kernel
set_option maxRecDepth 65536 in
theorem w_hears : about1.hears theMethod below0 = true := by decide +kernel
set_option maxRecDepth 65536 in
theorem w_ripe : about1.ripe theMethod args0 below0 = true := by decide +kernel
theorem w_running : about1.status = .running := rfl
set_option maxRecDepth 65536 in
theorem w_room : about1.hasRoom e0.platform room_1 = true :=
  launch0.hasRoom_least _ room_1 (by decide +kernel) (by decide +kernel) (by decide +kernel) (by decide +kernel) (by decide +kernel) (by decide +kernel)
theorem allAtoms_all (ts : List Jvm.Cond) (a : Array Jvm.Value) (st : Jvm.State) : (allAtoms ts).before a st = ts.all (fun c => c.before a st) := by
  induction ts with
  | nil => rfl
  | cons c t ih =>
    show (Jvm.Cond.and c (allAtoms t)).before a st = _
    rw [Jvm.Cond.before_and, ih, List.all_cons]
def words1 : List Jvm.Cond := Jvm.Cond.code x code maxLocals ret :: tables_1
/-- a 'code' word, met by the world's own term for the bytes: nothing is compared byte by byte -/
theorem code_word {y : MethodName} {bytes : ByteArray} {mx : Nat} {rt : Option FieldType} {a : Array Value} {s : State} {m : MethodId} {meth : Method} {c : Code} (h1 : s.methodNamed? y = some m) (h2 : s.vm.method? m = some meth) (h3 : meth.code = some c) (h4 : c.code = bytes)
    (h5 : (c.maxLocals == mx && c.exceptionTable.isEmpty && decide (c.maxStack ≤ mostOperands) && decide (meth.sig.returnType = rt) && !meth.locks && decide (parseMethodDescriptor y.desc = some meth.sig)) = true) : (Jvm.Cond.code y bytes mx rt).before a s = true := by
  simp only [Bool.and_eq_true, beq_iff_eq, Bool.not_eq_true', decide_eq_true_eq] at h5
  obtain ⟨⟨⟨⟨⟨g1, g2⟩, g3⟩, g4⟩, g5⟩, g6⟩ := h5
  simp [Cond.before, Cond.holds, Cond.value, h1, h2, h3, h4, g1, g2, g3, g4, g5, g6]
def isCode : Jvm.Cond → Bool
  | .code _ _ _ _ => true
  | _ => false
theorem all_split {L : List Jvm.Cond} {P : Jvm.Cond → Bool} (h1 : L.all (fun c => isCode c || P c) = true) (h2 : ∀ c ∈ L.filter isCode, P c = true) : L.all P = true := by
  refine List.all_eq_true.mpr fun c hc => ?_
  have h := List.all_eq_true.mp h1 c hc
  rcases Bool.eq_false_or_eq_true (isCode c) with hi | hi
  · exact h2 c (List.mem_filter.mpr ⟨hc, hi⟩)
  · simpa [hi] using h
set_option maxRecDepth 65536 in
theorem w_c0 : (Jvm.Cond.code x code maxLocals ret).before args0 about1 = true := code_word (m := ⟨1, 1⟩) (meth := k1m1) (c := k1c1) (by decide +kernel) rfl rfl rfl (by decide +kernel)
set_option maxRecDepth 65536 in
theorem w_c1 : (Jvm.Cond.code ({ cls := "com/example/surefoot/surefoot/QuadraticProgram$Residuals", name := "<init>", desc := "(DDDDDD)V" } : Jvm.MethodName) prog_17_method_1_code (13 : Nat) (Option.none : Option Jvm.ClassFile.FieldType)).before args0 about1 = true := code_word (m := ⟨3, 0⟩) (meth := k3m0) (c := k3c0) (by decide +kernel) rfl rfl rfl (by decide +kernel)
set_option maxRecDepth 65536 in
theorem w_c2 : (Jvm.Cond.code ({ cls := "java/lang/Record", name := "<init>", desc := "()V" } : Jvm.MethodName) jdk_30_method_1_code (1 : Nat) (Option.none : Option Jvm.ClassFile.FieldType)).before args0 about1 = true := code_word (m := ⟨2, 0⟩) (meth := k2m0) (c := k2c0) (by decide +kernel) rfl rfl rfl (by decide +kernel)
set_option maxRecDepth 65536 in
theorem w_c3 : (Jvm.Cond.code ({ cls := "java/lang/Object", name := "<init>", desc := "()V" } : Jvm.MethodName) object_method_1_code (1 : Nat) (Option.none : Option Jvm.ClassFile.FieldType)).before args0 about1 = true := code_word (m := ⟨0, 0⟩) (meth := k0m0) (c := k0c0) (by decide +kernel) rfl rfl rfl (by decide +kernel)
set_option maxRecDepth 65536 in
theorem w_c4 : (Jvm.Cond.code ({ cls := "com/example/surefoot/surefoot/QuadraticProgram$Residuals", name := "largest", desc := "()D" } : Jvm.MethodName) prog_17_method_2_code (1 : Nat) (Option.some Jvm.ClassFile.FieldType.double)).before args0 about1 = true := code_word (m := ⟨3, 1⟩) (meth := k3m1) (c := k3c1) (by decide +kernel) rfl rfl rfl (by decide +kernel)
set_option maxRecDepth 65536 in
theorem w_c5 : (Jvm.Cond.code ({ cls := "java/lang/Math", name := "max", desc := "(DD)D" } : Jvm.MethodName) jdk_29_method_68_code (4 : Nat) (Option.some Jvm.ClassFile.FieldType.double)).before args0 about1 = true := code_word (m := ⟨4, 1⟩) (meth := k4m1) (c := k4c1) (by decide +kernel) rfl rfl rfl (by decide +kernel)
def codes1 : List Jvm.Cond := [Jvm.Cond.code x code maxLocals ret, Jvm.Cond.code ({ cls := "com/example/surefoot/surefoot/QuadraticProgram$Residuals", name := "<init>", desc := "(DDDDDD)V" } : Jvm.MethodName) prog_17_method_1_code (13 : Nat) (Option.none : Option Jvm.ClassFile.FieldType), Jvm.Cond.code ({ cls := "java/lang/Record", name := "<init>", desc := "()V" } : Jvm.MethodName) jdk_30_method_1_code (1 : Nat) (Option.none : Option Jvm.ClassFile.FieldType), Jvm.Cond.code ({ cls := "java/lang/Object", name := "<init>", desc := "()V" } : Jvm.MethodName) object_method_1_code (1 : Nat) (Option.none : Option Jvm.ClassFile.FieldType), Jvm.Cond.code ({ cls := "com/example/surefoot/surefoot/QuadraticProgram$Residuals", name := "largest", desc := "()D" } : Jvm.MethodName) prog_17_method_2_code (1 : Nat) (Option.some Jvm.ClassFile.FieldType.double), Jvm.Cond.code ({ cls := "java/lang/Math", name := "max", desc := "(DD)D" } : Jvm.MethodName) jdk_29_method_68_code (4 : Nat) (Option.some Jvm.ClassFile.FieldType.double)]
set_option maxRecDepth 65536 in
theorem codes_eq : words1.filter isCode = codes1 := rfl
theorem w_codes : ∀ c ∈ words1.filter isCode, c.before args0 about1 = true := by
  rw [codes_eq]
  intro c hc
  simp only [codes1, List.mem_cons, List.not_mem_nil, or_false] at hc
  rcases hc with rfl | rfl | rfl | rfl | rfl | rfl
  · exact w_c0
  · exact w_c1
  · exact w_c2
  · exact w_c3
  · exact w_c4
  · exact w_c5
set_option maxRecDepth 65536 in
theorem w_t1 : (words1.take 24).all (fun c => isCode c || c.before args0 about1) = true := by decide +kernel
set_option maxRecDepth 65536 in
theorem w_t2 : (words1.drop 24).all (fun c => isCode c || c.before args0 about1) = true := by decide +kernel
theorem w_tables : (allAtoms (Jvm.Cond.code x code maxLocals ret :: tables_1)).before args0 about1 = true := by
  rw [allAtoms_all]
  show words1.all (fun c => c.before args0 about1) = true
  refine all_split ?_ w_codes
  rw [← List.take_append_drop 24 words1, List.all_append, w_t1, w_t2]
  rfl
set_option maxRecDepth 65536 in
theorem w_case : (Jvm.Cond.and given_1 narrow_1).before args0 about1 = true := by decide +kernel
theorem w_applies : (headSpec (Jvm.Cond.code x code maxLocals ret :: tables_1) room_1).applies x e0.platform about1 = true :=
  (Spec.applies_iff w_frames).mpr ⟨w_running, w_runnable, w_alone, w_named, w_hears, w_ripe, w_room, w_tables⟩
theorem atStart : AtStart classFile x code maxLocals ret World_1 tables_1 room_1 Calls_1 rest_1 Pre_1 launch0 p0 e0 about1 theMethod args0 below0 :=
  ⟨lists_1, trivial, launch0.admits_env _ _ _, launch0.least_env, fairChoices_fair.cas, fairChoices_fair.clock, w_frames, w_args, w_heap, w_applies, trivial, trivial, w_case⟩
end start1
theorem witness_1 : WitnessClaimed_1 := ⟨start1.p0, start1.e0, start1.about1, start1.theMethod, start1.args0, start1.below0, start1.atStart⟩
end Jvm.Pilot.@@N@@

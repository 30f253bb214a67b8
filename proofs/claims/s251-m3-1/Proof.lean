import JvmDerived
import JvmDerived.Pilot.@@N@@Statement
import JvmDerived.Pilot.@@N@@Code
set_option linter.unusedVariables false
set_option linter.unusedSimpArgs false
namespace Jvm.RoadKit
open Sem ClassFile Op Lib Jvm.Stand Jvm.Free Jvm.LawKit
section New
variable {p : Program} {l : Launch} {e : Env} {R : Room} {s : State} {m : MethodId} {args : Array Value} {below : List Frame} {meth : Method} {c : Code} {T : State} {locs : List Loc} {cells slots : Nat}
theorem retI (X : Stand p l e R s m args below meth c T locs cells slots) (hx : p.tables.exec = Jvm.exec) {pc : Nat} {Ls : Array Slot} {z : Int32} {rest : List Value} (hret : meth.sig.returnType = some .int) (hd : decode c.code pc = .ok (.ireturn, 1)) {fs : List Frame}
    (hl : ∀ (f : JFrame) (acts : List Action), f.method = m → f.locked = none → f.entered = [] → (doReturn e (T.setTop f) acts (some (.int z))).1 = T.setFrames fs) : Steps p.tables e below (T.setTop (mkF m pc Ls (.int z :: rest))) (T.setFrames fs) := by
  have hm' : T.vm.method? m = some meth := X.method'
  have hn : narrow .int (.int z) = .int z := rfl
  show Steps p.tables e below (T.setTop { method := m, pc := pc, locals := Ls, stack := _ :: rest, locked := none }) _
  jvm_step X.here [X.here.top, hx, hd, hm', hret, hn]
  first | (intro acts; rw [hl _ acts rfl rfl rfl]) | rw [hl _ _ rfl rfl rfl]
  exact Steps.refl _
end New
end Jvm.RoadKit
namespace Jvm.Pilot.@@N@@
open Jvm Jvm.ClassFile Sem Op Lib Jvm.Free Jvm.Stand Jvm.LawKit Jvm.RoadKit Bundle Jvm.Pilot.@@N@@.Jvm.D
section Fl
open Jvm.FP.Core
theorem own_c : val64 (13765875559246349101 : UInt64) = .fin true 7378697629483821 (-67) := by decide +kernel
theorem own_czval : zval b64 (val64 (13765875559246349101 : UInt64)) = -((7378697629483821 * 2 ^ 1007 : Nat) : Int) := by decide +kernel
theorem own_p1 : 7378697629483821 * 2 ^ 1007 ≤ 2 ^ 52 * 2 ^ 1008 := by
  rw [Nat.pow_succ 2 1007]
  generalize 2 ^ 1007 = P
  omega
theorem own_p2 : 2 ^ 53 * 2 ^ 1006 < 7378697629483821 * 2 ^ 1007 := by
  rw [Nat.pow_succ 2 1006]
  have h := Nat.two_pow_pos 1006
  generalize 2 ^ 1006 = P at h
  omega
/-- a rounded ratio, in units of the least number -/
theorem own_mag (s : Bool) {A B : Nat} (hA : 0 < A) (hB : 0 < B) (hq : quantum b64 A B 0 ≤ 900) : zval b64 (roundRatio b64 s A B 0) = signed s (nearest (unitsNum A 0 (quantum b64 A B 0)) (unitsDen B 0 (quantum b64 A B 0)) * 2 ^ (quantum b64 A B 0 - b64.qmin).toNat) ∧ roundRatio b64 s A B 0 ≠ .nan := by
  have h1 := nearest_units_le (f := b64) hA hB 0
  have h2 := quantum_ge b64 A B 0
  unfold roundRatio roundAt
  rw [if_neg (by omega)]
  generalize quantum b64 A B 0 = q at *
  generalize nearest (unitsNum A 0 q) (unitsDen B 0 q) = N at *
  have hm : b64.qmax = 971 := by decide
  have hn : b64.qmin = -1074 := by decide
  have hp : b64.p = 53 := rfl
  unfold settle bound
  by_cases h : N < 2 ^ b64.p
  · rw [if_pos h, if_pos (by omega)]
    exact ⟨rfl, by simp⟩
  · rw [if_neg h, if_pos (by omega)]
    refine ⟨?_, by simp⟩
    have e : N = 2 ^ 53 := by rw [hp] at h h1; omega
    show signed s (b64.tails * 2 ^ (q + 1 - b64.qmin).toNat) = _
    have e2 : (q + 1 - b64.qmin).toNat = (q - b64.qmin).toNat + 1 := by omega
    have e3 : ∀ P : Nat, 2 ^ 52 * (P * 2) = 2 ^ 53 * P := fun P => by omega
    rw [e2, e, show b64.tails = 2 ^ 52 from rfl, Nat.pow_succ 2 (q - b64.qmin).toNat, e3]
theorem own_up {A B : Nat} (hA : 0 < A) (hB : 0 < B) (h : B ≤ A * 20000) (hq : quantum b64 A B 0 ≤ 900) : 7378697629483821 * 2 ^ 1007 ≤ nearest (unitsNum A 0 (quantum b64 A B 0)) (unitsDen B 0 (quantum b64 A B 0)) * 2 ^ (quantum b64 A B 0 - b64.qmin).toNat := by
  have hn : b64.qmin = -1074 := by decide
  have hp : ((b64.p : Nat) : Int) = 53 := rfl
  have nb : ¬ Below A B (-15) := by
    show ¬ A * 2 ^ 15 < B * 2 ^ 0
    omega
  have hb := quantum_below (f := b64) hA hB 0
  have hnb := quantum_not_below (f := b64) hA hB 0
  have hlt := lt_of_below nb hb
  rw [hp] at hlt hnb
  rw [hn] at hnb ⊢
  generalize quantum b64 A B 0 = q at *
  by_cases e : q = -67
  · subst e
    have hs := (nearest_spec (unitsNum A 0 (-67)) (unitsDen B 0 (-67)) (unitsDen_pos hB ..)).1
    have e1 : unitsNum A 0 (-67) = A * 147573952589676412928 := rfl
    have e2 : unitsDen B 0 (-67) = B := Nat.mul_one B
    rw [e1, e2] at hs ⊢
    generalize nearest (A * 147573952589676412928) B = N at *
    have hN : 7378697629483821 ≤ N := by
      refine Nat.le_of_not_lt fun hl => ?_
      have h3 : (2 * N + 1) * B ≤ 14757395258967641 * B := Nat.mul_le_mul_right _ (by omega)
      omega
    rw [show ((-67 : Int) - (-1074)).toNat = 1007 by decide]
    exact Nat.mul_le_mul_right _ hN
  · have hnb := hnb.resolve_left (by omega)
    rw [show (53 : Int) - 1 = ((52 : Nat) : Int) by rfl, ← units_below] at hnb
    have hN : 2 ^ 52 ≤ nearest (unitsNum A 0 q) (unitsDen B 0 q) := nearest_ge (unitsDen_pos hB ..) (by omega)
    obtain ⟨k, hk⟩ : ∃ k, (q - (-1074)).toNat = 1008 + k := ⟨(q - (-1074)).toNat - 1008, by omega⟩
    rw [hk]
    calc 7378697629483821 * 2 ^ 1007 ≤ 2 ^ 52 * 2 ^ 1008 := own_p1
      _ ≤ 2 ^ 52 * 2 ^ (1008 + k) := Nat.mul_le_mul_left _ (Nat.pow_le_pow_right (by decide) (by omega))
      _ ≤ _ := Nat.mul_le_mul_right _ hN
theorem own_down {A B : Nat} (hA : 0 < A) (hB : 0 < B) (hB2 : B ≤ 1000000000) (h : A * 20000 + 20000 ≤ B) : nearest (unitsNum A 0 (quantum b64 A B 0)) (unitsDen B 0 (quantum b64 A B 0)) * 2 ^ (quantum b64 A B 0 - b64.qmin).toNat < 7378697629483821 * 2 ^ 1007 := by
  have hn : b64.qmin = -1074 := by decide
  have hp : ((b64.p : Nat) : Int) = 53 := rfl
  have bl : Below A B (-14) := by
    show A * 2 ^ 14 < B * 2 ^ 0
    omega
  have hnb := quantum_not_below (f := b64) hA hB 0
  have hle := nearest_units_le (f := b64) hA hB 0
  rw [hp] at hnb
  rw [hn] at hnb ⊢
  generalize quantum b64 A B 0 = q at *
  have hq : q ≤ -67 := by
    rcases hnb with e | e
    · omega
    · have := lt_of_below e bl
      omega
  by_cases e : q = -67
  · subst e
    have hs := (nearest_spec (unitsNum A 0 (-67)) (unitsDen B 0 (-67)) (unitsDen_pos hB ..)).2.1
    have e1 : unitsNum A 0 (-67) = A * 147573952589676412928 := rfl
    have e2 : unitsDen B 0 (-67) = B := Nat.mul_one B
    rw [e1, e2] at hs ⊢
    generalize nearest (A * 147573952589676412928) B = N at *
    have hN : N < 7378697629483821 := by
      refine Nat.lt_of_not_le fun hl => ?_
      have h3 : 2 * 7378697629483821 * B ≤ 2 * N * B := Nat.mul_le_mul_right _ (by omega)
      omega
    rw [show ((-67 : Int) - (-1074)).toNat = 1007 by decide]
    exact Nat.mul_lt_mul_of_pos_right hN (Nat.two_pow_pos _)
  · generalize nearest (unitsNum A 0 q) (unitsDen B 0 q) = N at *
    have hk : (q - (-1074)).toNat ≤ 1006 := by omega
    calc N * 2 ^ (q - (-1074)).toNat ≤ 2 ^ 53 * 2 ^ 1006 := Nat.mul_le_mul hle (Nat.pow_le_pow_right (by decide) hk)
      _ < _ := own_p2
/-- an int, divided by a whole double, is the rounded ratio -/
theorem own_div (n : Int32) (b : UInt64) (D d ρ : Nat) (hb : val64 b = .fin false d (-(ρ : Int))) (hd : d = D * 2 ^ ρ) (hD : 0 < D) : val64 (ddiv (i2d n) b) = roundRatio b64 (decide (n.toInt < 0)) n.toInt.natAbs D 0 := by
  obtain ⟨c, q, hc⟩ := l2d_shape n.toInt64
  have hw := l2d_whole (a := n.toInt64) (by unfold Small53; rw [Int32.toInt_toInt64]; have := n.le_toInt; have := n.toInt_lt; omega)
  rw [hc] at hw
  rw [Int32.toInt_toInt64] at hc hw
  have hw : signed (decide (n.toInt < 0)) (c * 2 ^ q.toNat) = n.toInt * ((2 ^ (-q).toNat : Nat) : Int) := hw
  have hw2 : c * 2 ^ q.toNat = n.toInt.natAbs * 2 ^ (-q).toNat := by
    have := congrArg Int.natAbs hw
    rw [natAbs_signed, Int.natAbs_mul, Int.natAbs_natCast] at this
    exact this
  have hdp : 0 < d := by rw [hd]; exact Nat.mul_pos hD (Nat.two_pow_pos _)
  rw [val64_ddiv, i2d_l2d, hc, hb]
  show (if d = 0 then _ else roundRatio b64 (decide (n.toInt < 0) != false) c d (q - -(ρ : Int))) = _
  rw [if_neg (by omega), show (decide (n.toInt < 0) != false) = decide (n.toInt < 0) by cases decide (n.toInt < 0) <;> rfl]
  refine roundRatio_congr hdp hD ?_
  rw [hd]
  generalize n.toInt.natAbs = m at *
  have key : ∀ (x y z w : Nat), x + z = y + w → True := fun _ _ _ _ _ => trivial
  by_cases hq : 0 ≤ q
  · have e1 : (-q).toNat = 0 := by omega
    have e2 : (q - -(ρ : Int) - 0).toNat = q.toNat + ρ := by omega
    have e3 : (0 - (q - -(ρ : Int))).toNat = 0 := by omega
    rw [e1, Nat.pow_zero, Nat.mul_one] at hw2
    rw [e2, e3, Nat.pow_add, Nat.pow_zero, Nat.mul_one, ← hw2]
    ac_rfl
  · have e1 : q.toNat = 0 := by omega
    rw [e1, Nat.pow_zero, Nat.mul_one] at hw2
    have e2 : (-q).toNat + (q - -(ρ : Int) - 0).toNat = ρ + (0 - (q - -(ρ : Int))).toNat := by omega
    rw [hw2]
    have e3 : 2 ^ (-q).toNat * 2 ^ (q - -(ρ : Int) - 0).toNat = 2 ^ ρ * 2 ^ (0 - (q - -(ρ : Int))).toNat := by rw [← Nat.pow_add, ← Nat.pow_add, e2]
    calc m * 2 ^ (-q).toNat * D * 2 ^ (q - -(ρ : Int) - 0).toNat = m * D * (2 ^ (-q).toNat * 2 ^ (q - -(ρ : Int) - 0).toNat) := by ac_rfl
      _ = m * D * (2 ^ ρ * 2 ^ (0 - (q - -(ρ : Int))).toNat) := by rw [e3]
      _ = m * (D * 2 ^ ρ) * 2 ^ (0 - (q - -(ρ : Int))).toNat := by ac_rfl
theorem own_q {A B : Nat} (hA : 0 < A) (hB : 0 < B) (h : A < 4294967296) : quantum b64 A B 0 ≤ 900 := by
  have hn : b64.qmin = -1074 := by decide
  have hp : ((b64.p : Nat) : Int) = 53 := rfl
  have bl : Below A B 32 := by
    show A * 2 ^ 0 < B * 2 ^ 32
    omega
  rcases quantum_not_below (f := b64) hA hB 0 with e | e
  · omega
  · have := lt_of_below e bl
    rw [hp] at this
    omega
def own_neg (a : UInt64) : Int32 := if 0 < cmpValue (FP.dcmp a (13765875559246349101 : UInt64)) .g then 0 else 1
theorem own_cmp (a : UInt64) (h : val64 a ≠ .nan) : own_neg a = if zval b64 (val64 a) ≤ -((7378697629483821 * 2 ^ 1007 : Nat) : Int) then 1 else 0 := by
  unfold own_neg
  have e : FP.dcmp a (13765875559246349101 : UInt64) = some (compare (zval b64 (val64 a)) (-((7378697629483821 * 2 ^ 1007 : Nat) : Int))) := by
    rw [← own_czval]; exact dcmp_zval h (by rw [own_c]; simp)
  rw [e]
  generalize zval b64 (val64 a) = u
  generalize -((7378697629483821 * 2 ^ 1007 : Nat) : Int) = v
  rcases Int.lt_trichotomy u v with hc | hc | hc
  · rw [Int.compare_eq_lt.mpr hc]
    show (1 : Int32) = if u ≤ v then 1 else 0
    rw [if_pos (by omega)]
  · rw [Int.compare_eq_eq.mpr hc]
    show (1 : Int32) = if u ≤ v then 1 else 0
    rw [if_pos (by omega)]
  · rw [Int.compare_eq_gt.mpr hc]
    show (0 : Int32) = if u ≤ v then 1 else 0
    rw [if_neg (by omega)]
theorem own_ratio (n : Int32) (b : UInt64) (D d ρ : Nat) (hb : val64 b = .fin false d (-(ρ : Int))) (hd : d = D * 2 ^ ρ) (hD : 0 < D) (hD2 : D ≤ 1000000000) (t : Nat) (ht : D = 20000 * t) : own_neg (ddiv (i2d n) b) = (if n.toInt ≤ -(t : Int) then 1 else 0) ∧ val64 (ddiv (i2d n) b) ≠ .nan := by
  have hv := own_div n b D d ρ hb hd hD
  have hr := n.le_toInt
  have hr2 := n.toInt_lt
  have hpos : (0 : Int) < ((7378697629483821 * 2 ^ 1007 : Nat) : Int) := Int.natCast_pos.mpr (Nat.mul_pos (by decide) (Nat.two_pow_pos _))
  by_cases h0 : n.toInt = 0
  · have e : val64 (ddiv (i2d n) b) = .fin false 0 b64.qmin := by rw [hv, h0]; rfl
    have hnn : val64 (ddiv (i2d n) b) ≠ .nan := by rw [e]; simp
    refine ⟨?_, hnn⟩
    rw [own_cmp _ hnn, e]
    have : zval b64 (.fin false 0 b64.qmin) = 0 := by decide
    rw [this, if_neg (by omega), if_neg (by omega)]
  · have hA : 0 < n.toInt.natAbs := by omega
    have hq := own_q hA hD (by omega)
    obtain ⟨m1, m2⟩ := own_mag (decide (n.toInt < 0)) hA hD hq
    have hnn : val64 (ddiv (i2d n) b) ≠ .nan := by rw [hv]; exact m2
    refine ⟨?_, hnn⟩
    rw [own_cmp _ hnn, hv, m1]
    by_cases hneg : n.toInt < 0
    · rw [decide_eq_true hneg]
      show (if -((_ : Nat) : Int) ≤ _ then (1 : Int32) else 0) = _
      by_cases ht2 : n.toInt ≤ -(t : Int)
      · have := own_up hA hD (by omega) hq
        rw [if_pos ht2, if_pos (Int.neg_le_neg (Int.ofNat_le.mpr this))]
      · have := own_down hA hD hD2 (by omega)
        rw [if_neg ht2, if_neg (by have := Int.ofNat_lt.mpr this; omega)]
    · rw [decide_eq_false hneg]
      show (if ((_ : Nat) : Int) ≤ _ then (1 : Int32) else 0) = _
      rw [if_neg (by omega), if_neg]
      generalize nearest _ _ * _ = N
      omega
theorem own_whole (n : Int32) : own_neg (i2d n) = if n.toInt < 0 then 1 else 0 := by
  have hd := i2d_int n
  have hnn := DInt_ne_nan hd
  rw [own_cmp _ hnn, DInt_zval hd]
  have h1 : ((one64 : Nat) : Int) = ((147573952589676412928 * 2 ^ 1007 : Nat) : Int) := by decide +kernel
  rw [h1, Int.natCast_mul, Int.natCast_mul]
  have hp : (0 : Int) < ((2 ^ 1007 : Nat) : Int) := Int.natCast_pos.mpr (Nat.two_pow_pos _)
  generalize ((2 ^ 1007 : Nat) : Int) = P at hp
  generalize n.toInt = u
  by_cases h : u < 0
  · rw [if_pos h, if_pos]
    have : u * (147573952589676412928 * P) ≤ (-1) * (147573952589676412928 * P) := Int.mul_le_mul_of_nonneg_right (by omega) (by omega)
    show u * (147573952589676412928 * P) ≤ -(7378697629483821 * P)
    omega
  · rw [if_neg h, if_neg]
    have : 0 ≤ u * (147573952589676412928 * P) := Int.mul_nonneg (by omega) (by omega)
    show ¬ u * (147573952589676412928 * P) ≤ -(7378697629483821 * P)
    omega
theorem own_nanos (n : Int32) : own_neg (ddiv (i2d n) (4741671816366391296 : UInt64)) = (if n.toInt ≤ -50000 then 1 else 0) ∧ val64 (ddiv (i2d n) (4741671816366391296 : UInt64)) ≠ .nan :=
  own_ratio n _ 1000000000 (1000000000 * 2 ^ 23) 23 (by decide +kernel) rfl (by decide) (by decide) 50000 rfl
theorem own_micros (n : Int32) : own_neg (ddiv (i2d n) (4696837146684686336 : UInt64)) = (if n.toInt ≤ -50 then 1 else 0) ∧ val64 (ddiv (i2d n) (4696837146684686336 : UInt64)) ≠ .nan :=
  own_ratio n _ 1000000 (1000000 * 2 ^ 33) 33 (by decide +kernel) rfl (by decide) (by decide) 50 rfl
end Fl
theorem own_nn {a : UInt64} (h : Jvm.FP.Core.val64 a ≠ .nan) : Jvm.Free.Fl.NoNaN64 a := Jvm.Free.Fl.noNaN64_no.mpr (decide_eq_false h)
theorem own_w (n v : Int32) (h : (n < (0 : Int32) ∧ v = (1 : Int32)) ∨ (¬ (n < (0 : Int32)) ∧ v = (0 : Int32))) : own_neg (FP.i2d n) = v := by
  rw [own_whole n]
  have e : (0 : Int32).toInt = 0 := by decide
  rcases h with ⟨h1, h2⟩ | ⟨h1, h2⟩ <;> rw [Int32.lt_iff_toInt_lt, e] at h1
  · rw [h2, if_pos h1]
  · rw [h2, if_neg h1]
theorem own_t (n v k : Int32) (t : Int) (hk : k.toInt = -t) (w : Int32) (hw : w = if n.toInt ≤ -t then 1 else 0) (h : (k < n ∧ v = (0 : Int32)) ∨ (¬ (k < n) ∧ v = (1 : Int32))) : w = v := by
  rw [hw]
  rcases h with ⟨h1, h2⟩ | ⟨h1, h2⟩ <;> rw [Int32.lt_iff_toInt_lt, hk] at h1
  · rw [h2, if_neg (by omega)]
  · rw [h2, if_pos (by omega)]
theorem d1_0 : decode prog_51_method_6_code 0 = .ok (.dload_n 0, 1) := by decide +kernel
theorem d1_1 : decode prog_51_method_6_code 1 = .ok (.ldc2_w 65, 3) := by decide +kernel
theorem d1_4 : decode prog_51_method_6_code 4 = .ok (.dcmp .g, 1) := by decide +kernel
theorem d1_5 : decode prog_51_method_6_code 5 = .ok (.ifCond .gt 7, 3) := by decide +kernel
theorem d1_12 : decode prog_51_method_6_code 12 = .ok (.iconst 0, 1) := by decide +kernel
theorem d1_13 : decode prog_51_method_6_code 13 = .ok (.ireturn, 1) := by decide +kernel
theorem pn_0 : plainName "com/example/slotwright/slotwright/model/Precision" = true := by first | (simp [plainName, overriddenIn]; done) | decide +kernel
theorem ef_1 (m : MethodId) (x0 : UInt64) : entryFrame m #[(.double x0)] 2 = mkF m 0 #[.val (.double x0), .second] [] := by first | (simp [entryFrame, mkF, argsToLocals, Value.category]; done) | rfl
def Qrm1 (Z : State) (a : UInt64) (h0 : Heap) (n0 : Nat) (v : Option Value) (h : Heap) (L : List Loc) : Prop := v = some (.int (own_neg a)) ∧ Fr n0 L ∧ h = h0
set_option maxRecDepth 65536 in
set_option maxHeartbeats 40000000 in
theorem rm1t (l : Launch) (Z : State) (a0 : Array Value) (hw : ∀ d ∈ tables_1, d.before a0 Z = true) (ws : List Jvm.Cond) (a : UInt64) (h0 : Heap) (n0 : Nat) (Z0 : n0 ≤ h0.size) (hc5 : (0 : Int32) < (cmpValue (FP.dcmp a (13765875559246349101 : UInt64)) .g)) :
    MetFree l (⟨"com/example/slotwright/slotwright/model/Precision", "isNegative", "(D)Z"⟩ : MethodName) (head1 (Jvm.Cond.code (⟨"com/example/slotwright/slotwright/model/Precision", "isNegative", "(D)Z"⟩ : MethodName) prog_51_method_6_code 2 (some .boolean) :: ws) ({ frames := 0, cells := 0, slots := 0, locals := 0 } : Room)) (fun aa_ U => aa_ = #[(.double a)] ∧ Z.Warmed39 U.vm ∧ U.heap = h0) (fun _ _ _ _ _ => True) (fun _ U o U' => ∃ v L, o = .returned v ∧ Qrm1 Z a h0 n0 v U'.heap L ∧ FrameEnd U o U' L ({ frames := 0, cells := 0, slots := 0, locals := 0 } : Room).cells ({ frames := 0, cells := 0, slots := 0, locals := 0 } : Room).slots) := by
  refine MetFree.of_bodySF (plainFor_of_name pn_0) hisR ?_
  intro p e s m args below meth c s₁ Bd hml0 hP hK
  obtain ⟨rfl, hZ, hh⟩ := hP
  have hx := Bd.exec
  have hby := Bd.bytes
  have hml : c.maxLocals = 2 := hml0
  have hown : s.vm.findClass "com/example/slotwright/slotwright/model/Precision" = some m.cls := findClass_of_methodNamed Bd.named
  have hnm := (name_of_methodNamed Bd.named Bd.method).1
  have X0 : Stand p l e ({ frames := 0, cells := 0, slots := 0, locals := 0 } : Room) s m #[(.double a)] below meth c s₁ [] 0 0 := Stand.of_body Bd
  have e0 : s₁.heap = h0 := by rw [← hh, Bd.state]; rfl
  have N0 := Fr.nil n0
  have pre0 : ∀ tt_, Steps p.tables e below (s₁.setTop (mkF m 0 #[.val (.double a), .second] [])) tt_ → Steps p.tables e below (s₁.setTop (entryFrame m #[(.double a)] 2)) tt_ := fun tt_ kk_ => castTop (ef_1 m a) kk_
  obtain ⟨fs, hr, hrun, hended, hW, hsame⟩ := X0.leave (v := some (.int (0 : Int32))) (fun h => by rw [Bd.returns] at h; cases h)
  refine ⟨_, _, pre0 _ ?_, hrun, hended, _, _, rfl, ?_, ⟨_, rfl⟩, hW, hsame.mono (by decide) (by decide)⟩
  · show Steps p.tables e below (s₁.setTop (mkF m 0 #[.val (.double a), .second] [])) _
    refine XS.dloadN X0.here hx rfl (hb hby d1_0) rfl ?_
    show Steps p.tables e below (s₁.setTop (mkF m 1 #[.val (.double a), .second] [(.double a)])) _
    refine X0.ldc2DoubleC hx hown (mvT hZ (hw _ (List.mem_of_getElem? (i := 4) rfl))) (g := (mkF m 1 #[.val (.double a), .second] [(.double a)])) rfl (hb hby d1_1) _ ?_
    show Steps p.tables e below (s₁.setTop (mkF m 4 #[.val (.double a), .second] [(.double (13765875559246349101 : UInt64)), (.double a)])) _
    refine XS.dcmpS X0.here hx rfl (hb hby d1_4) rfl rfl ?_
    show Steps p.tables e below (s₁.setTop (mkF m 5 #[.val (.double a), .second] [(.int (cmpValue (FP.dcmp a (13765875559246349101 : UInt64)) .g))])) _
    refine XS.ifYes X0.here hx rfl (pc0 := 5) (pc' := 12) rfl (hb hby d1_5) rfl ((if0 _ _).trans (tlt (show (0 : Int32) < (cmpValue (FP.dcmp a (13765875559246349101 : UInt64)) .g) from hc5)).2.2.1) (by decide) (by decide) ?_
    show Steps p.tables e below (s₁.setTop (mkF m 12 #[.val (.double a), .second] [])) _
    refine XS.iconst X0.here hx rfl (hb hby d1_12) ?_
    show Steps p.tables e below (s₁.setTop (mkF m 13 #[.val (.double a), .second] [(.int (0 : Int32))])) _
    exact retN X0 hx (t := .boolean) Bd.returns (by simp) (hb hby d1_13) hr
  · show Qrm1 Z a h0 n0 _ s₁.heap _
    rw [e0]
    exact ⟨by rw [own_neg, if_pos hc5], N0, rfl⟩
theorem d1_8 : decode prog_51_method_6_code 8 = .ok (.iconst 1, 1) := by decide +kernel
theorem d1_9 : decode prog_51_method_6_code 9 = .ok (.goto 4, 3) := by decide +kernel
set_option maxRecDepth 65536 in
set_option maxHeartbeats 40000000 in
theorem rm1f (l : Launch) (Z : State) (a0 : Array Value) (hw : ∀ d ∈ tables_1, d.before a0 Z = true) (ws : List Jvm.Cond) (a : UInt64) (h0 : Heap) (n0 : Nat) (Z0 : n0 ≤ h0.size) (hc5 : ¬ ((0 : Int32) < (cmpValue (FP.dcmp a (13765875559246349101 : UInt64)) .g))) :
    MetFree l (⟨"com/example/slotwright/slotwright/model/Precision", "isNegative", "(D)Z"⟩ : MethodName) (head1 (Jvm.Cond.code (⟨"com/example/slotwright/slotwright/model/Precision", "isNegative", "(D)Z"⟩ : MethodName) prog_51_method_6_code 2 (some .boolean) :: ws) ({ frames := 0, cells := 0, slots := 0, locals := 0 } : Room)) (fun aa_ U => aa_ = #[(.double a)] ∧ Z.Warmed39 U.vm ∧ U.heap = h0) (fun _ _ _ _ _ => True) (fun _ U o U' => ∃ v L, o = .returned v ∧ Qrm1 Z a h0 n0 v U'.heap L ∧ FrameEnd U o U' L ({ frames := 0, cells := 0, slots := 0, locals := 0 } : Room).cells ({ frames := 0, cells := 0, slots := 0, locals := 0 } : Room).slots) := by
  refine MetFree.of_bodySF (plainFor_of_name pn_0) hisR ?_
  intro p e s m args below meth c s₁ Bd hml0 hP hK
  obtain ⟨rfl, hZ, hh⟩ := hP
  have hx := Bd.exec
  have hby := Bd.bytes
  have hml : c.maxLocals = 2 := hml0
  have hown : s.vm.findClass "com/example/slotwright/slotwright/model/Precision" = some m.cls := findClass_of_methodNamed Bd.named
  have hnm := (name_of_methodNamed Bd.named Bd.method).1
  have X0 : Stand p l e ({ frames := 0, cells := 0, slots := 0, locals := 0 } : Room) s m #[(.double a)] below meth c s₁ [] 0 0 := Stand.of_body Bd
  have e0 : s₁.heap = h0 := by rw [← hh, Bd.state]; rfl
  have N0 := Fr.nil n0
  have pre0 : ∀ tt_, Steps p.tables e below (s₁.setTop (mkF m 0 #[.val (.double a), .second] [])) tt_ → Steps p.tables e below (s₁.setTop (entryFrame m #[(.double a)] 2)) tt_ := fun tt_ kk_ => castTop (ef_1 m a) kk_
  obtain ⟨fs, hr, hrun, hended, hW, hsame⟩ := X0.leave (v := some (.int (1 : Int32))) (fun h => by rw [Bd.returns] at h; cases h)
  refine ⟨_, _, pre0 _ ?_, hrun, hended, _, _, rfl, ?_, ⟨_, rfl⟩, hW, hsame.mono (by decide) (by decide)⟩
  · show Steps p.tables e below (s₁.setTop (mkF m 0 #[.val (.double a), .second] [])) _
    refine XS.dloadN X0.here hx rfl (hb hby d1_0) rfl ?_
    show Steps p.tables e below (s₁.setTop (mkF m 1 #[.val (.double a), .second] [(.double a)])) _
    refine X0.ldc2DoubleC hx hown (mvT hZ (hw _ (List.mem_of_getElem? (i := 4) rfl))) (g := (mkF m 1 #[.val (.double a), .second] [(.double a)])) rfl (hb hby d1_1) _ ?_
    show Steps p.tables e below (s₁.setTop (mkF m 4 #[.val (.double a), .second] [(.double (13765875559246349101 : UInt64)), (.double a)])) _
    refine XS.dcmpS X0.here hx rfl (hb hby d1_4) rfl rfl ?_
    show Steps p.tables e below (s₁.setTop (mkF m 5 #[.val (.double a), .second] [(.int (cmpValue (FP.dcmp a (13765875559246349101 : UInt64)) .g))])) _
    refine XS.ifNo X0.here hx rfl (hb hby d1_5) rfl ((if0 _ _).trans (flt (show ¬ ((0 : Int32) < (cmpValue (FP.dcmp a (13765875559246349101 : UInt64)) .g)) from hc5)).2.2.1) ?_
    show Steps p.tables e below (s₁.setTop (mkF m 8 #[.val (.double a), .second] [])) _
    refine XS.iconst X0.here hx rfl (hb hby d1_8) ?_
    show Steps p.tables e below (s₁.setTop (mkF m 9 #[.val (.double a), .second] [(.int (1 : Int32))])) _
    refine XS.goto X0.here hx rfl (pc0 := 9) (pc' := 13) rfl (hb hby d1_9) (by decide) (by decide) ?_
    show Steps p.tables e below (s₁.setTop (mkF m 13 #[.val (.double a), .second] [(.int (1 : Int32))])) _
    exact retN X0 hx (t := .boolean) Bd.returns (by simp) (hb hby d1_13) hr
  · show Qrm1 Z a h0 n0 _ s₁.heap _
    rw [e0]
    exact ⟨by rw [own_neg, if_neg hc5], N0, rfl⟩
theorem rm1 (l : Launch) (Z : State) (a0 : Array Value) (hw : ∀ d ∈ tables_1, d.before a0 Z = true) (ws : List Jvm.Cond) (a : UInt64) (h0 : Heap) (n0 : Nat) (Z0 : n0 ≤ h0.size) :
    MetFree l (⟨"com/example/slotwright/slotwright/model/Precision", "isNegative", "(D)Z"⟩ : MethodName) (head1 (Jvm.Cond.code (⟨"com/example/slotwright/slotwright/model/Precision", "isNegative", "(D)Z"⟩ : MethodName) prog_51_method_6_code 2 (some .boolean) :: ws) ({ frames := 0, cells := 0, slots := 0, locals := 0 } : Room)) (fun aa_ U => aa_ = #[(.double a)] ∧ Z.Warmed39 U.vm ∧ U.heap = h0) (fun _ _ _ _ _ => True) (fun _ U o U' => ∃ v L, o = .returned v ∧ Qrm1 Z a h0 n0 v U'.heap L ∧ FrameEnd U o U' L ({ frames := 0, cells := 0, slots := 0, locals := 0 } : Room).cells ({ frames := 0, cells := 0, slots := 0, locals := 0 } : Room).slots) := by
  by_cases h : (0 : Int32) < (cmpValue (FP.dcmp a (13765875559246349101 : UInt64)) .g)
  · exact rm1t l Z a0 hw ws a h0 n0 Z0  h
  · exact rm1f l Z a0 hw ws a h0 n0 Z0  h
theorem pd_0 : parseMethodDescriptor "(D)Z" = some ⟨[.double], some .boolean⟩ := by decide +kernel
theorem pn_1 : plainName "com/example/slotwright/slotwright/model/PrecisionIsNegativePinLaw" = true := by first | (simp [plainName, overriddenIn]; done) | decide +kernel
theorem ef_0 (m : MethodId) (x0 : Int32) (x1 : Int32) (x2 : Int32) : entryFrame m #[(.int x0), (.int x1), (.int x2)] maxLocals = mkF m 0 #[.val (.int x0), .val (.int x1), .val (.int x2), .unset, .unset, .unset] [] := by first | (simp [entryFrame, mkF, argsToLocals, Value.category, maxLocals]; done) | rfl
def Qrm0 (Z : State) (p1 : Int32) (p2 : Int32) (p3 : Int32) (h0 : Heap) (n0 : Nat) (v : Option Value) (h : Heap) (L : List Loc) : Prop := v = some (.int (1 : Int32)) ∧ Fr n0 L
set_option maxRecDepth 65536 in
set_option maxHeartbeats 40000000 in
theorem rm0 (l : Launch) (Z : State) (a0 : Array Value) (hw : ∀ d ∈ tables_1, d.before a0 Z = true) (ws : List Jvm.Cond) (p1 : Int32) (p2 : Int32) (p3 : Int32) (h0 : Heap) (n0 : Nat) (Z0 : n0 ≤ h0.size) :
    MetFree l x (head1 (Jvm.Cond.code x code maxLocals ret :: ws) room_1) (fun aa_ U => aa_ = #[(.int p1), (.int p2), (.int p3)] ∧ Z.Warmed39 U.vm ∧ U.heap = h0) (fun _ _ _ _ _ => True) (fun _ U o U' => ∃ v L, o = .returned v ∧ Qrm0 Z p1 p2 p3 h0 n0 v U'.heap L ∧ FrameEnd U o U' L room_1.cells room_1.slots) := by
  refine MetFree.of_bodySF (plainFor_of_name pn_1) hisR ?_
  intro p e s m args below meth c s₁ Bd hml0 hP hK
  obtain ⟨rfl, hZ, hh⟩ := hP
  have hx := Bd.exec
  have hby := Bd.bytes
  have hml : c.maxLocals = 6 := hml0
  have hown : s.vm.findClass "com/example/slotwright/slotwright/model/PrecisionIsNegativePinLaw" = some m.cls := findClass_of_methodNamed Bd.named
  have hnm := (name_of_methodNamed Bd.named Bd.method).1
  have X0 : Stand p l e room_1 s m #[(.int p1), (.int p2), (.int p3)] below meth c s₁ [] 0 0 := Stand.of_body Bd
  have e0 : s₁.heap = h0 := by rw [← hh, Bd.state]; rfl
  have N0 := Fr.nil n0
  have pre0 : ∀ tt_, Steps p.tables e below (s₁.setTop (mkF m 0 #[.val (.int p1), .val (.int p2), .val (.int p3), .unset, .unset, .unset] [])) tt_ → Steps p.tables e below (s₁.setTop (entryFrame m #[(.int p1), (.int p2), (.int p3)] maxLocals)) tt_ := fun tt_ kk_ => castTop (ef_0 m p1 p2 p3) kk_
  obtain ⟨_, _, ⟨T1, L1, k1, n1⟩, -, X1, ⟨Lc1, hQ1, l1, y1, z1⟩, st1⟩ := Jvm.LawKit.callS X0 hx (y := (⟨"com/example/slotwright/slotwright/model/Precision", "isNegative", "(D)Z"⟩ : MethodName)) hown (mvT hZ (hw _ (List.mem_of_getElem? (i := 0) rfl))) (mvT hZ (hw _ (List.mem_of_getElem? (i := 1) rfl))) (mvT hZ (hw _ (List.mem_of_getElem? (i := 2) rfl))) (mvT hZ (hw _ (List.mem_of_getElem? (i := 3) rfl))) (by decide) (backOf (W := 0) (rm1 l Z a0 hw [] (FP.i2d p1) h0 n0 Z0 ) hZ (hw _ (List.mem_of_getElem? (i := 3) rfl)) (hw _ (List.mem_of_getElem? (i := 2) rfl)) (by decide) (by decide)) (g := (mkF m 2 #[.val (.int p1), .val (.int p2), .val (.int p3), .unset, .unset, .unset] [(.double (FP.i2d p1))])) rfl (by rw [hml]; rfl) (argsL := [(.double (FP.i2d p1))]) (rest := []) (lenOf pd_0 rfl) rfl (by show 2 * 0 + _ ≤ _; exact Nat.le_of_eq rfl) (hb hby at_2) (fun _ _ => ⟨rfl, e0, (by decide : 0 + 0 ≤ _), (by decide : 0 + 0 ≤ _)⟩)
  dsimp only [Pt.U, Pt.locs, Pt.cells, Pt.slots] at X1 l1 y1 z1 st1 hQ1
  subst l1 y1 z1
  obtain ⟨rfl, N1q, e1q⟩ := hQ1
  have N1 := Fr.app N0 N1q
  obtain ⟨v1, hv_v1⟩ : ∃ zz_ : Int32, (p1 < (0 : Int32) ∧ zz_ = (1 : Int32)) ∨ (¬ (p1 < (0 : Int32)) ∧ zz_ = (0 : Int32)) := by
    by_cases hq : p1 < (0 : Int32)
    · exact ⟨_, Or.inl ⟨hq, rfl⟩⟩
    · exact ⟨_, Or.inr ⟨hq, rfl⟩⟩
  have dm2 : ∀ t, Steps p.tables e below (T1.setTop (mkF m 14 #[.val (.int p1), .val (.int p2), .val (.int p3), .unset, .unset, .unset] [(.int v1), (.int (own_neg (FP.i2d p1)))])) t → Steps p.tables e below (T1.setTop (mkF m 6 #[.val (.int p1), .val (.int p2), .val (.int p3), .unset, .unset, .unset] [(.int p1), (.int (own_neg (FP.i2d p1)))])) t := by
    intro t K
    rcases hv_v1 with ⟨hq, rfl⟩ | ⟨hq, rfl⟩
    · show Steps p.tables e below (T1.setTop (mkF m 6 #[.val (.int p1), .val (.int p2), .val (.int p3), .unset, .unset, .unset] [(.int p1), (.int (own_neg (FP.i2d p1)))])) _
      refine XS.ifNo X1.here hx rfl (hb hby at_6) rfl ((if0 _ _).trans (tlt (show p1 < (0 : Int32) from hq)).2.1) ?_
      show Steps p.tables e below (T1.setTop (mkF m 9 #[.val (.int p1), .val (.int p2), .val (.int p3), .unset, .unset, .unset] [(.int (own_neg (FP.i2d p1)))])) _
      refine XS.iconst X1.here hx rfl (hb hby at_9) ?_
      show Steps p.tables e below (T1.setTop (mkF m 10 #[.val (.int p1), .val (.int p2), .val (.int p3), .unset, .unset, .unset] [(.int (1 : Int32)), (.int (own_neg (FP.i2d p1)))])) _
      refine XS.goto X1.here hx rfl (pc0 := 10) (pc' := 14) rfl (hb hby at_10) (by decide) (by decide) ?_
      show Steps p.tables e below (T1.setTop (mkF m 14 #[.val (.int p1), .val (.int p2), .val (.int p3), .unset, .unset, .unset] [(.int (1 : Int32)), (.int (own_neg (FP.i2d p1)))])) _
      exact K
    · show Steps p.tables e below (T1.setTop (mkF m 6 #[.val (.int p1), .val (.int p2), .val (.int p3), .unset, .unset, .unset] [(.int p1), (.int (own_neg (FP.i2d p1)))])) _
      refine XS.ifYes X1.here hx rfl (pc0 := 6) (pc' := 13) rfl (hb hby at_6) rfl ((if0 _ _).trans (flt (show ¬ (p1 < (0 : Int32)) from hq)).2.1) (by decide) (by decide) ?_
      show Steps p.tables e below (T1.setTop (mkF m 13 #[.val (.int p1), .val (.int p2), .val (.int p3), .unset, .unset, .unset] [(.int (own_neg (FP.i2d p1)))])) _
      refine XS.iconst X1.here hx rfl (hb hby at_13) ?_
      show Steps p.tables e below (T1.setTop (mkF m 14 #[.val (.int p1), .val (.int p2), .val (.int p3), .unset, .unset, .unset] [(.int (0 : Int32)), (.int (own_neg (FP.i2d p1)))])) _
      exact K
  obtain ⟨_, _, ⟨T3, L3, k3, n3⟩, -, X3, ⟨Lc3, hQ3, l3, y3, z3⟩, st3⟩ := Jvm.LawKit.callS X1 hx (y := (⟨"com/example/slotwright/slotwright/model/Precision", "isNegative", "(D)Z"⟩ : MethodName)) hown (mvT hZ (hw _ (List.mem_of_getElem? (i := 0) rfl))) (mvT hZ (hw _ (List.mem_of_getElem? (i := 1) rfl))) (mvT hZ (hw _ (List.mem_of_getElem? (i := 2) rfl))) (mvT hZ (hw _ (List.mem_of_getElem? (i := 3) rfl))) (by decide) (backOf (W := 0) (rm1 l Z a0 hw [] (FP.ddiv (FP.i2d p2) (4741671816366391296 : UInt64)) h0 n0 Z0 ) hZ (hw _ (List.mem_of_getElem? (i := 3) rfl)) (hw _ (List.mem_of_getElem? (i := 2) rfl)) (by decide) (by decide)) (g := (mkF m 29 #[.val (.int p1), .val (.int p2), .val (.int p3), .val (.int (1 : Int32)), .unset, .unset] [(.double (FP.ddiv (FP.i2d p2) (4741671816366391296 : UInt64)))])) rfl (by rw [hml]; rfl) (argsL := [(.double (FP.ddiv (FP.i2d p2) (4741671816366391296 : UInt64)))]) (rest := []) (lenOf pd_0 rfl) rfl (by show 2 * 0 + _ ≤ _; exact Nat.le_of_eq rfl) (hb hby at_29) (fun _ _ => ⟨rfl, e1q, (by decide : 0 + 0 ≤ _), (by decide : 0 + 0 ≤ _)⟩)
  dsimp only [Pt.U, Pt.locs, Pt.cells, Pt.slots] at X3 l3 y3 z3 st3 hQ3
  subst l3 y3 z3
  obtain ⟨rfl, N3q, e3q⟩ := hQ3
  have N3 := Fr.app N1 N3q
  obtain ⟨v2, hv_v2⟩ : ∃ zz_ : Int32, ((-50000 : Int32) < p2 ∧ zz_ = (0 : Int32)) ∨ (¬ ((-50000 : Int32) < p2) ∧ zz_ = (1 : Int32)) := by
    by_cases hq : (-50000 : Int32) < p2
    · exact ⟨_, Or.inl ⟨hq, rfl⟩⟩
    · exact ⟨_, Or.inr ⟨hq, rfl⟩⟩
  have dm4 : ∀ t, Steps p.tables e below (T3.setTop (mkF m 43 #[.val (.int p1), .val (.int p2), .val (.int p3), .val (.int (1 : Int32)), .unset, .unset] [(.int v2), (.int (own_neg (FP.ddiv (FP.i2d p2) (4741671816366391296 : UInt64))))])) t → Steps p.tables e below (T3.setTop (mkF m 35 #[.val (.int p1), .val (.int p2), .val (.int p3), .val (.int (1 : Int32)), .unset, .unset] [(.int (-50000 : Int32)), (.int p2), (.int (own_neg (FP.ddiv (FP.i2d p2) (4741671816366391296 : UInt64))))])) t := by
    intro t K
    rcases hv_v2 with ⟨hq, rfl⟩ | ⟨hq, rfl⟩
    · show Steps p.tables e below (T3.setTop (mkF m 35 #[.val (.int p1), .val (.int p2), .val (.int p3), .val (.int (1 : Int32)), .unset, .unset] [(.int (-50000 : Int32)), (.int p2), (.int (own_neg (FP.ddiv (FP.i2d p2) (4741671816366391296 : UInt64))))])) _
      refine XS.icmpYes X3.here hx rfl (pc0 := 35) (pc' := 42) rfl (hb hby at_35) rfl (tlt (show (-50000 : Int32) < p2 from hq)).2.2.1 (by decide) (by decide) ?_
      show Steps p.tables e below (T3.setTop (mkF m 42 #[.val (.int p1), .val (.int p2), .val (.int p3), .val (.int (1 : Int32)), .unset, .unset] [(.int (own_neg (FP.ddiv (FP.i2d p2) (4741671816366391296 : UInt64))))])) _
      refine XS.iconst X3.here hx rfl (hb hby at_42) ?_
      show Steps p.tables e below (T3.setTop (mkF m 43 #[.val (.int p1), .val (.int p2), .val (.int p3), .val (.int (1 : Int32)), .unset, .unset] [(.int (0 : Int32)), (.int (own_neg (FP.ddiv (FP.i2d p2) (4741671816366391296 : UInt64))))])) _
      exact K
    · show Steps p.tables e below (T3.setTop (mkF m 35 #[.val (.int p1), .val (.int p2), .val (.int p3), .val (.int (1 : Int32)), .unset, .unset] [(.int (-50000 : Int32)), (.int p2), (.int (own_neg (FP.ddiv (FP.i2d p2) (4741671816366391296 : UInt64))))])) _
      refine XS.icmpNo X3.here hx rfl (hb hby at_35) rfl (flt (show ¬ ((-50000 : Int32) < p2) from hq)).2.2.1 ?_
      show Steps p.tables e below (T3.setTop (mkF m 38 #[.val (.int p1), .val (.int p2), .val (.int p3), .val (.int (1 : Int32)), .unset, .unset] [(.int (own_neg (FP.ddiv (FP.i2d p2) (4741671816366391296 : UInt64))))])) _
      refine XS.iconst X3.here hx rfl (hb hby at_38) ?_
      show Steps p.tables e below (T3.setTop (mkF m 39 #[.val (.int p1), .val (.int p2), .val (.int p3), .val (.int (1 : Int32)), .unset, .unset] [(.int (1 : Int32)), (.int (own_neg (FP.ddiv (FP.i2d p2) (4741671816366391296 : UInt64))))])) _
      refine XS.goto X3.here hx rfl (pc0 := 39) (pc' := 43) rfl (hb hby at_39) (by decide) (by decide) ?_
      show Steps p.tables e below (T3.setTop (mkF m 43 #[.val (.int p1), .val (.int p2), .val (.int p3), .val (.int (1 : Int32)), .unset, .unset] [(.int (1 : Int32)), (.int (own_neg (FP.ddiv (FP.i2d p2) (4741671816366391296 : UInt64))))])) _
      exact K
  obtain ⟨_, _, ⟨T5, L5, k5, n5⟩, -, X5, ⟨Lc5, hQ5, l5, y5, z5⟩, st5⟩ := Jvm.LawKit.callS X3 hx (y := (⟨"com/example/slotwright/slotwright/model/Precision", "isNegative", "(D)Z"⟩ : MethodName)) hown (mvT hZ (hw _ (List.mem_of_getElem? (i := 0) rfl))) (mvT hZ (hw _ (List.mem_of_getElem? (i := 1) rfl))) (mvT hZ (hw _ (List.mem_of_getElem? (i := 2) rfl))) (mvT hZ (hw _ (List.mem_of_getElem? (i := 3) rfl))) (by decide) (backOf (W := 0) (rm1 l Z a0 hw [] (FP.ddiv (FP.i2d p3) (4696837146684686336 : UInt64)) h0 n0 Z0 ) hZ (hw _ (List.mem_of_getElem? (i := 3) rfl)) (hw _ (List.mem_of_getElem? (i := 2) rfl)) (by decide) (by decide)) (g := (mkF m 59 #[.val (.int p1), .val (.int p2), .val (.int p3), .val (.int (1 : Int32)), .val (.int (1 : Int32)), .unset] [(.double (FP.ddiv (FP.i2d p3) (4696837146684686336 : UInt64)))])) rfl (by rw [hml]; rfl) (argsL := [(.double (FP.ddiv (FP.i2d p3) (4696837146684686336 : UInt64)))]) (rest := []) (lenOf pd_0 rfl) rfl (by show 2 * 0 + _ ≤ _; exact Nat.le_of_eq rfl) (hb hby at_59) (fun _ _ => ⟨rfl, e3q, (by decide : 0 + 0 ≤ _), (by decide : 0 + 0 ≤ _)⟩)
  dsimp only [Pt.U, Pt.locs, Pt.cells, Pt.slots] at X5 l5 y5 z5 st5 hQ5
  subst l5 y5 z5
  obtain ⟨rfl, N5q, e5q⟩ := hQ5
  have N5 := Fr.app N3 N5q
  obtain ⟨v3, hv_v3⟩ : ∃ zz_ : Int32, ((-50 : Int32) < p3 ∧ zz_ = (0 : Int32)) ∨ (¬ ((-50 : Int32) < p3) ∧ zz_ = (1 : Int32)) := by
    by_cases hq : (-50 : Int32) < p3
    · exact ⟨_, Or.inl ⟨hq, rfl⟩⟩
    · exact ⟨_, Or.inr ⟨hq, rfl⟩⟩
  have dm6 : ∀ t, Steps p.tables e below (T5.setTop (mkF m 73 #[.val (.int p1), .val (.int p2), .val (.int p3), .val (.int (1 : Int32)), .val (.int (1 : Int32)), .unset] [(.int v3), (.int (own_neg (FP.ddiv (FP.i2d p3) (4696837146684686336 : UInt64))))])) t → Steps p.tables e below (T5.setTop (mkF m 65 #[.val (.int p1), .val (.int p2), .val (.int p3), .val (.int (1 : Int32)), .val (.int (1 : Int32)), .unset] [(.int (-50 : Int32)), (.int p3), (.int (own_neg (FP.ddiv (FP.i2d p3) (4696837146684686336 : UInt64))))])) t := by
    intro t K
    rcases hv_v3 with ⟨hq, rfl⟩ | ⟨hq, rfl⟩
    · show Steps p.tables e below (T5.setTop (mkF m 65 #[.val (.int p1), .val (.int p2), .val (.int p3), .val (.int (1 : Int32)), .val (.int (1 : Int32)), .unset] [(.int (-50 : Int32)), (.int p3), (.int (own_neg (FP.ddiv (FP.i2d p3) (4696837146684686336 : UInt64))))])) _
      refine XS.icmpYes X5.here hx rfl (pc0 := 65) (pc' := 72) rfl (hb hby at_65) rfl (tlt (show (-50 : Int32) < p3 from hq)).2.2.1 (by decide) (by decide) ?_
      show Steps p.tables e below (T5.setTop (mkF m 72 #[.val (.int p1), .val (.int p2), .val (.int p3), .val (.int (1 : Int32)), .val (.int (1 : Int32)), .unset] [(.int (own_neg (FP.ddiv (FP.i2d p3) (4696837146684686336 : UInt64))))])) _
      refine XS.iconst X5.here hx rfl (hb hby at_72) ?_
      show Steps p.tables e below (T5.setTop (mkF m 73 #[.val (.int p1), .val (.int p2), .val (.int p3), .val (.int (1 : Int32)), .val (.int (1 : Int32)), .unset] [(.int (0 : Int32)), (.int (own_neg (FP.ddiv (FP.i2d p3) (4696837146684686336 : UInt64))))])) _
      exact K
    · show Steps p.tables e below (T5.setTop (mkF m 65 #[.val (.int p1), .val (.int p2), .val (.int p3), .val (.int (1 : Int32)), .val (.int (1 : Int32)), .unset] [(.int (-50 : Int32)), (.int p3), (.int (own_neg (FP.ddiv (FP.i2d p3) (4696837146684686336 : UInt64))))])) _
      refine XS.icmpNo X5.here hx rfl (hb hby at_65) rfl (flt (show ¬ ((-50 : Int32) < p3) from hq)).2.2.1 ?_
      show Steps p.tables e below (T5.setTop (mkF m 68 #[.val (.int p1), .val (.int p2), .val (.int p3), .val (.int (1 : Int32)), .val (.int (1 : Int32)), .unset] [(.int (own_neg (FP.ddiv (FP.i2d p3) (4696837146684686336 : UInt64))))])) _
      refine XS.iconst X5.here hx rfl (hb hby at_68) ?_
      show Steps p.tables e below (T5.setTop (mkF m 69 #[.val (.int p1), .val (.int p2), .val (.int p3), .val (.int (1 : Int32)), .val (.int (1 : Int32)), .unset] [(.int (1 : Int32)), (.int (own_neg (FP.ddiv (FP.i2d p3) (4696837146684686336 : UInt64))))])) _
      refine XS.goto X5.here hx rfl (pc0 := 69) (pc' := 73) rfl (hb hby at_69) (by decide) (by decide) ?_
      show Steps p.tables e below (T5.setTop (mkF m 73 #[.val (.int p1), .val (.int p2), .val (.int p3), .val (.int (1 : Int32)), .val (.int (1 : Int32)), .unset] [(.int (1 : Int32)), (.int (own_neg (FP.ddiv (FP.i2d p3) (4696837146684686336 : UInt64))))])) _
      exact K
  obtain ⟨fs, hr, hrun, hended, hW, hsame⟩ := X5.leave (v := some (.int (1 : Int32))) (fun h => by rw [Bd.returns] at h; cases h)
  refine ⟨_, _, pre0 _ ?_, hrun, hended, _, _, rfl, ?_, ⟨_, rfl⟩, hW, hsame.mono (by decide) (by decide)⟩
  · show Steps p.tables e below (s₁.setTop (mkF m 0 #[.val (.int p1), .val (.int p2), .val (.int p3), .unset, .unset, .unset] [])) _
    refine XS.iloadN X0.here hx rfl (hb hby at_0) rfl ?_
    show Steps p.tables e below (s₁.setTop (mkF m 1 #[.val (.int p1), .val (.int p2), .val (.int p3), .unset, .unset, .unset] [(.int p1)])) _
    refine XS.i2dS X0.here hx rfl (hb hby at_1) rfl rfl ?_
    show Steps p.tables e below (s₁.setTop (mkF m 2 #[.val (.int p1), .val (.int p2), .val (.int p3), .unset, .unset, .unset] [(.double (FP.i2d p1))])) _
    refine st1 _ ?_
    show Steps p.tables e below (T1.setTop (mkF m 5 #[.val (.int p1), .val (.int p2), .val (.int p3), .unset, .unset, .unset] [(.int (own_neg (FP.i2d p1)))])) _
    refine XS.iloadN X1.here hx rfl (hb hby at_5) rfl ?_
    show Steps p.tables e below (T1.setTop (mkF m 6 #[.val (.int p1), .val (.int p2), .val (.int p3), .unset, .unset, .unset] [(.int p1), (.int (own_neg (FP.i2d p1)))])) _
    refine dm2 _ ?_
    show Steps p.tables e below (T1.setTop (mkF m 14 #[.val (.int p1), .val (.int p2), .val (.int p3), .unset, .unset, .unset] [(.int v1), (.int (own_neg (FP.i2d p1)))])) _
    refine XS.icmpNo X1.here hx rfl (hb hby at_14) rfl (teq (show (own_neg (FP.i2d p1)) = v1 from (own_w p1 v1 hv_v1))).2 ?_
    show Steps p.tables e below (T1.setTop (mkF m 17 #[.val (.int p1), .val (.int p2), .val (.int p3), .unset, .unset, .unset] [])) _
    refine XS.iconst X1.here hx rfl (hb hby at_17) ?_
    show Steps p.tables e below (T1.setTop (mkF m 18 #[.val (.int p1), .val (.int p2), .val (.int p3), .unset, .unset, .unset] [(.int (1 : Int32))])) _
    refine XS.goto X1.here hx rfl (pc0 := 18) (pc' := 22) rfl (hb hby at_18) (by decide) (by decide) ?_
    show Steps p.tables e below (T1.setTop (mkF m 22 #[.val (.int p1), .val (.int p2), .val (.int p3), .unset, .unset, .unset] [(.int (1 : Int32))])) _
    refine XS.istoreN X1.here hx rfl (hb hby at_22) rfl (l' := #[.val (.int p1), .val (.int p2), .val (.int p3), .val (.int (1 : Int32)), .unset, .unset]) rfl ?_
    show Steps p.tables e below (T1.setTop (mkF m 23 #[.val (.int p1), .val (.int p2), .val (.int p3), .val (.int (1 : Int32)), .unset, .unset] [])) _
    refine XS.iloadN X1.here hx rfl (hb hby at_23) rfl ?_
    show Steps p.tables e below (T1.setTop (mkF m 24 #[.val (.int p1), .val (.int p2), .val (.int p3), .val (.int (1 : Int32)), .unset, .unset] [(.int p2)])) _
    refine XS.i2dS X1.here hx rfl (hb hby at_24) rfl rfl ?_
    show Steps p.tables e below (T1.setTop (mkF m 25 #[.val (.int p1), .val (.int p2), .val (.int p3), .val (.int (1 : Int32)), .unset, .unset] [(.double (FP.i2d p2))])) _
    refine X1.ldc2DoubleC hx hown (mvT hZ (hw _ (List.mem_of_getElem? (i := 5) rfl))) (g := (mkF m 25 #[.val (.int p1), .val (.int p2), .val (.int p3), .val (.int (1 : Int32)), .unset, .unset] [(.double (FP.i2d p2))])) rfl (hb hby at_25) _ ?_
    show Steps p.tables e below (T1.setTop (mkF m 28 #[.val (.int p1), .val (.int p2), .val (.int p3), .val (.int (1 : Int32)), .unset, .unset] [(.double (4741671816366391296 : UInt64)), (.double (FP.i2d p2))])) _
    refine XS.ddivS X1.here hx rfl (hb hby at_28) rfl (own_nn (own_nanos p2).2) rfl ?_
    show Steps p.tables e below (T1.setTop (mkF m 29 #[.val (.int p1), .val (.int p2), .val (.int p3), .val (.int (1 : Int32)), .unset, .unset] [(.double (FP.ddiv (FP.i2d p2) (4741671816366391296 : UInt64)))])) _
    refine st3 _ ?_
    show Steps p.tables e below (T3.setTop (mkF m 32 #[.val (.int p1), .val (.int p2), .val (.int p3), .val (.int (1 : Int32)), .unset, .unset] [(.int (own_neg (FP.ddiv (FP.i2d p2) (4741671816366391296 : UInt64))))])) _
    refine XS.iloadN X3.here hx rfl (hb hby at_32) rfl ?_
    show Steps p.tables e below (T3.setTop (mkF m 33 #[.val (.int p1), .val (.int p2), .val (.int p3), .val (.int (1 : Int32)), .unset, .unset] [(.int p2), (.int (own_neg (FP.ddiv (FP.i2d p2) (4741671816366391296 : UInt64))))])) _
    refine X3.ldcInt hx hown (mvT hZ (hw _ (List.mem_of_getElem? (i := 6) rfl))) (g := (mkF m 33 #[.val (.int p1), .val (.int p2), .val (.int p3), .val (.int (1 : Int32)), .unset, .unset] [(.int p2), (.int (own_neg (FP.ddiv (FP.i2d p2) (4741671816366391296 : UInt64))))])) rfl (hb hby at_33) _ ?_
    show Steps p.tables e below (T3.setTop (mkF m 35 #[.val (.int p1), .val (.int p2), .val (.int p3), .val (.int (1 : Int32)), .unset, .unset] [(.int (-50000 : Int32)), (.int p2), (.int (own_neg (FP.ddiv (FP.i2d p2) (4741671816366391296 : UInt64))))])) _
    refine dm4 _ ?_
    show Steps p.tables e below (T3.setTop (mkF m 43 #[.val (.int p1), .val (.int p2), .val (.int p3), .val (.int (1 : Int32)), .unset, .unset] [(.int v2), (.int (own_neg (FP.ddiv (FP.i2d p2) (4741671816366391296 : UInt64))))])) _
    refine XS.icmpNo X3.here hx rfl (hb hby at_43) rfl (teq (show (own_neg (FP.ddiv (FP.i2d p2) (4741671816366391296 : UInt64))) = v2 from (own_t p2 v2 (-50000) 50000 (by decide) _ (own_nanos p2).1 hv_v2))).2 ?_
    show Steps p.tables e below (T3.setTop (mkF m 46 #[.val (.int p1), .val (.int p2), .val (.int p3), .val (.int (1 : Int32)), .unset, .unset] [])) _
    refine XS.iconst X3.here hx rfl (hb hby at_46) ?_
    show Steps p.tables e below (T3.setTop (mkF m 47 #[.val (.int p1), .val (.int p2), .val (.int p3), .val (.int (1 : Int32)), .unset, .unset] [(.int (1 : Int32))])) _
    refine XS.goto X3.here hx rfl (pc0 := 47) (pc' := 51) rfl (hb hby at_47) (by decide) (by decide) ?_
    show Steps p.tables e below (T3.setTop (mkF m 51 #[.val (.int p1), .val (.int p2), .val (.int p3), .val (.int (1 : Int32)), .unset, .unset] [(.int (1 : Int32))])) _
    refine XS.istore X3.here hx rfl (hb hby at_51) rfl (l' := #[.val (.int p1), .val (.int p2), .val (.int p3), .val (.int (1 : Int32)), .val (.int (1 : Int32)), .unset]) rfl ?_
    show Steps p.tables e below (T3.setTop (mkF m 53 #[.val (.int p1), .val (.int p2), .val (.int p3), .val (.int (1 : Int32)), .val (.int (1 : Int32)), .unset] [])) _
    refine XS.iloadN X3.here hx rfl (hb hby at_53) rfl ?_
    show Steps p.tables e below (T3.setTop (mkF m 54 #[.val (.int p1), .val (.int p2), .val (.int p3), .val (.int (1 : Int32)), .val (.int (1 : Int32)), .unset] [(.int p3)])) _
    refine XS.i2dS X3.here hx rfl (hb hby at_54) rfl rfl ?_
    show Steps p.tables e below (T3.setTop (mkF m 55 #[.val (.int p1), .val (.int p2), .val (.int p3), .val (.int (1 : Int32)), .val (.int (1 : Int32)), .unset] [(.double (FP.i2d p3))])) _
    refine X3.ldc2DoubleC hx hown (mvT hZ (hw _ (List.mem_of_getElem? (i := 7) rfl))) (g := (mkF m 55 #[.val (.int p1), .val (.int p2), .val (.int p3), .val (.int (1 : Int32)), .val (.int (1 : Int32)), .unset] [(.double (FP.i2d p3))])) rfl (hb hby at_55) _ ?_
    show Steps p.tables e below (T3.setTop (mkF m 58 #[.val (.int p1), .val (.int p2), .val (.int p3), .val (.int (1 : Int32)), .val (.int (1 : Int32)), .unset] [(.double (4696837146684686336 : UInt64)), (.double (FP.i2d p3))])) _
    refine XS.ddivS X3.here hx rfl (hb hby at_58) rfl (own_nn (own_micros p3).2) rfl ?_
    show Steps p.tables e below (T3.setTop (mkF m 59 #[.val (.int p1), .val (.int p2), .val (.int p3), .val (.int (1 : Int32)), .val (.int (1 : Int32)), .unset] [(.double (FP.ddiv (FP.i2d p3) (4696837146684686336 : UInt64)))])) _
    refine st5 _ ?_
    show Steps p.tables e below (T5.setTop (mkF m 62 #[.val (.int p1), .val (.int p2), .val (.int p3), .val (.int (1 : Int32)), .val (.int (1 : Int32)), .unset] [(.int (own_neg (FP.ddiv (FP.i2d p3) (4696837146684686336 : UInt64))))])) _
    refine XS.iloadN X5.here hx rfl (hb hby at_62) rfl ?_
    show Steps p.tables e below (T5.setTop (mkF m 63 #[.val (.int p1), .val (.int p2), .val (.int p3), .val (.int (1 : Int32)), .val (.int (1 : Int32)), .unset] [(.int p3), (.int (own_neg (FP.ddiv (FP.i2d p3) (4696837146684686336 : UInt64))))])) _
    refine XS.bipush X5.here hx rfl (hb hby at_63) ?_
    show Steps p.tables e below (T5.setTop (mkF m 65 #[.val (.int p1), .val (.int p2), .val (.int p3), .val (.int (1 : Int32)), .val (.int (1 : Int32)), .unset] [(.int (-50 : Int32)), (.int p3), (.int (own_neg (FP.ddiv (FP.i2d p3) (4696837146684686336 : UInt64))))])) _
    refine dm6 _ ?_
    show Steps p.tables e below (T5.setTop (mkF m 73 #[.val (.int p1), .val (.int p2), .val (.int p3), .val (.int (1 : Int32)), .val (.int (1 : Int32)), .unset] [(.int v3), (.int (own_neg (FP.ddiv (FP.i2d p3) (4696837146684686336 : UInt64))))])) _
    refine XS.icmpNo X5.here hx rfl (hb hby at_73) rfl (teq (show (own_neg (FP.ddiv (FP.i2d p3) (4696837146684686336 : UInt64))) = v3 from (own_t p3 v3 (-50) 50 (by decide) _ (own_micros p3).1 hv_v3))).2 ?_
    show Steps p.tables e below (T5.setTop (mkF m 76 #[.val (.int p1), .val (.int p2), .val (.int p3), .val (.int (1 : Int32)), .val (.int (1 : Int32)), .unset] [])) _
    refine XS.iconst X5.here hx rfl (hb hby at_76) ?_
    show Steps p.tables e below (T5.setTop (mkF m 77 #[.val (.int p1), .val (.int p2), .val (.int p3), .val (.int (1 : Int32)), .val (.int (1 : Int32)), .unset] [(.int (1 : Int32))])) _
    refine XS.goto X5.here hx rfl (pc0 := 77) (pc' := 81) rfl (hb hby at_77) (by decide) (by decide) ?_
    show Steps p.tables e below (T5.setTop (mkF m 81 #[.val (.int p1), .val (.int p2), .val (.int p3), .val (.int (1 : Int32)), .val (.int (1 : Int32)), .unset] [(.int (1 : Int32))])) _
    refine XS.istore X5.here hx rfl (hb hby at_81) rfl (l' := #[.val (.int p1), .val (.int p2), .val (.int p3), .val (.int (1 : Int32)), .val (.int (1 : Int32)), .val (.int (1 : Int32))]) rfl ?_
    show Steps p.tables e below (T5.setTop (mkF m 83 #[.val (.int p1), .val (.int p2), .val (.int p3), .val (.int (1 : Int32)), .val (.int (1 : Int32)), .val (.int (1 : Int32))] [])) _
    refine XS.iloadN X5.here hx rfl (hb hby at_83) rfl ?_
    show Steps p.tables e below (T5.setTop (mkF m 84 #[.val (.int p1), .val (.int p2), .val (.int p3), .val (.int (1 : Int32)), .val (.int (1 : Int32)), .val (.int (1 : Int32))] [(.int (1 : Int32))])) _
    refine XS.ifNo X5.here hx rfl (hb hby at_84) rfl ((if0 _ _).trans (feq (show ¬ ((1 : Int32) = (0 : Int32)) from (by decide))).1) ?_
    show Steps p.tables e below (T5.setTop (mkF m 87 #[.val (.int p1), .val (.int p2), .val (.int p3), .val (.int (1 : Int32)), .val (.int (1 : Int32)), .val (.int (1 : Int32))] [])) _
    refine XS.iload X5.here hx rfl (hb hby at_87) rfl ?_
    show Steps p.tables e below (T5.setTop (mkF m 89 #[.val (.int p1), .val (.int p2), .val (.int p3), .val (.int (1 : Int32)), .val (.int (1 : Int32)), .val (.int (1 : Int32))] [(.int (1 : Int32))])) _
    refine XS.ifNo X5.here hx rfl (hb hby at_89) rfl ((if0 _ _).trans (feq (show ¬ ((1 : Int32) = (0 : Int32)) from (by decide))).1) ?_
    show Steps p.tables e below (T5.setTop (mkF m 92 #[.val (.int p1), .val (.int p2), .val (.int p3), .val (.int (1 : Int32)), .val (.int (1 : Int32)), .val (.int (1 : Int32))] [])) _
    refine XS.iload X5.here hx rfl (hb hby at_92) rfl ?_
    show Steps p.tables e below (T5.setTop (mkF m 94 #[.val (.int p1), .val (.int p2), .val (.int p3), .val (.int (1 : Int32)), .val (.int (1 : Int32)), .val (.int (1 : Int32))] [(.int (1 : Int32))])) _
    refine XS.ifNo X5.here hx rfl (hb hby at_94) rfl ((if0 _ _).trans (feq (show ¬ ((1 : Int32) = (0 : Int32)) from (by decide))).1) ?_
    show Steps p.tables e below (T5.setTop (mkF m 97 #[.val (.int p1), .val (.int p2), .val (.int p3), .val (.int (1 : Int32)), .val (.int (1 : Int32)), .val (.int (1 : Int32))] [])) _
    refine XS.iconst X5.here hx rfl (hb hby at_97) ?_
    show Steps p.tables e below (T5.setTop (mkF m 98 #[.val (.int p1), .val (.int p2), .val (.int p3), .val (.int (1 : Int32)), .val (.int (1 : Int32)), .val (.int (1 : Int32))] [(.int (1 : Int32))])) _
    refine XS.goto X5.here hx rfl (pc0 := 98) (pc' := 102) rfl (hb hby at_98) (by decide) (by decide) ?_
    show Steps p.tables e below (T5.setTop (mkF m 102 #[.val (.int p1), .val (.int p2), .val (.int p3), .val (.int (1 : Int32)), .val (.int (1 : Int32)), .val (.int (1 : Int32))] [(.int (1 : Int32))])) _
    exact retN X5 hx (t := .boolean) Bd.returns (by simp) (hb hby at_102) hr
  · show Qrm0 Z p1 p2 p3 h0 n0 _ T5.heap _
    rw [e5q]
    exact ⟨rfl, N5⟩
set_option maxRecDepth 65536 in
set_option maxHeartbeats 40000000 in
theorem comes_1 {Post : Tables → Env → Array Value → State → Outcome → State → Prop} (hpost : ∀ tb e args s v u, (limb_1_1.after args s (.returned v) u = true ∧ limb_1_2.after args s (.returned v) u = true ∧ True) → FrameEnd s (.returned v) u (Jvm.fieldLocs frame_1_writes args s ++ Jvm.arrayLocs frame_1_arrays args s ++ Jvm.staticLocs frame_1_statics s) 0 0 → Post tb e args s (.returned v) u) :
    ArmFor flags0 classFile x code maxLocals ret World_1 tables_1 room_1 Calls_1 rest_1 Pre_1 Post := by
  intro l hfl _ _ p e ha hc hk s m args below hf hA hF happ hP
  obtain ⟨hcalls, hrest, hpre⟩ := hP
  obtain ⟨-, -, -, hnamed, -, -, -, hat⟩ := (Spec.applies_iff hf).mp happ
  obtain ⟨hg, hn⟩ := and_e (Cond.before_iff.mp (show (Jvm.Cond.and given_1 narrow_1).before args s = true from hpre))
  obtain ⟨gv1, gv2⟩ := and_e hg
  obtain ⟨gv3, gv4⟩ := and_e gv2
  obtain ⟨gv5, gv6⟩ := and_e gv4
  obtain ⟨w0, w1, w2, rfl⟩ : ∃ w0 w1 w2 : Value, args = #[w0, w1, w2] := by
    have hs : args.size = 3 := by simpa [Cond.value, given_1] using gv1
    obtain ⟨L⟩ := args
    match L, hs with
    | [w0, w1, w2], _ => exact ⟨w0, w1, w2, rfl⟩
  have hw := fun d (hd : d ∈ tables_1) => atoms_spec (ws := Jvm.Cond.code x code maxLocals ret :: tables_1) hat d (List.mem_cons_of_mem _ hd)
  have hfit : Fit s := fun {y c} hc i hi => by
    obtain ⟨ha, rfl⟩ := Array.getElem?_eq_some_iff.mp hc
    have q := List.all_eq_true.mp ((Array.all_eq_true_iff_forall_mem.mp hF) _ (Array.getElem_mem ha)) i (List.mem_range.mpr hi)
    simpa [Array.getElem?_eq_getElem hi] using q
  obtain ⟨i0, ei0⟩ := is_v gv3
  obtain rfl : w0 = (.int i0) := Option.some.inj ei0
  obtain ⟨i1, ei1⟩ := is_v gv5
  obtain rfl : w1 = (.int i1) := Option.some.inj ei1
  obtain ⟨i2, ei2⟩ := is_v gv6
  obtain rfl : w2 = (.int i2) := Option.some.inj ei2
  obtain ⟨n, o, h1, h2, h3, _, L, rfl, ⟨rfl, N⟩, hq⟩ := rm0 l s _ hw tables_1 i0 i1 i2  s.heap s.heap.size (Nat.le_refl _)  p e ha hc hk s m _ below hf ((Spec.applies_iff_loose hf).mp happ).1 ⟨rfl, State.Warmed39.refl s, rfl⟩ trivial
  refine ⟨n, _, h1, h2, h3, hpost _ _ _ _ _ _ ⟨Cond.after_iff.mpr rfl, Cond.after_iff.mpr (eq_i res_at (Term.int_eval (1)) rfl), trivial⟩ ⟨hq.1, hq.2.1, (hq.2.2.sift fun y hy => Or.inr (N y hy)).mono (by decide) (by decide)⟩⟩
theorem main_1_1 : Claimed_1_1 := comes_1 fun _ _ _ _ _ _ h hF => ⟨h.1, hF⟩
theorem main_1_2 : Claimed_1_2 := comes_1 fun _ _ _ _ _ _ h hF => ⟨h.2.1, hF⟩
end Jvm.Pilot.@@N@@
namespace Jvm.Pilot.@@N@@
open Jvm Jvm.ClassFile Sem Op Lib Jvm.Free Jvm.Stand Jvm.Pilot.@@N@@.Jvm.D
/-! MADE BY PROGRAM (witnessworld.py) out of the Statement's table words and the real class files: 9 classes; the members and pool entries that the words name. The judged class is class 1, her method 1. -/
namespace start1
open Jvm.ClassFile
def u (s : String) : CpInfo := .utf8 (stringToUtf16 s)
/-- a pool by its gaps: so many unusable entries, then the entry; so many at the end -/
def gap : Nat → List CpInfo → List CpInfo
  | 0, r => r
  | n + 1, r => .unusable :: gap n r
def poolList (es : List (Nat × CpInfo)) (last : Nat) : List CpInfo := es.foldr (fun e r => gap e.1 (e.2 :: r)) (gap last [])
def pool (es : List (Nat × CpInfo)) (last : Nat) : Array CpInfo := ⟨poolList es last⟩
def fileOf (pool : Array CpInfo) (this : Nat) (attrs : Array Attribute := #[]) (ms : Array MethodInfo := #[]) (fl : Nat := 33) (sup : Nat := 0) (ifs : Array Nat := #[]) (fds : Array FieldInfo := #[]) : ClassFile where
  minorVersion := 0
  majorVersion := 65
  constantPool := pool
  accessFlags := fl
  thisClass := this
  superClass := sup
  interfaces := ifs
  fields := fds
  methods := ms
  attributes := attrs
def plain (name : String) (sup : Option ClassId) : Class where
  name := name
  kind := .ordinary
  loader := none
  accessFlags := 33
  super := sup
  interfaces := #[]
  cf := none
  fields := #[]
  methods := #[]
  instanceTypes := #[]
  staticTypes := #[]
  resolved := #[]
  callSites := []
  init := .initialized
  statics := none
  mirror := none

def pool0 : Array CpInfo := pool [(5, u "<init>"), (0, u "()V"), (1, .class_ 10), (1, u "java/lang/Object")] 113

def k0m0 : Method := { name := "<init>", desc := "()V", sig := { parameters := [], returnType := none }, accessFlags := 1, code := none }
/-- java/lang/Object -/
def k0 : Class := { plain "java/lang/Object" none with
  accessFlags := 33
  interfaces := #[]
  cf := some (fileOf pool0 8 #[] #[{ accessFlags := 1, nameIndex := 5, descriptorIndex := 6, attributes := #[] }] 33 0 #[] #[])
  fields := #[]
  methods := #[k0m0]
  instanceTypes := #[]
  staticTypes := #[]
  resolved := Array.replicate 124 none
  statics := none }

def pool1 : Array CpInfo := pool [(2, .class_ 4), (1, u "java/lang/Object"), (0, u "<init>"), (0, u "()V"), (0, .methodref 8 9), (0, .class_ 10), (0, .nameAndType 11 12), (0, u "com/example/slotwright/slotwright/model/Precision"), (0, u "isNegative"), (0, u "(D)Z"), (0, .double 4741671816366391296), (1, .integer 4294917296), (0, .double 4696837146684686336), (1, .class_ 19), (0, u "com/example/slotwright/slotwright/model/PrecisionIsNegativePinLaw"), (2, u "law"), (0, u "(III)Z")] 3

def k1m0 : Method := { name := "<init>", desc := "()V", sig := { parameters := [], returnType := none }, accessFlags := 2, code := none }
def k1c1 : Code := { maxStack := 4, maxLocals := 6, code := code, exceptionTable := #[], attributes := #[] }
def k1m1 : Method := { name := "law", desc := "(III)Z", sig := { parameters := [.int, .int, .int], returnType := some .boolean }, accessFlags := 9, code := some k1c1 }
/-- com/example/slotwright/slotwright/model/PrecisionIsNegativePinLaw -/
def k1 : Class := { plain "com/example/slotwright/slotwright/model/PrecisionIsNegativePinLaw" (some 0) with
  accessFlags := 49
  interfaces := #[]
  cf := some (fileOf pool1 18 #[] #[{ accessFlags := 2, nameIndex := 5, descriptorIndex := 6, attributes := #[] }, { accessFlags := 9, nameIndex := 22, descriptorIndex := 23, attributes := #[] }] 49 2 #[] #[])
  fields := #[]
  methods := #[k1m0, k1m1]
  instanceTypes := #[]
  staticTypes := #[]
  resolved := Array.replicate 27 none
  statics := none }

def pool2 : Array CpInfo := pool [(4, .class_ 6), (1, u "java/lang/Object"), (0, u "<init>"), (0, u "()V"), (6, .class_ 16), (0, u "com/example/slotwright/slotwright/model/Precision"), (4, u "EXACT_TOLERANCE"), (0, u "Lcom/example/slotwright/slotwright/model/Rational;"), (18, u "ESTIMATED_TOLERANCE"), (0, u "Lcom/example/slotwright/slotwright/model/Estimate;"), (6, u "ESTIMATED_NEGATIVE_TOLERANCE"), (10, u "DECIMAL_TOLERANCE"), (0, u "Ljava/math/BigDecimal;"), (3, .double 13765875559246349101), (6, u "EXACT_NEGATIVE_TOLERANCE"), (109, u "(D)Z"), (11, u "SCALE"), (0, u "D"), (52, u "DIGITS"), (0, u "I"), (2, u "TOLERANCE"), (0, u "LARGEST_SCALED"), (0, u "SCALED_ERROR"), (0, u "UNCLEAR"), (0, u "J"), (0, u "PLAIN_LENGTH"), (8, u "isNegative")] 31

def k2m0 : Method := { name := "<init>", desc := "()V", sig := { parameters := [], returnType := none }, accessFlags := 2, code := none }
def k2c1 : Code := { maxStack := 4, maxLocals := 2, code := prog_51_method_6_code, exceptionTable := #[], attributes := #[] }
def k2m1 : Method := { name := "isNegative", desc := "(D)Z", sig := { parameters := [.double], returnType := some .boolean }, accessFlags := 9, code := some k2c1 }
/-- com/example/slotwright/slotwright/model/Precision -/
def k2 : Class := { plain "com/example/slotwright/slotwright/model/Precision" (some 0) with
  accessFlags := 33
  interfaces := #[]
  cf := some (fileOf pool2 15 #[] #[{ accessFlags := 2, nameIndex := 7, descriptorIndex := 8, attributes := #[] }, { accessFlags := 9, nameIndex := 266, descriptorIndex := 182, attributes := #[] }] 33 4 #[] #[{ accessFlags := 25, nameIndex := 248, descriptorIndex := 249, attributes := #[] }, { accessFlags := 25, nameIndex := 252, descriptorIndex := 195, attributes := #[] }, { accessFlags := 26, nameIndex := 60, descriptorIndex := 61, attributes := #[] }, { accessFlags := 26, nameIndex := 21, descriptorIndex := 22, attributes := #[] }, { accessFlags := 26, nameIndex := 72, descriptorIndex := 22, attributes := #[] }, { accessFlags := 26, nameIndex := 41, descriptorIndex := 42, attributes := #[] }, { accessFlags := 26, nameIndex := 49, descriptorIndex := 42, attributes := #[] }, { accessFlags := 26, nameIndex := 194, descriptorIndex := 195, attributes := #[] }, { accessFlags := 26, nameIndex := 253, descriptorIndex := 195, attributes := #[] }, { accessFlags := 26, nameIndex := 254, descriptorIndex := 195, attributes := #[] }, { accessFlags := 26, nameIndex := 255, descriptorIndex := 256, attributes := #[] }, { accessFlags := 26, nameIndex := 257, descriptorIndex := 249, attributes := #[] }])
  fields := #[{ name := "DIGITS", type := .int, accessFlags := 25, slot := 0, constantValue := 0 }, { name := "TOLERANCE", type := .double, accessFlags := 25, slot := 1, constantValue := 0 }, { name := "DECIMAL_TOLERANCE", type := (.object "java/math/BigDecimal"), accessFlags := 26, slot := 2, constantValue := 0 }, { name := "EXACT_TOLERANCE", type := (.object "com/example/slotwright/slotwright/model/Rational"), accessFlags := 26, slot := 3, constantValue := 0 }, { name := "EXACT_NEGATIVE_TOLERANCE", type := (.object "com/example/slotwright/slotwright/model/Rational"), accessFlags := 26, slot := 4, constantValue := 0 }, { name := "ESTIMATED_TOLERANCE", type := (.object "com/example/slotwright/slotwright/model/Estimate"), accessFlags := 26, slot := 5, constantValue := 0 }, { name := "ESTIMATED_NEGATIVE_TOLERANCE", type := (.object "com/example/slotwright/slotwright/model/Estimate"), accessFlags := 26, slot := 6, constantValue := 0 }, { name := "SCALE", type := .double, accessFlags := 26, slot := 7, constantValue := 0 }, { name := "LARGEST_SCALED", type := .double, accessFlags := 26, slot := 8, constantValue := 0 }, { name := "SCALED_ERROR", type := .double, accessFlags := 26, slot := 9, constantValue := 0 }, { name := "UNCLEAR", type := .long, accessFlags := 26, slot := 10, constantValue := 0 }, { name := "PLAIN_LENGTH", type := .int, accessFlags := 26, slot := 11, constantValue := 0 }]
  methods := #[k2m0, k2m1]
  instanceTypes := #[]
  staticTypes := #[.int, .double, (.object "java/math/BigDecimal"), (.object "com/example/slotwright/slotwright/model/Rational"), (.object "com/example/slotwright/slotwright/model/Rational"), (.object "com/example/slotwright/slotwright/model/Estimate"), (.object "com/example/slotwright/slotwright/model/Estimate"), .double, .double, .double, .long, .int]
  resolved := Array.replicate 298 none
  statics := none }

def pool3 : Array CpInfo := pool [(1, u "java/lang/Cloneable"), (0, .class_ 1), (0, u "java/lang/Object"), (0, .class_ 3)] 3

/-- java/lang/Cloneable -/
def k3 : Class := { plain "java/lang/Cloneable" (some 0) with
  accessFlags := 1537
  interfaces := #[]
  cf := some (fileOf pool3 2 #[] #[] 1537 4 #[] #[])
  fields := #[]
  methods := #[]
  instanceTypes := #[]
  staticTypes := #[]
  resolved := Array.replicate 8 none
  statics := none }

def pool4 : Array CpInfo := pool [(1, u "java/io/Serializable"), (0, .class_ 1), (0, u "java/lang/Object"), (0, .class_ 3)] 3

/-- java/io/Serializable -/
def k4 : Class := { plain "java/io/Serializable" (some 0) with
  accessFlags := 1537
  interfaces := #[]
  cf := some (fileOf pool4 2 #[] #[] 1537 4 #[] #[])
  fields := #[]
  methods := #[]
  instanceTypes := #[]
  staticTypes := #[]
  resolved := Array.replicate 8 none
  statics := none }

/-- the primitive byte -/
def k5 : Class := { plain "byte" none with kind := .primitive 'B', accessFlags := 0x411 }
/-- [B -/
def k6 : Class := { plain "[B" (some 0) with kind := .array 5 .byte, interfaces := #[3, 4], accessFlags := 1041 }

/-- the primitive int -/
def k7 : Class := { plain "int" none with kind := .primitive 'I', accessFlags := 0x411 }
/-- [I -/
def k8 : Class := { plain "[I" (some 0) with kind := .array 7 .int, interfaces := #[3, 4], accessFlags := 1041 }

def heap : Heap := #[]
def classes : Array Class := #[k0, k1, k2, k3, k4, k5, k6, k7, k8]
def interned : List (Array UInt16 × Addr) := []
def slotsUsed : Nat := 0
def theMethod : MethodId := ⟨1, 1⟩
def args0 : Array Value := #[.int 5, .int 6, .int 7]
def aboutOver (below : List Frame) : State where
  vm := { classes := classes, interned := interned.toArray }
  heap := heap
  slotsUsed := slotsUsed
  threads := #[{ frames := .invoking theMethod args0 :: below }]
def below0 : List Frame := [.native { method := ⟨0, 0⟩, args := #[] }]
def about1 : State := aboutOver below0
def p0 : Program := .bare "" "" ""
def e0 : Env := launch0.env 0 0 0
theorem w_frames : about1.frames = Frame.invoking theMethod args0 :: below0 := rfl
set_option maxRecDepth 65536 in
theorem w_args : argsFit about1.vm theMethod args0 = true := by decide +kernel
set_option maxRecDepth 65536 in
theorem w_heap : heapFits about1 = true := by decide +kernel
set_option maxRecDepth 65536 in
theorem w_runnable : about1.curStatus? = some .runnable := by decide +kernel
set_option maxRecDepth 65536 in
theorem w_alone : about1.alone = true := by decide +kernel
set_option maxRecDepth 65536 in
theorem w_named : about1.methodNamed? x = some theMethod := by decide +kernel
set_option maxRecDepth 65536 in
theorem w_hears : about1.hears theMethod below0 = true := by decide +kernel
set_option maxRecDepth 65536 in
theorem w_ripe : about1.ripe theMethod args0 below0 = true := by decide +kernel
theorem w_running : about1.status = .running := rfl
set_option maxRecDepth 65536 in
theorem w_room : about1.hasRoom e0.platform room_1 = true :=
  launch0.hasRoom_least _ room_1 (by decide +kernel) (by decide +kernel) (by decide +kernel) (by decide +kernel) (by decide +kernel) (by decide +kernel)
theorem allAtoms_all (ts : List Jvm.Cond) (a : Array Jvm.Value) (st : Jvm.State) : (allAtoms ts).before a st = ts.all (fun c => c.before a st) := by
  induction ts with
  | nil => rfl
  | cons c t ih =>
    show (Jvm.Cond.and c (allAtoms t)).before a st = _
    rw [Jvm.Cond.before_and, ih, List.all_cons]
def words1 : List Jvm.Cond := Jvm.Cond.code x code maxLocals ret :: tables_1
/-- a 'code' word, met by the world's own term for the bytes: nothing is compared byte by byte -/
theorem code_word {y : MethodName} {bytes : ByteArray} {mx : Nat} {rt : Option FieldType} {a : Array Value} {s : State} {m : MethodId} {meth : Method} {c : Code} (h1 : s.methodNamed? y = some m) (h2 : s.vm.method? m = some meth) (h3 : meth.code = some c) (h4 : c.code = bytes)
    (h5 : (c.maxLocals == mx && c.exceptionTable.isEmpty && decide (c.maxStack ≤ mostOperands) && decide (meth.sig.returnType = rt) && !meth.locks && decide (parseMethodDescriptor y.desc = some meth.sig)) = true) : (Jvm.Cond.code y bytes mx rt).before a s = true := by
  simp only [Bool.and_eq_true, beq_iff_eq, Bool.not_eq_true', decide_eq_true_eq] at h5
  obtain ⟨⟨⟨⟨⟨g1, g2⟩, g3⟩, g4⟩, g5⟩, g6⟩ := h5
  simp [Cond.before, Cond.holds, Cond.value, h1, h2, h3, h4, g1, g2, g3, g4, g5, g6]
def isCode : Jvm.Cond → Bool
  | .code _ _ _ _ => true
  | _ => false
theorem all_split {L : List Jvm.Cond} {P : Jvm.Cond → Bool} (h1 : L.all (fun c => isCode c || P c) = true) (h2 : ∀ c ∈ L.filter isCode, P c = true) : L.all P = true := by
  refine List.all_eq_true.mpr fun c hc => ?_
  have h := List.all_eq_true.mp h1 c hc
  rcases Bool.eq_false_or_eq_true (isCode c) with hi | hi
  · exact h2 c (List.mem_filter.mpr ⟨hc, hi⟩)
  · simpa [hi] using h
set_option maxRecDepth 65536 in
theorem w_c0 : (Jvm.Cond.code x code maxLocals ret).before args0 about1 = true := code_word (m := ⟨1, 1⟩) (meth := k1m1) (c := k1c1) (by decide +kernel) rfl rfl rfl (by decide +kernel)
set_option maxRecDepth 65536 in
theorem w_c1 : (Jvm.Cond.code ({ cls := "com/example/slotwright/slotwright/model/Precision", name := "isNegative", desc := "(D)Z" } : Jvm.MethodName) prog_51_method_6_code (2 : Nat) (Option.some Jvm.ClassFile.FieldType.boolean)).before args0 about1 = true := code_word (m := ⟨2, 1⟩) (meth := k2m1) (c := k2c1) (by decide +kernel) rfl rfl rfl (by decide +kernel)
def codes1 : List Jvm.Cond := [Jvm.Cond.code x code maxLocals ret, Jvm.Cond.code ({ cls := "com/example/slotwright/slotwright/model/Precision", name := "isNegative", desc := "(D)Z" } : Jvm.MethodName) prog_51_method_6_code (2 : Nat) (Option.some Jvm.ClassFile.FieldType.boolean)]
set_option maxRecDepth 65536 in
theorem codes_eq : words1.filter isCode = codes1 := rfl
theorem w_codes : ∀ c ∈ words1.filter isCode, c.before args0 about1 = true := by
  rw [codes_eq]
  intro c hc
  simp only [codes1, List.mem_cons, List.not_mem_nil, or_false] at hc
  rcases hc with rfl | rfl
  · exact w_c0
  · exact w_c1
set_option maxRecDepth 65536 in
theorem w_t1 : words1.all (fun c => isCode c || c.before args0 about1) = true := by decide +kernel
theorem w_tables : (allAtoms (Jvm.Cond.code x code maxLocals ret :: tables_1)).before args0 about1 = true := by
  rw [allAtoms_all]
  show words1.all (fun c => c.before args0 about1) = true
  refine all_split ?_ w_codes
  rw [w_t1]
set_option maxRecDepth 65536 in
theorem w_case : (Jvm.Cond.and given_1 narrow_1).before args0 about1 = true := by decide +kernel
theorem w_applies : (headSpec (Jvm.Cond.code x code maxLocals ret :: tables_1) room_1).applies x e0.platform about1 = true :=
  (Spec.applies_iff w_frames).mpr ⟨w_running, w_runnable, w_alone, w_named, w_hears, w_ripe, w_room, w_tables⟩
theorem atStart : AtStart classFile x code maxLocals ret World_1 tables_1 room_1 Calls_1 rest_1 Pre_1 launch0 p0 e0 about1 theMethod args0 below0 :=
  ⟨lists_1, trivial, launch0.admits_env _ _ _, launch0.least_env, fairChoices_fair.cas, fairChoices_fair.clock, w_frames, w_args, w_heap, w_applies, trivial, trivial, w_case⟩
end start1
theorem witness_1 : WitnessClaimed_1 := ⟨start1.p0, start1.e0, start1.about1, start1.theMethod, start1.args0, start1.below0, start1.atStart⟩
end Jvm.Pilot.@@N@@

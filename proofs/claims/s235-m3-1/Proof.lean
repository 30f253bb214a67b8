import JvmDerived
import JvmDerived.Pilot.@@N@@Statement
import JvmDerived.Pilot.@@N@@Code
set_option linter.unusedVariables false
set_option linter.unusedSimpArgs false
namespace Jvm.RoadKit
open Sem ClassFile Op Lib Jvm.Stand Jvm.Free Jvm.LawKit
section New
variable {p : Program} {l : Launch} {e : Env} {R : Room} {s : State} {m : MethodId} {args : Array Value} {below : List Frame} {meth : Method} {c : Code} {T : State} {locs : List Loc} {cells slots : Nat}
theorem retI (X : Stand p l e R s m args below meth c T locs cells slots) (hx : p.tables.exec = Jvm.exec) {pc : Nat} {Ls : Array Slot} {z : Int32} {rest : List Value} (hret : meth.sig.returnType = some .int) (hd : decode c.code pc = .ok (.ireturn, 1)) {fs : List Frame}
    (hl : ∀ (f : JFrame) (acts : List Action), f.method = m → f.locked = none → f.entered = [] → (doReturn e (T.setTop f) acts (some (.int z))).1 = T.setFrames fs) : Steps p.tables e below (T.setTop (mkF m pc Ls (.int z :: rest))) (T.setFrames fs) := by
  have hm' : T.vm.method? m = some meth := X.method'
  have hn : narrow .int (.int z) = .int z := rfl
  show Steps p.tables e below (T.setTop { method := m, pc := pc, locals := Ls, stack := _ :: rest, locked := none }) _
  jvm_step X.here [X.here.top, hx, hd, hm', hret, hn]
  first | (intro acts; rw [hl _ acts rfl rfl rfl]) | rw [hl _ _ rfl rfl rfl]
  exact Steps.refl _
end New
end Jvm.RoadKit
/- laws to paste: Road.backV (cut by pick.py; bodies as the Statement names them) -/
namespace Jvm.Pilot.@@N@@
namespace StrChars
open Jvm Sem ClassFile Op Lib Jvm.Stand Jvm.Free.XT Jvm.Free.ALB Jvm.Free.JM Jvm.Free
open Jvm.Lib.Cold (StaticIs)
/-- a char array whose places are chars -/
def Ch (a : Addr) (A : Cell) (U : State) : Prop := Arr .char a A U ∧ Typed .char A
theorem Ch.mv {a : Addr} {A : Cell} {U U' : State} (h : Ch a A U) (hal : U.vm.Alike U'.vm) (hh : U'.heap = U.heap) : Ch a A U' := ⟨h.1.mv hal hh, h.2⟩
theorem Ch.keep {a : Addr} {A : Cell} {U U' : State} (h : Ch a A U) (hal : U.vm.Alike U'.vm) (hk : U'.heap[a]? = some A) : Ch a A U' := ⟨h.1.keep hal hk, h.2⟩
/-- what place i of a char[]'s cell holds -/
def cv (A : Cell) (i : Nat) : Int32 := match A.slots[i]? with | some (.int x) => x | _ => 0
theorem Ch.get {a : Addr} {A : Cell} {U : State} (h : Ch a A U) {i : Nat} (hi : i < A.slots.size) : A.slots[i]? = some (.int (cv A i)) := by
  have e := Array.getElem?_eq_getElem hi
  have f := h.2 i _ e
  unfold cv; rw [e]
  generalize A.slots[i] = v at f
  cases v <;> simp [fits] at f ⊢
/-- the byte that i2b leaves of a char -/
def lo8 (x : Int32) : Int32 := x.toInt8.toInt32
theorem fits_lo8 (y : Int32) : fits .byte (.int (lo8 y)) = true := by
  have h1 := y.toInt8.le_toInt
  have h2 := y.toInt8.toInt_lt
  simp only [lo8, fits, Bool.and_eq_true, decide_eq_true_eq, Int32.le_iff_toInt_le, Int8.toInt_toInt32, show (-128 : Int32).toInt = -128 from by decide, show (127 : Int32).toInt = 127 from by decide]
  omega
/-- A' is A but that each place j of lo .. hi - 1 holds f j -/
def Laid (A A' : Cell) (lo hi : Nat) (f : Nat → Value) : Prop := A'.cls = A.cls ∧ A'.vm = A.vm ∧ A'.slots.size = A.slots.size ∧ ∀ i, A'.slots[i]? = if lo ≤ i ∧ i < hi then some (f i) else A.slots[i]?
theorem Laid.zero (A : Cell) (lo : Nat) (f : Nat → Value) : Laid A A lo (lo + 0) f := ⟨rfl, rfl, rfl, fun i => by rw [if_neg (by omega)]⟩
theorem Laid.step {A Ak : Cell} {lo k : Nat} {f : Nat → Value} {v : Value} (h : Laid A Ak lo k f) (hlo : lo ≤ k) (hk : k < Ak.slots.size) (hv : v = f k) : Laid A (Ak.setSlot k v) lo (k + 1) f := by
  refine ⟨h.1, h.2.1, by simpa [Cell.setSlot] using h.2.2.1, fun i => ?_⟩
  by_cases e : k = i
  · subst e; rw [Cell.slots_setSlot_self v hk, if_pos (by omega), hv]
  · rw [Cell.slots_setSlot_ne v e, h.2.2.2 i]
    by_cases q : lo ≤ i ∧ i < k
    · rw [if_pos q, if_pos (by omega)]
    · rw [if_neg q, if_neg (by omega)]
def U16 : String := "java/lang/StringUTF16"
namespace Cmp5
def yN : MethodName := ⟨"java/lang/StringUTF16", "compress", "([CI[BII)I"⟩
abbrev yB : ByteArray := jdk_52_method_21_code
theorem d0 : decode yB 0 = .ok (.iconst 0, 1) := by decide +kernel
theorem d1 : decode yB 1 = .ok (.istore 5, 2) := by decide +kernel
theorem d3 : decode yB 3 = .ok (.iload 5, 2) := by decide +kernel
theorem d5 : decode yB 5 = .ok (.iload 4, 2) := by decide +kernel
theorem d7 : decode yB 7 = .ok (.if_icmp (.ge) 37, 3) := by decide +kernel
theorem d10 : decode yB 10 = .ok (.aload_n 0, 1) := by decide +kernel
theorem d11 : decode yB 11 = .ok (.iload_n 1, 1) := by decide +kernel
theorem d12 : decode yB 12 = .ok (.caload, 1) := by decide +kernel
theorem d13 : decode yB 13 = .ok (.istore 6, 2) := by decide +kernel
theorem d15 : decode yB 15 = .ok (.iload 6, 2) := by decide +kernel
theorem d17 : decode yB 17 = .ok (.sipush 255, 3) := by decide +kernel
theorem d20 : decode yB 20 = .ok (.if_icmp (.le) 6, 3) := by decide +kernel
theorem d26 : decode yB 26 = .ok (.aload_n 2, 1) := by decide +kernel
theorem d27 : decode yB 27 = .ok (.iload_n 3, 1) := by decide +kernel
theorem d28 : decode yB 28 = .ok (.iload 6, 2) := by decide +kernel
theorem d30 : decode yB 30 = .ok (.i2b, 1) := by decide +kernel
theorem d31 : decode yB 31 = .ok (.bastore, 1) := by decide +kernel
theorem d32 : decode yB 32 = .ok (.iinc 1 1, 3) := by decide +kernel
theorem d35 : decode yB 35 = .ok (.iinc 3 1, 3) := by decide +kernel
theorem d38 : decode yB 38 = .ok (.iinc 5 1, 3) := by decide +kernel
theorem d41 : decode yB 41 = .ok (.goto (-38), 3) := by decide +kernel
theorem d44 : decode yB 44 = .ok (.iload 4, 2) := by decide +kernel
theorem d46 : decode yB 46 = .ok (.ireturn, 1) := by decide +kernel
def site : List Cond := []
def tab : Cond := tabOf yN yB 7 (some .int) site
def P (b : Addr) (A : Cell) (d : Addr) (B : Cell) (o q len : Nat) (args : Array Value) (s : State) : Prop := args = #[.ref b, .int (Int32.ofNat o), .ref d, .int (Int32.ofNat q), .int (Int32.ofNat len)] ∧ Ch b A s ∧ Arr .byte d B s ∧ b ≠ d ∧ o + len ≤ A.slots.size ∧ q + len ≤ B.slots.size ∧ ∀ i, i < len → ¬ 255 < cv A (o + i)
def E (b : Addr) (A : Cell) (d : Addr) (B : Cell) (o q len : Nat) (r : Option Value) (s u : State) : Prop := r = some (.int (Int32.ofNat len)) ∧ ∃ B', Put d B' s u ∧ Laid B B' q (q + len) (fun j => Value.int (lo8 (cv A (o + (j - q)))))
/-- no char of the range above 255: len; the places written hold each char's low byte -/
theorem law (l : Launch) (b : Addr) (A : Cell) (d : Addr) (B : Cell) (o q len : Nat) : Law l yN 5 5 0 0 yB 7 (some .int) site (P b A d B o q len) (E b A d B o q len) (copyLocs d q len) 0 0 := by
  refine Law.of_walk (plainFor_of_name (by decide +kernel)) (by decide +kernel) (by decide +kernel) (by decide) (fun _ _ h => by rw [h.1]; rfl) (fun _ U U' hal hh h => ⟨h.1, h.2.1.mv hal hh, h.2.2.1.mv hal hh, h.2.2.2⟩) (fun r U U' V V' h1 hal h2 h => ⟨h.1, h.2.elim fun B' q => ⟨B', q.1.mv h1 h2, q.2⟩⟩) ?_
  intro p e s m args below meth c s₁ X0 hexec hbytes hml hret hlk hnm hown hh0 W hP
  obtain ⟨rfl, hA, hB, hne, l1, l2, hp⟩ := hP
  have c1 : Steps p.tables e below (s₁.setTop (entryFrame m #[.ref b, .int (Int32.ofNat o), .ref d, .int (Int32.ofNat q), .int (Int32.ofNat len)] 7)) (s₁.setTop (mkF m 0 #[.val (.ref b), .val (.int (Int32.ofNat o)), .val (.ref d), .val (.int (Int32.ofNat q)), .val (.int (Int32.ofNat len)), .unset, .unset] [])) := entry rfl
  have hA0 := hA.1.mv X0.warmed.alike hh0
  have hB0 := hB.mv X0.warmed.alike hh0
  have a31 := hA.1.2.2.2
  have c2 : Steps p.tables e below (s₁.setTop (entryFrame m #[.ref b, .int (Int32.ofNat o), .ref d, .int (Int32.ofNat q), .int (Int32.ofNat len)] 7)) (s₁.setTop (mkF m 3 #[.val (.ref b), .val (.int (Int32.ofNat o)), .val (.ref d), .val (.int (Int32.ofNat q)), .val (.int (Int32.ofNat len)), .val (.int 0), .unset] [])) := c1.trans (by
    refine iconstV X0.here hexec rfl 0 (hb hbytes d0) (by decide) ?_
    refine XS.istore X0.here hexec rfl (hb hbytes d1) rfl rfl ?_
    exact Steps.refl _)
  have loop : ∀ (r i : Nat), i + r = len → ∀ (z : Slot), (z = .unset ∨ ∃ w, z = .val w ∧ w.category = 1) → ∀ (Tl : State) (Bk : Cell), Stand p l e { frames := 0, locals := 0, cells := 0, slots := 0 } s m #[.ref b, .int (Int32.ofNat o), .ref d, .int (Int32.ofNat q), .int (Int32.ofNat len)] below meth c Tl ([] ++ copyLocs d q i) 0 0 → Put d Bk s₁ Tl → Laid B Bk q (q + i) (fun j => Value.int (lo8 (cv A (o + (j - q))))) →
      Steps p.tables e below (s₁.setTop (entryFrame m #[.ref b, .int (Int32.ofNat o), .ref d, .int (Int32.ofNat q), .int (Int32.ofNat len)] 7)) (Tl.setTop (mkF m 3 #[.val (.ref b), .val (.int (Int32.ofNat (o + i))), .val (.ref d), .val (.int (Int32.ofNat (q + i))), .val (.int (Int32.ofNat len)), .val (.int (Int32.ofNat i)), z] [])) → ∃ (T' : State) (B' : Cell) (z' : Slot), Stand p l e { frames := 0, locals := 0, cells := 0, slots := 0 } s m #[.ref b, .int (Int32.ofNat o), .ref d, .int (Int32.ofNat q), .int (Int32.ofNat len)] below meth c T' ([] ++ copyLocs d q len) 0 0 ∧ Put d B' s₁ T' ∧ Laid B B' q (q + len) (fun j => Value.int (lo8 (cv A (o + (j - q))))) ∧
      Steps p.tables e below (s₁.setTop (entryFrame m #[.ref b, .int (Int32.ofNat o), .ref d, .int (Int32.ofNat q), .int (Int32.ofNat len)] 7)) (T'.setTop (mkF m 3 #[.val (.ref b), .val (.int (Int32.ofNat (o + len))), .val (.ref d), .val (.int (Int32.ofNat (q + len))), .val (.int (Int32.ofNat len)), .val (.int (Int32.ofNat len)), z'] [])) := by
    intro r
    induction r with
    | zero =>
      intro i hi z hz Tl Bk Xl pl fl cl
      have hil : i = len := by omega
      rw [hil] at Xl fl cl
      exact ⟨Tl, Bk, z, Xl, pl, fl, cl⟩
    | succ r ih =>
      intro i hi z hz Tl Bk Xl pl fl cl
      have all := X0.warmed.alike.symm.trans Xl.warmed.alike
      have hAl := hA0.keep all (pl.other hne hA0.1)
      have hBk := hB0.like all pl.1 fl.1 fl.2.1 fl.2.2.1
      have hlt : q + i < Bk.slots.size := by rw [fl.2.2.1]; omega
      have c3 : Steps p.tables e below (s₁.setTop (entryFrame m #[.ref b, .int (Int32.ofNat o), .ref d, .int (Int32.ofNat q), .int (Int32.ofNat len)] 7)) (Tl.setTop (mkF m 12 #[.val (.ref b), .val (.int (Int32.ofNat (o + i))), .val (.ref d), .val (.int (Int32.ofNat (q + i))), .val (.int (Int32.ofNat len)), .val (.int (Int32.ofNat i)), z] [.int (Int32.ofNat (o + i)), .ref b])) := cl.trans (by
        refine XS.iload Xl.here hexec rfl (hb hbytes d3) rfl ?_
        refine XS.iload Xl.here hexec rfl (hb hbytes d5) rfl ?_
        refine XS.icmpNo Xl.here hexec rfl (hb hbytes d7) rfl (ii_ge_f (lt32 (by omega) (by omega))) ?_
        refine XS.aloadN Xl.here hexec rfl (hb hbytes d10) rfl rfl ?_
        refine XS.iloadN Xl.here hexec rfl (hb hbytes d11) rfl ?_
        exact Steps.refl _)
      have c4 : Steps p.tables e below (s₁.setTop (entryFrame m #[.ref b, .int (Int32.ofNat o), .ref d, .int (Int32.ofNat q), .int (Int32.ofNat len)] 7)) (Tl.setTop (mkF m 13 #[.val (.ref b), .val (.int (Int32.ofNat (o + i))), .val (.ref d), .val (.int (Int32.ofNat (q + i))), .val (.int (Int32.ofNat len)), .val (.int (Int32.ofNat i)), z] [.int (cv A (o + i))])) := c3.trans (by
        refine Xl.aget hexec hAl rfl (hA.get (i := o + i) (by omega)) rfl rfl (hb hbytes d12) ?_
        exact Steps.refl _)
      have c5 : Steps p.tables e below (s₁.setTop (entryFrame m #[.ref b, .int (Int32.ofNat o), .ref d, .int (Int32.ofNat q), .int (Int32.ofNat len)] 7)) (Tl.setTop (mkF m 15 #[.val (.ref b), .val (.int (Int32.ofNat (o + i))), .val (.ref d), .val (.int (Int32.ofNat (q + i))), .val (.int (Int32.ofNat len)), .val (.int (Int32.ofNat i)), .val (.int (cv A (o + i)))] [])) := c4.trans (by
        refine XS.istoreS Xl.here hexec rfl (hb hbytes d13) rfl rfl hz ?_
        exact Steps.refl _)
      have c6 : Steps p.tables e below (s₁.setTop (entryFrame m #[.ref b, .int (Int32.ofNat o), .ref d, .int (Int32.ofNat q), .int (Int32.ofNat len)] 7)) (Tl.setTop (mkF m 31 #[.val (.ref b), .val (.int (Int32.ofNat (o + i))), .val (.ref d), .val (.int (Int32.ofNat (q + i))), .val (.int (Int32.ofNat len)), .val (.int (Int32.ofNat i)), .val (.int (cv A (o + i)))] [.int (lo8 (cv A (o + i))), .int (Int32.ofNat (q + i)), .ref d])) := c5.trans (by
        refine XS.iload Xl.here hexec rfl (hb hbytes d15) rfl ?_
        refine sipushV Xl.here hexec rfl 255 (hb hbytes d17) (by decide) ?_
        refine XS.icmpYes Xl.here hexec rfl (pc0 := 20) rfl (hb hbytes d20) rfl (ii_le_t (hp i (by omega))) (by decide) rfl ?_
        refine XS.aloadN Xl.here hexec rfl (hb hbytes d26) rfl rfl ?_
        refine XS.iloadN Xl.here hexec rfl (hb hbytes d27) rfl ?_
        refine XS.iload Xl.here hexec rfl (hb hbytes d28) rfl ?_
        refine i2b Xl.here hexec rfl (hb hbytes d30) rfl ?_
        exact Steps.refl _)
      obtain ⟨T7, X7, p7, st7⟩ := Xl.aput hexec hBk rfl hlt rfl (fits_lo8 (cv A (o + i))) (g := (mkF m 31 #[.val (.ref b), .val (.int (Int32.ofNat (o + i))), .val (.ref d), .val (.int (Int32.ofNat (q + i))), .val (.int (Int32.ofNat len)), .val (.int (Int32.ofNat i)), .val (.int (cv A (o + i)))] [.int (lo8 (cv A (o + i))), .int (Int32.ofNat (q + i)), .ref d])) rfl (rest := []) rfl (hb hbytes d31)
      have c8 : Steps p.tables e below (s₁.setTop (entryFrame m #[.ref b, .int (Int32.ofNat o), .ref d, .int (Int32.ofNat q), .int (Int32.ofNat len)] 7)) (T7.setTop (mkF m 32 #[.val (.ref b), .val (.int (Int32.ofNat (o + i))), .val (.ref d), .val (.int (Int32.ofNat (q + i))), .val (.int (Int32.ofNat len)), .val (.int (Int32.ofNat i)), .val (.int (cv A (o + i)))] [])) := c6.trans (st7 _ (Steps.refl _))
      have c9 : Steps p.tables e below (s₁.setTop (entryFrame m #[.ref b, .int (Int32.ofNat o), .ref d, .int (Int32.ofNat q), .int (Int32.ofNat len)] 7)) (T7.setTop (mkF m 3 #[.val (.ref b), .val (.int (Int32.ofNat (o + i) + 1)), .val (.ref d), .val (.int (Int32.ofNat (q + i) + 1)), .val (.int (Int32.ofNat len)), .val (.int (Int32.ofNat i + 1)), .val (.int (cv A (o + i)))] [])) := c8.trans (by
        refine iincV X7.here hexec rfl 1 (hb hbytes d32) (by decide) rfl rfl ?_
        refine iincV X7.here hexec rfl 1 (hb hbytes d35) (by decide) rfl rfl ?_
        refine iincV X7.here hexec rfl 1 (hb hbytes d38) (by decide) rfl rfl ?_
        refine XS.goto X7.here hexec rfl (pc0 := 41) rfl (hb hbytes d41) (by decide) rfl ?_
        exact Steps.refl _)
      have c10 : Steps p.tables e below (s₁.setTop (entryFrame m #[.ref b, .int (Int32.ofNat o), .ref d, .int (Int32.ofNat q), .int (Int32.ofNat len)] 7)) (T7.setTop (mkF m 3 #[.val (.ref b), .val (.int (Int32.ofNat (o + (i + 1)))), .val (.ref d), .val (.int (Int32.ofNat (q + (i + 1)))), .val (.int (Int32.ofNat len)), .val (.int (Int32.ofNat (i + 1))), .val (.int (cv A (o + i)))] [])) := by
        have := c9
        rw [succ32, succ32, succ32] at this
        exact this
      exact ih (i + 1) (by omega) _ (Or.inr ⟨_, rfl, rfl⟩) T7 _ (by rw [copyLocs_step, ← List.append_assoc]; exact X7) (pl.trans p7) (fl.step (by omega) hlt (by simp)) c10
  obtain ⟨T9, B9, z9, X9, p9, f9, g9⟩ := loop len 0 (by omega) .unset (Or.inl rfl) s₁ B (by simpa [copyLocs] using X0) ⟨hB0.1, fun _ _ => rfl, rfl⟩ (Laid.zero _ _ _) c2
  have c11 : Steps p.tables e below (s₁.setTop (entryFrame m #[.ref b, .int (Int32.ofNat o), .ref d, .int (Int32.ofNat q), .int (Int32.ofNat len)] 7)) (T9.setTop (mkF m 46 #[.val (.ref b), .val (.int (Int32.ofNat (o + len))), .val (.ref d), .val (.int (Int32.ofNat (q + len))), .val (.int (Int32.ofNat len)), .val (.int (Int32.ofNat len)), z9] [.int (Int32.ofNat len)])) := g9.trans (by
    refine XS.iload X9.here hexec rfl (hb hbytes d3) rfl ?_
    refine XS.iload X9.here hexec rfl (hb hbytes d5) rfl ?_
    refine XS.icmpYes X9.here hexec rfl (pc0 := 7) rfl (hb hbytes d7) rfl (ii_ge_t (nlt32 (by omega) (Nat.le_refl _))) (by decide) rfl ?_
    refine XS.iload X9.here hexec rfl (hb hbytes d44) rfl ?_
    exact Steps.refl _)
  exact ⟨T9, some (.int (Int32.ofNat len)), _, _, _, X9, by simp, rfl, rfl, (fun h => by cases h), ⟨rfl, B9, p9.from hh0, f9⟩, fun fs hl => c11.trans (X9.ireturnOut hexec hret rfl (Or.inl rfl) (hb hbytes d46) hl)⟩
end Cmp5
namespace Cmp3
def yN : MethodName := ⟨"java/lang/StringUTF16", "compress", "([CII)[B"⟩
abbrev yB : ByteArray := jdk_52_method_16_code
theorem d0 : decode yB 0 = .ok (.iload_n 2, 1) := by decide +kernel
theorem d1 : decode yB 1 = .ok (.newarray .byte, 2) := by decide +kernel
theorem d3 : decode yB 3 = .ok (.astore_n 3, 1) := by decide +kernel
theorem d4 : decode yB 4 = .ok (.aload_n 0, 1) := by decide +kernel
theorem d5 : decode yB 5 = .ok (.iload_n 1, 1) := by decide +kernel
theorem d6 : decode yB 6 = .ok (.aload_n 3, 1) := by decide +kernel
theorem d7 : decode yB 7 = .ok (.iconst 0, 1) := by decide +kernel
theorem d8 : decode yB 8 = .ok (.iload_n 2, 1) := by decide +kernel
theorem d9 : decode yB 9 = .ok (.invokestatic 115, 3) := by decide +kernel
theorem d12 : decode yB 12 = .ok (.istore 4, 2) := by decide +kernel
theorem d14 : decode yB 14 = .ok (.iload 4, 2) := by decide +kernel
theorem d16 : decode yB 16 = .ok (.iload_n 2, 1) := by decide +kernel
theorem d17 : decode yB 17 = .ok (.if_icmp (.eq) 40, 3) := by decide +kernel
theorem d57 : decode yB 57 = .ok (.aload_n 3, 1) := by decide +kernel
theorem d58 : decode yB 58 = .ok (.areturn, 1) := by decide +kernel
def site : List Cond := [.arrayClass .byte, Cmp5.tab] ++ staticW U16 115 Cmp5.yN
def tab : Cond := tabOf yN yB 6 (some (.array .byte)) site
def P (b : Addr) (A : Cell) (o len : Nat) (args : Array Value) (s : State) : Prop := args = #[.ref b, .int (Int32.ofNat o), .int (Int32.ofNat len)] ∧ Ch b A s ∧ o + len ≤ A.slots.size ∧ len ≤ 536870912 ∧ ∀ i, i < len → ¬ 255 < cv A (o + i)
def E (b : Addr) (A : Cell) (o len : Nat) (r : Option Value) (s u : State) : Prop := NewArr .byte "[B" len (fun j => .int (lo8 (cv A (o + j)))) r s u ∧ u.heap.size = s.heap.size + 1
/-- no char of the range above 255: a new byte[] of their low bytes -/
theorem law (l : Launch) (b : Addr) (A : Cell) (o len : Nat) : Law l yN 3 3 1 18 yB 6 (some (.array .byte)) site (P b A o len) (E b A o len) [] 1 len := by
  refine Law.of_walk (plainFor_of_name (by decide +kernel)) (by decide +kernel) (by decide +kernel) (by decide) (fun _ _ h => by rw [h.1]; rfl) (fun _ U U' hal hh h => ⟨h.1, h.2.1.mv hal hh, h.2.2⟩) (fun r U U' V V' h1 hal h2 h => ⟨NewArr.mv r U U' V V' h1 hal h2 h.1, by rw [h1, h2]; exact h.2⟩) ?_
  intro p e s m args below meth c s₁ X0 hexec hbytes hml hret hlk hnm hown hh0 W hP
  obtain ⟨rfl, hA, l1, l2, hp⟩ := hP
  have a31 := hA.1.2.2.2
  have c1 : Steps p.tables e below (s₁.setTop (entryFrame m #[.ref b, .int (Int32.ofNat o), .int (Int32.ofNat len)] 6)) (s₁.setTop (mkF m 0 #[.val (.ref b), .val (.int (Int32.ofNat o)), .val (.int (Int32.ofNat len)), .unset, .unset, .unset] [])) := entry rfl
  have c2 : Steps p.tables e below (s₁.setTop (entryFrame m #[.ref b, .int (Int32.ofNat o), .int (Int32.ofNat len)] 6)) (s₁.setTop (mkF m 1 #[.val (.ref b), .val (.int (Int32.ofNat o)), .val (.int (Int32.ofNat len)), .unset, .unset, .unset] [.int (Int32.ofNat len)])) := c1.trans (by
    refine XS.iloadN X0.here hexec rfl (hb hbytes d0) rfl ?_
    exact Steps.refl _)
  obtain ⟨T3, B3, X3, ba3, bs3, bv3, bh3, bf3, st3⟩ := X0.anew hexec (atype := .byte) (wk W (.arrayClass .byte)) rfl (by show len * 1 ≤ _; omega) (by omega) (g := (mkF m 1 #[.val (.ref b), .val (.int (Int32.ofNat o)), .val (.int (Int32.ofNat len)), .unset, .unset, .unset] [.int (Int32.ofNat len)])) rfl (hb hbytes d1) (rest := []) rfl (Nat.le_refl _) (by show 0 + len ≤ len; omega)
  rw [hh0] at ba3 st3
  have kp3 : XT.Kept s T3 := (XT.Kept.of_eq hh0).push bh3
  have hA3 := hA.keep X3.warmed.alike (kp3 _ _ hA.1.1)
  have hne : b ≠ s.heap.size := hA.1.ne
  have c4 : Steps p.tables e below (s₁.setTop (entryFrame m #[.ref b, .int (Int32.ofNat o), .int (Int32.ofNat len)] 6)) (T3.setTop (mkF m 3 #[.val (.ref b), .val (.int (Int32.ofNat o)), .val (.int (Int32.ofNat len)), .unset, .unset, .unset] [.ref s.heap.size])) := c2.trans (st3 _ (Steps.refl _))
  have c5 : Steps p.tables e below (s₁.setTop (entryFrame m #[.ref b, .int (Int32.ofNat o), .int (Int32.ofNat len)] 6)) (T3.setTop (mkF m 9 #[.val (.ref b), .val (.int (Int32.ofNat o)), .val (.int (Int32.ofNat len)), .val (.ref s.heap.size), .unset, .unset] [.int (Int32.ofNat len), .int 0, .ref s.heap.size, .int (Int32.ofNat o), .ref b])) := c4.trans (by
    refine XS.astoreN X3.here hexec rfl (hb hbytes d3) rfl rfl rfl ?_
    refine XS.aloadN X3.here hexec rfl (hb hbytes d4) rfl rfl ?_
    refine XS.iloadN X3.here hexec rfl (hb hbytes d5) rfl ?_
    refine XS.aloadN X3.here hexec rfl (hb hbytes d6) rfl rfl ?_
    refine iconstV X3.here hexec rfl 0 (hb hbytes d7) (by decide) ?_
    refine XS.iloadN X3.here hexec rfl (hb hbytes d8) rfl ?_
    exact Steps.refl _)
  obtain ⟨v6, T6, X6, E6, g6⟩ := X3.callS hexec (Cmp5.law l b A s.heap.size B3 o 0 len) hown (wks W (staticW U16 115 Cmp5.yN)) (wk W Cmp5.tab) (W := 0) (Nat.le_of_ble_eq_true rfl) (Nat.le_of_ble_eq_true rfl) (Nat.le_refl _) (by show 0 + len + 0 ≤ len; omega) (g := (mkF m 9 #[.val (.ref b), .val (.int (Int32.ofNat o)), .val (.int (Int32.ofNat len)), .val (.ref s.heap.size), .unset, .unset] [.int (Int32.ofNat len), .int (Int32.ofNat 0), .ref s.heap.size, .int (Int32.ofNat o), .ref b])) rfl (by rw [hml]; rfl) c5 (argsL := [.ref b, .int (Int32.ofNat o), .ref s.heap.size, .int (Int32.ofNat 0), .int (Int32.ofNat len)]) (rest := []) rfl rfl (by show 2 * 0 + 0 ≤ _; decide) (hb hbytes d9) (⟨rfl, hA3, ba3, hne, l1, by rw [bs3]; simp, hp⟩)
  obtain ⟨rfl, B6, p6, f6⟩ := E6
  have c7 : Steps p.tables e below (s₁.setTop (entryFrame m #[.ref b, .int (Int32.ofNat o), .int (Int32.ofNat len)] 6)) (T6.setTop (mkF m 12 #[.val (.ref b), .val (.int (Int32.ofNat o)), .val (.int (Int32.ofNat len)), .val (.ref s.heap.size), .unset, .unset] [.int (Int32.ofNat len)])) := g6
  have c8 : Steps p.tables e below (s₁.setTop (entryFrame m #[.ref b, .int (Int32.ofNat o), .int (Int32.ofNat len)] 6)) (T6.setTop (mkF m 58 #[.val (.ref b), .val (.int (Int32.ofNat o)), .val (.int (Int32.ofNat len)), .val (.ref s.heap.size), .val (.int (Int32.ofNat len)), .unset] [.ref s.heap.size])) := c7.trans (by
    refine XS.istore X6.here hexec rfl (hb hbytes d12) rfl rfl ?_
    refine XS.iload X6.here hexec rfl (hb hbytes d14) rfl ?_
    refine XS.iloadN X6.here hexec rfl (hb hbytes d16) rfl ?_
    refine XS.icmpYes X6.here hexec rfl (pc0 := 17) rfl (hb hbytes d17) rfl (ii_eq_t rfl) (by decide) rfl ?_
    refine XS.aloadN X6.here hexec rfl (hb hbytes d57) rfl rfl ?_
    exact Steps.refl _)
  have X8 := X6.wide (L' := []) (cells' := 1) (slots' := len) (fun x hx hlt => by
    simp only [List.nil_append, copyLocs, List.mem_map, List.mem_range] at hx
    obtain ⟨i, -, rfl⟩ := hx
    exact absurd hlt (Nat.lt_irrefl _)) (Nat.le_refl _) (by omega)
  exact ⟨T6, some (.ref s.heap.size), _, _, _, X8, rfl, rfl, rfl, (fun h => by cases h), ⟨⟨rfl, B6, ba3.like (X3.warmed.alike.symm.trans X6.warmed.alike) p6.1 f6.1 f6.2.1 f6.2.2.1, f6.2.1.trans bv3, by rw [X6.warmed.alike.findClass, f6.1]; exact bf3, by rw [f6.2.2.1, bs3]; simp, fun j hj => by rw [f6.2.2.2 j, if_pos (by omega)]; rfl, kp3.put p6 (Nat.le_refl _)⟩, by rw [p6.2.2, bh3, hh0]; simp⟩, fun fs hl => c8.trans (X8.areturnOut hexec rfl hret rfl (hb hbytes d58) hl)⟩
end Cmp3
namespace CodL
def yN : MethodName := ⟨"java/lang/StringUTF16", "coderFromArrayLen", "([BI)B"⟩
abbrev yB : ByteArray := jdk_52_method_15_code
theorem d0 : decode yB 0 = .ok (.iload_n 1, 1) := by decide +kernel
theorem d1 : decode yB 1 = .ok (.aload_n 0, 1) := by decide +kernel
theorem d2 : decode yB 2 = .ok (.arraylength, 1) := by decide +kernel
theorem d3 : decode yB 3 = .ok (.isub, 1) := by decide +kernel
theorem d4 : decode yB 4 = .ok (.bipush 31, 2) := by decide +kernel
theorem d6 : decode yB 6 = .ok (.iushr, 1) := by decide +kernel
theorem d7 : decode yB 7 = .ok (.i2b, 1) := by decide +kernel
theorem d8 : decode yB 8 = .ok (.ireturn, 1) := by decide +kernel
def site : List Cond := []
def tab : Cond := tabOf yN yB 2 (some .byte) site
def P (d : Addr) (B : Cell) (args : Array Value) (s : State) : Prop := args = #[.ref d, .int (Int32.ofNat B.slots.size)] ∧ Arr .byte d B s
def E (r : Option Value) (s u : State) : Prop := XT.PureE (some (.int 0)) r s u
/-- an array as long as the number of chars: LATIN1 -/
theorem law (l : Launch) (d : Addr) (B : Cell) : Law l yN 2 2 0 0 yB 2 (some .byte) site (P d B) E [] 0 0 := by
  refine Law.of_walk (plainFor_of_name (by decide +kernel)) (by decide +kernel) (by decide +kernel) (by decide) (fun _ _ h => by rw [h.1]; rfl) (fun _ U U' hal hh h => ⟨h.1, h.2.mv hal hh⟩) (fun r U U' V V' h1 hal h2 h => XT.PureE.mv r U U' V V' h1 hal h2 h) ?_
  intro p e s m args below meth c s₁ X0 hexec hbytes hml hret hlk hnm hown hh0 W hP
  obtain ⟨rfl, hB⟩ := hP
  have hB0 := hB.mv X0.warmed.alike hh0
  have c1 : Steps p.tables e below (s₁.setTop (entryFrame m #[.ref d, .int (Int32.ofNat B.slots.size)] 2)) (s₁.setTop (mkF m 0 #[.val (.ref d), .val (.int (Int32.ofNat B.slots.size))] [])) := entry rfl
  have c2 : Steps p.tables e below (s₁.setTop (entryFrame m #[.ref d, .int (Int32.ofNat B.slots.size)] 2)) (s₁.setTop (mkF m 2 #[.val (.ref d), .val (.int (Int32.ofNat B.slots.size))] [.ref d, .int (Int32.ofNat B.slots.size)])) := c1.trans (by
    refine XS.iloadN X0.here hexec rfl (hb hbytes d0) rfl ?_
    refine XS.aloadN X0.here hexec rfl (hb hbytes d1) rfl rfl ?_
    exact Steps.refl _)
  have c3 : Steps p.tables e below (s₁.setTop (entryFrame m #[.ref d, .int (Int32.ofNat B.slots.size)] 2)) (s₁.setTop (mkF m 8 #[.val (.ref d), .val (.int (Int32.ofNat B.slots.size))] [.int (lo8 (ushr (Int32.ofNat B.slots.size - Int32.ofNat B.slots.size) 31))])) := c2.trans (by
    refine X0.alen hexec hB0 rfl rfl (hb hbytes d2) ?_
    refine XS.isub X0.here hexec rfl (hb hbytes d3) rfl ?_
    refine bipushV X0.here hexec rfl 31 (hb hbytes d4) (by decide) ?_
    refine iushr X0.here hexec rfl (hb hbytes d6) rfl ?_
    refine i2b X0.here hexec rfl (hb hbytes d7) rfl ?_
    exact Steps.refl _)
  have e0 : lo8 (ushr (Int32.ofNat B.slots.size - Int32.ofNat B.slots.size) 31) = 0 := by rw [Int32.sub_self]; decide
  rw [e0] at c3
  exact ⟨s₁, some (.int 0), _, _, _, X0, rfl, rfl, rfl, (fun h => by cases h), ⟨rfl, hh0⟩, fun fs hl => c3.trans (X0.ireturnOut hexec hret rfl (Or.inr (Or.inr (Or.inl rfl))) (hb hbytes d8) hl)⟩
end CodL
/-- the String at a is Latin-1 over a new byte[] (the heap's one new cell): the low bytes of the len chars of A from o on; every cell but a is kept -/
def Got (a : Addr) (D : Cell) (fV fC : Field) (A : Cell) (o len : Nat) (r : Option Value) (s u : State) : Prop := r = none ∧ ∃ D' V : Cell, Blank "java/lang/String" a D' u ∧ Same D D' [fV.slot, fC.slot] ∧ D'.slots[fV.slot]? = some (.ref s.heap.size) ∧ D'.slots[fC.slot]? = some (.int 0) ∧ Arr .byte s.heap.size V u ∧ V.vm = .none ∧ u.vm.findClass "[B" = some V.cls ∧ V.slots.size = len ∧ (∀ j, j < len → V.slots[j]? = some (.int (lo8 (cv A (o + j))))) ∧ (∀ (y : Addr) (c : Cell), y ≠ a → s.heap[y]? = some c → u.heap[y]? = some c) ∧ u.heap.size = s.heap.size + 1
theorem Got.mv {a : Addr} {D A : Cell} {fV fC : Field} {o len : Nat} : ∀ r (U U' V V' : State), U'.heap = U.heap → V.vm.Alike V'.vm → V'.heap = V.heap → Got a D fV fC A o len r U V → Got a D fV fC A o len r U' V' :=
  fun r U U' V V' h1 hal h2 ⟨e0, D', X, a1, a2, a3, a4, a5, a6, a7, a8, a9, a10, a11⟩ => ⟨e0, D', X, a1.mv hal h2, a2, by rw [h1]; exact a3, a4, by rw [h1]; exact a5.mv hal h2, a6, by rw [hal.findClass]; exact a7, a8, a9, by rw [h1, h2]; exact a10, by rw [h1, h2]; exact a11⟩
namespace New4
def yN : MethodName := ⟨"java/lang/String", "<init>", "([CIILjava/lang/Void;)V"⟩
abbrev yB : ByteArray := jdk_42_method_149_code
theorem d0 : decode yB 0 = .ok (.aload_n 0, 1) := by decide +kernel
theorem d1 : decode yB 1 = .ok (.invokespecial 1, 3) := by decide +kernel
theorem d4 : decode yB 4 = .ok (.iload_n 3, 1) := by decide +kernel
theorem d5 : decode yB 5 = .ok (.ifCond (.ne) 22, 3) := by decide +kernel
theorem d27 : decode yB 27 = .ok (.getstatic 38, 3) := by decide +kernel
theorem d30 : decode yB 30 = .ok (.ifCond (.eq) 28, 3) := by decide +kernel
theorem d33 : decode yB 33 = .ok (.aload_n 1, 1) := by decide +kernel
theorem d34 : decode yB 34 = .ok (.iload_n 2, 1) := by decide +kernel
theorem d35 : decode yB 35 = .ok (.iload_n 3, 1) := by decide +kernel
theorem d36 : decode yB 36 = .ok (.invokestatic 177, 3) := by decide +kernel
theorem d39 : decode yB 39 = .ok (.astore 5, 2) := by decide +kernel
theorem d41 : decode yB 41 = .ok (.aload_n 0, 1) := by decide +kernel
theorem d42 : decode yB 42 = .ok (.aload 5, 2) := by decide +kernel
theorem d44 : decode yB 44 = .ok (.iload_n 3, 1) := by decide +kernel
theorem d45 : decode yB 45 = .ok (.invokestatic 47, 3) := by decide +kernel
theorem d48 : decode yB 48 = .ok (.putfield 15, 3) := by decide +kernel
theorem d51 : decode yB 51 = .ok (.aload_n 0, 1) := by decide +kernel
theorem d52 : decode yB 52 = .ok (.aload 5, 2) := by decide +kernel
theorem d54 : decode yB 54 = .ok (.putfield 9, 3) := by decide +kernel
theorem d57 : decode yB 57 = .ok (.return_, 1) := by decide +kernel
def site : List Cond := [.fieldLink "java/lang/String" 38 "java/lang/String" "COMPACT_STRINGS" "Z", Cmp3.tab, CodL.tab, .laysFinal "java/lang/String" "java/lang/String" "value" "[B", .fieldLink "java/lang/String" 9 "java/lang/String" "value" "[B", .laysFinal "java/lang/String" "java/lang/String" "coder" "B", .fieldLink "java/lang/String" 15 "java/lang/String" "coder" "B"] ++ objW "java/lang/String" 1 ++ staticW "java/lang/String" 177 Cmp3.yN ++ staticW "java/lang/String" 47 CodL.yN
def tab : Cond := tabOf yN yB 6 none site
def P (a : Addr) (D : Cell) (fV fC : Field) (b : Addr) (A : Cell) (z : Int32) (o len : Nat) (args : Array Value) (s : State) : Prop := args = #[.ref a, .ref b, .int (Int32.ofNat o), .int (Int32.ofNat len), .null] ∧ Blank "java/lang/String" a D s ∧ Found "java/lang/String" "value" "[B" fV s ∧ Found "java/lang/String" "coder" "B" fC s ∧ Ch b A s ∧ StaticIs s "java/lang/String" "COMPACT_STRINGS" "Z" (.int z) ∧ ¬ z = 0 ∧ 0 < len ∧ o + len ≤ A.slots.size ∧ len ≤ 536870912 ∧ ∀ i, i < len → ¬ 255 < cv A (o + i)
def E (a : Addr) (D : Cell) (fV fC : Field) (A : Cell) (o len : Nat) (r : Option Value) (s u : State) : Prop := Got a D fV fC A o len r s u
/-- len > 0, no char of the range above 255: a Latin-1 String of their low bytes -/
theorem law (l : Launch) (a : Addr) (D : Cell) (fV fC : Field) (b : Addr) (A : Cell) (z : Int32) (o len : Nat) : Law l yN 5 4 2 35 yB 6 none site (P a D fV fC b A z o len) (E a D fV fC A o len) [⟨a, fC.slot⟩, ⟨a, fV.slot⟩] 1 len := by
  refine Law.of_walk (plainFor_of_name (by decide +kernel)) (by decide +kernel) (by decide +kernel) (by decide) (fun _ _ h => by rw [h.1]; rfl) (fun _ U U' hal hh h => ⟨h.1, h.2.1.mv hal hh, h.2.2.1.al hal, h.2.2.2.1.al hal, h.2.2.2.2.1.mv hal hh, h.2.2.2.2.2.1.there hal hh, h.2.2.2.2.2.2⟩) (fun r U U' V V' h1 hal h2 h => Got.mv r U U' V V' h1 hal h2 h) ?_
  intro p e s m args below meth c s₁ X0 hexec hbytes hml hret hlk hnm hown hh0 W hP
  obtain ⟨rfl, hB, f1, f2, hA, s1, hz, l0, l1, l2, hp⟩ := hP
  have a31 := hA.1.2.2.2
  have c1 : Steps p.tables e below (s₁.setTop (entryFrame m #[.ref a, .ref b, .int (Int32.ofNat o), .int (Int32.ofNat len), .null] 6)) (s₁.setTop (mkF m 0 #[.val (.ref a), .val (.ref b), .val (.int (Int32.ofNat o)), .val (.int (Int32.ofNat len)), .val .null, .unset] [])) := entry rfl
  have c2 : Steps p.tables e below (s₁.setTop (entryFrame m #[.ref a, .ref b, .int (Int32.ofNat o), .int (Int32.ofNat len), .null] 6)) (s₁.setTop (mkF m 1 #[.val (.ref a), .val (.ref b), .val (.int (Int32.ofNat o)), .val (.int (Int32.ofNat len)), .val .null, .unset] [.ref a])) := c1.trans (by
    refine XS.aloadN X0.here hexec rfl (hb hbytes d0) rfl rfl ?_
    exact Steps.refl _)
  obtain ⟨T3, X3, q3, st3⟩ := X0.oinit hexec hown (wks W (objW "java/lang/String" 1)) (g := (mkF m 1 #[.val (.ref a), .val (.ref b), .val (.int (Int32.ofNat o)), .val (.int (Int32.ofNat len)), .val .null, .unset] [.ref a])) rfl (by rw [hml]; rfl) (rest := []) rfl (hb hbytes d1) (W := 0) (by show 2 * 0 + 0 ≤ _; decide) (Nat.le_of_ble_eq_true rfl) (Nat.le_of_ble_eq_true rfl)
  have hh3 := q3.trans hh0
  have c4 : Steps p.tables e below (s₁.setTop (entryFrame m #[.ref a, .ref b, .int (Int32.ofNat o), .int (Int32.ofNat len), .null] 6)) (T3.setTop (mkF m 27 #[.val (.ref a), .val (.ref b), .val (.int (Int32.ofNat o)), .val (.int (Int32.ofNat len)), .val .null, .unset] [])) := (c2.trans (st3 _ (Steps.refl _))).trans (by
    refine XS.iloadN X3.here hexec rfl (hb hbytes d4) rfl ?_
    refine XS.ifYes X3.here hexec rfl (pc0 := 5) rfl (hb hbytes d5) rfl (i0_ne_t (nz32 (by omega) l0)) (by decide) rfl ?_
    exact Steps.refl _)
  obtain ⟨T5, X5, q5, st5⟩ := X3.sget hexec hown (wk W (.fieldLink "java/lang/String" 38 "java/lang/String" "COMPACT_STRINGS" "Z")) s1 (fun _ _ h => by rw [hh3]; exact h) (g := (mkF m 27 #[.val (.ref a), .val (.ref b), .val (.int (Int32.ofNat o)), .val (.int (Int32.ofNat len)), .val .null, .unset] [])) rfl (hb hbytes d27)
  have hh5 := q5.trans hh3
  have c6 : Steps p.tables e below (s₁.setTop (entryFrame m #[.ref a, .ref b, .int (Int32.ofNat o), .int (Int32.ofNat len), .null] 6)) (T5.setTop (mkF m 30 #[.val (.ref a), .val (.ref b), .val (.int (Int32.ofNat o)), .val (.int (Int32.ofNat len)), .val .null, .unset] [.int z])) := c4.trans (st5 _ (Steps.refl _))
  have c7 : Steps p.tables e below (s₁.setTop (entryFrame m #[.ref a, .ref b, .int (Int32.ofNat o), .int (Int32.ofNat len), .null] 6)) (T5.setTop (mkF m 36 #[.val (.ref a), .val (.ref b), .val (.int (Int32.ofNat o)), .val (.int (Int32.ofNat len)), .val .null, .unset] [.int (Int32.ofNat len), .int (Int32.ofNat o), .ref b])) := c6.trans (by
    refine XS.ifNo X5.here hexec rfl (hb hbytes d30) rfl (i0_eq_f hz) ?_
    refine XS.aloadN X5.here hexec rfl (hb hbytes d33) rfl rfl ?_
    refine XS.iloadN X5.here hexec rfl (hb hbytes d34) rfl ?_
    refine XS.iloadN X5.here hexec rfl (hb hbytes d35) rfl ?_
    exact Steps.refl _)
  obtain ⟨v8, T8, X8, E8, g8⟩ := X5.callS hexec (Cmp3.law l b A o len) hown (wks W (staticW "java/lang/String" 177 Cmp3.yN)) (wk W Cmp3.tab) (W := 0) (Nat.le_of_ble_eq_true rfl) (Nat.le_of_ble_eq_true rfl) (Nat.le_refl _) (by show 0 + len ≤ len; omega) (g := (mkF m 36 #[.val (.ref a), .val (.ref b), .val (.int (Int32.ofNat o)), .val (.int (Int32.ofNat len)), .val .null, .unset] [.int (Int32.ofNat len), .int (Int32.ofNat o), .ref b])) rfl (by rw [hml]; rfl) c7 (argsL := [.ref b, .int (Int32.ofNat o), .int (Int32.ofNat len)]) (rest := []) rfl rfl (by show 2 * 0 + 0 ≤ _; decide) (hb hbytes d36) (⟨rfl, hA.mv X5.warmed.alike hh5, l1, l2, hp⟩)
  obtain ⟨e8, z8⟩ := E8
  obtain ⟨rfl, N, n1, n2, n3, n4, n5, n6⟩ := NewArr.mv _ T5 s _ _ hh5.symm (Vm.Alike.refl _) rfl e8
  rw [hh5] at z8
  have hB1 := hB.keep X8.warmed.alike (n6 _ _ hB.1)
  have hne : s.heap.size ≠ a := (Nat.ne_of_lt (Array.getElem?_eq_some_iff.mp hB.1).1).symm
  have c9 : Steps p.tables e below (s₁.setTop (entryFrame m #[.ref a, .ref b, .int (Int32.ofNat o), .int (Int32.ofNat len), .null] 6)) (T8.setTop (mkF m 39 #[.val (.ref a), .val (.ref b), .val (.int (Int32.ofNat o)), .val (.int (Int32.ofNat len)), .val .null, .unset] [.ref s.heap.size])) := g8
  have c10 : Steps p.tables e below (s₁.setTop (entryFrame m #[.ref a, .ref b, .int (Int32.ofNat o), .int (Int32.ofNat len), .null] 6)) (T8.setTop (mkF m 45 #[.val (.ref a), .val (.ref b), .val (.int (Int32.ofNat o)), .val (.int (Int32.ofNat len)), .val .null, .val (.ref s.heap.size)] [.int (Int32.ofNat N.slots.size), .ref s.heap.size, .ref a])) := by
    have hc : Steps p.tables e below (s₁.setTop (entryFrame m #[.ref a, .ref b, .int (Int32.ofNat o), .int (Int32.ofNat len), .null] 6)) (T8.setTop (mkF m 45 #[.val (.ref a), .val (.ref b), .val (.int (Int32.ofNat o)), .val (.int (Int32.ofNat len)), .val .null, .val (.ref s.heap.size)] [.int (Int32.ofNat len), .ref s.heap.size, .ref a])) := c9.trans (by
      refine XS.astore X8.here hexec rfl (hb hbytes d39) rfl rfl rfl ?_
      refine XS.aloadN X8.here hexec rfl (hb hbytes d41) rfl rfl ?_
      refine XS.aload X8.here hexec rfl (hb hbytes d42) rfl rfl ?_
      refine XS.iloadN X8.here hexec rfl (hb hbytes d44) rfl ?_
      exact Steps.refl _)
    rw [n4]; exact hc
  obtain ⟨v11, T11, X11, E11, g11⟩ := X8.callS hexec (CodL.law l s.heap.size N) hown (wks W (staticW "java/lang/String" 47 CodL.yN)) (wk W CodL.tab) (W := 1) (Nat.le_of_ble_eq_true rfl) (Nat.le_of_ble_eq_true rfl) (Nat.le_refl _) (by show 0 + len + 0 ≤ len; omega) (g := (mkF m 45 #[.val (.ref a), .val (.ref b), .val (.int (Int32.ofNat o)), .val (.int (Int32.ofNat len)), .val .null, .val (.ref s.heap.size)] [.int (Int32.ofNat N.slots.size), .ref s.heap.size, .ref a])) rfl (by rw [hml]; rfl) c10 (argsL := [.ref s.heap.size, .int (Int32.ofNat N.slots.size)]) (rest := [.ref a]) rfl rfl (by show 2 * 0 + (1 + 0) ≤ _; decide) (hb hbytes d45) (⟨rfl, n1⟩)
  obtain ⟨rfl, q11⟩ := E11
  have hB11 := hB1.mv (X8.warmed.alike.symm.trans X11.warmed.alike) q11
  have c12 : Steps p.tables e below (s₁.setTop (entryFrame m #[.ref a, .ref b, .int (Int32.ofNat o), .int (Int32.ofNat len), .null] 6)) (T11.setTop (mkF m 48 #[.val (.ref a), .val (.ref b), .val (.int (Int32.ofNat o)), .val (.int (Int32.ofNat len)), .val .null, .val (.ref s.heap.size)] [.int 0, .ref a])) := g11
  obtain ⟨T13, X13, p13, bl13, sl13, st13⟩ := X11.finit hexec hown (wk W (.fieldLink "java/lang/String" 15 "java/lang/String" "coder" "B")) (Or.inr ⟨_, (wk W (.laysFinal "java/lang/String" "java/lang/String" "coder" "B"))⟩) (Or.inl ⟨rfl, hnm⟩) f2 (Or.inl rfl) hB11 (t := .byte) (by decide +kernel) rfl (g := (mkF m 48 #[.val (.ref a), .val (.ref b), .val (.int (Int32.ofNat o)), .val (.int (Int32.ofNat len)), .val .null, .val (.ref s.heap.size)] [.int 0, .ref a])) rfl (rest := []) rfl (hb hbytes d48)
  have c14 : Steps p.tables e below (s₁.setTop (entryFrame m #[.ref a, .ref b, .int (Int32.ofNat o), .int (Int32.ofNat len), .null] 6)) (T13.setTop (mkF m 54 #[.val (.ref a), .val (.ref b), .val (.int (Int32.ofNat o)), .val (.int (Int32.ofNat len)), .val .null, .val (.ref s.heap.size)] [.ref s.heap.size, .ref a])) := (c12.trans (st13 _ (Steps.refl _))).trans (by
    refine XS.aloadN X13.here hexec rfl (hb hbytes d51) rfl rfl ?_
    refine XS.aload X13.here hexec rfl (hb hbytes d52) rfl rfl ?_
    exact Steps.refl _)
  obtain ⟨T15, X15, p15, bl15, sl15, st15⟩ := X13.finit hexec hown (wk W (.fieldLink "java/lang/String" 9 "java/lang/String" "value" "[B")) (Or.inr ⟨_, (wk W (.laysFinal "java/lang/String" "java/lang/String" "value" "[B"))⟩) (Or.inl ⟨rfl, hnm⟩) f1 (Or.inl rfl) bl13 (t := (.array .byte)) (by decide +kernel) rfl (g := (mkF m 54 #[.val (.ref a), .val (.ref b), .val (.int (Int32.ofNat o)), .val (.int (Int32.ofNat len)), .val .null, .val (.ref s.heap.size)] [.ref s.heap.size, .ref a])) rfl (rest := []) rfl (hb hbytes d54)
  have c16 : Steps p.tables e below (s₁.setTop (entryFrame m #[.ref a, .ref b, .int (Int32.ofNat o), .int (Int32.ofNat len), .null] 6)) (T15.setTop (mkF m 57 #[.val (.ref a), .val (.ref b), .val (.int (Int32.ofNat o)), .val (.int (Int32.ofNat len)), .val .null, .val (.ref s.heap.size)] [])) := c14.trans (st15 _ (Steps.refl _))
  have ap := apart (Or.inr ⟨_, (wk W (.laysFinal "java/lang/String" "java/lang/String" "value" "[B"))⟩) (Or.inr ⟨_, (wk W (.laysFinal "java/lang/String" "java/lang/String" "coder" "B"))⟩) f1 f2 (t₁ := .array .byte) (t₂ := .byte) (by decide +kernel) (by decide +kernel) (by decide)
  have al := X8.warmed.alike.symm.trans X15.warmed.alike
  have n7 : T11.heap[s.heap.size]? = some N := by rw [q11]; exact n1.1
  exact ⟨T15, none, _, _, _, X15, by simp, rfl, by omega, (fun _ => rfl), ⟨rfl, _, N, bl15, ((Same.refl D _).set _ (by simp)).set _ (by simp), sl15, (Cell.slots_setSlot_ne _ ap).trans sl13, n1.keep al (p15.other hne (p13.other hne n7)), n2, by rw [al.findClass]; exact n3, n4, n5, fun y c h1 h2 => p15.other h1 (p13.other h1 (by rw [q11]; exact n6 y c h2)), by rw [p15.2.2, p13.2.2, q11]; exact z8⟩, fun fs hl => c16.trans (X15.returnOut hexec hret (hb hbytes d57) hl)⟩
end New4
namespace New1
def yN : MethodName := ⟨"java/lang/String", "<init>", "([C)V"⟩
abbrev yB : ByteArray := jdk_42_method_3_code
theorem d0 : decode yB 0 = .ok (.aload_n 0, 1) := by decide +kernel
theorem d1 : decode yB 1 = .ok (.aload_n 1, 1) := by decide +kernel
theorem d2 : decode yB 2 = .ok (.iconst 0, 1) := by decide +kernel
theorem d3 : decode yB 3 = .ok (.aload_n 1, 1) := by decide +kernel
theorem d4 : decode yB 4 = .ok (.arraylength, 1) := by decide +kernel
theorem d5 : decode yB 5 = .ok (.aconst_null, 1) := by decide +kernel
theorem d6 : decode yB 6 = .ok (.invokespecial 27, 3) := by decide +kernel
theorem d9 : decode yB 9 = .ok (.return_, 1) := by decide +kernel
def site : List Cond := [New4.tab] ++ initW "java/lang/String" 27 New4.yN
def tab : Cond := tabOf yN yB 2 none site
def P (a : Addr) (D : Cell) (fV fC : Field) (b : Addr) (A : Cell) (z : Int32) (args : Array Value) (s : State) : Prop := args = #[.ref a, .ref b] ∧ Blank "java/lang/String" a D s ∧ Found "java/lang/String" "value" "[B" fV s ∧ Found "java/lang/String" "coder" "B" fC s ∧ Ch b A s ∧ StaticIs s "java/lang/String" "COMPACT_STRINGS" "Z" (.int z) ∧ ¬ z = 0 ∧ 0 < A.slots.size ∧ A.slots.size ≤ 536870912 ∧ ∀ i, i < A.slots.size → ¬ 255 < cv A i
def E (a : Addr) (D : Cell) (fV fC : Field) (A : Cell) (r : Option Value) (s u : State) : Prop := Got a D fV fC A 0 A.slots.size r s u
/-- new String(chars), not empty, no char above 255: a Latin-1 String of their low bytes -/
theorem law (l : Launch) (a : Addr) (D : Cell) (fV fC : Field) (b : Addr) (A : Cell) (z : Int32) : Law l yN 2 1 3 52 yB 2 none site (P a D fV fC b A z) (E a D fV fC A) [⟨a, fC.slot⟩, ⟨a, fV.slot⟩] 1 A.slots.size := by
  refine Law.of_walk (plainFor_of_name (by decide +kernel)) (by decide +kernel) (by decide +kernel) (by decide) (fun _ _ h => by rw [h.1]; rfl) (fun _ U U' hal hh h => ⟨h.1, h.2.1.mv hal hh, h.2.2.1.al hal, h.2.2.2.1.al hal, h.2.2.2.2.1.mv hal hh, h.2.2.2.2.2.1.there hal hh, h.2.2.2.2.2.2⟩) (fun r U U' V V' h1 hal h2 h => Got.mv r U U' V V' h1 hal h2 h) ?_
  intro p e s m args below meth c s₁ X0 hexec hbytes hml hret hlk hnm hown hh0 W hP
  obtain ⟨rfl, hB, f1, f2, hA, s1, hz, l0, l2, hp⟩ := hP
  have c1 : Steps p.tables e below (s₁.setTop (entryFrame m #[.ref a, .ref b] 2)) (s₁.setTop (mkF m 0 #[.val (.ref a), .val (.ref b)] [])) := entry rfl
  have c2 : Steps p.tables e below (s₁.setTop (entryFrame m #[.ref a, .ref b] 2)) (s₁.setTop (mkF m 6 #[.val (.ref a), .val (.ref b)] [.null, .int (Int32.ofNat A.slots.size), .int 0, .ref b, .ref a])) := c1.trans (by
    refine XS.aloadN X0.here hexec rfl (hb hbytes d0) rfl rfl ?_
    refine XS.aloadN X0.here hexec rfl (hb hbytes d1) rfl rfl ?_
    refine iconstV X0.here hexec rfl 0 (hb hbytes d2) (by decide) ?_
    refine XS.aloadN X0.here hexec rfl (hb hbytes d3) rfl rfl ?_
    refine X0.alen hexec (hA.1.mv X0.warmed.alike hh0) rfl rfl (hb hbytes d4) ?_
    refine XS.aconstNull X0.here hexec rfl (hb hbytes d5) ?_
    exact Steps.refl _)
  obtain ⟨v3, T3, X3, E3, g3⟩ := X0.callN hexec (New4.law l a D fV fC b A z 0 A.slots.size) rfl hown (wks W (initW "java/lang/String" 27 New4.yN)) (W New4.tab (by simp only [site, List.mem_cons, List.mem_append, true_or, or_true])) (W := 0) (Nat.le_of_ble_eq_true rfl) (Nat.le_of_ble_eq_true rfl) (Nat.le_refl _) (by show 0 + A.slots.size ≤ A.slots.size; omega) (g := (mkF m 6 #[.val (.ref a), .val (.ref b)] [.null, .int (Int32.ofNat A.slots.size), .int (Int32.ofNat 0), .ref b, .ref a])) rfl (by rw [hml]; rfl) c2 (argsL := [.ref b, .int (Int32.ofNat 0), .int (Int32.ofNat A.slots.size), .null]) (rest := []) rfl rfl (by show 2 * 0 + 0 ≤ _; decide) (hb hbytes d6) (⟨rfl, hB.mv X0.warmed.alike hh0, f1.al X0.warmed.alike, f2.al X0.warmed.alike, hA.mv X0.warmed.alike hh0, s1.there X0.warmed.alike hh0, hz, l0, by omega, l2, fun i hi => by rw [Nat.zero_add]; exact hp i hi⟩)
  have e0 := Got.mv _ s₁ s _ _ hh0.symm (Vm.Alike.refl _) rfl E3
  obtain rfl := e0.1
  have c4 : Steps p.tables e below (s₁.setTop (entryFrame m #[.ref a, .ref b] 2)) (T3.setTop (mkF m 9 #[.val (.ref a), .val (.ref b)] [])) := g3
  exact ⟨T3, none, _, _, _, X3, by simp, rfl, by omega, (fun _ => rfl), e0, fun fs hl => c4.trans (X3.returnOut hexec hret (hb hbytes d9) hl)⟩
theorem pays {l : Launch} {R : Room} {p : Program} {e : Env} {below : List Frame} {s : State} {sargs : Array Value} {len W : Nat} (a : Addr) (D : Cell) (fV fC : Field) (b : Addr) (A : Cell) (z : Int32) (htab : tab.before sargs s = true) (hfr : 4 ≤ R.frames) (hlo : W + 65 ≤ R.locals) :
    Back l R p e below s sargs yN len W (fun A₁ a₁ => A₁.cells + 1 ≤ R.cells ∧ A₁.slots + A.slots.size ≤ R.slots ∧ P a D fV fC b A z a₁ A₁.U) (fun A₁ _ v₁ B₁ => E a D fV fC A v₁ A₁.U B₁.U ∧ B₁.locs = A₁.locs ++ [⟨a, fC.slot⟩, ⟨a, fV.slot⟩] ∧ B₁.cells = A₁.cells + 1 ∧ B₁.slots = A₁.slots + A.slots.size) :=
  (law l a D fV fC b A z).pays htab hfr (by omega)
end New1
end StrChars
namespace StrChars.Road
open Jvm Sem ClassFile Op Lib Jvm.Stand Jvm.Free Jvm.Free.XT
open Jvm.Lib.Cold (StaticIs)
abbrev ST : String := "java/lang/String"
/-- every table word that New1's law asks, flat -/
abbrev words : List Jvm.Cond := [.code New1.yN New1.yB 2 none, .initialized ST, .methodLink ST 27 New4.yN, .instanceMethod New4.yN,
  .code New4.yN New4.yB 6 none, .fieldLink ST 38 ST "COMPACT_STRINGS" "Z", .laysFinal ST ST "value" "[B", .fieldLink ST 9 ST "value" "[B", .laysFinal ST ST "coder" "B", .fieldLink ST 15 ST "coder" "B",
  .methodLink ST 1 Lib.objectInit, .instanceMethod Lib.objectInit, .code Lib.objectInit ⟨#[0xb1]⟩ 1 none, .methodLink ST 177 Cmp3.yN, .static Cmp3.yN, .methodLink ST 47 CodL.yN, .static CodL.yN,
  .code Cmp3.yN Cmp3.yB 6 (some (.array .byte)), .initialized U16, .arrayClass .byte, .methodLink U16 115 Cmp5.yN, .static Cmp5.yN, .code Cmp5.yN Cmp5.yB 7 (some .int), .code CodL.yN CodL.yB 2 (some .byte)]
theorem tab_of {a : Array Value} {s : State} (h : ∀ w ∈ words, w.before a s = true) : New1.tab.before a s = true := by
  have h5 : Cmp5.tab.before a s = true := unparts (wk h (.code Cmp5.yN Cmp5.yB 7 (some .int))) (wks h (.initialized Cmp5.yN.cls :: Cmp5.site))
  have hc : CodL.tab.before a s = true := unparts (wk h (.code CodL.yN CodL.yB 2 (some .byte))) (wks h (.initialized CodL.yN.cls :: CodL.site))
  have q5 : ∀ w ∈ Cmp5.tab :: words, w.before a s = true := fun w hw => (List.mem_cons.mp hw).elim (fun e => e ▸ h5) (h w)
  have h3 : Cmp3.tab.before a s = true := unparts (wk q5 (.code Cmp3.yN Cmp3.yB 6 (some (.array .byte)))) (wks q5 (.initialized Cmp3.yN.cls :: Cmp3.site))
  have q3 : ∀ w ∈ Cmp3.tab :: CodL.tab :: words, w.before a s = true := fun w hw => (List.mem_cons.mp hw).elim (fun e => e ▸ h3) fun hw => (List.mem_cons.mp hw).elim (fun e => e ▸ hc) (h w)
  have h4 : New4.tab.before a s = true := unparts (wk q3 (.code New4.yN New4.yB 6 none)) (wks q3 (.initialized New4.yN.cls :: New4.site))
  have q4 : ∀ w ∈ New4.tab :: words, w.before a s = true := fun w hw => (List.mem_cons.mp hw).elim (fun e => e ▸ h4) (h w)
  exact unparts (wk q4 (.code New1.yN New1.yB 2 none)) (wks q4 (.initialized New1.yN.cls :: New1.site))
/-- the words ride from the start Z to the walk's own state -/
theorem moved {Z s : State} {a0 args : Array Value} (hZ : Z.Warmed39 s.vm) (hw : ∀ d ∈ words, d.before a0 Z = true) : ∀ d ∈ words, d.before args s = true := fun d hd => by
  have q := hw d hd
  have t : ∀ d ∈ words, d = .arrayClass .byte ∨ (d.onTables && d.keepsFace) = true := by decide +kernel
  rcases t d hd with rfl | t
  · exact RoadKit.mvA hZ q
  · exact RoadKit.mv hZ q t
/-- WHAT COMES BACK, over the tables of the start Z: h the heap at the call, h' behind it -/
def Q (Z : State) (x : Addr) (A : Cell) (h : Heap) (v : Option Value) (h' : Heap) (L : List Loc) : Prop := v = none ∧ (∀ y ∈ L, y.base = x) ∧ RoadKit.Keep h h' [x] ∧ h'.size = h.size + 1 ∧ RoadKit.Exa Z h' x ST ∧ RoadKit.Fld Z h' x ST "value" "[B" (.ref h.size) ∧ RoadKit.Fld Z h' x ST "coder" "B" (.int 0) ∧
  (∃ V : Cell, RoadKit.Arr Z h' h.size V .byte ∧ V.vm = .none ∧ Z.vm.findClass "[B" = some V.cls ∧ V.slots.size = A.slots.size ∧ ∀ j, j < A.slots.size → V.slots[j]? = some (.int (lo8 (cv A j)))) ∧
  ∀ (O n d : String) (w : Value), RoadKit.Fld Z h x O n d w → RoadKit.slotOf Z O n d ≠ RoadKit.slotOf Z ST "value" "[B" → RoadKit.slotOf Z O n d ≠ RoadKit.slotOf Z ST "coder" "B" → RoadKit.Fld Z h' x O n d w
/-- **new String(chars) AT A CALL, IN THE ROAD'S FORM**: for specialBack behind newO: x the fresh String, b the char[] with the cell A -/
theorem back {p : Program} {l : Launch} {e : Env} {R : Room} {s : State} {args : Array Value} {below : List Frame} {len W : Nat} {Z : State} {a0 : Array Value} {h : Heap} (hZ : Z.Warmed39 s.vm) (hw : ∀ d ∈ words, d.before a0 Z = true) {kI : Nat} (wi : (Jvm.Cond.instantiable ST kI).before a0 Z = true)
    {x b : Addr} {A : Cell} {z : Int32} {v0 c0 : Value} (E : RoadKit.Exa Z h x ST) (V : RoadKit.Fld Z h x ST "value" "[B" v0) (C : RoadKit.Fld Z h x ST "coder" "B" c0) (K : RoadKit.Arr Z h b A .char) (hty : Typed .char A) (S : RoadKit.Sta Z h ST "COMPACT_STRINGS" "Z" (.int z)) (hz : ¬ z = 0)
    (l0 : 0 < A.slots.size) (l2 : A.slots.size ≤ 536870912) (hp : ∀ i, i < A.slots.size → ¬ 255 < cv A i) (hfr : 4 ≤ R.frames) (hlo : W + 65 ≤ R.locals) :
    Back l R p e below s args New1.yN len W (fun P a => a = #[.ref x, .ref b] ∧ P.U.heap = h ∧ P.cells + 1 ≤ R.cells ∧ P.slots + A.slots.size ≤ R.slots)
      (fun P _ v B => ∃ L, Q Z x A h v B.U.heap L ∧ B.locs = P.locs ++ L ∧ B.cells = P.cells + 1 ∧ B.slots = P.slots + A.slots.size) := by
  intro m meth c P g ig mk a X hg hsize hdg hW hn hp'
  obtain ⟨rfl, rfl, r1, r2⟩ := hp'
  have al : Z.vm.Alike P.U.vm := hZ.alike.trans X.warmed.alike
  obtain ⟨D, cfV, kV, iV, fV, hD, gV, stV, knV, obV, asV, slV⟩ := id V
  obtain ⟨D', cfC, kC, iC, fC, hD', gC, stC, -, -, asC, slC⟩ := id C
  cases hD.symm.trans hD'
  obtain ⟨D2, kD, e1, e2, e3, e4, e5⟩ := id E
  cases hD.symm.trans e1
  obtain ⟨c2, k2, i1, i2, i3, -⟩ := Cond.instantiable_spec wi
  cases e2.symm.trans i1
  cases e3.symm.trans i2
  obtain ⟨kU, u1, u2⟩ := al.2.2 _ _ e3
  have hB : Blank ST x D P.U := ⟨hD, ⟨knV, fun q hq => by rw [hq] at obV; cases obV⟩, by rw [al.findClass]; exact e2, kU, u1, by rw [u2]; exact i3, by rw [u2]; exact e5 i3⟩
  have F1 : Found ST "value" "[B" fV P.U := ⟨SBG.found_only al ⟨cfV, kV, iV, gV⟩, stV⟩
  have F2 : Found ST "coder" "B" fC P.U := ⟨SBG.found_only al ⟨cfC, kC, iC, gC⟩, stC⟩
  have hA : Ch b A P.U := ⟨⟨K.1, State.isArrayOf_alike al K.2.1, K.2.2, by omega⟩, hty⟩
  have hS : StaticIs P.U ST "COMPACT_STRINGS" "Z" (.int z) := by
    obtain ⟨cfS, iS, kS, fS, st, cS, t1, t2, t3, t4, t5, t6, t7⟩ := S
    exact StaticIs.there (s := { Z with heap := P.U.heap }) ⟨cfS, iS, kS, fS, st, cS, t1, t2, t3, t4, t5, (fun q => by rw [q] at t6; cases t6), t7⟩ al rfl
  obtain ⟨v, B, X', ⟨⟨hv, E', V', q1, q2, q3, q4, q5, q6, q7, q8, q9, q10, q11⟩, hl, hc, hs⟩, st⟩ := New1.pays x D fV fC b A z (tab_of (moved hZ hw)) hfr hlo m meth c P g ig mk _ X hg hsize hdg hW hn ⟨r1, r2, rfl, hB, F1, F2, hA, hS, hz, l0, l2, hp⟩
  have al' : Z.vm.Alike B.U.vm := hZ.alike.trans X'.warmed.alike
  have hsz : E'.slots.size = D.slots.size := by
    obtain ⟨-, -, -, kB, w1, w2, w3⟩ := q1
    obtain ⟨kB', y1, y2⟩ := al'.2.2 _ _ e3
    rw [q2.2.1] at w1
    cases w1.symm.trans y1
    rw [w3, e5 i3, y2]
  refine ⟨v, B, X', ⟨_, ⟨hv, ?_, ⟨by omega, fun y cy hy hn' => q10 y cy (by simpa using hn') hy, fun y cy hy => ?_⟩, q11, ⟨E', _, q1.1, by rw [q2.2.1]; exact e2, by rw [q2.2.1]; exact e3, by rw [q2.1]; exact obV, fun _ => by rw [hsz]; exact e5 i3⟩,
    ⟨E', cfV, kV, iV, fV, q1.1, gV, stV, by rw [q2.1]; exact knV, by rw [q2.1]; exact obV, by rw [q2.2.1]; exact asV, q3⟩, ⟨E', cfC, kC, iC, fC, q1.1, gC, stC, by rw [q2.1]; exact knV, by rw [q2.1]; exact obV, by rw [q2.2.1]; exact asC, q4⟩,
    ⟨V', ⟨q5.1, State.isArrayOf_alike al'.symm q5.2.1, q5.2.2.1⟩, q6, by rw [← al'.findClass]; exact q7, q8, fun j hj => by have := q9 j hj; rwa [Nat.zero_add] at this⟩, fun O n d w F n1 n2 => ?_⟩, hl, hc, hs⟩, st⟩
  · intro y hy
    simp only [List.mem_cons, List.not_mem_nil, or_false] at hy
    rcases hy with rfl | rfl <;> rfl
  · by_cases q : y = x
    · subst q
      cases hD.symm.trans hy
      exact ⟨E', q1.1, q2.2.1, q2.1, hsz⟩
    · exact ⟨cy, q10 y cy q hy, rfl, rfl, rfl⟩
  · obtain ⟨D3, cf, k, i, f, g1, g2, g3, g4, g5, g6, g7⟩ := F
    cases hD.symm.trans g1
    simp only [RoadKit.slotOf, g2, gV, gC, Option.map_some, Option.getD_some] at n1 n2
    exact ⟨E', cf, k, i, f, q1.1, g2, g3, by rw [q2.1]; exact g4, by rw [q2.1]; exact g5, by rw [q2.2.1]; exact g6, by rw [q2.2.2 f.slot (by simp [n1, n2])]; exact g7⟩
end StrChars.Road
namespace StrChars.Road
open Jvm Sem ClassFile Op Lib Jvm.Stand Jvm.Free Jvm.Free.XT
/-- WHAT COMES BACK, the byte[] as a list of values -/
def QA (Z : State) (x : Addr) (zn : Int32) (cs : List Int32) (h : Heap) (v : Option Value) (h' : Heap) (L : List Loc) : Prop := v = none ∧ (∀ y ∈ L, y.base = x) ∧ RoadKit.Keep h h' [x] ∧ h'.size = h.size + 1 ∧ RoadKit.Exa Z h' x ST ∧ RoadKit.Fld Z h' x ST "value" "[B" (.ref h.size) ∧ RoadKit.Fld Z h' x ST "coder" "B" (.int 0) ∧
  (∃ kb, Z.vm.findClass "[B" = some kb ∧ RoadKit.Arv Z h' h.size kb .byte zn (cs.map fun c => .int (lo8 c)) (.int 0)) ∧
  ∀ (O n d : String) (w : Value), RoadKit.Fld Z h x O n d w → RoadKit.slotOf Z O n d ≠ RoadKit.slotOf Z ST "value" "[B" → RoadKit.slotOf Z O n d ≠ RoadKit.slotOf Z ST "coder" "B" → RoadKit.Fld Z h' x O n d w
/-- **new String(chars) AT A CALL, THE ARRAYS AS LISTS**: the char[] at b holds cs, not empty, no char above 255 -/
theorem backArv {p : Program} {l : Launch} {e : Env} {R : Room} {s : State} {args : Array Value} {below : List Frame} {len W : Nat} {Z : State} {a0 : Array Value} {h : Heap} (hZ : Z.Warmed39 s.vm) (hw : ∀ d ∈ words, d.before a0 Z = true) {kI : Nat} (wi : (Jvm.Cond.instantiable ST kI).before a0 Z = true)
    {x b : Addr} {k : ClassId} {zn z : Int32} {cs : List Int32} {dv v0 c0 : Value} (E : RoadKit.Exa Z h x ST) (V : RoadKit.Fld Z h x ST "value" "[B" v0) (C : RoadKit.Fld Z h x ST "coder" "B" c0) (K : RoadKit.Arv Z h b k .char zn (cs.map Value.int) dv) (S : RoadKit.Sta Z h ST "COMPACT_STRINGS" "Z" (.int z)) (hz : ¬ z = 0)
    (hlen : zn.toNatClampNeg = cs.length) (h0 : 0 < cs.length) (hbig : cs.length ≤ 536870912) (hall : ∀ c ∈ cs, ¬ 255 < c) (hfr : 4 ≤ R.frames) (hlo : W + 65 ≤ R.locals) :
    Back l R p e below s args New1.yN len W (fun P a => a = #[.ref x, .ref b] ∧ P.U.heap = h ∧ P.cells + 1 ≤ R.cells ∧ P.slots + cs.length ≤ R.slots)
      (fun P _ v B => ∃ L, QA Z x zn cs h v B.U.heap L ∧ B.locs = P.locs ++ L ∧ B.cells = P.cells + 1 ∧ B.slots = P.slots + cs.length) := by
  obtain ⟨A, K1, K2, K3, K4, K5, K6⟩ := K
  have e : A.slots.size = cs.length := K3.trans hlen
  have hat : ∀ (i : Nat) (hi : i < cs.length), A.slots[i]? = some (.int cs[i]) := fun i hi => by rw [K5 i (by omega)]; simp [List.getD_eq_getElem?_getD, hi]
  have hcv : ∀ (i : Nat) (hi : i < cs.length), cv A i = cs[i] := fun i hi => by unfold cv; rw [hat i hi]
  have hty : Typed .char A := fun i v hv => by
    have hi : i < A.slots.size := (Array.getElem?_eq_some_iff.mp hv).1
    have q := K5 i hi
    rw [hv] at q
    rw [Option.some.inj q]
    exact K6 i hi
  refine Back.mono (back hZ hw wi E V C K1 hty S hz (by omega) (by omega) (fun i hi => by rw [hcv i (by omega)]; exact hall _ (List.getElem_mem _)) hfr hlo) (fun P a hp => ⟨hp.1, hp.2.1, hp.2.2.1, by rw [e]; exact hp.2.2.2⟩) (fun P a v B hp hq => ?_)
  obtain ⟨L, ⟨q1, q2, q3, q4, q5, q6, q7, ⟨V', v1, v2, v3, v4, v5⟩, q9⟩, hl, hc, hs⟩ := hq
  refine ⟨L, ⟨q1, q2, q3, q4, q5, q6, q7, ⟨V'.cls, v3, V', v1, rfl, by rw [v4, e, hlen], K4, fun i hi => ?_, fun i hi => ?_⟩, q9⟩, hl, hc, by rw [hs, e]⟩
  · have hi' : i < cs.length := by omega
    rw [v5 i (by omega), hcv i hi']; simp [List.getD_eq_getElem?_getD, hi']
  · have hi' : i < cs.length := by omega
    simp only [List.getD_eq_getElem?_getD, List.getElem?_map, List.getElem?_eq_getElem hi', Option.map_some, Option.getD_some]
    exact fits_lo8 _
end StrChars.Road
namespace StrChars.Road
open Jvm Sem ClassFile Op Lib Jvm.Stand Jvm.Free Jvm.Free.XT
/-- WHAT COMES BACK, in the writer's own shape -/
def QV (Z : State) (x : Addr) (N : Int32) (bs : List Int32) (h : Heap) (n0 : Nat) (v : Option Value) (h' : Heap) (L : List Loc) : Prop := v = none ∧ RoadKit.Fr n0 L ∧ RoadKit.Keep h h' [x] ∧ RoadKit.Exa Z h' x ST ∧ RoadKit.Fld Z h' x ST "coder" "B" (.int 0) ∧
  ∃ (t : Addr) (kb : ClassId), n0 ≤ t ∧ h.size ≤ t ∧ ¬ t = x ∧ RoadKit.Fld Z h' x ST "value" "[B" (.ref t) ∧ RoadKit.Arv Z h' t kb .byte N (bs.map Value.int) (.int 0)
/-- **new String(chars) AT A CALL, FOR THE WRITER**: a char[] of n known ints, each 0 to 255 -/
theorem backV {p : Program} {l : Launch} {e : Env} {R : Room} {s : State} {args : Array Value} {below : List Frame} {len W : Nat} {Z : State} {a0 : Array Value} {h : Heap} (hZ : Z.Warmed39 s.vm) (hw : ∀ d ∈ words, d.before a0 Z = true) {kI : Nat} (wi : (Jvm.Cond.instantiable ST kI).before a0 Z = true)
    {x b : Addr} {kC : ClassId} {cs bs : List Int32} {d v0 c0 : Value} {z N : Int32} {n n0 : Nat} (hx0 : n0 ≤ x) (hh0 : n0 ≤ h.size) (E : RoadKit.Exa Z h x ST) (V : RoadKit.Fld Z h x ST "value" "[B" v0) (C : RoadKit.Fld Z h x ST "coder" "B" c0) (K : RoadKit.Arv Z h b kC .char N (cs.map Value.int) d) (S : RoadKit.Sta Z h ST "COMPACT_STRINGS" "Z" (.int z)) (hz : ¬ z = 0)
    (hn : cs.length = n) (hN : N = Int32.ofNat n) (l0 : 0 < n) (l2 : n ≤ 4000) (hp : ∀ c ∈ cs, ¬ c < 0 ∧ ¬ (255 : Int32) < c) (hb : bs = cs.map (fun c => c.toInt8.toInt32)) (hfr : 4 ≤ R.frames) (hlo : W + 65 ≤ R.locals) :
    Back l R p e below s args (⟨"java/lang/String", "<init>", "([C)V"⟩ : MethodName) len W (fun P a => a = #[.ref x, .ref b] ∧ P.U.heap = h ∧ P.cells + 1 ≤ R.cells ∧ P.slots + n ≤ R.slots)
      (fun P _ v B => ∃ L, QV Z x N bs h n0 v B.U.heap L ∧ B.locs = P.locs ++ L ∧ B.cells = P.cells + 1 ∧ B.slots = P.slots + n) := by
  subst hn hN hb
  refine Back.mono (backArv hZ hw wi E V C K S hz (n32 (by omega)) l0 (by omega) (fun c hc => (hp c hc).2) hfr hlo) (fun P a hp => hp) (fun P a v B hp hq => ?_)
  obtain ⟨L, ⟨q1, q2, q3, q4, q5, q6, q7, ⟨kb, v1, v2⟩, q9⟩, hl, hc, hs⟩ := hq
  exact ⟨L, ⟨q1, fun y hy => by rw [q2 y hy]; exact hx0, q3, q5, q7, h.size, kb, hh0, Nat.le_refl _, Nat.ne_of_gt E.lt, q6, by rw [List.map_map]; exact v2⟩, hl, hc, hs⟩
end StrChars.Road
end Jvm.Pilot.@@N@@

namespace Jvm.Pilot.@@N@@
open Jvm Jvm.ClassFile Sem Op Lib Jvm.Free Jvm.Stand Jvm.LawKit Jvm.RoadKit Bundle Jvm.Pilot.@@N@@.Jvm.D
/-- an array of n places, place j holds f j -/
def Av (Z : State) (h : Heap) (a : Addr) (ty : FieldType) (n : Nat) (f : Nat → Value) : Prop := ∃ cl : Cell, Arr Z h a cl ty ∧ cl.slots.size = n ∧ ∀ j, j < n → cl.slots[j]? = some (f j)
theorem Av.ext {Z : State} {h h' : Heap} {a : Addr} {ty : FieldType} {n : Nat} {f : Nat → Value} (A : Av Z h a ty n f) (E : Ext h h') : Av Z h' a ty n f := by obtain ⟨c, A, r⟩ := A; exact ⟨c, A.ext E, r⟩
theorem Av.lt {Z : State} {h : Heap} {a : Addr} {ty : FieldType} {n : Nat} {f : Nat → Value} (A : Av Z h a ty n f) : a < h.size := by obtain ⟨c, A, r⟩ := A; exact A.lt
theorem Av.other {Z : State} {h h' : Heap} {a b : Addr} {ty : FieldType} {n sl : Nat} {v : Value} {f : Nat → Value} (A : Av Z h b ty n f) (W : Wr h h' a sl v) (q : b ≠ a) : Av Z h' b ty n f := by obtain ⟨c, A, r⟩ := A; exact ⟨c, A.other W q, r⟩
theorem Av.keep {Z : State} {h h' : Heap} {a : Addr} {ws : List Addr} {ty : FieldType} {n : Nat} {f : Nat → Value} (A : Av Z h a ty n f) (K : Keep h h' ws) (q : a ∉ ws) : Av Z h' a ty n f := by obtain ⟨c, A, r⟩ := A; exact ⟨c, ⟨K.2.1 a c A.1 q, A.2⟩, r⟩
theorem Av.congr {Z : State} {h : Heap} {a : Addr} {ty : FieldType} {n : Nat} {f f' : Nat → Value} (e : ∀ j, j < n → f' j = f j) (A : Av Z h a ty n f) : Av Z h a ty n f' := by obtain ⟨c, A, S, H⟩ := A; exact ⟨c, A, S, fun j hj => by rw [H j hj, e j hj]⟩
theorem Av.new {Z : State} {h : Heap} {a : Addr} {k : ClassId} {ty : FieldType} {z : Int32} {n : Nat} (A : Arr Z h a (newA k ty z) ty) (q : ¬ z < 0) (e : z.toNatClampNeg = n) : Av Z h a ty n (fun _ => defaultValue ty) := by
  obtain ⟨c, B, -, S, -, H, -⟩ := Arv.new A q
  exact ⟨c, B, S.trans e, fun j hj => by have := H j (by rw [S, e]; exact hj); simpa using this⟩
theorem Av.set {Z : State} {h h' : Heap} {a : Addr} {ty : FieldType} {n i : Nat} {f : Nat → Value} {cl : Cell} {j : Int32} {v w : Value} (A : Arr Z h a cl ty) (S : cl.slots.size = n) (H : ∀ j, j < n → cl.slots[j]? = some (f j)) (W : Wr h h' a j.toNatClampNeg v) (hj : j.toNatClampNeg = i) (e : v = w) : Av Z h' a ty n (fun j => if j = i then w else f j) := by
  subst e hj
  refine ⟨_, A.same W, by simp [Cell.setSlot, S], fun k hk => ?_⟩
  show (cl.slots.setIfInBounds j.toNatClampNeg v)[k]? = _
  rw [Array.getElem?_setIfInBounds]
  by_cases q : j.toNatClampNeg = k
  · subst q; simp [S, hk]
  · rw [if_neg q, H k hk]
    show some (f k) = some (if k = j.toNatClampNeg then v else f k)
    rw [if_neg (fun u => q (Eq.symm u))]
theorem own_safe {Z : State} {EL : List (String × Nat)} {vm : Vm} {h : Heap} {x : Addr} (hal : Z.vm.Alike vm) (E : Exa Z h x "java/lang/String") (F : Fld Z h x "java/lang/String" "value" "[B" .null) : Safe Z EL vm h x := fun B => by
  obtain ⟨cell, k, e1, e2, e3, -, -⟩ := E
  obtain ⟨cell', cf, kf, i, f, f1, f2, f3, f4, f5, f6, f7⟩ := F
  cases f1.symm.trans e1
  obtain ⟨p, -, u, a, -, q, -, G, rfl | rfl⟩ := B
  · cases (show h[q.sa]? = some q.sC from G.ha).symm.trans e1
    obtain ⟨cS, ⟨⟨-, -, -, ⟨cv, kv, iv, s4, s4'⟩, -, -, -, s8, -⟩, -, -⟩, -⟩ := G
    obtain ⟨k2, g2, -⟩ := State.fieldFound?_setVm (s := Z) hal f2
    have g3 := (show (Z.setVm vm).fieldFound? _ _ _ = _ from s4).symm.trans g2
    simp only [Option.some.injEq, Prod.mk.injEq] at g3
    rw [g3.2.2.2, f7] at s8
    cases s8
  · cases (show h[q.sd]? = some q.SA from G.hd).symm.trans e1
    obtain ⟨cS, -, -, f, -⟩ := G
    have f : vm.findClass "[B" = some q.SA.cls := f
    rw [hal.findClass] at f
    obtain ⟨k1, q1, q2⟩ := Vm.findClass_spec f
    obtain ⟨k2, q3, q4⟩ := Vm.findClass_spec e2
    cases q1.symm.trans q3
    exact absurd (q2.symm.trans q4) (by decide)
theorem own_ws {Z : State} {a0 : Array Value} (hw : ∀ d ∈ tables_1, d.before a0 Z = true) : ∀ a ∈ Bundle.stringAtoms, a.before a0 Z = true := fun d hd => hw d ((by decide +kernel : ∀ d ∈ Bundle.stringAtoms, d ∈ tables_1) d hd)
theorem own_safeA {Z : State} {EL : List (String × Nat)} {vm : Vm} {h : Heap} {x : Addr} {ty : FieldType} {n : Nat} {f : Nat → Value} (hal : Z.vm.Alike vm) (A : Av Z h x ty n f) (ht : ty ≠ .byte) : Safe Z EL vm h x := by obtain ⟨c, A, -⟩ := A; exact Safe.arr hal A ht

theorem hwd19 {Z : State} {a0 : Array Value} (hw : ∀ d ∈ tables_1, d.before a0 Z = true) : (Jvm.Cond.stringLink "java/lang/String" (7 : Nat) "").before a0 Z = true := hw _ (List.mem_of_getElem? (i := 19) rfl)
theorem hwd84 {Z : State} {a0 : Array Value} (hw : ∀ d ∈ tables_1, d.before a0 Z = true) : (Jvm.Cond.stringLink "java/lang/StringLatin1" (151 : Nat) "").before a0 Z = true := hw _ (List.mem_of_getElem? (i := 84) rfl)
theorem own_EL {Z : State} {a0 : Array Value} (hw : ∀ d ∈ tables_1, d.before a0 Z = true) : EW Z a0 consts_1 := EW.cons (hwd19 hw) (fun _ q => nomatch q) (EW.cons (hwd84 hw) (fun _ q => nomatch q) EW.nil)
def Lat (c : Int32) : Prop := ¬ c < 0 ∧ ¬ (255 : Int32) < c
theorem own_fin {P : Int32 → Prop} (h : ∀ k : Fin 256, P (Int32.ofNat k.1)) {c : Int32} (hc : Lat c) : P c := by
  obtain ⟨h1, h2⟩ := hc
  rw [Int32.lt_iff_toInt_lt] at h1 h2
  have z0 : (0 : Int32).toInt = 0 := by decide
  have z1 : (255 : Int32).toInt = 255 := by decide
  have e : Int32.ofNat c.toInt.toNat = c := by
    apply Int32.toInt_inj.mp
    rw [Int32.toInt_ofNat_of_lt (by omega)]
    omega
  have := h ⟨c.toInt.toNat, by omega⟩
  rw [e] at this
  exact this
def own_c (y : Int32) : Int32 := nar .char (((y &&& (255 : Int32)).toUInt32.toUInt16.toUInt32.toInt32))
theorem own_cl (y : Int32) : Lat (own_c y) := by
  have hk : Lat (y &&& (255 : Int32)) := by
    have h := c_and y 255 (by decide)
    rw [show (255 : Int32).toInt = 255 by decide] at h
    generalize (y &&& (255 : Int32)) = w at h
    unfold Lat
    rw [Int32.lt_iff_toInt_lt, Int32.lt_iff_toInt_lt, show (255 : Int32).toInt = 255 by decide, show (0 : Int32).toInt = 0 by decide]
    omega
  exact own_fin (P := fun y => Lat (nar .char (y.toUInt32.toUInt16.toUInt32.toInt32))) (fun k => by revert k; unfold Lat; decide +kernel) hk
def own_cs (n j : Nat) (x y : Int32) : List Int32 := ((List.replicate n (0 : Int32)).set 0 (own_c x)).set j (own_c y)
theorem own_csmap (n j : Nat) (x y : Int32) : (own_cs n j x y).map Value.int = (((List.replicate n (.int (0 : Int32))).set 0 (.int (own_c x))).set j (.int (own_c y))) := by simp [own_cs, List.map_set, List.map_replicate]
theorem own_cslen (n j : Nat) (x y : Int32) : (own_cs n j x y).length = n := by simp [own_cs]
theorem own_cslat (n j : Nat) (x y : Int32) : ∀ c ∈ own_cs n j x y, ¬ c < 0 ∧ ¬ (255 : Int32) < c := fun c hc => by
  rcases List.mem_or_eq_of_mem_set hc with hc | rfl
  · rcases List.mem_or_eq_of_mem_set hc with hc | rfl
    · rw [List.eq_of_mem_replicate hc]; decide
    · exact own_cl x
  · exact own_cl y
theorem own_rem7 (x : Int32) : ∀ w, w = ((x &&& (2147483647 : Int32)) - ((x &&& (2147483647 : Int32)) / (7 : Int32)) * (7 : Int32)) → w = 0 ∨ w = 1 ∨ w = 2 ∨ w = 3 ∨ w = 4 ∨ w = 5 ∨ w = 6 := by
  intro y hy
  have h0 := c_and x 2147483647 (by decide)
  rw [show (2147483647 : Int32).toInt = 2147483647 by decide] at h0
  generalize (x &&& (2147483647 : Int32)) = v at h0 hy
  have hd := (c_idiv v 7 7 (by decide) (by decide)).1 h0.1
  generalize v / (7 : Int32) = w at hd hy
  have m1 := c_imul w 7
  have r1 := rng32 (w * 7)
  rw [show (7 : Int32).toInt = 7 by decide] at m1
  have s1 := c_isub v (w * 7)
  have r2 := rng32 (v - w * 7)
  rw [← hy] at s1 r2
  have : y.toInt = 0 ∨ y.toInt = 1 ∨ y.toInt = 2 ∨ y.toInt = 3 ∨ y.toInt = 4 ∨ y.toInt = 5 ∨ y.toInt = 6 := by omega
  rcases this with e | e | e | e | e | e | e
  · exact Or.inl (Int32.toInt_inj.mp (e.trans (by decide)))
  · exact Or.inr (Or.inl (Int32.toInt_inj.mp (e.trans (by decide))))
  · exact Or.inr (Or.inr (Or.inl (Int32.toInt_inj.mp (e.trans (by decide)))))
  · exact Or.inr (Or.inr (Or.inr (Or.inl (Int32.toInt_inj.mp (e.trans (by decide))))))
  · exact Or.inr (Or.inr (Or.inr (Or.inr (Or.inl (Int32.toInt_inj.mp (e.trans (by decide)))))))
  · exact Or.inr (Or.inr (Or.inr (Or.inr (Or.inr (Or.inl (Int32.toInt_inj.mp (e.trans (by decide))))))))
  · exact Or.inr (Or.inr (Or.inr (Or.inr (Or.inr (Or.inr (Int32.toInt_inj.mp (e.trans (by decide))))))))
theorem hwd5 {Z : State} {a0 : Array Value} (hw : ∀ d ∈ tables_1, d.before a0 Z = true) : (Jvm.Cond.arrayClass Jvm.ClassFile.FieldType.char).before a0 Z = true := hw _ (List.mem_of_getElem? (i := 5) rfl)
theorem d1_0 : decode method_3_code 0 = .ok (.iload_n 0, 1) := by decide +kernel
theorem d1_1 : decode method_3_code 1 = .ok (.ifCond .ne 7, 3) := by decide +kernel
theorem d1_4 : decode method_3_code 4 = .ok (.iconst 0, 1) := by decide +kernel
theorem d1_5 : decode method_3_code 5 = .ok (.newarray .char, 2) := by decide +kernel
theorem d1_7 : decode method_3_code 7 = .ok (.areturn, 1) := by decide +kernel
theorem pn_0 : plainName "com/example/coretally/coretally/store/SampleKeyNamesClusterPinLaw" = true := by first | (simp [plainName, overriddenIn]; done) | decide +kernel
theorem ef_1 (m : MethodId) (x0 : Int32) : entryFrame m #[(.int x0)] 1 = mkF m 0 #[.val (.int x0)] [] := by first | (simp [entryFrame, mkF, argsToLocals, Value.category]; done) | rfl
def Qmk0 (Z : State)  (h0 : Heap) (n0 : Nat) (v : Option Value) (h : Heap) (L : List Loc) : Prop := ∃ b : Addr, ∃ kb : ClassId, v = some (.ref b) ∧ Fr n0 L ∧ Keep h0 h [] ∧ Arv Z h b kb .char (0 : Int32) (List.replicate 0 (.int (0 : Int32))) (.int (0 : Int32)) ∧ h0.size ≤ b ∧ n0 ≤ b
abbrev my0 : MethodName := ⟨"com/example/coretally/coretally/store/SampleKeyNamesClusterPinLaw", "make", "(I)[C"⟩
abbrev Rm_mk0 : Room := { frames := 0, cells := 1, slots := 0, locals := 0 }
set_option maxRecDepth 65536 in
set_option maxHeartbeats 40000000 in
theorem mk0 (l : Launch) (Z : State) (a0 : Array Value) (hw : ∀ d ∈ tables_1, d.before a0 Z = true) (ws : List Jvm.Cond)  (h0 : Heap) (n0 : Nat) (Z0 : n0 ≤ h0.size) :
    MetFree l my0 (head1 (Jvm.Cond.code my0 method_3_code 1 (some (.array .char)) :: ws) Rm_mk0) (fun aa_ U => aa_ = #[(.int (0 : Int32))] ∧ Z.Warmed39 U.vm ∧ U.heap = h0) (fun _ _ _ _ _ => True) (fun _ U oo_ U' => ∃ v L, oo_ = .returned v ∧ Qmk0 Z  h0 n0 v U'.heap L ∧ FrameEnd U oo_ U' L Rm_mk0.cells Rm_mk0.slots) := by
  refine MetFree.of_bodySF (plainFor_of_name pn_0) hisR ?_
  intro p e s m args below meth c s₁ Bd hml0 hP hK
  obtain ⟨rfl, hZ, hh⟩ := hP
  have hx := Bd.exec
  have hby := Bd.bytes
  have hml : c.maxLocals = 1 := hml0
  have hown : s.vm.findClass "com/example/coretally/coretally/store/SampleKeyNamesClusterPinLaw" = some m.cls := findClass_of_methodNamed Bd.named
  have hnm := (name_of_methodNamed Bd.named Bd.method).1
  have X0 : Stand p l e Rm_mk0 s m #[(.int (0 : Int32))] below meth c s₁ [] 0 0 := Stand.of_body Bd
  have e0 : s₁.heap = h0 := by rw [← hh, Bd.state]; rfl
  have N0 := Fr.nil n0
  have pre0 : ∀ tt_, Steps p.tables e below (s₁.setTop (mkF m 0 #[.val (.int (0 : Int32))] [])) tt_ → Steps p.tables e below (s₁.setTop (entryFrame m #[(.int (0 : Int32))] 1)) tt_ := fun tt_ kk_ => castTop (ef_1 m (0 : Int32)) kk_
  obtain ⟨T1, h1, k1, X1, e1, E1, A1, st1⟩ := newP (aty := .char) X0 hx hZ (hwd5 hw) e0 (g := (mkF m 5 #[.val (.int (0 : Int32))] [(.int (0 : Int32))])) rfl (hb hby d1_5) rfl (by decide) (cap := 0) (by decide) (by decide) (by decide) (by decide)
  obtain ⟨b1, g1⟩ : ∃ zz_, zz_ = h0.size := ⟨_, rfl⟩
  rw [← g1] at A1 st1
  have g_b1 : n0 ≤ b1 := Nat.le_trans Z0 (Nat.le_of_eq g1.symm)
  have sz_b1 : h0.size ≤ b1 := Nat.le_trans (Keep.refl h0 []).1 (Nat.le_of_eq g1.symm)
  have V_b1 : Arv Z h1 b1 k1 .char (0 : Int32) (List.replicate 0 (.int (0 : Int32))) (.int (0 : Int32)) := (Arv.new A1 (by decide)).pad (pad_rep [] (.int (0 : Int32)) 0)
  have kp2 : Keep h0 h1 [] := ((Keep.refl h0 []).ext E1)
  obtain ⟨fs, hr, hrun, hended, hW, hsame⟩ := X1.leave (v := some (.ref b1)) (fun h => by rw [Bd.returns] at h; cases h)
  refine ⟨_, _, pre0 _ ?_, hrun, hended, _, _, rfl, ?_, ⟨_, rfl⟩, hW, hsame.mono (by decide) (by decide)⟩
  · show Steps p.tables e below (s₁.setTop (mkF m 0 #[.val (.int (0 : Int32))] [])) _
    refine XS.iloadN X0.here hx rfl (hb hby d1_0) rfl ?_
    refine XS.ifNo X0.here hx rfl (hb hby d1_1) rfl ((if0 _ _).trans (teq (show (0 : Int32) = (0 : Int32) from rfl)).2) ?_
    refine XS.iconst X0.here hx rfl (hb hby d1_4) ?_
    refine st1 _ ?_
    jvm_step X1.here [X1.here.top, hx, (hb hby d1_7), X1.method', Bd.returns, Value.isRef, FieldType.isReference]
    first | (intro acts; rw [hr _ acts rfl rfl rfl]) | rw [hr _ _ rfl rfl rfl]
    exact Steps.refl _
  · show Qmk0 Z  h0 n0 _ T1.heap _
    rw [e1]
    exact ⟨b1, k1, rfl, N0, kp2, V_b1, sz_b1, g_b1⟩
theorem d1_8 : decode method_3_code 8 = .ok (.iload_n 0, 1) := by decide +kernel
theorem d1_9 : decode method_3_code 9 = .ok (.iconst 1, 1) := by decide +kernel
theorem d1_10 : decode method_3_code 10 = .ok (.if_icmp .ne 7, 3) := by decide +kernel
theorem d1_13 : decode method_3_code 13 = .ok (.iconst 1, 1) := by decide +kernel
theorem d1_14 : decode method_3_code 14 = .ok (.newarray .char, 2) := by decide +kernel
theorem d1_16 : decode method_3_code 16 = .ok (.areturn, 1) := by decide +kernel
def Qmk1 (Z : State)  (h0 : Heap) (n0 : Nat) (v : Option Value) (h : Heap) (L : List Loc) : Prop := ∃ b : Addr, ∃ kb : ClassId, v = some (.ref b) ∧ Fr n0 L ∧ Keep h0 h [] ∧ Arv Z h b kb .char (1 : Int32) (List.replicate 1 (.int (0 : Int32))) (.int (0 : Int32)) ∧ h0.size ≤ b ∧ n0 ≤ b
abbrev Rm_mk1 : Room := { frames := 0, cells := 1, slots := 1, locals := 0 }
set_option maxRecDepth 65536 in
set_option maxHeartbeats 40000000 in
theorem mk1 (l : Launch) (Z : State) (a0 : Array Value) (hw : ∀ d ∈ tables_1, d.before a0 Z = true) (ws : List Jvm.Cond)  (h0 : Heap) (n0 : Nat) (Z0 : n0 ≤ h0.size) :
    MetFree l my0 (head1 (Jvm.Cond.code my0 method_3_code 1 (some (.array .char)) :: ws) Rm_mk1) (fun aa_ U => aa_ = #[(.int (1 : Int32))] ∧ Z.Warmed39 U.vm ∧ U.heap = h0) (fun _ _ _ _ _ => True) (fun _ U oo_ U' => ∃ v L, oo_ = .returned v ∧ Qmk1 Z  h0 n0 v U'.heap L ∧ FrameEnd U oo_ U' L Rm_mk1.cells Rm_mk1.slots) := by
  refine MetFree.of_bodySF (plainFor_of_name pn_0) hisR ?_
  intro p e s m args below meth c s₁ Bd hml0 hP hK
  obtain ⟨rfl, hZ, hh⟩ := hP
  have hx := Bd.exec
  have hby := Bd.bytes
  have hml : c.maxLocals = 1 := hml0
  have hown : s.vm.findClass "com/example/coretally/coretally/store/SampleKeyNamesClusterPinLaw" = some m.cls := findClass_of_methodNamed Bd.named
  have hnm := (name_of_methodNamed Bd.named Bd.method).1
  have X0 : Stand p l e Rm_mk1 s m #[(.int (1 : Int32))] below meth c s₁ [] 0 0 := Stand.of_body Bd
  have e0 : s₁.heap = h0 := by rw [← hh, Bd.state]; rfl
  have N0 := Fr.nil n0
  have pre0 : ∀ tt_, Steps p.tables e below (s₁.setTop (mkF m 0 #[.val (.int (1 : Int32))] [])) tt_ → Steps p.tables e below (s₁.setTop (entryFrame m #[(.int (1 : Int32))] 1)) tt_ := fun tt_ kk_ => castTop (ef_1 m (1 : Int32)) kk_
  obtain ⟨T1, h1, k1, X1, e1, E1, A1, st1⟩ := newP (aty := .char) X0 hx hZ (hwd5 hw) e0 (g := (mkF m 14 #[.val (.int (1 : Int32))] [(.int (1 : Int32))])) rfl (hb hby d1_14) rfl (by decide) (cap := 1) (by decide) (by decide) (by decide) (by decide)
  obtain ⟨b1, g1⟩ : ∃ zz_, zz_ = h0.size := ⟨_, rfl⟩
  rw [← g1] at A1 st1
  have g_b1 : n0 ≤ b1 := Nat.le_trans Z0 (Nat.le_of_eq g1.symm)
  have sz_b1 : h0.size ≤ b1 := Nat.le_trans (Keep.refl h0 []).1 (Nat.le_of_eq g1.symm)
  have V_b1 : Arv Z h1 b1 k1 .char (1 : Int32) (List.replicate 1 (.int (0 : Int32))) (.int (0 : Int32)) := (Arv.new A1 (by decide)).pad (pad_rep [] (.int (0 : Int32)) 1)
  have kp2 : Keep h0 h1 [] := ((Keep.refl h0 []).ext E1)
  obtain ⟨fs, hr, hrun, hended, hW, hsame⟩ := X1.leave (v := some (.ref b1)) (fun h => by rw [Bd.returns] at h; cases h)
  refine ⟨_, _, pre0 _ ?_, hrun, hended, _, _, rfl, ?_, ⟨_, rfl⟩, hW, hsame.mono (by decide) (by decide)⟩
  · show Steps p.tables e below (s₁.setTop (mkF m 0 #[.val (.int (1 : Int32))] [])) _
    refine XS.iloadN X0.here hx rfl (hb hby d1_0) rfl ?_
    refine XS.ifYes X0.here hx rfl (pc0 := 1) (pc' := 8) rfl (hb hby d1_1) rfl ((if0 _ _).trans (feq (show ¬ ((1 : Int32) = (0 : Int32)) from (by decide))).2) (by decide) (by decide) ?_
    refine XS.iloadN X0.here hx rfl (hb hby d1_8) rfl ?_
    refine XS.iconst X0.here hx rfl (hb hby d1_9) ?_
    refine XS.icmpNo X0.here hx rfl (hb hby d1_10) rfl (teq (show (1 : Int32) = (1 : Int32) from rfl)).2 ?_
    refine XS.iconst X0.here hx rfl (hb hby d1_13) ?_
    show Steps p.tables e below (s₁.setTop (mkF m 14 #[.val (.int (1 : Int32))] [(.int (1 : Int32))])) _
    refine st1 _ ?_
    jvm_step X1.here [X1.here.top, hx, (hb hby d1_16), X1.method', Bd.returns, Value.isRef, FieldType.isReference]
    first | (intro acts; rw [hr _ acts rfl rfl rfl]) | rw [hr _ _ rfl rfl rfl]
    exact Steps.refl _
  · show Qmk1 Z  h0 n0 _ T1.heap _
    rw [e1]
    exact ⟨b1, k1, rfl, N0, kp2, V_b1, sz_b1, g_b1⟩
theorem d1_17 : decode method_3_code 17 = .ok (.iload_n 0, 1) := by decide +kernel
theorem d1_18 : decode method_3_code 18 = .ok (.iconst 2, 1) := by decide +kernel
theorem d1_19 : decode method_3_code 19 = .ok (.if_icmp .ne 8, 3) := by decide +kernel
theorem d1_22 : decode method_3_code 22 = .ok (.bipush 29, 2) := by decide +kernel
theorem d1_24 : decode method_3_code 24 = .ok (.newarray .char, 2) := by decide +kernel
theorem d1_26 : decode method_3_code 26 = .ok (.areturn, 1) := by decide +kernel
def Qmk29 (Z : State)  (h0 : Heap) (n0 : Nat) (v : Option Value) (h : Heap) (L : List Loc) : Prop := ∃ b : Addr, ∃ kb : ClassId, v = some (.ref b) ∧ Fr n0 L ∧ Keep h0 h [] ∧ Arv Z h b kb .char (29 : Int32) (List.replicate 29 (.int (0 : Int32))) (.int (0 : Int32)) ∧ h0.size ≤ b ∧ n0 ≤ b
abbrev Rm_mk29 : Room := { frames := 0, cells := 1, slots := 29, locals := 0 }
set_option maxRecDepth 65536 in
set_option maxHeartbeats 40000000 in
theorem mk29 (l : Launch) (Z : State) (a0 : Array Value) (hw : ∀ d ∈ tables_1, d.before a0 Z = true) (ws : List Jvm.Cond)  (h0 : Heap) (n0 : Nat) (Z0 : n0 ≤ h0.size) :
    MetFree l my0 (head1 (Jvm.Cond.code my0 method_3_code 1 (some (.array .char)) :: ws) Rm_mk29) (fun aa_ U => aa_ = #[(.int (2 : Int32))] ∧ Z.Warmed39 U.vm ∧ U.heap = h0) (fun _ _ _ _ _ => True) (fun _ U oo_ U' => ∃ v L, oo_ = .returned v ∧ Qmk29 Z  h0 n0 v U'.heap L ∧ FrameEnd U oo_ U' L Rm_mk29.cells Rm_mk29.slots) := by
  refine MetFree.of_bodySF (plainFor_of_name pn_0) hisR ?_
  intro p e s m args below meth c s₁ Bd hml0 hP hK
  obtain ⟨rfl, hZ, hh⟩ := hP
  have hx := Bd.exec
  have hby := Bd.bytes
  have hml : c.maxLocals = 1 := hml0
  have hown : s.vm.findClass "com/example/coretally/coretally/store/SampleKeyNamesClusterPinLaw" = some m.cls := findClass_of_methodNamed Bd.named
  have hnm := (name_of_methodNamed Bd.named Bd.method).1
  have X0 : Stand p l e Rm_mk29 s m #[(.int (2 : Int32))] below meth c s₁ [] 0 0 := Stand.of_body Bd
  have e0 : s₁.heap = h0 := by rw [← hh, Bd.state]; rfl
  have N0 := Fr.nil n0
  have pre0 : ∀ tt_, Steps p.tables e below (s₁.setTop (mkF m 0 #[.val (.int (2 : Int32))] [])) tt_ → Steps p.tables e below (s₁.setTop (entryFrame m #[(.int (2 : Int32))] 1)) tt_ := fun tt_ kk_ => castTop (ef_1 m (2 : Int32)) kk_
  obtain ⟨T1, h1, k1, X1, e1, E1, A1, st1⟩ := newP (aty := .char) X0 hx hZ (hwd5 hw) e0 (g := (mkF m 24 #[.val (.int (2 : Int32))] [(.int (29 : Int32))])) rfl (hb hby d1_24) rfl (by decide) (cap := 29) (by decide) (by decide) (by decide) (by decide)
  obtain ⟨b1, g1⟩ : ∃ zz_, zz_ = h0.size := ⟨_, rfl⟩
  rw [← g1] at A1 st1
  have g_b1 : n0 ≤ b1 := Nat.le_trans Z0 (Nat.le_of_eq g1.symm)
  have sz_b1 : h0.size ≤ b1 := Nat.le_trans (Keep.refl h0 []).1 (Nat.le_of_eq g1.symm)
  have V_b1 : Arv Z h1 b1 k1 .char (29 : Int32) (List.replicate 29 (.int (0 : Int32))) (.int (0 : Int32)) := (Arv.new A1 (by decide)).pad (pad_rep [] (.int (0 : Int32)) 29)
  have kp2 : Keep h0 h1 [] := ((Keep.refl h0 []).ext E1)
  obtain ⟨fs, hr, hrun, hended, hW, hsame⟩ := X1.leave (v := some (.ref b1)) (fun h => by rw [Bd.returns] at h; cases h)
  refine ⟨_, _, pre0 _ ?_, hrun, hended, _, _, rfl, ?_, ⟨_, rfl⟩, hW, hsame.mono (by decide) (by decide)⟩
  · show Steps p.tables e below (s₁.setTop (mkF m 0 #[.val (.int (2 : Int32))] [])) _
    refine XS.iloadN X0.here hx rfl (hb hby d1_0) rfl ?_
    refine XS.ifYes X0.here hx rfl (pc0 := 1) (pc' := 8) rfl (hb hby d1_1) rfl ((if0 _ _).trans (feq (show ¬ ((2 : Int32) = (0 : Int32)) from (by decide))).2) (by decide) (by decide) ?_
    refine XS.iloadN X0.here hx rfl (hb hby d1_8) rfl ?_
    refine XS.iconst X0.here hx rfl (hb hby d1_9) ?_
    refine XS.icmpYes X0.here hx rfl (pc0 := 10) (pc' := 17) rfl (hb hby d1_10) rfl (feq (show ¬ ((2 : Int32) = (1 : Int32)) from (by decide))).2 (by decide) (by decide) ?_
    refine XS.iloadN X0.here hx rfl (hb hby d1_17) rfl ?_
    show Steps p.tables e below (s₁.setTop (mkF m 18 #[.val (.int (2 : Int32))] [(.int (2 : Int32))])) _
    refine XS.iconst X0.here hx rfl (hb hby d1_18) ?_
    refine XS.icmpNo X0.here hx rfl (hb hby d1_19) rfl (teq (show (2 : Int32) = (2 : Int32) from rfl)).2 ?_
    refine XS.bipush X0.here hx rfl (hb hby d1_22) ?_
    show Steps p.tables e below (s₁.setTop (mkF m 24 #[.val (.int (2 : Int32))] [(.int (29 : Int32))])) _
    refine st1 _ ?_
    jvm_step X1.here [X1.here.top, hx, (hb hby d1_26), X1.method', Bd.returns, Value.isRef, FieldType.isReference]
    first | (intro acts; rw [hr _ acts rfl rfl rfl]) | rw [hr _ _ rfl rfl rfl]
    exact Steps.refl _
  · show Qmk29 Z  h0 n0 _ T1.heap _
    rw [e1]
    exact ⟨b1, k1, rfl, N0, kp2, V_b1, sz_b1, g_b1⟩
theorem d1_27 : decode method_3_code 27 = .ok (.iload_n 0, 1) := by decide +kernel
theorem d1_28 : decode method_3_code 28 = .ok (.iconst 3, 1) := by decide +kernel
theorem d1_29 : decode method_3_code 29 = .ok (.if_icmp .ne 8, 3) := by decide +kernel
theorem d1_32 : decode method_3_code 32 = .ok (.bipush 30, 2) := by decide +kernel
theorem d1_34 : decode method_3_code 34 = .ok (.newarray .char, 2) := by decide +kernel
theorem d1_36 : decode method_3_code 36 = .ok (.areturn, 1) := by decide +kernel
def Qmk30 (Z : State)  (h0 : Heap) (n0 : Nat) (v : Option Value) (h : Heap) (L : List Loc) : Prop := ∃ b : Addr, ∃ kb : ClassId, v = some (.ref b) ∧ Fr n0 L ∧ Keep h0 h [] ∧ Arv Z h b kb .char (30 : Int32) (List.replicate 30 (.int (0 : Int32))) (.int (0 : Int32)) ∧ h0.size ≤ b ∧ n0 ≤ b
abbrev Rm_mk30 : Room := { frames := 0, cells := 1, slots := 30, locals := 0 }
set_option maxRecDepth 65536 in
set_option maxHeartbeats 40000000 in
theorem mk30 (l : Launch) (Z : State) (a0 : Array Value) (hw : ∀ d ∈ tables_1, d.before a0 Z = true) (ws : List Jvm.Cond)  (h0 : Heap) (n0 : Nat) (Z0 : n0 ≤ h0.size) :
    MetFree l my0 (head1 (Jvm.Cond.code my0 method_3_code 1 (some (.array .char)) :: ws) Rm_mk30) (fun aa_ U => aa_ = #[(.int (3 : Int32))] ∧ Z.Warmed39 U.vm ∧ U.heap = h0) (fun _ _ _ _ _ => True) (fun _ U oo_ U' => ∃ v L, oo_ = .returned v ∧ Qmk30 Z  h0 n0 v U'.heap L ∧ FrameEnd U oo_ U' L Rm_mk30.cells Rm_mk30.slots) := by
  refine MetFree.of_bodySF (plainFor_of_name pn_0) hisR ?_
  intro p e s m args below meth c s₁ Bd hml0 hP hK
  obtain ⟨rfl, hZ, hh⟩ := hP
  have hx := Bd.exec
  have hby := Bd.bytes
  have hml : c.maxLocals = 1 := hml0
  have hown : s.vm.findClass "com/example/coretally/coretally/store/SampleKeyNamesClusterPinLaw" = some m.cls := findClass_of_methodNamed Bd.named
  have hnm := (name_of_methodNamed Bd.named Bd.method).1
  have X0 : Stand p l e Rm_mk30 s m #[(.int (3 : Int32))] below meth c s₁ [] 0 0 := Stand.of_body Bd
  have e0 : s₁.heap = h0 := by rw [← hh, Bd.state]; rfl
  have N0 := Fr.nil n0
  have pre0 : ∀ tt_, Steps p.tables e below (s₁.setTop (mkF m 0 #[.val (.int (3 : Int32))] [])) tt_ → Steps p.tables e below (s₁.setTop (entryFrame m #[(.int (3 : Int32))] 1)) tt_ := fun tt_ kk_ => castTop (ef_1 m (3 : Int32)) kk_
  obtain ⟨T1, h1, k1, X1, e1, E1, A1, st1⟩ := newP (aty := .char) X0 hx hZ (hwd5 hw) e0 (g := (mkF m 34 #[.val (.int (3 : Int32))] [(.int (30 : Int32))])) rfl (hb hby d1_34) rfl (by decide) (cap := 30) (by decide) (by decide) (by decide) (by decide)
  obtain ⟨b1, g1⟩ : ∃ zz_, zz_ = h0.size := ⟨_, rfl⟩
  rw [← g1] at A1 st1
  have g_b1 : n0 ≤ b1 := Nat.le_trans Z0 (Nat.le_of_eq g1.symm)
  have sz_b1 : h0.size ≤ b1 := Nat.le_trans (Keep.refl h0 []).1 (Nat.le_of_eq g1.symm)
  have V_b1 : Arv Z h1 b1 k1 .char (30 : Int32) (List.replicate 30 (.int (0 : Int32))) (.int (0 : Int32)) := (Arv.new A1 (by decide)).pad (pad_rep [] (.int (0 : Int32)) 30)
  have kp2 : Keep h0 h1 [] := ((Keep.refl h0 []).ext E1)
  obtain ⟨fs, hr, hrun, hended, hW, hsame⟩ := X1.leave (v := some (.ref b1)) (fun h => by rw [Bd.returns] at h; cases h)
  refine ⟨_, _, pre0 _ ?_, hrun, hended, _, _, rfl, ?_, ⟨_, rfl⟩, hW, hsame.mono (by decide) (by decide)⟩
  · show Steps p.tables e below (s₁.setTop (mkF m 0 #[.val (.int (3 : Int32))] [])) _
    refine XS.iloadN X0.here hx rfl (hb hby d1_0) rfl ?_
    refine XS.ifYes X0.here hx rfl (pc0 := 1) (pc' := 8) rfl (hb hby d1_1) rfl ((if0 _ _).trans (feq (show ¬ ((3 : Int32) = (0 : Int32)) from (by decide))).2) (by decide) (by decide) ?_
    refine XS.iloadN X0.here hx rfl (hb hby d1_8) rfl ?_
    refine XS.iconst X0.here hx rfl (hb hby d1_9) ?_
    refine XS.icmpYes X0.here hx rfl (pc0 := 10) (pc' := 17) rfl (hb hby d1_10) rfl (feq (show ¬ ((3 : Int32) = (1 : Int32)) from (by decide))).2 (by decide) (by decide) ?_
    refine XS.iloadN X0.here hx rfl (hb hby d1_17) rfl ?_
    show Steps p.tables e below (s₁.setTop (mkF m 18 #[.val (.int (3 : Int32))] [(.int (3 : Int32))])) _
    refine XS.iconst X0.here hx rfl (hb hby d1_18) ?_
    refine XS.icmpYes X0.here hx rfl (pc0 := 19) (pc' := 27) rfl (hb hby d1_19) rfl (feq (show ¬ ((3 : Int32) = (2 : Int32)) from (by decide))).2 (by decide) (by decide) ?_
    refine XS.iloadN X0.here hx rfl (hb hby d1_27) rfl ?_
    refine XS.iconst X0.here hx rfl (hb hby d1_28) ?_
    refine XS.icmpNo X0.here hx rfl (hb hby d1_29) rfl (teq (show (3 : Int32) = (3 : Int32) from rfl)).2 ?_
    refine XS.bipush X0.here hx rfl (hb hby d1_32) ?_
    show Steps p.tables e below (s₁.setTop (mkF m 34 #[.val (.int (3 : Int32))] [(.int (30 : Int32))])) _
    refine st1 _ ?_
    jvm_step X1.here [X1.here.top, hx, (hb hby d1_36), X1.method', Bd.returns, Value.isRef, FieldType.isReference]
    first | (intro acts; rw [hr _ acts rfl rfl rfl]) | rw [hr _ _ rfl rfl rfl]
    exact Steps.refl _
  · show Qmk30 Z  h0 n0 _ T1.heap _
    rw [e1]
    exact ⟨b1, k1, rfl, N0, kp2, V_b1, sz_b1, g_b1⟩
theorem d1_37 : decode method_3_code 37 = .ok (.iload_n 0, 1) := by decide +kernel
theorem d1_38 : decode method_3_code 38 = .ok (.iconst 4, 1) := by decide +kernel
theorem d1_39 : decode method_3_code 39 = .ok (.if_icmp .ne 8, 3) := by decide +kernel
theorem d1_42 : decode method_3_code 42 = .ok (.bipush 31, 2) := by decide +kernel
theorem d1_44 : decode method_3_code 44 = .ok (.newarray .char, 2) := by decide +kernel
theorem d1_46 : decode method_3_code 46 = .ok (.areturn, 1) := by decide +kernel
def Qmk31 (Z : State)  (h0 : Heap) (n0 : Nat) (v : Option Value) (h : Heap) (L : List Loc) : Prop := ∃ b : Addr, ∃ kb : ClassId, v = some (.ref b) ∧ Fr n0 L ∧ Keep h0 h [] ∧ Arv Z h b kb .char (31 : Int32) (List.replicate 31 (.int (0 : Int32))) (.int (0 : Int32)) ∧ h0.size ≤ b ∧ n0 ≤ b
abbrev Rm_mk31 : Room := { frames := 0, cells := 1, slots := 31, locals := 0 }
set_option maxRecDepth 65536 in
set_option maxHeartbeats 40000000 in
theorem mk31 (l : Launch) (Z : State) (a0 : Array Value) (hw : ∀ d ∈ tables_1, d.before a0 Z = true) (ws : List Jvm.Cond)  (h0 : Heap) (n0 : Nat) (Z0 : n0 ≤ h0.size) :
    MetFree l my0 (head1 (Jvm.Cond.code my0 method_3_code 1 (some (.array .char)) :: ws) Rm_mk31) (fun aa_ U => aa_ = #[(.int (4 : Int32))] ∧ Z.Warmed39 U.vm ∧ U.heap = h0) (fun _ _ _ _ _ => True) (fun _ U oo_ U' => ∃ v L, oo_ = .returned v ∧ Qmk31 Z  h0 n0 v U'.heap L ∧ FrameEnd U oo_ U' L Rm_mk31.cells Rm_mk31.slots) := by
  refine MetFree.of_bodySF (plainFor_of_name pn_0) hisR ?_
  intro p e s m args below meth c s₁ Bd hml0 hP hK
  obtain ⟨rfl, hZ, hh⟩ := hP
  have hx := Bd.exec
  have hby := Bd.bytes
  have hml : c.maxLocals = 1 := hml0
  have hown : s.vm.findClass "com/example/coretally/coretally/store/SampleKeyNamesClusterPinLaw" = some m.cls := findClass_of_methodNamed Bd.named
  have hnm := (name_of_methodNamed Bd.named Bd.method).1
  have X0 : Stand p l e Rm_mk31 s m #[(.int (4 : Int32))] below meth c s₁ [] 0 0 := Stand.of_body Bd
  have e0 : s₁.heap = h0 := by rw [← hh, Bd.state]; rfl
  have N0 := Fr.nil n0
  have pre0 : ∀ tt_, Steps p.tables e below (s₁.setTop (mkF m 0 #[.val (.int (4 : Int32))] [])) tt_ → Steps p.tables e below (s₁.setTop (entryFrame m #[(.int (4 : Int32))] 1)) tt_ := fun tt_ kk_ => castTop (ef_1 m (4 : Int32)) kk_
  obtain ⟨T1, h1, k1, X1, e1, E1, A1, st1⟩ := newP (aty := .char) X0 hx hZ (hwd5 hw) e0 (g := (mkF m 44 #[.val (.int (4 : Int32))] [(.int (31 : Int32))])) rfl (hb hby d1_44) rfl (by decide) (cap := 31) (by decide) (by decide) (by decide) (by decide)
  obtain ⟨b1, g1⟩ : ∃ zz_, zz_ = h0.size := ⟨_, rfl⟩
  rw [← g1] at A1 st1
  have g_b1 : n0 ≤ b1 := Nat.le_trans Z0 (Nat.le_of_eq g1.symm)
  have sz_b1 : h0.size ≤ b1 := Nat.le_trans (Keep.refl h0 []).1 (Nat.le_of_eq g1.symm)
  have V_b1 : Arv Z h1 b1 k1 .char (31 : Int32) (List.replicate 31 (.int (0 : Int32))) (.int (0 : Int32)) := (Arv.new A1 (by decide)).pad (pad_rep [] (.int (0 : Int32)) 31)
  have kp2 : Keep h0 h1 [] := ((Keep.refl h0 []).ext E1)
  obtain ⟨fs, hr, hrun, hended, hW, hsame⟩ := X1.leave (v := some (.ref b1)) (fun h => by rw [Bd.returns] at h; cases h)
  refine ⟨_, _, pre0 _ ?_, hrun, hended, _, _, rfl, ?_, ⟨_, rfl⟩, hW, hsame.mono (by decide) (by decide)⟩
  · show Steps p.tables e below (s₁.setTop (mkF m 0 #[.val (.int (4 : Int32))] [])) _
    refine XS.iloadN X0.here hx rfl (hb hby d1_0) rfl ?_
    refine XS.ifYes X0.here hx rfl (pc0 := 1) (pc' := 8) rfl (hb hby d1_1) rfl ((if0 _ _).trans (feq (show ¬ ((4 : Int32) = (0 : Int32)) from (by decide))).2) (by decide) (by decide) ?_
    refine XS.iloadN X0.here hx rfl (hb hby d1_8) rfl ?_
    refine XS.iconst X0.here hx rfl (hb hby d1_9) ?_
    refine XS.icmpYes X0.here hx rfl (pc0 := 10) (pc' := 17) rfl (hb hby d1_10) rfl (feq (show ¬ ((4 : Int32) = (1 : Int32)) from (by decide))).2 (by decide) (by decide) ?_
    refine XS.iloadN X0.here hx rfl (hb hby d1_17) rfl ?_
    show Steps p.tables e below (s₁.setTop (mkF m 18 #[.val (.int (4 : Int32))] [(.int (4 : Int32))])) _
    refine XS.iconst X0.here hx rfl (hb hby d1_18) ?_
    refine XS.icmpYes X0.here hx rfl (pc0 := 19) (pc' := 27) rfl (hb hby d1_19) rfl (feq (show ¬ ((4 : Int32) = (2 : Int32)) from (by decide))).2 (by decide) (by decide) ?_
    refine XS.iloadN X0.here hx rfl (hb hby d1_27) rfl ?_
    refine XS.iconst X0.here hx rfl (hb hby d1_28) ?_
    refine XS.icmpYes X0.here hx rfl (pc0 := 29) (pc' := 37) rfl (hb hby d1_29) rfl (feq (show ¬ ((4 : Int32) = (3 : Int32)) from (by decide))).2 (by decide) (by decide) ?_
    refine XS.iloadN X0.here hx rfl (hb hby d1_37) rfl ?_
    show Steps p.tables e below (s₁.setTop (mkF m 38 #[.val (.int (4 : Int32))] [(.int (4 : Int32))])) _
    refine XS.iconst X0.here hx rfl (hb hby d1_38) ?_
    refine XS.icmpNo X0.here hx rfl (hb hby d1_39) rfl (teq (show (4 : Int32) = (4 : Int32) from rfl)).2 ?_
    refine XS.bipush X0.here hx rfl (hb hby d1_42) ?_
    show Steps p.tables e below (s₁.setTop (mkF m 44 #[.val (.int (4 : Int32))] [(.int (31 : Int32))])) _
    refine st1 _ ?_
    jvm_step X1.here [X1.here.top, hx, (hb hby d1_46), X1.method', Bd.returns, Value.isRef, FieldType.isReference]
    first | (intro acts; rw [hr _ acts rfl rfl rfl]) | rw [hr _ _ rfl rfl rfl]
    exact Steps.refl _
  · show Qmk31 Z  h0 n0 _ T1.heap _
    rw [e1]
    exact ⟨b1, k1, rfl, N0, kp2, V_b1, sz_b1, g_b1⟩
theorem d1_47 : decode method_3_code 47 = .ok (.iload_n 0, 1) := by decide +kernel
theorem d1_48 : decode method_3_code 48 = .ok (.iconst 5, 1) := by decide +kernel
theorem d1_49 : decode method_3_code 49 = .ok (.if_icmp .ne 8, 3) := by decide +kernel
theorem d1_52 : decode method_3_code 52 = .ok (.bipush 32, 2) := by decide +kernel
theorem d1_54 : decode method_3_code 54 = .ok (.newarray .char, 2) := by decide +kernel
theorem d1_56 : decode method_3_code 56 = .ok (.areturn, 1) := by decide +kernel
def Qmk32 (Z : State)  (h0 : Heap) (n0 : Nat) (v : Option Value) (h : Heap) (L : List Loc) : Prop := ∃ b : Addr, ∃ kb : ClassId, v = some (.ref b) ∧ Fr n0 L ∧ Keep h0 h [] ∧ Arv Z h b kb .char (32 : Int32) (List.replicate 32 (.int (0 : Int32))) (.int (0 : Int32)) ∧ h0.size ≤ b ∧ n0 ≤ b
abbrev Rm_mk32 : Room := { frames := 0, cells := 1, slots := 32, locals := 0 }
set_option maxRecDepth 65536 in
set_option maxHeartbeats 40000000 in
theorem mk32 (l : Launch) (Z : State) (a0 : Array Value) (hw : ∀ d ∈ tables_1, d.before a0 Z = true) (ws : List Jvm.Cond)  (h0 : Heap) (n0 : Nat) (Z0 : n0 ≤ h0.size) :
    MetFree l my0 (head1 (Jvm.Cond.code my0 method_3_code 1 (some (.array .char)) :: ws) Rm_mk32) (fun aa_ U => aa_ = #[(.int (5 : Int32))] ∧ Z.Warmed39 U.vm ∧ U.heap = h0) (fun _ _ _ _ _ => True) (fun _ U oo_ U' => ∃ v L, oo_ = .returned v ∧ Qmk32 Z  h0 n0 v U'.heap L ∧ FrameEnd U oo_ U' L Rm_mk32.cells Rm_mk32.slots) := by
  refine MetFree.of_bodySF (plainFor_of_name pn_0) hisR ?_
  intro p e s m args below meth c s₁ Bd hml0 hP hK
  obtain ⟨rfl, hZ, hh⟩ := hP
  have hx := Bd.exec
  have hby := Bd.bytes
  have hml : c.maxLocals = 1 := hml0
  have hown : s.vm.findClass "com/example/coretally/coretally/store/SampleKeyNamesClusterPinLaw" = some m.cls := findClass_of_methodNamed Bd.named
  have hnm := (name_of_methodNamed Bd.named Bd.method).1
  have X0 : Stand p l e Rm_mk32 s m #[(.int (5 : Int32))] below meth c s₁ [] 0 0 := Stand.of_body Bd
  have e0 : s₁.heap = h0 := by rw [← hh, Bd.state]; rfl
  have N0 := Fr.nil n0
  have pre0 : ∀ tt_, Steps p.tables e below (s₁.setTop (mkF m 0 #[.val (.int (5 : Int32))] [])) tt_ → Steps p.tables e below (s₁.setTop (entryFrame m #[(.int (5 : Int32))] 1)) tt_ := fun tt_ kk_ => castTop (ef_1 m (5 : Int32)) kk_
  obtain ⟨T1, h1, k1, X1, e1, E1, A1, st1⟩ := newP (aty := .char) X0 hx hZ (hwd5 hw) e0 (g := (mkF m 54 #[.val (.int (5 : Int32))] [(.int (32 : Int32))])) rfl (hb hby d1_54) rfl (by decide) (cap := 32) (by decide) (by decide) (by decide) (by decide)
  obtain ⟨b1, g1⟩ : ∃ zz_, zz_ = h0.size := ⟨_, rfl⟩
  rw [← g1] at A1 st1
  have g_b1 : n0 ≤ b1 := Nat.le_trans Z0 (Nat.le_of_eq g1.symm)
  have sz_b1 : h0.size ≤ b1 := Nat.le_trans (Keep.refl h0 []).1 (Nat.le_of_eq g1.symm)
  have V_b1 : Arv Z h1 b1 k1 .char (32 : Int32) (List.replicate 32 (.int (0 : Int32))) (.int (0 : Int32)) := (Arv.new A1 (by decide)).pad (pad_rep [] (.int (0 : Int32)) 32)
  have kp2 : Keep h0 h1 [] := ((Keep.refl h0 []).ext E1)
  obtain ⟨fs, hr, hrun, hended, hW, hsame⟩ := X1.leave (v := some (.ref b1)) (fun h => by rw [Bd.returns] at h; cases h)
  refine ⟨_, _, pre0 _ ?_, hrun, hended, _, _, rfl, ?_, ⟨_, rfl⟩, hW, hsame.mono (by decide) (by decide)⟩
  · show Steps p.tables e below (s₁.setTop (mkF m 0 #[.val (.int (5 : Int32))] [])) _
    refine XS.iloadN X0.here hx rfl (hb hby d1_0) rfl ?_
    refine XS.ifYes X0.here hx rfl (pc0 := 1) (pc' := 8) rfl (hb hby d1_1) rfl ((if0 _ _).trans (feq (show ¬ ((5 : Int32) = (0 : Int32)) from (by decide))).2) (by decide) (by decide) ?_
    refine XS.iloadN X0.here hx rfl (hb hby d1_8) rfl ?_
    refine XS.iconst X0.here hx rfl (hb hby d1_9) ?_
    refine XS.icmpYes X0.here hx rfl (pc0 := 10) (pc' := 17) rfl (hb hby d1_10) rfl (feq (show ¬ ((5 : Int32) = (1 : Int32)) from (by decide))).2 (by decide) (by decide) ?_
    refine XS.iloadN X0.here hx rfl (hb hby d1_17) rfl ?_
    show Steps p.tables e below (s₁.setTop (mkF m 18 #[.val (.int (5 : Int32))] [(.int (5 : Int32))])) _
    refine XS.iconst X0.here hx rfl (hb hby d1_18) ?_
    refine XS.icmpYes X0.here hx rfl (pc0 := 19) (pc' := 27) rfl (hb hby d1_19) rfl (feq (show ¬ ((5 : Int32) = (2 : Int32)) from (by decide))).2 (by decide) (by decide) ?_
    refine XS.iloadN X0.here hx rfl (hb hby d1_27) rfl ?_
    refine XS.iconst X0.here hx rfl (hb hby d1_28) ?_
    refine XS.icmpYes X0.here hx rfl (pc0 := 29) (pc' := 37) rfl (hb hby d1_29) rfl (feq (show ¬ ((5 : Int32) = (3 : Int32)) from (by decide))).2 (by decide) (by decide) ?_
    refine XS.iloadN X0.here hx rfl (hb hby d1_37) rfl ?_
    show Steps p.tables e below (s₁.setTop (mkF m 38 #[.val (.int (5 : Int32))] [(.int (5 : Int32))])) _
    refine XS.iconst X0.here hx rfl (hb hby d1_38) ?_
    refine XS.icmpYes X0.here hx rfl (pc0 := 39) (pc' := 47) rfl (hb hby d1_39) rfl (feq (show ¬ ((5 : Int32) = (4 : Int32)) from (by decide))).2 (by decide) (by decide) ?_
    refine XS.iloadN X0.here hx rfl (hb hby d1_47) rfl ?_
    refine XS.iconst X0.here hx rfl (hb hby d1_48) ?_
    refine XS.icmpNo X0.here hx rfl (hb hby d1_49) rfl (teq (show (5 : Int32) = (5 : Int32) from rfl)).2 ?_
    refine XS.bipush X0.here hx rfl (hb hby d1_52) ?_
    show Steps p.tables e below (s₁.setTop (mkF m 54 #[.val (.int (5 : Int32))] [(.int (32 : Int32))])) _
    refine st1 _ ?_
    jvm_step X1.here [X1.here.top, hx, (hb hby d1_56), X1.method', Bd.returns, Value.isRef, FieldType.isReference]
    first | (intro acts; rw [hr _ acts rfl rfl rfl]) | rw [hr _ _ rfl rfl rfl]
    exact Steps.refl _
  · show Qmk32 Z  h0 n0 _ T1.heap _
    rw [e1]
    exact ⟨b1, k1, rfl, N0, kp2, V_b1, sz_b1, g_b1⟩
theorem d1_57 : decode method_3_code 57 = .ok (.bipush 60, 2) := by decide +kernel
theorem d1_59 : decode method_3_code 59 = .ok (.newarray .char, 2) := by decide +kernel
theorem d1_61 : decode method_3_code 61 = .ok (.areturn, 1) := by decide +kernel
def Qmk60 (Z : State)  (h0 : Heap) (n0 : Nat) (v : Option Value) (h : Heap) (L : List Loc) : Prop := ∃ b : Addr, ∃ kb : ClassId, v = some (.ref b) ∧ Fr n0 L ∧ Keep h0 h [] ∧ Arv Z h b kb .char (60 : Int32) (List.replicate 60 (.int (0 : Int32))) (.int (0 : Int32)) ∧ h0.size ≤ b ∧ n0 ≤ b
abbrev Rm_mk60 : Room := { frames := 0, cells := 1, slots := 60, locals := 0 }
set_option maxRecDepth 65536 in
set_option maxHeartbeats 40000000 in
theorem mk60 (l : Launch) (Z : State) (a0 : Array Value) (hw : ∀ d ∈ tables_1, d.before a0 Z = true) (ws : List Jvm.Cond)  (h0 : Heap) (n0 : Nat) (Z0 : n0 ≤ h0.size) :
    MetFree l my0 (head1 (Jvm.Cond.code my0 method_3_code 1 (some (.array .char)) :: ws) Rm_mk60) (fun aa_ U => aa_ = #[(.int (6 : Int32))] ∧ Z.Warmed39 U.vm ∧ U.heap = h0) (fun _ _ _ _ _ => True) (fun _ U oo_ U' => ∃ v L, oo_ = .returned v ∧ Qmk60 Z  h0 n0 v U'.heap L ∧ FrameEnd U oo_ U' L Rm_mk60.cells Rm_mk60.slots) := by
  refine MetFree.of_bodySF (plainFor_of_name pn_0) hisR ?_
  intro p e s m args below meth c s₁ Bd hml0 hP hK
  obtain ⟨rfl, hZ, hh⟩ := hP
  have hx := Bd.exec
  have hby := Bd.bytes
  have hml : c.maxLocals = 1 := hml0
  have hown : s.vm.findClass "com/example/coretally/coretally/store/SampleKeyNamesClusterPinLaw" = some m.cls := findClass_of_methodNamed Bd.named
  have hnm := (name_of_methodNamed Bd.named Bd.method).1
  have X0 : Stand p l e Rm_mk60 s m #[(.int (6 : Int32))] below meth c s₁ [] 0 0 := Stand.of_body Bd
  have e0 : s₁.heap = h0 := by rw [← hh, Bd.state]; rfl
  have N0 := Fr.nil n0
  have pre0 : ∀ tt_, Steps p.tables e below (s₁.setTop (mkF m 0 #[.val (.int (6 : Int32))] [])) tt_ → Steps p.tables e below (s₁.setTop (entryFrame m #[(.int (6 : Int32))] 1)) tt_ := fun tt_ kk_ => castTop (ef_1 m (6 : Int32)) kk_
  obtain ⟨T1, h1, k1, X1, e1, E1, A1, st1⟩ := newP (aty := .char) X0 hx hZ (hwd5 hw) e0 (g := (mkF m 59 #[.val (.int (6 : Int32))] [(.int (60 : Int32))])) rfl (hb hby d1_59) rfl (by decide) (cap := 60) (by decide) (by decide) (by decide) (by decide)
  obtain ⟨b1, g1⟩ : ∃ zz_, zz_ = h0.size := ⟨_, rfl⟩
  rw [← g1] at A1 st1
  have g_b1 : n0 ≤ b1 := Nat.le_trans Z0 (Nat.le_of_eq g1.symm)
  have sz_b1 : h0.size ≤ b1 := Nat.le_trans (Keep.refl h0 []).1 (Nat.le_of_eq g1.symm)
  have V_b1 : Arv Z h1 b1 k1 .char (60 : Int32) (List.replicate 60 (.int (0 : Int32))) (.int (0 : Int32)) := (Arv.new A1 (by decide)).pad (pad_rep [] (.int (0 : Int32)) 60)
  have kp2 : Keep h0 h1 [] := ((Keep.refl h0 []).ext E1)
  obtain ⟨fs, hr, hrun, hended, hW, hsame⟩ := X1.leave (v := some (.ref b1)) (fun h => by rw [Bd.returns] at h; cases h)
  refine ⟨_, _, pre0 _ ?_, hrun, hended, _, _, rfl, ?_, ⟨_, rfl⟩, hW, hsame.mono (by decide) (by decide)⟩
  · show Steps p.tables e below (s₁.setTop (mkF m 0 #[.val (.int (6 : Int32))] [])) _
    refine XS.iloadN X0.here hx rfl (hb hby d1_0) rfl ?_
    refine XS.ifYes X0.here hx rfl (pc0 := 1) (pc' := 8) rfl (hb hby d1_1) rfl ((if0 _ _).trans (feq (show ¬ ((6 : Int32) = (0 : Int32)) from (by decide))).2) (by decide) (by decide) ?_
    refine XS.iloadN X0.here hx rfl (hb hby d1_8) rfl ?_
    refine XS.iconst X0.here hx rfl (hb hby d1_9) ?_
    refine XS.icmpYes X0.here hx rfl (pc0 := 10) (pc' := 17) rfl (hb hby d1_10) rfl (feq (show ¬ ((6 : Int32) = (1 : Int32)) from (by decide))).2 (by decide) (by decide) ?_
    refine XS.iloadN X0.here hx rfl (hb hby d1_17) rfl ?_
    show Steps p.tables e below (s₁.setTop (mkF m 18 #[.val (.int (6 : Int32))] [(.int (6 : Int32))])) _
    refine XS.iconst X0.here hx rfl (hb hby d1_18) ?_
    refine XS.icmpYes X0.here hx rfl (pc0 := 19) (pc' := 27) rfl (hb hby d1_19) rfl (feq (show ¬ ((6 : Int32) = (2 : Int32)) from (by decide))).2 (by decide) (by decide) ?_
    refine XS.iloadN X0.here hx rfl (hb hby d1_27) rfl ?_
    refine XS.iconst X0.here hx rfl (hb hby d1_28) ?_
    refine XS.icmpYes X0.here hx rfl (pc0 := 29) (pc' := 37) rfl (hb hby d1_29) rfl (feq (show ¬ ((6 : Int32) = (3 : Int32)) from (by decide))).2 (by decide) (by decide) ?_
    refine XS.iloadN X0.here hx rfl (hb hby d1_37) rfl ?_
    show Steps p.tables e below (s₁.setTop (mkF m 38 #[.val (.int (6 : Int32))] [(.int (6 : Int32))])) _
    refine XS.iconst X0.here hx rfl (hb hby d1_38) ?_
    refine XS.icmpYes X0.here hx rfl (pc0 := 39) (pc' := 47) rfl (hb hby d1_39) rfl (feq (show ¬ ((6 : Int32) = (4 : Int32)) from (by decide))).2 (by decide) (by decide) ?_
    refine XS.iloadN X0.here hx rfl (hb hby d1_47) rfl ?_
    refine XS.iconst X0.here hx rfl (hb hby d1_48) ?_
    refine XS.icmpYes X0.here hx rfl (pc0 := 49) (pc' := 57) rfl (hb hby d1_49) rfl (feq (show ¬ ((6 : Int32) = (5 : Int32)) from (by decide))).2 (by decide) (by decide) ?_
    refine XS.bipush X0.here hx rfl (hb hby d1_57) ?_
    show Steps p.tables e below (s₁.setTop (mkF m 59 #[.val (.int (6 : Int32))] [(.int (60 : Int32))])) _
    refine st1 _ ?_
    jvm_step X1.here [X1.here.top, hx, (hb hby d1_61), X1.method', Bd.returns, Value.isRef, FieldType.isReference]
    first | (intro acts; rw [hr _ acts rfl rfl rfl]) | rw [hr _ _ rfl rfl rfl]
    exact Steps.refl _
  · show Qmk60 Z  h0 n0 _ T1.heap _
    rw [e1]
    exact ⟨b1, k1, rfl, N0, kp2, V_b1, sz_b1, g_b1⟩
theorem hwd16 {Z : State} {a0 : Array Value} (hw : ∀ d ∈ tables_1, d.before a0 Z = true) : (Jvm.Cond.methodLink "java/lang/String" (1 : Nat) ({ cls := "java/lang/Object", name := "<init>", desc := "()V" } : Jvm.MethodName)).before a0 Z = true := hw _ (List.mem_of_getElem? (i := 16) rfl)
theorem hwd17 {Z : State} {a0 : Array Value} (hw : ∀ d ∈ tables_1, d.before a0 Z = true) : (Jvm.Cond.instanceMethod ({ cls := "java/lang/Object", name := "<init>", desc := "()V" } : Jvm.MethodName)).before a0 Z = true := hw _ (List.mem_of_getElem? (i := 17) rfl)
theorem hwd18 {Z : State} {a0 : Array Value} (hw : ∀ d ∈ tables_1, d.before a0 Z = true) : (Jvm.Cond.code ({ cls := "java/lang/Object", name := "<init>", desc := "()V" } : Jvm.MethodName) object_method_1_code (1 : Nat) (Option.none : Option Jvm.ClassFile.FieldType)).before a0 Z = true := hw _ (List.mem_of_getElem? (i := 18) rfl)
theorem hwd25 {Z : State} {a0 : Array Value} (hw : ∀ d ∈ tables_1, d.before a0 Z = true) : (Jvm.Cond.fieldLink "java/lang/String" (9 : Nat) "java/lang/String" "value" "[B").before a0 Z = true := hw _ (List.mem_of_getElem? (i := 25) rfl)
theorem hwd21 {Z : State} {a0 : Array Value} (hw : ∀ d ∈ tables_1, d.before a0 Z = true) : (Jvm.Cond.laysFinal "java/lang/String" "java/lang/String" "value" "[B").before a0 Z = true := hw _ (List.mem_of_getElem? (i := 21) rfl)
theorem hwd7 {Z : State} {a0 : Array Value} (hw : ∀ d ∈ tables_1, d.before a0 Z = true) : (Jvm.Cond.instantiable "java/lang/String" (4 : Nat)).before a0 Z = true := hw _ (List.mem_of_getElem? (i := 7) rfl)
theorem hwd26 {Z : State} {a0 : Array Value} (hw : ∀ d ∈ tables_1, d.before a0 Z = true) : (Jvm.Cond.fieldLink "java/lang/String" (15 : Nat) "java/lang/String" "coder" "B").before a0 Z = true := hw _ (List.mem_of_getElem? (i := 26) rfl)
theorem hwd22 {Z : State} {a0 : Array Value} (hw : ∀ d ∈ tables_1, d.before a0 Z = true) : (Jvm.Cond.laysFinal "java/lang/String" "java/lang/String" "coder" "B").before a0 Z = true := hw _ (List.mem_of_getElem? (i := 22) rfl)
theorem d3_0 : decode jdk_42_method_149_code 0 = .ok (.aload_n 0, 1) := by decide +kernel
theorem d3_1 : decode jdk_42_method_149_code 1 = .ok (.invokespecial 1, 3) := by decide +kernel
theorem d3_4 : decode jdk_42_method_149_code 4 = .ok (.iload_n 3, 1) := by decide +kernel
theorem d3_5 : decode jdk_42_method_149_code 5 = .ok (.ifCond .ne 22, 3) := by decide +kernel
theorem d3_8 : decode jdk_42_method_149_code 8 = .ok (.aload_n 0, 1) := by decide +kernel
theorem d3_9 : decode jdk_42_method_149_code 9 = .ok (.ldc 7, 2) := by decide +kernel
theorem d3_11 : decode jdk_42_method_149_code 11 = .ok (.getfield 9, 3) := by decide +kernel
theorem d3_14 : decode jdk_42_method_149_code 14 = .ok (.putfield 9, 3) := by decide +kernel
theorem d3_17 : decode jdk_42_method_149_code 17 = .ok (.aload_n 0, 1) := by decide +kernel
theorem d3_18 : decode jdk_42_method_149_code 18 = .ok (.ldc 7, 2) := by decide +kernel
theorem d3_20 : decode jdk_42_method_149_code 20 = .ok (.getfield 15, 3) := by decide +kernel
theorem d3_23 : decode jdk_42_method_149_code 23 = .ok (.putfield 15, 3) := by decide +kernel
theorem d3_26 : decode jdk_42_method_149_code 26 = .ok (.return_, 1) := by decide +kernel
theorem pn_1 : plainName "java/lang/String" = true := by first | (simp [plainName, overriddenIn]; done) | decide +kernel
theorem ef_3n4 (m : MethodId) (x0 : Addr) (x1 : Addr) (x2 : Int32) (x3 : Int32) : entryFrame m #[(.ref x0), (.ref x1), (.int x2), (.int x3), .null] 6 = mkF m 0 #[.val (.ref x0), .val (.ref x1), .val (.int x2), .val (.int x3), .val .null, .unset] [] := by first | (simp [entryFrame, mkF, argsToLocals, Value.category]; done) | rfl
def Qsv0 (Z : State) (a : Addr) (ar : Addr) (h0 : Heap) (n0 : Nat) (v : Option Value) (h : Heap) (L : List Loc) : Prop := ∃ b : Addr, ∃ kb : ClassId, v = none ∧ Fr n0 L ∧ Keep h0 h [a] ∧ Exa Z h a "java/lang/String" ∧ Fld Z h a "java/lang/String" "value" "[B" (.ref b) ∧ Fld Z h a "java/lang/String" "coder" "B" (.int (0 : Int32)) ∧ Arv Z h b kb .byte (0 : Int32) [] (.int 0)
abbrev my1 : MethodName := ⟨"java/lang/String", "<init>", "([CIILjava/lang/Void;)V"⟩
abbrev Rm_sv0 : Room := { frames := 1, cells := 2, slots := 4, locals := 12 }
set_option maxRecDepth 65536 in
set_option maxHeartbeats 40000000 in
theorem sv0 (l : Launch) (Z : State) (a0 : Array Value) (hw : ∀ d ∈ tables_1, d.before a0 Z = true) (ws : List Jvm.Cond) (a : Addr) (ar : Addr) (h0 : Heap) (n0 : Nat) (Z0 : n0 ≤ h0.size) (E_a : Exa Z h0 a "java/lang/String") (F_value_a : Fld Z h0 a "java/lang/String" "value" "[B" .null) (F_coder_a : Fld Z h0 a "java/lang/String" "coder" "B" (.int (0 : Int32))) (g_a : n0 ≤ a) :
    MetFree l my1 (head1 (Jvm.Cond.code my1 jdk_42_method_149_code 6 none :: ws) Rm_sv0) (fun aa_ U => aa_ = #[(.ref a), (.ref ar), (.int (0 : Int32)), (.int (0 : Int32)), .null] ∧ Z.Warmed39 U.vm ∧ U.heap = h0 ∧ CHv Z consts_1 U.vm h0) (fun _ _ _ _ _ => True) (fun _ U oo_ U' => ∃ v L, oo_ = .returned v ∧ Qsv0 Z a ar h0 n0 v U'.heap L ∧ CHr Z consts_1 U.vm U.heap U'.vm U'.heap ∧ ReturnedEndW U oo_ U' L Rm_sv0.cells Rm_sv0.slots) := by
  refine MetFree.of_bodySF (plainFor_of_name pn_1) hisR ?_
  intro p e s m args below meth c s₁ Bd hml0 hP hK
  obtain ⟨rfl, hZ, hh, hC0⟩ := hP
  have hx := Bd.exec
  have hby := Bd.bytes
  have hml : c.maxLocals = 6 := hml0
  have hown : s.vm.findClass "java/lang/String" = some m.cls := findClass_of_methodNamed Bd.named
  have hZ : Z.Warmed39 (s.setVm s.vm).vm := hZ
  have hown : (s.setVm s.vm).vm.findClass "java/lang/String" = some m.cls := hown
  have hS0 : s.Since s.vm s.heap.size := (State.WarmedH.refl s).since _
  have hk0 : s.heap.size ≤ h0.size := Nat.le_of_eq (by rw [hh])
  have CR0 : CHr Z consts_1 s.vm h0 s.vm h0 := CHr.refl hC0
  have hnm := (name_of_methodNamed Bd.named Bd.method).1
  have X0 : Stand p l e Rm_sv0 (s.setVm s.vm) m #[(.ref a), (.ref ar), (.int (0 : Int32)), (.int (0 : Int32)), .null] below meth c s₁ [] 0 0 := Stand.of_body Bd
  have e0 : s₁.heap = h0 := by rw [← hh, Bd.state]; rfl
  have N0 := Fr.nil n0
  have pre0 : ∀ tt_, Steps p.tables e below (s₁.setTop (mkF m 0 #[.val (.ref a), .val (.ref ar), .val (.int (0 : Int32)), .val (.int (0 : Int32)), .val .null, .unset] [])) tt_ → Steps p.tables e below (s₁.setTop (entryFrame m #[(.ref a), (.ref ar), (.int (0 : Int32)), (.int (0 : Int32)), .null] 6)) tt_ := fun tt_ kk_ => castTop (ef_3n4 m a ar (0 : Int32) (0 : Int32)) kk_
  obtain ⟨T1, X1, e1, st1⟩ := initO X0 hx hZ hown (hwd16 hw) (hwd17 hw) (hwd18 hw) e0 (g := (mkF m 1 #[.val (.ref a), .val (.ref ar), .val (.int (0 : Int32)), .val (.int (0 : Int32)), .val .null, .unset] [(.ref a)])) rfl (by rw [hml]; rfl) rfl (hb hby d3_1) (by decide) (W := 0) (by show 2 * 0 + _ ≤ _; exact Nat.le_of_eq rfl) (by decide)
  have Sf0 : Safe Z consts_1 s.vm h0 a := own_safe hZ.alike E_a F_value_a
  obtain ⟨a2, T2, h2, kk2, b2, kb2, X2, e2, E2, hS2, hk2, hZ2, hown2, Es2, Cs2, Vs2, As2, la2, lb2, CR2q, Lt2, sf2, st2⟩ := ldcCH X1 hx hZ hown (hwd19 hw) (own_ws hw) e1 hS0 hk0 (own_EL hw) (List.mem_of_getElem? (i := 0) rfl) CR0.1 (vs := []) (z := (0 : Int32)) ⟨(fun _ q => nomatch q), rfl⟩ (by decide) rfl (g := (mkF m 9 #[.val (.ref a), .val (.ref ar), .val (.int (0 : Int32)), .val (.int (0 : Int32)), .val .null, .unset] [(.ref a)])) rfl (hb hby d3_9) (n := 0) (by decide) (by decide) (by decide) (by decide)
  have CR2 := CR0.trans CR2q
  have Sf2_a := CR2q.safe E_a.lt Sf0
  obtain ⟨T3, X3, e3, st3⟩ := getF X2 hx hZ2 hown2 (host := "") (Or.inl (hwd25 hw)) Via.refl e2 Vs2 (g := (mkF m 11 #[.val (.ref a), .val (.ref ar), .val (.int (0 : Int32)), .val (.int (0 : Int32)), .val .null, .unset] [(.ref a2), (.ref a)])) rfl rfl (hb hby d3_11)
  have f4_E_a := (E_a.ext E2)
  have f5_F_a_value := (F_value_a.ext E2)
  obtain ⟨T6, h6, X6, e6, W6, st6⟩ := putF X3 hx hZ2 hown2 (host := "") (Or.inl (hwd25 hw)) Via.refl e3 f5_F_a_value f4_E_a (Or.inr ⟨(hwd21 hw), rfl, hnm⟩) (hwd7 hw) (ty := (.array .byte)) (by decide) rfl rfl (g := (mkF m 14 #[.val (.ref a), .val (.ref ar), .val (.int (0 : Int32)), .val (.int (0 : Int32)), .val .null, .unset] [(.ref b2), (.ref a)])) rfl rfl (hb hby d3_14)
  have N6 := Fr.snoc X6 N0 g_a
  have Fw6 := f5_F_a_value.same W6
  have f7_F_a2_coder := (Cs2.other W6 (Or.inl (Ne.symm (sf2 _ Sf2_a).1)))
  obtain ⟨T8, X8, e8, st8⟩ := getF X6 hx hZ2 hown2 (host := "") (Or.inl (hwd26 hw)) Via.refl e6 f7_F_a2_coder (g := (mkF m 20 #[.val (.ref a), .val (.ref ar), .val (.int (0 : Int32)), .val (.int (0 : Int32)), .val .null, .unset] [(.ref a2), (.ref a)])) rfl rfl (hb hby d3_20)
  have f9_E_a := (f4_E_a.wr W6)
  have f10_F_a_coder := ((F_coder_a.ext E2).other W6 (Or.inr (slot_ne (Or.inr (hwd22 hw)) (Or.inr (hwd21 hw)) (by decide) (t := .byte) (t' := (.array .byte)) (by decide) (by decide))))
  obtain ⟨T11, h11, X11, e11, W11, st11⟩ := putFN X8 hx hZ2 hown2 (hwd26 hw) Via.refl e8 f10_F_a_coder f9_E_a (Or.inr ⟨(hwd22 hw), rfl, hnm⟩) (hwd7 hw) (ty := .byte) (v' := (.int (0 : Int32))) (by decide) rfl (by first | exact fits_nar_byte _ | rfl) (g := (mkF m 23 #[.val (.ref a), .val (.ref ar), .val (.int (0 : Int32)), .val (.int (0 : Int32)), .val .null, .unset] [(.int (0 : Int32)), (.ref a)])) rfl rfl (hb hby d3_23)
  have N11 := Fr.snoc X11 N6 g_a
  have Fw11 := f10_F_a_coder.same W11
  have kp12 : Keep h0 h11 [a] := ((((Keep.refl h0 [a]).ext E2).wr W6 (Or.inl (List.mem_of_getElem? (i := 0) rfl))).wr W11 (Or.inl (List.mem_of_getElem? (i := 0) rfl)))
  have f13_E_a := (f9_E_a.wr W11)
  have f14_F_a_value := (Fw6.other W11 (Or.inr (slot_ne (Or.inr (hwd21 hw)) (Or.inr (hwd22 hw)) (by decide) (t := (.array .byte)) (t' := .byte) (by decide) (by decide))))
  have f15_V_b2 := ((As2.other W6 (Ne.symm (sf2 _ Sf2_a).2)).other W11 (Ne.symm (sf2 _ Sf2_a).2))
  have CR16h : CHr Z consts_1 s.vm h0 T2.vm h11 := CR2.trans (CHr.keep (((Keep.refl h2 [a]).wr W6 (Or.inl (List.mem_of_getElem? (i := 0) rfl))).wr W11 (Or.inl (List.mem_of_getElem? (i := 0) rfl))) (sfS Sf2_a sf0) CR2.1)
  have hk17 : _ ≤ h11.size := (Nat.le_trans (Nat.le_trans hk2 (Keep.of_wr W6).1) (Keep.of_wr W11).1)
  have hkE := Nat.le_trans hk17 (Nat.le_of_eq (congrArg Array.size (show h11 = T11.heap from Eq.symm e11)))
  obtain ⟨fs, hr, hrun, hended, hRE⟩ := X11.leaveW hS2 hkE (v := none) (fun _ => rfl)
  refine ⟨_, _, pre0 _ ?_, hrun, hended, _, _, rfl, ?_, ?_, hRE.1, hRE.2.1, hRE.2.2.1, hRE.2.2.2.mono (by decide) (by decide)⟩
  · show Steps p.tables e below (s₁.setTop (mkF m 0 #[.val (.ref a), .val (.ref ar), .val (.int (0 : Int32)), .val (.int (0 : Int32)), .val .null, .unset] [])) _
    refine XS.aloadN X0.here hx rfl (hb hby d3_0) rfl rfl ?_
    refine st1 _ ?_
    refine XS.iloadN X1.here hx rfl (hb hby d3_4) rfl ?_
    refine XS.ifNo X1.here hx rfl (hb hby d3_5) rfl ((if0 _ _).trans (teq (show (0 : Int32) = (0 : Int32) from rfl)).2) ?_
    refine XS.aloadN X1.here hx rfl (hb hby d3_8) rfl rfl ?_
    refine st2 _ ?_
    show Steps p.tables e below (T2.setTop (mkF m 11 #[.val (.ref a), .val (.ref ar), .val (.int (0 : Int32)), .val (.int (0 : Int32)), .val .null, .unset] [(.ref a2), (.ref a)])) _
    refine st3 _ ?_
    refine st6 _ ?_
    refine XS.aloadN X6.here hx rfl (hb hby d3_17) rfl rfl ?_
    refine ldcAgain X6 hx hZ2 hown2 (hwd19 hw) Lt2 (g := (mkF m 18 #[.val (.ref a), .val (.ref ar), .val (.int (0 : Int32)), .val (.int (0 : Int32)), .val .null, .unset] [(.ref a)])) rfl (hb hby d3_18) _ ?_
    refine st8 _ ?_
    refine st11 _ ?_
    show Steps p.tables e below (T11.setTop (mkF m 26 #[.val (.ref a), .val (.ref ar), .val (.int (0 : Int32)), .val (.int (0 : Int32)), .val .null, .unset] [])) _
    exact X11.returnOut hx Bd.returns (hb hby d3_26) hr
  · show Qsv0 Z a ar h0 n0 _ T11.heap _
    rw [e11]
    exact ⟨b2, kb2, rfl, N11, kp12, f13_E_a, f14_F_a_value, Fw11, f15_V_b2⟩
  · show CHr Z consts_1 s.vm s.heap T11.vm T11.heap
    rw [hh, e11]
    exact CR16h.trans (CHv.at X11 hZ2 (own_EL hw) CR16h.1)
theorem hwd12 {Z : State} {a0 : Array Value} (hw : ∀ d ∈ tables_1, d.before a0 Z = true) : (Jvm.Cond.methodLink "java/lang/String" (27 : Nat) ({ cls := "java/lang/String", name := "<init>", desc := "([CIILjava/lang/Void;)V" } : Jvm.MethodName)).before a0 Z = true := hw _ (List.mem_of_getElem? (i := 12) rfl)
theorem hwd15 {Z : State} {a0 : Array Value} (hw : ∀ d ∈ tables_1, d.before a0 Z = true) : (Jvm.Cond.code ({ cls := "java/lang/String", name := "<init>", desc := "([CIILjava/lang/Void;)V" } : Jvm.MethodName) jdk_42_method_149_code (6 : Nat) (Option.none : Option Jvm.ClassFile.FieldType)).before a0 Z = true := hw _ (List.mem_of_getElem? (i := 15) rfl)
theorem hwd8 {Z : State} {a0 : Array Value} (hw : ∀ d ∈ tables_1, d.before a0 Z = true) : (Jvm.Cond.initialized "java/lang/String").before a0 Z = true := hw _ (List.mem_of_getElem? (i := 8) rfl)
theorem pd_0 : parseMethodDescriptor "([CIILjava/lang/Void;)V" = some ⟨[(.array .char), .int, .int, (.object "java/lang/Void")], none⟩ := by decide +kernel
theorem hwd13 {Z : State} {a0 : Array Value} (hw : ∀ d ∈ tables_1, d.before a0 Z = true) : (Jvm.Cond.instanceMethod ({ cls := "java/lang/String", name := "<init>", desc := "([CIILjava/lang/Void;)V" } : Jvm.MethodName)).before a0 Z = true := hw _ (List.mem_of_getElem? (i := 13) rfl)
theorem d2_0 : decode jdk_42_method_3_code 0 = .ok (.aload_n 0, 1) := by decide +kernel
theorem d2_1 : decode jdk_42_method_3_code 1 = .ok (.aload_n 1, 1) := by decide +kernel
theorem d2_2 : decode jdk_42_method_3_code 2 = .ok (.iconst 0, 1) := by decide +kernel
theorem d2_3 : decode jdk_42_method_3_code 3 = .ok (.aload_n 1, 1) := by decide +kernel
theorem d2_4 : decode jdk_42_method_3_code 4 = .ok (.arraylength, 1) := by decide +kernel
theorem d2_5 : decode jdk_42_method_3_code 5 = .ok (.aconst_null, 1) := by decide +kernel
theorem d2_6 : decode jdk_42_method_3_code 6 = .ok (.invokespecial 27, 3) := by decide +kernel
theorem d2_9 : decode jdk_42_method_3_code 9 = .ok (.return_, 1) := by decide +kernel
theorem ef_2 (m : MethodId) (x0 : Addr) (x1 : Addr) : entryFrame m #[(.ref x0), (.ref x1)] 2 = mkF m 0 #[.val (.ref x0), .val (.ref x1)] [] := by first | (simp [entryFrame, mkF, argsToLocals, Value.category]; done) | rfl
def Qsc0 (Z : State) (a : Addr) (ar : Addr) (ka : ClassId) (h0 : Heap) (n0 : Nat) (v : Option Value) (h : Heap) (L : List Loc) : Prop := ∃ b : Addr, ∃ kb : ClassId, v = none ∧ Fr n0 L ∧ Keep h0 h [a] ∧ Exa Z h a "java/lang/String" ∧ Fld Z h a "java/lang/String" "value" "[B" (.ref b) ∧ Fld Z h a "java/lang/String" "coder" "B" (.int (0 : Int32)) ∧ Arv Z h b kb .byte (0 : Int32) [] (.int 0)
abbrev my2 : MethodName := ⟨"java/lang/String", "<init>", "([C)V"⟩
abbrev Rm_sc0 : Room := { frames := 2, cells := 2, slots := 4, locals := 29 }
set_option maxRecDepth 65536 in
set_option maxHeartbeats 40000000 in
theorem sc0 (l : Launch) (Z : State) (a0 : Array Value) (hw : ∀ d ∈ tables_1, d.before a0 Z = true) (ws : List Jvm.Cond) (a : Addr) (ar : Addr) (ka : ClassId) (h0 : Heap) (n0 : Nat) (Z0 : n0 ≤ h0.size) (E_a : Exa Z h0 a "java/lang/String") (F_value_a : Fld Z h0 a "java/lang/String" "value" "[B" .null) (F_coder_a : Fld Z h0 a "java/lang/String" "coder" "B" (.int (0 : Int32))) (g_a : n0 ≤ a) (V_ar : Arv Z h0 ar ka .char (0 : Int32) (List.replicate 0 (.int (0 : Int32))) (.int (0 : Int32))) :
    MetFree l my2 (head1 (Jvm.Cond.code my2 jdk_42_method_3_code 2 none :: ws) Rm_sc0) (fun aa_ U => aa_ = #[(.ref a), (.ref ar)] ∧ Z.Warmed39 U.vm ∧ U.heap = h0 ∧ CHv Z consts_1 U.vm h0) (fun _ _ _ _ _ => True) (fun _ U oo_ U' => ∃ v L, oo_ = .returned v ∧ Qsc0 Z a ar ka h0 n0 v U'.heap L ∧ CHr Z consts_1 U.vm U.heap U'.vm U'.heap ∧ ReturnedEndW U oo_ U' L Rm_sc0.cells Rm_sc0.slots) := by
  refine MetFree.of_bodySF (plainFor_of_name pn_1) hisR ?_
  intro p e s m args below meth c s₁ Bd hml0 hP hK
  obtain ⟨rfl, hZ, hh, hC0⟩ := hP
  have hx := Bd.exec
  have hby := Bd.bytes
  have hml : c.maxLocals = 2 := hml0
  have hown : s.vm.findClass "java/lang/String" = some m.cls := findClass_of_methodNamed Bd.named
  have hZ : Z.Warmed39 (s.setVm s.vm).vm := hZ
  have hown : (s.setVm s.vm).vm.findClass "java/lang/String" = some m.cls := hown
  have hS0 : s.Since s.vm s.heap.size := (State.WarmedH.refl s).since _
  have hk0 : s.heap.size ≤ h0.size := Nat.le_of_eq (by rw [hh])
  have CR0 : CHr Z consts_1 s.vm h0 s.vm h0 := CHr.refl hC0
  have hnm := (name_of_methodNamed Bd.named Bd.method).1
  have X0 : Stand p l e Rm_sc0 (s.setVm s.vm) m #[(.ref a), (.ref ar)] below meth c s₁ [] 0 0 := Stand.of_body Bd
  have e0 : s₁.heap = h0 := by rw [← hh, Bd.state]; rfl
  have N0 := Fr.nil n0
  have pre0 : ∀ tt_, Steps p.tables e below (s₁.setTop (mkF m 0 #[.val (.ref a), .val (.ref ar)] [])) tt_ → Steps p.tables e below (s₁.setTop (entryFrame m #[(.ref a), (.ref ar)] 2)) tt_ := fun tt_ kk_ => castTop (ef_2 m a ar) kk_
  obtain ⟨cl1, Ar1, -, S1, M1, -, -⟩ := id V_ar
  obtain ⟨_, _, ⟨T2, L2, k2, n2⟩, -, X2q, hS2q, hg2q, ⟨Lc2, hQ2, l2, y2, z2, CR2q⟩, st2⟩ := X0.specialBackS hx (y := my1) rfl hown (mvT hZ (hwd12 hw)) (mvT hZ (hwd13 hw)) (mvT hZ (hwd15 hw)) (by decide) (backOfSH (W := 0) (EL := consts_1) (s := s) (vm0 := s.vm) (sv0 l Z a0 hw [] a ar h0 n0 Z0 E_a F_value_a F_coder_a g_a) hZ (hwd15 hw) (hwd8 hw) (by decide) (by decide) (own_EL hw) CR0.1) (g := (mkF m 6 #[.val (.ref a), .val (.ref ar)] [.null, (.int (0 : Int32)), (.int (0 : Int32)), (.ref ar), (.ref a)])) rfl (by rw [hml]; rfl) (Steps.refl _) (a := a) (argsL := [(.ref ar), (.int (0 : Int32)), (.int (0 : Int32)), .null]) (rest := []) (lenOf pd_0 rfl) rfl (by show 2 * 0 + _ ≤ _; exact Nat.le_of_eq rfl) (hb hby d2_6) (fun _ _ => ⟨rfl, e0, (by decide : 0 + 2 ≤ _), (by decide : 0 + 4 ≤ _)⟩)
  dsimp only [Pt.U, Pt.locs, Pt.cells, Pt.slots] at X2q l2 y2 z2 st2 hQ2 hS2q hg2q CR2q
  subst l2 y2 z2
  obtain ⟨X2, hS2, hZ2, hown2⟩ := rebS hS0 (by rw [show s₁.heap = h0 from e0]; exact hk0) X2q hS2q hg2q hZ hown
  have hk2 : T2.heap.size ≤ T2.heap.size := Nat.le_refl _
  have CR2 := CR0.trans CR2q
  obtain ⟨b_e2, kb_e2, rfl, N2q, K2, p2_1, p2_2, p2_3, p2_4⟩ := hQ2
  have N2 := Fr.app N0 N2q
  have kp3 : Keep h0 T2.heap [a] := ((Keep.refl h0 [a]).trans K2 (allS (Or.inl (List.mem_of_getElem? (i := 0) rfl)) all0))
  have hkE := Nat.le_trans hk2 (Nat.le_of_eq (congrArg Array.size (show T2.heap = T2.heap from Eq.symm rfl)))
  obtain ⟨fs, hr, hrun, hended, hRE⟩ := X2.leaveW hS2 hkE (v := none) (fun _ => rfl)
  refine ⟨_, _, pre0 _ ?_, hrun, hended, _, _, rfl, ?_, ?_, hRE.1, hRE.2.1, hRE.2.2.1, hRE.2.2.2.mono (by decide) (by decide)⟩
  · show Steps p.tables e below (s₁.setTop (mkF m 0 #[.val (.ref a), .val (.ref ar)] [])) _
    refine XS.aloadN X0.here hx rfl (hb hby d2_0) rfl rfl ?_
    refine XS.aloadN X0.here hx rfl (hb hby d2_1) rfl rfl ?_
    refine XS.iconst X0.here hx rfl (hb hby d2_2) ?_
    refine XS.aloadN X0.here hx rfl (hb hby d2_3) rfl rfl ?_
    refine X0.arraylength hx (by rw [e0]; exact Ar1.1) (State.isArrayOf_alike hZ.alike Ar1.2.1) (g := (mkF m 4 #[.val (.ref a), .val (.ref ar)] [(.ref ar), (.int (0 : Int32)), (.ref ar), (.ref a)])) rfl rfl (hb hby d2_4) _ ?_
    rw [len_of S1 M1]
    refine XS.aconstNull X0.here hx rfl (hb hby d2_5) ?_
    show Steps p.tables e below (s₁.setTop (mkF m 6 #[.val (.ref a), .val (.ref ar)] [.null, (.int (0 : Int32)), (.int (0 : Int32)), (.ref ar), (.ref a)])) _
    refine st2.trans ?_
    exact X2.returnOut hx Bd.returns (hb hby d2_9) hr
  · show Qsc0 Z a ar ka h0 n0 _ T2.heap _
    exact ⟨b_e2, kb_e2, rfl, N2, kp3, p2_1, p2_2, p2_3, p2_4⟩
  · show CHr Z consts_1 s.vm s.heap T2.vm T2.heap
    rw [hh]
    exact CR2.trans (CHv.at X2 hZ2 (own_EL hw) CR2.1)
theorem hwd41 {Z : State} {a0 : Array Value} (hw : ∀ d ∈ tables_1, d.before a0 Z = true) : (Jvm.Cond.fieldLink "java/lang/String" (38 : Nat) "java/lang/String" "COMPACT_STRINGS" "Z").before a0 Z = true := hw _ (List.mem_of_getElem? (i := 41) rfl)
theorem d7_0 : decode jdk_42_method_152_code 0 = .ok (.getstatic 38, 3) := by decide +kernel
theorem d7_3 : decode jdk_42_method_152_code 3 = .ok (.ifCond .eq 10, 3) := by decide +kernel
theorem d7_6 : decode jdk_42_method_152_code 6 = .ok (.aload_n 0, 1) := by decide +kernel
theorem d7_7 : decode jdk_42_method_152_code 7 = .ok (.getfield 15, 3) := by decide +kernel
theorem d7_10 : decode jdk_42_method_152_code 10 = .ok (.goto 4, 3) := by decide +kernel
theorem d7_14 : decode jdk_42_method_152_code 14 = .ok (.ireturn, 1) := by decide +kernel
theorem ef_7 (m : MethodId) (x0 : Addr) : entryFrame m #[(.ref x0)] 1 = mkF m 0 #[.val (.ref x0)] [] := by first | (simp [entryFrame, mkF, argsToLocals, Value.category]; done) | rfl
def Qcod (Z : State) (so : Addr) (cz : Int32) (h0 : Heap) (n0 : Nat) (v : Option Value) (h : Heap) (L : List Loc) : Prop := v = some (.int (0 : Int32)) ∧ Fr n0 L ∧ h = h0
abbrev my3 : MethodName := ⟨"java/lang/String", "coder", "()B"⟩
abbrev Rm_cod : Room := { frames := 0, cells := 0, slots := 0, locals := 0 }
set_option maxRecDepth 65536 in
set_option maxHeartbeats 40000000 in
theorem cod (l : Launch) (Z : State) (a0 : Array Value) (hw : ∀ d ∈ tables_1, d.before a0 Z = true) (ws : List Jvm.Cond) (so : Addr) (cz : Int32) (h0 : Heap) (n0 : Nat) (Z0 : n0 ≤ h0.size) (F_coder_so : Fld Z h0 so "java/lang/String" "coder" "B" (.int (0 : Int32))) (O_C : Sta Z Z.heap "java/lang/String" "COMPACT_STRINGS" "Z" (.int cz)) (hcz : ¬ (cz = (0 : Int32))) (X00 : Old Z n0 h0) :
    MetFree l my3 (head1 (Jvm.Cond.code my3 jdk_42_method_152_code 1 (some .byte) :: ws) Rm_cod) (fun aa_ U => aa_ = #[(.ref so)] ∧ Z.Warmed39 U.vm ∧ U.heap = h0) (fun _ _ _ _ _ => True) (fun _ U oo_ U' => ∃ v L, oo_ = .returned v ∧ Qcod Z so cz h0 n0 v U'.heap L ∧ FrameEnd U oo_ U' L Rm_cod.cells Rm_cod.slots) := by
  refine MetFree.of_bodySF (plainFor_of_name pn_1) hisR ?_
  intro p e s m args below meth c s₁ Bd hml0 hP hK
  obtain ⟨rfl, hZ, hh⟩ := hP
  have hx := Bd.exec
  have hby := Bd.bytes
  have hml : c.maxLocals = 1 := hml0
  have hown : s.vm.findClass "java/lang/String" = some m.cls := findClass_of_methodNamed Bd.named
  have hnm := (name_of_methodNamed Bd.named Bd.method).1
  have X0 : Stand p l e Rm_cod s m #[(.ref so)] below meth c s₁ [] 0 0 := Stand.of_body Bd
  have e0 : s₁.heap = h0 := by rw [← hh, Bd.state]; rfl
  have N0 := Fr.nil n0
  have pre0 : ∀ tt_, Steps p.tables e below (s₁.setTop (mkF m 0 #[.val (.ref so)] [])) tt_ → Steps p.tables e below (s₁.setTop (entryFrame m #[(.ref so)] 1)) tt_ := fun tt_ kk_ => castTop (ef_7 m so) kk_
  obtain ⟨T1, X1, e1, st1⟩ := getS2 X0 hx hZ hown (host := "") (Or.inl (hwd41 hw)) Via.refl e0 (O_C.ext X00.2) (g := (mkF m 0 #[.val (.ref so)] [])) rfl (hb hby d7_0)
  obtain ⟨T2, X2, e2, st2⟩ := getF X1 hx hZ hown (host := "") (Or.inl (hwd26 hw)) Via.refl e1 F_coder_so (g := (mkF m 7 #[.val (.ref so)] [(.ref so)])) rfl rfl (hb hby d7_7)
  obtain ⟨fs, hr, hrun, hended, hW, hsame⟩ := X2.leave (v := some (.int (0 : Int32))) (fun h => by rw [Bd.returns] at h; cases h)
  refine ⟨_, _, pre0 _ ?_, hrun, hended, _, _, rfl, ?_, ⟨_, rfl⟩, hW, hsame.mono (by decide) (by decide)⟩
  · show Steps p.tables e below (s₁.setTop (mkF m 0 #[.val (.ref so)] [])) _
    refine st1 _ ?_
    refine XS.ifNo X1.here hx rfl (hb hby d7_3) rfl ((if0 _ _).trans (feq (show ¬ (cz = (0 : Int32)) from hcz)).1) ?_
    refine XS.aloadN X1.here hx rfl (hb hby d7_6) rfl rfl ?_
    refine st2 _ ?_
    refine XS.goto X2.here hx rfl (pc0 := 10) (pc' := 14) rfl (hb hby d7_10) (by decide) (by decide) ?_
    exact retN X2 hx (t := .byte) Bd.returns (by simp) (hb hby d7_14) hr
  · show Qcod Z so cz h0 n0 _ T2.heap _
    rw [e2]
    exact ⟨rfl, N0, rfl⟩
theorem d16_0 : decode jdk_42_method_154_code 0 = .ok (.getstatic 38, 3) := by decide +kernel
theorem d16_3 : decode jdk_42_method_154_code 3 = .ok (.ifCond .eq 14, 3) := by decide +kernel
theorem d16_6 : decode jdk_42_method_154_code 6 = .ok (.aload_n 0, 1) := by decide +kernel
theorem d16_7 : decode jdk_42_method_154_code 7 = .ok (.getfield 15, 3) := by decide +kernel
theorem d16_10 : decode jdk_42_method_154_code 10 = .ok (.ifCond .ne 7, 3) := by decide +kernel
theorem d16_13 : decode jdk_42_method_154_code 13 = .ok (.iconst 1, 1) := by decide +kernel
theorem d16_14 : decode jdk_42_method_154_code 14 = .ok (.goto 4, 3) := by decide +kernel
theorem d16_18 : decode jdk_42_method_154_code 18 = .ok (.ireturn, 1) := by decide +kernel
theorem ef_16 (m : MethodId) (x0 : Addr) : entryFrame m #[(.ref x0)] 1 = mkF m 0 #[.val (.ref x0)] [] := by first | (simp [entryFrame, mkF, argsToLocals, Value.category]; done) | rfl
def Qlat (Z : State) (so : Addr) (cz : Int32) (h0 : Heap) (n0 : Nat) (v : Option Value) (h : Heap) (L : List Loc) : Prop := v = some (.int (1 : Int32)) ∧ Fr n0 L ∧ h = h0
abbrev my4 : MethodName := ⟨"java/lang/String", "isLatin1", "()Z"⟩
abbrev Rm_lat : Room := { frames := 0, cells := 0, slots := 0, locals := 0 }
set_option maxRecDepth 65536 in
set_option maxHeartbeats 40000000 in
theorem lat (l : Launch) (Z : State) (a0 : Array Value) (hw : ∀ d ∈ tables_1, d.before a0 Z = true) (ws : List Jvm.Cond) (so : Addr) (cz : Int32) (h0 : Heap) (n0 : Nat) (Z0 : n0 ≤ h0.size) (F_coder_so : Fld Z h0 so "java/lang/String" "coder" "B" (.int (0 : Int32))) (O_C : Sta Z Z.heap "java/lang/String" "COMPACT_STRINGS" "Z" (.int cz)) (hcz : ¬ (cz = (0 : Int32))) (X00 : Old Z n0 h0) :
    MetFree l my4 (head1 (Jvm.Cond.code my4 jdk_42_method_154_code 1 (some .boolean) :: ws) Rm_lat) (fun aa_ U => aa_ = #[(.ref so)] ∧ Z.Warmed39 U.vm ∧ U.heap = h0) (fun _ _ _ _ _ => True) (fun _ U oo_ U' => ∃ v L, oo_ = .returned v ∧ Qlat Z so cz h0 n0 v U'.heap L ∧ FrameEnd U oo_ U' L Rm_lat.cells Rm_lat.slots) := by
  refine MetFree.of_bodySF (plainFor_of_name pn_1) hisR ?_
  intro p e s m args below meth c s₁ Bd hml0 hP hK
  obtain ⟨rfl, hZ, hh⟩ := hP
  have hx := Bd.exec
  have hby := Bd.bytes
  have hml : c.maxLocals = 1 := hml0
  have hown : s.vm.findClass "java/lang/String" = some m.cls := findClass_of_methodNamed Bd.named
  have hnm := (name_of_methodNamed Bd.named Bd.method).1
  have X0 : Stand p l e Rm_lat s m #[(.ref so)] below meth c s₁ [] 0 0 := Stand.of_body Bd
  have e0 : s₁.heap = h0 := by rw [← hh, Bd.state]; rfl
  have N0 := Fr.nil n0
  have pre0 : ∀ tt_, Steps p.tables e below (s₁.setTop (mkF m 0 #[.val (.ref so)] [])) tt_ → Steps p.tables e below (s₁.setTop (entryFrame m #[(.ref so)] 1)) tt_ := fun tt_ kk_ => castTop (ef_16 m so) kk_
  obtain ⟨T1, X1, e1, st1⟩ := getS2 X0 hx hZ hown (host := "") (Or.inl (hwd41 hw)) Via.refl e0 (O_C.ext X00.2) (g := (mkF m 0 #[.val (.ref so)] [])) rfl (hb hby d16_0)
  obtain ⟨T2, X2, e2, st2⟩ := getF X1 hx hZ hown (host := "") (Or.inl (hwd26 hw)) Via.refl e1 F_coder_so (g := (mkF m 7 #[.val (.ref so)] [(.ref so)])) rfl rfl (hb hby d16_7)
  obtain ⟨fs, hr, hrun, hended, hW, hsame⟩ := X2.leave (v := some (.int (1 : Int32))) (fun h => by rw [Bd.returns] at h; cases h)
  refine ⟨_, _, pre0 _ ?_, hrun, hended, _, _, rfl, ?_, ⟨_, rfl⟩, hW, hsame.mono (by decide) (by decide)⟩
  · show Steps p.tables e below (s₁.setTop (mkF m 0 #[.val (.ref so)] [])) _
    refine st1 _ ?_
    refine XS.ifNo X1.here hx rfl (hb hby d16_3) rfl ((if0 _ _).trans (feq (show ¬ (cz = (0 : Int32)) from hcz)).1) ?_
    refine XS.aloadN X1.here hx rfl (hb hby d16_6) rfl rfl ?_
    refine st2 _ ?_
    refine XS.ifNo X2.here hx rfl (hb hby d16_10) rfl ((if0 _ _).trans (teq (show (0 : Int32) = (0 : Int32) from rfl)).2) ?_
    refine XS.iconst X2.here hx rfl (hb hby d16_13) ?_
    show Steps p.tables e below (T2.setTop (mkF m 14 #[.val (.ref so)] [(.int (1 : Int32))])) _
    refine XS.goto X2.here hx rfl (pc0 := 14) (pc' := 18) rfl (hb hby d16_14) (by decide) (by decide) ?_
    exact retN X2 hx (t := .boolean) Bd.returns (by simp) (hb hby d16_18) hr
  · show Qlat Z so cz h0 n0 _ T2.heap _
    rw [e2]
    exact ⟨rfl, N0, rfl⟩
theorem hwd36 {Z : State} {a0 : Array Value} (hw : ∀ d ∈ tables_1, d.before a0 Z = true) : (Jvm.Cond.methodLink "java/lang/String" (335 : Nat) ({ cls := "java/lang/String", name := "coder", desc := "()B" } : Jvm.MethodName)).before a0 Z = true := hw _ (List.mem_of_getElem? (i := 36) rfl)
theorem hwd40 {Z : State} {a0 : Array Value} (hw : ∀ d ∈ tables_1, d.before a0 Z = true) : (Jvm.Cond.code ({ cls := "java/lang/String", name := "coder", desc := "()B" } : Jvm.MethodName) jdk_42_method_152_code (1 : Nat) (Option.some Jvm.ClassFile.FieldType.byte)).before a0 Z = true := hw _ (List.mem_of_getElem? (i := 40) rfl)
theorem pd_1 : parseMethodDescriptor "()B" = some ⟨[], some .byte⟩ := by decide +kernel
theorem hwd39 {Z : State} {a0 : Array Value} (hw : ∀ d ∈ tables_1, d.before a0 Z = true) : (Jvm.Cond.selects "java/lang/String" ({ cls := "java/lang/String", name := "coder", desc := "()B" } : Jvm.MethodName) ({ cls := "java/lang/String", name := "coder", desc := "()B" } : Jvm.MethodName)).before a0 Z = true := hw _ (List.mem_of_getElem? (i := 39) rfl)
theorem hwd37 {Z : State} {a0 : Array Value} (hw : ∀ d ∈ tables_1, d.before a0 Z = true) : (Jvm.Cond.declares ({ cls := "java/lang/String", name := "coder", desc := "()B" } : Jvm.MethodName)).before a0 Z = true := hw _ (List.mem_of_getElem? (i := 37) rfl)
theorem hwd38 {Z : State} {a0 : Array Value} (hw : ∀ d ∈ tables_1, d.before a0 Z = true) : (Jvm.Cond.instanceMethod ({ cls := "java/lang/String", name := "coder", desc := "()B" } : Jvm.MethodName)).before a0 Z = true := hw _ (List.mem_of_getElem? (i := 38) rfl)
theorem d6_0 : decode jdk_42_method_54_code 0 = .ok (.aload_n 0, 1) := by decide +kernel
theorem d6_1 : decode jdk_42_method_54_code 1 = .ok (.getfield 9, 3) := by decide +kernel
theorem d6_4 : decode jdk_42_method_54_code 4 = .ok (.arraylength, 1) := by decide +kernel
theorem d6_5 : decode jdk_42_method_54_code 5 = .ok (.aload_n 0, 1) := by decide +kernel
theorem d6_6 : decode jdk_42_method_54_code 6 = .ok (.invokevirtual 335, 3) := by decide +kernel
theorem d6_9 : decode jdk_42_method_54_code 9 = .ok (.ishr, 1) := by decide +kernel
theorem d6_10 : decode jdk_42_method_54_code 10 = .ok (.ireturn, 1) := by decide +kernel
theorem ef_6 (m : MethodId) (x0 : Addr) : entryFrame m #[(.ref x0)] 1 = mkF m 0 #[.val (.ref x0)] [] := by first | (simp [entryFrame, mkF, argsToLocals, Value.category]; done) | rfl
def Qsle0 (Z : State) (so : Addr) (b : Addr) (kb : ClassId) (vs : List Value) (cz : Int32) (h0 : Heap) (n0 : Nat) (v : Option Value) (h : Heap) (L : List Loc) : Prop := v = some (.int (0 : Int32)) ∧ Fr n0 L ∧ h = h0
abbrev my5 : MethodName := ⟨"java/lang/String", "length", "()I"⟩
abbrev Rm_sle0 : Room := { frames := 1, cells := 0, slots := 0, locals := 13 }
set_option maxRecDepth 65536 in
set_option maxHeartbeats 40000000 in
theorem sle0 (l : Launch) (Z : State) (a0 : Array Value) (hw : ∀ d ∈ tables_1, d.before a0 Z = true) (ws : List Jvm.Cond) (so : Addr) (b : Addr) (kb : ClassId) (vs : List Value) (cz : Int32) (h0 : Heap) (n0 : Nat) (Z0 : n0 ≤ h0.size) (E_so : Exa Z h0 so "java/lang/String") (F_value_so : Fld Z h0 so "java/lang/String" "value" "[B" (.ref b)) (F_coder_so : Fld Z h0 so "java/lang/String" "coder" "B" (.int (0 : Int32))) (V_b : Arv Z h0 b kb .byte (0 : Int32) vs (.int 0)) (O_C : Sta Z Z.heap "java/lang/String" "COMPACT_STRINGS" "Z" (.int cz)) (hcz : ¬ (cz = (0 : Int32))) (X00 : Old Z n0 h0) :
    MetFree l my5 (head1 (Jvm.Cond.code my5 jdk_42_method_54_code 1 (some .int) :: ws) Rm_sle0) (fun aa_ U => aa_ = #[(.ref so)] ∧ Z.Warmed39 U.vm ∧ U.heap = h0) (fun _ _ _ _ _ => True) (fun _ U oo_ U' => ∃ v L, oo_ = .returned v ∧ Qsle0 Z so b kb vs cz h0 n0 v U'.heap L ∧ FrameEnd U oo_ U' L Rm_sle0.cells Rm_sle0.slots) := by
  refine MetFree.of_bodySF (plainFor_of_name pn_1) hisR ?_
  intro p e s m args below meth c s₁ Bd hml0 hP hK
  obtain ⟨rfl, hZ, hh⟩ := hP
  have hx := Bd.exec
  have hby := Bd.bytes
  have hml : c.maxLocals = 1 := hml0
  have hown : s.vm.findClass "java/lang/String" = some m.cls := findClass_of_methodNamed Bd.named
  have hnm := (name_of_methodNamed Bd.named Bd.method).1
  have X0 : Stand p l e Rm_sle0 s m #[(.ref so)] below meth c s₁ [] 0 0 := Stand.of_body Bd
  have e0 : s₁.heap = h0 := by rw [← hh, Bd.state]; rfl
  have N0 := Fr.nil n0
  have pre0 : ∀ tt_, Steps p.tables e below (s₁.setTop (mkF m 0 #[.val (.ref so)] [])) tt_ → Steps p.tables e below (s₁.setTop (entryFrame m #[(.ref so)] 1)) tt_ := fun tt_ kk_ => castTop (ef_6 m so) kk_
  obtain ⟨T1, X1, e1, st1⟩ := getF X0 hx hZ hown (host := "") (Or.inl (hwd25 hw)) Via.refl e0 F_value_so (g := (mkF m 1 #[.val (.ref so)] [(.ref so)])) rfl rfl (hb hby d6_1)
  obtain ⟨cl2, Ar2, -, S2, M2, -, -⟩ := id V_b
  obtain ⟨cq3, kq3, q3a, q3b, q3c⟩ := isOf hZ e1 E_so
  obtain ⟨_, _, ⟨T3, L3, k3, n3⟩, -, X3, ⟨Lc3, hQ3, l3, y3, z3⟩, st3⟩ := X1.virtualBack hx (y := my3) (z := my3) hown (mvT hZ (hwd36 hw)) (mvT hZ (hwd37 hw)) (notFace_of_selects (args := #[]) (mvT hZ (hwd39 hw))) (mvT hZ (hwd39 hw)) (mvT hZ (hwd38 hw)) (by decide) (backOf (W := 1) (cod l Z a0 hw [] so cz h0 n0 Z0 F_coder_so O_C hcz X00) hZ (hwd40 hw) (hwd8 hw) (by decide) (by decide)) q3a q3c (g := (mkF m 6 #[.val (.ref so)] [(.ref so), (.int (0 : Int32))])) rfl (by rw [hml]; rfl) (Steps.refl _) (argsL := []) (rest := [(.int (0 : Int32))]) (lenOf pd_1 rfl) rfl (by show 2 * 0 + _ ≤ _; exact Nat.le_of_eq rfl) (hb hby d6_6) (fun _ _ => ⟨rfl, e1, (by decide : 0 + 0 ≤ _), (by decide : 0 + 0 ≤ _)⟩)
  dsimp only [Pt.U, Pt.locs, Pt.cells, Pt.slots] at X3 l3 y3 z3 st3 hQ3
  subst l3 y3 z3
  obtain ⟨rfl, N3q, e3q⟩ := hQ3
  have N3 := Fr.app N0 N3q
  obtain ⟨fs, hr, hrun, hended, hW, hsame⟩ := X3.leave (v := some (.int ((0 : Int32) >>> ((0 : Int32) &&& 31)))) (fun h => by rw [Bd.returns] at h; cases h)
  refine ⟨_, _, pre0 _ ?_, hrun, hended, _, _, rfl, ?_, ⟨_, rfl⟩, hW, hsame.mono (by decide) (by decide)⟩
  · show Steps p.tables e below (s₁.setTop (mkF m 0 #[.val (.ref so)] [])) _
    refine XS.aloadN X0.here hx rfl (hb hby d6_0) rfl rfl ?_
    refine st1 _ ?_
    refine X1.arraylength hx (by rw [e1]; exact Ar2.1) (State.isArrayOf_alike hZ.alike Ar2.2.1) (g := (mkF m 4 #[.val (.ref so)] [(.ref b)])) rfl rfl (hb hby d6_4) _ ?_
    rw [len_of S2 M2]
    refine XS.aloadN X1.here hx rfl (hb hby d6_5) rfl rfl ?_
    refine st3.trans ?_
    refine XS.ishr X3.here hx rfl (hb hby d6_9) rfl ?_
    show Steps p.tables e below (T3.setTop (mkF m 10 #[.val (.ref so)] [(.int ((0 : Int32) >>> ((0 : Int32) &&& 31)))])) _
    exact retI X3 hx Bd.returns (hb hby d6_10) hr
  · show Qsle0 Z so b kb vs cz h0 n0 _ T3.heap _
    rw [e3q]
    exact ⟨congrArg (fun z => some (Value.int z)) (by decide), N3, rfl⟩
theorem hwd31 {Z : State} {a0 : Array Value} (hw : ∀ d ∈ tables_1, d.before a0 Z = true) : (Jvm.Cond.methodLink "com/example/coretally/coretally/store/SampleKey" (54 : Nat) ({ cls := "java/lang/String", name := "length", desc := "()I" } : Jvm.MethodName)).before a0 Z = true := hw _ (List.mem_of_getElem? (i := 31) rfl)
theorem hwd35 {Z : State} {a0 : Array Value} (hw : ∀ d ∈ tables_1, d.before a0 Z = true) : (Jvm.Cond.code ({ cls := "java/lang/String", name := "length", desc := "()I" } : Jvm.MethodName) jdk_42_method_54_code (1 : Nat) (Option.some Jvm.ClassFile.FieldType.int)).before a0 Z = true := hw _ (List.mem_of_getElem? (i := 35) rfl)
theorem pd_2 : parseMethodDescriptor "()I" = some ⟨[], some .int⟩ := by decide +kernel
theorem hwd34 {Z : State} {a0 : Array Value} (hw : ∀ d ∈ tables_1, d.before a0 Z = true) : (Jvm.Cond.selects "java/lang/String" ({ cls := "java/lang/String", name := "length", desc := "()I" } : Jvm.MethodName) ({ cls := "java/lang/String", name := "length", desc := "()I" } : Jvm.MethodName)).before a0 Z = true := hw _ (List.mem_of_getElem? (i := 34) rfl)
theorem hwd32 {Z : State} {a0 : Array Value} (hw : ∀ d ∈ tables_1, d.before a0 Z = true) : (Jvm.Cond.declares ({ cls := "java/lang/String", name := "length", desc := "()I" } : Jvm.MethodName)).before a0 Z = true := hw _ (List.mem_of_getElem? (i := 32) rfl)
theorem hwd33 {Z : State} {a0 : Array Value} (hw : ∀ d ∈ tables_1, d.before a0 Z = true) : (Jvm.Cond.instanceMethod ({ cls := "java/lang/String", name := "length", desc := "()I" } : Jvm.MethodName)).before a0 Z = true := hw _ (List.mem_of_getElem? (i := 33) rfl)
theorem d5_0 : decode prog_78_method_6_code 0 = .ok (.aload_n 0, 1) := by decide +kernel
theorem d5_1 : decode prog_78_method_6_code 1 = .ok (.invokevirtual 54, 3) := by decide +kernel
theorem d5_4 : decode prog_78_method_6_code 4 = .ok (.bipush 30, 2) := by decide +kernel
theorem d5_6 : decode prog_78_method_6_code 6 = .ok (.if_icmp .le 7, 3) := by decide +kernel
theorem d5_13 : decode prog_78_method_6_code 13 = .ok (.iconst 0, 1) := by decide +kernel
theorem d5_14 : decode prog_78_method_6_code 14 = .ok (.ireturn, 1) := by decide +kernel
theorem pn_2 : plainName "com/example/coretally/coretally/store/SampleKey" = true := by first | (simp [plainName, overriddenIn]; done) | decide +kernel
theorem ef_5 (m : MethodId) (x0 : Addr) : entryFrame m #[(.ref x0)] 1 = mkF m 0 #[.val (.ref x0)] [] := by first | (simp [entryFrame, mkF, argsToLocals, Value.category]; done) | rfl
def Qnc0 (Z : State) (so : Addr) (b : Addr) (kb : ClassId) (vs : List Value) (cz : Int32) (h0 : Heap) (n0 : Nat) (v : Option Value) (h : Heap) (L : List Loc) : Prop := v = some (.int (0 : Int32)) ∧ Fr n0 L ∧ h = h0
abbrev my6 : MethodName := ⟨"com/example/coretally/coretally/store/SampleKey", "namesCluster", "(Ljava/lang/String;)Z"⟩
abbrev Rm_nc0 : Room := { frames := 2, cells := 0, slots := 0, locals := 25 }
set_option maxRecDepth 65536 in
set_option maxHeartbeats 40000000 in
theorem nc0 (l : Launch) (Z : State) (a0 : Array Value) (hw : ∀ d ∈ tables_1, d.before a0 Z = true) (ws : List Jvm.Cond) (so : Addr) (b : Addr) (kb : ClassId) (vs : List Value) (cz : Int32) (h0 : Heap) (n0 : Nat) (Z0 : n0 ≤ h0.size) (E_so : Exa Z h0 so "java/lang/String") (F_value_so : Fld Z h0 so "java/lang/String" "value" "[B" (.ref b)) (F_coder_so : Fld Z h0 so "java/lang/String" "coder" "B" (.int (0 : Int32))) (V_b : Arv Z h0 b kb .byte (0 : Int32) vs (.int 0)) (O_C : Sta Z Z.heap "java/lang/String" "COMPACT_STRINGS" "Z" (.int cz)) (hcz : ¬ (cz = (0 : Int32))) (X00 : Old Z n0 h0) :
    MetFree l my6 (head1 (Jvm.Cond.code my6 prog_78_method_6_code 1 (some .boolean) :: ws) Rm_nc0) (fun aa_ U => aa_ = #[(.ref so)] ∧ Z.Warmed39 U.vm ∧ U.heap = h0) (fun _ _ _ _ _ => True) (fun _ U oo_ U' => ∃ v L, oo_ = .returned v ∧ Qnc0 Z so b kb vs cz h0 n0 v U'.heap L ∧ FrameEnd U oo_ U' L Rm_nc0.cells Rm_nc0.slots) := by
  refine MetFree.of_bodySF (plainFor_of_name pn_2) hisR ?_
  intro p e s m args below meth c s₁ Bd hml0 hP hK
  obtain ⟨rfl, hZ, hh⟩ := hP
  have hx := Bd.exec
  have hby := Bd.bytes
  have hml : c.maxLocals = 1 := hml0
  have hown : s.vm.findClass "com/example/coretally/coretally/store/SampleKey" = some m.cls := findClass_of_methodNamed Bd.named
  have hnm := (name_of_methodNamed Bd.named Bd.method).1
  have X0 : Stand p l e Rm_nc0 s m #[(.ref so)] below meth c s₁ [] 0 0 := Stand.of_body Bd
  have e0 : s₁.heap = h0 := by rw [← hh, Bd.state]; rfl
  have N0 := Fr.nil n0
  have pre0 : ∀ tt_, Steps p.tables e below (s₁.setTop (mkF m 0 #[.val (.ref so)] [])) tt_ → Steps p.tables e below (s₁.setTop (entryFrame m #[(.ref so)] 1)) tt_ := fun tt_ kk_ => castTop (ef_5 m so) kk_
  obtain ⟨cq1, kq1, q1a, q1b, q1c⟩ := isOf hZ e0 E_so
  obtain ⟨_, _, ⟨T1, L1, k1, n1⟩, -, X1, ⟨Lc1, hQ1, l1, y1, z1⟩, st1⟩ := X0.virtualBack hx (y := my5) (z := my5) hown (mvT hZ (hwd31 hw)) (mvT hZ (hwd32 hw)) (notFace_of_selects (args := #[]) (mvT hZ (hwd34 hw))) (mvT hZ (hwd34 hw)) (mvT hZ (hwd33 hw)) (by decide) (backOf (W := 0) (sle0 l Z a0 hw [] so b kb vs cz h0 n0 Z0 E_so F_value_so F_coder_so V_b O_C hcz X00) hZ (hwd35 hw) (hwd8 hw) (by decide) (by decide)) q1a q1c (g := (mkF m 1 #[.val (.ref so)] [(.ref so)])) rfl (by rw [hml]; rfl) (Steps.refl _) (argsL := []) (rest := []) (lenOf pd_2 rfl) rfl (by show 2 * 0 + _ ≤ _; exact Nat.le_of_eq rfl) (hb hby d5_1) (fun _ _ => ⟨rfl, e0, (by decide : 0 + 0 ≤ _), (by decide : 0 + 0 ≤ _)⟩)
  dsimp only [Pt.U, Pt.locs, Pt.cells, Pt.slots] at X1 l1 y1 z1 st1 hQ1
  subst l1 y1 z1
  obtain ⟨rfl, N1q, e1q⟩ := hQ1
  have N1 := Fr.app N0 N1q
  obtain ⟨fs, hr, hrun, hended, hW, hsame⟩ := X1.leave (v := some (.int (0 : Int32))) (fun h => by rw [Bd.returns] at h; cases h)
  refine ⟨_, _, pre0 _ ?_, hrun, hended, _, _, rfl, ?_, ⟨_, rfl⟩, hW, hsame.mono (by decide) (by decide)⟩
  · show Steps p.tables e below (s₁.setTop (mkF m 0 #[.val (.ref so)] [])) _
    refine XS.aloadN X0.here hx rfl (hb hby d5_0) rfl rfl ?_
    refine st1.trans ?_
    refine XS.bipush X1.here hx rfl (hb hby d5_4) ?_
    show Steps p.tables e below (T1.setTop (mkF m 6 #[.val (.ref so)] [(.int (30 : Int32)), (.int (0 : Int32))])) _
    refine XS.icmpYes X1.here hx rfl (pc0 := 6) (pc' := 13) rfl (hb hby d5_6) rfl (flt (show ¬ ((30 : Int32) < (0 : Int32)) from (by decide))).2.2.2 (by decide) (by decide) ?_
    refine XS.iconst X1.here hx rfl (hb hby d5_13) ?_
    exact retN X1 hx (t := .boolean) Bd.returns (by simp) (hb hby d5_14) hr
  · show Qnc0 Z so b kb vs cz h0 n0 _ T1.heap _
    rw [e1q]
    exact ⟨rfl, N1, rfl⟩
def Qsle1 (Z : State) (so : Addr) (b : Addr) (kb : ClassId) (vs : List Value) (cz : Int32) (h0 : Heap) (n0 : Nat) (v : Option Value) (h : Heap) (L : List Loc) : Prop := v = some (.int (1 : Int32)) ∧ Fr n0 L ∧ h = h0
abbrev Rm_sle1 : Room := { frames := 1, cells := 0, slots := 0, locals := 13 }
set_option maxRecDepth 65536 in
set_option maxHeartbeats 40000000 in
theorem sle1 (l : Launch) (Z : State) (a0 : Array Value) (hw : ∀ d ∈ tables_1, d.before a0 Z = true) (ws : List Jvm.Cond) (so : Addr) (b : Addr) (kb : ClassId) (vs : List Value) (cz : Int32) (h0 : Heap) (n0 : Nat) (Z0 : n0 ≤ h0.size) (E_so : Exa Z h0 so "java/lang/String") (F_value_so : Fld Z h0 so "java/lang/String" "value" "[B" (.ref b)) (F_coder_so : Fld Z h0 so "java/lang/String" "coder" "B" (.int (0 : Int32))) (V_b : Arv Z h0 b kb .byte (1 : Int32) vs (.int 0)) (O_C : Sta Z Z.heap "java/lang/String" "COMPACT_STRINGS" "Z" (.int cz)) (hcz : ¬ (cz = (0 : Int32))) (X00 : Old Z n0 h0) :
    MetFree l my5 (head1 (Jvm.Cond.code my5 jdk_42_method_54_code 1 (some .int) :: ws) Rm_sle1) (fun aa_ U => aa_ = #[(.ref so)] ∧ Z.Warmed39 U.vm ∧ U.heap = h0) (fun _ _ _ _ _ => True) (fun _ U oo_ U' => ∃ v L, oo_ = .returned v ∧ Qsle1 Z so b kb vs cz h0 n0 v U'.heap L ∧ FrameEnd U oo_ U' L Rm_sle1.cells Rm_sle1.slots) := by
  refine MetFree.of_bodySF (plainFor_of_name pn_1) hisR ?_
  intro p e s m args below meth c s₁ Bd hml0 hP hK
  obtain ⟨rfl, hZ, hh⟩ := hP
  have hx := Bd.exec
  have hby := Bd.bytes
  have hml : c.maxLocals = 1 := hml0
  have hown : s.vm.findClass "java/lang/String" = some m.cls := findClass_of_methodNamed Bd.named
  have hnm := (name_of_methodNamed Bd.named Bd.method).1
  have X0 : Stand p l e Rm_sle1 s m #[(.ref so)] below meth c s₁ [] 0 0 := Stand.of_body Bd
  have e0 : s₁.heap = h0 := by rw [← hh, Bd.state]; rfl
  have N0 := Fr.nil n0
  have pre0 : ∀ tt_, Steps p.tables e below (s₁.setTop (mkF m 0 #[.val (.ref so)] [])) tt_ → Steps p.tables e below (s₁.setTop (entryFrame m #[(.ref so)] 1)) tt_ := fun tt_ kk_ => castTop (ef_6 m so) kk_
  obtain ⟨T1, X1, e1, st1⟩ := getF X0 hx hZ hown (host := "") (Or.inl (hwd25 hw)) Via.refl e0 F_value_so (g := (mkF m 1 #[.val (.ref so)] [(.ref so)])) rfl rfl (hb hby d6_1)
  obtain ⟨cl2, Ar2, -, S2, M2, -, -⟩ := id V_b
  obtain ⟨cq3, kq3, q3a, q3b, q3c⟩ := isOf hZ e1 E_so
  obtain ⟨_, _, ⟨T3, L3, k3, n3⟩, -, X3, ⟨Lc3, hQ3, l3, y3, z3⟩, st3⟩ := X1.virtualBack hx (y := my3) (z := my3) hown (mvT hZ (hwd36 hw)) (mvT hZ (hwd37 hw)) (notFace_of_selects (args := #[]) (mvT hZ (hwd39 hw))) (mvT hZ (hwd39 hw)) (mvT hZ (hwd38 hw)) (by decide) (backOf (W := 1) (cod l Z a0 hw [] so cz h0 n0 Z0 F_coder_so O_C hcz X00) hZ (hwd40 hw) (hwd8 hw) (by decide) (by decide)) q3a q3c (g := (mkF m 6 #[.val (.ref so)] [(.ref so), (.int (1 : Int32))])) rfl (by rw [hml]; rfl) (Steps.refl _) (argsL := []) (rest := [(.int (1 : Int32))]) (lenOf pd_1 rfl) rfl (by show 2 * 0 + _ ≤ _; exact Nat.le_of_eq rfl) (hb hby d6_6) (fun _ _ => ⟨rfl, e1, (by decide : 0 + 0 ≤ _), (by decide : 0 + 0 ≤ _)⟩)
  dsimp only [Pt.U, Pt.locs, Pt.cells, Pt.slots] at X3 l3 y3 z3 st3 hQ3
  subst l3 y3 z3
  obtain ⟨rfl, N3q, e3q⟩ := hQ3
  have N3 := Fr.app N0 N3q
  obtain ⟨fs, hr, hrun, hended, hW, hsame⟩ := X3.leave (v := some (.int ((1 : Int32) >>> ((0 : Int32) &&& 31)))) (fun h => by rw [Bd.returns] at h; cases h)
  refine ⟨_, _, pre0 _ ?_, hrun, hended, _, _, rfl, ?_, ⟨_, rfl⟩, hW, hsame.mono (by decide) (by decide)⟩
  · show Steps p.tables e below (s₁.setTop (mkF m 0 #[.val (.ref so)] [])) _
    refine XS.aloadN X0.here hx rfl (hb hby d6_0) rfl rfl ?_
    refine st1 _ ?_
    refine X1.arraylength hx (by rw [e1]; exact Ar2.1) (State.isArrayOf_alike hZ.alike Ar2.2.1) (g := (mkF m 4 #[.val (.ref so)] [(.ref b)])) rfl rfl (hb hby d6_4) _ ?_
    rw [len_of S2 M2]
    refine XS.aloadN X1.here hx rfl (hb hby d6_5) rfl rfl ?_
    refine st3.trans ?_
    refine XS.ishr X3.here hx rfl (hb hby d6_9) rfl ?_
    show Steps p.tables e below (T3.setTop (mkF m 10 #[.val (.ref so)] [(.int ((1 : Int32) >>> ((0 : Int32) &&& 31)))])) _
    exact retI X3 hx Bd.returns (hb hby d6_10) hr
  · show Qsle1 Z so b kb vs cz h0 n0 _ T3.heap _
    rw [e3q]
    exact ⟨congrArg (fun z => some (Value.int z)) (by decide), N3, rfl⟩
def Qnc1 (Z : State) (so : Addr) (b : Addr) (kb : ClassId) (vs : List Value) (cz : Int32) (h0 : Heap) (n0 : Nat) (v : Option Value) (h : Heap) (L : List Loc) : Prop := v = some (.int (0 : Int32)) ∧ Fr n0 L ∧ h = h0
abbrev Rm_nc1 : Room := { frames := 2, cells := 0, slots := 0, locals := 25 }
set_option maxRecDepth 65536 in
set_option maxHeartbeats 40000000 in
theorem nc1 (l : Launch) (Z : State) (a0 : Array Value) (hw : ∀ d ∈ tables_1, d.before a0 Z = true) (ws : List Jvm.Cond) (so : Addr) (b : Addr) (kb : ClassId) (vs : List Value) (cz : Int32) (h0 : Heap) (n0 : Nat) (Z0 : n0 ≤ h0.size) (E_so : Exa Z h0 so "java/lang/String") (F_value_so : Fld Z h0 so "java/lang/String" "value" "[B" (.ref b)) (F_coder_so : Fld Z h0 so "java/lang/String" "coder" "B" (.int (0 : Int32))) (V_b : Arv Z h0 b kb .byte (1 : Int32) vs (.int 0)) (O_C : Sta Z Z.heap "java/lang/String" "COMPACT_STRINGS" "Z" (.int cz)) (hcz : ¬ (cz = (0 : Int32))) (X00 : Old Z n0 h0) :
    MetFree l my6 (head1 (Jvm.Cond.code my6 prog_78_method_6_code 1 (some .boolean) :: ws) Rm_nc1) (fun aa_ U => aa_ = #[(.ref so)] ∧ Z.Warmed39 U.vm ∧ U.heap = h0) (fun _ _ _ _ _ => True) (fun _ U oo_ U' => ∃ v L, oo_ = .returned v ∧ Qnc1 Z so b kb vs cz h0 n0 v U'.heap L ∧ FrameEnd U oo_ U' L Rm_nc1.cells Rm_nc1.slots) := by
  refine MetFree.of_bodySF (plainFor_of_name pn_2) hisR ?_
  intro p e s m args below meth c s₁ Bd hml0 hP hK
  obtain ⟨rfl, hZ, hh⟩ := hP
  have hx := Bd.exec
  have hby := Bd.bytes
  have hml : c.maxLocals = 1 := hml0
  have hown : s.vm.findClass "com/example/coretally/coretally/store/SampleKey" = some m.cls := findClass_of_methodNamed Bd.named
  have hnm := (name_of_methodNamed Bd.named Bd.method).1
  have X0 : Stand p l e Rm_nc1 s m #[(.ref so)] below meth c s₁ [] 0 0 := Stand.of_body Bd
  have e0 : s₁.heap = h0 := by rw [← hh, Bd.state]; rfl
  have N0 := Fr.nil n0
  have pre0 : ∀ tt_, Steps p.tables e below (s₁.setTop (mkF m 0 #[.val (.ref so)] [])) tt_ → Steps p.tables e below (s₁.setTop (entryFrame m #[(.ref so)] 1)) tt_ := fun tt_ kk_ => castTop (ef_5 m so) kk_
  obtain ⟨cq1, kq1, q1a, q1b, q1c⟩ := isOf hZ e0 E_so
  obtain ⟨_, _, ⟨T1, L1, k1, n1⟩, -, X1, ⟨Lc1, hQ1, l1, y1, z1⟩, st1⟩ := X0.virtualBack hx (y := my5) (z := my5) hown (mvT hZ (hwd31 hw)) (mvT hZ (hwd32 hw)) (notFace_of_selects (args := #[]) (mvT hZ (hwd34 hw))) (mvT hZ (hwd34 hw)) (mvT hZ (hwd33 hw)) (by decide) (backOf (W := 0) (sle1 l Z a0 hw [] so b kb vs cz h0 n0 Z0 E_so F_value_so F_coder_so V_b O_C hcz X00) hZ (hwd35 hw) (hwd8 hw) (by decide) (by decide)) q1a q1c (g := (mkF m 1 #[.val (.ref so)] [(.ref so)])) rfl (by rw [hml]; rfl) (Steps.refl _) (argsL := []) (rest := []) (lenOf pd_2 rfl) rfl (by show 2 * 0 + _ ≤ _; exact Nat.le_of_eq rfl) (hb hby d5_1) (fun _ _ => ⟨rfl, e0, (by decide : 0 + 0 ≤ _), (by decide : 0 + 0 ≤ _)⟩)
  dsimp only [Pt.U, Pt.locs, Pt.cells, Pt.slots] at X1 l1 y1 z1 st1 hQ1
  subst l1 y1 z1
  obtain ⟨rfl, N1q, e1q⟩ := hQ1
  have N1 := Fr.app N0 N1q
  obtain ⟨fs, hr, hrun, hended, hW, hsame⟩ := X1.leave (v := some (.int (0 : Int32))) (fun h => by rw [Bd.returns] at h; cases h)
  refine ⟨_, _, pre0 _ ?_, hrun, hended, _, _, rfl, ?_, ⟨_, rfl⟩, hW, hsame.mono (by decide) (by decide)⟩
  · show Steps p.tables e below (s₁.setTop (mkF m 0 #[.val (.ref so)] [])) _
    refine XS.aloadN X0.here hx rfl (hb hby d5_0) rfl rfl ?_
    refine st1.trans ?_
    refine XS.bipush X1.here hx rfl (hb hby d5_4) ?_
    show Steps p.tables e below (T1.setTop (mkF m 6 #[.val (.ref so)] [(.int (30 : Int32)), (.int (1 : Int32))])) _
    refine XS.icmpYes X1.here hx rfl (pc0 := 6) (pc' := 13) rfl (hb hby d5_6) rfl (flt (show ¬ ((30 : Int32) < (1 : Int32)) from (by decide))).2.2.2 (by decide) (by decide) ?_
    refine XS.iconst X1.here hx rfl (hb hby d5_13) ?_
    exact retN X1 hx (t := .boolean) Bd.returns (by simp) (hb hby d5_14) hr
  · show Qnc1 Z so b kb vs cz h0 n0 _ T1.heap _
    rw [e1q]
    exact ⟨rfl, N1, rfl⟩
def Qsle29 (Z : State) (so : Addr) (b : Addr) (kb : ClassId) (vs : List Value) (cz : Int32) (h0 : Heap) (n0 : Nat) (v : Option Value) (h : Heap) (L : List Loc) : Prop := v = some (.int (29 : Int32)) ∧ Fr n0 L ∧ h = h0
abbrev Rm_sle29 : Room := { frames := 1, cells := 0, slots := 0, locals := 13 }
set_option maxRecDepth 65536 in
set_option maxHeartbeats 40000000 in
theorem sle29 (l : Launch) (Z : State) (a0 : Array Value) (hw : ∀ d ∈ tables_1, d.before a0 Z = true) (ws : List Jvm.Cond) (so : Addr) (b : Addr) (kb : ClassId) (vs : List Value) (cz : Int32) (h0 : Heap) (n0 : Nat) (Z0 : n0 ≤ h0.size) (E_so : Exa Z h0 so "java/lang/String") (F_value_so : Fld Z h0 so "java/lang/String" "value" "[B" (.ref b)) (F_coder_so : Fld Z h0 so "java/lang/String" "coder" "B" (.int (0 : Int32))) (V_b : Arv Z h0 b kb .byte (29 : Int32) vs (.int 0)) (O_C : Sta Z Z.heap "java/lang/String" "COMPACT_STRINGS" "Z" (.int cz)) (hcz : ¬ (cz = (0 : Int32))) (X00 : Old Z n0 h0) :
    MetFree l my5 (head1 (Jvm.Cond.code my5 jdk_42_method_54_code 1 (some .int) :: ws) Rm_sle29) (fun aa_ U => aa_ = #[(.ref so)] ∧ Z.Warmed39 U.vm ∧ U.heap = h0) (fun _ _ _ _ _ => True) (fun _ U oo_ U' => ∃ v L, oo_ = .returned v ∧ Qsle29 Z so b kb vs cz h0 n0 v U'.heap L ∧ FrameEnd U oo_ U' L Rm_sle29.cells Rm_sle29.slots) := by
  refine MetFree.of_bodySF (plainFor_of_name pn_1) hisR ?_
  intro p e s m args below meth c s₁ Bd hml0 hP hK
  obtain ⟨rfl, hZ, hh⟩ := hP
  have hx := Bd.exec
  have hby := Bd.bytes
  have hml : c.maxLocals = 1 := hml0
  have hown : s.vm.findClass "java/lang/String" = some m.cls := findClass_of_methodNamed Bd.named
  have hnm := (name_of_methodNamed Bd.named Bd.method).1
  have X0 : Stand p l e Rm_sle29 s m #[(.ref so)] below meth c s₁ [] 0 0 := Stand.of_body Bd
  have e0 : s₁.heap = h0 := by rw [← hh, Bd.state]; rfl
  have N0 := Fr.nil n0
  have pre0 : ∀ tt_, Steps p.tables e below (s₁.setTop (mkF m 0 #[.val (.ref so)] [])) tt_ → Steps p.tables e below (s₁.setTop (entryFrame m #[(.ref so)] 1)) tt_ := fun tt_ kk_ => castTop (ef_6 m so) kk_
  obtain ⟨T1, X1, e1, st1⟩ := getF X0 hx hZ hown (host := "") (Or.inl (hwd25 hw)) Via.refl e0 F_value_so (g := (mkF m 1 #[.val (.ref so)] [(.ref so)])) rfl rfl (hb hby d6_1)
  obtain ⟨cl2, Ar2, -, S2, M2, -, -⟩ := id V_b
  obtain ⟨cq3, kq3, q3a, q3b, q3c⟩ := isOf hZ e1 E_so
  obtain ⟨_, _, ⟨T3, L3, k3, n3⟩, -, X3, ⟨Lc3, hQ3, l3, y3, z3⟩, st3⟩ := X1.virtualBack hx (y := my3) (z := my3) hown (mvT hZ (hwd36 hw)) (mvT hZ (hwd37 hw)) (notFace_of_selects (args := #[]) (mvT hZ (hwd39 hw))) (mvT hZ (hwd39 hw)) (mvT hZ (hwd38 hw)) (by decide) (backOf (W := 1) (cod l Z a0 hw [] so cz h0 n0 Z0 F_coder_so O_C hcz X00) hZ (hwd40 hw) (hwd8 hw) (by decide) (by decide)) q3a q3c (g := (mkF m 6 #[.val (.ref so)] [(.ref so), (.int (29 : Int32))])) rfl (by rw [hml]; rfl) (Steps.refl _) (argsL := []) (rest := [(.int (29 : Int32))]) (lenOf pd_1 rfl) rfl (by show 2 * 0 + _ ≤ _; exact Nat.le_of_eq rfl) (hb hby d6_6) (fun _ _ => ⟨rfl, e1, (by decide : 0 + 0 ≤ _), (by decide : 0 + 0 ≤ _)⟩)
  dsimp only [Pt.U, Pt.locs, Pt.cells, Pt.slots] at X3 l3 y3 z3 st3 hQ3
  subst l3 y3 z3
  obtain ⟨rfl, N3q, e3q⟩ := hQ3
  have N3 := Fr.app N0 N3q
  obtain ⟨fs, hr, hrun, hended, hW, hsame⟩ := X3.leave (v := some (.int ((29 : Int32) >>> ((0 : Int32) &&& 31)))) (fun h => by rw [Bd.returns] at h; cases h)
  refine ⟨_, _, pre0 _ ?_, hrun, hended, _, _, rfl, ?_, ⟨_, rfl⟩, hW, hsame.mono (by decide) (by decide)⟩
  · show Steps p.tables e below (s₁.setTop (mkF m 0 #[.val (.ref so)] [])) _
    refine XS.aloadN X0.here hx rfl (hb hby d6_0) rfl rfl ?_
    refine st1 _ ?_
    refine X1.arraylength hx (by rw [e1]; exact Ar2.1) (State.isArrayOf_alike hZ.alike Ar2.2.1) (g := (mkF m 4 #[.val (.ref so)] [(.ref b)])) rfl rfl (hb hby d6_4) _ ?_
    rw [len_of S2 M2]
    refine XS.aloadN X1.here hx rfl (hb hby d6_5) rfl rfl ?_
    refine st3.trans ?_
    refine XS.ishr X3.here hx rfl (hb hby d6_9) rfl ?_
    show Steps p.tables e below (T3.setTop (mkF m 10 #[.val (.ref so)] [(.int ((29 : Int32) >>> ((0 : Int32) &&& 31)))])) _
    exact retI X3 hx Bd.returns (hb hby d6_10) hr
  · show Qsle29 Z so b kb vs cz h0 n0 _ T3.heap _
    rw [e3q]
    exact ⟨congrArg (fun z => some (Value.int z)) (by decide), N3, rfl⟩
def Qnc29 (Z : State) (so : Addr) (b : Addr) (kb : ClassId) (vs : List Value) (cz : Int32) (h0 : Heap) (n0 : Nat) (v : Option Value) (h : Heap) (L : List Loc) : Prop := v = some (.int (0 : Int32)) ∧ Fr n0 L ∧ h = h0
abbrev Rm_nc29 : Room := { frames := 2, cells := 0, slots := 0, locals := 25 }
set_option maxRecDepth 65536 in
set_option maxHeartbeats 40000000 in
theorem nc29 (l : Launch) (Z : State) (a0 : Array Value) (hw : ∀ d ∈ tables_1, d.before a0 Z = true) (ws : List Jvm.Cond) (so : Addr) (b : Addr) (kb : ClassId) (vs : List Value) (cz : Int32) (h0 : Heap) (n0 : Nat) (Z0 : n0 ≤ h0.size) (E_so : Exa Z h0 so "java/lang/String") (F_value_so : Fld Z h0 so "java/lang/String" "value" "[B" (.ref b)) (F_coder_so : Fld Z h0 so "java/lang/String" "coder" "B" (.int (0 : Int32))) (V_b : Arv Z h0 b kb .byte (29 : Int32) vs (.int 0)) (O_C : Sta Z Z.heap "java/lang/String" "COMPACT_STRINGS" "Z" (.int cz)) (hcz : ¬ (cz = (0 : Int32))) (X00 : Old Z n0 h0) :
    MetFree l my6 (head1 (Jvm.Cond.code my6 prog_78_method_6_code 1 (some .boolean) :: ws) Rm_nc29) (fun aa_ U => aa_ = #[(.ref so)] ∧ Z.Warmed39 U.vm ∧ U.heap = h0) (fun _ _ _ _ _ => True) (fun _ U oo_ U' => ∃ v L, oo_ = .returned v ∧ Qnc29 Z so b kb vs cz h0 n0 v U'.heap L ∧ FrameEnd U oo_ U' L Rm_nc29.cells Rm_nc29.slots) := by
  refine MetFree.of_bodySF (plainFor_of_name pn_2) hisR ?_
  intro p e s m args below meth c s₁ Bd hml0 hP hK
  obtain ⟨rfl, hZ, hh⟩ := hP
  have hx := Bd.exec
  have hby := Bd.bytes
  have hml : c.maxLocals = 1 := hml0
  have hown : s.vm.findClass "com/example/coretally/coretally/store/SampleKey" = some m.cls := findClass_of_methodNamed Bd.named
  have hnm := (name_of_methodNamed Bd.named Bd.method).1
  have X0 : Stand p l e Rm_nc29 s m #[(.ref so)] below meth c s₁ [] 0 0 := Stand.of_body Bd
  have e0 : s₁.heap = h0 := by rw [← hh, Bd.state]; rfl
  have N0 := Fr.nil n0
  have pre0 : ∀ tt_, Steps p.tables e below (s₁.setTop (mkF m 0 #[.val (.ref so)] [])) tt_ → Steps p.tables e below (s₁.setTop (entryFrame m #[(.ref so)] 1)) tt_ := fun tt_ kk_ => castTop (ef_5 m so) kk_
  obtain ⟨cq1, kq1, q1a, q1b, q1c⟩ := isOf hZ e0 E_so
  obtain ⟨_, _, ⟨T1, L1, k1, n1⟩, -, X1, ⟨Lc1, hQ1, l1, y1, z1⟩, st1⟩ := X0.virtualBack hx (y := my5) (z := my5) hown (mvT hZ (hwd31 hw)) (mvT hZ (hwd32 hw)) (notFace_of_selects (args := #[]) (mvT hZ (hwd34 hw))) (mvT hZ (hwd34 hw)) (mvT hZ (hwd33 hw)) (by decide) (backOf (W := 0) (sle29 l Z a0 hw [] so b kb vs cz h0 n0 Z0 E_so F_value_so F_coder_so V_b O_C hcz X00) hZ (hwd35 hw) (hwd8 hw) (by decide) (by decide)) q1a q1c (g := (mkF m 1 #[.val (.ref so)] [(.ref so)])) rfl (by rw [hml]; rfl) (Steps.refl _) (argsL := []) (rest := []) (lenOf pd_2 rfl) rfl (by show 2 * 0 + _ ≤ _; exact Nat.le_of_eq rfl) (hb hby d5_1) (fun _ _ => ⟨rfl, e0, (by decide : 0 + 0 ≤ _), (by decide : 0 + 0 ≤ _)⟩)
  dsimp only [Pt.U, Pt.locs, Pt.cells, Pt.slots] at X1 l1 y1 z1 st1 hQ1
  subst l1 y1 z1
  obtain ⟨rfl, N1q, e1q⟩ := hQ1
  have N1 := Fr.app N0 N1q
  obtain ⟨fs, hr, hrun, hended, hW, hsame⟩ := X1.leave (v := some (.int (0 : Int32))) (fun h => by rw [Bd.returns] at h; cases h)
  refine ⟨_, _, pre0 _ ?_, hrun, hended, _, _, rfl, ?_, ⟨_, rfl⟩, hW, hsame.mono (by decide) (by decide)⟩
  · show Steps p.tables e below (s₁.setTop (mkF m 0 #[.val (.ref so)] [])) _
    refine XS.aloadN X0.here hx rfl (hb hby d5_0) rfl rfl ?_
    refine st1.trans ?_
    refine XS.bipush X1.here hx rfl (hb hby d5_4) ?_
    show Steps p.tables e below (T1.setTop (mkF m 6 #[.val (.ref so)] [(.int (30 : Int32)), (.int (29 : Int32))])) _
    refine XS.icmpYes X1.here hx rfl (pc0 := 6) (pc' := 13) rfl (hb hby d5_6) rfl (flt (show ¬ ((30 : Int32) < (29 : Int32)) from (by decide))).2.2.2 (by decide) (by decide) ?_
    refine XS.iconst X1.here hx rfl (hb hby d5_13) ?_
    exact retN X1 hx (t := .boolean) Bd.returns (by simp) (hb hby d5_14) hr
  · show Qnc29 Z so b kb vs cz h0 n0 _ T1.heap _
    rw [e1q]
    exact ⟨rfl, N1, rfl⟩
def Qsle30 (Z : State) (so : Addr) (b : Addr) (kb : ClassId) (vs : List Value) (cz : Int32) (h0 : Heap) (n0 : Nat) (v : Option Value) (h : Heap) (L : List Loc) : Prop := v = some (.int (30 : Int32)) ∧ Fr n0 L ∧ h = h0
abbrev Rm_sle30 : Room := { frames := 1, cells := 0, slots := 0, locals := 13 }
set_option maxRecDepth 65536 in
set_option maxHeartbeats 40000000 in
theorem sle30 (l : Launch) (Z : State) (a0 : Array Value) (hw : ∀ d ∈ tables_1, d.before a0 Z = true) (ws : List Jvm.Cond) (so : Addr) (b : Addr) (kb : ClassId) (vs : List Value) (cz : Int32) (h0 : Heap) (n0 : Nat) (Z0 : n0 ≤ h0.size) (E_so : Exa Z h0 so "java/lang/String") (F_value_so : Fld Z h0 so "java/lang/String" "value" "[B" (.ref b)) (F_coder_so : Fld Z h0 so "java/lang/String" "coder" "B" (.int (0 : Int32))) (V_b : Arv Z h0 b kb .byte (30 : Int32) vs (.int 0)) (O_C : Sta Z Z.heap "java/lang/String" "COMPACT_STRINGS" "Z" (.int cz)) (hcz : ¬ (cz = (0 : Int32))) (X00 : Old Z n0 h0) :
    MetFree l my5 (head1 (Jvm.Cond.code my5 jdk_42_method_54_code 1 (some .int) :: ws) Rm_sle30) (fun aa_ U => aa_ = #[(.ref so)] ∧ Z.Warmed39 U.vm ∧ U.heap = h0) (fun _ _ _ _ _ => True) (fun _ U oo_ U' => ∃ v L, oo_ = .returned v ∧ Qsle30 Z so b kb vs cz h0 n0 v U'.heap L ∧ FrameEnd U oo_ U' L Rm_sle30.cells Rm_sle30.slots) := by
  refine MetFree.of_bodySF (plainFor_of_name pn_1) hisR ?_
  intro p e s m args below meth c s₁ Bd hml0 hP hK
  obtain ⟨rfl, hZ, hh⟩ := hP
  have hx := Bd.exec
  have hby := Bd.bytes
  have hml : c.maxLocals = 1 := hml0
  have hown : s.vm.findClass "java/lang/String" = some m.cls := findClass_of_methodNamed Bd.named
  have hnm := (name_of_methodNamed Bd.named Bd.method).1
  have X0 : Stand p l e Rm_sle30 s m #[(.ref so)] below meth c s₁ [] 0 0 := Stand.of_body Bd
  have e0 : s₁.heap = h0 := by rw [← hh, Bd.state]; rfl
  have N0 := Fr.nil n0
  have pre0 : ∀ tt_, Steps p.tables e below (s₁.setTop (mkF m 0 #[.val (.ref so)] [])) tt_ → Steps p.tables e below (s₁.setTop (entryFrame m #[(.ref so)] 1)) tt_ := fun tt_ kk_ => castTop (ef_6 m so) kk_
  obtain ⟨T1, X1, e1, st1⟩ := getF X0 hx hZ hown (host := "") (Or.inl (hwd25 hw)) Via.refl e0 F_value_so (g := (mkF m 1 #[.val (.ref so)] [(.ref so)])) rfl rfl (hb hby d6_1)
  obtain ⟨cl2, Ar2, -, S2, M2, -, -⟩ := id V_b
  obtain ⟨cq3, kq3, q3a, q3b, q3c⟩ := isOf hZ e1 E_so
  obtain ⟨_, _, ⟨T3, L3, k3, n3⟩, -, X3, ⟨Lc3, hQ3, l3, y3, z3⟩, st3⟩ := X1.virtualBack hx (y := my3) (z := my3) hown (mvT hZ (hwd36 hw)) (mvT hZ (hwd37 hw)) (notFace_of_selects (args := #[]) (mvT hZ (hwd39 hw))) (mvT hZ (hwd39 hw)) (mvT hZ (hwd38 hw)) (by decide) (backOf (W := 1) (cod l Z a0 hw [] so cz h0 n0 Z0 F_coder_so O_C hcz X00) hZ (hwd40 hw) (hwd8 hw) (by decide) (by decide)) q3a q3c (g := (mkF m 6 #[.val (.ref so)] [(.ref so), (.int (30 : Int32))])) rfl (by rw [hml]; rfl) (Steps.refl _) (argsL := []) (rest := [(.int (30 : Int32))]) (lenOf pd_1 rfl) rfl (by show 2 * 0 + _ ≤ _; exact Nat.le_of_eq rfl) (hb hby d6_6) (fun _ _ => ⟨rfl, e1, (by decide : 0 + 0 ≤ _), (by decide : 0 + 0 ≤ _)⟩)
  dsimp only [Pt.U, Pt.locs, Pt.cells, Pt.slots] at X3 l3 y3 z3 st3 hQ3
  subst l3 y3 z3
  obtain ⟨rfl, N3q, e3q⟩ := hQ3
  have N3 := Fr.app N0 N3q
  obtain ⟨fs, hr, hrun, hended, hW, hsame⟩ := X3.leave (v := some (.int ((30 : Int32) >>> ((0 : Int32) &&& 31)))) (fun h => by rw [Bd.returns] at h; cases h)
  refine ⟨_, _, pre0 _ ?_, hrun, hended, _, _, rfl, ?_, ⟨_, rfl⟩, hW, hsame.mono (by decide) (by decide)⟩
  · show Steps p.tables e below (s₁.setTop (mkF m 0 #[.val (.ref so)] [])) _
    refine XS.aloadN X0.here hx rfl (hb hby d6_0) rfl rfl ?_
    refine st1 _ ?_
    refine X1.arraylength hx (by rw [e1]; exact Ar2.1) (State.isArrayOf_alike hZ.alike Ar2.2.1) (g := (mkF m 4 #[.val (.ref so)] [(.ref b)])) rfl rfl (hb hby d6_4) _ ?_
    rw [len_of S2 M2]
    refine XS.aloadN X1.here hx rfl (hb hby d6_5) rfl rfl ?_
    refine st3.trans ?_
    refine XS.ishr X3.here hx rfl (hb hby d6_9) rfl ?_
    show Steps p.tables e below (T3.setTop (mkF m 10 #[.val (.ref so)] [(.int ((30 : Int32) >>> ((0 : Int32) &&& 31)))])) _
    exact retI X3 hx Bd.returns (hb hby d6_10) hr
  · show Qsle30 Z so b kb vs cz h0 n0 _ T3.heap _
    rw [e3q]
    exact ⟨congrArg (fun z => some (Value.int z)) (by decide), N3, rfl⟩
def Qnc30 (Z : State) (so : Addr) (b : Addr) (kb : ClassId) (vs : List Value) (cz : Int32) (h0 : Heap) (n0 : Nat) (v : Option Value) (h : Heap) (L : List Loc) : Prop := v = some (.int (0 : Int32)) ∧ Fr n0 L ∧ h = h0
abbrev Rm_nc30 : Room := { frames := 2, cells := 0, slots := 0, locals := 25 }
set_option maxRecDepth 65536 in
set_option maxHeartbeats 40000000 in
theorem nc30 (l : Launch) (Z : State) (a0 : Array Value) (hw : ∀ d ∈ tables_1, d.before a0 Z = true) (ws : List Jvm.Cond) (so : Addr) (b : Addr) (kb : ClassId) (vs : List Value) (cz : Int32) (h0 : Heap) (n0 : Nat) (Z0 : n0 ≤ h0.size) (E_so : Exa Z h0 so "java/lang/String") (F_value_so : Fld Z h0 so "java/lang/String" "value" "[B" (.ref b)) (F_coder_so : Fld Z h0 so "java/lang/String" "coder" "B" (.int (0 : Int32))) (V_b : Arv Z h0 b kb .byte (30 : Int32) vs (.int 0)) (O_C : Sta Z Z.heap "java/lang/String" "COMPACT_STRINGS" "Z" (.int cz)) (hcz : ¬ (cz = (0 : Int32))) (X00 : Old Z n0 h0) :
    MetFree l my6 (head1 (Jvm.Cond.code my6 prog_78_method_6_code 1 (some .boolean) :: ws) Rm_nc30) (fun aa_ U => aa_ = #[(.ref so)] ∧ Z.Warmed39 U.vm ∧ U.heap = h0) (fun _ _ _ _ _ => True) (fun _ U oo_ U' => ∃ v L, oo_ = .returned v ∧ Qnc30 Z so b kb vs cz h0 n0 v U'.heap L ∧ FrameEnd U oo_ U' L Rm_nc30.cells Rm_nc30.slots) := by
  refine MetFree.of_bodySF (plainFor_of_name pn_2) hisR ?_
  intro p e s m args below meth c s₁ Bd hml0 hP hK
  obtain ⟨rfl, hZ, hh⟩ := hP
  have hx := Bd.exec
  have hby := Bd.bytes
  have hml : c.maxLocals = 1 := hml0
  have hown : s.vm.findClass "com/example/coretally/coretally/store/SampleKey" = some m.cls := findClass_of_methodNamed Bd.named
  have hnm := (name_of_methodNamed Bd.named Bd.method).1
  have X0 : Stand p l e Rm_nc30 s m #[(.ref so)] below meth c s₁ [] 0 0 := Stand.of_body Bd
  have e0 : s₁.heap = h0 := by rw [← hh, Bd.state]; rfl
  have N0 := Fr.nil n0
  have pre0 : ∀ tt_, Steps p.tables e below (s₁.setTop (mkF m 0 #[.val (.ref so)] [])) tt_ → Steps p.tables e below (s₁.setTop (entryFrame m #[(.ref so)] 1)) tt_ := fun tt_ kk_ => castTop (ef_5 m so) kk_
  obtain ⟨cq1, kq1, q1a, q1b, q1c⟩ := isOf hZ e0 E_so
  obtain ⟨_, _, ⟨T1, L1, k1, n1⟩, -, X1, ⟨Lc1, hQ1, l1, y1, z1⟩, st1⟩ := X0.virtualBack hx (y := my5) (z := my5) hown (mvT hZ (hwd31 hw)) (mvT hZ (hwd32 hw)) (notFace_of_selects (args := #[]) (mvT hZ (hwd34 hw))) (mvT hZ (hwd34 hw)) (mvT hZ (hwd33 hw)) (by decide) (backOf (W := 0) (sle30 l Z a0 hw [] so b kb vs cz h0 n0 Z0 E_so F_value_so F_coder_so V_b O_C hcz X00) hZ (hwd35 hw) (hwd8 hw) (by decide) (by decide)) q1a q1c (g := (mkF m 1 #[.val (.ref so)] [(.ref so)])) rfl (by rw [hml]; rfl) (Steps.refl _) (argsL := []) (rest := []) (lenOf pd_2 rfl) rfl (by show 2 * 0 + _ ≤ _; exact Nat.le_of_eq rfl) (hb hby d5_1) (fun _ _ => ⟨rfl, e0, (by decide : 0 + 0 ≤ _), (by decide : 0 + 0 ≤ _)⟩)
  dsimp only [Pt.U, Pt.locs, Pt.cells, Pt.slots] at X1 l1 y1 z1 st1 hQ1
  subst l1 y1 z1
  obtain ⟨rfl, N1q, e1q⟩ := hQ1
  have N1 := Fr.app N0 N1q
  obtain ⟨fs, hr, hrun, hended, hW, hsame⟩ := X1.leave (v := some (.int (0 : Int32))) (fun h => by rw [Bd.returns] at h; cases h)
  refine ⟨_, _, pre0 _ ?_, hrun, hended, _, _, rfl, ?_, ⟨_, rfl⟩, hW, hsame.mono (by decide) (by decide)⟩
  · show Steps p.tables e below (s₁.setTop (mkF m 0 #[.val (.ref so)] [])) _
    refine XS.aloadN X0.here hx rfl (hb hby d5_0) rfl rfl ?_
    refine st1.trans ?_
    refine XS.bipush X1.here hx rfl (hb hby d5_4) ?_
    show Steps p.tables e below (T1.setTop (mkF m 6 #[.val (.ref so)] [(.int (30 : Int32)), (.int (30 : Int32))])) _
    refine XS.icmpYes X1.here hx rfl (pc0 := 6) (pc' := 13) rfl (hb hby d5_6) rfl (flt (show ¬ ((30 : Int32) < (30 : Int32)) from (by decide))).2.2.2 (by decide) (by decide) ?_
    refine XS.iconst X1.here hx rfl (hb hby d5_13) ?_
    exact retN X1 hx (t := .boolean) Bd.returns (by simp) (hb hby d5_14) hr
  · show Qnc30 Z so b kb vs cz h0 n0 _ T1.heap _
    rw [e1q]
    exact ⟨rfl, N1, rfl⟩
def Qsle31 (Z : State) (so : Addr) (b : Addr) (kb : ClassId) (vs : List Value) (cz : Int32) (h0 : Heap) (n0 : Nat) (v : Option Value) (h : Heap) (L : List Loc) : Prop := v = some (.int (31 : Int32)) ∧ Fr n0 L ∧ h = h0
abbrev Rm_sle31 : Room := { frames := 1, cells := 0, slots := 0, locals := 13 }
set_option maxRecDepth 65536 in
set_option maxHeartbeats 40000000 in
theorem sle31 (l : Launch) (Z : State) (a0 : Array Value) (hw : ∀ d ∈ tables_1, d.before a0 Z = true) (ws : List Jvm.Cond) (so : Addr) (b : Addr) (kb : ClassId) (vs : List Value) (cz : Int32) (h0 : Heap) (n0 : Nat) (Z0 : n0 ≤ h0.size) (E_so : Exa Z h0 so "java/lang/String") (F_value_so : Fld Z h0 so "java/lang/String" "value" "[B" (.ref b)) (F_coder_so : Fld Z h0 so "java/lang/String" "coder" "B" (.int (0 : Int32))) (V_b : Arv Z h0 b kb .byte (31 : Int32) vs (.int 0)) (O_C : Sta Z Z.heap "java/lang/String" "COMPACT_STRINGS" "Z" (.int cz)) (hcz : ¬ (cz = (0 : Int32))) (X00 : Old Z n0 h0) :
    MetFree l my5 (head1 (Jvm.Cond.code my5 jdk_42_method_54_code 1 (some .int) :: ws) Rm_sle31) (fun aa_ U => aa_ = #[(.ref so)] ∧ Z.Warmed39 U.vm ∧ U.heap = h0) (fun _ _ _ _ _ => True) (fun _ U oo_ U' => ∃ v L, oo_ = .returned v ∧ Qsle31 Z so b kb vs cz h0 n0 v U'.heap L ∧ FrameEnd U oo_ U' L Rm_sle31.cells Rm_sle31.slots) := by
  refine MetFree.of_bodySF (plainFor_of_name pn_1) hisR ?_
  intro p e s m args below meth c s₁ Bd hml0 hP hK
  obtain ⟨rfl, hZ, hh⟩ := hP
  have hx := Bd.exec
  have hby := Bd.bytes
  have hml : c.maxLocals = 1 := hml0
  have hown : s.vm.findClass "java/lang/String" = some m.cls := findClass_of_methodNamed Bd.named
  have hnm := (name_of_methodNamed Bd.named Bd.method).1
  have X0 : Stand p l e Rm_sle31 s m #[(.ref so)] below meth c s₁ [] 0 0 := Stand.of_body Bd
  have e0 : s₁.heap = h0 := by rw [← hh, Bd.state]; rfl
  have N0 := Fr.nil n0
  have pre0 : ∀ tt_, Steps p.tables e below (s₁.setTop (mkF m 0 #[.val (.ref so)] [])) tt_ → Steps p.tables e below (s₁.setTop (entryFrame m #[(.ref so)] 1)) tt_ := fun tt_ kk_ => castTop (ef_6 m so) kk_
  obtain ⟨T1, X1, e1, st1⟩ := getF X0 hx hZ hown (host := "") (Or.inl (hwd25 hw)) Via.refl e0 F_value_so (g := (mkF m 1 #[.val (.ref so)] [(.ref so)])) rfl rfl (hb hby d6_1)
  obtain ⟨cl2, Ar2, -, S2, M2, -, -⟩ := id V_b
  obtain ⟨cq3, kq3, q3a, q3b, q3c⟩ := isOf hZ e1 E_so
  obtain ⟨_, _, ⟨T3, L3, k3, n3⟩, -, X3, ⟨Lc3, hQ3, l3, y3, z3⟩, st3⟩ := X1.virtualBack hx (y := my3) (z := my3) hown (mvT hZ (hwd36 hw)) (mvT hZ (hwd37 hw)) (notFace_of_selects (args := #[]) (mvT hZ (hwd39 hw))) (mvT hZ (hwd39 hw)) (mvT hZ (hwd38 hw)) (by decide) (backOf (W := 1) (cod l Z a0 hw [] so cz h0 n0 Z0 F_coder_so O_C hcz X00) hZ (hwd40 hw) (hwd8 hw) (by decide) (by decide)) q3a q3c (g := (mkF m 6 #[.val (.ref so)] [(.ref so), (.int (31 : Int32))])) rfl (by rw [hml]; rfl) (Steps.refl _) (argsL := []) (rest := [(.int (31 : Int32))]) (lenOf pd_1 rfl) rfl (by show 2 * 0 + _ ≤ _; exact Nat.le_of_eq rfl) (hb hby d6_6) (fun _ _ => ⟨rfl, e1, (by decide : 0 + 0 ≤ _), (by decide : 0 + 0 ≤ _)⟩)
  dsimp only [Pt.U, Pt.locs, Pt.cells, Pt.slots] at X3 l3 y3 z3 st3 hQ3
  subst l3 y3 z3
  obtain ⟨rfl, N3q, e3q⟩ := hQ3
  have N3 := Fr.app N0 N3q
  obtain ⟨fs, hr, hrun, hended, hW, hsame⟩ := X3.leave (v := some (.int ((31 : Int32) >>> ((0 : Int32) &&& 31)))) (fun h => by rw [Bd.returns] at h; cases h)
  refine ⟨_, _, pre0 _ ?_, hrun, hended, _, _, rfl, ?_, ⟨_, rfl⟩, hW, hsame.mono (by decide) (by decide)⟩
  · show Steps p.tables e below (s₁.setTop (mkF m 0 #[.val (.ref so)] [])) _
    refine XS.aloadN X0.here hx rfl (hb hby d6_0) rfl rfl ?_
    refine st1 _ ?_
    refine X1.arraylength hx (by rw [e1]; exact Ar2.1) (State.isArrayOf_alike hZ.alike Ar2.2.1) (g := (mkF m 4 #[.val (.ref so)] [(.ref b)])) rfl rfl (hb hby d6_4) _ ?_
    rw [len_of S2 M2]
    refine XS.aloadN X1.here hx rfl (hb hby d6_5) rfl rfl ?_
    refine st3.trans ?_
    refine XS.ishr X3.here hx rfl (hb hby d6_9) rfl ?_
    show Steps p.tables e below (T3.setTop (mkF m 10 #[.val (.ref so)] [(.int ((31 : Int32) >>> ((0 : Int32) &&& 31)))])) _
    exact retI X3 hx Bd.returns (hb hby d6_10) hr
  · show Qsle31 Z so b kb vs cz h0 n0 _ T3.heap _
    rw [e3q]
    exact ⟨congrArg (fun z => some (Value.int z)) (by decide), N3, rfl⟩
theorem d5_9 : decode prog_78_method_6_code 9 = .ok (.iconst 1, 1) := by decide +kernel
theorem d5_10 : decode prog_78_method_6_code 10 = .ok (.goto 4, 3) := by decide +kernel
def Qnc31 (Z : State) (so : Addr) (b : Addr) (kb : ClassId) (vs : List Value) (cz : Int32) (h0 : Heap) (n0 : Nat) (v : Option Value) (h : Heap) (L : List Loc) : Prop := v = some (.int (1 : Int32)) ∧ Fr n0 L ∧ h = h0
abbrev Rm_nc31 : Room := { frames := 2, cells := 0, slots := 0, locals := 25 }
set_option maxRecDepth 65536 in
set_option maxHeartbeats 40000000 in
theorem nc31 (l : Launch) (Z : State) (a0 : Array Value) (hw : ∀ d ∈ tables_1, d.before a0 Z = true) (ws : List Jvm.Cond) (so : Addr) (b : Addr) (kb : ClassId) (vs : List Value) (cz : Int32) (h0 : Heap) (n0 : Nat) (Z0 : n0 ≤ h0.size) (E_so : Exa Z h0 so "java/lang/String") (F_value_so : Fld Z h0 so "java/lang/String" "value" "[B" (.ref b)) (F_coder_so : Fld Z h0 so "java/lang/String" "coder" "B" (.int (0 : Int32))) (V_b : Arv Z h0 b kb .byte (31 : Int32) vs (.int 0)) (O_C : Sta Z Z.heap "java/lang/String" "COMPACT_STRINGS" "Z" (.int cz)) (hcz : ¬ (cz = (0 : Int32))) (X00 : Old Z n0 h0) :
    MetFree l my6 (head1 (Jvm.Cond.code my6 prog_78_method_6_code 1 (some .boolean) :: ws) Rm_nc31) (fun aa_ U => aa_ = #[(.ref so)] ∧ Z.Warmed39 U.vm ∧ U.heap = h0) (fun _ _ _ _ _ => True) (fun _ U oo_ U' => ∃ v L, oo_ = .returned v ∧ Qnc31 Z so b kb vs cz h0 n0 v U'.heap L ∧ FrameEnd U oo_ U' L Rm_nc31.cells Rm_nc31.slots) := by
  refine MetFree.of_bodySF (plainFor_of_name pn_2) hisR ?_
  intro p e s m args below meth c s₁ Bd hml0 hP hK
  obtain ⟨rfl, hZ, hh⟩ := hP
  have hx := Bd.exec
  have hby := Bd.bytes
  have hml : c.maxLocals = 1 := hml0
  have hown : s.vm.findClass "com/example/coretally/coretally/store/SampleKey" = some m.cls := findClass_of_methodNamed Bd.named
  have hnm := (name_of_methodNamed Bd.named Bd.method).1
  have X0 : Stand p l e Rm_nc31 s m #[(.ref so)] below meth c s₁ [] 0 0 := Stand.of_body Bd
  have e0 : s₁.heap = h0 := by rw [← hh, Bd.state]; rfl
  have N0 := Fr.nil n0
  have pre0 : ∀ tt_, Steps p.tables e below (s₁.setTop (mkF m 0 #[.val (.ref so)] [])) tt_ → Steps p.tables e below (s₁.setTop (entryFrame m #[(.ref so)] 1)) tt_ := fun tt_ kk_ => castTop (ef_5 m so) kk_
  obtain ⟨cq1, kq1, q1a, q1b, q1c⟩ := isOf hZ e0 E_so
  obtain ⟨_, _, ⟨T1, L1, k1, n1⟩, -, X1, ⟨Lc1, hQ1, l1, y1, z1⟩, st1⟩ := X0.virtualBack hx (y := my5) (z := my5) hown (mvT hZ (hwd31 hw)) (mvT hZ (hwd32 hw)) (notFace_of_selects (args := #[]) (mvT hZ (hwd34 hw))) (mvT hZ (hwd34 hw)) (mvT hZ (hwd33 hw)) (by decide) (backOf (W := 0) (sle31 l Z a0 hw [] so b kb vs cz h0 n0 Z0 E_so F_value_so F_coder_so V_b O_C hcz X00) hZ (hwd35 hw) (hwd8 hw) (by decide) (by decide)) q1a q1c (g := (mkF m 1 #[.val (.ref so)] [(.ref so)])) rfl (by rw [hml]; rfl) (Steps.refl _) (argsL := []) (rest := []) (lenOf pd_2 rfl) rfl (by show 2 * 0 + _ ≤ _; exact Nat.le_of_eq rfl) (hb hby d5_1) (fun _ _ => ⟨rfl, e0, (by decide : 0 + 0 ≤ _), (by decide : 0 + 0 ≤ _)⟩)
  dsimp only [Pt.U, Pt.locs, Pt.cells, Pt.slots] at X1 l1 y1 z1 st1 hQ1
  subst l1 y1 z1
  obtain ⟨rfl, N1q, e1q⟩ := hQ1
  have N1 := Fr.app N0 N1q
  obtain ⟨fs, hr, hrun, hended, hW, hsame⟩ := X1.leave (v := some (.int (1 : Int32))) (fun h => by rw [Bd.returns] at h; cases h)
  refine ⟨_, _, pre0 _ ?_, hrun, hended, _, _, rfl, ?_, ⟨_, rfl⟩, hW, hsame.mono (by decide) (by decide)⟩
  · show Steps p.tables e below (s₁.setTop (mkF m 0 #[.val (.ref so)] [])) _
    refine XS.aloadN X0.here hx rfl (hb hby d5_0) rfl rfl ?_
    refine st1.trans ?_
    refine XS.bipush X1.here hx rfl (hb hby d5_4) ?_
    show Steps p.tables e below (T1.setTop (mkF m 6 #[.val (.ref so)] [(.int (30 : Int32)), (.int (31 : Int32))])) _
    refine XS.icmpNo X1.here hx rfl (hb hby d5_6) rfl (tlt (show (30 : Int32) < (31 : Int32) from (by decide))).2.2.2 ?_
    refine XS.iconst X1.here hx rfl (hb hby d5_9) ?_
    refine XS.goto X1.here hx rfl (pc0 := 10) (pc' := 14) rfl (hb hby d5_10) (by decide) (by decide) ?_
    exact retN X1 hx (t := .boolean) Bd.returns (by simp) (hb hby d5_14) hr
  · show Qnc31 Z so b kb vs cz h0 n0 _ T1.heap _
    rw [e1q]
    exact ⟨rfl, N1, rfl⟩
def Qsle32 (Z : State) (so : Addr) (b : Addr) (kb : ClassId) (vs : List Value) (cz : Int32) (h0 : Heap) (n0 : Nat) (v : Option Value) (h : Heap) (L : List Loc) : Prop := v = some (.int (32 : Int32)) ∧ Fr n0 L ∧ h = h0
abbrev Rm_sle32 : Room := { frames := 1, cells := 0, slots := 0, locals := 13 }
set_option maxRecDepth 65536 in
set_option maxHeartbeats 40000000 in
theorem sle32 (l : Launch) (Z : State) (a0 : Array Value) (hw : ∀ d ∈ tables_1, d.before a0 Z = true) (ws : List Jvm.Cond) (so : Addr) (b : Addr) (kb : ClassId) (vs : List Value) (cz : Int32) (h0 : Heap) (n0 : Nat) (Z0 : n0 ≤ h0.size) (E_so : Exa Z h0 so "java/lang/String") (F_value_so : Fld Z h0 so "java/lang/String" "value" "[B" (.ref b)) (F_coder_so : Fld Z h0 so "java/lang/String" "coder" "B" (.int (0 : Int32))) (V_b : Arv Z h0 b kb .byte (32 : Int32) vs (.int 0)) (O_C : Sta Z Z.heap "java/lang/String" "COMPACT_STRINGS" "Z" (.int cz)) (hcz : ¬ (cz = (0 : Int32))) (X00 : Old Z n0 h0) :
    MetFree l my5 (head1 (Jvm.Cond.code my5 jdk_42_method_54_code 1 (some .int) :: ws) Rm_sle32) (fun aa_ U => aa_ = #[(.ref so)] ∧ Z.Warmed39 U.vm ∧ U.heap = h0) (fun _ _ _ _ _ => True) (fun _ U oo_ U' => ∃ v L, oo_ = .returned v ∧ Qsle32 Z so b kb vs cz h0 n0 v U'.heap L ∧ FrameEnd U oo_ U' L Rm_sle32.cells Rm_sle32.slots) := by
  refine MetFree.of_bodySF (plainFor_of_name pn_1) hisR ?_
  intro p e s m args below meth c s₁ Bd hml0 hP hK
  obtain ⟨rfl, hZ, hh⟩ := hP
  have hx := Bd.exec
  have hby := Bd.bytes
  have hml : c.maxLocals = 1 := hml0
  have hown : s.vm.findClass "java/lang/String" = some m.cls := findClass_of_methodNamed Bd.named
  have hnm := (name_of_methodNamed Bd.named Bd.method).1
  have X0 : Stand p l e Rm_sle32 s m #[(.ref so)] below meth c s₁ [] 0 0 := Stand.of_body Bd
  have e0 : s₁.heap = h0 := by rw [← hh, Bd.state]; rfl
  have N0 := Fr.nil n0
  have pre0 : ∀ tt_, Steps p.tables e below (s₁.setTop (mkF m 0 #[.val (.ref so)] [])) tt_ → Steps p.tables e below (s₁.setTop (entryFrame m #[(.ref so)] 1)) tt_ := fun tt_ kk_ => castTop (ef_6 m so) kk_
  obtain ⟨T1, X1, e1, st1⟩ := getF X0 hx hZ hown (host := "") (Or.inl (hwd25 hw)) Via.refl e0 F_value_so (g := (mkF m 1 #[.val (.ref so)] [(.ref so)])) rfl rfl (hb hby d6_1)
  obtain ⟨cl2, Ar2, -, S2, M2, -, -⟩ := id V_b
  obtain ⟨cq3, kq3, q3a, q3b, q3c⟩ := isOf hZ e1 E_so
  obtain ⟨_, _, ⟨T3, L3, k3, n3⟩, -, X3, ⟨Lc3, hQ3, l3, y3, z3⟩, st3⟩ := X1.virtualBack hx (y := my3) (z := my3) hown (mvT hZ (hwd36 hw)) (mvT hZ (hwd37 hw)) (notFace_of_selects (args := #[]) (mvT hZ (hwd39 hw))) (mvT hZ (hwd39 hw)) (mvT hZ (hwd38 hw)) (by decide) (backOf (W := 1) (cod l Z a0 hw [] so cz h0 n0 Z0 F_coder_so O_C hcz X00) hZ (hwd40 hw) (hwd8 hw) (by decide) (by decide)) q3a q3c (g := (mkF m 6 #[.val (.ref so)] [(.ref so), (.int (32 : Int32))])) rfl (by rw [hml]; rfl) (Steps.refl _) (argsL := []) (rest := [(.int (32 : Int32))]) (lenOf pd_1 rfl) rfl (by show 2 * 0 + _ ≤ _; exact Nat.le_of_eq rfl) (hb hby d6_6) (fun _ _ => ⟨rfl, e1, (by decide : 0 + 0 ≤ _), (by decide : 0 + 0 ≤ _)⟩)
  dsimp only [Pt.U, Pt.locs, Pt.cells, Pt.slots] at X3 l3 y3 z3 st3 hQ3
  subst l3 y3 z3
  obtain ⟨rfl, N3q, e3q⟩ := hQ3
  have N3 := Fr.app N0 N3q
  obtain ⟨fs, hr, hrun, hended, hW, hsame⟩ := X3.leave (v := some (.int ((32 : Int32) >>> ((0 : Int32) &&& 31)))) (fun h => by rw [Bd.returns] at h; cases h)
  refine ⟨_, _, pre0 _ ?_, hrun, hended, _, _, rfl, ?_, ⟨_, rfl⟩, hW, hsame.mono (by decide) (by decide)⟩
  · show Steps p.tables e below (s₁.setTop (mkF m 0 #[.val (.ref so)] [])) _
    refine XS.aloadN X0.here hx rfl (hb hby d6_0) rfl rfl ?_
    refine st1 _ ?_
    refine X1.arraylength hx (by rw [e1]; exact Ar2.1) (State.isArrayOf_alike hZ.alike Ar2.2.1) (g := (mkF m 4 #[.val (.ref so)] [(.ref b)])) rfl rfl (hb hby d6_4) _ ?_
    rw [len_of S2 M2]
    refine XS.aloadN X1.here hx rfl (hb hby d6_5) rfl rfl ?_
    refine st3.trans ?_
    refine XS.ishr X3.here hx rfl (hb hby d6_9) rfl ?_
    show Steps p.tables e below (T3.setTop (mkF m 10 #[.val (.ref so)] [(.int ((32 : Int32) >>> ((0 : Int32) &&& 31)))])) _
    exact retI X3 hx Bd.returns (hb hby d6_10) hr
  · show Qsle32 Z so b kb vs cz h0 n0 _ T3.heap _
    rw [e3q]
    exact ⟨congrArg (fun z => some (Value.int z)) (by decide), N3, rfl⟩
def Qnc32 (Z : State) (so : Addr) (b : Addr) (kb : ClassId) (vs : List Value) (cz : Int32) (h0 : Heap) (n0 : Nat) (v : Option Value) (h : Heap) (L : List Loc) : Prop := v = some (.int (1 : Int32)) ∧ Fr n0 L ∧ h = h0
abbrev Rm_nc32 : Room := { frames := 2, cells := 0, slots := 0, locals := 25 }
set_option maxRecDepth 65536 in
set_option maxHeartbeats 40000000 in
theorem nc32 (l : Launch) (Z : State) (a0 : Array Value) (hw : ∀ d ∈ tables_1, d.before a0 Z = true) (ws : List Jvm.Cond) (so : Addr) (b : Addr) (kb : ClassId) (vs : List Value) (cz : Int32) (h0 : Heap) (n0 : Nat) (Z0 : n0 ≤ h0.size) (E_so : Exa Z h0 so "java/lang/String") (F_value_so : Fld Z h0 so "java/lang/String" "value" "[B" (.ref b)) (F_coder_so : Fld Z h0 so "java/lang/String" "coder" "B" (.int (0 : Int32))) (V_b : Arv Z h0 b kb .byte (32 : Int32) vs (.int 0)) (O_C : Sta Z Z.heap "java/lang/String" "COMPACT_STRINGS" "Z" (.int cz)) (hcz : ¬ (cz = (0 : Int32))) (X00 : Old Z n0 h0) :
    MetFree l my6 (head1 (Jvm.Cond.code my6 prog_78_method_6_code 1 (some .boolean) :: ws) Rm_nc32) (fun aa_ U => aa_ = #[(.ref so)] ∧ Z.Warmed39 U.vm ∧ U.heap = h0) (fun _ _ _ _ _ => True) (fun _ U oo_ U' => ∃ v L, oo_ = .returned v ∧ Qnc32 Z so b kb vs cz h0 n0 v U'.heap L ∧ FrameEnd U oo_ U' L Rm_nc32.cells Rm_nc32.slots) := by
  refine MetFree.of_bodySF (plainFor_of_name pn_2) hisR ?_
  intro p e s m args below meth c s₁ Bd hml0 hP hK
  obtain ⟨rfl, hZ, hh⟩ := hP
  have hx := Bd.exec
  have hby := Bd.bytes
  have hml : c.maxLocals = 1 := hml0
  have hown : s.vm.findClass "com/example/coretally/coretally/store/SampleKey" = some m.cls := findClass_of_methodNamed Bd.named
  have hnm := (name_of_methodNamed Bd.named Bd.method).1
  have X0 : Stand p l e Rm_nc32 s m #[(.ref so)] below meth c s₁ [] 0 0 := Stand.of_body Bd
  have e0 : s₁.heap = h0 := by rw [← hh, Bd.state]; rfl
  have N0 := Fr.nil n0
  have pre0 : ∀ tt_, Steps p.tables e below (s₁.setTop (mkF m 0 #[.val (.ref so)] [])) tt_ → Steps p.tables e below (s₁.setTop (entryFrame m #[(.ref so)] 1)) tt_ := fun tt_ kk_ => castTop (ef_5 m so) kk_
  obtain ⟨cq1, kq1, q1a, q1b, q1c⟩ := isOf hZ e0 E_so
  obtain ⟨_, _, ⟨T1, L1, k1, n1⟩, -, X1, ⟨Lc1, hQ1, l1, y1, z1⟩, st1⟩ := X0.virtualBack hx (y := my5) (z := my5) hown (mvT hZ (hwd31 hw)) (mvT hZ (hwd32 hw)) (notFace_of_selects (args := #[]) (mvT hZ (hwd34 hw))) (mvT hZ (hwd34 hw)) (mvT hZ (hwd33 hw)) (by decide) (backOf (W := 0) (sle32 l Z a0 hw [] so b kb vs cz h0 n0 Z0 E_so F_value_so F_coder_so V_b O_C hcz X00) hZ (hwd35 hw) (hwd8 hw) (by decide) (by decide)) q1a q1c (g := (mkF m 1 #[.val (.ref so)] [(.ref so)])) rfl (by rw [hml]; rfl) (Steps.refl _) (argsL := []) (rest := []) (lenOf pd_2 rfl) rfl (by show 2 * 0 + _ ≤ _; exact Nat.le_of_eq rfl) (hb hby d5_1) (fun _ _ => ⟨rfl, e0, (by decide : 0 + 0 ≤ _), (by decide : 0 + 0 ≤ _)⟩)
  dsimp only [Pt.U, Pt.locs, Pt.cells, Pt.slots] at X1 l1 y1 z1 st1 hQ1
  subst l1 y1 z1
  obtain ⟨rfl, N1q, e1q⟩ := hQ1
  have N1 := Fr.app N0 N1q
  obtain ⟨fs, hr, hrun, hended, hW, hsame⟩ := X1.leave (v := some (.int (1 : Int32))) (fun h => by rw [Bd.returns] at h; cases h)
  refine ⟨_, _, pre0 _ ?_, hrun, hended, _, _, rfl, ?_, ⟨_, rfl⟩, hW, hsame.mono (by decide) (by decide)⟩
  · show Steps p.tables e below (s₁.setTop (mkF m 0 #[.val (.ref so)] [])) _
    refine XS.aloadN X0.here hx rfl (hb hby d5_0) rfl rfl ?_
    refine st1.trans ?_
    refine XS.bipush X1.here hx rfl (hb hby d5_4) ?_
    show Steps p.tables e below (T1.setTop (mkF m 6 #[.val (.ref so)] [(.int (30 : Int32)), (.int (32 : Int32))])) _
    refine XS.icmpNo X1.here hx rfl (hb hby d5_6) rfl (tlt (show (30 : Int32) < (32 : Int32) from (by decide))).2.2.2 ?_
    refine XS.iconst X1.here hx rfl (hb hby d5_9) ?_
    refine XS.goto X1.here hx rfl (pc0 := 10) (pc' := 14) rfl (hb hby d5_10) (by decide) (by decide) ?_
    exact retN X1 hx (t := .boolean) Bd.returns (by simp) (hb hby d5_14) hr
  · show Qnc32 Z so b kb vs cz h0 n0 _ T1.heap _
    rw [e1q]
    exact ⟨rfl, N1, rfl⟩
def Qsle60 (Z : State) (so : Addr) (b : Addr) (kb : ClassId) (vs : List Value) (cz : Int32) (h0 : Heap) (n0 : Nat) (v : Option Value) (h : Heap) (L : List Loc) : Prop := v = some (.int (60 : Int32)) ∧ Fr n0 L ∧ h = h0
abbrev Rm_sle60 : Room := { frames := 1, cells := 0, slots := 0, locals := 13 }
set_option maxRecDepth 65536 in
set_option maxHeartbeats 40000000 in
theorem sle60 (l : Launch) (Z : State) (a0 : Array Value) (hw : ∀ d ∈ tables_1, d.before a0 Z = true) (ws : List Jvm.Cond) (so : Addr) (b : Addr) (kb : ClassId) (vs : List Value) (cz : Int32) (h0 : Heap) (n0 : Nat) (Z0 : n0 ≤ h0.size) (E_so : Exa Z h0 so "java/lang/String") (F_value_so : Fld Z h0 so "java/lang/String" "value" "[B" (.ref b)) (F_coder_so : Fld Z h0 so "java/lang/String" "coder" "B" (.int (0 : Int32))) (V_b : Arv Z h0 b kb .byte (60 : Int32) vs (.int 0)) (O_C : Sta Z Z.heap "java/lang/String" "COMPACT_STRINGS" "Z" (.int cz)) (hcz : ¬ (cz = (0 : Int32))) (X00 : Old Z n0 h0) :
    MetFree l my5 (head1 (Jvm.Cond.code my5 jdk_42_method_54_code 1 (some .int) :: ws) Rm_sle60) (fun aa_ U => aa_ = #[(.ref so)] ∧ Z.Warmed39 U.vm ∧ U.heap = h0) (fun _ _ _ _ _ => True) (fun _ U oo_ U' => ∃ v L, oo_ = .returned v ∧ Qsle60 Z so b kb vs cz h0 n0 v U'.heap L ∧ FrameEnd U oo_ U' L Rm_sle60.cells Rm_sle60.slots) := by
  refine MetFree.of_bodySF (plainFor_of_name pn_1) hisR ?_
  intro p e s m args below meth c s₁ Bd hml0 hP hK
  obtain ⟨rfl, hZ, hh⟩ := hP
  have hx := Bd.exec
  have hby := Bd.bytes
  have hml : c.maxLocals = 1 := hml0
  have hown : s.vm.findClass "java/lang/String" = some m.cls := findClass_of_methodNamed Bd.named
  have hnm := (name_of_methodNamed Bd.named Bd.method).1
  have X0 : Stand p l e Rm_sle60 s m #[(.ref so)] below meth c s₁ [] 0 0 := Stand.of_body Bd
  have e0 : s₁.heap = h0 := by rw [← hh, Bd.state]; rfl
  have N0 := Fr.nil n0
  have pre0 : ∀ tt_, Steps p.tables e below (s₁.setTop (mkF m 0 #[.val (.ref so)] [])) tt_ → Steps p.tables e below (s₁.setTop (entryFrame m #[(.ref so)] 1)) tt_ := fun tt_ kk_ => castTop (ef_6 m so) kk_
  obtain ⟨T1, X1, e1, st1⟩ := getF X0 hx hZ hown (host := "") (Or.inl (hwd25 hw)) Via.refl e0 F_value_so (g := (mkF m 1 #[.val (.ref so)] [(.ref so)])) rfl rfl (hb hby d6_1)
  obtain ⟨cl2, Ar2, -, S2, M2, -, -⟩ := id V_b
  obtain ⟨cq3, kq3, q3a, q3b, q3c⟩ := isOf hZ e1 E_so
  obtain ⟨_, _, ⟨T3, L3, k3, n3⟩, -, X3, ⟨Lc3, hQ3, l3, y3, z3⟩, st3⟩ := X1.virtualBack hx (y := my3) (z := my3) hown (mvT hZ (hwd36 hw)) (mvT hZ (hwd37 hw)) (notFace_of_selects (args := #[]) (mvT hZ (hwd39 hw))) (mvT hZ (hwd39 hw)) (mvT hZ (hwd38 hw)) (by decide) (backOf (W := 1) (cod l Z a0 hw [] so cz h0 n0 Z0 F_coder_so O_C hcz X00) hZ (hwd40 hw) (hwd8 hw) (by decide) (by decide)) q3a q3c (g := (mkF m 6 #[.val (.ref so)] [(.ref so), (.int (60 : Int32))])) rfl (by rw [hml]; rfl) (Steps.refl _) (argsL := []) (rest := [(.int (60 : Int32))]) (lenOf pd_1 rfl) rfl (by show 2 * 0 + _ ≤ _; exact Nat.le_of_eq rfl) (hb hby d6_6) (fun _ _ => ⟨rfl, e1, (by decide : 0 + 0 ≤ _), (by decide : 0 + 0 ≤ _)⟩)
  dsimp only [Pt.U, Pt.locs, Pt.cells, Pt.slots] at X3 l3 y3 z3 st3 hQ3
  subst l3 y3 z3
  obtain ⟨rfl, N3q, e3q⟩ := hQ3
  have N3 := Fr.app N0 N3q
  obtain ⟨fs, hr, hrun, hended, hW, hsame⟩ := X3.leave (v := some (.int ((60 : Int32) >>> ((0 : Int32) &&& 31)))) (fun h => by rw [Bd.returns] at h; cases h)
  refine ⟨_, _, pre0 _ ?_, hrun, hended, _, _, rfl, ?_, ⟨_, rfl⟩, hW, hsame.mono (by decide) (by decide)⟩
  · show Steps p.tables e below (s₁.setTop (mkF m 0 #[.val (.ref so)] [])) _
    refine XS.aloadN X0.here hx rfl (hb hby d6_0) rfl rfl ?_
    refine st1 _ ?_
    refine X1.arraylength hx (by rw [e1]; exact Ar2.1) (State.isArrayOf_alike hZ.alike Ar2.2.1) (g := (mkF m 4 #[.val (.ref so)] [(.ref b)])) rfl rfl (hb hby d6_4) _ ?_
    rw [len_of S2 M2]
    refine XS.aloadN X1.here hx rfl (hb hby d6_5) rfl rfl ?_
    refine st3.trans ?_
    refine XS.ishr X3.here hx rfl (hb hby d6_9) rfl ?_
    show Steps p.tables e below (T3.setTop (mkF m 10 #[.val (.ref so)] [(.int ((60 : Int32) >>> ((0 : Int32) &&& 31)))])) _
    exact retI X3 hx Bd.returns (hb hby d6_10) hr
  · show Qsle60 Z so b kb vs cz h0 n0 _ T3.heap _
    rw [e3q]
    exact ⟨congrArg (fun z => some (Value.int z)) (by decide), N3, rfl⟩
def Qnc60 (Z : State) (so : Addr) (b : Addr) (kb : ClassId) (vs : List Value) (cz : Int32) (h0 : Heap) (n0 : Nat) (v : Option Value) (h : Heap) (L : List Loc) : Prop := v = some (.int (1 : Int32)) ∧ Fr n0 L ∧ h = h0
abbrev Rm_nc60 : Room := { frames := 2, cells := 0, slots := 0, locals := 25 }
set_option maxRecDepth 65536 in
set_option maxHeartbeats 40000000 in
theorem nc60 (l : Launch) (Z : State) (a0 : Array Value) (hw : ∀ d ∈ tables_1, d.before a0 Z = true) (ws : List Jvm.Cond) (so : Addr) (b : Addr) (kb : ClassId) (vs : List Value) (cz : Int32) (h0 : Heap) (n0 : Nat) (Z0 : n0 ≤ h0.size) (E_so : Exa Z h0 so "java/lang/String") (F_value_so : Fld Z h0 so "java/lang/String" "value" "[B" (.ref b)) (F_coder_so : Fld Z h0 so "java/lang/String" "coder" "B" (.int (0 : Int32))) (V_b : Arv Z h0 b kb .byte (60 : Int32) vs (.int 0)) (O_C : Sta Z Z.heap "java/lang/String" "COMPACT_STRINGS" "Z" (.int cz)) (hcz : ¬ (cz = (0 : Int32))) (X00 : Old Z n0 h0) :
    MetFree l my6 (head1 (Jvm.Cond.code my6 prog_78_method_6_code 1 (some .boolean) :: ws) Rm_nc60) (fun aa_ U => aa_ = #[(.ref so)] ∧ Z.Warmed39 U.vm ∧ U.heap = h0) (fun _ _ _ _ _ => True) (fun _ U oo_ U' => ∃ v L, oo_ = .returned v ∧ Qnc60 Z so b kb vs cz h0 n0 v U'.heap L ∧ FrameEnd U oo_ U' L Rm_nc60.cells Rm_nc60.slots) := by
  refine MetFree.of_bodySF (plainFor_of_name pn_2) hisR ?_
  intro p e s m args below meth c s₁ Bd hml0 hP hK
  obtain ⟨rfl, hZ, hh⟩ := hP
  have hx := Bd.exec
  have hby := Bd.bytes
  have hml : c.maxLocals = 1 := hml0
  have hown : s.vm.findClass "com/example/coretally/coretally/store/SampleKey" = some m.cls := findClass_of_methodNamed Bd.named
  have hnm := (name_of_methodNamed Bd.named Bd.method).1
  have X0 : Stand p l e Rm_nc60 s m #[(.ref so)] below meth c s₁ [] 0 0 := Stand.of_body Bd
  have e0 : s₁.heap = h0 := by rw [← hh, Bd.state]; rfl
  have N0 := Fr.nil n0
  have pre0 : ∀ tt_, Steps p.tables e below (s₁.setTop (mkF m 0 #[.val (.ref so)] [])) tt_ → Steps p.tables e below (s₁.setTop (entryFrame m #[(.ref so)] 1)) tt_ := fun tt_ kk_ => castTop (ef_5 m so) kk_
  obtain ⟨cq1, kq1, q1a, q1b, q1c⟩ := isOf hZ e0 E_so
  obtain ⟨_, _, ⟨T1, L1, k1, n1⟩, -, X1, ⟨Lc1, hQ1, l1, y1, z1⟩, st1⟩ := X0.virtualBack hx (y := my5) (z := my5) hown (mvT hZ (hwd31 hw)) (mvT hZ (hwd32 hw)) (notFace_of_selects (args := #[]) (mvT hZ (hwd34 hw))) (mvT hZ (hwd34 hw)) (mvT hZ (hwd33 hw)) (by decide) (backOf (W := 0) (sle60 l Z a0 hw [] so b kb vs cz h0 n0 Z0 E_so F_value_so F_coder_so V_b O_C hcz X00) hZ (hwd35 hw) (hwd8 hw) (by decide) (by decide)) q1a q1c (g := (mkF m 1 #[.val (.ref so)] [(.ref so)])) rfl (by rw [hml]; rfl) (Steps.refl _) (argsL := []) (rest := []) (lenOf pd_2 rfl) rfl (by show 2 * 0 + _ ≤ _; exact Nat.le_of_eq rfl) (hb hby d5_1) (fun _ _ => ⟨rfl, e0, (by decide : 0 + 0 ≤ _), (by decide : 0 + 0 ≤ _)⟩)
  dsimp only [Pt.U, Pt.locs, Pt.cells, Pt.slots] at X1 l1 y1 z1 st1 hQ1
  subst l1 y1 z1
  obtain ⟨rfl, N1q, e1q⟩ := hQ1
  have N1 := Fr.app N0 N1q
  obtain ⟨fs, hr, hrun, hended, hW, hsame⟩ := X1.leave (v := some (.int (1 : Int32))) (fun h => by rw [Bd.returns] at h; cases h)
  refine ⟨_, _, pre0 _ ?_, hrun, hended, _, _, rfl, ?_, ⟨_, rfl⟩, hW, hsame.mono (by decide) (by decide)⟩
  · show Steps p.tables e below (s₁.setTop (mkF m 0 #[.val (.ref so)] [])) _
    refine XS.aloadN X0.here hx rfl (hb hby d5_0) rfl rfl ?_
    refine st1.trans ?_
    refine XS.bipush X1.here hx rfl (hb hby d5_4) ?_
    show Steps p.tables e below (T1.setTop (mkF m 6 #[.val (.ref so)] [(.int (30 : Int32)), (.int (60 : Int32))])) _
    refine XS.icmpNo X1.here hx rfl (hb hby d5_6) rfl (tlt (show (30 : Int32) < (60 : Int32) from (by decide))).2.2.2 ?_
    refine XS.iconst X1.here hx rfl (hb hby d5_9) ?_
    refine XS.goto X1.here hx rfl (pc0 := 10) (pc' := 14) rfl (hb hby d5_10) (by decide) (by decide) ?_
    exact retN X1 hx (t := .boolean) Bd.returns (by simp) (hb hby d5_14) hr
  · show Qnc60 Z so b kb vs cz h0 n0 _ T1.heap _
    rw [e1q]
    exact ⟨rfl, N1, rfl⟩
theorem d18_0 : decode jdk_42_method_55_code 0 = .ok (.aload_n 0, 1) := by decide +kernel
theorem d18_1 : decode jdk_42_method_55_code 1 = .ok (.getfield 9, 3) := by decide +kernel
theorem d18_4 : decode jdk_42_method_55_code 4 = .ok (.arraylength, 1) := by decide +kernel
theorem d18_5 : decode jdk_42_method_55_code 5 = .ok (.ifCond .ne 7, 3) := by decide +kernel
theorem d18_8 : decode jdk_42_method_55_code 8 = .ok (.iconst 1, 1) := by decide +kernel
theorem d18_9 : decode jdk_42_method_55_code 9 = .ok (.goto 4, 3) := by decide +kernel
theorem d18_13 : decode jdk_42_method_55_code 13 = .ok (.ireturn, 1) := by decide +kernel
theorem ef_18 (m : MethodId) (x0 : Addr) : entryFrame m #[(.ref x0)] 1 = mkF m 0 #[.val (.ref x0)] [] := by first | (simp [entryFrame, mkF, argsToLocals, Value.category]; done) | rfl
def Qsem0 (Z : State) (so : Addr) (b : Addr) (kb : ClassId) (vs : List Value) (h0 : Heap) (n0 : Nat) (v : Option Value) (h : Heap) (L : List Loc) : Prop := v = some (.int (1 : Int32)) ∧ Fr n0 L ∧ h = h0
abbrev my7 : MethodName := ⟨"java/lang/String", "isEmpty", "()Z"⟩
abbrev Rm_sem0 : Room := { frames := 0, cells := 0, slots := 0, locals := 0 }
set_option maxRecDepth 65536 in
set_option maxHeartbeats 40000000 in
theorem sem0 (l : Launch) (Z : State) (a0 : Array Value) (hw : ∀ d ∈ tables_1, d.before a0 Z = true) (ws : List Jvm.Cond) (so : Addr) (b : Addr) (kb : ClassId) (vs : List Value) (h0 : Heap) (n0 : Nat) (Z0 : n0 ≤ h0.size) (F_value_so : Fld Z h0 so "java/lang/String" "value" "[B" (.ref b)) (V_b : Arv Z h0 b kb .byte (0 : Int32) vs (.int 0)) :
    MetFree l my7 (head1 (Jvm.Cond.code my7 jdk_42_method_55_code 1 (some .boolean) :: ws) Rm_sem0) (fun aa_ U => aa_ = #[(.ref so)] ∧ Z.Warmed39 U.vm ∧ U.heap = h0) (fun _ _ _ _ _ => True) (fun _ U oo_ U' => ∃ v L, oo_ = .returned v ∧ Qsem0 Z so b kb vs h0 n0 v U'.heap L ∧ FrameEnd U oo_ U' L Rm_sem0.cells Rm_sem0.slots) := by
  refine MetFree.of_bodySF (plainFor_of_name pn_1) hisR ?_
  intro p e s m args below meth c s₁ Bd hml0 hP hK
  obtain ⟨rfl, hZ, hh⟩ := hP
  have hx := Bd.exec
  have hby := Bd.bytes
  have hml : c.maxLocals = 1 := hml0
  have hown : s.vm.findClass "java/lang/String" = some m.cls := findClass_of_methodNamed Bd.named
  have hnm := (name_of_methodNamed Bd.named Bd.method).1
  have X0 : Stand p l e Rm_sem0 s m #[(.ref so)] below meth c s₁ [] 0 0 := Stand.of_body Bd
  have e0 : s₁.heap = h0 := by rw [← hh, Bd.state]; rfl
  have N0 := Fr.nil n0
  have pre0 : ∀ tt_, Steps p.tables e below (s₁.setTop (mkF m 0 #[.val (.ref so)] [])) tt_ → Steps p.tables e below (s₁.setTop (entryFrame m #[(.ref so)] 1)) tt_ := fun tt_ kk_ => castTop (ef_18 m so) kk_
  obtain ⟨T1, X1, e1, st1⟩ := getF X0 hx hZ hown (host := "") (Or.inl (hwd25 hw)) Via.refl e0 F_value_so (g := (mkF m 1 #[.val (.ref so)] [(.ref so)])) rfl rfl (hb hby d18_1)
  obtain ⟨cl2, Ar2, -, S2, M2, -, -⟩ := id V_b
  obtain ⟨fs, hr, hrun, hended, hW, hsame⟩ := X1.leave (v := some (.int (1 : Int32))) (fun h => by rw [Bd.returns] at h; cases h)
  refine ⟨_, _, pre0 _ ?_, hrun, hended, _, _, rfl, ?_, ⟨_, rfl⟩, hW, hsame.mono (by decide) (by decide)⟩
  · show Steps p.tables e below (s₁.setTop (mkF m 0 #[.val (.ref so)] [])) _
    refine XS.aloadN X0.here hx rfl (hb hby d18_0) rfl rfl ?_
    refine st1 _ ?_
    refine X1.arraylength hx (by rw [e1]; exact Ar2.1) (State.isArrayOf_alike hZ.alike Ar2.2.1) (g := (mkF m 4 #[.val (.ref so)] [(.ref b)])) rfl rfl (hb hby d18_4) _ ?_
    rw [len_of S2 M2]
    refine XS.ifNo X1.here hx rfl (hb hby d18_5) rfl ((if0 _ _).trans (teq (show (0 : Int32) = (0 : Int32) from rfl)).2) ?_
    refine XS.iconst X1.here hx rfl (hb hby d18_8) ?_
    refine XS.goto X1.here hx rfl (pc0 := 9) (pc' := 13) rfl (hb hby d18_9) (by decide) (by decide) ?_
    show Steps p.tables e below (T1.setTop (mkF m 13 #[.val (.ref so)] [(.int (1 : Int32))])) _
    exact retN X1 hx (t := .boolean) Bd.returns (by simp) (hb hby d18_13) hr
  · show Qsem0 Z so b kb vs h0 n0 _ T1.heap _
    rw [e1]
    exact ⟨rfl, N0, rfl⟩
theorem d18_12 : decode jdk_42_method_55_code 12 = .ok (.iconst 0, 1) := by decide +kernel
def Qsem1 (Z : State) (so : Addr) (b : Addr) (kb : ClassId) (vs : List Value) (h0 : Heap) (n0 : Nat) (v : Option Value) (h : Heap) (L : List Loc) : Prop := v = some (.int (0 : Int32)) ∧ Fr n0 L ∧ h = h0
abbrev Rm_sem1 : Room := { frames := 0, cells := 0, slots := 0, locals := 0 }
set_option maxRecDepth 65536 in
set_option maxHeartbeats 40000000 in
theorem sem1 (l : Launch) (Z : State) (a0 : Array Value) (hw : ∀ d ∈ tables_1, d.before a0 Z = true) (ws : List Jvm.Cond) (so : Addr) (b : Addr) (kb : ClassId) (vs : List Value) (h0 : Heap) (n0 : Nat) (Z0 : n0 ≤ h0.size) (F_value_so : Fld Z h0 so "java/lang/String" "value" "[B" (.ref b)) (V_b : Arv Z h0 b kb .byte (1 : Int32) vs (.int 0)) :
    MetFree l my7 (head1 (Jvm.Cond.code my7 jdk_42_method_55_code 1 (some .boolean) :: ws) Rm_sem1) (fun aa_ U => aa_ = #[(.ref so)] ∧ Z.Warmed39 U.vm ∧ U.heap = h0) (fun _ _ _ _ _ => True) (fun _ U oo_ U' => ∃ v L, oo_ = .returned v ∧ Qsem1 Z so b kb vs h0 n0 v U'.heap L ∧ FrameEnd U oo_ U' L Rm_sem1.cells Rm_sem1.slots) := by
  refine MetFree.of_bodySF (plainFor_of_name pn_1) hisR ?_
  intro p e s m args below meth c s₁ Bd hml0 hP hK
  obtain ⟨rfl, hZ, hh⟩ := hP
  have hx := Bd.exec
  have hby := Bd.bytes
  have hml : c.maxLocals = 1 := hml0
  have hown : s.vm.findClass "java/lang/String" = some m.cls := findClass_of_methodNamed Bd.named
  have hnm := (name_of_methodNamed Bd.named Bd.method).1
  have X0 : Stand p l e Rm_sem1 s m #[(.ref so)] below meth c s₁ [] 0 0 := Stand.of_body Bd
  have e0 : s₁.heap = h0 := by rw [← hh, Bd.state]; rfl
  have N0 := Fr.nil n0
  have pre0 : ∀ tt_, Steps p.tables e below (s₁.setTop (mkF m 0 #[.val (.ref so)] [])) tt_ → Steps p.tables e below (s₁.setTop (entryFrame m #[(.ref so)] 1)) tt_ := fun tt_ kk_ => castTop (ef_18 m so) kk_
  obtain ⟨T1, X1, e1, st1⟩ := getF X0 hx hZ hown (host := "") (Or.inl (hwd25 hw)) Via.refl e0 F_value_so (g := (mkF m 1 #[.val (.ref so)] [(.ref so)])) rfl rfl (hb hby d18_1)
  obtain ⟨cl2, Ar2, -, S2, M2, -, -⟩ := id V_b
  obtain ⟨fs, hr, hrun, hended, hW, hsame⟩ := X1.leave (v := some (.int (0 : Int32))) (fun h => by rw [Bd.returns] at h; cases h)
  refine ⟨_, _, pre0 _ ?_, hrun, hended, _, _, rfl, ?_, ⟨_, rfl⟩, hW, hsame.mono (by decide) (by decide)⟩
  · show Steps p.tables e below (s₁.setTop (mkF m 0 #[.val (.ref so)] [])) _
    refine XS.aloadN X0.here hx rfl (hb hby d18_0) rfl rfl ?_
    refine st1 _ ?_
    refine X1.arraylength hx (by rw [e1]; exact Ar2.1) (State.isArrayOf_alike hZ.alike Ar2.2.1) (g := (mkF m 4 #[.val (.ref so)] [(.ref b)])) rfl rfl (hb hby d18_4) _ ?_
    rw [len_of S2 M2]
    refine XS.ifYes X1.here hx rfl (pc0 := 5) (pc' := 12) rfl (hb hby d18_5) rfl ((if0 _ _).trans (feq (show ¬ ((1 : Int32) = (0 : Int32)) from (by decide))).2) (by decide) (by decide) ?_
    refine XS.iconst X1.here hx rfl (hb hby d18_12) ?_
    exact retN X1 hx (t := .boolean) Bd.returns (by simp) (hb hby d18_13) hr
  · show Qsem1 Z so b kb vs h0 n0 _ T1.heap _
    rw [e1]
    exact ⟨rfl, N0, rfl⟩
def Qsem2 (Z : State) (so : Addr) (b : Addr) (kb : ClassId) (vs : List Value) (h0 : Heap) (n0 : Nat) (v : Option Value) (h : Heap) (L : List Loc) : Prop := v = some (.int (0 : Int32)) ∧ Fr n0 L ∧ h = h0
abbrev Rm_sem2 : Room := { frames := 0, cells := 0, slots := 0, locals := 0 }
set_option maxRecDepth 65536 in
set_option maxHeartbeats 40000000 in
theorem sem2 (l : Launch) (Z : State) (a0 : Array Value) (hw : ∀ d ∈ tables_1, d.before a0 Z = true) (ws : List Jvm.Cond) (so : Addr) (b : Addr) (kb : ClassId) (vs : List Value) (h0 : Heap) (n0 : Nat) (Z0 : n0 ≤ h0.size) (F_value_so : Fld Z h0 so "java/lang/String" "value" "[B" (.ref b)) (V_b : Arv Z h0 b kb .byte (2 : Int32) vs (.int 0)) :
    MetFree l my7 (head1 (Jvm.Cond.code my7 jdk_42_method_55_code 1 (some .boolean) :: ws) Rm_sem2) (fun aa_ U => aa_ = #[(.ref so)] ∧ Z.Warmed39 U.vm ∧ U.heap = h0) (fun _ _ _ _ _ => True) (fun _ U oo_ U' => ∃ v L, oo_ = .returned v ∧ Qsem2 Z so b kb vs h0 n0 v U'.heap L ∧ FrameEnd U oo_ U' L Rm_sem2.cells Rm_sem2.slots) := by
  refine MetFree.of_bodySF (plainFor_of_name pn_1) hisR ?_
  intro p e s m args below meth c s₁ Bd hml0 hP hK
  obtain ⟨rfl, hZ, hh⟩ := hP
  have hx := Bd.exec
  have hby := Bd.bytes
  have hml : c.maxLocals = 1 := hml0
  have hown : s.vm.findClass "java/lang/String" = some m.cls := findClass_of_methodNamed Bd.named
  have hnm := (name_of_methodNamed Bd.named Bd.method).1
  have X0 : Stand p l e Rm_sem2 s m #[(.ref so)] below meth c s₁ [] 0 0 := Stand.of_body Bd
  have e0 : s₁.heap = h0 := by rw [← hh, Bd.state]; rfl
  have N0 := Fr.nil n0
  have pre0 : ∀ tt_, Steps p.tables e below (s₁.setTop (mkF m 0 #[.val (.ref so)] [])) tt_ → Steps p.tables e below (s₁.setTop (entryFrame m #[(.ref so)] 1)) tt_ := fun tt_ kk_ => castTop (ef_18 m so) kk_
  obtain ⟨T1, X1, e1, st1⟩ := getF X0 hx hZ hown (host := "") (Or.inl (hwd25 hw)) Via.refl e0 F_value_so (g := (mkF m 1 #[.val (.ref so)] [(.ref so)])) rfl rfl (hb hby d18_1)
  obtain ⟨cl2, Ar2, -, S2, M2, -, -⟩ := id V_b
  obtain ⟨fs, hr, hrun, hended, hW, hsame⟩ := X1.leave (v := some (.int (0 : Int32))) (fun h => by rw [Bd.returns] at h; cases h)
  refine ⟨_, _, pre0 _ ?_, hrun, hended, _, _, rfl, ?_, ⟨_, rfl⟩, hW, hsame.mono (by decide) (by decide)⟩
  · show Steps p.tables e below (s₁.setTop (mkF m 0 #[.val (.ref so)] [])) _
    refine XS.aloadN X0.here hx rfl (hb hby d18_0) rfl rfl ?_
    refine st1 _ ?_
    refine X1.arraylength hx (by rw [e1]; exact Ar2.1) (State.isArrayOf_alike hZ.alike Ar2.2.1) (g := (mkF m 4 #[.val (.ref so)] [(.ref b)])) rfl rfl (hb hby d18_4) _ ?_
    rw [len_of S2 M2]
    refine XS.ifYes X1.here hx rfl (pc0 := 5) (pc' := 12) rfl (hb hby d18_5) rfl ((if0 _ _).trans (feq (show ¬ ((2 : Int32) = (0 : Int32)) from (by decide))).2) (by decide) (by decide) ?_
    refine XS.iconst X1.here hx rfl (hb hby d18_12) ?_
    exact retN X1 hx (t := .boolean) Bd.returns (by simp) (hb hby d18_13) hr
  · show Qsem2 Z so b kb vs h0 n0 _ T1.heap _
    rw [e1]
    exact ⟨rfl, N0, rfl⟩
def Qsem30 (Z : State) (so : Addr) (b : Addr) (kb : ClassId) (vs : List Value) (h0 : Heap) (n0 : Nat) (v : Option Value) (h : Heap) (L : List Loc) : Prop := v = some (.int (0 : Int32)) ∧ Fr n0 L ∧ h = h0
abbrev Rm_sem30 : Room := { frames := 0, cells := 0, slots := 0, locals := 0 }
set_option maxRecDepth 65536 in
set_option maxHeartbeats 40000000 in
theorem sem30 (l : Launch) (Z : State) (a0 : Array Value) (hw : ∀ d ∈ tables_1, d.before a0 Z = true) (ws : List Jvm.Cond) (so : Addr) (b : Addr) (kb : ClassId) (vs : List Value) (h0 : Heap) (n0 : Nat) (Z0 : n0 ≤ h0.size) (F_value_so : Fld Z h0 so "java/lang/String" "value" "[B" (.ref b)) (V_b : Arv Z h0 b kb .byte (30 : Int32) vs (.int 0)) :
    MetFree l my7 (head1 (Jvm.Cond.code my7 jdk_42_method_55_code 1 (some .boolean) :: ws) Rm_sem30) (fun aa_ U => aa_ = #[(.ref so)] ∧ Z.Warmed39 U.vm ∧ U.heap = h0) (fun _ _ _ _ _ => True) (fun _ U oo_ U' => ∃ v L, oo_ = .returned v ∧ Qsem30 Z so b kb vs h0 n0 v U'.heap L ∧ FrameEnd U oo_ U' L Rm_sem30.cells Rm_sem30.slots) := by
  refine MetFree.of_bodySF (plainFor_of_name pn_1) hisR ?_
  intro p e s m args below meth c s₁ Bd hml0 hP hK
  obtain ⟨rfl, hZ, hh⟩ := hP
  have hx := Bd.exec
  have hby := Bd.bytes
  have hml : c.maxLocals = 1 := hml0
  have hown : s.vm.findClass "java/lang/String" = some m.cls := findClass_of_methodNamed Bd.named
  have hnm := (name_of_methodNamed Bd.named Bd.method).1
  have X0 : Stand p l e Rm_sem30 s m #[(.ref so)] below meth c s₁ [] 0 0 := Stand.of_body Bd
  have e0 : s₁.heap = h0 := by rw [← hh, Bd.state]; rfl
  have N0 := Fr.nil n0
  have pre0 : ∀ tt_, Steps p.tables e below (s₁.setTop (mkF m 0 #[.val (.ref so)] [])) tt_ → Steps p.tables e below (s₁.setTop (entryFrame m #[(.ref so)] 1)) tt_ := fun tt_ kk_ => castTop (ef_18 m so) kk_
  obtain ⟨T1, X1, e1, st1⟩ := getF X0 hx hZ hown (host := "") (Or.inl (hwd25 hw)) Via.refl e0 F_value_so (g := (mkF m 1 #[.val (.ref so)] [(.ref so)])) rfl rfl (hb hby d18_1)
  obtain ⟨cl2, Ar2, -, S2, M2, -, -⟩ := id V_b
  obtain ⟨fs, hr, hrun, hended, hW, hsame⟩ := X1.leave (v := some (.int (0 : Int32))) (fun h => by rw [Bd.returns] at h; cases h)
  refine ⟨_, _, pre0 _ ?_, hrun, hended, _, _, rfl, ?_, ⟨_, rfl⟩, hW, hsame.mono (by decide) (by decide)⟩
  · show Steps p.tables e below (s₁.setTop (mkF m 0 #[.val (.ref so)] [])) _
    refine XS.aloadN X0.here hx rfl (hb hby d18_0) rfl rfl ?_
    refine st1 _ ?_
    refine X1.arraylength hx (by rw [e1]; exact Ar2.1) (State.isArrayOf_alike hZ.alike Ar2.2.1) (g := (mkF m 4 #[.val (.ref so)] [(.ref b)])) rfl rfl (hb hby d18_4) _ ?_
    rw [len_of S2 M2]
    refine XS.ifYes X1.here hx rfl (pc0 := 5) (pc' := 12) rfl (hb hby d18_5) rfl ((if0 _ _).trans (feq (show ¬ ((30 : Int32) = (0 : Int32)) from (by decide))).2) (by decide) (by decide) ?_
    refine XS.iconst X1.here hx rfl (hb hby d18_12) ?_
    exact retN X1 hx (t := .boolean) Bd.returns (by simp) (hb hby d18_13) hr
  · show Qsem30 Z so b kb vs h0 n0 _ T1.heap _
    rw [e1]
    exact ⟨rfl, N0, rfl⟩
theorem d23_0 : decode jdk_42_method_151_code 0 = .ok (.aload_n 0, 1) := by decide +kernel
theorem d23_1 : decode jdk_42_method_151_code 1 = .ok (.invokespecial 1, 3) := by decide +kernel
theorem d23_4 : decode jdk_42_method_151_code 4 = .ok (.aload_n 0, 1) := by decide +kernel
theorem d23_5 : decode jdk_42_method_151_code 5 = .ok (.aload_n 1, 1) := by decide +kernel
theorem d23_6 : decode jdk_42_method_151_code 6 = .ok (.putfield 9, 3) := by decide +kernel
theorem d23_9 : decode jdk_42_method_151_code 9 = .ok (.aload_n 0, 1) := by decide +kernel
theorem d23_10 : decode jdk_42_method_151_code 10 = .ok (.iload_n 2, 1) := by decide +kernel
theorem d23_11 : decode jdk_42_method_151_code 11 = .ok (.putfield 15, 3) := by decide +kernel
theorem d23_14 : decode jdk_42_method_151_code 14 = .ok (.return_, 1) := by decide +kernel
theorem ef_23 (m : MethodId) (x0 : Addr) (x1 : Addr) (x2 : Int32) : entryFrame m #[(.ref x0), (.ref x1), (.int x2)] 3 = mkF m 0 #[.val (.ref x0), .val (.ref x1), .val (.int x2)] [] := by first | (simp [entryFrame, mkF, argsToLocals, Value.category]; done) | rfl
def Qsbb (Z : State) (a : Addr) (t : Addr) (h0 : Heap) (n0 : Nat) (v : Option Value) (h : Heap) (L : List Loc) : Prop := v = none ∧ Fr n0 L ∧ Keep h0 h [a] ∧ Exa Z h a "java/lang/String" ∧ Fld Z h a "java/lang/String" "value" "[B" (.ref t) ∧ Fld Z h a "java/lang/String" "coder" "B" (.int (0 : Int32))
abbrev my8 : MethodName := ⟨"java/lang/String", "<init>", "([BB)V"⟩
abbrev Rm_sbb : Room := { frames := 1, cells := 0, slots := 0, locals := 12 }
set_option maxRecDepth 65536 in
set_option maxHeartbeats 40000000 in
theorem sbb (l : Launch) (Z : State) (a0 : Array Value) (hw : ∀ d ∈ tables_1, d.before a0 Z = true) (ws : List Jvm.Cond) (a : Addr) (t : Addr) (h0 : Heap) (n0 : Nat) (Z0 : n0 ≤ h0.size) (E_a : Exa Z h0 a "java/lang/String") (F_value_a : Fld Z h0 a "java/lang/String" "value" "[B" .null) (F_coder_a : Fld Z h0 a "java/lang/String" "coder" "B" (.int (0 : Int32))) (g_a : n0 ≤ a) :
    MetFree l my8 (head1 (Jvm.Cond.code my8 jdk_42_method_151_code 3 none :: ws) Rm_sbb) (fun aa_ U => aa_ = #[(.ref a), (.ref t), (.int (0 : Int32))] ∧ Z.Warmed39 U.vm ∧ U.heap = h0) (fun _ _ _ _ _ => True) (fun _ U oo_ U' => ∃ v L, oo_ = .returned v ∧ Qsbb Z a t h0 n0 v U'.heap L ∧ FrameEnd U oo_ U' L Rm_sbb.cells Rm_sbb.slots) := by
  refine MetFree.of_bodySF (plainFor_of_name pn_1) hisR ?_
  intro p e s m args below meth c s₁ Bd hml0 hP hK
  obtain ⟨rfl, hZ, hh⟩ := hP
  have hx := Bd.exec
  have hby := Bd.bytes
  have hml : c.maxLocals = 3 := hml0
  have hown : s.vm.findClass "java/lang/String" = some m.cls := findClass_of_methodNamed Bd.named
  have hnm := (name_of_methodNamed Bd.named Bd.method).1
  have X0 : Stand p l e Rm_sbb s m #[(.ref a), (.ref t), (.int (0 : Int32))] below meth c s₁ [] 0 0 := Stand.of_body Bd
  have e0 : s₁.heap = h0 := by rw [← hh, Bd.state]; rfl
  have N0 := Fr.nil n0
  have pre0 : ∀ tt_, Steps p.tables e below (s₁.setTop (mkF m 0 #[.val (.ref a), .val (.ref t), .val (.int (0 : Int32))] [])) tt_ → Steps p.tables e below (s₁.setTop (entryFrame m #[(.ref a), (.ref t), (.int (0 : Int32))] 3)) tt_ := fun tt_ kk_ => castTop (ef_23 m a t (0 : Int32)) kk_
  obtain ⟨T1, X1, e1, st1⟩ := initO X0 hx hZ hown (hwd16 hw) (hwd17 hw) (hwd18 hw) e0 (g := (mkF m 1 #[.val (.ref a), .val (.ref t), .val (.int (0 : Int32))] [(.ref a)])) rfl (by rw [hml]; rfl) rfl (hb hby d23_1) (by decide) (W := 0) (by show 2 * 0 + _ ≤ _; exact Nat.le_of_eq rfl) (by decide)
  obtain ⟨T2, h2, X2, e2, W2, st2⟩ := putF X1 hx hZ hown (host := "") (Or.inl (hwd25 hw)) Via.refl e1 F_value_a E_a (Or.inr ⟨(hwd21 hw), rfl, hnm⟩) (hwd7 hw) (ty := (.array .byte)) (by decide) rfl rfl (g := (mkF m 6 #[.val (.ref a), .val (.ref t), .val (.int (0 : Int32))] [(.ref t), (.ref a)])) rfl rfl (hb hby d23_6)
  have N2 := Fr.snoc X2 N0 g_a
  have Fw2 := F_value_a.same W2
  have f3_E_a := (E_a.wr W2)
  have f4_F_a_coder := (F_coder_a.other W2 (Or.inr (slot_ne (Or.inr (hwd22 hw)) (Or.inr (hwd21 hw)) (by decide) (t := .byte) (t' := (.array .byte)) (by decide) (by decide))))
  obtain ⟨T5, h5, X5, e5, W5, st5⟩ := putFN X2 hx hZ hown (hwd26 hw) Via.refl e2 f4_F_a_coder f3_E_a (Or.inr ⟨(hwd22 hw), rfl, hnm⟩) (hwd7 hw) (ty := .byte) (v' := (.int (0 : Int32))) (by decide) rfl (by first | exact fits_nar_byte _ | rfl) (g := (mkF m 11 #[.val (.ref a), .val (.ref t), .val (.int (0 : Int32))] [(.int (0 : Int32)), (.ref a)])) rfl rfl (hb hby d23_11)
  have N5 := Fr.snoc X5 N2 g_a
  have Fw5 := f4_F_a_coder.same W5
  have kp6 : Keep h0 h5 [a] := (((Keep.refl h0 [a]).wr W2 (Or.inl (List.mem_of_getElem? (i := 0) rfl))).wr W5 (Or.inl (List.mem_of_getElem? (i := 0) rfl)))
  have f7_E_a := (f3_E_a.wr W5)
  have f8_F_a_value := (Fw2.other W5 (Or.inr (slot_ne (Or.inr (hwd21 hw)) (Or.inr (hwd22 hw)) (by decide) (t := (.array .byte)) (t' := .byte) (by decide) (by decide))))
  obtain ⟨fs, hr, hrun, hended, hW, hsame⟩ := X5.leave (v := none) (fun _ => rfl)
  refine ⟨_, _, pre0 _ ?_, hrun, hended, _, _, rfl, ?_, ⟨_, rfl⟩, hW, hsame.mono (by decide) (by decide)⟩
  · show Steps p.tables e below (s₁.setTop (mkF m 0 #[.val (.ref a), .val (.ref t), .val (.int (0 : Int32))] [])) _
    refine XS.aloadN X0.here hx rfl (hb hby d23_0) rfl rfl ?_
    refine st1 _ ?_
    refine XS.aloadN X1.here hx rfl (hb hby d23_4) rfl rfl ?_
    refine XS.aloadN X1.here hx rfl (hb hby d23_5) rfl rfl ?_
    refine st2 _ ?_
    refine XS.aloadN X2.here hx rfl (hb hby d23_9) rfl rfl ?_
    show Steps p.tables e below (T2.setTop (mkF m 10 #[.val (.ref a), .val (.ref t), .val (.int (0 : Int32))] [(.ref a)])) _
    refine XS.iloadN X2.here hx rfl (hb hby d23_10) rfl ?_
    refine st5 _ ?_
    exact X5.returnOut hx Bd.returns (hb hby d23_14) hr
  · show Qsbb Z a t h0 n0 _ T5.heap _
    rw [e5]
    exact ⟨rfl, N5, kp6, f7_E_a, f8_F_a_value, Fw5⟩
theorem d15_0 : decode jdk_41_method_12_code 0 = .ok (.iload_n 0, 1) := by decide +kernel
theorem d15_1 : decode jdk_41_method_12_code 1 = .ok (.ifCond .lt 13, 3) := by decide +kernel
theorem d15_4 : decode jdk_41_method_12_code 4 = .ok (.iload_n 0, 1) := by decide +kernel
theorem d15_5 : decode jdk_41_method_12_code 5 = .ok (.iload_n 1, 1) := by decide +kernel
theorem d15_6 : decode jdk_41_method_12_code 6 = .ok (.if_icmp .gt 8, 3) := by decide +kernel
theorem d15_9 : decode jdk_41_method_12_code 9 = .ok (.iload_n 1, 1) := by decide +kernel
theorem d15_10 : decode jdk_41_method_12_code 10 = .ok (.iload_n 2, 1) := by decide +kernel
theorem d15_11 : decode jdk_41_method_12_code 11 = .ok (.if_icmp .le 11, 3) := by decide +kernel
theorem d15_22 : decode jdk_41_method_12_code 22 = .ok (.iload_n 0, 1) := by decide +kernel
theorem d15_23 : decode jdk_41_method_12_code 23 = .ok (.ireturn, 1) := by decide +kernel
theorem pn_3 : plainName "jdk/internal/util/Preconditions" = true := by first | (simp [plainName, overriddenIn]; done) | decide +kernel
theorem ef_15 (m : MethodId) (x0 : Int32) (x1 : Int32) (x2 : Int32) (x3 : Value) (hx3 : x3.isRef = true) : entryFrame m #[(.int x0), (.int x1), (.int x2), x3] 4 = mkF m 0 #[.val (.int x0), .val (.int x1), .val (.int x2), .val x3] [] := by cases x3 <;> first | rfl | (simp [Value.isRef] at hx3)
def Qcft30 (Z : State) (sf : Value) (h0 : Heap) (n0 : Nat) (v : Option Value) (h : Heap) (L : List Loc) : Prop := v = some (.int (30 : Int32)) ∧ Fr n0 L ∧ h = h0
abbrev my9 : MethodName := ⟨"jdk/internal/util/Preconditions", "checkFromToIndex", "(IIILjava/util/function/BiFunction;)I"⟩
abbrev Rm_cft30 : Room := { frames := 0, cells := 0, slots := 0, locals := 0 }
set_option maxRecDepth 65536 in
set_option maxHeartbeats 40000000 in
theorem cft30 (l : Launch) (Z : State) (a0 : Array Value) (hw : ∀ d ∈ tables_1, d.before a0 Z = true) (ws : List Jvm.Cond) (sf : Value) (h0 : Heap) (n0 : Nat) (Z0 : n0 ≤ h0.size) (hsf : sf.isRef = true) :
    MetFree l my9 (head1 (Jvm.Cond.code my9 jdk_41_method_12_code 4 (some .int) :: ws) Rm_cft30) (fun aa_ U => aa_ = #[(.int (30 : Int32)), (.int (30 : Int32)), (.int (30 : Int32)), sf] ∧ Z.Warmed39 U.vm ∧ U.heap = h0) (fun _ _ _ _ _ => True) (fun _ U oo_ U' => ∃ v L, oo_ = .returned v ∧ Qcft30 Z sf h0 n0 v U'.heap L ∧ FrameEnd U oo_ U' L Rm_cft30.cells Rm_cft30.slots) := by
  refine MetFree.of_bodySF (plainFor_of_name pn_3) hisR ?_
  intro p e s m args below meth c s₁ Bd hml0 hP hK
  obtain ⟨rfl, hZ, hh⟩ := hP
  have hx := Bd.exec
  have hby := Bd.bytes
  have hml : c.maxLocals = 4 := hml0
  have hown : s.vm.findClass "jdk/internal/util/Preconditions" = some m.cls := findClass_of_methodNamed Bd.named
  have hnm := (name_of_methodNamed Bd.named Bd.method).1
  have X0 : Stand p l e Rm_cft30 s m #[(.int (30 : Int32)), (.int (30 : Int32)), (.int (30 : Int32)), sf] below meth c s₁ [] 0 0 := Stand.of_body Bd
  have e0 : s₁.heap = h0 := by rw [← hh, Bd.state]; rfl
  have N0 := Fr.nil n0
  have pre0 : ∀ tt_, Steps p.tables e below (s₁.setTop (mkF m 0 #[.val (.int (30 : Int32)), .val (.int (30 : Int32)), .val (.int (30 : Int32)), .val sf] [])) tt_ → Steps p.tables e below (s₁.setTop (entryFrame m #[(.int (30 : Int32)), (.int (30 : Int32)), (.int (30 : Int32)), sf] 4)) tt_ := fun tt_ kk_ => castTop (ef_15 m (30 : Int32) (30 : Int32) (30 : Int32) sf hsf) kk_
  obtain ⟨fs, hr, hrun, hended, hW, hsame⟩ := X0.leave (v := some (.int (30 : Int32))) (fun h => by rw [Bd.returns] at h; cases h)
  refine ⟨_, _, pre0 _ ?_, hrun, hended, _, _, rfl, ?_, ⟨_, rfl⟩, hW, hsame.mono (by decide) (by decide)⟩
  · show Steps p.tables e below (s₁.setTop (mkF m 0 #[.val (.int (30 : Int32)), .val (.int (30 : Int32)), .val (.int (30 : Int32)), .val sf] [])) _
    refine XS.iloadN X0.here hx rfl (hb hby d15_0) rfl ?_
    refine XS.ifNo X0.here hx rfl (hb hby d15_1) rfl ((if0 _ _).trans (flt (show ¬ ((30 : Int32) < (0 : Int32)) from (by decide))).1) ?_
    refine XS.iloadN X0.here hx rfl (hb hby d15_4) rfl ?_
    refine XS.iloadN X0.here hx rfl (hb hby d15_5) rfl ?_
    refine XS.icmpNo X0.here hx rfl (hb hby d15_6) rfl (flt (show ¬ ((30 : Int32) < (30 : Int32)) from (by decide))).2.2.1 ?_
    refine XS.iloadN X0.here hx rfl (hb hby d15_9) rfl ?_
    show Steps p.tables e below (s₁.setTop (mkF m 10 #[.val (.int (30 : Int32)), .val (.int (30 : Int32)), .val (.int (30 : Int32)), .val sf] [(.int (30 : Int32))])) _
    refine XS.iloadN X0.here hx rfl (hb hby d15_10) rfl ?_
    refine XS.icmpYes X0.here hx rfl (pc0 := 11) (pc' := 22) rfl (hb hby d15_11) rfl (flt (show ¬ ((30 : Int32) < (30 : Int32)) from (by decide))).2.2.2 (by decide) (by decide) ?_
    refine XS.iloadN X0.here hx rfl (hb hby d15_22) rfl ?_
    exact retI X0 hx Bd.returns (hb hby d15_23) hr
  · show Qcft30 Z sf h0 n0 _ s₁.heap _
    rw [e0]
    exact ⟨rfl, N0, rfl⟩
theorem hwd70 {Z : State} {a0 : Array Value} (hw : ∀ d ∈ tables_1, d.before a0 Z = true) : (Jvm.Cond.fieldLink "java/lang/String" (1053 : Nat) "jdk/internal/util/Preconditions" "SIOOBE_FORMATTER" "Ljava/util/function/BiFunction;").before a0 Z = true := hw _ (List.mem_of_getElem? (i := 70) rfl)
theorem hwd72 {Z : State} {a0 : Array Value} (hw : ∀ d ∈ tables_1, d.before a0 Z = true) : (Jvm.Cond.methodLink "java/lang/String" (1062 : Nat) ({ cls := "jdk/internal/util/Preconditions", name := "checkFromToIndex", desc := "(IIILjava/util/function/BiFunction;)I" } : Jvm.MethodName)).before a0 Z = true := hw _ (List.mem_of_getElem? (i := 72) rfl)
theorem hwd74 {Z : State} {a0 : Array Value} (hw : ∀ d ∈ tables_1, d.before a0 Z = true) : (Jvm.Cond.code ({ cls := "jdk/internal/util/Preconditions", name := "checkFromToIndex", desc := "(IIILjava/util/function/BiFunction;)I" } : Jvm.MethodName) jdk_41_method_12_code (4 : Nat) (Option.some Jvm.ClassFile.FieldType.int)).before a0 Z = true := hw _ (List.mem_of_getElem? (i := 74) rfl)
theorem hwd71 {Z : State} {a0 : Array Value} (hw : ∀ d ∈ tables_1, d.before a0 Z = true) : (Jvm.Cond.initialized "jdk/internal/util/Preconditions").before a0 Z = true := hw _ (List.mem_of_getElem? (i := 71) rfl)
theorem pd_3 : parseMethodDescriptor "(IIILjava/util/function/BiFunction;)I" = some ⟨[.int, .int, .int, (.object "java/util/function/BiFunction")], some .int⟩ := by decide +kernel
theorem hwd73 {Z : State} {a0 : Array Value} (hw : ∀ d ∈ tables_1, d.before a0 Z = true) : (Jvm.Cond.static ({ cls := "jdk/internal/util/Preconditions", name := "checkFromToIndex", desc := "(IIILjava/util/function/BiFunction;)I" } : Jvm.MethodName)).before a0 Z = true := hw _ (List.mem_of_getElem? (i := 73) rfl)
theorem d14_0 : decode jdk_42_method_158_code 0 = .ok (.iload_n 0, 1) := by decide +kernel
theorem d14_1 : decode jdk_42_method_158_code 1 = .ok (.iload_n 1, 1) := by decide +kernel
theorem d14_2 : decode jdk_42_method_158_code 2 = .ok (.iload_n 2, 1) := by decide +kernel
theorem d14_3 : decode jdk_42_method_158_code 3 = .ok (.getstatic 1053, 3) := by decide +kernel
theorem d14_6 : decode jdk_42_method_158_code 6 = .ok (.invokestatic 1062, 3) := by decide +kernel
theorem d14_9 : decode jdk_42_method_158_code 9 = .ok (.pop, 1) := by decide +kernel
theorem d14_10 : decode jdk_42_method_158_code 10 = .ok (.return_, 1) := by decide +kernel
theorem ef_14 (m : MethodId) (x0 : Int32) (x1 : Int32) (x2 : Int32) : entryFrame m #[(.int x0), (.int x1), (.int x2)] 3 = mkF m 0 #[.val (.int x0), .val (.int x1), .val (.int x2)] [] := by first | (simp [entryFrame, mkF, argsToLocals, Value.category]; done) | rfl
def Qcbe30 (Z : State) (sf : Value) (h0 : Heap) (n0 : Nat) (v : Option Value) (h : Heap) (L : List Loc) : Prop := v = none ∧ Fr n0 L ∧ h = h0
abbrev my10 : MethodName := ⟨"java/lang/String", "checkBoundsBeginEnd", "(III)V"⟩
abbrev Rm_cbe30 : Room := { frames := 1, cells := 0, slots := 0, locals := 15 }
set_option maxRecDepth 65536 in
set_option maxHeartbeats 40000000 in
theorem cbe30 (l : Launch) (Z : State) (a0 : Array Value) (hw : ∀ d ∈ tables_1, d.before a0 Z = true) (ws : List Jvm.Cond) (sf : Value) (h0 : Heap) (n0 : Nat) (Z0 : n0 ≤ h0.size) (O_S : Sta Z Z.heap "jdk/internal/util/Preconditions" "SIOOBE_FORMATTER" "Ljava/util/function/BiFunction;" sf) (hsf : sf.isRef = true) (X00 : Old Z n0 h0) :
    MetFree l my10 (head1 (Jvm.Cond.code my10 jdk_42_method_158_code 3 none :: ws) Rm_cbe30) (fun aa_ U => aa_ = #[(.int (30 : Int32)), (.int (30 : Int32)), (.int (30 : Int32))] ∧ Z.Warmed39 U.vm ∧ U.heap = h0) (fun _ _ _ _ _ => True) (fun _ U oo_ U' => ∃ v L, oo_ = .returned v ∧ Qcbe30 Z sf h0 n0 v U'.heap L ∧ FrameEnd U oo_ U' L Rm_cbe30.cells Rm_cbe30.slots) := by
  refine MetFree.of_bodySF (plainFor_of_name pn_1) hisR ?_
  intro p e s m args below meth c s₁ Bd hml0 hP hK
  obtain ⟨rfl, hZ, hh⟩ := hP
  have hx := Bd.exec
  have hby := Bd.bytes
  have hml : c.maxLocals = 3 := hml0
  have hown : s.vm.findClass "java/lang/String" = some m.cls := findClass_of_methodNamed Bd.named
  have hnm := (name_of_methodNamed Bd.named Bd.method).1
  have X0 : Stand p l e Rm_cbe30 s m #[(.int (30 : Int32)), (.int (30 : Int32)), (.int (30 : Int32))] below meth c s₁ [] 0 0 := Stand.of_body Bd
  have e0 : s₁.heap = h0 := by rw [← hh, Bd.state]; rfl
  have N0 := Fr.nil n0
  have pre0 : ∀ tt_, Steps p.tables e below (s₁.setTop (mkF m 0 #[.val (.int (30 : Int32)), .val (.int (30 : Int32)), .val (.int (30 : Int32))] [])) tt_ → Steps p.tables e below (s₁.setTop (entryFrame m #[(.int (30 : Int32)), (.int (30 : Int32)), (.int (30 : Int32))] 3)) tt_ := fun tt_ kk_ => castTop (ef_14 m (30 : Int32) (30 : Int32) (30 : Int32)) kk_
  obtain ⟨T1, X1, e1, st1⟩ := getS2 X0 hx hZ hown (host := "") (Or.inl (hwd70 hw)) Via.refl e0 (O_S.ext X00.2) (g := (mkF m 3 #[.val (.int (30 : Int32)), .val (.int (30 : Int32)), .val (.int (30 : Int32))] [(.int (30 : Int32)), (.int (30 : Int32)), (.int (30 : Int32))])) rfl (hb hby d14_3)
  obtain ⟨_, _, ⟨T2, L2, k2, n2⟩, -, X2, ⟨Lc2, hQ2, l2, y2, z2⟩, st2⟩ := Jvm.LawKit.callS X1 hx (y := my9) hown (mvT hZ (hwd72 hw)) (mvT hZ (hwd73 hw)) (mvT hZ (hwd71 hw)) (mvT hZ (hwd74 hw)) (by decide) (backOf (W := 0) (cft30 l Z a0 hw [] sf h0 n0 Z0 hsf) hZ (hwd74 hw) (hwd71 hw) (by decide) (by decide)) (g := (mkF m 6 #[.val (.int (30 : Int32)), .val (.int (30 : Int32)), .val (.int (30 : Int32))] [sf, (.int (30 : Int32)), (.int (30 : Int32)), (.int (30 : Int32))])) rfl (by rw [hml]; rfl) (argsL := [(.int (30 : Int32)), (.int (30 : Int32)), (.int (30 : Int32)), sf]) (rest := []) (lenOf pd_3 rfl) rfl (by show 2 * 0 + _ ≤ _; exact Nat.le_of_eq rfl) (hb hby d14_6) (fun _ _ => ⟨rfl, e1, (by decide : 0 + 0 ≤ _), (by decide : 0 + 0 ≤ _)⟩)
  dsimp only [Pt.U, Pt.locs, Pt.cells, Pt.slots] at X2 l2 y2 z2 st2 hQ2
  subst l2 y2 z2
  obtain ⟨rfl, N2q, e2q⟩ := hQ2
  have N2 := Fr.app N0 N2q
  obtain ⟨fs, hr, hrun, hended, hW, hsame⟩ := X2.leave (v := none) (fun _ => rfl)
  refine ⟨_, _, pre0 _ ?_, hrun, hended, _, _, rfl, ?_, ⟨_, rfl⟩, hW, hsame.mono (by decide) (by decide)⟩
  · show Steps p.tables e below (s₁.setTop (mkF m 0 #[.val (.int (30 : Int32)), .val (.int (30 : Int32)), .val (.int (30 : Int32))] [])) _
    refine XS.iloadN X0.here hx rfl (hb hby d14_0) rfl ?_
    refine XS.iloadN X0.here hx rfl (hb hby d14_1) rfl ?_
    refine XS.iloadN X0.here hx rfl (hb hby d14_2) rfl ?_
    refine st1 _ ?_
    refine st2 _ ?_
    refine XS.pop X2.here hx rfl (hb hby d14_9) rfl rfl ?_
    show Steps p.tables e below (T2.setTop (mkF m 10 #[.val (.int (30 : Int32)), .val (.int (30 : Int32)), .val (.int (30 : Int32))] [])) _
    exact X2.returnOut hx Bd.returns (hb hby d14_10) hr
  · show Qcbe30 Z sf h0 n0 _ T2.heap _
    rw [e2q]
    exact ⟨rfl, N2, rfl⟩
theorem d17_0 : decode jdk_43_method_47_code 0 = .ok (.iload_n 2, 1) := by decide +kernel
theorem d17_1 : decode jdk_43_method_47_code 1 = .ok (.ifCond .ne 6, 3) := by decide +kernel
theorem d17_4 : decode jdk_43_method_47_code 4 = .ok (.ldc 151, 2) := by decide +kernel
theorem d17_6 : decode jdk_43_method_47_code 6 = .ok (.areturn, 1) := by decide +kernel
theorem pn_4 : plainName "java/lang/StringLatin1" = true := by first | (simp [plainName, overriddenIn]; done) | decide +kernel
theorem ef_17 (m : MethodId) (x0 : Addr) (x1 : Int32) (x2 : Int32) : entryFrame m #[(.ref x0), (.int x1), (.int x2)] 3 = mkF m 0 #[.val (.ref x0), .val (.int x1), .val (.int x2)] [] := by first | (simp [entryFrame, mkF, argsToLocals, Value.category]; done) | rfl
def Qnst30 (Z : State) (b : Addr) (h0 : Heap) (n0 : Nat) (v : Option Value) (h : Heap) (L : List Loc) : Prop := ∃ s2 : Addr, ∃ b2 : Addr, ∃ kb2 : ClassId, ∃ v2 : List Value, v = some (.ref s2) ∧ Fr n0 L ∧ Keep h0 h [] ∧ Exa Z h s2 "java/lang/String" ∧ Fld Z h s2 "java/lang/String" "value" "[B" (.ref b2) ∧ Fld Z h s2 "java/lang/String" "coder" "B" (.int (0 : Int32)) ∧ Arv Z h b2 kb2 .byte (0 : Int32) v2 (.int 0)
abbrev my11 : MethodName := ⟨"java/lang/StringLatin1", "newString", "([BII)Ljava/lang/String;"⟩
abbrev Rm_nst30 : Room := { frames := 0, cells := 2, slots := 4, locals := 0 }
set_option maxRecDepth 65536 in
set_option maxHeartbeats 40000000 in
theorem nst30 (l : Launch) (Z : State) (a0 : Array Value) (hw : ∀ d ∈ tables_1, d.before a0 Z = true) (ws : List Jvm.Cond) (b : Addr) (h0 : Heap) (n0 : Nat) (Z0 : n0 ≤ h0.size) :
    MetFree l my11 (head1 (Jvm.Cond.code my11 jdk_43_method_47_code 3 (some (.object "java/lang/String")) :: ws) Rm_nst30) (fun aa_ U => aa_ = #[(.ref b), (.int (30 : Int32)), (.int (0 : Int32))] ∧ Z.Warmed39 U.vm ∧ U.heap = h0 ∧ CHv Z consts_1 U.vm h0) (fun _ _ _ _ _ => True) (fun _ U oo_ U' => ∃ v L, oo_ = .returned v ∧ Qnst30 Z b h0 n0 v U'.heap L ∧ CHr Z consts_1 U.vm U.heap U'.vm U'.heap ∧ ReturnedEndW U oo_ U' L Rm_nst30.cells Rm_nst30.slots) := by
  refine MetFree.of_bodySF (plainFor_of_name pn_4) hisR ?_
  intro p e s m args below meth c s₁ Bd hml0 hP hK
  obtain ⟨rfl, hZ, hh, hC0⟩ := hP
  have hx := Bd.exec
  have hby := Bd.bytes
  have hml : c.maxLocals = 3 := hml0
  have hown : s.vm.findClass "java/lang/StringLatin1" = some m.cls := findClass_of_methodNamed Bd.named
  have hZ : Z.Warmed39 (s.setVm s.vm).vm := hZ
  have hown : (s.setVm s.vm).vm.findClass "java/lang/StringLatin1" = some m.cls := hown
  have hS0 : s.Since s.vm s.heap.size := (State.WarmedH.refl s).since _
  have hk0 : s.heap.size ≤ h0.size := Nat.le_of_eq (by rw [hh])
  have CR0 : CHr Z consts_1 s.vm h0 s.vm h0 := CHr.refl hC0
  have hnm := (name_of_methodNamed Bd.named Bd.method).1
  have X0 : Stand p l e Rm_nst30 (s.setVm s.vm) m #[(.ref b), (.int (30 : Int32)), (.int (0 : Int32))] below meth c s₁ [] 0 0 := Stand.of_body Bd
  have e0 : s₁.heap = h0 := by rw [← hh, Bd.state]; rfl
  have N0 := Fr.nil n0
  have pre0 : ∀ tt_, Steps p.tables e below (s₁.setTop (mkF m 0 #[.val (.ref b), .val (.int (30 : Int32)), .val (.int (0 : Int32))] [])) tt_ → Steps p.tables e below (s₁.setTop (entryFrame m #[(.ref b), (.int (30 : Int32)), (.int (0 : Int32))] 3)) tt_ := fun tt_ kk_ => castTop (ef_17 m b (30 : Int32) (0 : Int32)) kk_
  obtain ⟨a1, T1, h1, kk1, b1, kb1, X1, e1, E1, hS1, hk1, hZ1, hown1, Es1, Cs1, Vs1, As1, la1, lb1, CR1q, Lt1, sf1, st1⟩ := ldcCH X0 hx hZ hown (hwd84 hw) (own_ws hw) e0 hS0 hk0 (own_EL hw) (List.mem_of_getElem? (i := 1) rfl) CR0.1 (vs := []) (z := (0 : Int32)) ⟨(fun _ q => nomatch q), rfl⟩ (by decide) rfl (g := (mkF m 4 #[.val (.ref b), .val (.int (30 : Int32)), .val (.int (0 : Int32))] [])) rfl (hb hby d17_4) (n := 0) (by decide) (by decide) (by decide) (by decide)
  have CR1 := CR0.trans CR1q
  have kp2 : Keep h0 h1 [] := ((Keep.refl h0 []).ext E1)
  have hkE := Nat.le_trans hk1 (Nat.le_of_eq (congrArg Array.size (show h1 = T1.heap from Eq.symm e1)))
  obtain ⟨fs, hr, hrun, hended, hRE⟩ := X1.leaveW hS1 hkE (v := some (.ref a1)) (fun h => by rw [Bd.returns] at h; cases h)
  refine ⟨_, _, pre0 _ ?_, hrun, hended, _, _, rfl, ?_, ?_, hRE.1, hRE.2.1, hRE.2.2.1, hRE.2.2.2.mono (by decide) (by decide)⟩
  · show Steps p.tables e below (s₁.setTop (mkF m 0 #[.val (.ref b), .val (.int (30 : Int32)), .val (.int (0 : Int32))] [])) _
    refine XS.iloadN X0.here hx rfl (hb hby d17_0) rfl ?_
    refine XS.ifNo X0.here hx rfl (hb hby d17_1) rfl ((if0 _ _).trans (teq (show (0 : Int32) = (0 : Int32) from rfl)).2) ?_
    refine st1 _ ?_
    jvm_step X1.here [X1.here.top, hx, (hb hby d17_6), X1.method', Bd.returns, Value.isRef, FieldType.isReference]
    first | (intro acts; rw [hr _ acts rfl rfl rfl]) | rw [hr _ _ rfl rfl rfl]
    exact Steps.refl _
  · show Qnst30 Z b h0 n0 _ T1.heap _
    rw [e1]
    exact ⟨a1, b1, kb1, [], rfl, N0, kp2, Es1, Vs1, Cs1, As1⟩
  · show CHr Z consts_1 s.vm s.heap T1.vm T1.heap
    rw [hh, e1]
    exact CR1.trans (CHv.at X1 hZ1 (own_EL hw) CR1.1)
theorem hwd61 {Z : State} {a0 : Array Value} (hw : ∀ d ∈ tables_1, d.before a0 Z = true) : (Jvm.Cond.methodLink "java/lang/String" (505 : Nat) ({ cls := "java/lang/String", name := "length", desc := "()I" } : Jvm.MethodName)).before a0 Z = true := hw _ (List.mem_of_getElem? (i := 61) rfl)
theorem hwd67 {Z : State} {a0 : Array Value} (hw : ∀ d ∈ tables_1, d.before a0 Z = true) : (Jvm.Cond.methodLink "java/lang/String" (521 : Nat) ({ cls := "java/lang/String", name := "checkBoundsBeginEnd", desc := "(III)V" } : Jvm.MethodName)).before a0 Z = true := hw _ (List.mem_of_getElem? (i := 67) rfl)
theorem hwd69 {Z : State} {a0 : Array Value} (hw : ∀ d ∈ tables_1, d.before a0 Z = true) : (Jvm.Cond.code ({ cls := "java/lang/String", name := "checkBoundsBeginEnd", desc := "(III)V" } : Jvm.MethodName) jdk_42_method_158_code (3 : Nat) (Option.none : Option Jvm.ClassFile.FieldType)).before a0 Z = true := hw _ (List.mem_of_getElem? (i := 69) rfl)
theorem pd_4 : parseMethodDescriptor "(III)V" = some ⟨[.int, .int, .int], none⟩ := by decide +kernel
theorem hwd68 {Z : State} {a0 : Array Value} (hw : ∀ d ∈ tables_1, d.before a0 Z = true) : (Jvm.Cond.static ({ cls := "java/lang/String", name := "checkBoundsBeginEnd", desc := "(III)V" } : Jvm.MethodName)).before a0 Z = true := hw _ (List.mem_of_getElem? (i := 68) rfl)
theorem hwd75 {Z : State} {a0 : Array Value} (hw : ∀ d ∈ tables_1, d.before a0 Z = true) : (Jvm.Cond.methodLink "java/lang/String" (492 : Nat) ({ cls := "java/lang/String", name := "isLatin1", desc := "()Z" } : Jvm.MethodName)).before a0 Z = true := hw _ (List.mem_of_getElem? (i := 75) rfl)
theorem hwd79 {Z : State} {a0 : Array Value} (hw : ∀ d ∈ tables_1, d.before a0 Z = true) : (Jvm.Cond.code ({ cls := "java/lang/String", name := "isLatin1", desc := "()Z" } : Jvm.MethodName) jdk_42_method_154_code (1 : Nat) (Option.some Jvm.ClassFile.FieldType.boolean)).before a0 Z = true := hw _ (List.mem_of_getElem? (i := 79) rfl)
theorem pd_5 : parseMethodDescriptor "()Z" = some ⟨[], some .boolean⟩ := by decide +kernel
theorem hwd78 {Z : State} {a0 : Array Value} (hw : ∀ d ∈ tables_1, d.before a0 Z = true) : (Jvm.Cond.selects "java/lang/String" ({ cls := "java/lang/String", name := "isLatin1", desc := "()Z" } : Jvm.MethodName) ({ cls := "java/lang/String", name := "isLatin1", desc := "()Z" } : Jvm.MethodName)).before a0 Z = true := hw _ (List.mem_of_getElem? (i := 78) rfl)
theorem hwd76 {Z : State} {a0 : Array Value} (hw : ∀ d ∈ tables_1, d.before a0 Z = true) : (Jvm.Cond.declares ({ cls := "java/lang/String", name := "isLatin1", desc := "()Z" } : Jvm.MethodName)).before a0 Z = true := hw _ (List.mem_of_getElem? (i := 76) rfl)
theorem hwd77 {Z : State} {a0 : Array Value} (hw : ∀ d ∈ tables_1, d.before a0 Z = true) : (Jvm.Cond.instanceMethod ({ cls := "java/lang/String", name := "isLatin1", desc := "()Z" } : Jvm.MethodName)).before a0 Z = true := hw _ (List.mem_of_getElem? (i := 77) rfl)
theorem hwd80 {Z : State} {a0 : Array Value} (hw : ∀ d ∈ tables_1, d.before a0 Z = true) : (Jvm.Cond.methodLink "java/lang/String" (685 : Nat) ({ cls := "java/lang/StringLatin1", name := "newString", desc := "([BII)Ljava/lang/String;" } : Jvm.MethodName)).before a0 Z = true := hw _ (List.mem_of_getElem? (i := 80) rfl)
theorem hwd83 {Z : State} {a0 : Array Value} (hw : ∀ d ∈ tables_1, d.before a0 Z = true) : (Jvm.Cond.code ({ cls := "java/lang/StringLatin1", name := "newString", desc := "([BII)Ljava/lang/String;" } : Jvm.MethodName) jdk_43_method_47_code (3 : Nat) (Option.some (Jvm.ClassFile.FieldType.object "java/lang/String"))).before a0 Z = true := hw _ (List.mem_of_getElem? (i := 83) rfl)
theorem hwd82 {Z : State} {a0 : Array Value} (hw : ∀ d ∈ tables_1, d.before a0 Z = true) : (Jvm.Cond.initialized "java/lang/StringLatin1").before a0 Z = true := hw _ (List.mem_of_getElem? (i := 82) rfl)
theorem pd_6 : parseMethodDescriptor "([BII)Ljava/lang/String;" = some ⟨[(.array .byte), .int, .int], some (.object "java/lang/String")⟩ := by decide +kernel
theorem hwd81 {Z : State} {a0 : Array Value} (hw : ∀ d ∈ tables_1, d.before a0 Z = true) : (Jvm.Cond.static ({ cls := "java/lang/StringLatin1", name := "newString", desc := "([BII)Ljava/lang/String;" } : Jvm.MethodName)).before a0 Z = true := hw _ (List.mem_of_getElem? (i := 81) rfl)
theorem d13_0 : decode jdk_42_method_92_code 0 = .ok (.aload_n 0, 1) := by decide +kernel
theorem d13_1 : decode jdk_42_method_92_code 1 = .ok (.invokevirtual 505, 3) := by decide +kernel
theorem d13_4 : decode jdk_42_method_92_code 4 = .ok (.istore_n 3, 1) := by decide +kernel
theorem d13_5 : decode jdk_42_method_92_code 5 = .ok (.iload_n 1, 1) := by decide +kernel
theorem d13_6 : decode jdk_42_method_92_code 6 = .ok (.iload_n 2, 1) := by decide +kernel
theorem d13_7 : decode jdk_42_method_92_code 7 = .ok (.iload_n 3, 1) := by decide +kernel
theorem d13_8 : decode jdk_42_method_92_code 8 = .ok (.invokestatic 521, 3) := by decide +kernel
theorem d13_11 : decode jdk_42_method_92_code 11 = .ok (.iload_n 1, 1) := by decide +kernel
theorem d13_12 : decode jdk_42_method_92_code 12 = .ok (.ifCond .ne 10, 3) := by decide +kernel
theorem d13_22 : decode jdk_42_method_92_code 22 = .ok (.iload_n 2, 1) := by decide +kernel
theorem d13_23 : decode jdk_42_method_92_code 23 = .ok (.iload_n 1, 1) := by decide +kernel
theorem d13_24 : decode jdk_42_method_92_code 24 = .ok (.isub, 1) := by decide +kernel
theorem d13_25 : decode jdk_42_method_92_code 25 = .ok (.istore 4, 2) := by decide +kernel
theorem d13_27 : decode jdk_42_method_92_code 27 = .ok (.aload_n 0, 1) := by decide +kernel
theorem d13_28 : decode jdk_42_method_92_code 28 = .ok (.invokevirtual 492, 3) := by decide +kernel
theorem d13_31 : decode jdk_42_method_92_code 31 = .ok (.ifCond .eq 16, 3) := by decide +kernel
theorem d13_34 : decode jdk_42_method_92_code 34 = .ok (.aload_n 0, 1) := by decide +kernel
theorem d13_35 : decode jdk_42_method_92_code 35 = .ok (.getfield 9, 3) := by decide +kernel
theorem d13_38 : decode jdk_42_method_92_code 38 = .ok (.iload_n 1, 1) := by decide +kernel
theorem d13_39 : decode jdk_42_method_92_code 39 = .ok (.iload 4, 2) := by decide +kernel
theorem d13_41 : decode jdk_42_method_92_code 41 = .ok (.invokestatic 685, 3) := by decide +kernel
theorem d13_44 : decode jdk_42_method_92_code 44 = .ok (.goto 13, 3) := by decide +kernel
theorem d13_57 : decode jdk_42_method_92_code 57 = .ok (.areturn, 1) := by decide +kernel
theorem ef_13 (m : MethodId) (x0 : Addr) (x1 : Int32) (x2 : Int32) : entryFrame m #[(.ref x0), (.int x1), (.int x2)] 5 = mkF m 0 #[.val (.ref x0), .val (.int x1), .val (.int x2), .unset, .unset] [] := by first | (simp [entryFrame, mkF, argsToLocals, Value.category]; done) | rfl
def Qsb2_30 (Z : State) (so : Addr) (b : Addr) (kb : ClassId) (vs : List Value) (cz : Int32) (sf : Value) (h0 : Heap) (n0 : Nat) (v : Option Value) (h : Heap) (L : List Loc) : Prop := ∃ s2 : Addr, ∃ b2 : Addr, ∃ kb2 : ClassId, ∃ v2 : List Value, v = some (.ref s2) ∧ Fr n0 L ∧ Keep h0 h [] ∧ Exa Z h s2 "java/lang/String" ∧ Fld Z h s2 "java/lang/String" "value" "[B" (.ref b2) ∧ Fld Z h s2 "java/lang/String" "coder" "B" (.int (0 : Int32)) ∧ Arv Z h b2 kb2 .byte (0 : Int32) v2 (.int 0)
abbrev my12 : MethodName := ⟨"java/lang/String", "substring", "(II)Ljava/lang/String;"⟩
abbrev Rm_sb2_30 : Room := { frames := 2, cells := 2, slots := 4, locals := 29 }
set_option maxRecDepth 65536 in
set_option maxHeartbeats 40000000 in
theorem sb2_30 (l : Launch) (Z : State) (a0 : Array Value) (hw : ∀ d ∈ tables_1, d.before a0 Z = true) (ws : List Jvm.Cond) (so : Addr) (b : Addr) (kb : ClassId) (vs : List Value) (cz : Int32) (sf : Value) (h0 : Heap) (n0 : Nat) (Z0 : n0 ≤ h0.size) (E_so : Exa Z h0 so "java/lang/String") (F_value_so : Fld Z h0 so "java/lang/String" "value" "[B" (.ref b)) (F_coder_so : Fld Z h0 so "java/lang/String" "coder" "B" (.int (0 : Int32))) (V_b : Arv Z h0 b kb .byte (30 : Int32) vs (.int 0)) (O_C : Sta Z Z.heap "java/lang/String" "COMPACT_STRINGS" "Z" (.int cz)) (hcz : ¬ (cz = (0 : Int32))) (X00 : Old Z n0 h0) (O_S : Sta Z Z.heap "jdk/internal/util/Preconditions" "SIOOBE_FORMATTER" "Ljava/util/function/BiFunction;" sf) (hsf : sf.isRef = true) :
    MetFree l my12 (head1 (Jvm.Cond.code my12 jdk_42_method_92_code 5 (some (.object "java/lang/String")) :: ws) Rm_sb2_30) (fun aa_ U => aa_ = #[(.ref so), (.int (30 : Int32)), (.int (30 : Int32))] ∧ Z.Warmed39 U.vm ∧ U.heap = h0 ∧ CHv Z consts_1 U.vm h0) (fun _ _ _ _ _ => True) (fun _ U oo_ U' => ∃ v L, oo_ = .returned v ∧ Qsb2_30 Z so b kb vs cz sf h0 n0 v U'.heap L ∧ CHr Z consts_1 U.vm U.heap U'.vm U'.heap ∧ ReturnedEndW U oo_ U' L Rm_sb2_30.cells Rm_sb2_30.slots) := by
  refine MetFree.of_bodySF (plainFor_of_name pn_1) hisR ?_
  intro p e s m args below meth c s₁ Bd hml0 hP hK
  obtain ⟨rfl, hZ, hh, hC0⟩ := hP
  have hx := Bd.exec
  have hby := Bd.bytes
  have hml : c.maxLocals = 5 := hml0
  have hown : s.vm.findClass "java/lang/String" = some m.cls := findClass_of_methodNamed Bd.named
  have hZ : Z.Warmed39 (s.setVm s.vm).vm := hZ
  have hown : (s.setVm s.vm).vm.findClass "java/lang/String" = some m.cls := hown
  have hS0 : s.Since s.vm s.heap.size := (State.WarmedH.refl s).since _
  have hk0 : s.heap.size ≤ h0.size := Nat.le_of_eq (by rw [hh])
  have CR0 : CHr Z consts_1 s.vm h0 s.vm h0 := CHr.refl hC0
  have hnm := (name_of_methodNamed Bd.named Bd.method).1
  have X0 : Stand p l e Rm_sb2_30 (s.setVm s.vm) m #[(.ref so), (.int (30 : Int32)), (.int (30 : Int32))] below meth c s₁ [] 0 0 := Stand.of_body Bd
  have e0 : s₁.heap = h0 := by rw [← hh, Bd.state]; rfl
  have N0 := Fr.nil n0
  have pre0 : ∀ tt_, Steps p.tables e below (s₁.setTop (mkF m 0 #[.val (.ref so), .val (.int (30 : Int32)), .val (.int (30 : Int32)), .unset, .unset] [])) tt_ → Steps p.tables e below (s₁.setTop (entryFrame m #[(.ref so), (.int (30 : Int32)), (.int (30 : Int32))] 5)) tt_ := fun tt_ kk_ => castTop (ef_13 m so (30 : Int32) (30 : Int32)) kk_
  obtain ⟨cq1, kq1, q1a, q1b, q1c⟩ := isOf hZ e0 E_so
  obtain ⟨_, _, ⟨T1, L1, k1, n1⟩, -, X1, ⟨Lc1, hQ1, l1, y1, z1⟩, st1⟩ := X0.virtualBack hx (y := my5) (z := my5) hown (mvT hZ (hwd61 hw)) (mvT hZ (hwd32 hw)) (notFace_of_selects (args := #[]) (mvT hZ (hwd34 hw))) (mvT hZ (hwd34 hw)) (mvT hZ (hwd33 hw)) (by decide) (backOf (W := 0) (sle30 l Z a0 hw [] so b kb vs cz h0 n0 Z0 E_so F_value_so F_coder_so V_b O_C hcz X00) hZ (hwd35 hw) (hwd8 hw) (by decide) (by decide)) q1a q1c (g := (mkF m 1 #[.val (.ref so), .val (.int (30 : Int32)), .val (.int (30 : Int32)), .unset, .unset] [(.ref so)])) rfl (by rw [hml]; rfl) (Steps.refl _) (argsL := []) (rest := []) (lenOf pd_2 rfl) rfl (by show 2 * 0 + _ ≤ _; exact Nat.le_of_eq rfl) (hb hby d13_1) (fun _ _ => ⟨rfl, e0, (by decide : 0 + 0 ≤ _), (by decide : 0 + 0 ≤ _)⟩)
  dsimp only [Pt.U, Pt.locs, Pt.cells, Pt.slots] at X1 l1 y1 z1 st1 hQ1
  subst l1 y1 z1
  obtain ⟨rfl, N1q, e1q⟩ := hQ1
  have N1 := Fr.app N0 N1q
  obtain ⟨_, _, ⟨T2, L2, k2, n2⟩, -, X2, ⟨Lc2, hQ2, l2, y2, z2⟩, st2⟩ := Jvm.LawKit.callS X1 hx (y := my10) hown (mvT hZ (hwd67 hw)) (mvT hZ (hwd68 hw)) (mvT hZ (hwd8 hw)) (mvT hZ (hwd69 hw)) (by decide) (backOf (W := 0) (cbe30 l Z a0 hw [] sf h0 n0 Z0 O_S hsf X00) hZ (hwd69 hw) (hwd8 hw) (by decide) (by decide)) (g := (mkF m 8 #[.val (.ref so), .val (.int (30 : Int32)), .val (.int (30 : Int32)), .val (.int (30 : Int32)), .unset] [(.int (30 : Int32)), (.int (30 : Int32)), (.int (30 : Int32))])) rfl (by rw [hml]; rfl) (argsL := [(.int (30 : Int32)), (.int (30 : Int32)), (.int (30 : Int32))]) (rest := []) (lenOf pd_4 rfl) rfl (by show 2 * 0 + _ ≤ _; exact Nat.le_of_eq rfl) (hb hby d13_8) (fun _ _ => ⟨rfl, e1q, (by decide : 0 + 0 ≤ _), (by decide : 0 + 0 ≤ _)⟩)
  dsimp only [Pt.U, Pt.locs, Pt.cells, Pt.slots] at X2 l2 y2 z2 st2 hQ2
  subst l2 y2 z2
  obtain ⟨rfl, N2q, e2q⟩ := hQ2
  have N2 := Fr.app N1 N2q
  obtain ⟨cq3, kq3, q3a, q3b, q3c⟩ := isOf hZ e2q E_so
  obtain ⟨_, _, ⟨T3, L3, k3, n3⟩, -, X3, ⟨Lc3, hQ3, l3, y3, z3⟩, st3⟩ := X2.virtualBack hx (y := my4) (z := my4) hown (mvT hZ (hwd75 hw)) (mvT hZ (hwd76 hw)) (notFace_of_selects (args := #[]) (mvT hZ (hwd78 hw))) (mvT hZ (hwd78 hw)) (mvT hZ (hwd77 hw)) (by decide) (backOf (W := 0) (lat l Z a0 hw [] so cz h0 n0 Z0 F_coder_so O_C hcz X00) hZ (hwd79 hw) (hwd8 hw) (by decide) (by decide)) q3a q3c (g := (mkF m 28 #[.val (.ref so), .val (.int (30 : Int32)), .val (.int (30 : Int32)), .val (.int (30 : Int32)), .val (.int (0 : Int32))] [(.ref so)])) rfl (by rw [hml]; rfl) (Steps.refl _) (argsL := []) (rest := []) (lenOf pd_5 rfl) rfl (by show 2 * 0 + _ ≤ _; exact Nat.le_of_eq rfl) (hb hby d13_28) (fun _ _ => ⟨rfl, e2q, (by decide : 0 + 0 ≤ _), (by decide : 0 + 0 ≤ _)⟩)
  dsimp only [Pt.U, Pt.locs, Pt.cells, Pt.slots] at X3 l3 y3 z3 st3 hQ3
  subst l3 y3 z3
  obtain ⟨rfl, N3q, e3q⟩ := hQ3
  have N3 := Fr.app N2 N3q
  obtain ⟨T4, X4, e4, st4⟩ := getF X3 hx hZ hown (host := "") (Or.inl (hwd25 hw)) Via.refl e3q F_value_so (g := (mkF m 35 #[.val (.ref so), .val (.int (30 : Int32)), .val (.int (30 : Int32)), .val (.int (30 : Int32)), .val (.int (0 : Int32))] [(.ref so)])) rfl rfl (hb hby d13_35)
  obtain ⟨_, _, ⟨T5, L5, k5, n5⟩, -, X5q, hS5q, hg5q, ⟨Lc5, hQ5, l5, y5, z5, CR5q⟩, st5⟩ := callSS X4 hx (y := my11) hown (mvT hZ (hwd80 hw)) (mvT hZ (hwd81 hw)) (mvT hZ (hwd82 hw)) (mvT hZ (hwd83 hw)) (by decide) (backOfSH (W := 0) (EL := consts_1) (s := s) (vm0 := s.vm) (nst30 l Z a0 hw [] b h0 n0 Z0 ) hZ (hwd83 hw) (hwd82 hw) (by decide) (by decide) (own_EL hw) CR0.1) (g := (mkF m 41 #[.val (.ref so), .val (.int (30 : Int32)), .val (.int (30 : Int32)), .val (.int (30 : Int32)), .val (.int (0 : Int32))] [(.int (0 : Int32)), (.int (30 : Int32)), (.ref b)])) rfl (by rw [hml]; rfl) (argsL := [(.ref b), (.int (30 : Int32)), (.int (0 : Int32))]) (rest := []) (lenOf pd_6 rfl) rfl (by show 2 * 0 + _ ≤ _; exact Nat.le_of_eq rfl) (hb hby d13_41) (fun _ _ => ⟨rfl, e4, (by decide : 0 + 2 ≤ _), (by decide : 0 + 4 ≤ _)⟩)
  dsimp only [Pt.U, Pt.locs, Pt.cells, Pt.slots] at X5q l5 y5 z5 st5 hQ5 hS5q hg5q CR5q
  subst l5 y5 z5
  obtain ⟨X5, hS5, hZ5, hown5⟩ := rebS hS0 (by rw [show T4.heap = h0 from e4]; exact hk0) X5q hS5q hg5q hZ hown
  have hk5 : T5.heap.size ≤ T5.heap.size := Nat.le_refl _
  have CR5 := CR0.trans CR5q
  obtain ⟨s2_e5, b2_e5, kb2_e5, v2_e5, rfl, N5q, K5, p5_1, p5_2, p5_3, p5_4⟩ := hQ5
  have N5 := Fr.app N3 N5q
  have kp6 : Keep h0 T5.heap [] := ((Keep.refl h0 []).trans K5 all0)
  have hkE := Nat.le_trans hk5 (Nat.le_of_eq (congrArg Array.size (show T5.heap = T5.heap from Eq.symm rfl)))
  obtain ⟨fs, hr, hrun, hended, hRE⟩ := X5.leaveW hS5 hkE (v := some (.ref s2_e5)) (fun h => by rw [Bd.returns] at h; cases h)
  refine ⟨_, _, pre0 _ ?_, hrun, hended, _, _, rfl, ?_, ?_, hRE.1, hRE.2.1, hRE.2.2.1, hRE.2.2.2.mono (by decide) (by decide)⟩
  · show Steps p.tables e below (s₁.setTop (mkF m 0 #[.val (.ref so), .val (.int (30 : Int32)), .val (.int (30 : Int32)), .unset, .unset] [])) _
    refine XS.aloadN X0.here hx rfl (hb hby d13_0) rfl rfl ?_
    refine st1.trans ?_
    refine XS.istoreN X1.here hx rfl (hb hby d13_4) rfl (l' := #[.val (.ref so), .val (.int (30 : Int32)), .val (.int (30 : Int32)), .val (.int (30 : Int32)), .unset]) rfl ?_
    refine XS.iloadN X1.here hx rfl (hb hby d13_5) rfl ?_
    refine XS.iloadN X1.here hx rfl (hb hby d13_6) rfl ?_
    refine XS.iloadN X1.here hx rfl (hb hby d13_7) rfl ?_
    show Steps p.tables e below (T1.setTop (mkF m 8 #[.val (.ref so), .val (.int (30 : Int32)), .val (.int (30 : Int32)), .val (.int (30 : Int32)), .unset] [(.int (30 : Int32)), (.int (30 : Int32)), (.int (30 : Int32))])) _
    refine st2 _ ?_
    refine XS.iloadN X2.here hx rfl (hb hby d13_11) rfl ?_
    refine XS.ifYes X2.here hx rfl (pc0 := 12) (pc' := 22) rfl (hb hby d13_12) rfl ((if0 _ _).trans (feq (show ¬ ((30 : Int32) = (0 : Int32)) from (by decide))).2) (by decide) (by decide) ?_
    refine XS.iloadN X2.here hx rfl (hb hby d13_22) rfl ?_
    refine XS.iloadN X2.here hx rfl (hb hby d13_23) rfl ?_
    refine XS.isub X2.here hx rfl (hb hby d13_24) rfl ?_
    show Steps p.tables e below (T2.setTop (mkF m 25 #[.val (.ref so), .val (.int (30 : Int32)), .val (.int (30 : Int32)), .val (.int (30 : Int32)), .unset] [(.int ((30 : Int32) - (30 : Int32)))])) _
    rw [show (((30 : Int32) - (30 : Int32)) : Int32) = (0 : Int32) from by decide]
    refine XS.istore X2.here hx rfl (hb hby d13_25) rfl (l' := #[.val (.ref so), .val (.int (30 : Int32)), .val (.int (30 : Int32)), .val (.int (30 : Int32)), .val (.int (0 : Int32))]) rfl ?_
    refine XS.aloadN X2.here hx rfl (hb hby d13_27) rfl rfl ?_
    refine st3.trans ?_
    refine XS.ifNo X3.here hx rfl (hb hby d13_31) rfl ((if0 _ _).trans (feq (show ¬ ((1 : Int32) = (0 : Int32)) from (by decide))).1) ?_
    refine XS.aloadN X3.here hx rfl (hb hby d13_34) rfl rfl ?_
    show Steps p.tables e below (T3.setTop (mkF m 35 #[.val (.ref so), .val (.int (30 : Int32)), .val (.int (30 : Int32)), .val (.int (30 : Int32)), .val (.int (0 : Int32))] [(.ref so)])) _
    refine st4 _ ?_
    refine XS.iloadN X4.here hx rfl (hb hby d13_38) rfl ?_
    refine XS.iload X4.here hx rfl (hb hby d13_39) rfl ?_
    refine st5.trans ?_
    refine XS.goto X5.here hx rfl (pc0 := 44) (pc' := 57) rfl (hb hby d13_44) (by decide) (by decide) ?_
    jvm_step X5.here [X5.here.top, hx, (hb hby d13_57), X5.method', Bd.returns, Value.isRef, FieldType.isReference]
    first | (intro acts; rw [hr _ acts rfl rfl rfl]) | rw [hr _ _ rfl rfl rfl]
    exact Steps.refl _
  · show Qsb2_30 Z so b kb vs cz sf h0 n0 _ T5.heap _
    exact ⟨s2_e5, b2_e5, kb2_e5, v2_e5, rfl, N5, kp6, p5_1, p5_2, p5_3, p5_4⟩
  · show CHr Z consts_1 s.vm s.heap T5.vm T5.heap
    rw [hh]
    exact CR5.trans (CHv.at X5 hZ5 (own_EL hw) CR5.1)
theorem hwd62 {Z : State} {a0 : Array Value} (hw : ∀ d ∈ tables_1, d.before a0 Z = true) : (Jvm.Cond.methodLink "java/lang/String" (681 : Nat) ({ cls := "java/lang/String", name := "substring", desc := "(II)Ljava/lang/String;" } : Jvm.MethodName)).before a0 Z = true := hw _ (List.mem_of_getElem? (i := 62) rfl)
theorem hwd66 {Z : State} {a0 : Array Value} (hw : ∀ d ∈ tables_1, d.before a0 Z = true) : (Jvm.Cond.code ({ cls := "java/lang/String", name := "substring", desc := "(II)Ljava/lang/String;" } : Jvm.MethodName) jdk_42_method_92_code (5 : Nat) (Option.some (Jvm.ClassFile.FieldType.object "java/lang/String"))).before a0 Z = true := hw _ (List.mem_of_getElem? (i := 66) rfl)
theorem pd_7 : parseMethodDescriptor "(II)Ljava/lang/String;" = some ⟨[.int, .int], some (.object "java/lang/String")⟩ := by decide +kernel
theorem hwd65 {Z : State} {a0 : Array Value} (hw : ∀ d ∈ tables_1, d.before a0 Z = true) : (Jvm.Cond.selects "java/lang/String" ({ cls := "java/lang/String", name := "substring", desc := "(II)Ljava/lang/String;" } : Jvm.MethodName) ({ cls := "java/lang/String", name := "substring", desc := "(II)Ljava/lang/String;" } : Jvm.MethodName)).before a0 Z = true := hw _ (List.mem_of_getElem? (i := 65) rfl)
theorem hwd63 {Z : State} {a0 : Array Value} (hw : ∀ d ∈ tables_1, d.before a0 Z = true) : (Jvm.Cond.declares ({ cls := "java/lang/String", name := "substring", desc := "(II)Ljava/lang/String;" } : Jvm.MethodName)).before a0 Z = true := hw _ (List.mem_of_getElem? (i := 63) rfl)
theorem hwd64 {Z : State} {a0 : Array Value} (hw : ∀ d ∈ tables_1, d.before a0 Z = true) : (Jvm.Cond.instanceMethod ({ cls := "java/lang/String", name := "substring", desc := "(II)Ljava/lang/String;" } : Jvm.MethodName)).before a0 Z = true := hw _ (List.mem_of_getElem? (i := 64) rfl)
theorem d12_0 : decode jdk_42_method_91_code 0 = .ok (.aload_n 0, 1) := by decide +kernel
theorem d12_1 : decode jdk_42_method_91_code 1 = .ok (.iload_n 1, 1) := by decide +kernel
theorem d12_2 : decode jdk_42_method_91_code 2 = .ok (.aload_n 0, 1) := by decide +kernel
theorem d12_3 : decode jdk_42_method_91_code 3 = .ok (.invokevirtual 505, 3) := by decide +kernel
theorem d12_6 : decode jdk_42_method_91_code 6 = .ok (.invokevirtual 681, 3) := by decide +kernel
theorem d12_9 : decode jdk_42_method_91_code 9 = .ok (.areturn, 1) := by decide +kernel
theorem ef_12 (m : MethodId) (x0 : Addr) (x1 : Int32) : entryFrame m #[(.ref x0), (.int x1)] 2 = mkF m 0 #[.val (.ref x0), .val (.int x1)] [] := by first | (simp [entryFrame, mkF, argsToLocals, Value.category]; done) | rfl
def Qsb1_30 (Z : State) (so : Addr) (b : Addr) (kb : ClassId) (vs : List Value) (cz : Int32) (sf : Value) (h0 : Heap) (n0 : Nat) (v : Option Value) (h : Heap) (L : List Loc) : Prop := ∃ s2 : Addr, ∃ b2 : Addr, ∃ kb2 : ClassId, ∃ v2 : List Value, v = some (.ref s2) ∧ Fr n0 L ∧ Keep h0 h [] ∧ Exa Z h s2 "java/lang/String" ∧ Fld Z h s2 "java/lang/String" "value" "[B" (.ref b2) ∧ Fld Z h s2 "java/lang/String" "coder" "B" (.int (0 : Int32)) ∧ Arv Z h b2 kb2 .byte (0 : Int32) v2 (.int 0)
abbrev my13 : MethodName := ⟨"java/lang/String", "substring", "(I)Ljava/lang/String;"⟩
abbrev Rm_sb1_30 : Room := { frames := 3, cells := 2, slots := 4, locals := 45 }
set_option maxRecDepth 65536 in
set_option maxHeartbeats 40000000 in
theorem sb1_30 (l : Launch) (Z : State) (a0 : Array Value) (hw : ∀ d ∈ tables_1, d.before a0 Z = true) (ws : List Jvm.Cond) (so : Addr) (b : Addr) (kb : ClassId) (vs : List Value) (cz : Int32) (sf : Value) (h0 : Heap) (n0 : Nat) (Z0 : n0 ≤ h0.size) (E_so : Exa Z h0 so "java/lang/String") (F_value_so : Fld Z h0 so "java/lang/String" "value" "[B" (.ref b)) (F_coder_so : Fld Z h0 so "java/lang/String" "coder" "B" (.int (0 : Int32))) (V_b : Arv Z h0 b kb .byte (30 : Int32) vs (.int 0)) (O_C : Sta Z Z.heap "java/lang/String" "COMPACT_STRINGS" "Z" (.int cz)) (hcz : ¬ (cz = (0 : Int32))) (X00 : Old Z n0 h0) (O_S : Sta Z Z.heap "jdk/internal/util/Preconditions" "SIOOBE_FORMATTER" "Ljava/util/function/BiFunction;" sf) (hsf : sf.isRef = true) :
    MetFree l my13 (head1 (Jvm.Cond.code my13 jdk_42_method_91_code 2 (some (.object "java/lang/String")) :: ws) Rm_sb1_30) (fun aa_ U => aa_ = #[(.ref so), (.int (30 : Int32))] ∧ Z.Warmed39 U.vm ∧ U.heap = h0 ∧ CHv Z consts_1 U.vm h0) (fun _ _ _ _ _ => True) (fun _ U oo_ U' => ∃ v L, oo_ = .returned v ∧ Qsb1_30 Z so b kb vs cz sf h0 n0 v U'.heap L ∧ CHr Z consts_1 U.vm U.heap U'.vm U'.heap ∧ ReturnedEndW U oo_ U' L Rm_sb1_30.cells Rm_sb1_30.slots) := by
  refine MetFree.of_bodySF (plainFor_of_name pn_1) hisR ?_
  intro p e s m args below meth c s₁ Bd hml0 hP hK
  obtain ⟨rfl, hZ, hh, hC0⟩ := hP
  have hx := Bd.exec
  have hby := Bd.bytes
  have hml : c.maxLocals = 2 := hml0
  have hown : s.vm.findClass "java/lang/String" = some m.cls := findClass_of_methodNamed Bd.named
  have hZ : Z.Warmed39 (s.setVm s.vm).vm := hZ
  have hown : (s.setVm s.vm).vm.findClass "java/lang/String" = some m.cls := hown
  have hS0 : s.Since s.vm s.heap.size := (State.WarmedH.refl s).since _
  have hk0 : s.heap.size ≤ h0.size := Nat.le_of_eq (by rw [hh])
  have CR0 : CHr Z consts_1 s.vm h0 s.vm h0 := CHr.refl hC0
  have hnm := (name_of_methodNamed Bd.named Bd.method).1
  have X0 : Stand p l e Rm_sb1_30 (s.setVm s.vm) m #[(.ref so), (.int (30 : Int32))] below meth c s₁ [] 0 0 := Stand.of_body Bd
  have e0 : s₁.heap = h0 := by rw [← hh, Bd.state]; rfl
  have N0 := Fr.nil n0
  have pre0 : ∀ tt_, Steps p.tables e below (s₁.setTop (mkF m 0 #[.val (.ref so), .val (.int (30 : Int32))] [])) tt_ → Steps p.tables e below (s₁.setTop (entryFrame m #[(.ref so), (.int (30 : Int32))] 2)) tt_ := fun tt_ kk_ => castTop (ef_12 m so (30 : Int32)) kk_
  obtain ⟨cq1, kq1, q1a, q1b, q1c⟩ := isOf hZ e0 E_so
  obtain ⟨_, _, ⟨T1, L1, k1, n1⟩, -, X1, ⟨Lc1, hQ1, l1, y1, z1⟩, st1⟩ := X0.virtualBack hx (y := my5) (z := my5) hown (mvT hZ (hwd61 hw)) (mvT hZ (hwd32 hw)) (notFace_of_selects (args := #[]) (mvT hZ (hwd34 hw))) (mvT hZ (hwd34 hw)) (mvT hZ (hwd33 hw)) (by decide) (backOf (W := 2) (sle30 l Z a0 hw [] so b kb vs cz h0 n0 Z0 E_so F_value_so F_coder_so V_b O_C hcz X00) hZ (hwd35 hw) (hwd8 hw) (by decide) (by decide)) q1a q1c (g := (mkF m 3 #[.val (.ref so), .val (.int (30 : Int32))] [(.ref so), (.int (30 : Int32)), (.ref so)])) rfl (by rw [hml]; rfl) (Steps.refl _) (argsL := []) (rest := [(.int (30 : Int32)), (.ref so)]) (lenOf pd_2 rfl) rfl (by show 2 * 0 + _ ≤ _; exact Nat.le_of_eq rfl) (hb hby d12_3) (fun _ _ => ⟨rfl, e0, (by decide : 0 + 0 ≤ _), (by decide : 0 + 0 ≤ _)⟩)
  dsimp only [Pt.U, Pt.locs, Pt.cells, Pt.slots] at X1 l1 y1 z1 st1 hQ1
  subst l1 y1 z1
  obtain ⟨rfl, N1q, e1q⟩ := hQ1
  have N1 := Fr.app N0 N1q
  obtain ⟨cq2, kq2, q2a, q2b, q2c⟩ := isOf hZ e1q E_so
  obtain ⟨_, _, ⟨T2, L2, k2, n2⟩, -, X2q, hS2q, hg2q, ⟨Lc2, hQ2, l2, y2, z2, CR2q⟩, st2⟩ := X1.virtualBackS hx (y := my12) (z := my12) hown (mvT hZ (hwd62 hw)) (mvT hZ (hwd63 hw)) (notFace_of_selects (args := #[]) (mvT hZ (hwd65 hw))) (mvT hZ (hwd65 hw)) (mvT hZ (hwd64 hw)) (by decide) (backOfSH (W := 0) (EL := consts_1) (s := s) (vm0 := s.vm) (sb2_30 l Z a0 hw [] so b kb vs cz sf h0 n0 Z0 E_so F_value_so F_coder_so V_b O_C hcz X00 O_S hsf) hZ (hwd66 hw) (hwd8 hw) (by decide) (by decide) (own_EL hw) CR0.1) q2a q2c (g := (mkF m 6 #[.val (.ref so), .val (.int (30 : Int32))] [(.int (30 : Int32)), (.int (30 : Int32)), (.ref so)])) rfl (by rw [hml]; rfl) (Steps.refl _) (argsL := [(.int (30 : Int32)), (.int (30 : Int32))]) (rest := []) (lenOf pd_7 rfl) rfl (by show 2 * 0 + _ ≤ _; exact Nat.le_of_eq rfl) (hb hby d12_6) (fun _ _ => ⟨rfl, e1q, (by decide : 0 + 2 ≤ _), (by decide : 0 + 4 ≤ _)⟩)
  dsimp only [Pt.U, Pt.locs, Pt.cells, Pt.slots] at X2q l2 y2 z2 st2 hQ2 hS2q hg2q CR2q
  subst l2 y2 z2
  obtain ⟨X2, hS2, hZ2, hown2⟩ := rebS hS0 (by rw [show T1.heap = h0 from e1q]; exact hk0) X2q hS2q hg2q hZ hown
  have hk2 : T2.heap.size ≤ T2.heap.size := Nat.le_refl _
  have CR2 := CR0.trans CR2q
  obtain ⟨s2_e2, b2_e2, kb2_e2, v2_e2, rfl, N2q, K2, p2_1, p2_2, p2_3, p2_4⟩ := hQ2
  have N2 := Fr.app N1 N2q
  have kp3 : Keep h0 T2.heap [] := ((Keep.refl h0 []).trans K2 all0)
  have hkE := Nat.le_trans hk2 (Nat.le_of_eq (congrArg Array.size (show T2.heap = T2.heap from Eq.symm rfl)))
  obtain ⟨fs, hr, hrun, hended, hRE⟩ := X2.leaveW hS2 hkE (v := some (.ref s2_e2)) (fun h => by rw [Bd.returns] at h; cases h)
  refine ⟨_, _, pre0 _ ?_, hrun, hended, _, _, rfl, ?_, ?_, hRE.1, hRE.2.1, hRE.2.2.1, hRE.2.2.2.mono (by decide) (by decide)⟩
  · show Steps p.tables e below (s₁.setTop (mkF m 0 #[.val (.ref so), .val (.int (30 : Int32))] [])) _
    refine XS.aloadN X0.here hx rfl (hb hby d12_0) rfl rfl ?_
    refine XS.iloadN X0.here hx rfl (hb hby d12_1) rfl ?_
    refine XS.aloadN X0.here hx rfl (hb hby d12_2) rfl rfl ?_
    refine st1.trans ?_
    refine st2.trans ?_
    jvm_step X2.here [X2.here.top, hx, (hb hby d12_9), X2.method', Bd.returns, Value.isRef, FieldType.isReference]
    first | (intro acts; rw [hr _ acts rfl rfl rfl]) | rw [hr _ _ rfl rfl rfl]
    exact Steps.refl _
  · show Qsb1_30 Z so b kb vs cz sf h0 n0 _ T2.heap _
    exact ⟨s2_e2, b2_e2, kb2_e2, v2_e2, rfl, N2, kp3, p2_1, p2_2, p2_3, p2_4⟩
  · show CHr Z consts_1 s.vm s.heap T2.vm T2.heap
    rw [hh]
    exact CR2.trans (CHv.at X2 hZ2 (own_EL hw) CR2.1)
theorem hwd56 {Z : State} {a0 : Array Value} (hw : ∀ d ∈ tables_1, d.before a0 Z = true) : (Jvm.Cond.methodLink "com/example/coretally/coretally/store/SampleKey" (51 : Nat) ({ cls := "java/lang/String", name := "substring", desc := "(I)Ljava/lang/String;" } : Jvm.MethodName)).before a0 Z = true := hw _ (List.mem_of_getElem? (i := 56) rfl)
theorem hwd60 {Z : State} {a0 : Array Value} (hw : ∀ d ∈ tables_1, d.before a0 Z = true) : (Jvm.Cond.code ({ cls := "java/lang/String", name := "substring", desc := "(I)Ljava/lang/String;" } : Jvm.MethodName) jdk_42_method_91_code (2 : Nat) (Option.some (Jvm.ClassFile.FieldType.object "java/lang/String"))).before a0 Z = true := hw _ (List.mem_of_getElem? (i := 60) rfl)
theorem pd_8 : parseMethodDescriptor "(I)Ljava/lang/String;" = some ⟨[.int], some (.object "java/lang/String")⟩ := by decide +kernel
theorem hwd59 {Z : State} {a0 : Array Value} (hw : ∀ d ∈ tables_1, d.before a0 Z = true) : (Jvm.Cond.selects "java/lang/String" ({ cls := "java/lang/String", name := "substring", desc := "(I)Ljava/lang/String;" } : Jvm.MethodName) ({ cls := "java/lang/String", name := "substring", desc := "(I)Ljava/lang/String;" } : Jvm.MethodName)).before a0 Z = true := hw _ (List.mem_of_getElem? (i := 59) rfl)
theorem hwd57 {Z : State} {a0 : Array Value} (hw : ∀ d ∈ tables_1, d.before a0 Z = true) : (Jvm.Cond.declares ({ cls := "java/lang/String", name := "substring", desc := "(I)Ljava/lang/String;" } : Jvm.MethodName)).before a0 Z = true := hw _ (List.mem_of_getElem? (i := 57) rfl)
theorem hwd58 {Z : State} {a0 : Array Value} (hw : ∀ d ∈ tables_1, d.before a0 Z = true) : (Jvm.Cond.instanceMethod ({ cls := "java/lang/String", name := "substring", desc := "(I)Ljava/lang/String;" } : Jvm.MethodName)).before a0 Z = true := hw _ (List.mem_of_getElem? (i := 58) rfl)
theorem d11_0 : decode prog_78_method_5_code 0 = .ok (.aload_n 0, 1) := by decide +kernel
theorem d11_1 : decode prog_78_method_5_code 1 = .ok (.bipush 30, 2) := by decide +kernel
theorem d11_3 : decode prog_78_method_5_code 3 = .ok (.invokevirtual 51, 3) := by decide +kernel
theorem d11_6 : decode prog_78_method_5_code 6 = .ok (.areturn, 1) := by decide +kernel
theorem ef_11 (m : MethodId) (x0 : Addr) : entryFrame m #[(.ref x0)] 1 = mkF m 0 #[.val (.ref x0)] [] := by first | (simp [entryFrame, mkF, argsToLocals, Value.category]; done) | rfl
def Qclu30 (Z : State) (so : Addr) (b : Addr) (kb : ClassId) (vs : List Value) (cz : Int32) (sf : Value) (h0 : Heap) (n0 : Nat) (v : Option Value) (h : Heap) (L : List Loc) : Prop := ∃ s2 : Addr, ∃ b2 : Addr, ∃ kb2 : ClassId, ∃ v2 : List Value, v = some (.ref s2) ∧ Fr n0 L ∧ Keep h0 h [] ∧ Exa Z h s2 "java/lang/String" ∧ Fld Z h s2 "java/lang/String" "value" "[B" (.ref b2) ∧ Fld Z h s2 "java/lang/String" "coder" "B" (.int (0 : Int32)) ∧ Arv Z h b2 kb2 .byte (0 : Int32) v2 (.int 0)
abbrev my14 : MethodName := ⟨"com/example/coretally/coretally/store/SampleKey", "cluster", "(Ljava/lang/String;)Ljava/lang/String;"⟩
abbrev Rm_clu30 : Room := { frames := 4, cells := 2, slots := 4, locals := 58 }
set_option maxRecDepth 65536 in
set_option maxHeartbeats 40000000 in
theorem clu30 (l : Launch) (Z : State) (a0 : Array Value) (hw : ∀ d ∈ tables_1, d.before a0 Z = true) (ws : List Jvm.Cond) (so : Addr) (b : Addr) (kb : ClassId) (vs : List Value) (cz : Int32) (sf : Value) (h0 : Heap) (n0 : Nat) (Z0 : n0 ≤ h0.size) (E_so : Exa Z h0 so "java/lang/String") (F_value_so : Fld Z h0 so "java/lang/String" "value" "[B" (.ref b)) (F_coder_so : Fld Z h0 so "java/lang/String" "coder" "B" (.int (0 : Int32))) (V_b : Arv Z h0 b kb .byte (30 : Int32) vs (.int 0)) (O_C : Sta Z Z.heap "java/lang/String" "COMPACT_STRINGS" "Z" (.int cz)) (hcz : ¬ (cz = (0 : Int32))) (X00 : Old Z n0 h0) (O_S : Sta Z Z.heap "jdk/internal/util/Preconditions" "SIOOBE_FORMATTER" "Ljava/util/function/BiFunction;" sf) (hsf : sf.isRef = true) :
    MetFree l my14 (head1 (Jvm.Cond.code my14 prog_78_method_5_code 1 (some (.object "java/lang/String")) :: ws) Rm_clu30) (fun aa_ U => aa_ = #[(.ref so)] ∧ Z.Warmed39 U.vm ∧ U.heap = h0 ∧ CHv Z consts_1 U.vm h0) (fun _ _ _ _ _ => True) (fun _ U oo_ U' => ∃ v L, oo_ = .returned v ∧ Qclu30 Z so b kb vs cz sf h0 n0 v U'.heap L ∧ CHr Z consts_1 U.vm U.heap U'.vm U'.heap ∧ ReturnedEndW U oo_ U' L Rm_clu30.cells Rm_clu30.slots) := by
  refine MetFree.of_bodySF (plainFor_of_name pn_2) hisR ?_
  intro p e s m args below meth c s₁ Bd hml0 hP hK
  obtain ⟨rfl, hZ, hh, hC0⟩ := hP
  have hx := Bd.exec
  have hby := Bd.bytes
  have hml : c.maxLocals = 1 := hml0
  have hown : s.vm.findClass "com/example/coretally/coretally/store/SampleKey" = some m.cls := findClass_of_methodNamed Bd.named
  have hZ : Z.Warmed39 (s.setVm s.vm).vm := hZ
  have hown : (s.setVm s.vm).vm.findClass "com/example/coretally/coretally/store/SampleKey" = some m.cls := hown
  have hS0 : s.Since s.vm s.heap.size := (State.WarmedH.refl s).since _
  have hk0 : s.heap.size ≤ h0.size := Nat.le_of_eq (by rw [hh])
  have CR0 : CHr Z consts_1 s.vm h0 s.vm h0 := CHr.refl hC0
  have hnm := (name_of_methodNamed Bd.named Bd.method).1
  have X0 : Stand p l e Rm_clu30 (s.setVm s.vm) m #[(.ref so)] below meth c s₁ [] 0 0 := Stand.of_body Bd
  have e0 : s₁.heap = h0 := by rw [← hh, Bd.state]; rfl
  have N0 := Fr.nil n0
  have pre0 : ∀ tt_, Steps p.tables e below (s₁.setTop (mkF m 0 #[.val (.ref so)] [])) tt_ → Steps p.tables e below (s₁.setTop (entryFrame m #[(.ref so)] 1)) tt_ := fun tt_ kk_ => castTop (ef_11 m so) kk_
  obtain ⟨cq1, kq1, q1a, q1b, q1c⟩ := isOf hZ e0 E_so
  obtain ⟨_, _, ⟨T1, L1, k1, n1⟩, -, X1q, hS1q, hg1q, ⟨Lc1, hQ1, l1, y1, z1, CR1q⟩, st1⟩ := X0.virtualBackS hx (y := my13) (z := my13) hown (mvT hZ (hwd56 hw)) (mvT hZ (hwd57 hw)) (notFace_of_selects (args := #[]) (mvT hZ (hwd59 hw))) (mvT hZ (hwd59 hw)) (mvT hZ (hwd58 hw)) (by decide) (backOfSH (W := 0) (EL := consts_1) (s := s) (vm0 := s.vm) (sb1_30 l Z a0 hw [] so b kb vs cz sf h0 n0 Z0 E_so F_value_so F_coder_so V_b O_C hcz X00 O_S hsf) hZ (hwd60 hw) (hwd8 hw) (by decide) (by decide) (own_EL hw) CR0.1) q1a q1c (g := (mkF m 3 #[.val (.ref so)] [(.int (30 : Int32)), (.ref so)])) rfl (by rw [hml]; rfl) (Steps.refl _) (argsL := [(.int (30 : Int32))]) (rest := []) (lenOf pd_8 rfl) rfl (by show 2 * 0 + _ ≤ _; exact Nat.le_of_eq rfl) (hb hby d11_3) (fun _ _ => ⟨rfl, e0, (by decide : 0 + 2 ≤ _), (by decide : 0 + 4 ≤ _)⟩)
  dsimp only [Pt.U, Pt.locs, Pt.cells, Pt.slots] at X1q l1 y1 z1 st1 hQ1 hS1q hg1q CR1q
  subst l1 y1 z1
  obtain ⟨X1, hS1, hZ1, hown1⟩ := rebS hS0 (by rw [show s₁.heap = h0 from e0]; exact hk0) X1q hS1q hg1q hZ hown
  have hk1 : T1.heap.size ≤ T1.heap.size := Nat.le_refl _
  have CR1 := CR0.trans CR1q
  obtain ⟨s2_e1, b2_e1, kb2_e1, v2_e1, rfl, N1q, K1, p1_1, p1_2, p1_3, p1_4⟩ := hQ1
  have N1 := Fr.app N0 N1q
  have kp2 : Keep h0 T1.heap [] := ((Keep.refl h0 []).trans K1 all0)
  have hkE := Nat.le_trans hk1 (Nat.le_of_eq (congrArg Array.size (show T1.heap = T1.heap from Eq.symm rfl)))
  obtain ⟨fs, hr, hrun, hended, hRE⟩ := X1.leaveW hS1 hkE (v := some (.ref s2_e1)) (fun h => by rw [Bd.returns] at h; cases h)
  refine ⟨_, _, pre0 _ ?_, hrun, hended, _, _, rfl, ?_, ?_, hRE.1, hRE.2.1, hRE.2.2.1, hRE.2.2.2.mono (by decide) (by decide)⟩
  · show Steps p.tables e below (s₁.setTop (mkF m 0 #[.val (.ref so)] [])) _
    refine XS.aloadN X0.here hx rfl (hb hby d11_0) rfl rfl ?_
    refine XS.bipush X0.here hx rfl (hb hby d11_1) ?_
    show Steps p.tables e below (s₁.setTop (mkF m 3 #[.val (.ref so)] [(.int (30 : Int32)), (.ref so)])) _
    refine st1.trans ?_
    jvm_step X1.here [X1.here.top, hx, (hb hby d11_6), X1.method', Bd.returns, Value.isRef, FieldType.isReference]
    first | (intro acts; rw [hr _ acts rfl rfl rfl]) | rw [hr _ _ rfl rfl rfl]
    exact Steps.refl _
  · show Qclu30 Z so b kb vs cz sf h0 n0 _ T1.heap _
    exact ⟨s2_e1, b2_e1, kb2_e1, v2_e1, rfl, N1, kp2, p1_1, p1_2, p1_3, p1_4⟩
  · show CHr Z consts_1 s.vm s.heap T1.vm T1.heap
    rw [hh]
    exact CR1.trans (CHv.at X1 hZ1 (own_EL hw) CR1.1)
def Qcft31 (Z : State) (sf : Value) (h0 : Heap) (n0 : Nat) (v : Option Value) (h : Heap) (L : List Loc) : Prop := v = some (.int (30 : Int32)) ∧ Fr n0 L ∧ h = h0
abbrev Rm_cft31 : Room := { frames := 0, cells := 0, slots := 0, locals := 0 }
set_option maxRecDepth 65536 in
set_option maxHeartbeats 40000000 in
theorem cft31 (l : Launch) (Z : State) (a0 : Array Value) (hw : ∀ d ∈ tables_1, d.before a0 Z = true) (ws : List Jvm.Cond) (sf : Value) (h0 : Heap) (n0 : Nat) (Z0 : n0 ≤ h0.size) (hsf : sf.isRef = true) :
    MetFree l my9 (head1 (Jvm.Cond.code my9 jdk_41_method_12_code 4 (some .int) :: ws) Rm_cft31) (fun aa_ U => aa_ = #[(.int (30 : Int32)), (.int (31 : Int32)), (.int (31 : Int32)), sf] ∧ Z.Warmed39 U.vm ∧ U.heap = h0) (fun _ _ _ _ _ => True) (fun _ U oo_ U' => ∃ v L, oo_ = .returned v ∧ Qcft31 Z sf h0 n0 v U'.heap L ∧ FrameEnd U oo_ U' L Rm_cft31.cells Rm_cft31.slots) := by
  refine MetFree.of_bodySF (plainFor_of_name pn_3) hisR ?_
  intro p e s m args below meth c s₁ Bd hml0 hP hK
  obtain ⟨rfl, hZ, hh⟩ := hP
  have hx := Bd.exec
  have hby := Bd.bytes
  have hml : c.maxLocals = 4 := hml0
  have hown : s.vm.findClass "jdk/internal/util/Preconditions" = some m.cls := findClass_of_methodNamed Bd.named
  have hnm := (name_of_methodNamed Bd.named Bd.method).1
  have X0 : Stand p l e Rm_cft31 s m #[(.int (30 : Int32)), (.int (31 : Int32)), (.int (31 : Int32)), sf] below meth c s₁ [] 0 0 := Stand.of_body Bd
  have e0 : s₁.heap = h0 := by rw [← hh, Bd.state]; rfl
  have N0 := Fr.nil n0
  have pre0 : ∀ tt_, Steps p.tables e below (s₁.setTop (mkF m 0 #[.val (.int (30 : Int32)), .val (.int (31 : Int32)), .val (.int (31 : Int32)), .val sf] [])) tt_ → Steps p.tables e below (s₁.setTop (entryFrame m #[(.int (30 : Int32)), (.int (31 : Int32)), (.int (31 : Int32)), sf] 4)) tt_ := fun tt_ kk_ => castTop (ef_15 m (30 : Int32) (31 : Int32) (31 : Int32) sf hsf) kk_
  obtain ⟨fs, hr, hrun, hended, hW, hsame⟩ := X0.leave (v := some (.int (30 : Int32))) (fun h => by rw [Bd.returns] at h; cases h)
  refine ⟨_, _, pre0 _ ?_, hrun, hended, _, _, rfl, ?_, ⟨_, rfl⟩, hW, hsame.mono (by decide) (by decide)⟩
  · show Steps p.tables e below (s₁.setTop (mkF m 0 #[.val (.int (30 : Int32)), .val (.int (31 : Int32)), .val (.int (31 : Int32)), .val sf] [])) _
    refine XS.iloadN X0.here hx rfl (hb hby d15_0) rfl ?_
    refine XS.ifNo X0.here hx rfl (hb hby d15_1) rfl ((if0 _ _).trans (flt (show ¬ ((30 : Int32) < (0 : Int32)) from (by decide))).1) ?_
    refine XS.iloadN X0.here hx rfl (hb hby d15_4) rfl ?_
    refine XS.iloadN X0.here hx rfl (hb hby d15_5) rfl ?_
    refine XS.icmpNo X0.here hx rfl (hb hby d15_6) rfl (flt (show ¬ ((31 : Int32) < (30 : Int32)) from (by decide))).2.2.1 ?_
    refine XS.iloadN X0.here hx rfl (hb hby d15_9) rfl ?_
    show Steps p.tables e below (s₁.setTop (mkF m 10 #[.val (.int (30 : Int32)), .val (.int (31 : Int32)), .val (.int (31 : Int32)), .val sf] [(.int (31 : Int32))])) _
    refine XS.iloadN X0.here hx rfl (hb hby d15_10) rfl ?_
    refine XS.icmpYes X0.here hx rfl (pc0 := 11) (pc' := 22) rfl (hb hby d15_11) rfl (flt (show ¬ ((31 : Int32) < (31 : Int32)) from (by decide))).2.2.2 (by decide) (by decide) ?_
    refine XS.iloadN X0.here hx rfl (hb hby d15_22) rfl ?_
    exact retI X0 hx Bd.returns (hb hby d15_23) hr
  · show Qcft31 Z sf h0 n0 _ s₁.heap _
    rw [e0]
    exact ⟨rfl, N0, rfl⟩
def Qcbe31 (Z : State) (sf : Value) (h0 : Heap) (n0 : Nat) (v : Option Value) (h : Heap) (L : List Loc) : Prop := v = none ∧ Fr n0 L ∧ h = h0
abbrev Rm_cbe31 : Room := { frames := 1, cells := 0, slots := 0, locals := 15 }
set_option maxRecDepth 65536 in
set_option maxHeartbeats 40000000 in
theorem cbe31 (l : Launch) (Z : State) (a0 : Array Value) (hw : ∀ d ∈ tables_1, d.before a0 Z = true) (ws : List Jvm.Cond) (sf : Value) (h0 : Heap) (n0 : Nat) (Z0 : n0 ≤ h0.size) (O_S : Sta Z Z.heap "jdk/internal/util/Preconditions" "SIOOBE_FORMATTER" "Ljava/util/function/BiFunction;" sf) (hsf : sf.isRef = true) (X00 : Old Z n0 h0) :
    MetFree l my10 (head1 (Jvm.Cond.code my10 jdk_42_method_158_code 3 none :: ws) Rm_cbe31) (fun aa_ U => aa_ = #[(.int (30 : Int32)), (.int (31 : Int32)), (.int (31 : Int32))] ∧ Z.Warmed39 U.vm ∧ U.heap = h0) (fun _ _ _ _ _ => True) (fun _ U oo_ U' => ∃ v L, oo_ = .returned v ∧ Qcbe31 Z sf h0 n0 v U'.heap L ∧ FrameEnd U oo_ U' L Rm_cbe31.cells Rm_cbe31.slots) := by
  refine MetFree.of_bodySF (plainFor_of_name pn_1) hisR ?_
  intro p e s m args below meth c s₁ Bd hml0 hP hK
  obtain ⟨rfl, hZ, hh⟩ := hP
  have hx := Bd.exec
  have hby := Bd.bytes
  have hml : c.maxLocals = 3 := hml0
  have hown : s.vm.findClass "java/lang/String" = some m.cls := findClass_of_methodNamed Bd.named
  have hnm := (name_of_methodNamed Bd.named Bd.method).1
  have X0 : Stand p l e Rm_cbe31 s m #[(.int (30 : Int32)), (.int (31 : Int32)), (.int (31 : Int32))] below meth c s₁ [] 0 0 := Stand.of_body Bd
  have e0 : s₁.heap = h0 := by rw [← hh, Bd.state]; rfl
  have N0 := Fr.nil n0
  have pre0 : ∀ tt_, Steps p.tables e below (s₁.setTop (mkF m 0 #[.val (.int (30 : Int32)), .val (.int (31 : Int32)), .val (.int (31 : Int32))] [])) tt_ → Steps p.tables e below (s₁.setTop (entryFrame m #[(.int (30 : Int32)), (.int (31 : Int32)), (.int (31 : Int32))] 3)) tt_ := fun tt_ kk_ => castTop (ef_14 m (30 : Int32) (31 : Int32) (31 : Int32)) kk_
  obtain ⟨T1, X1, e1, st1⟩ := getS2 X0 hx hZ hown (host := "") (Or.inl (hwd70 hw)) Via.refl e0 (O_S.ext X00.2) (g := (mkF m 3 #[.val (.int (30 : Int32)), .val (.int (31 : Int32)), .val (.int (31 : Int32))] [(.int (31 : Int32)), (.int (31 : Int32)), (.int (30 : Int32))])) rfl (hb hby d14_3)
  obtain ⟨_, _, ⟨T2, L2, k2, n2⟩, -, X2, ⟨Lc2, hQ2, l2, y2, z2⟩, st2⟩ := Jvm.LawKit.callS X1 hx (y := my9) hown (mvT hZ (hwd72 hw)) (mvT hZ (hwd73 hw)) (mvT hZ (hwd71 hw)) (mvT hZ (hwd74 hw)) (by decide) (backOf (W := 0) (cft31 l Z a0 hw [] sf h0 n0 Z0 hsf) hZ (hwd74 hw) (hwd71 hw) (by decide) (by decide)) (g := (mkF m 6 #[.val (.int (30 : Int32)), .val (.int (31 : Int32)), .val (.int (31 : Int32))] [sf, (.int (31 : Int32)), (.int (31 : Int32)), (.int (30 : Int32))])) rfl (by rw [hml]; rfl) (argsL := [(.int (30 : Int32)), (.int (31 : Int32)), (.int (31 : Int32)), sf]) (rest := []) (lenOf pd_3 rfl) rfl (by show 2 * 0 + _ ≤ _; exact Nat.le_of_eq rfl) (hb hby d14_6) (fun _ _ => ⟨rfl, e1, (by decide : 0 + 0 ≤ _), (by decide : 0 + 0 ≤ _)⟩)
  dsimp only [Pt.U, Pt.locs, Pt.cells, Pt.slots] at X2 l2 y2 z2 st2 hQ2
  subst l2 y2 z2
  obtain ⟨rfl, N2q, e2q⟩ := hQ2
  have N2 := Fr.app N0 N2q
  obtain ⟨fs, hr, hrun, hended, hW, hsame⟩ := X2.leave (v := none) (fun _ => rfl)
  refine ⟨_, _, pre0 _ ?_, hrun, hended, _, _, rfl, ?_, ⟨_, rfl⟩, hW, hsame.mono (by decide) (by decide)⟩
  · show Steps p.tables e below (s₁.setTop (mkF m 0 #[.val (.int (30 : Int32)), .val (.int (31 : Int32)), .val (.int (31 : Int32))] [])) _
    refine XS.iloadN X0.here hx rfl (hb hby d14_0) rfl ?_
    refine XS.iloadN X0.here hx rfl (hb hby d14_1) rfl ?_
    refine XS.iloadN X0.here hx rfl (hb hby d14_2) rfl ?_
    refine st1 _ ?_
    refine st2 _ ?_
    refine XS.pop X2.here hx rfl (hb hby d14_9) rfl rfl ?_
    show Steps p.tables e below (T2.setTop (mkF m 10 #[.val (.int (30 : Int32)), .val (.int (31 : Int32)), .val (.int (31 : Int32))] [])) _
    exact X2.returnOut hx Bd.returns (hb hby d14_10) hr
  · show Qcbe31 Z sf h0 n0 _ T2.heap _
    rw [e2q]
    exact ⟨rfl, N2, rfl⟩
theorem d22_0 : decode jdk_29_method_69_code 0 = .ok (.iload_n 0, 1) := by decide +kernel
theorem d22_1 : decode jdk_29_method_69_code 1 = .ok (.iload_n 1, 1) := by decide +kernel
theorem d22_2 : decode jdk_29_method_69_code 2 = .ok (.if_icmp .gt 7, 3) := by decide +kernel
theorem d22_5 : decode jdk_29_method_69_code 5 = .ok (.iload_n 0, 1) := by decide +kernel
theorem d22_6 : decode jdk_29_method_69_code 6 = .ok (.goto 4, 3) := by decide +kernel
theorem d22_10 : decode jdk_29_method_69_code 10 = .ok (.ireturn, 1) := by decide +kernel
theorem ef_22 (m : MethodId) (x0 : Int32) (x1 : Int32) : entryFrame m #[(.int x0), (.int x1)] 2 = mkF m 0 #[.val (.int x0), .val (.int x1)] [] := by first | (simp [entryFrame, mkF, argsToLocals, Value.category]; done) | rfl
def Qmin1 (Z : State)  (h0 : Heap) (n0 : Nat) (v : Option Value) (h : Heap) (L : List Loc) : Prop := v = some (.int (1 : Int32)) ∧ Fr n0 L ∧ h = h0
abbrev my15 : MethodName := ⟨"java/lang/Math", "min", "(II)I"⟩
abbrev Rm_min1 : Room := { frames := 0, cells := 0, slots := 0, locals := 0 }
set_option maxRecDepth 65536 in
set_option maxHeartbeats 40000000 in
theorem min1 (l : Launch) (Z : State) (a0 : Array Value) (hw : ∀ d ∈ tables_1, d.before a0 Z = true) (ws : List Jvm.Cond)  (h0 : Heap) (n0 : Nat) (Z0 : n0 ≤ h0.size) :
    MetFree l my15 (head1 (Jvm.Cond.code my15 jdk_29_method_69_code 2 (some .int) :: ws) Rm_min1) (fun aa_ U => aa_ = #[(.int (1 : Int32)), (.int (1 : Int32))] ∧ Z.Warmed39 U.vm ∧ U.heap = h0) (fun _ _ _ _ _ => True) (fun _ U oo_ U' => ∃ v L, oo_ = .returned v ∧ Qmin1 Z  h0 n0 v U'.heap L ∧ FrameEnd U oo_ U' L Rm_min1.cells Rm_min1.slots) := by
  refine MetFree.of_bodySF (Jvm.Free.JP.mathPlain rfl (by decide +kernel)) hisR ?_
  intro p e s m args below meth c s₁ Bd hml0 hP hK
  obtain ⟨rfl, hZ, hh⟩ := hP
  have hx := Bd.exec
  have hby := Bd.bytes
  have hml : c.maxLocals = 2 := hml0
  have hown : s.vm.findClass "java/lang/Math" = some m.cls := findClass_of_methodNamed Bd.named
  have hnm := (name_of_methodNamed Bd.named Bd.method).1
  have X0 : Stand p l e Rm_min1 s m #[(.int (1 : Int32)), (.int (1 : Int32))] below meth c s₁ [] 0 0 := Stand.of_body Bd
  have e0 : s₁.heap = h0 := by rw [← hh, Bd.state]; rfl
  have N0 := Fr.nil n0
  have pre0 : ∀ tt_, Steps p.tables e below (s₁.setTop (mkF m 0 #[.val (.int (1 : Int32)), .val (.int (1 : Int32))] [])) tt_ → Steps p.tables e below (s₁.setTop (entryFrame m #[(.int (1 : Int32)), (.int (1 : Int32))] 2)) tt_ := fun tt_ kk_ => castTop (ef_22 m (1 : Int32) (1 : Int32)) kk_
  obtain ⟨fs, hr, hrun, hended, hW, hsame⟩ := X0.leave (v := some (.int (1 : Int32))) (fun h => by rw [Bd.returns] at h; cases h)
  refine ⟨_, _, pre0 _ ?_, hrun, hended, _, _, rfl, ?_, ⟨_, rfl⟩, hW, hsame.mono (by decide) (by decide)⟩
  · show Steps p.tables e below (s₁.setTop (mkF m 0 #[.val (.int (1 : Int32)), .val (.int (1 : Int32))] [])) _
    refine XS.iloadN X0.here hx rfl (hb hby d22_0) rfl ?_
    refine XS.iloadN X0.here hx rfl (hb hby d22_1) rfl ?_
    refine XS.icmpNo X0.here hx rfl (hb hby d22_2) rfl (flt (show ¬ ((1 : Int32) < (1 : Int32)) from (by decide))).2.2.1 ?_
    refine XS.iloadN X0.here hx rfl (hb hby d22_5) rfl ?_
    refine XS.goto X0.here hx rfl (pc0 := 6) (pc' := 10) rfl (hb hby d22_6) (by decide) (by decide) ?_
    exact retI X0 hx Bd.returns (hb hby d22_10) hr
  · show Qmin1 Z  h0 n0 _ s₁.heap _
    rw [e0]
    exact ⟨rfl, N0, rfl⟩
theorem d21_0 : decode jdk_65_method_131_code 0 = .ok (.iload_n 1, 1) := by decide +kernel
theorem d21_1 : decode jdk_65_method_131_code 1 = .ok (.iload_n 0, 1) := by decide +kernel
theorem d21_2 : decode jdk_65_method_131_code 2 = .ok (.if_icmp .ge 35, 3) := by decide +kernel
theorem d21_37 : decode jdk_65_method_131_code 37 = .ok (.return_, 1) := by decide +kernel
theorem pn_6 : plainName "java/util/Arrays" = true := by first | (simp [plainName, overriddenIn]; done) | decide +kernel
theorem ef_21 (m : MethodId) (x0 : Int32) (x1 : Int32) : entryFrame m #[(.int x0), (.int x1)] 2 = mkF m 0 #[.val (.int x0), .val (.int x1)] [] := by first | (simp [entryFrame, mkF, argsToLocals, Value.category]; done) | rfl
def Qchl31 (Z : State)  (h0 : Heap) (n0 : Nat) (v : Option Value) (h : Heap) (L : List Loc) : Prop := v = none ∧ Fr n0 L ∧ h = h0
abbrev my16 : MethodName := ⟨"java/util/Arrays", "checkLength", "(II)V"⟩
abbrev Rm_chl31 : Room := { frames := 0, cells := 0, slots := 0, locals := 0 }
set_option maxRecDepth 65536 in
set_option maxHeartbeats 40000000 in
theorem chl31 (l : Launch) (Z : State) (a0 : Array Value) (hw : ∀ d ∈ tables_1, d.before a0 Z = true) (ws : List Jvm.Cond)  (h0 : Heap) (n0 : Nat) (Z0 : n0 ≤ h0.size) :
    MetFree l my16 (head1 (Jvm.Cond.code my16 jdk_65_method_131_code 2 none :: ws) Rm_chl31) (fun aa_ U => aa_ = #[(.int (30 : Int32)), (.int (31 : Int32))] ∧ Z.Warmed39 U.vm ∧ U.heap = h0) (fun _ _ _ _ _ => True) (fun _ U oo_ U' => ∃ v L, oo_ = .returned v ∧ Qchl31 Z  h0 n0 v U'.heap L ∧ FrameEnd U oo_ U' L Rm_chl31.cells Rm_chl31.slots) := by
  refine MetFree.of_bodySF (plainFor_of_name pn_6) hisR ?_
  intro p e s m args below meth c s₁ Bd hml0 hP hK
  obtain ⟨rfl, hZ, hh⟩ := hP
  have hx := Bd.exec
  have hby := Bd.bytes
  have hml : c.maxLocals = 2 := hml0
  have hown : s.vm.findClass "java/util/Arrays" = some m.cls := findClass_of_methodNamed Bd.named
  have hnm := (name_of_methodNamed Bd.named Bd.method).1
  have X0 : Stand p l e Rm_chl31 s m #[(.int (30 : Int32)), (.int (31 : Int32))] below meth c s₁ [] 0 0 := Stand.of_body Bd
  have e0 : s₁.heap = h0 := by rw [← hh, Bd.state]; rfl
  have N0 := Fr.nil n0
  have pre0 : ∀ tt_, Steps p.tables e below (s₁.setTop (mkF m 0 #[.val (.int (30 : Int32)), .val (.int (31 : Int32))] [])) tt_ → Steps p.tables e below (s₁.setTop (entryFrame m #[(.int (30 : Int32)), (.int (31 : Int32))] 2)) tt_ := fun tt_ kk_ => castTop (ef_21 m (30 : Int32) (31 : Int32)) kk_
  obtain ⟨fs, hr, hrun, hended, hW, hsame⟩ := X0.leave (v := none) (fun _ => rfl)
  refine ⟨_, _, pre0 _ ?_, hrun, hended, _, _, rfl, ?_, ⟨_, rfl⟩, hW, hsame.mono (by decide) (by decide)⟩
  · show Steps p.tables e below (s₁.setTop (mkF m 0 #[.val (.int (30 : Int32)), .val (.int (31 : Int32))] [])) _
    refine XS.iloadN X0.here hx rfl (hb hby d21_0) rfl ?_
    refine XS.iloadN X0.here hx rfl (hb hby d21_1) rfl ?_
    refine XS.icmpYes X0.here hx rfl (pc0 := 2) (pc' := 37) rfl (hb hby d21_2) rfl (flt (show ¬ ((31 : Int32) < (30 : Int32)) from (by decide))).2.1 (by decide) (by decide) ?_
    exact X0.returnOut hx Bd.returns (hb hby d21_37) hr
  · show Qchl31 Z  h0 n0 _ s₁.heap _
    rw [e0]
    exact ⟨rfl, N0, rfl⟩
theorem hwd98 {Z : State} {a0 : Array Value} (hw : ∀ d ∈ tables_1, d.before a0 Z = true) : (Jvm.Cond.methodLink "java/util/Arrays" (343 : Nat) ({ cls := "java/util/Arrays", name := "checkLength", desc := "(II)V" } : Jvm.MethodName)).before a0 Z = true := hw _ (List.mem_of_getElem? (i := 98) rfl)
theorem hwd100 {Z : State} {a0 : Array Value} (hw : ∀ d ∈ tables_1, d.before a0 Z = true) : (Jvm.Cond.code ({ cls := "java/util/Arrays", name := "checkLength", desc := "(II)V" } : Jvm.MethodName) jdk_65_method_131_code (2 : Nat) (Option.none : Option Jvm.ClassFile.FieldType)).before a0 Z = true := hw _ (List.mem_of_getElem? (i := 100) rfl)
theorem hwd93 {Z : State} {a0 : Array Value} (hw : ∀ d ∈ tables_1, d.before a0 Z = true) : (Jvm.Cond.initialized "java/util/Arrays").before a0 Z = true := hw _ (List.mem_of_getElem? (i := 93) rfl)
theorem pd_9 : parseMethodDescriptor "(II)V" = some ⟨[.int, .int], none⟩ := by decide +kernel
theorem hwd99 {Z : State} {a0 : Array Value} (hw : ∀ d ∈ tables_1, d.before a0 Z = true) : (Jvm.Cond.static ({ cls := "java/util/Arrays", name := "checkLength", desc := "(II)V" } : Jvm.MethodName)).before a0 Z = true := hw _ (List.mem_of_getElem? (i := 99) rfl)
theorem hwd20 {Z : State} {a0 : Array Value} (hw : ∀ d ∈ tables_1, d.before a0 Z = true) : (Jvm.Cond.arrayClass Jvm.ClassFile.FieldType.byte).before a0 Z = true := hw _ (List.mem_of_getElem? (i := 20) rfl)
theorem hwd101 {Z : State} {a0 : Array Value} (hw : ∀ d ∈ tables_1, d.before a0 Z = true) : (Jvm.Cond.methodLink "java/util/Arrays" (304 : Nat) ({ cls := "java/lang/Math", name := "min", desc := "(II)I" } : Jvm.MethodName)).before a0 Z = true := hw _ (List.mem_of_getElem? (i := 101) rfl)
theorem hwd104 {Z : State} {a0 : Array Value} (hw : ∀ d ∈ tables_1, d.before a0 Z = true) : (Jvm.Cond.code ({ cls := "java/lang/Math", name := "min", desc := "(II)I" } : Jvm.MethodName) jdk_29_method_69_code (2 : Nat) (Option.some Jvm.ClassFile.FieldType.int)).before a0 Z = true := hw _ (List.mem_of_getElem? (i := 104) rfl)
theorem hwd103 {Z : State} {a0 : Array Value} (hw : ∀ d ∈ tables_1, d.before a0 Z = true) : (Jvm.Cond.initialized "java/lang/Math").before a0 Z = true := hw _ (List.mem_of_getElem? (i := 103) rfl)
theorem pd_10 : parseMethodDescriptor "(II)I" = some ⟨[.int, .int], some .int⟩ := by decide +kernel
theorem hwd102 {Z : State} {a0 : Array Value} (hw : ∀ d ∈ tables_1, d.before a0 Z = true) : (Jvm.Cond.static ({ cls := "java/lang/Math", name := "min", desc := "(II)I" } : Jvm.MethodName)).before a0 Z = true := hw _ (List.mem_of_getElem? (i := 102) rfl)
theorem hwd105 {Z : State} {a0 : Array Value} (hw : ∀ d ∈ tables_1, d.before a0 Z = true) : (Jvm.Cond.methodLink "java/util/Arrays" (150 : Nat) ({ cls := "java/lang/System", name := "arraycopy", desc := "(Ljava/lang/Object;ILjava/lang/Object;II)V" } : Jvm.MethodName)).before a0 Z = true := hw _ (List.mem_of_getElem? (i := 105) rfl)
theorem hwd108 {Z : State} {a0 : Array Value} (hw : ∀ d ∈ tables_1, d.before a0 Z = true) : (Jvm.Cond.native ({ cls := "java/lang/System", name := "arraycopy", desc := "(Ljava/lang/Object;ILjava/lang/Object;II)V" } : Jvm.MethodName)).before a0 Z = true := hw _ (List.mem_of_getElem? (i := 108) rfl)
theorem hwd106 {Z : State} {a0 : Array Value} (hw : ∀ d ∈ tables_1, d.before a0 Z = true) : (Jvm.Cond.static ({ cls := "java/lang/System", name := "arraycopy", desc := "(Ljava/lang/Object;ILjava/lang/Object;II)V" } : Jvm.MethodName)).before a0 Z = true := hw _ (List.mem_of_getElem? (i := 106) rfl)
theorem hwd107 {Z : State} {a0 : Array Value} (hw : ∀ d ∈ tables_1, d.before a0 Z = true) : (Jvm.Cond.initialized "java/lang/System").before a0 Z = true := hw _ (List.mem_of_getElem? (i := 107) rfl)
theorem d20_0 : decode jdk_65_method_133_code 0 = .ok (.iload_n 1, 1) := by decide +kernel
theorem d20_1 : decode jdk_65_method_133_code 1 = .ok (.iload_n 2, 1) := by decide +kernel
theorem d20_2 : decode jdk_65_method_133_code 2 = .ok (.invokestatic 343, 3) := by decide +kernel
theorem d20_5 : decode jdk_65_method_133_code 5 = .ok (.iload_n 2, 1) := by decide +kernel
theorem d20_6 : decode jdk_65_method_133_code 6 = .ok (.iload_n 1, 1) := by decide +kernel
theorem d20_7 : decode jdk_65_method_133_code 7 = .ok (.isub, 1) := by decide +kernel
theorem d20_8 : decode jdk_65_method_133_code 8 = .ok (.istore_n 3, 1) := by decide +kernel
theorem d20_9 : decode jdk_65_method_133_code 9 = .ok (.iload_n 3, 1) := by decide +kernel
theorem d20_10 : decode jdk_65_method_133_code 10 = .ok (.newarray .byte, 2) := by decide +kernel
theorem d20_12 : decode jdk_65_method_133_code 12 = .ok (.astore 4, 2) := by decide +kernel
theorem d20_14 : decode jdk_65_method_133_code 14 = .ok (.aload_n 0, 1) := by decide +kernel
theorem d20_15 : decode jdk_65_method_133_code 15 = .ok (.iload_n 1, 1) := by decide +kernel
theorem d20_16 : decode jdk_65_method_133_code 16 = .ok (.aload 4, 2) := by decide +kernel
theorem d20_18 : decode jdk_65_method_133_code 18 = .ok (.iconst 0, 1) := by decide +kernel
theorem d20_19 : decode jdk_65_method_133_code 19 = .ok (.aload_n 0, 1) := by decide +kernel
theorem d20_20 : decode jdk_65_method_133_code 20 = .ok (.arraylength, 1) := by decide +kernel
theorem d20_21 : decode jdk_65_method_133_code 21 = .ok (.iload_n 1, 1) := by decide +kernel
theorem d20_22 : decode jdk_65_method_133_code 22 = .ok (.isub, 1) := by decide +kernel
theorem d20_23 : decode jdk_65_method_133_code 23 = .ok (.iload_n 3, 1) := by decide +kernel
theorem d20_24 : decode jdk_65_method_133_code 24 = .ok (.invokestatic 304, 3) := by decide +kernel
theorem d20_27 : decode jdk_65_method_133_code 27 = .ok (.invokestatic 150, 3) := by decide +kernel
theorem d20_30 : decode jdk_65_method_133_code 30 = .ok (.aload 4, 2) := by decide +kernel
theorem d20_32 : decode jdk_65_method_133_code 32 = .ok (.areturn, 1) := by decide +kernel
theorem ef_20 (m : MethodId) (x0 : Addr) (x1 : Int32) (x2 : Int32) : entryFrame m #[(.ref x0), (.int x1), (.int x2)] 5 = mkF m 0 #[.val (.ref x0), .val (.int x1), .val (.int x2), .unset, .unset] [] := by first | (simp [entryFrame, mkF, argsToLocals, Value.category]; done) | rfl
def Qcrb31 (Z : State) (b : Addr) (kb : ClassId) (vs : List Value) (h0 : Heap) (n0 : Nat) (v : Option Value) (h : Heap) (L : List Loc) : Prop := ∃ t : Addr, ∃ kt : ClassId, ∃ us : List Value, v = some (.ref t) ∧ Fr n0 L ∧ Keep h0 h [] ∧ Arv Z h t kt .byte (1 : Int32) us (.int (0 : Int32)) ∧ h0.size ≤ t ∧ n0 ≤ t
abbrev my17 : MethodName := ⟨"java/util/Arrays", "copyOfRangeByte", "([BII)[B"⟩
abbrev Rm_crb31 : Room := { frames := 1, cells := 1, slots := 1, locals := 18 }
set_option maxRecDepth 65536 in
set_option maxHeartbeats 40000000 in
theorem crb31 (l : Launch) (Z : State) (a0 : Array Value) (hw : ∀ d ∈ tables_1, d.before a0 Z = true) (ws : List Jvm.Cond) (b : Addr) (kb : ClassId) (vs : List Value) (h0 : Heap) (n0 : Nat) (Z0 : n0 ≤ h0.size) (V_b : Arv Z h0 b kb .byte (31 : Int32) vs (.int 0)) :
    MetFree l my17 (head1 (Jvm.Cond.code my17 jdk_65_method_133_code 5 (some (.array .byte)) :: ws) Rm_crb31) (fun aa_ U => aa_ = #[(.ref b), (.int (30 : Int32)), (.int (31 : Int32))] ∧ Z.Warmed39 U.vm ∧ U.heap = h0) (fun _ _ _ _ _ => True) (fun _ U oo_ U' => ∃ v L, oo_ = .returned v ∧ Qcrb31 Z b kb vs h0 n0 v U'.heap L ∧ FrameEnd U oo_ U' L Rm_crb31.cells Rm_crb31.slots) := by
  refine MetFree.of_bodySF (plainFor_of_name pn_6) hisR ?_
  intro p e s m args below meth c s₁ Bd hml0 hP hK
  obtain ⟨rfl, hZ, hh⟩ := hP
  have hx := Bd.exec
  have hby := Bd.bytes
  have hml : c.maxLocals = 5 := hml0
  have hown : s.vm.findClass "java/util/Arrays" = some m.cls := findClass_of_methodNamed Bd.named
  have hnm := (name_of_methodNamed Bd.named Bd.method).1
  have X0 : Stand p l e Rm_crb31 s m #[(.ref b), (.int (30 : Int32)), (.int (31 : Int32))] below meth c s₁ [] 0 0 := Stand.of_body Bd
  have e0 : s₁.heap = h0 := by rw [← hh, Bd.state]; rfl
  have N0 := Fr.nil n0
  have pre0 : ∀ tt_, Steps p.tables e below (s₁.setTop (mkF m 0 #[.val (.ref b), .val (.int (30 : Int32)), .val (.int (31 : Int32)), .unset, .unset] [])) tt_ → Steps p.tables e below (s₁.setTop (entryFrame m #[(.ref b), (.int (30 : Int32)), (.int (31 : Int32))] 5)) tt_ := fun tt_ kk_ => castTop (ef_20 m b (30 : Int32) (31 : Int32)) kk_
  obtain ⟨_, _, ⟨T1, L1, k1, n1⟩, -, X1, ⟨Lc1, hQ1, l1, y1, z1⟩, st1⟩ := Jvm.LawKit.callS X0 hx (y := my16) hown (mvT hZ (hwd98 hw)) (mvT hZ (hwd99 hw)) (mvT hZ (hwd93 hw)) (mvT hZ (hwd100 hw)) (by decide) (backOf (W := 0) (chl31 l Z a0 hw []  h0 n0 Z0 ) hZ (hwd100 hw) (hwd93 hw) (by decide) (by decide)) (g := (mkF m 2 #[.val (.ref b), .val (.int (30 : Int32)), .val (.int (31 : Int32)), .unset, .unset] [(.int (31 : Int32)), (.int (30 : Int32))])) rfl (by rw [hml]; rfl) (argsL := [(.int (30 : Int32)), (.int (31 : Int32))]) (rest := []) (lenOf pd_9 rfl) rfl (by show 2 * 0 + _ ≤ _; exact Nat.le_of_eq rfl) (hb hby d20_2) (fun _ _ => ⟨rfl, e0, (by decide : 0 + 0 ≤ _), (by decide : 0 + 0 ≤ _)⟩)
  dsimp only [Pt.U, Pt.locs, Pt.cells, Pt.slots] at X1 l1 y1 z1 st1 hQ1
  subst l1 y1 z1
  obtain ⟨rfl, N1q, e1q⟩ := hQ1
  have N1 := Fr.app N0 N1q
  obtain ⟨T2, h2, k2, X2, e2, E2, A2, st2⟩ := newP (aty := .byte) X1 hx hZ (hwd20 hw) e1q (g := (mkF m 10 #[.val (.ref b), .val (.int (30 : Int32)), .val (.int (31 : Int32)), .val (.int (1 : Int32)), .unset] [(.int (1 : Int32))])) rfl (hb hby d20_10) rfl (by decide) (cap := 1) (by decide) (by decide) (by decide) (by decide)
  obtain ⟨b2, g2⟩ : ∃ zz_, zz_ = h0.size := ⟨_, rfl⟩
  rw [← g2] at A2 st2
  have ne_b_b2 : b ≠ b2 := Nat.ne_of_lt (Nat.lt_of_lt_of_le V_b.lt (Nat.le_of_eq g2.symm))
  have g_b2 : n0 ≤ b2 := Nat.le_trans Z0 (Nat.le_of_eq g2.symm)
  have sz_b2 : h0.size ≤ b2 := Nat.le_trans (Keep.refl h0 []).1 (Nat.le_of_eq g2.symm)
  have V_b2 : Arv Z h2 b2 k2 .byte (1 : Int32) (List.replicate 1 (.int (0 : Int32))) (.int (0 : Int32)) := (Arv.new A2 (by decide)).pad (pad_rep [] (.int (0 : Int32)) 1)
  have f3_V_b := (V_b.ext E2)
  obtain ⟨cl4, Ar4, -, S4, M4, -, -⟩ := id f3_V_b
  have sz6 : n0 ≤ h2.size := (Nat.le_trans Z0 E2.1)
  obtain ⟨_, _, ⟨T5, L5, k5, n5⟩, -, X5, ⟨Lc5, hQ5, l5, y5, z5⟩, st5⟩ := Jvm.LawKit.callS X2 hx (y := my15) hown (mvT hZ (hwd101 hw)) (mvT hZ (hwd102 hw)) (mvT hZ (hwd103 hw)) (mvT hZ (hwd104 hw)) (by decide) (backOf (W := 4) (min1 l Z a0 hw []  h2 n0 sz6 ) hZ (hwd104 hw) (hwd103 hw) (by decide) (by decide)) (g := (mkF m 24 #[.val (.ref b), .val (.int (30 : Int32)), .val (.int (31 : Int32)), .val (.int (1 : Int32)), .val (.ref b2)] [(.int (1 : Int32)), (.int (1 : Int32)), (.int (0 : Int32)), (.ref b2), (.int (30 : Int32)), (.ref b)])) rfl (by rw [hml]; rfl) (argsL := [(.int (1 : Int32)), (.int (1 : Int32))]) (rest := [(.int (0 : Int32)), (.ref b2), (.int (30 : Int32)), (.ref b)]) (lenOf pd_10 rfl) rfl (by show 2 * 0 + _ ≤ _; exact Nat.le_of_eq rfl) (hb hby d20_24) (fun _ _ => ⟨rfl, e2, (by decide : 1 + 0 ≤ _), (by decide : 1 + 0 ≤ _)⟩)
  dsimp only [Pt.U, Pt.locs, Pt.cells, Pt.slots] at X5 l5 y5 z5 st5 hQ5
  subst l5 y5 z5
  obtain ⟨rfl, N5q, e5q⟩ := hQ5
  have N5 := Fr.app N1 N5q
  obtain ⟨T8, h8, L8, X8, e8, N8, K8, V8, st8⟩ := cpA X5 hx hZ hown (hwd105 hw) (hwd108 hw) (hwd106 hw) (hwd107 hw) e5q f3_V_b V_b2 (us := ((List.range 1).map fun ii_ => vs.getD (30 + ii_) (.int 0))) (Or.inl ⟨rfl, rfl⟩) (by decide) (by decide) (by decide) (by decide) (by decide) (by rfl) (by simp) N5 g_b2 (g := (mkF m 27 #[.val (.ref b), .val (.int (30 : Int32)), .val (.int (31 : Int32)), .val (.int (1 : Int32)), .val (.ref b2)] [(.int (1 : Int32)), (.int (0 : Int32)), (.ref b2), (.int (30 : Int32)), (.ref b)])) rfl (by rw [hml]; rfl) rfl (hb hby d20_27) (by decide) (W := 0) (by show 2 * 0 + _ ≤ _; exact Nat.le_of_eq rfl) (by decide)
  have Vc8 : Arv Z h8 b2 k2 .byte (1 : Int32) (List.take (Int32.toNatClampNeg (0 : Int32)) (List.replicate 1 (.int (0 : Int32))) ++ ((List.range 1).map fun ii_ => vs.getD (30 + ii_) (.int 0)) ++ List.drop (Int32.toNatClampNeg (0 : Int32) + Int32.toNatClampNeg (1 : Int32)) (List.replicate 1 (.int (0 : Int32)))) (.int (0 : Int32)) := V8
  have kp9 : Keep h0 h8 [] := (((Keep.refl h0 []).ext E2).trans K8 (allS (Or.inr sz_b2) all0))
  obtain ⟨fs, hr, hrun, hended, hW, hsame⟩ := X8.leave (v := some (.ref b2)) (fun h => by rw [Bd.returns] at h; cases h)
  refine ⟨_, _, pre0 _ ?_, hrun, hended, _, _, rfl, ?_, ⟨_, rfl⟩, hW, hsame.mono (by decide) (by decide)⟩
  · show Steps p.tables e below (s₁.setTop (mkF m 0 #[.val (.ref b), .val (.int (30 : Int32)), .val (.int (31 : Int32)), .unset, .unset] [])) _
    refine XS.iloadN X0.here hx rfl (hb hby d20_0) rfl ?_
    refine XS.iloadN X0.here hx rfl (hb hby d20_1) rfl ?_
    refine st1 _ ?_
    refine XS.iloadN X1.here hx rfl (hb hby d20_5) rfl ?_
    refine XS.iloadN X1.here hx rfl (hb hby d20_6) rfl ?_
    refine XS.isub X1.here hx rfl (hb hby d20_7) rfl ?_
    show Steps p.tables e below (T1.setTop (mkF m 8 #[.val (.ref b), .val (.int (30 : Int32)), .val (.int (31 : Int32)), .unset, .unset] [(.int ((31 : Int32) - (30 : Int32)))])) _
    rw [show (((31 : Int32) - (30 : Int32)) : Int32) = (1 : Int32) from by decide]
    refine XS.istoreN X1.here hx rfl (hb hby d20_8) rfl (l' := #[.val (.ref b), .val (.int (30 : Int32)), .val (.int (31 : Int32)), .val (.int (1 : Int32)), .unset]) rfl ?_
    refine XS.iloadN X1.here hx rfl (hb hby d20_9) rfl ?_
    refine st2 _ ?_
    refine XS.astore X2.here hx rfl (hb hby d20_12) rfl rfl (l' := #[.val (.ref b), .val (.int (30 : Int32)), .val (.int (31 : Int32)), .val (.int (1 : Int32)), .val (.ref b2)]) rfl ?_
    refine XS.aloadN X2.here hx rfl (hb hby d20_14) rfl rfl ?_
    show Steps p.tables e below (T2.setTop (mkF m 15 #[.val (.ref b), .val (.int (30 : Int32)), .val (.int (31 : Int32)), .val (.int (1 : Int32)), .val (.ref b2)] [(.ref b)])) _
    refine XS.iloadN X2.here hx rfl (hb hby d20_15) rfl ?_
    refine XS.aload X2.here hx rfl (hb hby d20_16) rfl rfl ?_
    refine XS.iconst X2.here hx rfl (hb hby d20_18) ?_
    refine XS.aloadN X2.here hx rfl (hb hby d20_19) rfl rfl ?_
    refine X2.arraylength hx (by rw [e2]; exact Ar4.1) (State.isArrayOf_alike hZ.alike Ar4.2.1) (g := (mkF m 20 #[.val (.ref b), .val (.int (30 : Int32)), .val (.int (31 : Int32)), .val (.int (1 : Int32)), .val (.ref b2)] [(.ref b), (.int (0 : Int32)), (.ref b2), (.int (30 : Int32)), (.ref b)])) rfl rfl (hb hby d20_20) _ ?_
    rw [len_of S4 M4]
    refine XS.iloadN X2.here hx rfl (hb hby d20_21) rfl ?_
    show Steps p.tables e below (T2.setTop (mkF m 22 #[.val (.ref b), .val (.int (30 : Int32)), .val (.int (31 : Int32)), .val (.int (1 : Int32)), .val (.ref b2)] [(.int (30 : Int32)), (.int (31 : Int32)), (.int (0 : Int32)), (.ref b2), (.int (30 : Int32)), (.ref b)])) _
    refine XS.isub X2.here hx rfl (hb hby d20_22) rfl ?_
    show Steps p.tables e below (T2.setTop (mkF m 23 #[.val (.ref b), .val (.int (30 : Int32)), .val (.int (31 : Int32)), .val (.int (1 : Int32)), .val (.ref b2)] [(.int ((31 : Int32) - (30 : Int32))), (.int (0 : Int32)), (.ref b2), (.int (30 : Int32)), (.ref b)])) _
    rw [show (((31 : Int32) - (30 : Int32)) : Int32) = (1 : Int32) from by decide]
    refine XS.iloadN X2.here hx rfl (hb hby d20_23) rfl ?_
    refine st5 _ ?_
    refine st8 _ ?_
    refine XS.aload X8.here hx rfl (hb hby d20_30) rfl rfl ?_
    jvm_step X8.here [X8.here.top, hx, (hb hby d20_32), X8.method', Bd.returns, Value.isRef, FieldType.isReference]
    first | (intro acts; rw [hr _ acts rfl rfl rfl]) | rw [hr _ _ rfl rfl rfl]
    exact Steps.refl _
  · show Qcrb31 Z b kb vs h0 n0 _ T8.heap _
    rw [e8]
    exact ⟨b2, k2, (List.take (Int32.toNatClampNeg (0 : Int32)) (List.replicate 1 (.int (0 : Int32))) ++ ((List.range 1).map fun ii_ => vs.getD (30 + ii_) (.int 0)) ++ List.drop (Int32.toNatClampNeg (0 : Int32) + Int32.toNatClampNeg (1 : Int32)) (List.replicate 1 (.int (0 : Int32)))), rfl, N8, kp9, Vc8, sz_b2, g_b2⟩
theorem hwd95 {Z : State} {a0 : Array Value} (hw : ∀ d ∈ tables_1, d.before a0 Z = true) : (Jvm.Cond.methodLink "java/util/Arrays" (339 : Nat) ({ cls := "java/util/Arrays", name := "copyOfRangeByte", desc := "([BII)[B" } : Jvm.MethodName)).before a0 Z = true := hw _ (List.mem_of_getElem? (i := 95) rfl)
theorem hwd97 {Z : State} {a0 : Array Value} (hw : ∀ d ∈ tables_1, d.before a0 Z = true) : (Jvm.Cond.code ({ cls := "java/util/Arrays", name := "copyOfRangeByte", desc := "([BII)[B" } : Jvm.MethodName) jdk_65_method_133_code (5 : Nat) (Option.some (Jvm.ClassFile.FieldType.array Jvm.ClassFile.FieldType.byte))).before a0 Z = true := hw _ (List.mem_of_getElem? (i := 97) rfl)
theorem pd_11 : parseMethodDescriptor "([BII)[B" = some ⟨[(.array .byte), .int, .int], some (.array .byte)⟩ := by decide +kernel
theorem hwd96 {Z : State} {a0 : Array Value} (hw : ∀ d ∈ tables_1, d.before a0 Z = true) : (Jvm.Cond.static ({ cls := "java/util/Arrays", name := "copyOfRangeByte", desc := "([BII)[B" } : Jvm.MethodName)).before a0 Z = true := hw _ (List.mem_of_getElem? (i := 96) rfl)
theorem d19_0 : decode jdk_65_method_132_code 0 = .ok (.iload_n 1, 1) := by decide +kernel
theorem d19_1 : decode jdk_65_method_132_code 1 = .ok (.ifCond .ne 9, 3) := by decide +kernel
theorem d19_10 : decode jdk_65_method_132_code 10 = .ok (.aload_n 0, 1) := by decide +kernel
theorem d19_11 : decode jdk_65_method_132_code 11 = .ok (.iload_n 1, 1) := by decide +kernel
theorem d19_12 : decode jdk_65_method_132_code 12 = .ok (.iload_n 2, 1) := by decide +kernel
theorem d19_13 : decode jdk_65_method_132_code 13 = .ok (.invokestatic 339, 3) := by decide +kernel
theorem d19_16 : decode jdk_65_method_132_code 16 = .ok (.areturn, 1) := by decide +kernel
theorem ef_19 (m : MethodId) (x0 : Addr) (x1 : Int32) (x2 : Int32) : entryFrame m #[(.ref x0), (.int x1), (.int x2)] 3 = mkF m 0 #[.val (.ref x0), .val (.int x1), .val (.int x2)] [] := by first | (simp [entryFrame, mkF, argsToLocals, Value.category]; done) | rfl
def Qcor31 (Z : State) (b : Addr) (kb : ClassId) (vs : List Value) (h0 : Heap) (n0 : Nat) (v : Option Value) (h : Heap) (L : List Loc) : Prop := ∃ t : Addr, ∃ kt : ClassId, ∃ us : List Value, v = some (.ref t) ∧ Fr n0 L ∧ Keep h0 h [] ∧ Arv Z h t kt .byte (1 : Int32) us (.int (0 : Int32)) ∧ h0.size ≤ t ∧ n0 ≤ t
abbrev my18 : MethodName := ⟨"java/util/Arrays", "copyOfRange", "([BII)[B"⟩
abbrev Rm_cor31 : Room := { frames := 2, cells := 1, slots := 1, locals := 34 }
set_option maxRecDepth 65536 in
set_option maxHeartbeats 40000000 in
theorem cor31 (l : Launch) (Z : State) (a0 : Array Value) (hw : ∀ d ∈ tables_1, d.before a0 Z = true) (ws : List Jvm.Cond) (b : Addr) (kb : ClassId) (vs : List Value) (h0 : Heap) (n0 : Nat) (Z0 : n0 ≤ h0.size) (V_b : Arv Z h0 b kb .byte (31 : Int32) vs (.int 0)) :
    MetFree l my18 (head1 (Jvm.Cond.code my18 jdk_65_method_132_code 3 (some (.array .byte)) :: ws) Rm_cor31) (fun aa_ U => aa_ = #[(.ref b), (.int (30 : Int32)), (.int (31 : Int32))] ∧ Z.Warmed39 U.vm ∧ U.heap = h0) (fun _ _ _ _ _ => True) (fun _ U oo_ U' => ∃ v L, oo_ = .returned v ∧ Qcor31 Z b kb vs h0 n0 v U'.heap L ∧ FrameEnd U oo_ U' L Rm_cor31.cells Rm_cor31.slots) := by
  refine MetFree.of_bodySF (plainFor_of_name pn_6) hisR ?_
  intro p e s m args below meth c s₁ Bd hml0 hP hK
  obtain ⟨rfl, hZ, hh⟩ := hP
  have hx := Bd.exec
  have hby := Bd.bytes
  have hml : c.maxLocals = 3 := hml0
  have hown : s.vm.findClass "java/util/Arrays" = some m.cls := findClass_of_methodNamed Bd.named
  have hnm := (name_of_methodNamed Bd.named Bd.method).1
  have X0 : Stand p l e Rm_cor31 s m #[(.ref b), (.int (30 : Int32)), (.int (31 : Int32))] below meth c s₁ [] 0 0 := Stand.of_body Bd
  have e0 : s₁.heap = h0 := by rw [← hh, Bd.state]; rfl
  have N0 := Fr.nil n0
  have pre0 : ∀ tt_, Steps p.tables e below (s₁.setTop (mkF m 0 #[.val (.ref b), .val (.int (30 : Int32)), .val (.int (31 : Int32))] [])) tt_ → Steps p.tables e below (s₁.setTop (entryFrame m #[(.ref b), (.int (30 : Int32)), (.int (31 : Int32))] 3)) tt_ := fun tt_ kk_ => castTop (ef_19 m b (30 : Int32) (31 : Int32)) kk_
  obtain ⟨_, _, ⟨T1, L1, k1, n1⟩, -, X1, ⟨Lc1, hQ1, l1, y1, z1⟩, st1⟩ := Jvm.LawKit.callS X0 hx (y := my17) hown (mvT hZ (hwd95 hw)) (mvT hZ (hwd96 hw)) (mvT hZ (hwd93 hw)) (mvT hZ (hwd97 hw)) (by decide) (backOf (W := 0) (crb31 l Z a0 hw [] b kb vs h0 n0 Z0 V_b) hZ (hwd97 hw) (hwd93 hw) (by decide) (by decide)) (g := (mkF m 13 #[.val (.ref b), .val (.int (30 : Int32)), .val (.int (31 : Int32))] [(.int (31 : Int32)), (.int (30 : Int32)), (.ref b)])) rfl (by rw [hml]; rfl) (argsL := [(.ref b), (.int (30 : Int32)), (.int (31 : Int32))]) (rest := []) (lenOf pd_11 rfl) rfl (by show 2 * 0 + _ ≤ _; exact Nat.le_of_eq rfl) (hb hby d19_13) (fun _ _ => ⟨rfl, e0, (by decide : 0 + 1 ≤ _), (by decide : 0 + 1 ≤ _)⟩)
  dsimp only [Pt.U, Pt.locs, Pt.cells, Pt.slots] at X1 l1 y1 z1 st1 hQ1
  subst l1 y1 z1
  obtain ⟨t_e1, kt_e1, us_e1, rfl, N1q, K1, p1_1, sz_t_1, g_t_1⟩ := hQ1
  have N1 := Fr.app N0 N1q
  have kp2 : Keep h0 T1.heap [] := ((Keep.refl h0 []).trans K1 all0)
  obtain ⟨fs, hr, hrun, hended, hW, hsame⟩ := X1.leave (v := some (.ref t_e1)) (fun h => by rw [Bd.returns] at h; cases h)
  refine ⟨_, _, pre0 _ ?_, hrun, hended, _, _, rfl, ?_, ⟨_, rfl⟩, hW, hsame.mono (by decide) (by decide)⟩
  · show Steps p.tables e below (s₁.setTop (mkF m 0 #[.val (.ref b), .val (.int (30 : Int32)), .val (.int (31 : Int32))] [])) _
    refine XS.iloadN X0.here hx rfl (hb hby d19_0) rfl ?_
    refine XS.ifYes X0.here hx rfl (pc0 := 1) (pc' := 10) rfl (hb hby d19_1) rfl ((if0 _ _).trans (feq (show ¬ ((30 : Int32) = (0 : Int32)) from (by decide))).2) (by decide) (by decide) ?_
    refine XS.aloadN X0.here hx rfl (hb hby d19_10) rfl rfl ?_
    refine XS.iloadN X0.here hx rfl (hb hby d19_11) rfl ?_
    refine XS.iloadN X0.here hx rfl (hb hby d19_12) rfl ?_
    refine st1 _ ?_
    show Steps p.tables e below (T1.setTop (mkF m 16 #[.val (.ref b), .val (.int (30 : Int32)), .val (.int (31 : Int32))] [(.ref t_e1)])) _
    jvm_step X1.here [X1.here.top, hx, (hb hby d19_16), X1.method', Bd.returns, Value.isRef, FieldType.isReference]
    first | (intro acts; rw [hr _ acts rfl rfl rfl]) | rw [hr _ _ rfl rfl rfl]
    exact Steps.refl _
  · show Qcor31 Z b kb vs h0 n0 _ T1.heap _
    exact ⟨t_e1, kt_e1, us_e1, rfl, N1, kp2, p1_1, (Nat.le_trans (Keep.refl h0 []).1 sz_t_1), g_t_1⟩
theorem hwd90 {Z : State} {a0 : Array Value} (hw : ∀ d ∈ tables_1, d.before a0 Z = true) : (Jvm.Cond.classLink "java/lang/StringLatin1" (1 : Nat) "java/lang/String").before a0 Z = true := hw _ (List.mem_of_getElem? (i := 90) rfl)
theorem hwd91 {Z : State} {a0 : Array Value} (hw : ∀ d ∈ tables_1, d.before a0 Z = true) : (Jvm.Cond.methodLink "java/lang/StringLatin1" (232 : Nat) ({ cls := "java/util/Arrays", name := "copyOfRange", desc := "([BII)[B" } : Jvm.MethodName)).before a0 Z = true := hw _ (List.mem_of_getElem? (i := 91) rfl)
theorem hwd94 {Z : State} {a0 : Array Value} (hw : ∀ d ∈ tables_1, d.before a0 Z = true) : (Jvm.Cond.code ({ cls := "java/util/Arrays", name := "copyOfRange", desc := "([BII)[B" } : Jvm.MethodName) jdk_65_method_132_code (3 : Nat) (Option.some (Jvm.ClassFile.FieldType.array Jvm.ClassFile.FieldType.byte))).before a0 Z = true := hw _ (List.mem_of_getElem? (i := 94) rfl)
theorem hwd92 {Z : State} {a0 : Array Value} (hw : ∀ d ∈ tables_1, d.before a0 Z = true) : (Jvm.Cond.static ({ cls := "java/util/Arrays", name := "copyOfRange", desc := "([BII)[B" } : Jvm.MethodName)).before a0 Z = true := hw _ (List.mem_of_getElem? (i := 92) rfl)
theorem hwd109 {Z : State} {a0 : Array Value} (hw : ∀ d ∈ tables_1, d.before a0 Z = true) : (Jvm.Cond.methodLink "java/lang/StringLatin1" (112 : Nat) ({ cls := "java/lang/String", name := "<init>", desc := "([BB)V" } : Jvm.MethodName)).before a0 Z = true := hw _ (List.mem_of_getElem? (i := 109) rfl)
theorem hwd111 {Z : State} {a0 : Array Value} (hw : ∀ d ∈ tables_1, d.before a0 Z = true) : (Jvm.Cond.code ({ cls := "java/lang/String", name := "<init>", desc := "([BB)V" } : Jvm.MethodName) jdk_42_method_151_code (3 : Nat) (Option.none : Option Jvm.ClassFile.FieldType)).before a0 Z = true := hw _ (List.mem_of_getElem? (i := 111) rfl)
theorem pd_12 : parseMethodDescriptor "([BB)V" = some ⟨[(.array .byte), .byte], none⟩ := by decide +kernel
theorem hwd110 {Z : State} {a0 : Array Value} (hw : ∀ d ∈ tables_1, d.before a0 Z = true) : (Jvm.Cond.instanceMethod ({ cls := "java/lang/String", name := "<init>", desc := "([BB)V" } : Jvm.MethodName)).before a0 Z = true := hw _ (List.mem_of_getElem? (i := 110) rfl)
theorem d17_7 : decode jdk_43_method_47_code 7 = .ok (.new 1, 3) := by decide +kernel
theorem d17_10 : decode jdk_43_method_47_code 10 = .ok (.dup, 1) := by decide +kernel
theorem d17_11 : decode jdk_43_method_47_code 11 = .ok (.aload_n 0, 1) := by decide +kernel
theorem d17_12 : decode jdk_43_method_47_code 12 = .ok (.iload_n 1, 1) := by decide +kernel
theorem d17_13 : decode jdk_43_method_47_code 13 = .ok (.iload_n 1, 1) := by decide +kernel
theorem d17_14 : decode jdk_43_method_47_code 14 = .ok (.iload_n 2, 1) := by decide +kernel
theorem d17_15 : decode jdk_43_method_47_code 15 = .ok (.iadd, 1) := by decide +kernel
theorem d17_16 : decode jdk_43_method_47_code 16 = .ok (.invokestatic 232, 3) := by decide +kernel
theorem d17_19 : decode jdk_43_method_47_code 19 = .ok (.iconst 0, 1) := by decide +kernel
theorem d17_20 : decode jdk_43_method_47_code 20 = .ok (.invokespecial 112, 3) := by decide +kernel
theorem d17_23 : decode jdk_43_method_47_code 23 = .ok (.areturn, 1) := by decide +kernel
def Qnst31 (Z : State) (b : Addr) (kb : ClassId) (vs : List Value) (h0 : Heap) (n0 : Nat) (v : Option Value) (h : Heap) (L : List Loc) : Prop := ∃ s2 : Addr, ∃ b2 : Addr, ∃ kb2 : ClassId, ∃ v2 : List Value, v = some (.ref s2) ∧ Fr n0 L ∧ Keep h0 h [] ∧ Exa Z h s2 "java/lang/String" ∧ Fld Z h s2 "java/lang/String" "value" "[B" (.ref b2) ∧ Fld Z h s2 "java/lang/String" "coder" "B" (.int (0 : Int32)) ∧ Arv Z h b2 kb2 .byte (1 : Int32) v2 (.int 0)
abbrev Rm_nst31 : Room := { frames := 3, cells := 2, slots := 5, locals := 50 }
set_option maxRecDepth 65536 in
set_option maxHeartbeats 40000000 in
theorem nst31 (l : Launch) (Z : State) (a0 : Array Value) (hw : ∀ d ∈ tables_1, d.before a0 Z = true) (ws : List Jvm.Cond) (b : Addr) (kb : ClassId) (vs : List Value) (h0 : Heap) (n0 : Nat) (Z0 : n0 ≤ h0.size) (V_b : Arv Z h0 b kb .byte (31 : Int32) vs (.int 0)) :
    MetFree l my11 (head1 (Jvm.Cond.code my11 jdk_43_method_47_code 3 (some (.object "java/lang/String")) :: ws) Rm_nst31) (fun aa_ U => aa_ = #[(.ref b), (.int (30 : Int32)), (.int (1 : Int32))] ∧ Z.Warmed39 U.vm ∧ U.heap = h0) (fun _ _ _ _ _ => True) (fun _ U oo_ U' => ∃ v L, oo_ = .returned v ∧ Qnst31 Z b kb vs h0 n0 v U'.heap L ∧ FrameEnd U oo_ U' L Rm_nst31.cells Rm_nst31.slots) := by
  refine MetFree.of_bodySF (plainFor_of_name pn_4) hisR ?_
  intro p e s m args below meth c s₁ Bd hml0 hP hK
  obtain ⟨rfl, hZ, hh⟩ := hP
  have hx := Bd.exec
  have hby := Bd.bytes
  have hml : c.maxLocals = 3 := hml0
  have hown : s.vm.findClass "java/lang/StringLatin1" = some m.cls := findClass_of_methodNamed Bd.named
  have hnm := (name_of_methodNamed Bd.named Bd.method).1
  have X0 : Stand p l e Rm_nst31 s m #[(.ref b), (.int (30 : Int32)), (.int (1 : Int32))] below meth c s₁ [] 0 0 := Stand.of_body Bd
  have e0 : s₁.heap = h0 := by rw [← hh, Bd.state]; rfl
  have N0 := Fr.nil n0
  have pre0 : ∀ tt_, Steps p.tables e below (s₁.setTop (mkF m 0 #[.val (.ref b), .val (.int (30 : Int32)), .val (.int (1 : Int32))] [])) tt_ → Steps p.tables e below (s₁.setTop (entryFrame m #[(.ref b), (.int (30 : Int32)), (.int (1 : Int32))] 3)) tt_ := fun tt_ kk_ => castTop (ef_17 m b (30 : Int32) (1 : Int32)) kk_
  obtain ⟨T1, h1, X1, e1, E1, A1, D1, -, st1⟩ := newO X0 hx hZ hown (hwd90 hw) (hwd7 hw) (hwd8 hw) e0 (g := (mkF m 7 #[.val (.ref b), .val (.int (30 : Int32)), .val (.int (1 : Int32))] [])) rfl (hb hby d17_7) (by decide) (by decide)
  obtain ⟨b1, g1⟩ : ∃ zz_, zz_ = h0.size := ⟨_, rfl⟩
  rw [← g1] at A1 D1 st1
  have ne_b_b1 : b ≠ b1 := Nat.ne_of_lt (Nat.lt_of_lt_of_le V_b.lt (Nat.le_of_eq g1.symm))
  have g_b1 : n0 ≤ b1 := Nat.le_trans Z0 (Nat.le_of_eq g1.symm)
  have sz_b1 : h0.size ≤ b1 := Nat.le_trans (Keep.refl h0 []).1 (Nat.le_of_eq g1.symm)
  have F_value_b1 : Fld Z h1 b1 "java/lang/String" "value" "[B" .null := D1 (Or.inr (hwd21 hw)) (ty := (.array .byte)) (by decide)
  have F_coder_b1 : Fld Z h1 b1 "java/lang/String" "coder" "B" (.int (0 : Int32)) := D1 (Or.inr (hwd22 hw)) (ty := .byte) (by decide)
  have f3_V_b := (V_b.ext E1)
  have sz4 : n0 ≤ h1.size := (Nat.le_trans Z0 E1.1)
  have kp5 : Keep h0 h1 [] := ((Keep.refl h0 []).ext E1)
  obtain ⟨_, _, ⟨T2, L2, k2, n2⟩, -, X2, ⟨Lc2, hQ2, l2, y2, z2⟩, st2⟩ := Jvm.LawKit.callS X1 hx (y := my18) hown (mvT hZ (hwd91 hw)) (mvT hZ (hwd92 hw)) (mvT hZ (hwd93 hw)) (mvT hZ (hwd94 hw)) (by decide) (backOf (W := 2) (cor31 l Z a0 hw [] b kb vs h1 n0 sz4 f3_V_b) hZ (hwd94 hw) (hwd93 hw) (by decide) (by decide)) (g := (mkF m 16 #[.val (.ref b), .val (.int (30 : Int32)), .val (.int (1 : Int32))] [(.int (31 : Int32)), (.int (30 : Int32)), (.ref b), (.ref b1), (.ref b1)])) rfl (by rw [hml]; rfl) (argsL := [(.ref b), (.int (30 : Int32)), (.int (31 : Int32))]) (rest := [(.ref b1), (.ref b1)]) (lenOf pd_11 rfl) rfl (by show 2 * 0 + _ ≤ _; exact Nat.le_of_eq rfl) (hb hby d17_16) (fun _ _ => ⟨rfl, e1, (by decide : 1 + 1 ≤ _), (by decide : 4 + 1 ≤ _)⟩)
  dsimp only [Pt.U, Pt.locs, Pt.cells, Pt.slots] at X2 l2 y2 z2 st2 hQ2
  subst l2 y2 z2
  obtain ⟨t_e2, kt_e2, us_e2, rfl, N2q, K2, p2_1, sz_t_2, g_t_2⟩ := hQ2
  have N2 := Fr.app N0 N2q
  have f7_E_b1 := (A1.keep K2)
  have f8_F_b1_value := (F_value_b1.keep K2 nin0)
  have f9_F_b1_coder := (F_coder_b1.keep K2 nin0)
  have sz10 : n0 ≤ T2.heap.size := (Nat.le_trans sz4 K2.1)
  obtain ⟨_, _, ⟨T6, L6, k6, n6⟩, -, X6, ⟨Lc6, hQ6, l6, y6, z6⟩, st6⟩ := X2.specialBack hx (y := my8) rfl hown (mvT hZ (hwd109 hw)) (mvT hZ (hwd110 hw)) (mvT hZ (hwd111 hw)) (by decide) (backOf (W := 1) (sbb l Z a0 hw [] b1 t_e2 (T2.heap) n0 sz10 f7_E_b1 f8_F_b1_value f9_F_b1_coder g_b1) hZ (hwd111 hw) (hwd8 hw) (by decide) (by decide)) (g := (mkF m 20 #[.val (.ref b), .val (.int (30 : Int32)), .val (.int (1 : Int32))] [(.int (0 : Int32)), (.ref t_e2), (.ref b1), (.ref b1)])) rfl (by rw [hml]; rfl) (Steps.refl _) (a := b1) (argsL := [(.ref t_e2), (.int (0 : Int32))]) (rest := [(.ref b1)]) (lenOf pd_12 rfl) rfl (by show 2 * 0 + _ ≤ _; exact Nat.le_of_eq rfl) (hb hby d17_20) (fun _ _ => ⟨rfl, rfl, (by decide : 2 + 0 ≤ _), (by decide : 5 + 0 ≤ _)⟩)
  dsimp only [Pt.U, Pt.locs, Pt.cells, Pt.slots] at X6 l6 y6 z6 st6 hQ6
  subst l6 y6 z6
  obtain ⟨rfl, N6q, K6, p6_1, p6_2, p6_3⟩ := hQ6
  have N6 := Fr.app N2 N6q
  have kp11 : Keep h0 T6.heap [] := ((kp5.trans K2 all0).trans K6 (allS (Or.inr sz_b1) all0))
  have f12_V_t_e2 := (p2_1.keep K6 (ninS (Ne.symm (Nat.ne_of_lt (Nat.lt_of_lt_of_le A1.lt sz_t_2))) nin0))
  obtain ⟨fs, hr, hrun, hended, hW, hsame⟩ := X6.leave (v := some (.ref b1)) (fun h => by rw [Bd.returns] at h; cases h)
  refine ⟨_, _, pre0 _ ?_, hrun, hended, _, _, rfl, ?_, ⟨_, rfl⟩, hW, hsame.mono (by decide) (by decide)⟩
  · show Steps p.tables e below (s₁.setTop (mkF m 0 #[.val (.ref b), .val (.int (30 : Int32)), .val (.int (1 : Int32))] [])) _
    refine XS.iloadN X0.here hx rfl (hb hby d17_0) rfl ?_
    refine XS.ifYes X0.here hx rfl (pc0 := 1) (pc' := 7) rfl (hb hby d17_1) rfl ((if0 _ _).trans (feq (show ¬ ((1 : Int32) = (0 : Int32)) from (by decide))).2) (by decide) (by decide) ?_
    refine st1 _ ?_
    refine XS.dup X1.here hx rfl (hb hby d17_10) rfl rfl ?_
    refine XS.aloadN X1.here hx rfl (hb hby d17_11) rfl rfl ?_
    refine XS.iloadN X1.here hx rfl (hb hby d17_12) rfl ?_
    show Steps p.tables e below (T1.setTop (mkF m 13 #[.val (.ref b), .val (.int (30 : Int32)), .val (.int (1 : Int32))] [(.int (30 : Int32)), (.ref b), (.ref b1), (.ref b1)])) _
    refine XS.iloadN X1.here hx rfl (hb hby d17_13) rfl ?_
    refine XS.iloadN X1.here hx rfl (hb hby d17_14) rfl ?_
    refine XS.iadd X1.here hx rfl (hb hby d17_15) rfl ?_
    show Steps p.tables e below (T1.setTop (mkF m 16 #[.val (.ref b), .val (.int (30 : Int32)), .val (.int (1 : Int32))] [(.int ((30 : Int32) + (1 : Int32))), (.int (30 : Int32)), (.ref b), (.ref b1), (.ref b1)])) _
    rw [show (((30 : Int32) + (1 : Int32)) : Int32) = (31 : Int32) from by decide]
    refine st2 _ ?_
    refine XS.iconst X2.here hx rfl (hb hby d17_19) ?_
    refine st6.trans ?_
    jvm_step X6.here [X6.here.top, hx, (hb hby d17_23), X6.method', Bd.returns, Value.isRef, FieldType.isReference]
    first | (intro acts; rw [hr _ acts rfl rfl rfl]) | rw [hr _ _ rfl rfl rfl]
    exact Steps.refl _
  · show Qnst31 Z b kb vs h0 n0 _ T6.heap _
    exact ⟨b1, t_e2, kt_e2, us_e2, rfl, N6, kp11, p6_1, p6_2, p6_3, f12_V_t_e2⟩
def Qsb2_31 (Z : State) (so : Addr) (b : Addr) (kb : ClassId) (vs : List Value) (cz : Int32) (sf : Value) (h0 : Heap) (n0 : Nat) (v : Option Value) (h : Heap) (L : List Loc) : Prop := ∃ s2 : Addr, ∃ b2 : Addr, ∃ kb2 : ClassId, ∃ v2 : List Value, v = some (.ref s2) ∧ Fr n0 L ∧ Keep h0 h [] ∧ Exa Z h s2 "java/lang/String" ∧ Fld Z h s2 "java/lang/String" "value" "[B" (.ref b2) ∧ Fld Z h s2 "java/lang/String" "coder" "B" (.int (0 : Int32)) ∧ Arv Z h b2 kb2 .byte (1 : Int32) v2 (.int 0)
abbrev Rm_sb2_31 : Room := { frames := 4, cells := 2, slots := 5, locals := 64 }
set_option maxRecDepth 65536 in
set_option maxHeartbeats 40000000 in
theorem sb2_31 (l : Launch) (Z : State) (a0 : Array Value) (hw : ∀ d ∈ tables_1, d.before a0 Z = true) (ws : List Jvm.Cond) (so : Addr) (b : Addr) (kb : ClassId) (vs : List Value) (cz : Int32) (sf : Value) (h0 : Heap) (n0 : Nat) (Z0 : n0 ≤ h0.size) (E_so : Exa Z h0 so "java/lang/String") (F_value_so : Fld Z h0 so "java/lang/String" "value" "[B" (.ref b)) (F_coder_so : Fld Z h0 so "java/lang/String" "coder" "B" (.int (0 : Int32))) (V_b : Arv Z h0 b kb .byte (31 : Int32) vs (.int 0)) (O_C : Sta Z Z.heap "java/lang/String" "COMPACT_STRINGS" "Z" (.int cz)) (hcz : ¬ (cz = (0 : Int32))) (X00 : Old Z n0 h0) (O_S : Sta Z Z.heap "jdk/internal/util/Preconditions" "SIOOBE_FORMATTER" "Ljava/util/function/BiFunction;" sf) (hsf : sf.isRef = true) :
    MetFree l my12 (head1 (Jvm.Cond.code my12 jdk_42_method_92_code 5 (some (.object "java/lang/String")) :: ws) Rm_sb2_31) (fun aa_ U => aa_ = #[(.ref so), (.int (30 : Int32)), (.int (31 : Int32))] ∧ Z.Warmed39 U.vm ∧ U.heap = h0) (fun _ _ _ _ _ => True) (fun _ U oo_ U' => ∃ v L, oo_ = .returned v ∧ Qsb2_31 Z so b kb vs cz sf h0 n0 v U'.heap L ∧ FrameEnd U oo_ U' L Rm_sb2_31.cells Rm_sb2_31.slots) := by
  refine MetFree.of_bodySF (plainFor_of_name pn_1) hisR ?_
  intro p e s m args below meth c s₁ Bd hml0 hP hK
  obtain ⟨rfl, hZ, hh⟩ := hP
  have hx := Bd.exec
  have hby := Bd.bytes
  have hml : c.maxLocals = 5 := hml0
  have hown : s.vm.findClass "java/lang/String" = some m.cls := findClass_of_methodNamed Bd.named
  have hnm := (name_of_methodNamed Bd.named Bd.method).1
  have X0 : Stand p l e Rm_sb2_31 s m #[(.ref so), (.int (30 : Int32)), (.int (31 : Int32))] below meth c s₁ [] 0 0 := Stand.of_body Bd
  have e0 : s₁.heap = h0 := by rw [← hh, Bd.state]; rfl
  have N0 := Fr.nil n0
  have pre0 : ∀ tt_, Steps p.tables e below (s₁.setTop (mkF m 0 #[.val (.ref so), .val (.int (30 : Int32)), .val (.int (31 : Int32)), .unset, .unset] [])) tt_ → Steps p.tables e below (s₁.setTop (entryFrame m #[(.ref so), (.int (30 : Int32)), (.int (31 : Int32))] 5)) tt_ := fun tt_ kk_ => castTop (ef_13 m so (30 : Int32) (31 : Int32)) kk_
  obtain ⟨cq1, kq1, q1a, q1b, q1c⟩ := isOf hZ e0 E_so
  obtain ⟨_, _, ⟨T1, L1, k1, n1⟩, -, X1, ⟨Lc1, hQ1, l1, y1, z1⟩, st1⟩ := X0.virtualBack hx (y := my5) (z := my5) hown (mvT hZ (hwd61 hw)) (mvT hZ (hwd32 hw)) (notFace_of_selects (args := #[]) (mvT hZ (hwd34 hw))) (mvT hZ (hwd34 hw)) (mvT hZ (hwd33 hw)) (by decide) (backOf (W := 0) (sle31 l Z a0 hw [] so b kb vs cz h0 n0 Z0 E_so F_value_so F_coder_so V_b O_C hcz X00) hZ (hwd35 hw) (hwd8 hw) (by decide) (by decide)) q1a q1c (g := (mkF m 1 #[.val (.ref so), .val (.int (30 : Int32)), .val (.int (31 : Int32)), .unset, .unset] [(.ref so)])) rfl (by rw [hml]; rfl) (Steps.refl _) (argsL := []) (rest := []) (lenOf pd_2 rfl) rfl (by show 2 * 0 + _ ≤ _; exact Nat.le_of_eq rfl) (hb hby d13_1) (fun _ _ => ⟨rfl, e0, (by decide : 0 + 0 ≤ _), (by decide : 0 + 0 ≤ _)⟩)
  dsimp only [Pt.U, Pt.locs, Pt.cells, Pt.slots] at X1 l1 y1 z1 st1 hQ1
  subst l1 y1 z1
  obtain ⟨rfl, N1q, e1q⟩ := hQ1
  have N1 := Fr.app N0 N1q
  obtain ⟨_, _, ⟨T2, L2, k2, n2⟩, -, X2, ⟨Lc2, hQ2, l2, y2, z2⟩, st2⟩ := Jvm.LawKit.callS X1 hx (y := my10) hown (mvT hZ (hwd67 hw)) (mvT hZ (hwd68 hw)) (mvT hZ (hwd8 hw)) (mvT hZ (hwd69 hw)) (by decide) (backOf (W := 0) (cbe31 l Z a0 hw [] sf h0 n0 Z0 O_S hsf X00) hZ (hwd69 hw) (hwd8 hw) (by decide) (by decide)) (g := (mkF m 8 #[.val (.ref so), .val (.int (30 : Int32)), .val (.int (31 : Int32)), .val (.int (31 : Int32)), .unset] [(.int (31 : Int32)), (.int (31 : Int32)), (.int (30 : Int32))])) rfl (by rw [hml]; rfl) (argsL := [(.int (30 : Int32)), (.int (31 : Int32)), (.int (31 : Int32))]) (rest := []) (lenOf pd_4 rfl) rfl (by show 2 * 0 + _ ≤ _; exact Nat.le_of_eq rfl) (hb hby d13_8) (fun _ _ => ⟨rfl, e1q, (by decide : 0 + 0 ≤ _), (by decide : 0 + 0 ≤ _)⟩)
  dsimp only [Pt.U, Pt.locs, Pt.cells, Pt.slots] at X2 l2 y2 z2 st2 hQ2
  subst l2 y2 z2
  obtain ⟨rfl, N2q, e2q⟩ := hQ2
  have N2 := Fr.app N1 N2q
  obtain ⟨cq3, kq3, q3a, q3b, q3c⟩ := isOf hZ e2q E_so
  obtain ⟨_, _, ⟨T3, L3, k3, n3⟩, -, X3, ⟨Lc3, hQ3, l3, y3, z3⟩, st3⟩ := X2.virtualBack hx (y := my4) (z := my4) hown (mvT hZ (hwd75 hw)) (mvT hZ (hwd76 hw)) (notFace_of_selects (args := #[]) (mvT hZ (hwd78 hw))) (mvT hZ (hwd78 hw)) (mvT hZ (hwd77 hw)) (by decide) (backOf (W := 0) (lat l Z a0 hw [] so cz h0 n0 Z0 F_coder_so O_C hcz X00) hZ (hwd79 hw) (hwd8 hw) (by decide) (by decide)) q3a q3c (g := (mkF m 28 #[.val (.ref so), .val (.int (30 : Int32)), .val (.int (31 : Int32)), .val (.int (31 : Int32)), .val (.int (1 : Int32))] [(.ref so)])) rfl (by rw [hml]; rfl) (Steps.refl _) (argsL := []) (rest := []) (lenOf pd_5 rfl) rfl (by show 2 * 0 + _ ≤ _; exact Nat.le_of_eq rfl) (hb hby d13_28) (fun _ _ => ⟨rfl, e2q, (by decide : 0 + 0 ≤ _), (by decide : 0 + 0 ≤ _)⟩)
  dsimp only [Pt.U, Pt.locs, Pt.cells, Pt.slots] at X3 l3 y3 z3 st3 hQ3
  subst l3 y3 z3
  obtain ⟨rfl, N3q, e3q⟩ := hQ3
  have N3 := Fr.app N2 N3q
  obtain ⟨T4, X4, e4, st4⟩ := getF X3 hx hZ hown (host := "") (Or.inl (hwd25 hw)) Via.refl e3q F_value_so (g := (mkF m 35 #[.val (.ref so), .val (.int (30 : Int32)), .val (.int (31 : Int32)), .val (.int (31 : Int32)), .val (.int (1 : Int32))] [(.ref so)])) rfl rfl (hb hby d13_35)
  obtain ⟨_, _, ⟨T5, L5, k5, n5⟩, -, X5, ⟨Lc5, hQ5, l5, y5, z5⟩, st5⟩ := Jvm.LawKit.callS X4 hx (y := my11) hown (mvT hZ (hwd80 hw)) (mvT hZ (hwd81 hw)) (mvT hZ (hwd82 hw)) (mvT hZ (hwd83 hw)) (by decide) (backOf (W := 0) (nst31 l Z a0 hw [] b kb vs h0 n0 Z0 V_b) hZ (hwd83 hw) (hwd82 hw) (by decide) (by decide)) (g := (mkF m 41 #[.val (.ref so), .val (.int (30 : Int32)), .val (.int (31 : Int32)), .val (.int (31 : Int32)), .val (.int (1 : Int32))] [(.int (1 : Int32)), (.int (30 : Int32)), (.ref b)])) rfl (by rw [hml]; rfl) (argsL := [(.ref b), (.int (30 : Int32)), (.int (1 : Int32))]) (rest := []) (lenOf pd_6 rfl) rfl (by show 2 * 0 + _ ≤ _; exact Nat.le_of_eq rfl) (hb hby d13_41) (fun _ _ => ⟨rfl, e4, (by decide : 0 + 2 ≤ _), (by decide : 0 + 5 ≤ _)⟩)
  dsimp only [Pt.U, Pt.locs, Pt.cells, Pt.slots] at X5 l5 y5 z5 st5 hQ5
  subst l5 y5 z5
  obtain ⟨s2_e5, b2_e5, kb2_e5, v2_e5, rfl, N5q, K5, p5_1, p5_2, p5_3, p5_4⟩ := hQ5
  have N5 := Fr.app N3 N5q
  have kp6 : Keep h0 T5.heap [] := ((Keep.refl h0 []).trans K5 all0)
  obtain ⟨fs, hr, hrun, hended, hW, hsame⟩ := X5.leave (v := some (.ref s2_e5)) (fun h => by rw [Bd.returns] at h; cases h)
  refine ⟨_, _, pre0 _ ?_, hrun, hended, _, _, rfl, ?_, ⟨_, rfl⟩, hW, hsame.mono (by decide) (by decide)⟩
  · show Steps p.tables e below (s₁.setTop (mkF m 0 #[.val (.ref so), .val (.int (30 : Int32)), .val (.int (31 : Int32)), .unset, .unset] [])) _
    refine XS.aloadN X0.here hx rfl (hb hby d13_0) rfl rfl ?_
    refine st1.trans ?_
    refine XS.istoreN X1.here hx rfl (hb hby d13_4) rfl (l' := #[.val (.ref so), .val (.int (30 : Int32)), .val (.int (31 : Int32)), .val (.int (31 : Int32)), .unset]) rfl ?_
    refine XS.iloadN X1.here hx rfl (hb hby d13_5) rfl ?_
    refine XS.iloadN X1.here hx rfl (hb hby d13_6) rfl ?_
    refine XS.iloadN X1.here hx rfl (hb hby d13_7) rfl ?_
    show Steps p.tables e below (T1.setTop (mkF m 8 #[.val (.ref so), .val (.int (30 : Int32)), .val (.int (31 : Int32)), .val (.int (31 : Int32)), .unset] [(.int (31 : Int32)), (.int (31 : Int32)), (.int (30 : Int32))])) _
    refine st2 _ ?_
    refine XS.iloadN X2.here hx rfl (hb hby d13_11) rfl ?_
    refine XS.ifYes X2.here hx rfl (pc0 := 12) (pc' := 22) rfl (hb hby d13_12) rfl ((if0 _ _).trans (feq (show ¬ ((30 : Int32) = (0 : Int32)) from (by decide))).2) (by decide) (by decide) ?_
    refine XS.iloadN X2.here hx rfl (hb hby d13_22) rfl ?_
    refine XS.iloadN X2.here hx rfl (hb hby d13_23) rfl ?_
    refine XS.isub X2.here hx rfl (hb hby d13_24) rfl ?_
    show Steps p.tables e below (T2.setTop (mkF m 25 #[.val (.ref so), .val (.int (30 : Int32)), .val (.int (31 : Int32)), .val (.int (31 : Int32)), .unset] [(.int ((31 : Int32) - (30 : Int32)))])) _
    rw [show (((31 : Int32) - (30 : Int32)) : Int32) = (1 : Int32) from by decide]
    refine XS.istore X2.here hx rfl (hb hby d13_25) rfl (l' := #[.val (.ref so), .val (.int (30 : Int32)), .val (.int (31 : Int32)), .val (.int (31 : Int32)), .val (.int (1 : Int32))]) rfl ?_
    refine XS.aloadN X2.here hx rfl (hb hby d13_27) rfl rfl ?_
    refine st3.trans ?_
    refine XS.ifNo X3.here hx rfl (hb hby d13_31) rfl ((if0 _ _).trans (feq (show ¬ ((1 : Int32) = (0 : Int32)) from (by decide))).1) ?_
    refine XS.aloadN X3.here hx rfl (hb hby d13_34) rfl rfl ?_
    show Steps p.tables e below (T3.setTop (mkF m 35 #[.val (.ref so), .val (.int (30 : Int32)), .val (.int (31 : Int32)), .val (.int (31 : Int32)), .val (.int (1 : Int32))] [(.ref so)])) _
    refine st4 _ ?_
    refine XS.iloadN X4.here hx rfl (hb hby d13_38) rfl ?_
    refine XS.iload X4.here hx rfl (hb hby d13_39) rfl ?_
    refine st5 _ ?_
    refine XS.goto X5.here hx rfl (pc0 := 44) (pc' := 57) rfl (hb hby d13_44) (by decide) (by decide) ?_
    jvm_step X5.here [X5.here.top, hx, (hb hby d13_57), X5.method', Bd.returns, Value.isRef, FieldType.isReference]
    first | (intro acts; rw [hr _ acts rfl rfl rfl]) | rw [hr _ _ rfl rfl rfl]
    exact Steps.refl _
  · show Qsb2_31 Z so b kb vs cz sf h0 n0 _ T5.heap _
    exact ⟨s2_e5, b2_e5, kb2_e5, v2_e5, rfl, N5, kp6, p5_1, p5_2, p5_3, p5_4⟩
def Qsb1_31 (Z : State) (so : Addr) (b : Addr) (kb : ClassId) (vs : List Value) (cz : Int32) (sf : Value) (h0 : Heap) (n0 : Nat) (v : Option Value) (h : Heap) (L : List Loc) : Prop := ∃ s2 : Addr, ∃ b2 : Addr, ∃ kb2 : ClassId, ∃ v2 : List Value, v = some (.ref s2) ∧ Fr n0 L ∧ Keep h0 h [] ∧ Exa Z h s2 "java/lang/String" ∧ Fld Z h s2 "java/lang/String" "value" "[B" (.ref b2) ∧ Fld Z h s2 "java/lang/String" "coder" "B" (.int (0 : Int32)) ∧ Arv Z h b2 kb2 .byte (1 : Int32) v2 (.int 0)
abbrev Rm_sb1_31 : Room := { frames := 5, cells := 2, slots := 5, locals := 80 }
set_option maxRecDepth 65536 in
set_option maxHeartbeats 40000000 in
theorem sb1_31 (l : Launch) (Z : State) (a0 : Array Value) (hw : ∀ d ∈ tables_1, d.before a0 Z = true) (ws : List Jvm.Cond) (so : Addr) (b : Addr) (kb : ClassId) (vs : List Value) (cz : Int32) (sf : Value) (h0 : Heap) (n0 : Nat) (Z0 : n0 ≤ h0.size) (E_so : Exa Z h0 so "java/lang/String") (F_value_so : Fld Z h0 so "java/lang/String" "value" "[B" (.ref b)) (F_coder_so : Fld Z h0 so "java/lang/String" "coder" "B" (.int (0 : Int32))) (V_b : Arv Z h0 b kb .byte (31 : Int32) vs (.int 0)) (O_C : Sta Z Z.heap "java/lang/String" "COMPACT_STRINGS" "Z" (.int cz)) (hcz : ¬ (cz = (0 : Int32))) (X00 : Old Z n0 h0) (O_S : Sta Z Z.heap "jdk/internal/util/Preconditions" "SIOOBE_FORMATTER" "Ljava/util/function/BiFunction;" sf) (hsf : sf.isRef = true) :
    MetFree l my13 (head1 (Jvm.Cond.code my13 jdk_42_method_91_code 2 (some (.object "java/lang/String")) :: ws) Rm_sb1_31) (fun aa_ U => aa_ = #[(.ref so), (.int (30 : Int32))] ∧ Z.Warmed39 U.vm ∧ U.heap = h0) (fun _ _ _ _ _ => True) (fun _ U oo_ U' => ∃ v L, oo_ = .returned v ∧ Qsb1_31 Z so b kb vs cz sf h0 n0 v U'.heap L ∧ FrameEnd U oo_ U' L Rm_sb1_31.cells Rm_sb1_31.slots) := by
  refine MetFree.of_bodySF (plainFor_of_name pn_1) hisR ?_
  intro p e s m args below meth c s₁ Bd hml0 hP hK
  obtain ⟨rfl, hZ, hh⟩ := hP
  have hx := Bd.exec
  have hby := Bd.bytes
  have hml : c.maxLocals = 2 := hml0
  have hown : s.vm.findClass "java/lang/String" = some m.cls := findClass_of_methodNamed Bd.named
  have hnm := (name_of_methodNamed Bd.named Bd.method).1
  have X0 : Stand p l e Rm_sb1_31 s m #[(.ref so), (.int (30 : Int32))] below meth c s₁ [] 0 0 := Stand.of_body Bd
  have e0 : s₁.heap = h0 := by rw [← hh, Bd.state]; rfl
  have N0 := Fr.nil n0
  have pre0 : ∀ tt_, Steps p.tables e below (s₁.setTop (mkF m 0 #[.val (.ref so), .val (.int (30 : Int32))] [])) tt_ → Steps p.tables e below (s₁.setTop (entryFrame m #[(.ref so), (.int (30 : Int32))] 2)) tt_ := fun tt_ kk_ => castTop (ef_12 m so (30 : Int32)) kk_
  obtain ⟨cq1, kq1, q1a, q1b, q1c⟩ := isOf hZ e0 E_so
  obtain ⟨_, _, ⟨T1, L1, k1, n1⟩, -, X1, ⟨Lc1, hQ1, l1, y1, z1⟩, st1⟩ := X0.virtualBack hx (y := my5) (z := my5) hown (mvT hZ (hwd61 hw)) (mvT hZ (hwd32 hw)) (notFace_of_selects (args := #[]) (mvT hZ (hwd34 hw))) (mvT hZ (hwd34 hw)) (mvT hZ (hwd33 hw)) (by decide) (backOf (W := 2) (sle31 l Z a0 hw [] so b kb vs cz h0 n0 Z0 E_so F_value_so F_coder_so V_b O_C hcz X00) hZ (hwd35 hw) (hwd8 hw) (by decide) (by decide)) q1a q1c (g := (mkF m 3 #[.val (.ref so), .val (.int (30 : Int32))] [(.ref so), (.int (30 : Int32)), (.ref so)])) rfl (by rw [hml]; rfl) (Steps.refl _) (argsL := []) (rest := [(.int (30 : Int32)), (.ref so)]) (lenOf pd_2 rfl) rfl (by show 2 * 0 + _ ≤ _; exact Nat.le_of_eq rfl) (hb hby d12_3) (fun _ _ => ⟨rfl, e0, (by decide : 0 + 0 ≤ _), (by decide : 0 + 0 ≤ _)⟩)
  dsimp only [Pt.U, Pt.locs, Pt.cells, Pt.slots] at X1 l1 y1 z1 st1 hQ1
  subst l1 y1 z1
  obtain ⟨rfl, N1q, e1q⟩ := hQ1
  have N1 := Fr.app N0 N1q
  obtain ⟨cq2, kq2, q2a, q2b, q2c⟩ := isOf hZ e1q E_so
  obtain ⟨_, _, ⟨T2, L2, k2, n2⟩, -, X2, ⟨Lc2, hQ2, l2, y2, z2⟩, st2⟩ := X1.virtualBack hx (y := my12) (z := my12) hown (mvT hZ (hwd62 hw)) (mvT hZ (hwd63 hw)) (notFace_of_selects (args := #[]) (mvT hZ (hwd65 hw))) (mvT hZ (hwd65 hw)) (mvT hZ (hwd64 hw)) (by decide) (backOf (W := 0) (sb2_31 l Z a0 hw [] so b kb vs cz sf h0 n0 Z0 E_so F_value_so F_coder_so V_b O_C hcz X00 O_S hsf) hZ (hwd66 hw) (hwd8 hw) (by decide) (by decide)) q2a q2c (g := (mkF m 6 #[.val (.ref so), .val (.int (30 : Int32))] [(.int (31 : Int32)), (.int (30 : Int32)), (.ref so)])) rfl (by rw [hml]; rfl) (Steps.refl _) (argsL := [(.int (30 : Int32)), (.int (31 : Int32))]) (rest := []) (lenOf pd_7 rfl) rfl (by show 2 * 0 + _ ≤ _; exact Nat.le_of_eq rfl) (hb hby d12_6) (fun _ _ => ⟨rfl, e1q, (by decide : 0 + 2 ≤ _), (by decide : 0 + 5 ≤ _)⟩)
  dsimp only [Pt.U, Pt.locs, Pt.cells, Pt.slots] at X2 l2 y2 z2 st2 hQ2
  subst l2 y2 z2
  obtain ⟨s2_e2, b2_e2, kb2_e2, v2_e2, rfl, N2q, K2, p2_1, p2_2, p2_3, p2_4⟩ := hQ2
  have N2 := Fr.app N1 N2q
  have kp3 : Keep h0 T2.heap [] := ((Keep.refl h0 []).trans K2 all0)
  obtain ⟨fs, hr, hrun, hended, hW, hsame⟩ := X2.leave (v := some (.ref s2_e2)) (fun h => by rw [Bd.returns] at h; cases h)
  refine ⟨_, _, pre0 _ ?_, hrun, hended, _, _, rfl, ?_, ⟨_, rfl⟩, hW, hsame.mono (by decide) (by decide)⟩
  · show Steps p.tables e below (s₁.setTop (mkF m 0 #[.val (.ref so), .val (.int (30 : Int32))] [])) _
    refine XS.aloadN X0.here hx rfl (hb hby d12_0) rfl rfl ?_
    refine XS.iloadN X0.here hx rfl (hb hby d12_1) rfl ?_
    refine XS.aloadN X0.here hx rfl (hb hby d12_2) rfl rfl ?_
    refine st1.trans ?_
    refine st2.trans ?_
    jvm_step X2.here [X2.here.top, hx, (hb hby d12_9), X2.method', Bd.returns, Value.isRef, FieldType.isReference]
    first | (intro acts; rw [hr _ acts rfl rfl rfl]) | rw [hr _ _ rfl rfl rfl]
    exact Steps.refl _
  · show Qsb1_31 Z so b kb vs cz sf h0 n0 _ T2.heap _
    exact ⟨s2_e2, b2_e2, kb2_e2, v2_e2, rfl, N2, kp3, p2_1, p2_2, p2_3, p2_4⟩
def Qclu31 (Z : State) (so : Addr) (b : Addr) (kb : ClassId) (vs : List Value) (cz : Int32) (sf : Value) (h0 : Heap) (n0 : Nat) (v : Option Value) (h : Heap) (L : List Loc) : Prop := ∃ s2 : Addr, ∃ b2 : Addr, ∃ kb2 : ClassId, ∃ v2 : List Value, v = some (.ref s2) ∧ Fr n0 L ∧ Keep h0 h [] ∧ Exa Z h s2 "java/lang/String" ∧ Fld Z h s2 "java/lang/String" "value" "[B" (.ref b2) ∧ Fld Z h s2 "java/lang/String" "coder" "B" (.int (0 : Int32)) ∧ Arv Z h b2 kb2 .byte (1 : Int32) v2 (.int 0)
abbrev Rm_clu31 : Room := { frames := 6, cells := 2, slots := 5, locals := 93 }
set_option maxRecDepth 65536 in
set_option maxHeartbeats 40000000 in
theorem clu31 (l : Launch) (Z : State) (a0 : Array Value) (hw : ∀ d ∈ tables_1, d.before a0 Z = true) (ws : List Jvm.Cond) (so : Addr) (b : Addr) (kb : ClassId) (vs : List Value) (cz : Int32) (sf : Value) (h0 : Heap) (n0 : Nat) (Z0 : n0 ≤ h0.size) (E_so : Exa Z h0 so "java/lang/String") (F_value_so : Fld Z h0 so "java/lang/String" "value" "[B" (.ref b)) (F_coder_so : Fld Z h0 so "java/lang/String" "coder" "B" (.int (0 : Int32))) (V_b : Arv Z h0 b kb .byte (31 : Int32) vs (.int 0)) (O_C : Sta Z Z.heap "java/lang/String" "COMPACT_STRINGS" "Z" (.int cz)) (hcz : ¬ (cz = (0 : Int32))) (X00 : Old Z n0 h0) (O_S : Sta Z Z.heap "jdk/internal/util/Preconditions" "SIOOBE_FORMATTER" "Ljava/util/function/BiFunction;" sf) (hsf : sf.isRef = true) :
    MetFree l my14 (head1 (Jvm.Cond.code my14 prog_78_method_5_code 1 (some (.object "java/lang/String")) :: ws) Rm_clu31) (fun aa_ U => aa_ = #[(.ref so)] ∧ Z.Warmed39 U.vm ∧ U.heap = h0) (fun _ _ _ _ _ => True) (fun _ U oo_ U' => ∃ v L, oo_ = .returned v ∧ Qclu31 Z so b kb vs cz sf h0 n0 v U'.heap L ∧ FrameEnd U oo_ U' L Rm_clu31.cells Rm_clu31.slots) := by
  refine MetFree.of_bodySF (plainFor_of_name pn_2) hisR ?_
  intro p e s m args below meth c s₁ Bd hml0 hP hK
  obtain ⟨rfl, hZ, hh⟩ := hP
  have hx := Bd.exec
  have hby := Bd.bytes
  have hml : c.maxLocals = 1 := hml0
  have hown : s.vm.findClass "com/example/coretally/coretally/store/SampleKey" = some m.cls := findClass_of_methodNamed Bd.named
  have hnm := (name_of_methodNamed Bd.named Bd.method).1
  have X0 : Stand p l e Rm_clu31 s m #[(.ref so)] below meth c s₁ [] 0 0 := Stand.of_body Bd
  have e0 : s₁.heap = h0 := by rw [← hh, Bd.state]; rfl
  have N0 := Fr.nil n0
  have pre0 : ∀ tt_, Steps p.tables e below (s₁.setTop (mkF m 0 #[.val (.ref so)] [])) tt_ → Steps p.tables e below (s₁.setTop (entryFrame m #[(.ref so)] 1)) tt_ := fun tt_ kk_ => castTop (ef_11 m so) kk_
  obtain ⟨cq1, kq1, q1a, q1b, q1c⟩ := isOf hZ e0 E_so
  obtain ⟨_, _, ⟨T1, L1, k1, n1⟩, -, X1, ⟨Lc1, hQ1, l1, y1, z1⟩, st1⟩ := X0.virtualBack hx (y := my13) (z := my13) hown (mvT hZ (hwd56 hw)) (mvT hZ (hwd57 hw)) (notFace_of_selects (args := #[]) (mvT hZ (hwd59 hw))) (mvT hZ (hwd59 hw)) (mvT hZ (hwd58 hw)) (by decide) (backOf (W := 0) (sb1_31 l Z a0 hw [] so b kb vs cz sf h0 n0 Z0 E_so F_value_so F_coder_so V_b O_C hcz X00 O_S hsf) hZ (hwd60 hw) (hwd8 hw) (by decide) (by decide)) q1a q1c (g := (mkF m 3 #[.val (.ref so)] [(.int (30 : Int32)), (.ref so)])) rfl (by rw [hml]; rfl) (Steps.refl _) (argsL := [(.int (30 : Int32))]) (rest := []) (lenOf pd_8 rfl) rfl (by show 2 * 0 + _ ≤ _; exact Nat.le_of_eq rfl) (hb hby d11_3) (fun _ _ => ⟨rfl, e0, (by decide : 0 + 2 ≤ _), (by decide : 0 + 5 ≤ _)⟩)
  dsimp only [Pt.U, Pt.locs, Pt.cells, Pt.slots] at X1 l1 y1 z1 st1 hQ1
  subst l1 y1 z1
  obtain ⟨s2_e1, b2_e1, kb2_e1, v2_e1, rfl, N1q, K1, p1_1, p1_2, p1_3, p1_4⟩ := hQ1
  have N1 := Fr.app N0 N1q
  have kp2 : Keep h0 T1.heap [] := ((Keep.refl h0 []).trans K1 all0)
  obtain ⟨fs, hr, hrun, hended, hW, hsame⟩ := X1.leave (v := some (.ref s2_e1)) (fun h => by rw [Bd.returns] at h; cases h)
  refine ⟨_, _, pre0 _ ?_, hrun, hended, _, _, rfl, ?_, ⟨_, rfl⟩, hW, hsame.mono (by decide) (by decide)⟩
  · show Steps p.tables e below (s₁.setTop (mkF m 0 #[.val (.ref so)] [])) _
    refine XS.aloadN X0.here hx rfl (hb hby d11_0) rfl rfl ?_
    refine XS.bipush X0.here hx rfl (hb hby d11_1) ?_
    show Steps p.tables e below (s₁.setTop (mkF m 3 #[.val (.ref so)] [(.int (30 : Int32)), (.ref so)])) _
    refine st1.trans ?_
    jvm_step X1.here [X1.here.top, hx, (hb hby d11_6), X1.method', Bd.returns, Value.isRef, FieldType.isReference]
    first | (intro acts; rw [hr _ acts rfl rfl rfl]) | rw [hr _ _ rfl rfl rfl]
    exact Steps.refl _
  · show Qclu31 Z so b kb vs cz sf h0 n0 _ T1.heap _
    exact ⟨s2_e1, b2_e1, kb2_e1, v2_e1, rfl, N1, kp2, p1_1, p1_2, p1_3, p1_4⟩
def Qcft32 (Z : State) (sf : Value) (h0 : Heap) (n0 : Nat) (v : Option Value) (h : Heap) (L : List Loc) : Prop := v = some (.int (30 : Int32)) ∧ Fr n0 L ∧ h = h0
abbrev Rm_cft32 : Room := { frames := 0, cells := 0, slots := 0, locals := 0 }
set_option maxRecDepth 65536 in
set_option maxHeartbeats 40000000 in
theorem cft32 (l : Launch) (Z : State) (a0 : Array Value) (hw : ∀ d ∈ tables_1, d.before a0 Z = true) (ws : List Jvm.Cond) (sf : Value) (h0 : Heap) (n0 : Nat) (Z0 : n0 ≤ h0.size) (hsf : sf.isRef = true) :
    MetFree l my9 (head1 (Jvm.Cond.code my9 jdk_41_method_12_code 4 (some .int) :: ws) Rm_cft32) (fun aa_ U => aa_ = #[(.int (30 : Int32)), (.int (32 : Int32)), (.int (32 : Int32)), sf] ∧ Z.Warmed39 U.vm ∧ U.heap = h0) (fun _ _ _ _ _ => True) (fun _ U oo_ U' => ∃ v L, oo_ = .returned v ∧ Qcft32 Z sf h0 n0 v U'.heap L ∧ FrameEnd U oo_ U' L Rm_cft32.cells Rm_cft32.slots) := by
  refine MetFree.of_bodySF (plainFor_of_name pn_3) hisR ?_
  intro p e s m args below meth c s₁ Bd hml0 hP hK
  obtain ⟨rfl, hZ, hh⟩ := hP
  have hx := Bd.exec
  have hby := Bd.bytes
  have hml : c.maxLocals = 4 := hml0
  have hown : s.vm.findClass "jdk/internal/util/Preconditions" = some m.cls := findClass_of_methodNamed Bd.named
  have hnm := (name_of_methodNamed Bd.named Bd.method).1
  have X0 : Stand p l e Rm_cft32 s m #[(.int (30 : Int32)), (.int (32 : Int32)), (.int (32 : Int32)), sf] below meth c s₁ [] 0 0 := Stand.of_body Bd
  have e0 : s₁.heap = h0 := by rw [← hh, Bd.state]; rfl
  have N0 := Fr.nil n0
  have pre0 : ∀ tt_, Steps p.tables e below (s₁.setTop (mkF m 0 #[.val (.int (30 : Int32)), .val (.int (32 : Int32)), .val (.int (32 : Int32)), .val sf] [])) tt_ → Steps p.tables e below (s₁.setTop (entryFrame m #[(.int (30 : Int32)), (.int (32 : Int32)), (.int (32 : Int32)), sf] 4)) tt_ := fun tt_ kk_ => castTop (ef_15 m (30 : Int32) (32 : Int32) (32 : Int32) sf hsf) kk_
  obtain ⟨fs, hr, hrun, hended, hW, hsame⟩ := X0.leave (v := some (.int (30 : Int32))) (fun h => by rw [Bd.returns] at h; cases h)
  refine ⟨_, _, pre0 _ ?_, hrun, hended, _, _, rfl, ?_, ⟨_, rfl⟩, hW, hsame.mono (by decide) (by decide)⟩
  · show Steps p.tables e below (s₁.setTop (mkF m 0 #[.val (.int (30 : Int32)), .val (.int (32 : Int32)), .val (.int (32 : Int32)), .val sf] [])) _
    refine XS.iloadN X0.here hx rfl (hb hby d15_0) rfl ?_
    refine XS.ifNo X0.here hx rfl (hb hby d15_1) rfl ((if0 _ _).trans (flt (show ¬ ((30 : Int32) < (0 : Int32)) from (by decide))).1) ?_
    refine XS.iloadN X0.here hx rfl (hb hby d15_4) rfl ?_
    refine XS.iloadN X0.here hx rfl (hb hby d15_5) rfl ?_
    refine XS.icmpNo X0.here hx rfl (hb hby d15_6) rfl (flt (show ¬ ((32 : Int32) < (30 : Int32)) from (by decide))).2.2.1 ?_
    refine XS.iloadN X0.here hx rfl (hb hby d15_9) rfl ?_
    show Steps p.tables e below (s₁.setTop (mkF m 10 #[.val (.int (30 : Int32)), .val (.int (32 : Int32)), .val (.int (32 : Int32)), .val sf] [(.int (32 : Int32))])) _
    refine XS.iloadN X0.here hx rfl (hb hby d15_10) rfl ?_
    refine XS.icmpYes X0.here hx rfl (pc0 := 11) (pc' := 22) rfl (hb hby d15_11) rfl (flt (show ¬ ((32 : Int32) < (32 : Int32)) from (by decide))).2.2.2 (by decide) (by decide) ?_
    refine XS.iloadN X0.here hx rfl (hb hby d15_22) rfl ?_
    exact retI X0 hx Bd.returns (hb hby d15_23) hr
  · show Qcft32 Z sf h0 n0 _ s₁.heap _
    rw [e0]
    exact ⟨rfl, N0, rfl⟩
def Qcbe32 (Z : State) (sf : Value) (h0 : Heap) (n0 : Nat) (v : Option Value) (h : Heap) (L : List Loc) : Prop := v = none ∧ Fr n0 L ∧ h = h0
abbrev Rm_cbe32 : Room := { frames := 1, cells := 0, slots := 0, locals := 15 }
set_option maxRecDepth 65536 in
set_option maxHeartbeats 40000000 in
theorem cbe32 (l : Launch) (Z : State) (a0 : Array Value) (hw : ∀ d ∈ tables_1, d.before a0 Z = true) (ws : List Jvm.Cond) (sf : Value) (h0 : Heap) (n0 : Nat) (Z0 : n0 ≤ h0.size) (O_S : Sta Z Z.heap "jdk/internal/util/Preconditions" "SIOOBE_FORMATTER" "Ljava/util/function/BiFunction;" sf) (hsf : sf.isRef = true) (X00 : Old Z n0 h0) :
    MetFree l my10 (head1 (Jvm.Cond.code my10 jdk_42_method_158_code 3 none :: ws) Rm_cbe32) (fun aa_ U => aa_ = #[(.int (30 : Int32)), (.int (32 : Int32)), (.int (32 : Int32))] ∧ Z.Warmed39 U.vm ∧ U.heap = h0) (fun _ _ _ _ _ => True) (fun _ U oo_ U' => ∃ v L, oo_ = .returned v ∧ Qcbe32 Z sf h0 n0 v U'.heap L ∧ FrameEnd U oo_ U' L Rm_cbe32.cells Rm_cbe32.slots) := by
  refine MetFree.of_bodySF (plainFor_of_name pn_1) hisR ?_
  intro p e s m args below meth c s₁ Bd hml0 hP hK
  obtain ⟨rfl, hZ, hh⟩ := hP
  have hx := Bd.exec
  have hby := Bd.bytes
  have hml : c.maxLocals = 3 := hml0
  have hown : s.vm.findClass "java/lang/String" = some m.cls := findClass_of_methodNamed Bd.named
  have hnm := (name_of_methodNamed Bd.named Bd.method).1
  have X0 : Stand p l e Rm_cbe32 s m #[(.int (30 : Int32)), (.int (32 : Int32)), (.int (32 : Int32))] below meth c s₁ [] 0 0 := Stand.of_body Bd
  have e0 : s₁.heap = h0 := by rw [← hh, Bd.state]; rfl
  have N0 := Fr.nil n0
  have pre0 : ∀ tt_, Steps p.tables e below (s₁.setTop (mkF m 0 #[.val (.int (30 : Int32)), .val (.int (32 : Int32)), .val (.int (32 : Int32))] [])) tt_ → Steps p.tables e below (s₁.setTop (entryFrame m #[(.int (30 : Int32)), (.int (32 : Int32)), (.int (32 : Int32))] 3)) tt_ := fun tt_ kk_ => castTop (ef_14 m (30 : Int32) (32 : Int32) (32 : Int32)) kk_
  obtain ⟨T1, X1, e1, st1⟩ := getS2 X0 hx hZ hown (host := "") (Or.inl (hwd70 hw)) Via.refl e0 (O_S.ext X00.2) (g := (mkF m 3 #[.val (.int (30 : Int32)), .val (.int (32 : Int32)), .val (.int (32 : Int32))] [(.int (32 : Int32)), (.int (32 : Int32)), (.int (30 : Int32))])) rfl (hb hby d14_3)
  obtain ⟨_, _, ⟨T2, L2, k2, n2⟩, -, X2, ⟨Lc2, hQ2, l2, y2, z2⟩, st2⟩ := Jvm.LawKit.callS X1 hx (y := my9) hown (mvT hZ (hwd72 hw)) (mvT hZ (hwd73 hw)) (mvT hZ (hwd71 hw)) (mvT hZ (hwd74 hw)) (by decide) (backOf (W := 0) (cft32 l Z a0 hw [] sf h0 n0 Z0 hsf) hZ (hwd74 hw) (hwd71 hw) (by decide) (by decide)) (g := (mkF m 6 #[.val (.int (30 : Int32)), .val (.int (32 : Int32)), .val (.int (32 : Int32))] [sf, (.int (32 : Int32)), (.int (32 : Int32)), (.int (30 : Int32))])) rfl (by rw [hml]; rfl) (argsL := [(.int (30 : Int32)), (.int (32 : Int32)), (.int (32 : Int32)), sf]) (rest := []) (lenOf pd_3 rfl) rfl (by show 2 * 0 + _ ≤ _; exact Nat.le_of_eq rfl) (hb hby d14_6) (fun _ _ => ⟨rfl, e1, (by decide : 0 + 0 ≤ _), (by decide : 0 + 0 ≤ _)⟩)
  dsimp only [Pt.U, Pt.locs, Pt.cells, Pt.slots] at X2 l2 y2 z2 st2 hQ2
  subst l2 y2 z2
  obtain ⟨rfl, N2q, e2q⟩ := hQ2
  have N2 := Fr.app N0 N2q
  obtain ⟨fs, hr, hrun, hended, hW, hsame⟩ := X2.leave (v := none) (fun _ => rfl)
  refine ⟨_, _, pre0 _ ?_, hrun, hended, _, _, rfl, ?_, ⟨_, rfl⟩, hW, hsame.mono (by decide) (by decide)⟩
  · show Steps p.tables e below (s₁.setTop (mkF m 0 #[.val (.int (30 : Int32)), .val (.int (32 : Int32)), .val (.int (32 : Int32))] [])) _
    refine XS.iloadN X0.here hx rfl (hb hby d14_0) rfl ?_
    refine XS.iloadN X0.here hx rfl (hb hby d14_1) rfl ?_
    refine XS.iloadN X0.here hx rfl (hb hby d14_2) rfl ?_
    refine st1 _ ?_
    refine st2 _ ?_
    refine XS.pop X2.here hx rfl (hb hby d14_9) rfl rfl ?_
    show Steps p.tables e below (T2.setTop (mkF m 10 #[.val (.int (30 : Int32)), .val (.int (32 : Int32)), .val (.int (32 : Int32))] [])) _
    exact X2.returnOut hx Bd.returns (hb hby d14_10) hr
  · show Qcbe32 Z sf h0 n0 _ T2.heap _
    rw [e2q]
    exact ⟨rfl, N2, rfl⟩
def Qmin2 (Z : State)  (h0 : Heap) (n0 : Nat) (v : Option Value) (h : Heap) (L : List Loc) : Prop := v = some (.int (2 : Int32)) ∧ Fr n0 L ∧ h = h0
abbrev Rm_min2 : Room := { frames := 0, cells := 0, slots := 0, locals := 0 }
set_option maxRecDepth 65536 in
set_option maxHeartbeats 40000000 in
theorem min2 (l : Launch) (Z : State) (a0 : Array Value) (hw : ∀ d ∈ tables_1, d.before a0 Z = true) (ws : List Jvm.Cond)  (h0 : Heap) (n0 : Nat) (Z0 : n0 ≤ h0.size) :
    MetFree l my15 (head1 (Jvm.Cond.code my15 jdk_29_method_69_code 2 (some .int) :: ws) Rm_min2) (fun aa_ U => aa_ = #[(.int (2 : Int32)), (.int (2 : Int32))] ∧ Z.Warmed39 U.vm ∧ U.heap = h0) (fun _ _ _ _ _ => True) (fun _ U oo_ U' => ∃ v L, oo_ = .returned v ∧ Qmin2 Z  h0 n0 v U'.heap L ∧ FrameEnd U oo_ U' L Rm_min2.cells Rm_min2.slots) := by
  refine MetFree.of_bodySF (Jvm.Free.JP.mathPlain rfl (by decide +kernel)) hisR ?_
  intro p e s m args below meth c s₁ Bd hml0 hP hK
  obtain ⟨rfl, hZ, hh⟩ := hP
  have hx := Bd.exec
  have hby := Bd.bytes
  have hml : c.maxLocals = 2 := hml0
  have hown : s.vm.findClass "java/lang/Math" = some m.cls := findClass_of_methodNamed Bd.named
  have hnm := (name_of_methodNamed Bd.named Bd.method).1
  have X0 : Stand p l e Rm_min2 s m #[(.int (2 : Int32)), (.int (2 : Int32))] below meth c s₁ [] 0 0 := Stand.of_body Bd
  have e0 : s₁.heap = h0 := by rw [← hh, Bd.state]; rfl
  have N0 := Fr.nil n0
  have pre0 : ∀ tt_, Steps p.tables e below (s₁.setTop (mkF m 0 #[.val (.int (2 : Int32)), .val (.int (2 : Int32))] [])) tt_ → Steps p.tables e below (s₁.setTop (entryFrame m #[(.int (2 : Int32)), (.int (2 : Int32))] 2)) tt_ := fun tt_ kk_ => castTop (ef_22 m (2 : Int32) (2 : Int32)) kk_
  obtain ⟨fs, hr, hrun, hended, hW, hsame⟩ := X0.leave (v := some (.int (2 : Int32))) (fun h => by rw [Bd.returns] at h; cases h)
  refine ⟨_, _, pre0 _ ?_, hrun, hended, _, _, rfl, ?_, ⟨_, rfl⟩, hW, hsame.mono (by decide) (by decide)⟩
  · show Steps p.tables e below (s₁.setTop (mkF m 0 #[.val (.int (2 : Int32)), .val (.int (2 : Int32))] [])) _
    refine XS.iloadN X0.here hx rfl (hb hby d22_0) rfl ?_
    refine XS.iloadN X0.here hx rfl (hb hby d22_1) rfl ?_
    refine XS.icmpNo X0.here hx rfl (hb hby d22_2) rfl (flt (show ¬ ((2 : Int32) < (2 : Int32)) from (by decide))).2.2.1 ?_
    refine XS.iloadN X0.here hx rfl (hb hby d22_5) rfl ?_
    refine XS.goto X0.here hx rfl (pc0 := 6) (pc' := 10) rfl (hb hby d22_6) (by decide) (by decide) ?_
    exact retI X0 hx Bd.returns (hb hby d22_10) hr
  · show Qmin2 Z  h0 n0 _ s₁.heap _
    rw [e0]
    exact ⟨rfl, N0, rfl⟩
def Qchl32 (Z : State)  (h0 : Heap) (n0 : Nat) (v : Option Value) (h : Heap) (L : List Loc) : Prop := v = none ∧ Fr n0 L ∧ h = h0
abbrev Rm_chl32 : Room := { frames := 0, cells := 0, slots := 0, locals := 0 }
set_option maxRecDepth 65536 in
set_option maxHeartbeats 40000000 in
theorem chl32 (l : Launch) (Z : State) (a0 : Array Value) (hw : ∀ d ∈ tables_1, d.before a0 Z = true) (ws : List Jvm.Cond)  (h0 : Heap) (n0 : Nat) (Z0 : n0 ≤ h0.size) :
    MetFree l my16 (head1 (Jvm.Cond.code my16 jdk_65_method_131_code 2 none :: ws) Rm_chl32) (fun aa_ U => aa_ = #[(.int (30 : Int32)), (.int (32 : Int32))] ∧ Z.Warmed39 U.vm ∧ U.heap = h0) (fun _ _ _ _ _ => True) (fun _ U oo_ U' => ∃ v L, oo_ = .returned v ∧ Qchl32 Z  h0 n0 v U'.heap L ∧ FrameEnd U oo_ U' L Rm_chl32.cells Rm_chl32.slots) := by
  refine MetFree.of_bodySF (plainFor_of_name pn_6) hisR ?_
  intro p e s m args below meth c s₁ Bd hml0 hP hK
  obtain ⟨rfl, hZ, hh⟩ := hP
  have hx := Bd.exec
  have hby := Bd.bytes
  have hml : c.maxLocals = 2 := hml0
  have hown : s.vm.findClass "java/util/Arrays" = some m.cls := findClass_of_methodNamed Bd.named
  have hnm := (name_of_methodNamed Bd.named Bd.method).1
  have X0 : Stand p l e Rm_chl32 s m #[(.int (30 : Int32)), (.int (32 : Int32))] below meth c s₁ [] 0 0 := Stand.of_body Bd
  have e0 : s₁.heap = h0 := by rw [← hh, Bd.state]; rfl
  have N0 := Fr.nil n0
  have pre0 : ∀ tt_, Steps p.tables e below (s₁.setTop (mkF m 0 #[.val (.int (30 : Int32)), .val (.int (32 : Int32))] [])) tt_ → Steps p.tables e below (s₁.setTop (entryFrame m #[(.int (30 : Int32)), (.int (32 : Int32))] 2)) tt_ := fun tt_ kk_ => castTop (ef_21 m (30 : Int32) (32 : Int32)) kk_
  obtain ⟨fs, hr, hrun, hended, hW, hsame⟩ := X0.leave (v := none) (fun _ => rfl)
  refine ⟨_, _, pre0 _ ?_, hrun, hended, _, _, rfl, ?_, ⟨_, rfl⟩, hW, hsame.mono (by decide) (by decide)⟩
  · show Steps p.tables e below (s₁.setTop (mkF m 0 #[.val (.int (30 : Int32)), .val (.int (32 : Int32))] [])) _
    refine XS.iloadN X0.here hx rfl (hb hby d21_0) rfl ?_
    refine XS.iloadN X0.here hx rfl (hb hby d21_1) rfl ?_
    refine XS.icmpYes X0.here hx rfl (pc0 := 2) (pc' := 37) rfl (hb hby d21_2) rfl (flt (show ¬ ((32 : Int32) < (30 : Int32)) from (by decide))).2.1 (by decide) (by decide) ?_
    exact X0.returnOut hx Bd.returns (hb hby d21_37) hr
  · show Qchl32 Z  h0 n0 _ s₁.heap _
    rw [e0]
    exact ⟨rfl, N0, rfl⟩
def Qcrb32 (Z : State) (b : Addr) (kb : ClassId) (vs : List Value) (h0 : Heap) (n0 : Nat) (v : Option Value) (h : Heap) (L : List Loc) : Prop := ∃ t : Addr, ∃ kt : ClassId, ∃ us : List Value, v = some (.ref t) ∧ Fr n0 L ∧ Keep h0 h [] ∧ Arv Z h t kt .byte (2 : Int32) us (.int (0 : Int32)) ∧ h0.size ≤ t ∧ n0 ≤ t
abbrev Rm_crb32 : Room := { frames := 1, cells := 1, slots := 2, locals := 18 }
set_option maxRecDepth 65536 in
set_option maxHeartbeats 40000000 in
theorem crb32 (l : Launch) (Z : State) (a0 : Array Value) (hw : ∀ d ∈ tables_1, d.before a0 Z = true) (ws : List Jvm.Cond) (b : Addr) (kb : ClassId) (vs : List Value) (h0 : Heap) (n0 : Nat) (Z0 : n0 ≤ h0.size) (V_b : Arv Z h0 b kb .byte (32 : Int32) vs (.int 0)) :
    MetFree l my17 (head1 (Jvm.Cond.code my17 jdk_65_method_133_code 5 (some (.array .byte)) :: ws) Rm_crb32) (fun aa_ U => aa_ = #[(.ref b), (.int (30 : Int32)), (.int (32 : Int32))] ∧ Z.Warmed39 U.vm ∧ U.heap = h0) (fun _ _ _ _ _ => True) (fun _ U oo_ U' => ∃ v L, oo_ = .returned v ∧ Qcrb32 Z b kb vs h0 n0 v U'.heap L ∧ FrameEnd U oo_ U' L Rm_crb32.cells Rm_crb32.slots) := by
  refine MetFree.of_bodySF (plainFor_of_name pn_6) hisR ?_
  intro p e s m args below meth c s₁ Bd hml0 hP hK
  obtain ⟨rfl, hZ, hh⟩ := hP
  have hx := Bd.exec
  have hby := Bd.bytes
  have hml : c.maxLocals = 5 := hml0
  have hown : s.vm.findClass "java/util/Arrays" = some m.cls := findClass_of_methodNamed Bd.named
  have hnm := (name_of_methodNamed Bd.named Bd.method).1
  have X0 : Stand p l e Rm_crb32 s m #[(.ref b), (.int (30 : Int32)), (.int (32 : Int32))] below meth c s₁ [] 0 0 := Stand.of_body Bd
  have e0 : s₁.heap = h0 := by rw [← hh, Bd.state]; rfl
  have N0 := Fr.nil n0
  have pre0 : ∀ tt_, Steps p.tables e below (s₁.setTop (mkF m 0 #[.val (.ref b), .val (.int (30 : Int32)), .val (.int (32 : Int32)), .unset, .unset] [])) tt_ → Steps p.tables e below (s₁.setTop (entryFrame m #[(.ref b), (.int (30 : Int32)), (.int (32 : Int32))] 5)) tt_ := fun tt_ kk_ => castTop (ef_20 m b (30 : Int32) (32 : Int32)) kk_
  obtain ⟨_, _, ⟨T1, L1, k1, n1⟩, -, X1, ⟨Lc1, hQ1, l1, y1, z1⟩, st1⟩ := Jvm.LawKit.callS X0 hx (y := my16) hown (mvT hZ (hwd98 hw)) (mvT hZ (hwd99 hw)) (mvT hZ (hwd93 hw)) (mvT hZ (hwd100 hw)) (by decide) (backOf (W := 0) (chl32 l Z a0 hw []  h0 n0 Z0 ) hZ (hwd100 hw) (hwd93 hw) (by decide) (by decide)) (g := (mkF m 2 #[.val (.ref b), .val (.int (30 : Int32)), .val (.int (32 : Int32)), .unset, .unset] [(.int (32 : Int32)), (.int (30 : Int32))])) rfl (by rw [hml]; rfl) (argsL := [(.int (30 : Int32)), (.int (32 : Int32))]) (rest := []) (lenOf pd_9 rfl) rfl (by show 2 * 0 + _ ≤ _; exact Nat.le_of_eq rfl) (hb hby d20_2) (fun _ _ => ⟨rfl, e0, (by decide : 0 + 0 ≤ _), (by decide : 0 + 0 ≤ _)⟩)
  dsimp only [Pt.U, Pt.locs, Pt.cells, Pt.slots] at X1 l1 y1 z1 st1 hQ1
  subst l1 y1 z1
  obtain ⟨rfl, N1q, e1q⟩ := hQ1
  have N1 := Fr.app N0 N1q
  obtain ⟨T2, h2, k2, X2, e2, E2, A2, st2⟩ := newP (aty := .byte) X1 hx hZ (hwd20 hw) e1q (g := (mkF m 10 #[.val (.ref b), .val (.int (30 : Int32)), .val (.int (32 : Int32)), .val (.int (2 : Int32)), .unset] [(.int (2 : Int32))])) rfl (hb hby d20_10) rfl (by decide) (cap := 2) (by decide) (by decide) (by decide) (by decide)
  obtain ⟨b2, g2⟩ : ∃ zz_, zz_ = h0.size := ⟨_, rfl⟩
  rw [← g2] at A2 st2
  have ne_b_b2 : b ≠ b2 := Nat.ne_of_lt (Nat.lt_of_lt_of_le V_b.lt (Nat.le_of_eq g2.symm))
  have g_b2 : n0 ≤ b2 := Nat.le_trans Z0 (Nat.le_of_eq g2.symm)
  have sz_b2 : h0.size ≤ b2 := Nat.le_trans (Keep.refl h0 []).1 (Nat.le_of_eq g2.symm)
  have V_b2 : Arv Z h2 b2 k2 .byte (2 : Int32) (List.replicate 2 (.int (0 : Int32))) (.int (0 : Int32)) := (Arv.new A2 (by decide)).pad (pad_rep [] (.int (0 : Int32)) 2)
  have f3_V_b := (V_b.ext E2)
  obtain ⟨cl4, Ar4, -, S4, M4, -, -⟩ := id f3_V_b
  have sz6 : n0 ≤ h2.size := (Nat.le_trans Z0 E2.1)
  obtain ⟨_, _, ⟨T5, L5, k5, n5⟩, -, X5, ⟨Lc5, hQ5, l5, y5, z5⟩, st5⟩ := Jvm.LawKit.callS X2 hx (y := my15) hown (mvT hZ (hwd101 hw)) (mvT hZ (hwd102 hw)) (mvT hZ (hwd103 hw)) (mvT hZ (hwd104 hw)) (by decide) (backOf (W := 4) (min2 l Z a0 hw []  h2 n0 sz6 ) hZ (hwd104 hw) (hwd103 hw) (by decide) (by decide)) (g := (mkF m 24 #[.val (.ref b), .val (.int (30 : Int32)), .val (.int (32 : Int32)), .val (.int (2 : Int32)), .val (.ref b2)] [(.int (2 : Int32)), (.int (2 : Int32)), (.int (0 : Int32)), (.ref b2), (.int (30 : Int32)), (.ref b)])) rfl (by rw [hml]; rfl) (argsL := [(.int (2 : Int32)), (.int (2 : Int32))]) (rest := [(.int (0 : Int32)), (.ref b2), (.int (30 : Int32)), (.ref b)]) (lenOf pd_10 rfl) rfl (by show 2 * 0 + _ ≤ _; exact Nat.le_of_eq rfl) (hb hby d20_24) (fun _ _ => ⟨rfl, e2, (by decide : 1 + 0 ≤ _), (by decide : 2 + 0 ≤ _)⟩)
  dsimp only [Pt.U, Pt.locs, Pt.cells, Pt.slots] at X5 l5 y5 z5 st5 hQ5
  subst l5 y5 z5
  obtain ⟨rfl, N5q, e5q⟩ := hQ5
  have N5 := Fr.app N1 N5q
  obtain ⟨T8, h8, L8, X8, e8, N8, K8, V8, st8⟩ := cpA X5 hx hZ hown (hwd105 hw) (hwd108 hw) (hwd106 hw) (hwd107 hw) e5q f3_V_b V_b2 (us := ((List.range 2).map fun ii_ => vs.getD (30 + ii_) (.int 0))) (Or.inl ⟨rfl, rfl⟩) (by decide) (by decide) (by decide) (by decide) (by decide) (by rfl) (by simp) N5 g_b2 (g := (mkF m 27 #[.val (.ref b), .val (.int (30 : Int32)), .val (.int (32 : Int32)), .val (.int (2 : Int32)), .val (.ref b2)] [(.int (2 : Int32)), (.int (0 : Int32)), (.ref b2), (.int (30 : Int32)), (.ref b)])) rfl (by rw [hml]; rfl) rfl (hb hby d20_27) (by decide) (W := 0) (by show 2 * 0 + _ ≤ _; exact Nat.le_of_eq rfl) (by decide)
  have Vc8 : Arv Z h8 b2 k2 .byte (2 : Int32) (List.take (Int32.toNatClampNeg (0 : Int32)) (List.replicate 2 (.int (0 : Int32))) ++ ((List.range 2).map fun ii_ => vs.getD (30 + ii_) (.int 0)) ++ List.drop (Int32.toNatClampNeg (0 : Int32) + Int32.toNatClampNeg (2 : Int32)) (List.replicate 2 (.int (0 : Int32)))) (.int (0 : Int32)) := V8
  have kp9 : Keep h0 h8 [] := (((Keep.refl h0 []).ext E2).trans K8 (allS (Or.inr sz_b2) all0))
  obtain ⟨fs, hr, hrun, hended, hW, hsame⟩ := X8.leave (v := some (.ref b2)) (fun h => by rw [Bd.returns] at h; cases h)
  refine ⟨_, _, pre0 _ ?_, hrun, hended, _, _, rfl, ?_, ⟨_, rfl⟩, hW, hsame.mono (by decide) (by decide)⟩
  · show Steps p.tables e below (s₁.setTop (mkF m 0 #[.val (.ref b), .val (.int (30 : Int32)), .val (.int (32 : Int32)), .unset, .unset] [])) _
    refine XS.iloadN X0.here hx rfl (hb hby d20_0) rfl ?_
    refine XS.iloadN X0.here hx rfl (hb hby d20_1) rfl ?_
    refine st1 _ ?_
    refine XS.iloadN X1.here hx rfl (hb hby d20_5) rfl ?_
    refine XS.iloadN X1.here hx rfl (hb hby d20_6) rfl ?_
    refine XS.isub X1.here hx rfl (hb hby d20_7) rfl ?_
    show Steps p.tables e below (T1.setTop (mkF m 8 #[.val (.ref b), .val (.int (30 : Int32)), .val (.int (32 : Int32)), .unset, .unset] [(.int ((32 : Int32) - (30 : Int32)))])) _
    rw [show (((32 : Int32) - (30 : Int32)) : Int32) = (2 : Int32) from by decide]
    refine XS.istoreN X1.here hx rfl (hb hby d20_8) rfl (l' := #[.val (.ref b), .val (.int (30 : Int32)), .val (.int (32 : Int32)), .val (.int (2 : Int32)), .unset]) rfl ?_
    refine XS.iloadN X1.here hx rfl (hb hby d20_9) rfl ?_
    refine st2 _ ?_
    refine XS.astore X2.here hx rfl (hb hby d20_12) rfl rfl (l' := #[.val (.ref b), .val (.int (30 : Int32)), .val (.int (32 : Int32)), .val (.int (2 : Int32)), .val (.ref b2)]) rfl ?_
    refine XS.aloadN X2.here hx rfl (hb hby d20_14) rfl rfl ?_
    show Steps p.tables e below (T2.setTop (mkF m 15 #[.val (.ref b), .val (.int (30 : Int32)), .val (.int (32 : Int32)), .val (.int (2 : Int32)), .val (.ref b2)] [(.ref b)])) _
    refine XS.iloadN X2.here hx rfl (hb hby d20_15) rfl ?_
    refine XS.aload X2.here hx rfl (hb hby d20_16) rfl rfl ?_
    refine XS.iconst X2.here hx rfl (hb hby d20_18) ?_
    refine XS.aloadN X2.here hx rfl (hb hby d20_19) rfl rfl ?_
    refine X2.arraylength hx (by rw [e2]; exact Ar4.1) (State.isArrayOf_alike hZ.alike Ar4.2.1) (g := (mkF m 20 #[.val (.ref b), .val (.int (30 : Int32)), .val (.int (32 : Int32)), .val (.int (2 : Int32)), .val (.ref b2)] [(.ref b), (.int (0 : Int32)), (.ref b2), (.int (30 : Int32)), (.ref b)])) rfl rfl (hb hby d20_20) _ ?_
    rw [len_of S4 M4]
    refine XS.iloadN X2.here hx rfl (hb hby d20_21) rfl ?_
    show Steps p.tables e below (T2.setTop (mkF m 22 #[.val (.ref b), .val (.int (30 : Int32)), .val (.int (32 : Int32)), .val (.int (2 : Int32)), .val (.ref b2)] [(.int (30 : Int32)), (.int (32 : Int32)), (.int (0 : Int32)), (.ref b2), (.int (30 : Int32)), (.ref b)])) _
    refine XS.isub X2.here hx rfl (hb hby d20_22) rfl ?_
    show Steps p.tables e below (T2.setTop (mkF m 23 #[.val (.ref b), .val (.int (30 : Int32)), .val (.int (32 : Int32)), .val (.int (2 : Int32)), .val (.ref b2)] [(.int ((32 : Int32) - (30 : Int32))), (.int (0 : Int32)), (.ref b2), (.int (30 : Int32)), (.ref b)])) _
    rw [show (((32 : Int32) - (30 : Int32)) : Int32) = (2 : Int32) from by decide]
    refine XS.iloadN X2.here hx rfl (hb hby d20_23) rfl ?_
    refine st5 _ ?_
    refine st8 _ ?_
    refine XS.aload X8.here hx rfl (hb hby d20_30) rfl rfl ?_
    jvm_step X8.here [X8.here.top, hx, (hb hby d20_32), X8.method', Bd.returns, Value.isRef, FieldType.isReference]
    first | (intro acts; rw [hr _ acts rfl rfl rfl]) | rw [hr _ _ rfl rfl rfl]
    exact Steps.refl _
  · show Qcrb32 Z b kb vs h0 n0 _ T8.heap _
    rw [e8]
    exact ⟨b2, k2, (List.take (Int32.toNatClampNeg (0 : Int32)) (List.replicate 2 (.int (0 : Int32))) ++ ((List.range 2).map fun ii_ => vs.getD (30 + ii_) (.int 0)) ++ List.drop (Int32.toNatClampNeg (0 : Int32) + Int32.toNatClampNeg (2 : Int32)) (List.replicate 2 (.int (0 : Int32)))), rfl, N8, kp9, Vc8, sz_b2, g_b2⟩
def Qcor32 (Z : State) (b : Addr) (kb : ClassId) (vs : List Value) (h0 : Heap) (n0 : Nat) (v : Option Value) (h : Heap) (L : List Loc) : Prop := ∃ t : Addr, ∃ kt : ClassId, ∃ us : List Value, v = some (.ref t) ∧ Fr n0 L ∧ Keep h0 h [] ∧ Arv Z h t kt .byte (2 : Int32) us (.int (0 : Int32)) ∧ h0.size ≤ t ∧ n0 ≤ t
abbrev Rm_cor32 : Room := { frames := 2, cells := 1, slots := 2, locals := 34 }
set_option maxRecDepth 65536 in
set_option maxHeartbeats 40000000 in
theorem cor32 (l : Launch) (Z : State) (a0 : Array Value) (hw : ∀ d ∈ tables_1, d.before a0 Z = true) (ws : List Jvm.Cond) (b : Addr) (kb : ClassId) (vs : List Value) (h0 : Heap) (n0 : Nat) (Z0 : n0 ≤ h0.size) (V_b : Arv Z h0 b kb .byte (32 : Int32) vs (.int 0)) :
    MetFree l my18 (head1 (Jvm.Cond.code my18 jdk_65_method_132_code 3 (some (.array .byte)) :: ws) Rm_cor32) (fun aa_ U => aa_ = #[(.ref b), (.int (30 : Int32)), (.int (32 : Int32))] ∧ Z.Warmed39 U.vm ∧ U.heap = h0) (fun _ _ _ _ _ => True) (fun _ U oo_ U' => ∃ v L, oo_ = .returned v ∧ Qcor32 Z b kb vs h0 n0 v U'.heap L ∧ FrameEnd U oo_ U' L Rm_cor32.cells Rm_cor32.slots) := by
  refine MetFree.of_bodySF (plainFor_of_name pn_6) hisR ?_
  intro p e s m args below meth c s₁ Bd hml0 hP hK
  obtain ⟨rfl, hZ, hh⟩ := hP
  have hx := Bd.exec
  have hby := Bd.bytes
  have hml : c.maxLocals = 3 := hml0
  have hown : s.vm.findClass "java/util/Arrays" = some m.cls := findClass_of_methodNamed Bd.named
  have hnm := (name_of_methodNamed Bd.named Bd.method).1
  have X0 : Stand p l e Rm_cor32 s m #[(.ref b), (.int (30 : Int32)), (.int (32 : Int32))] below meth c s₁ [] 0 0 := Stand.of_body Bd
  have e0 : s₁.heap = h0 := by rw [← hh, Bd.state]; rfl
  have N0 := Fr.nil n0
  have pre0 : ∀ tt_, Steps p.tables e below (s₁.setTop (mkF m 0 #[.val (.ref b), .val (.int (30 : Int32)), .val (.int (32 : Int32))] [])) tt_ → Steps p.tables e below (s₁.setTop (entryFrame m #[(.ref b), (.int (30 : Int32)), (.int (32 : Int32))] 3)) tt_ := fun tt_ kk_ => castTop (ef_19 m b (30 : Int32) (32 : Int32)) kk_
  obtain ⟨_, _, ⟨T1, L1, k1, n1⟩, -, X1, ⟨Lc1, hQ1, l1, y1, z1⟩, st1⟩ := Jvm.LawKit.callS X0 hx (y := my17) hown (mvT hZ (hwd95 hw)) (mvT hZ (hwd96 hw)) (mvT hZ (hwd93 hw)) (mvT hZ (hwd97 hw)) (by decide) (backOf (W := 0) (crb32 l Z a0 hw [] b kb vs h0 n0 Z0 V_b) hZ (hwd97 hw) (hwd93 hw) (by decide) (by decide)) (g := (mkF m 13 #[.val (.ref b), .val (.int (30 : Int32)), .val (.int (32 : Int32))] [(.int (32 : Int32)), (.int (30 : Int32)), (.ref b)])) rfl (by rw [hml]; rfl) (argsL := [(.ref b), (.int (30 : Int32)), (.int (32 : Int32))]) (rest := []) (lenOf pd_11 rfl) rfl (by show 2 * 0 + _ ≤ _; exact Nat.le_of_eq rfl) (hb hby d19_13) (fun _ _ => ⟨rfl, e0, (by decide : 0 + 1 ≤ _), (by decide : 0 + 2 ≤ _)⟩)
  dsimp only [Pt.U, Pt.locs, Pt.cells, Pt.slots] at X1 l1 y1 z1 st1 hQ1
  subst l1 y1 z1
  obtain ⟨t_e1, kt_e1, us_e1, rfl, N1q, K1, p1_1, sz_t_1, g_t_1⟩ := hQ1
  have N1 := Fr.app N0 N1q
  have kp2 : Keep h0 T1.heap [] := ((Keep.refl h0 []).trans K1 all0)
  obtain ⟨fs, hr, hrun, hended, hW, hsame⟩ := X1.leave (v := some (.ref t_e1)) (fun h => by rw [Bd.returns] at h; cases h)
  refine ⟨_, _, pre0 _ ?_, hrun, hended, _, _, rfl, ?_, ⟨_, rfl⟩, hW, hsame.mono (by decide) (by decide)⟩
  · show Steps p.tables e below (s₁.setTop (mkF m 0 #[.val (.ref b), .val (.int (30 : Int32)), .val (.int (32 : Int32))] [])) _
    refine XS.iloadN X0.here hx rfl (hb hby d19_0) rfl ?_
    refine XS.ifYes X0.here hx rfl (pc0 := 1) (pc' := 10) rfl (hb hby d19_1) rfl ((if0 _ _).trans (feq (show ¬ ((30 : Int32) = (0 : Int32)) from (by decide))).2) (by decide) (by decide) ?_
    refine XS.aloadN X0.here hx rfl (hb hby d19_10) rfl rfl ?_
    refine XS.iloadN X0.here hx rfl (hb hby d19_11) rfl ?_
    refine XS.iloadN X0.here hx rfl (hb hby d19_12) rfl ?_
    refine st1 _ ?_
    show Steps p.tables e below (T1.setTop (mkF m 16 #[.val (.ref b), .val (.int (30 : Int32)), .val (.int (32 : Int32))] [(.ref t_e1)])) _
    jvm_step X1.here [X1.here.top, hx, (hb hby d19_16), X1.method', Bd.returns, Value.isRef, FieldType.isReference]
    first | (intro acts; rw [hr _ acts rfl rfl rfl]) | rw [hr _ _ rfl rfl rfl]
    exact Steps.refl _
  · show Qcor32 Z b kb vs h0 n0 _ T1.heap _
    exact ⟨t_e1, kt_e1, us_e1, rfl, N1, kp2, p1_1, (Nat.le_trans (Keep.refl h0 []).1 sz_t_1), g_t_1⟩
def Qnst32 (Z : State) (b : Addr) (kb : ClassId) (vs : List Value) (h0 : Heap) (n0 : Nat) (v : Option Value) (h : Heap) (L : List Loc) : Prop := ∃ s2 : Addr, ∃ b2 : Addr, ∃ kb2 : ClassId, ∃ v2 : List Value, v = some (.ref s2) ∧ Fr n0 L ∧ Keep h0 h [] ∧ Exa Z h s2 "java/lang/String" ∧ Fld Z h s2 "java/lang/String" "value" "[B" (.ref b2) ∧ Fld Z h s2 "java/lang/String" "coder" "B" (.int (0 : Int32)) ∧ Arv Z h b2 kb2 .byte (2 : Int32) v2 (.int 0)
abbrev Rm_nst32 : Room := { frames := 3, cells := 2, slots := 6, locals := 50 }
set_option maxRecDepth 65536 in
set_option maxHeartbeats 40000000 in
theorem nst32 (l : Launch) (Z : State) (a0 : Array Value) (hw : ∀ d ∈ tables_1, d.before a0 Z = true) (ws : List Jvm.Cond) (b : Addr) (kb : ClassId) (vs : List Value) (h0 : Heap) (n0 : Nat) (Z0 : n0 ≤ h0.size) (V_b : Arv Z h0 b kb .byte (32 : Int32) vs (.int 0)) :
    MetFree l my11 (head1 (Jvm.Cond.code my11 jdk_43_method_47_code 3 (some (.object "java/lang/String")) :: ws) Rm_nst32) (fun aa_ U => aa_ = #[(.ref b), (.int (30 : Int32)), (.int (2 : Int32))] ∧ Z.Warmed39 U.vm ∧ U.heap = h0) (fun _ _ _ _ _ => True) (fun _ U oo_ U' => ∃ v L, oo_ = .returned v ∧ Qnst32 Z b kb vs h0 n0 v U'.heap L ∧ FrameEnd U oo_ U' L Rm_nst32.cells Rm_nst32.slots) := by
  refine MetFree.of_bodySF (plainFor_of_name pn_4) hisR ?_
  intro p e s m args below meth c s₁ Bd hml0 hP hK
  obtain ⟨rfl, hZ, hh⟩ := hP
  have hx := Bd.exec
  have hby := Bd.bytes
  have hml : c.maxLocals = 3 := hml0
  have hown : s.vm.findClass "java/lang/StringLatin1" = some m.cls := findClass_of_methodNamed Bd.named
  have hnm := (name_of_methodNamed Bd.named Bd.method).1
  have X0 : Stand p l e Rm_nst32 s m #[(.ref b), (.int (30 : Int32)), (.int (2 : Int32))] below meth c s₁ [] 0 0 := Stand.of_body Bd
  have e0 : s₁.heap = h0 := by rw [← hh, Bd.state]; rfl
  have N0 := Fr.nil n0
  have pre0 : ∀ tt_, Steps p.tables e below (s₁.setTop (mkF m 0 #[.val (.ref b), .val (.int (30 : Int32)), .val (.int (2 : Int32))] [])) tt_ → Steps p.tables e below (s₁.setTop (entryFrame m #[(.ref b), (.int (30 : Int32)), (.int (2 : Int32))] 3)) tt_ := fun tt_ kk_ => castTop (ef_17 m b (30 : Int32) (2 : Int32)) kk_
  obtain ⟨T1, h1, X1, e1, E1, A1, D1, -, st1⟩ := newO X0 hx hZ hown (hwd90 hw) (hwd7 hw) (hwd8 hw) e0 (g := (mkF m 7 #[.val (.ref b), .val (.int (30 : Int32)), .val (.int (2 : Int32))] [])) rfl (hb hby d17_7) (by decide) (by decide)
  obtain ⟨b1, g1⟩ : ∃ zz_, zz_ = h0.size := ⟨_, rfl⟩
  rw [← g1] at A1 D1 st1
  have ne_b_b1 : b ≠ b1 := Nat.ne_of_lt (Nat.lt_of_lt_of_le V_b.lt (Nat.le_of_eq g1.symm))
  have g_b1 : n0 ≤ b1 := Nat.le_trans Z0 (Nat.le_of_eq g1.symm)
  have sz_b1 : h0.size ≤ b1 := Nat.le_trans (Keep.refl h0 []).1 (Nat.le_of_eq g1.symm)
  have F_value_b1 : Fld Z h1 b1 "java/lang/String" "value" "[B" .null := D1 (Or.inr (hwd21 hw)) (ty := (.array .byte)) (by decide)
  have F_coder_b1 : Fld Z h1 b1 "java/lang/String" "coder" "B" (.int (0 : Int32)) := D1 (Or.inr (hwd22 hw)) (ty := .byte) (by decide)
  have f3_V_b := (V_b.ext E1)
  have sz4 : n0 ≤ h1.size := (Nat.le_trans Z0 E1.1)
  have kp5 : Keep h0 h1 [] := ((Keep.refl h0 []).ext E1)
  obtain ⟨_, _, ⟨T2, L2, k2, n2⟩, -, X2, ⟨Lc2, hQ2, l2, y2, z2⟩, st2⟩ := Jvm.LawKit.callS X1 hx (y := my18) hown (mvT hZ (hwd91 hw)) (mvT hZ (hwd92 hw)) (mvT hZ (hwd93 hw)) (mvT hZ (hwd94 hw)) (by decide) (backOf (W := 2) (cor32 l Z a0 hw [] b kb vs h1 n0 sz4 f3_V_b) hZ (hwd94 hw) (hwd93 hw) (by decide) (by decide)) (g := (mkF m 16 #[.val (.ref b), .val (.int (30 : Int32)), .val (.int (2 : Int32))] [(.int (32 : Int32)), (.int (30 : Int32)), (.ref b), (.ref b1), (.ref b1)])) rfl (by rw [hml]; rfl) (argsL := [(.ref b), (.int (30 : Int32)), (.int (32 : Int32))]) (rest := [(.ref b1), (.ref b1)]) (lenOf pd_11 rfl) rfl (by show 2 * 0 + _ ≤ _; exact Nat.le_of_eq rfl) (hb hby d17_16) (fun _ _ => ⟨rfl, e1, (by decide : 1 + 1 ≤ _), (by decide : 4 + 2 ≤ _)⟩)
  dsimp only [Pt.U, Pt.locs, Pt.cells, Pt.slots] at X2 l2 y2 z2 st2 hQ2
  subst l2 y2 z2
  obtain ⟨t_e2, kt_e2, us_e2, rfl, N2q, K2, p2_1, sz_t_2, g_t_2⟩ := hQ2
  have N2 := Fr.app N0 N2q
  have f7_E_b1 := (A1.keep K2)
  have f8_F_b1_value := (F_value_b1.keep K2 nin0)
  have f9_F_b1_coder := (F_coder_b1.keep K2 nin0)
  have sz10 : n0 ≤ T2.heap.size := (Nat.le_trans sz4 K2.1)
  obtain ⟨_, _, ⟨T6, L6, k6, n6⟩, -, X6, ⟨Lc6, hQ6, l6, y6, z6⟩, st6⟩ := X2.specialBack hx (y := my8) rfl hown (mvT hZ (hwd109 hw)) (mvT hZ (hwd110 hw)) (mvT hZ (hwd111 hw)) (by decide) (backOf (W := 1) (sbb l Z a0 hw [] b1 t_e2 (T2.heap) n0 sz10 f7_E_b1 f8_F_b1_value f9_F_b1_coder g_b1) hZ (hwd111 hw) (hwd8 hw) (by decide) (by decide)) (g := (mkF m 20 #[.val (.ref b), .val (.int (30 : Int32)), .val (.int (2 : Int32))] [(.int (0 : Int32)), (.ref t_e2), (.ref b1), (.ref b1)])) rfl (by rw [hml]; rfl) (Steps.refl _) (a := b1) (argsL := [(.ref t_e2), (.int (0 : Int32))]) (rest := [(.ref b1)]) (lenOf pd_12 rfl) rfl (by show 2 * 0 + _ ≤ _; exact Nat.le_of_eq rfl) (hb hby d17_20) (fun _ _ => ⟨rfl, rfl, (by decide : 2 + 0 ≤ _), (by decide : 6 + 0 ≤ _)⟩)
  dsimp only [Pt.U, Pt.locs, Pt.cells, Pt.slots] at X6 l6 y6 z6 st6 hQ6
  subst l6 y6 z6
  obtain ⟨rfl, N6q, K6, p6_1, p6_2, p6_3⟩ := hQ6
  have N6 := Fr.app N2 N6q
  have kp11 : Keep h0 T6.heap [] := ((kp5.trans K2 all0).trans K6 (allS (Or.inr sz_b1) all0))
  have f12_V_t_e2 := (p2_1.keep K6 (ninS (Ne.symm (Nat.ne_of_lt (Nat.lt_of_lt_of_le A1.lt sz_t_2))) nin0))
  obtain ⟨fs, hr, hrun, hended, hW, hsame⟩ := X6.leave (v := some (.ref b1)) (fun h => by rw [Bd.returns] at h; cases h)
  refine ⟨_, _, pre0 _ ?_, hrun, hended, _, _, rfl, ?_, ⟨_, rfl⟩, hW, hsame.mono (by decide) (by decide)⟩
  · show Steps p.tables e below (s₁.setTop (mkF m 0 #[.val (.ref b), .val (.int (30 : Int32)), .val (.int (2 : Int32))] [])) _
    refine XS.iloadN X0.here hx rfl (hb hby d17_0) rfl ?_
    refine XS.ifYes X0.here hx rfl (pc0 := 1) (pc' := 7) rfl (hb hby d17_1) rfl ((if0 _ _).trans (feq (show ¬ ((2 : Int32) = (0 : Int32)) from (by decide))).2) (by decide) (by decide) ?_
    refine st1 _ ?_
    refine XS.dup X1.here hx rfl (hb hby d17_10) rfl rfl ?_
    refine XS.aloadN X1.here hx rfl (hb hby d17_11) rfl rfl ?_
    refine XS.iloadN X1.here hx rfl (hb hby d17_12) rfl ?_
    show Steps p.tables e below (T1.setTop (mkF m 13 #[.val (.ref b), .val (.int (30 : Int32)), .val (.int (2 : Int32))] [(.int (30 : Int32)), (.ref b), (.ref b1), (.ref b1)])) _
    refine XS.iloadN X1.here hx rfl (hb hby d17_13) rfl ?_
    refine XS.iloadN X1.here hx rfl (hb hby d17_14) rfl ?_
    refine XS.iadd X1.here hx rfl (hb hby d17_15) rfl ?_
    show Steps p.tables e below (T1.setTop (mkF m 16 #[.val (.ref b), .val (.int (30 : Int32)), .val (.int (2 : Int32))] [(.int ((30 : Int32) + (2 : Int32))), (.int (30 : Int32)), (.ref b), (.ref b1), (.ref b1)])) _
    rw [show (((30 : Int32) + (2 : Int32)) : Int32) = (32 : Int32) from by decide]
    refine st2 _ ?_
    refine XS.iconst X2.here hx rfl (hb hby d17_19) ?_
    refine st6.trans ?_
    jvm_step X6.here [X6.here.top, hx, (hb hby d17_23), X6.method', Bd.returns, Value.isRef, FieldType.isReference]
    first | (intro acts; rw [hr _ acts rfl rfl rfl]) | rw [hr _ _ rfl rfl rfl]
    exact Steps.refl _
  · show Qnst32 Z b kb vs h0 n0 _ T6.heap _
    exact ⟨b1, t_e2, kt_e2, us_e2, rfl, N6, kp11, p6_1, p6_2, p6_3, f12_V_t_e2⟩
def Qsb2_32 (Z : State) (so : Addr) (b : Addr) (kb : ClassId) (vs : List Value) (cz : Int32) (sf : Value) (h0 : Heap) (n0 : Nat) (v : Option Value) (h : Heap) (L : List Loc) : Prop := ∃ s2 : Addr, ∃ b2 : Addr, ∃ kb2 : ClassId, ∃ v2 : List Value, v = some (.ref s2) ∧ Fr n0 L ∧ Keep h0 h [] ∧ Exa Z h s2 "java/lang/String" ∧ Fld Z h s2 "java/lang/String" "value" "[B" (.ref b2) ∧ Fld Z h s2 "java/lang/String" "coder" "B" (.int (0 : Int32)) ∧ Arv Z h b2 kb2 .byte (2 : Int32) v2 (.int 0)
abbrev Rm_sb2_32 : Room := { frames := 4, cells := 2, slots := 6, locals := 64 }
set_option maxRecDepth 65536 in
set_option maxHeartbeats 40000000 in
theorem sb2_32 (l : Launch) (Z : State) (a0 : Array Value) (hw : ∀ d ∈ tables_1, d.before a0 Z = true) (ws : List Jvm.Cond) (so : Addr) (b : Addr) (kb : ClassId) (vs : List Value) (cz : Int32) (sf : Value) (h0 : Heap) (n0 : Nat) (Z0 : n0 ≤ h0.size) (E_so : Exa Z h0 so "java/lang/String") (F_value_so : Fld Z h0 so "java/lang/String" "value" "[B" (.ref b)) (F_coder_so : Fld Z h0 so "java/lang/String" "coder" "B" (.int (0 : Int32))) (V_b : Arv Z h0 b kb .byte (32 : Int32) vs (.int 0)) (O_C : Sta Z Z.heap "java/lang/String" "COMPACT_STRINGS" "Z" (.int cz)) (hcz : ¬ (cz = (0 : Int32))) (X00 : Old Z n0 h0) (O_S : Sta Z Z.heap "jdk/internal/util/Preconditions" "SIOOBE_FORMATTER" "Ljava/util/function/BiFunction;" sf) (hsf : sf.isRef = true) :
    MetFree l my12 (head1 (Jvm.Cond.code my12 jdk_42_method_92_code 5 (some (.object "java/lang/String")) :: ws) Rm_sb2_32) (fun aa_ U => aa_ = #[(.ref so), (.int (30 : Int32)), (.int (32 : Int32))] ∧ Z.Warmed39 U.vm ∧ U.heap = h0) (fun _ _ _ _ _ => True) (fun _ U oo_ U' => ∃ v L, oo_ = .returned v ∧ Qsb2_32 Z so b kb vs cz sf h0 n0 v U'.heap L ∧ FrameEnd U oo_ U' L Rm_sb2_32.cells Rm_sb2_32.slots) := by
  refine MetFree.of_bodySF (plainFor_of_name pn_1) hisR ?_
  intro p e s m args below meth c s₁ Bd hml0 hP hK
  obtain ⟨rfl, hZ, hh⟩ := hP
  have hx := Bd.exec
  have hby := Bd.bytes
  have hml : c.maxLocals = 5 := hml0
  have hown : s.vm.findClass "java/lang/String" = some m.cls := findClass_of_methodNamed Bd.named
  have hnm := (name_of_methodNamed Bd.named Bd.method).1
  have X0 : Stand p l e Rm_sb2_32 s m #[(.ref so), (.int (30 : Int32)), (.int (32 : Int32))] below meth c s₁ [] 0 0 := Stand.of_body Bd
  have e0 : s₁.heap = h0 := by rw [← hh, Bd.state]; rfl
  have N0 := Fr.nil n0
  have pre0 : ∀ tt_, Steps p.tables e below (s₁.setTop (mkF m 0 #[.val (.ref so), .val (.int (30 : Int32)), .val (.int (32 : Int32)), .unset, .unset] [])) tt_ → Steps p.tables e below (s₁.setTop (entryFrame m #[(.ref so), (.int (30 : Int32)), (.int (32 : Int32))] 5)) tt_ := fun tt_ kk_ => castTop (ef_13 m so (30 : Int32) (32 : Int32)) kk_
  obtain ⟨cq1, kq1, q1a, q1b, q1c⟩ := isOf hZ e0 E_so
  obtain ⟨_, _, ⟨T1, L1, k1, n1⟩, -, X1, ⟨Lc1, hQ1, l1, y1, z1⟩, st1⟩ := X0.virtualBack hx (y := my5) (z := my5) hown (mvT hZ (hwd61 hw)) (mvT hZ (hwd32 hw)) (notFace_of_selects (args := #[]) (mvT hZ (hwd34 hw))) (mvT hZ (hwd34 hw)) (mvT hZ (hwd33 hw)) (by decide) (backOf (W := 0) (sle32 l Z a0 hw [] so b kb vs cz h0 n0 Z0 E_so F_value_so F_coder_so V_b O_C hcz X00) hZ (hwd35 hw) (hwd8 hw) (by decide) (by decide)) q1a q1c (g := (mkF m 1 #[.val (.ref so), .val (.int (30 : Int32)), .val (.int (32 : Int32)), .unset, .unset] [(.ref so)])) rfl (by rw [hml]; rfl) (Steps.refl _) (argsL := []) (rest := []) (lenOf pd_2 rfl) rfl (by show 2 * 0 + _ ≤ _; exact Nat.le_of_eq rfl) (hb hby d13_1) (fun _ _ => ⟨rfl, e0, (by decide : 0 + 0 ≤ _), (by decide : 0 + 0 ≤ _)⟩)
  dsimp only [Pt.U, Pt.locs, Pt.cells, Pt.slots] at X1 l1 y1 z1 st1 hQ1
  subst l1 y1 z1
  obtain ⟨rfl, N1q, e1q⟩ := hQ1
  have N1 := Fr.app N0 N1q
  obtain ⟨_, _, ⟨T2, L2, k2, n2⟩, -, X2, ⟨Lc2, hQ2, l2, y2, z2⟩, st2⟩ := Jvm.LawKit.callS X1 hx (y := my10) hown (mvT hZ (hwd67 hw)) (mvT hZ (hwd68 hw)) (mvT hZ (hwd8 hw)) (mvT hZ (hwd69 hw)) (by decide) (backOf (W := 0) (cbe32 l Z a0 hw [] sf h0 n0 Z0 O_S hsf X00) hZ (hwd69 hw) (hwd8 hw) (by decide) (by decide)) (g := (mkF m 8 #[.val (.ref so), .val (.int (30 : Int32)), .val (.int (32 : Int32)), .val (.int (32 : Int32)), .unset] [(.int (32 : Int32)), (.int (32 : Int32)), (.int (30 : Int32))])) rfl (by rw [hml]; rfl) (argsL := [(.int (30 : Int32)), (.int (32 : Int32)), (.int (32 : Int32))]) (rest := []) (lenOf pd_4 rfl) rfl (by show 2 * 0 + _ ≤ _; exact Nat.le_of_eq rfl) (hb hby d13_8) (fun _ _ => ⟨rfl, e1q, (by decide : 0 + 0 ≤ _), (by decide : 0 + 0 ≤ _)⟩)
  dsimp only [Pt.U, Pt.locs, Pt.cells, Pt.slots] at X2 l2 y2 z2 st2 hQ2
  subst l2 y2 z2
  obtain ⟨rfl, N2q, e2q⟩ := hQ2
  have N2 := Fr.app N1 N2q
  obtain ⟨cq3, kq3, q3a, q3b, q3c⟩ := isOf hZ e2q E_so
  obtain ⟨_, _, ⟨T3, L3, k3, n3⟩, -, X3, ⟨Lc3, hQ3, l3, y3, z3⟩, st3⟩ := X2.virtualBack hx (y := my4) (z := my4) hown (mvT hZ (hwd75 hw)) (mvT hZ (hwd76 hw)) (notFace_of_selects (args := #[]) (mvT hZ (hwd78 hw))) (mvT hZ (hwd78 hw)) (mvT hZ (hwd77 hw)) (by decide) (backOf (W := 0) (lat l Z a0 hw [] so cz h0 n0 Z0 F_coder_so O_C hcz X00) hZ (hwd79 hw) (hwd8 hw) (by decide) (by decide)) q3a q3c (g := (mkF m 28 #[.val (.ref so), .val (.int (30 : Int32)), .val (.int (32 : Int32)), .val (.int (32 : Int32)), .val (.int (2 : Int32))] [(.ref so)])) rfl (by rw [hml]; rfl) (Steps.refl _) (argsL := []) (rest := []) (lenOf pd_5 rfl) rfl (by show 2 * 0 + _ ≤ _; exact Nat.le_of_eq rfl) (hb hby d13_28) (fun _ _ => ⟨rfl, e2q, (by decide : 0 + 0 ≤ _), (by decide : 0 + 0 ≤ _)⟩)
  dsimp only [Pt.U, Pt.locs, Pt.cells, Pt.slots] at X3 l3 y3 z3 st3 hQ3
  subst l3 y3 z3
  obtain ⟨rfl, N3q, e3q⟩ := hQ3
  have N3 := Fr.app N2 N3q
  obtain ⟨T4, X4, e4, st4⟩ := getF X3 hx hZ hown (host := "") (Or.inl (hwd25 hw)) Via.refl e3q F_value_so (g := (mkF m 35 #[.val (.ref so), .val (.int (30 : Int32)), .val (.int (32 : Int32)), .val (.int (32 : Int32)), .val (.int (2 : Int32))] [(.ref so)])) rfl rfl (hb hby d13_35)
  obtain ⟨_, _, ⟨T5, L5, k5, n5⟩, -, X5, ⟨Lc5, hQ5, l5, y5, z5⟩, st5⟩ := Jvm.LawKit.callS X4 hx (y := my11) hown (mvT hZ (hwd80 hw)) (mvT hZ (hwd81 hw)) (mvT hZ (hwd82 hw)) (mvT hZ (hwd83 hw)) (by decide) (backOf (W := 0) (nst32 l Z a0 hw [] b kb vs h0 n0 Z0 V_b) hZ (hwd83 hw) (hwd82 hw) (by decide) (by decide)) (g := (mkF m 41 #[.val (.ref so), .val (.int (30 : Int32)), .val (.int (32 : Int32)), .val (.int (32 : Int32)), .val (.int (2 : Int32))] [(.int (2 : Int32)), (.int (30 : Int32)), (.ref b)])) rfl (by rw [hml]; rfl) (argsL := [(.ref b), (.int (30 : Int32)), (.int (2 : Int32))]) (rest := []) (lenOf pd_6 rfl) rfl (by show 2 * 0 + _ ≤ _; exact Nat.le_of_eq rfl) (hb hby d13_41) (fun _ _ => ⟨rfl, e4, (by decide : 0 + 2 ≤ _), (by decide : 0 + 6 ≤ _)⟩)
  dsimp only [Pt.U, Pt.locs, Pt.cells, Pt.slots] at X5 l5 y5 z5 st5 hQ5
  subst l5 y5 z5
  obtain ⟨s2_e5, b2_e5, kb2_e5, v2_e5, rfl, N5q, K5, p5_1, p5_2, p5_3, p5_4⟩ := hQ5
  have N5 := Fr.app N3 N5q
  have kp6 : Keep h0 T5.heap [] := ((Keep.refl h0 []).trans K5 all0)
  obtain ⟨fs, hr, hrun, hended, hW, hsame⟩ := X5.leave (v := some (.ref s2_e5)) (fun h => by rw [Bd.returns] at h; cases h)
  refine ⟨_, _, pre0 _ ?_, hrun, hended, _, _, rfl, ?_, ⟨_, rfl⟩, hW, hsame.mono (by decide) (by decide)⟩
  · show Steps p.tables e below (s₁.setTop (mkF m 0 #[.val (.ref so), .val (.int (30 : Int32)), .val (.int (32 : Int32)), .unset, .unset] [])) _
    refine XS.aloadN X0.here hx rfl (hb hby d13_0) rfl rfl ?_
    refine st1.trans ?_
    refine XS.istoreN X1.here hx rfl (hb hby d13_4) rfl (l' := #[.val (.ref so), .val (.int (30 : Int32)), .val (.int (32 : Int32)), .val (.int (32 : Int32)), .unset]) rfl ?_
    refine XS.iloadN X1.here hx rfl (hb hby d13_5) rfl ?_
    refine XS.iloadN X1.here hx rfl (hb hby d13_6) rfl ?_
    refine XS.iloadN X1.here hx rfl (hb hby d13_7) rfl ?_
    show Steps p.tables e below (T1.setTop (mkF m 8 #[.val (.ref so), .val (.int (30 : Int32)), .val (.int (32 : Int32)), .val (.int (32 : Int32)), .unset] [(.int (32 : Int32)), (.int (32 : Int32)), (.int (30 : Int32))])) _
    refine st2 _ ?_
    refine XS.iloadN X2.here hx rfl (hb hby d13_11) rfl ?_
    refine XS.ifYes X2.here hx rfl (pc0 := 12) (pc' := 22) rfl (hb hby d13_12) rfl ((if0 _ _).trans (feq (show ¬ ((30 : Int32) = (0 : Int32)) from (by decide))).2) (by decide) (by decide) ?_
    refine XS.iloadN X2.here hx rfl (hb hby d13_22) rfl ?_
    refine XS.iloadN X2.here hx rfl (hb hby d13_23) rfl ?_
    refine XS.isub X2.here hx rfl (hb hby d13_24) rfl ?_
    show Steps p.tables e below (T2.setTop (mkF m 25 #[.val (.ref so), .val (.int (30 : Int32)), .val (.int (32 : Int32)), .val (.int (32 : Int32)), .unset] [(.int ((32 : Int32) - (30 : Int32)))])) _
    rw [show (((32 : Int32) - (30 : Int32)) : Int32) = (2 : Int32) from by decide]
    refine XS.istore X2.here hx rfl (hb hby d13_25) rfl (l' := #[.val (.ref so), .val (.int (30 : Int32)), .val (.int (32 : Int32)), .val (.int (32 : Int32)), .val (.int (2 : Int32))]) rfl ?_
    refine XS.aloadN X2.here hx rfl (hb hby d13_27) rfl rfl ?_
    refine st3.trans ?_
    refine XS.ifNo X3.here hx rfl (hb hby d13_31) rfl ((if0 _ _).trans (feq (show ¬ ((1 : Int32) = (0 : Int32)) from (by decide))).1) ?_
    refine XS.aloadN X3.here hx rfl (hb hby d13_34) rfl rfl ?_
    show Steps p.tables e below (T3.setTop (mkF m 35 #[.val (.ref so), .val (.int (30 : Int32)), .val (.int (32 : Int32)), .val (.int (32 : Int32)), .val (.int (2 : Int32))] [(.ref so)])) _
    refine st4 _ ?_
    refine XS.iloadN X4.here hx rfl (hb hby d13_38) rfl ?_
    refine XS.iload X4.here hx rfl (hb hby d13_39) rfl ?_
    refine st5 _ ?_
    refine XS.goto X5.here hx rfl (pc0 := 44) (pc' := 57) rfl (hb hby d13_44) (by decide) (by decide) ?_
    jvm_step X5.here [X5.here.top, hx, (hb hby d13_57), X5.method', Bd.returns, Value.isRef, FieldType.isReference]
    first | (intro acts; rw [hr _ acts rfl rfl rfl]) | rw [hr _ _ rfl rfl rfl]
    exact Steps.refl _
  · show Qsb2_32 Z so b kb vs cz sf h0 n0 _ T5.heap _
    exact ⟨s2_e5, b2_e5, kb2_e5, v2_e5, rfl, N5, kp6, p5_1, p5_2, p5_3, p5_4⟩
def Qsb1_32 (Z : State) (so : Addr) (b : Addr) (kb : ClassId) (vs : List Value) (cz : Int32) (sf : Value) (h0 : Heap) (n0 : Nat) (v : Option Value) (h : Heap) (L : List Loc) : Prop := ∃ s2 : Addr, ∃ b2 : Addr, ∃ kb2 : ClassId, ∃ v2 : List Value, v = some (.ref s2) ∧ Fr n0 L ∧ Keep h0 h [] ∧ Exa Z h s2 "java/lang/String" ∧ Fld Z h s2 "java/lang/String" "value" "[B" (.ref b2) ∧ Fld Z h s2 "java/lang/String" "coder" "B" (.int (0 : Int32)) ∧ Arv Z h b2 kb2 .byte (2 : Int32) v2 (.int 0)
abbrev Rm_sb1_32 : Room := { frames := 5, cells := 2, slots := 6, locals := 80 }
set_option maxRecDepth 65536 in
set_option maxHeartbeats 40000000 in
theorem sb1_32 (l : Launch) (Z : State) (a0 : Array Value) (hw : ∀ d ∈ tables_1, d.before a0 Z = true) (ws : List Jvm.Cond) (so : Addr) (b : Addr) (kb : ClassId) (vs : List Value) (cz : Int32) (sf : Value) (h0 : Heap) (n0 : Nat) (Z0 : n0 ≤ h0.size) (E_so : Exa Z h0 so "java/lang/String") (F_value_so : Fld Z h0 so "java/lang/String" "value" "[B" (.ref b)) (F_coder_so : Fld Z h0 so "java/lang/String" "coder" "B" (.int (0 : Int32))) (V_b : Arv Z h0 b kb .byte (32 : Int32) vs (.int 0)) (O_C : Sta Z Z.heap "java/lang/String" "COMPACT_STRINGS" "Z" (.int cz)) (hcz : ¬ (cz = (0 : Int32))) (X00 : Old Z n0 h0) (O_S : Sta Z Z.heap "jdk/internal/util/Preconditions" "SIOOBE_FORMATTER" "Ljava/util/function/BiFunction;" sf) (hsf : sf.isRef = true) :
    MetFree l my13 (head1 (Jvm.Cond.code my13 jdk_42_method_91_code 2 (some (.object "java/lang/String")) :: ws) Rm_sb1_32) (fun aa_ U => aa_ = #[(.ref so), (.int (30 : Int32))] ∧ Z.Warmed39 U.vm ∧ U.heap = h0) (fun _ _ _ _ _ => True) (fun _ U oo_ U' => ∃ v L, oo_ = .returned v ∧ Qsb1_32 Z so b kb vs cz sf h0 n0 v U'.heap L ∧ FrameEnd U oo_ U' L Rm_sb1_32.cells Rm_sb1_32.slots) := by
  refine MetFree.of_bodySF (plainFor_of_name pn_1) hisR ?_
  intro p e s m args below meth c s₁ Bd hml0 hP hK
  obtain ⟨rfl, hZ, hh⟩ := hP
  have hx := Bd.exec
  have hby := Bd.bytes
  have hml : c.maxLocals = 2 := hml0
  have hown : s.vm.findClass "java/lang/String" = some m.cls := findClass_of_methodNamed Bd.named
  have hnm := (name_of_methodNamed Bd.named Bd.method).1
  have X0 : Stand p l e Rm_sb1_32 s m #[(.ref so), (.int (30 : Int32))] below meth c s₁ [] 0 0 := Stand.of_body Bd
  have e0 : s₁.heap = h0 := by rw [← hh, Bd.state]; rfl
  have N0 := Fr.nil n0
  have pre0 : ∀ tt_, Steps p.tables e below (s₁.setTop (mkF m 0 #[.val (.ref so), .val (.int (30 : Int32))] [])) tt_ → Steps p.tables e below (s₁.setTop (entryFrame m #[(.ref so), (.int (30 : Int32))] 2)) tt_ := fun tt_ kk_ => castTop (ef_12 m so (30 : Int32)) kk_
  obtain ⟨cq1, kq1, q1a, q1b, q1c⟩ := isOf hZ e0 E_so
  obtain ⟨_, _, ⟨T1, L1, k1, n1⟩, -, X1, ⟨Lc1, hQ1, l1, y1, z1⟩, st1⟩ := X0.virtualBack hx (y := my5) (z := my5) hown (mvT hZ (hwd61 hw)) (mvT hZ (hwd32 hw)) (notFace_of_selects (args := #[]) (mvT hZ (hwd34 hw))) (mvT hZ (hwd34 hw)) (mvT hZ (hwd33 hw)) (by decide) (backOf (W := 2) (sle32 l Z a0 hw [] so b kb vs cz h0 n0 Z0 E_so F_value_so F_coder_so V_b O_C hcz X00) hZ (hwd35 hw) (hwd8 hw) (by decide) (by decide)) q1a q1c (g := (mkF m 3 #[.val (.ref so), .val (.int (30 : Int32))] [(.ref so), (.int (30 : Int32)), (.ref so)])) rfl (by rw [hml]; rfl) (Steps.refl _) (argsL := []) (rest := [(.int (30 : Int32)), (.ref so)]) (lenOf pd_2 rfl) rfl (by show 2 * 0 + _ ≤ _; exact Nat.le_of_eq rfl) (hb hby d12_3) (fun _ _ => ⟨rfl, e0, (by decide : 0 + 0 ≤ _), (by decide : 0 + 0 ≤ _)⟩)
  dsimp only [Pt.U, Pt.locs, Pt.cells, Pt.slots] at X1 l1 y1 z1 st1 hQ1
  subst l1 y1 z1
  obtain ⟨rfl, N1q, e1q⟩ := hQ1
  have N1 := Fr.app N0 N1q
  obtain ⟨cq2, kq2, q2a, q2b, q2c⟩ := isOf hZ e1q E_so
  obtain ⟨_, _, ⟨T2, L2, k2, n2⟩, -, X2, ⟨Lc2, hQ2, l2, y2, z2⟩, st2⟩ := X1.virtualBack hx (y := my12) (z := my12) hown (mvT hZ (hwd62 hw)) (mvT hZ (hwd63 hw)) (notFace_of_selects (args := #[]) (mvT hZ (hwd65 hw))) (mvT hZ (hwd65 hw)) (mvT hZ (hwd64 hw)) (by decide) (backOf (W := 0) (sb2_32 l Z a0 hw [] so b kb vs cz sf h0 n0 Z0 E_so F_value_so F_coder_so V_b O_C hcz X00 O_S hsf) hZ (hwd66 hw) (hwd8 hw) (by decide) (by decide)) q2a q2c (g := (mkF m 6 #[.val (.ref so), .val (.int (30 : Int32))] [(.int (32 : Int32)), (.int (30 : Int32)), (.ref so)])) rfl (by rw [hml]; rfl) (Steps.refl _) (argsL := [(.int (30 : Int32)), (.int (32 : Int32))]) (rest := []) (lenOf pd_7 rfl) rfl (by show 2 * 0 + _ ≤ _; exact Nat.le_of_eq rfl) (hb hby d12_6) (fun _ _ => ⟨rfl, e1q, (by decide : 0 + 2 ≤ _), (by decide : 0 + 6 ≤ _)⟩)
  dsimp only [Pt.U, Pt.locs, Pt.cells, Pt.slots] at X2 l2 y2 z2 st2 hQ2
  subst l2 y2 z2
  obtain ⟨s2_e2, b2_e2, kb2_e2, v2_e2, rfl, N2q, K2, p2_1, p2_2, p2_3, p2_4⟩ := hQ2
  have N2 := Fr.app N1 N2q
  have kp3 : Keep h0 T2.heap [] := ((Keep.refl h0 []).trans K2 all0)
  obtain ⟨fs, hr, hrun, hended, hW, hsame⟩ := X2.leave (v := some (.ref s2_e2)) (fun h => by rw [Bd.returns] at h; cases h)
  refine ⟨_, _, pre0 _ ?_, hrun, hended, _, _, rfl, ?_, ⟨_, rfl⟩, hW, hsame.mono (by decide) (by decide)⟩
  · show Steps p.tables e below (s₁.setTop (mkF m 0 #[.val (.ref so), .val (.int (30 : Int32))] [])) _
    refine XS.aloadN X0.here hx rfl (hb hby d12_0) rfl rfl ?_
    refine XS.iloadN X0.here hx rfl (hb hby d12_1) rfl ?_
    refine XS.aloadN X0.here hx rfl (hb hby d12_2) rfl rfl ?_
    refine st1.trans ?_
    refine st2.trans ?_
    jvm_step X2.here [X2.here.top, hx, (hb hby d12_9), X2.method', Bd.returns, Value.isRef, FieldType.isReference]
    first | (intro acts; rw [hr _ acts rfl rfl rfl]) | rw [hr _ _ rfl rfl rfl]
    exact Steps.refl _
  · show Qsb1_32 Z so b kb vs cz sf h0 n0 _ T2.heap _
    exact ⟨s2_e2, b2_e2, kb2_e2, v2_e2, rfl, N2, kp3, p2_1, p2_2, p2_3, p2_4⟩
def Qclu32 (Z : State) (so : Addr) (b : Addr) (kb : ClassId) (vs : List Value) (cz : Int32) (sf : Value) (h0 : Heap) (n0 : Nat) (v : Option Value) (h : Heap) (L : List Loc) : Prop := ∃ s2 : Addr, ∃ b2 : Addr, ∃ kb2 : ClassId, ∃ v2 : List Value, v = some (.ref s2) ∧ Fr n0 L ∧ Keep h0 h [] ∧ Exa Z h s2 "java/lang/String" ∧ Fld Z h s2 "java/lang/String" "value" "[B" (.ref b2) ∧ Fld Z h s2 "java/lang/String" "coder" "B" (.int (0 : Int32)) ∧ Arv Z h b2 kb2 .byte (2 : Int32) v2 (.int 0)
abbrev Rm_clu32 : Room := { frames := 6, cells := 2, slots := 6, locals := 93 }
set_option maxRecDepth 65536 in
set_option maxHeartbeats 40000000 in
theorem clu32 (l : Launch) (Z : State) (a0 : Array Value) (hw : ∀ d ∈ tables_1, d.before a0 Z = true) (ws : List Jvm.Cond) (so : Addr) (b : Addr) (kb : ClassId) (vs : List Value) (cz : Int32) (sf : Value) (h0 : Heap) (n0 : Nat) (Z0 : n0 ≤ h0.size) (E_so : Exa Z h0 so "java/lang/String") (F_value_so : Fld Z h0 so "java/lang/String" "value" "[B" (.ref b)) (F_coder_so : Fld Z h0 so "java/lang/String" "coder" "B" (.int (0 : Int32))) (V_b : Arv Z h0 b kb .byte (32 : Int32) vs (.int 0)) (O_C : Sta Z Z.heap "java/lang/String" "COMPACT_STRINGS" "Z" (.int cz)) (hcz : ¬ (cz = (0 : Int32))) (X00 : Old Z n0 h0) (O_S : Sta Z Z.heap "jdk/internal/util/Preconditions" "SIOOBE_FORMATTER" "Ljava/util/function/BiFunction;" sf) (hsf : sf.isRef = true) :
    MetFree l my14 (head1 (Jvm.Cond.code my14 prog_78_method_5_code 1 (some (.object "java/lang/String")) :: ws) Rm_clu32) (fun aa_ U => aa_ = #[(.ref so)] ∧ Z.Warmed39 U.vm ∧ U.heap = h0) (fun _ _ _ _ _ => True) (fun _ U oo_ U' => ∃ v L, oo_ = .returned v ∧ Qclu32 Z so b kb vs cz sf h0 n0 v U'.heap L ∧ FrameEnd U oo_ U' L Rm_clu32.cells Rm_clu32.slots) := by
  refine MetFree.of_bodySF (plainFor_of_name pn_2) hisR ?_
  intro p e s m args below meth c s₁ Bd hml0 hP hK
  obtain ⟨rfl, hZ, hh⟩ := hP
  have hx := Bd.exec
  have hby := Bd.bytes
  have hml : c.maxLocals = 1 := hml0
  have hown : s.vm.findClass "com/example/coretally/coretally/store/SampleKey" = some m.cls := findClass_of_methodNamed Bd.named
  have hnm := (name_of_methodNamed Bd.named Bd.method).1
  have X0 : Stand p l e Rm_clu32 s m #[(.ref so)] below meth c s₁ [] 0 0 := Stand.of_body Bd
  have e0 : s₁.heap = h0 := by rw [← hh, Bd.state]; rfl
  have N0 := Fr.nil n0
  have pre0 : ∀ tt_, Steps p.tables e below (s₁.setTop (mkF m 0 #[.val (.ref so)] [])) tt_ → Steps p.tables e below (s₁.setTop (entryFrame m #[(.ref so)] 1)) tt_ := fun tt_ kk_ => castTop (ef_11 m so) kk_
  obtain ⟨cq1, kq1, q1a, q1b, q1c⟩ := isOf hZ e0 E_so
  obtain ⟨_, _, ⟨T1, L1, k1, n1⟩, -, X1, ⟨Lc1, hQ1, l1, y1, z1⟩, st1⟩ := X0.virtualBack hx (y := my13) (z := my13) hown (mvT hZ (hwd56 hw)) (mvT hZ (hwd57 hw)) (notFace_of_selects (args := #[]) (mvT hZ (hwd59 hw))) (mvT hZ (hwd59 hw)) (mvT hZ (hwd58 hw)) (by decide) (backOf (W := 0) (sb1_32 l Z a0 hw [] so b kb vs cz sf h0 n0 Z0 E_so F_value_so F_coder_so V_b O_C hcz X00 O_S hsf) hZ (hwd60 hw) (hwd8 hw) (by decide) (by decide)) q1a q1c (g := (mkF m 3 #[.val (.ref so)] [(.int (30 : Int32)), (.ref so)])) rfl (by rw [hml]; rfl) (Steps.refl _) (argsL := [(.int (30 : Int32))]) (rest := []) (lenOf pd_8 rfl) rfl (by show 2 * 0 + _ ≤ _; exact Nat.le_of_eq rfl) (hb hby d11_3) (fun _ _ => ⟨rfl, e0, (by decide : 0 + 2 ≤ _), (by decide : 0 + 6 ≤ _)⟩)
  dsimp only [Pt.U, Pt.locs, Pt.cells, Pt.slots] at X1 l1 y1 z1 st1 hQ1
  subst l1 y1 z1
  obtain ⟨s2_e1, b2_e1, kb2_e1, v2_e1, rfl, N1q, K1, p1_1, p1_2, p1_3, p1_4⟩ := hQ1
  have N1 := Fr.app N0 N1q
  have kp2 : Keep h0 T1.heap [] := ((Keep.refl h0 []).trans K1 all0)
  obtain ⟨fs, hr, hrun, hended, hW, hsame⟩ := X1.leave (v := some (.ref s2_e1)) (fun h => by rw [Bd.returns] at h; cases h)
  refine ⟨_, _, pre0 _ ?_, hrun, hended, _, _, rfl, ?_, ⟨_, rfl⟩, hW, hsame.mono (by decide) (by decide)⟩
  · show Steps p.tables e below (s₁.setTop (mkF m 0 #[.val (.ref so)] [])) _
    refine XS.aloadN X0.here hx rfl (hb hby d11_0) rfl rfl ?_
    refine XS.bipush X0.here hx rfl (hb hby d11_1) ?_
    show Steps p.tables e below (s₁.setTop (mkF m 3 #[.val (.ref so)] [(.int (30 : Int32)), (.ref so)])) _
    refine st1.trans ?_
    jvm_step X1.here [X1.here.top, hx, (hb hby d11_6), X1.method', Bd.returns, Value.isRef, FieldType.isReference]
    first | (intro acts; rw [hr _ acts rfl rfl rfl]) | rw [hr _ _ rfl rfl rfl]
    exact Steps.refl _
  · show Qclu32 Z so b kb vs cz sf h0 n0 _ T1.heap _
    exact ⟨s2_e1, b2_e1, kb2_e1, v2_e1, rfl, N1, kp2, p1_1, p1_2, p1_3, p1_4⟩
def Qcft60 (Z : State) (sf : Value) (h0 : Heap) (n0 : Nat) (v : Option Value) (h : Heap) (L : List Loc) : Prop := v = some (.int (30 : Int32)) ∧ Fr n0 L ∧ h = h0
abbrev Rm_cft60 : Room := { frames := 0, cells := 0, slots := 0, locals := 0 }
set_option maxRecDepth 65536 in
set_option maxHeartbeats 40000000 in
theorem cft60 (l : Launch) (Z : State) (a0 : Array Value) (hw : ∀ d ∈ tables_1, d.before a0 Z = true) (ws : List Jvm.Cond) (sf : Value) (h0 : Heap) (n0 : Nat) (Z0 : n0 ≤ h0.size) (hsf : sf.isRef = true) :
    MetFree l my9 (head1 (Jvm.Cond.code my9 jdk_41_method_12_code 4 (some .int) :: ws) Rm_cft60) (fun aa_ U => aa_ = #[(.int (30 : Int32)), (.int (60 : Int32)), (.int (60 : Int32)), sf] ∧ Z.Warmed39 U.vm ∧ U.heap = h0) (fun _ _ _ _ _ => True) (fun _ U oo_ U' => ∃ v L, oo_ = .returned v ∧ Qcft60 Z sf h0 n0 v U'.heap L ∧ FrameEnd U oo_ U' L Rm_cft60.cells Rm_cft60.slots) := by
  refine MetFree.of_bodySF (plainFor_of_name pn_3) hisR ?_
  intro p e s m args below meth c s₁ Bd hml0 hP hK
  obtain ⟨rfl, hZ, hh⟩ := hP
  have hx := Bd.exec
  have hby := Bd.bytes
  have hml : c.maxLocals = 4 := hml0
  have hown : s.vm.findClass "jdk/internal/util/Preconditions" = some m.cls := findClass_of_methodNamed Bd.named
  have hnm := (name_of_methodNamed Bd.named Bd.method).1
  have X0 : Stand p l e Rm_cft60 s m #[(.int (30 : Int32)), (.int (60 : Int32)), (.int (60 : Int32)), sf] below meth c s₁ [] 0 0 := Stand.of_body Bd
  have e0 : s₁.heap = h0 := by rw [← hh, Bd.state]; rfl
  have N0 := Fr.nil n0
  have pre0 : ∀ tt_, Steps p.tables e below (s₁.setTop (mkF m 0 #[.val (.int (30 : Int32)), .val (.int (60 : Int32)), .val (.int (60 : Int32)), .val sf] [])) tt_ → Steps p.tables e below (s₁.setTop (entryFrame m #[(.int (30 : Int32)), (.int (60 : Int32)), (.int (60 : Int32)), sf] 4)) tt_ := fun tt_ kk_ => castTop (ef_15 m (30 : Int32) (60 : Int32) (60 : Int32) sf hsf) kk_
  obtain ⟨fs, hr, hrun, hended, hW, hsame⟩ := X0.leave (v := some (.int (30 : Int32))) (fun h => by rw [Bd.returns] at h; cases h)
  refine ⟨_, _, pre0 _ ?_, hrun, hended, _, _, rfl, ?_, ⟨_, rfl⟩, hW, hsame.mono (by decide) (by decide)⟩
  · show Steps p.tables e below (s₁.setTop (mkF m 0 #[.val (.int (30 : Int32)), .val (.int (60 : Int32)), .val (.int (60 : Int32)), .val sf] [])) _
    refine XS.iloadN X0.here hx rfl (hb hby d15_0) rfl ?_
    refine XS.ifNo X0.here hx rfl (hb hby d15_1) rfl ((if0 _ _).trans (flt (show ¬ ((30 : Int32) < (0 : Int32)) from (by decide))).1) ?_
    refine XS.iloadN X0.here hx rfl (hb hby d15_4) rfl ?_
    refine XS.iloadN X0.here hx rfl (hb hby d15_5) rfl ?_
    refine XS.icmpNo X0.here hx rfl (hb hby d15_6) rfl (flt (show ¬ ((60 : Int32) < (30 : Int32)) from (by decide))).2.2.1 ?_
    refine XS.iloadN X0.here hx rfl (hb hby d15_9) rfl ?_
    show Steps p.tables e below (s₁.setTop (mkF m 10 #[.val (.int (30 : Int32)), .val (.int (60 : Int32)), .val (.int (60 : Int32)), .val sf] [(.int (60 : Int32))])) _
    refine XS.iloadN X0.here hx rfl (hb hby d15_10) rfl ?_
    refine XS.icmpYes X0.here hx rfl (pc0 := 11) (pc' := 22) rfl (hb hby d15_11) rfl (flt (show ¬ ((60 : Int32) < (60 : Int32)) from (by decide))).2.2.2 (by decide) (by decide) ?_
    refine XS.iloadN X0.here hx rfl (hb hby d15_22) rfl ?_
    exact retI X0 hx Bd.returns (hb hby d15_23) hr
  · show Qcft60 Z sf h0 n0 _ s₁.heap _
    rw [e0]
    exact ⟨rfl, N0, rfl⟩
def Qcbe60 (Z : State) (sf : Value) (h0 : Heap) (n0 : Nat) (v : Option Value) (h : Heap) (L : List Loc) : Prop := v = none ∧ Fr n0 L ∧ h = h0
abbrev Rm_cbe60 : Room := { frames := 1, cells := 0, slots := 0, locals := 15 }
set_option maxRecDepth 65536 in
set_option maxHeartbeats 40000000 in
theorem cbe60 (l : Launch) (Z : State) (a0 : Array Value) (hw : ∀ d ∈ tables_1, d.before a0 Z = true) (ws : List Jvm.Cond) (sf : Value) (h0 : Heap) (n0 : Nat) (Z0 : n0 ≤ h0.size) (O_S : Sta Z Z.heap "jdk/internal/util/Preconditions" "SIOOBE_FORMATTER" "Ljava/util/function/BiFunction;" sf) (hsf : sf.isRef = true) (X00 : Old Z n0 h0) :
    MetFree l my10 (head1 (Jvm.Cond.code my10 jdk_42_method_158_code 3 none :: ws) Rm_cbe60) (fun aa_ U => aa_ = #[(.int (30 : Int32)), (.int (60 : Int32)), (.int (60 : Int32))] ∧ Z.Warmed39 U.vm ∧ U.heap = h0) (fun _ _ _ _ _ => True) (fun _ U oo_ U' => ∃ v L, oo_ = .returned v ∧ Qcbe60 Z sf h0 n0 v U'.heap L ∧ FrameEnd U oo_ U' L Rm_cbe60.cells Rm_cbe60.slots) := by
  refine MetFree.of_bodySF (plainFor_of_name pn_1) hisR ?_
  intro p e s m args below meth c s₁ Bd hml0 hP hK
  obtain ⟨rfl, hZ, hh⟩ := hP
  have hx := Bd.exec
  have hby := Bd.bytes
  have hml : c.maxLocals = 3 := hml0
  have hown : s.vm.findClass "java/lang/String" = some m.cls := findClass_of_methodNamed Bd.named
  have hnm := (name_of_methodNamed Bd.named Bd.method).1
  have X0 : Stand p l e Rm_cbe60 s m #[(.int (30 : Int32)), (.int (60 : Int32)), (.int (60 : Int32))] below meth c s₁ [] 0 0 := Stand.of_body Bd
  have e0 : s₁.heap = h0 := by rw [← hh, Bd.state]; rfl
  have N0 := Fr.nil n0
  have pre0 : ∀ tt_, Steps p.tables e below (s₁.setTop (mkF m 0 #[.val (.int (30 : Int32)), .val (.int (60 : Int32)), .val (.int (60 : Int32))] [])) tt_ → Steps p.tables e below (s₁.setTop (entryFrame m #[(.int (30 : Int32)), (.int (60 : Int32)), (.int (60 : Int32))] 3)) tt_ := fun tt_ kk_ => castTop (ef_14 m (30 : Int32) (60 : Int32) (60 : Int32)) kk_
  obtain ⟨T1, X1, e1, st1⟩ := getS2 X0 hx hZ hown (host := "") (Or.inl (hwd70 hw)) Via.refl e0 (O_S.ext X00.2) (g := (mkF m 3 #[.val (.int (30 : Int32)), .val (.int (60 : Int32)), .val (.int (60 : Int32))] [(.int (60 : Int32)), (.int (60 : Int32)), (.int (30 : Int32))])) rfl (hb hby d14_3)
  obtain ⟨_, _, ⟨T2, L2, k2, n2⟩, -, X2, ⟨Lc2, hQ2, l2, y2, z2⟩, st2⟩ := Jvm.LawKit.callS X1 hx (y := my9) hown (mvT hZ (hwd72 hw)) (mvT hZ (hwd73 hw)) (mvT hZ (hwd71 hw)) (mvT hZ (hwd74 hw)) (by decide) (backOf (W := 0) (cft60 l Z a0 hw [] sf h0 n0 Z0 hsf) hZ (hwd74 hw) (hwd71 hw) (by decide) (by decide)) (g := (mkF m 6 #[.val (.int (30 : Int32)), .val (.int (60 : Int32)), .val (.int (60 : Int32))] [sf, (.int (60 : Int32)), (.int (60 : Int32)), (.int (30 : Int32))])) rfl (by rw [hml]; rfl) (argsL := [(.int (30 : Int32)), (.int (60 : Int32)), (.int (60 : Int32)), sf]) (rest := []) (lenOf pd_3 rfl) rfl (by show 2 * 0 + _ ≤ _; exact Nat.le_of_eq rfl) (hb hby d14_6) (fun _ _ => ⟨rfl, e1, (by decide : 0 + 0 ≤ _), (by decide : 0 + 0 ≤ _)⟩)
  dsimp only [Pt.U, Pt.locs, Pt.cells, Pt.slots] at X2 l2 y2 z2 st2 hQ2
  subst l2 y2 z2
  obtain ⟨rfl, N2q, e2q⟩ := hQ2
  have N2 := Fr.app N0 N2q
  obtain ⟨fs, hr, hrun, hended, hW, hsame⟩ := X2.leave (v := none) (fun _ => rfl)
  refine ⟨_, _, pre0 _ ?_, hrun, hended, _, _, rfl, ?_, ⟨_, rfl⟩, hW, hsame.mono (by decide) (by decide)⟩
  · show Steps p.tables e below (s₁.setTop (mkF m 0 #[.val (.int (30 : Int32)), .val (.int (60 : Int32)), .val (.int (60 : Int32))] [])) _
    refine XS.iloadN X0.here hx rfl (hb hby d14_0) rfl ?_
    refine XS.iloadN X0.here hx rfl (hb hby d14_1) rfl ?_
    refine XS.iloadN X0.here hx rfl (hb hby d14_2) rfl ?_
    refine st1 _ ?_
    refine st2 _ ?_
    refine XS.pop X2.here hx rfl (hb hby d14_9) rfl rfl ?_
    show Steps p.tables e below (T2.setTop (mkF m 10 #[.val (.int (30 : Int32)), .val (.int (60 : Int32)), .val (.int (60 : Int32))] [])) _
    exact X2.returnOut hx Bd.returns (hb hby d14_10) hr
  · show Qcbe60 Z sf h0 n0 _ T2.heap _
    rw [e2q]
    exact ⟨rfl, N2, rfl⟩
def Qmin30 (Z : State)  (h0 : Heap) (n0 : Nat) (v : Option Value) (h : Heap) (L : List Loc) : Prop := v = some (.int (30 : Int32)) ∧ Fr n0 L ∧ h = h0
abbrev Rm_min30 : Room := { frames := 0, cells := 0, slots := 0, locals := 0 }
set_option maxRecDepth 65536 in
set_option maxHeartbeats 40000000 in
theorem min30 (l : Launch) (Z : State) (a0 : Array Value) (hw : ∀ d ∈ tables_1, d.before a0 Z = true) (ws : List Jvm.Cond)  (h0 : Heap) (n0 : Nat) (Z0 : n0 ≤ h0.size) :
    MetFree l my15 (head1 (Jvm.Cond.code my15 jdk_29_method_69_code 2 (some .int) :: ws) Rm_min30) (fun aa_ U => aa_ = #[(.int (30 : Int32)), (.int (30 : Int32))] ∧ Z.Warmed39 U.vm ∧ U.heap = h0) (fun _ _ _ _ _ => True) (fun _ U oo_ U' => ∃ v L, oo_ = .returned v ∧ Qmin30 Z  h0 n0 v U'.heap L ∧ FrameEnd U oo_ U' L Rm_min30.cells Rm_min30.slots) := by
  refine MetFree.of_bodySF (Jvm.Free.JP.mathPlain rfl (by decide +kernel)) hisR ?_
  intro p e s m args below meth c s₁ Bd hml0 hP hK
  obtain ⟨rfl, hZ, hh⟩ := hP
  have hx := Bd.exec
  have hby := Bd.bytes
  have hml : c.maxLocals = 2 := hml0
  have hown : s.vm.findClass "java/lang/Math" = some m.cls := findClass_of_methodNamed Bd.named
  have hnm := (name_of_methodNamed Bd.named Bd.method).1
  have X0 : Stand p l e Rm_min30 s m #[(.int (30 : Int32)), (.int (30 : Int32))] below meth c s₁ [] 0 0 := Stand.of_body Bd
  have e0 : s₁.heap = h0 := by rw [← hh, Bd.state]; rfl
  have N0 := Fr.nil n0
  have pre0 : ∀ tt_, Steps p.tables e below (s₁.setTop (mkF m 0 #[.val (.int (30 : Int32)), .val (.int (30 : Int32))] [])) tt_ → Steps p.tables e below (s₁.setTop (entryFrame m #[(.int (30 : Int32)), (.int (30 : Int32))] 2)) tt_ := fun tt_ kk_ => castTop (ef_22 m (30 : Int32) (30 : Int32)) kk_
  obtain ⟨fs, hr, hrun, hended, hW, hsame⟩ := X0.leave (v := some (.int (30 : Int32))) (fun h => by rw [Bd.returns] at h; cases h)
  refine ⟨_, _, pre0 _ ?_, hrun, hended, _, _, rfl, ?_, ⟨_, rfl⟩, hW, hsame.mono (by decide) (by decide)⟩
  · show Steps p.tables e below (s₁.setTop (mkF m 0 #[.val (.int (30 : Int32)), .val (.int (30 : Int32))] [])) _
    refine XS.iloadN X0.here hx rfl (hb hby d22_0) rfl ?_
    refine XS.iloadN X0.here hx rfl (hb hby d22_1) rfl ?_
    refine XS.icmpNo X0.here hx rfl (hb hby d22_2) rfl (flt (show ¬ ((30 : Int32) < (30 : Int32)) from (by decide))).2.2.1 ?_
    refine XS.iloadN X0.here hx rfl (hb hby d22_5) rfl ?_
    refine XS.goto X0.here hx rfl (pc0 := 6) (pc' := 10) rfl (hb hby d22_6) (by decide) (by decide) ?_
    exact retI X0 hx Bd.returns (hb hby d22_10) hr
  · show Qmin30 Z  h0 n0 _ s₁.heap _
    rw [e0]
    exact ⟨rfl, N0, rfl⟩
def Qchl60 (Z : State)  (h0 : Heap) (n0 : Nat) (v : Option Value) (h : Heap) (L : List Loc) : Prop := v = none ∧ Fr n0 L ∧ h = h0
abbrev Rm_chl60 : Room := { frames := 0, cells := 0, slots := 0, locals := 0 }
set_option maxRecDepth 65536 in
set_option maxHeartbeats 40000000 in
theorem chl60 (l : Launch) (Z : State) (a0 : Array Value) (hw : ∀ d ∈ tables_1, d.before a0 Z = true) (ws : List Jvm.Cond)  (h0 : Heap) (n0 : Nat) (Z0 : n0 ≤ h0.size) :
    MetFree l my16 (head1 (Jvm.Cond.code my16 jdk_65_method_131_code 2 none :: ws) Rm_chl60) (fun aa_ U => aa_ = #[(.int (30 : Int32)), (.int (60 : Int32))] ∧ Z.Warmed39 U.vm ∧ U.heap = h0) (fun _ _ _ _ _ => True) (fun _ U oo_ U' => ∃ v L, oo_ = .returned v ∧ Qchl60 Z  h0 n0 v U'.heap L ∧ FrameEnd U oo_ U' L Rm_chl60.cells Rm_chl60.slots) := by
  refine MetFree.of_bodySF (plainFor_of_name pn_6) hisR ?_
  intro p e s m args below meth c s₁ Bd hml0 hP hK
  obtain ⟨rfl, hZ, hh⟩ := hP
  have hx := Bd.exec
  have hby := Bd.bytes
  have hml : c.maxLocals = 2 := hml0
  have hown : s.vm.findClass "java/util/Arrays" = some m.cls := findClass_of_methodNamed Bd.named
  have hnm := (name_of_methodNamed Bd.named Bd.method).1
  have X0 : Stand p l e Rm_chl60 s m #[(.int (30 : Int32)), (.int (60 : Int32))] below meth c s₁ [] 0 0 := Stand.of_body Bd
  have e0 : s₁.heap = h0 := by rw [← hh, Bd.state]; rfl
  have N0 := Fr.nil n0
  have pre0 : ∀ tt_, Steps p.tables e below (s₁.setTop (mkF m 0 #[.val (.int (30 : Int32)), .val (.int (60 : Int32))] [])) tt_ → Steps p.tables e below (s₁.setTop (entryFrame m #[(.int (30 : Int32)), (.int (60 : Int32))] 2)) tt_ := fun tt_ kk_ => castTop (ef_21 m (30 : Int32) (60 : Int32)) kk_
  obtain ⟨fs, hr, hrun, hended, hW, hsame⟩ := X0.leave (v := none) (fun _ => rfl)
  refine ⟨_, _, pre0 _ ?_, hrun, hended, _, _, rfl, ?_, ⟨_, rfl⟩, hW, hsame.mono (by decide) (by decide)⟩
  · show Steps p.tables e below (s₁.setTop (mkF m 0 #[.val (.int (30 : Int32)), .val (.int (60 : Int32))] [])) _
    refine XS.iloadN X0.here hx rfl (hb hby d21_0) rfl ?_
    refine XS.iloadN X0.here hx rfl (hb hby d21_1) rfl ?_
    refine XS.icmpYes X0.here hx rfl (pc0 := 2) (pc' := 37) rfl (hb hby d21_2) rfl (flt (show ¬ ((60 : Int32) < (30 : Int32)) from (by decide))).2.1 (by decide) (by decide) ?_
    exact X0.returnOut hx Bd.returns (hb hby d21_37) hr
  · show Qchl60 Z  h0 n0 _ s₁.heap _
    rw [e0]
    exact ⟨rfl, N0, rfl⟩
def Qcrb60 (Z : State) (b : Addr) (kb : ClassId) (vs : List Value) (h0 : Heap) (n0 : Nat) (v : Option Value) (h : Heap) (L : List Loc) : Prop := ∃ t : Addr, ∃ kt : ClassId, ∃ us : List Value, v = some (.ref t) ∧ Fr n0 L ∧ Keep h0 h [] ∧ Arv Z h t kt .byte (30 : Int32) us (.int (0 : Int32)) ∧ h0.size ≤ t ∧ n0 ≤ t
abbrev Rm_crb60 : Room := { frames := 1, cells := 1, slots := 30, locals := 18 }
set_option maxRecDepth 65536 in
set_option maxHeartbeats 40000000 in
theorem crb60 (l : Launch) (Z : State) (a0 : Array Value) (hw : ∀ d ∈ tables_1, d.before a0 Z = true) (ws : List Jvm.Cond) (b : Addr) (kb : ClassId) (vs : List Value) (h0 : Heap) (n0 : Nat) (Z0 : n0 ≤ h0.size) (V_b : Arv Z h0 b kb .byte (60 : Int32) vs (.int 0)) :
    MetFree l my17 (head1 (Jvm.Cond.code my17 jdk_65_method_133_code 5 (some (.array .byte)) :: ws) Rm_crb60) (fun aa_ U => aa_ = #[(.ref b), (.int (30 : Int32)), (.int (60 : Int32))] ∧ Z.Warmed39 U.vm ∧ U.heap = h0) (fun _ _ _ _ _ => True) (fun _ U oo_ U' => ∃ v L, oo_ = .returned v ∧ Qcrb60 Z b kb vs h0 n0 v U'.heap L ∧ FrameEnd U oo_ U' L Rm_crb60.cells Rm_crb60.slots) := by
  refine MetFree.of_bodySF (plainFor_of_name pn_6) hisR ?_
  intro p e s m args below meth c s₁ Bd hml0 hP hK
  obtain ⟨rfl, hZ, hh⟩ := hP
  have hx := Bd.exec
  have hby := Bd.bytes
  have hml : c.maxLocals = 5 := hml0
  have hown : s.vm.findClass "java/util/Arrays" = some m.cls := findClass_of_methodNamed Bd.named
  have hnm := (name_of_methodNamed Bd.named Bd.method).1
  have X0 : Stand p l e Rm_crb60 s m #[(.ref b), (.int (30 : Int32)), (.int (60 : Int32))] below meth c s₁ [] 0 0 := Stand.of_body Bd
  have e0 : s₁.heap = h0 := by rw [← hh, Bd.state]; rfl
  have N0 := Fr.nil n0
  have pre0 : ∀ tt_, Steps p.tables e below (s₁.setTop (mkF m 0 #[.val (.ref b), .val (.int (30 : Int32)), .val (.int (60 : Int32)), .unset, .unset] [])) tt_ → Steps p.tables e below (s₁.setTop (entryFrame m #[(.ref b), (.int (30 : Int32)), (.int (60 : Int32))] 5)) tt_ := fun tt_ kk_ => castTop (ef_20 m b (30 : Int32) (60 : Int32)) kk_
  obtain ⟨_, _, ⟨T1, L1, k1, n1⟩, -, X1, ⟨Lc1, hQ1, l1, y1, z1⟩, st1⟩ := Jvm.LawKit.callS X0 hx (y := my16) hown (mvT hZ (hwd98 hw)) (mvT hZ (hwd99 hw)) (mvT hZ (hwd93 hw)) (mvT hZ (hwd100 hw)) (by decide) (backOf (W := 0) (chl60 l Z a0 hw []  h0 n0 Z0 ) hZ (hwd100 hw) (hwd93 hw) (by decide) (by decide)) (g := (mkF m 2 #[.val (.ref b), .val (.int (30 : Int32)), .val (.int (60 : Int32)), .unset, .unset] [(.int (60 : Int32)), (.int (30 : Int32))])) rfl (by rw [hml]; rfl) (argsL := [(.int (30 : Int32)), (.int (60 : Int32))]) (rest := []) (lenOf pd_9 rfl) rfl (by show 2 * 0 + _ ≤ _; exact Nat.le_of_eq rfl) (hb hby d20_2) (fun _ _ => ⟨rfl, e0, (by decide : 0 + 0 ≤ _), (by decide : 0 + 0 ≤ _)⟩)
  dsimp only [Pt.U, Pt.locs, Pt.cells, Pt.slots] at X1 l1 y1 z1 st1 hQ1
  subst l1 y1 z1
  obtain ⟨rfl, N1q, e1q⟩ := hQ1
  have N1 := Fr.app N0 N1q
  obtain ⟨T2, h2, k2, X2, e2, E2, A2, st2⟩ := newP (aty := .byte) X1 hx hZ (hwd20 hw) e1q (g := (mkF m 10 #[.val (.ref b), .val (.int (30 : Int32)), .val (.int (60 : Int32)), .val (.int (30 : Int32)), .unset] [(.int (30 : Int32))])) rfl (hb hby d20_10) rfl (by decide) (cap := 30) (by decide) (by decide) (by decide) (by decide)
  obtain ⟨b2, g2⟩ : ∃ zz_, zz_ = h0.size := ⟨_, rfl⟩
  rw [← g2] at A2 st2
  have ne_b_b2 : b ≠ b2 := Nat.ne_of_lt (Nat.lt_of_lt_of_le V_b.lt (Nat.le_of_eq g2.symm))
  have g_b2 : n0 ≤ b2 := Nat.le_trans Z0 (Nat.le_of_eq g2.symm)
  have sz_b2 : h0.size ≤ b2 := Nat.le_trans (Keep.refl h0 []).1 (Nat.le_of_eq g2.symm)
  have V_b2 : Arv Z h2 b2 k2 .byte (30 : Int32) (List.replicate 30 (.int (0 : Int32))) (.int (0 : Int32)) := (Arv.new A2 (by decide)).pad (pad_rep [] (.int (0 : Int32)) 30)
  have f3_V_b := (V_b.ext E2)
  obtain ⟨cl4, Ar4, -, S4, M4, -, -⟩ := id f3_V_b
  have sz6 : n0 ≤ h2.size := (Nat.le_trans Z0 E2.1)
  obtain ⟨_, _, ⟨T5, L5, k5, n5⟩, -, X5, ⟨Lc5, hQ5, l5, y5, z5⟩, st5⟩ := Jvm.LawKit.callS X2 hx (y := my15) hown (mvT hZ (hwd101 hw)) (mvT hZ (hwd102 hw)) (mvT hZ (hwd103 hw)) (mvT hZ (hwd104 hw)) (by decide) (backOf (W := 4) (min30 l Z a0 hw []  h2 n0 sz6 ) hZ (hwd104 hw) (hwd103 hw) (by decide) (by decide)) (g := (mkF m 24 #[.val (.ref b), .val (.int (30 : Int32)), .val (.int (60 : Int32)), .val (.int (30 : Int32)), .val (.ref b2)] [(.int (30 : Int32)), (.int (30 : Int32)), (.int (0 : Int32)), (.ref b2), (.int (30 : Int32)), (.ref b)])) rfl (by rw [hml]; rfl) (argsL := [(.int (30 : Int32)), (.int (30 : Int32))]) (rest := [(.int (0 : Int32)), (.ref b2), (.int (30 : Int32)), (.ref b)]) (lenOf pd_10 rfl) rfl (by show 2 * 0 + _ ≤ _; exact Nat.le_of_eq rfl) (hb hby d20_24) (fun _ _ => ⟨rfl, e2, (by decide : 1 + 0 ≤ _), (by decide : 30 + 0 ≤ _)⟩)
  dsimp only [Pt.U, Pt.locs, Pt.cells, Pt.slots] at X5 l5 y5 z5 st5 hQ5
  subst l5 y5 z5
  obtain ⟨rfl, N5q, e5q⟩ := hQ5
  have N5 := Fr.app N1 N5q
  obtain ⟨T8, h8, L8, X8, e8, N8, K8, V8, st8⟩ := cpA X5 hx hZ hown (hwd105 hw) (hwd108 hw) (hwd106 hw) (hwd107 hw) e5q f3_V_b V_b2 (us := ((List.range 30).map fun ii_ => vs.getD (30 + ii_) (.int 0))) (Or.inl ⟨rfl, rfl⟩) (by decide) (by decide) (by decide) (by decide) (by decide) (by rfl) (by simp) N5 g_b2 (g := (mkF m 27 #[.val (.ref b), .val (.int (30 : Int32)), .val (.int (60 : Int32)), .val (.int (30 : Int32)), .val (.ref b2)] [(.int (30 : Int32)), (.int (0 : Int32)), (.ref b2), (.int (30 : Int32)), (.ref b)])) rfl (by rw [hml]; rfl) rfl (hb hby d20_27) (by decide) (W := 0) (by show 2 * 0 + _ ≤ _; exact Nat.le_of_eq rfl) (by decide)
  have Vc8 : Arv Z h8 b2 k2 .byte (30 : Int32) (List.take (Int32.toNatClampNeg (0 : Int32)) (List.replicate 30 (.int (0 : Int32))) ++ ((List.range 30).map fun ii_ => vs.getD (30 + ii_) (.int 0)) ++ List.drop (Int32.toNatClampNeg (0 : Int32) + Int32.toNatClampNeg (30 : Int32)) (List.replicate 30 (.int (0 : Int32)))) (.int (0 : Int32)) := V8
  have kp9 : Keep h0 h8 [] := (((Keep.refl h0 []).ext E2).trans K8 (allS (Or.inr sz_b2) all0))
  obtain ⟨fs, hr, hrun, hended, hW, hsame⟩ := X8.leave (v := some (.ref b2)) (fun h => by rw [Bd.returns] at h; cases h)
  refine ⟨_, _, pre0 _ ?_, hrun, hended, _, _, rfl, ?_, ⟨_, rfl⟩, hW, hsame.mono (by decide) (by decide)⟩
  · show Steps p.tables e below (s₁.setTop (mkF m 0 #[.val (.ref b), .val (.int (30 : Int32)), .val (.int (60 : Int32)), .unset, .unset] [])) _
    refine XS.iloadN X0.here hx rfl (hb hby d20_0) rfl ?_
    refine XS.iloadN X0.here hx rfl (hb hby d20_1) rfl ?_
    refine st1 _ ?_
    refine XS.iloadN X1.here hx rfl (hb hby d20_5) rfl ?_
    refine XS.iloadN X1.here hx rfl (hb hby d20_6) rfl ?_
    refine XS.isub X1.here hx rfl (hb hby d20_7) rfl ?_
    show Steps p.tables e below (T1.setTop (mkF m 8 #[.val (.ref b), .val (.int (30 : Int32)), .val (.int (60 : Int32)), .unset, .unset] [(.int ((60 : Int32) - (30 : Int32)))])) _
    rw [show (((60 : Int32) - (30 : Int32)) : Int32) = (30 : Int32) from by decide]
    refine XS.istoreN X1.here hx rfl (hb hby d20_8) rfl (l' := #[.val (.ref b), .val (.int (30 : Int32)), .val (.int (60 : Int32)), .val (.int (30 : Int32)), .unset]) rfl ?_
    refine XS.iloadN X1.here hx rfl (hb hby d20_9) rfl ?_
    refine st2 _ ?_
    refine XS.astore X2.here hx rfl (hb hby d20_12) rfl rfl (l' := #[.val (.ref b), .val (.int (30 : Int32)), .val (.int (60 : Int32)), .val (.int (30 : Int32)), .val (.ref b2)]) rfl ?_
    refine XS.aloadN X2.here hx rfl (hb hby d20_14) rfl rfl ?_
    show Steps p.tables e below (T2.setTop (mkF m 15 #[.val (.ref b), .val (.int (30 : Int32)), .val (.int (60 : Int32)), .val (.int (30 : Int32)), .val (.ref b2)] [(.ref b)])) _
    refine XS.iloadN X2.here hx rfl (hb hby d20_15) rfl ?_
    refine XS.aload X2.here hx rfl (hb hby d20_16) rfl rfl ?_
    refine XS.iconst X2.here hx rfl (hb hby d20_18) ?_
    refine XS.aloadN X2.here hx rfl (hb hby d20_19) rfl rfl ?_
    refine X2.arraylength hx (by rw [e2]; exact Ar4.1) (State.isArrayOf_alike hZ.alike Ar4.2.1) (g := (mkF m 20 #[.val (.ref b), .val (.int (30 : Int32)), .val (.int (60 : Int32)), .val (.int (30 : Int32)), .val (.ref b2)] [(.ref b), (.int (0 : Int32)), (.ref b2), (.int (30 : Int32)), (.ref b)])) rfl rfl (hb hby d20_20) _ ?_
    rw [len_of S4 M4]
    refine XS.iloadN X2.here hx rfl (hb hby d20_21) rfl ?_
    show Steps p.tables e below (T2.setTop (mkF m 22 #[.val (.ref b), .val (.int (30 : Int32)), .val (.int (60 : Int32)), .val (.int (30 : Int32)), .val (.ref b2)] [(.int (30 : Int32)), (.int (60 : Int32)), (.int (0 : Int32)), (.ref b2), (.int (30 : Int32)), (.ref b)])) _
    refine XS.isub X2.here hx rfl (hb hby d20_22) rfl ?_
    show Steps p.tables e below (T2.setTop (mkF m 23 #[.val (.ref b), .val (.int (30 : Int32)), .val (.int (60 : Int32)), .val (.int (30 : Int32)), .val (.ref b2)] [(.int ((60 : Int32) - (30 : Int32))), (.int (0 : Int32)), (.ref b2), (.int (30 : Int32)), (.ref b)])) _
    rw [show (((60 : Int32) - (30 : Int32)) : Int32) = (30 : Int32) from by decide]
    refine XS.iloadN X2.here hx rfl (hb hby d20_23) rfl ?_
    refine st5 _ ?_
    refine st8 _ ?_
    refine XS.aload X8.here hx rfl (hb hby d20_30) rfl rfl ?_
    jvm_step X8.here [X8.here.top, hx, (hb hby d20_32), X8.method', Bd.returns, Value.isRef, FieldType.isReference]
    first | (intro acts; rw [hr _ acts rfl rfl rfl]) | rw [hr _ _ rfl rfl rfl]
    exact Steps.refl _
  · show Qcrb60 Z b kb vs h0 n0 _ T8.heap _
    rw [e8]
    exact ⟨b2, k2, (List.take (Int32.toNatClampNeg (0 : Int32)) (List.replicate 30 (.int (0 : Int32))) ++ ((List.range 30).map fun ii_ => vs.getD (30 + ii_) (.int 0)) ++ List.drop (Int32.toNatClampNeg (0 : Int32) + Int32.toNatClampNeg (30 : Int32)) (List.replicate 30 (.int (0 : Int32)))), rfl, N8, kp9, Vc8, sz_b2, g_b2⟩
def Qcor60 (Z : State) (b : Addr) (kb : ClassId) (vs : List Value) (h0 : Heap) (n0 : Nat) (v : Option Value) (h : Heap) (L : List Loc) : Prop := ∃ t : Addr, ∃ kt : ClassId, ∃ us : List Value, v = some (.ref t) ∧ Fr n0 L ∧ Keep h0 h [] ∧ Arv Z h t kt .byte (30 : Int32) us (.int (0 : Int32)) ∧ h0.size ≤ t ∧ n0 ≤ t
abbrev Rm_cor60 : Room := { frames := 2, cells := 1, slots := 30, locals := 34 }
set_option maxRecDepth 65536 in
set_option maxHeartbeats 40000000 in
theorem cor60 (l : Launch) (Z : State) (a0 : Array Value) (hw : ∀ d ∈ tables_1, d.before a0 Z = true) (ws : List Jvm.Cond) (b : Addr) (kb : ClassId) (vs : List Value) (h0 : Heap) (n0 : Nat) (Z0 : n0 ≤ h0.size) (V_b : Arv Z h0 b kb .byte (60 : Int32) vs (.int 0)) :
    MetFree l my18 (head1 (Jvm.Cond.code my18 jdk_65_method_132_code 3 (some (.array .byte)) :: ws) Rm_cor60) (fun aa_ U => aa_ = #[(.ref b), (.int (30 : Int32)), (.int (60 : Int32))] ∧ Z.Warmed39 U.vm ∧ U.heap = h0) (fun _ _ _ _ _ => True) (fun _ U oo_ U' => ∃ v L, oo_ = .returned v ∧ Qcor60 Z b kb vs h0 n0 v U'.heap L ∧ FrameEnd U oo_ U' L Rm_cor60.cells Rm_cor60.slots) := by
  refine MetFree.of_bodySF (plainFor_of_name pn_6) hisR ?_
  intro p e s m args below meth c s₁ Bd hml0 hP hK
  obtain ⟨rfl, hZ, hh⟩ := hP
  have hx := Bd.exec
  have hby := Bd.bytes
  have hml : c.maxLocals = 3 := hml0
  have hown : s.vm.findClass "java/util/Arrays" = some m.cls := findClass_of_methodNamed Bd.named
  have hnm := (name_of_methodNamed Bd.named Bd.method).1
  have X0 : Stand p l e Rm_cor60 s m #[(.ref b), (.int (30 : Int32)), (.int (60 : Int32))] below meth c s₁ [] 0 0 := Stand.of_body Bd
  have e0 : s₁.heap = h0 := by rw [← hh, Bd.state]; rfl
  have N0 := Fr.nil n0
  have pre0 : ∀ tt_, Steps p.tables e below (s₁.setTop (mkF m 0 #[.val (.ref b), .val (.int (30 : Int32)), .val (.int (60 : Int32))] [])) tt_ → Steps p.tables e below (s₁.setTop (entryFrame m #[(.ref b), (.int (30 : Int32)), (.int (60 : Int32))] 3)) tt_ := fun tt_ kk_ => castTop (ef_19 m b (30 : Int32) (60 : Int32)) kk_
  obtain ⟨_, _, ⟨T1, L1, k1, n1⟩, -, X1, ⟨Lc1, hQ1, l1, y1, z1⟩, st1⟩ := Jvm.LawKit.callS X0 hx (y := my17) hown (mvT hZ (hwd95 hw)) (mvT hZ (hwd96 hw)) (mvT hZ (hwd93 hw)) (mvT hZ (hwd97 hw)) (by decide) (backOf (W := 0) (crb60 l Z a0 hw [] b kb vs h0 n0 Z0 V_b) hZ (hwd97 hw) (hwd93 hw) (by decide) (by decide)) (g := (mkF m 13 #[.val (.ref b), .val (.int (30 : Int32)), .val (.int (60 : Int32))] [(.int (60 : Int32)), (.int (30 : Int32)), (.ref b)])) rfl (by rw [hml]; rfl) (argsL := [(.ref b), (.int (30 : Int32)), (.int (60 : Int32))]) (rest := []) (lenOf pd_11 rfl) rfl (by show 2 * 0 + _ ≤ _; exact Nat.le_of_eq rfl) (hb hby d19_13) (fun _ _ => ⟨rfl, e0, (by decide : 0 + 1 ≤ _), (by decide : 0 + 30 ≤ _)⟩)
  dsimp only [Pt.U, Pt.locs, Pt.cells, Pt.slots] at X1 l1 y1 z1 st1 hQ1
  subst l1 y1 z1
  obtain ⟨t_e1, kt_e1, us_e1, rfl, N1q, K1, p1_1, sz_t_1, g_t_1⟩ := hQ1
  have N1 := Fr.app N0 N1q
  have kp2 : Keep h0 T1.heap [] := ((Keep.refl h0 []).trans K1 all0)
  obtain ⟨fs, hr, hrun, hended, hW, hsame⟩ := X1.leave (v := some (.ref t_e1)) (fun h => by rw [Bd.returns] at h; cases h)
  refine ⟨_, _, pre0 _ ?_, hrun, hended, _, _, rfl, ?_, ⟨_, rfl⟩, hW, hsame.mono (by decide) (by decide)⟩
  · show Steps p.tables e below (s₁.setTop (mkF m 0 #[.val (.ref b), .val (.int (30 : Int32)), .val (.int (60 : Int32))] [])) _
    refine XS.iloadN X0.here hx rfl (hb hby d19_0) rfl ?_
    refine XS.ifYes X0.here hx rfl (pc0 := 1) (pc' := 10) rfl (hb hby d19_1) rfl ((if0 _ _).trans (feq (show ¬ ((30 : Int32) = (0 : Int32)) from (by decide))).2) (by decide) (by decide) ?_
    refine XS.aloadN X0.here hx rfl (hb hby d19_10) rfl rfl ?_
    refine XS.iloadN X0.here hx rfl (hb hby d19_11) rfl ?_
    refine XS.iloadN X0.here hx rfl (hb hby d19_12) rfl ?_
    refine st1 _ ?_
    show Steps p.tables e below (T1.setTop (mkF m 16 #[.val (.ref b), .val (.int (30 : Int32)), .val (.int (60 : Int32))] [(.ref t_e1)])) _
    jvm_step X1.here [X1.here.top, hx, (hb hby d19_16), X1.method', Bd.returns, Value.isRef, FieldType.isReference]
    first | (intro acts; rw [hr _ acts rfl rfl rfl]) | rw [hr _ _ rfl rfl rfl]
    exact Steps.refl _
  · show Qcor60 Z b kb vs h0 n0 _ T1.heap _
    exact ⟨t_e1, kt_e1, us_e1, rfl, N1, kp2, p1_1, (Nat.le_trans (Keep.refl h0 []).1 sz_t_1), g_t_1⟩
def Qnst60 (Z : State) (b : Addr) (kb : ClassId) (vs : List Value) (h0 : Heap) (n0 : Nat) (v : Option Value) (h : Heap) (L : List Loc) : Prop := ∃ s2 : Addr, ∃ b2 : Addr, ∃ kb2 : ClassId, ∃ v2 : List Value, v = some (.ref s2) ∧ Fr n0 L ∧ Keep h0 h [] ∧ Exa Z h s2 "java/lang/String" ∧ Fld Z h s2 "java/lang/String" "value" "[B" (.ref b2) ∧ Fld Z h s2 "java/lang/String" "coder" "B" (.int (0 : Int32)) ∧ Arv Z h b2 kb2 .byte (30 : Int32) v2 (.int 0)
abbrev Rm_nst60 : Room := { frames := 3, cells := 2, slots := 34, locals := 50 }
set_option maxRecDepth 65536 in
set_option maxHeartbeats 40000000 in
theorem nst60 (l : Launch) (Z : State) (a0 : Array Value) (hw : ∀ d ∈ tables_1, d.before a0 Z = true) (ws : List Jvm.Cond) (b : Addr) (kb : ClassId) (vs : List Value) (h0 : Heap) (n0 : Nat) (Z0 : n0 ≤ h0.size) (V_b : Arv Z h0 b kb .byte (60 : Int32) vs (.int 0)) :
    MetFree l my11 (head1 (Jvm.Cond.code my11 jdk_43_method_47_code 3 (some (.object "java/lang/String")) :: ws) Rm_nst60) (fun aa_ U => aa_ = #[(.ref b), (.int (30 : Int32)), (.int (30 : Int32))] ∧ Z.Warmed39 U.vm ∧ U.heap = h0) (fun _ _ _ _ _ => True) (fun _ U oo_ U' => ∃ v L, oo_ = .returned v ∧ Qnst60 Z b kb vs h0 n0 v U'.heap L ∧ FrameEnd U oo_ U' L Rm_nst60.cells Rm_nst60.slots) := by
  refine MetFree.of_bodySF (plainFor_of_name pn_4) hisR ?_
  intro p e s m args below meth c s₁ Bd hml0 hP hK
  obtain ⟨rfl, hZ, hh⟩ := hP
  have hx := Bd.exec
  have hby := Bd.bytes
  have hml : c.maxLocals = 3 := hml0
  have hown : s.vm.findClass "java/lang/StringLatin1" = some m.cls := findClass_of_methodNamed Bd.named
  have hnm := (name_of_methodNamed Bd.named Bd.method).1
  have X0 : Stand p l e Rm_nst60 s m #[(.ref b), (.int (30 : Int32)), (.int (30 : Int32))] below meth c s₁ [] 0 0 := Stand.of_body Bd
  have e0 : s₁.heap = h0 := by rw [← hh, Bd.state]; rfl
  have N0 := Fr.nil n0
  have pre0 : ∀ tt_, Steps p.tables e below (s₁.setTop (mkF m 0 #[.val (.ref b), .val (.int (30 : Int32)), .val (.int (30 : Int32))] [])) tt_ → Steps p.tables e below (s₁.setTop (entryFrame m #[(.ref b), (.int (30 : Int32)), (.int (30 : Int32))] 3)) tt_ := fun tt_ kk_ => castTop (ef_17 m b (30 : Int32) (30 : Int32)) kk_
  obtain ⟨T1, h1, X1, e1, E1, A1, D1, -, st1⟩ := newO X0 hx hZ hown (hwd90 hw) (hwd7 hw) (hwd8 hw) e0 (g := (mkF m 7 #[.val (.ref b), .val (.int (30 : Int32)), .val (.int (30 : Int32))] [])) rfl (hb hby d17_7) (by decide) (by decide)
  obtain ⟨b1, g1⟩ : ∃ zz_, zz_ = h0.size := ⟨_, rfl⟩
  rw [← g1] at A1 D1 st1
  have ne_b_b1 : b ≠ b1 := Nat.ne_of_lt (Nat.lt_of_lt_of_le V_b.lt (Nat.le_of_eq g1.symm))
  have g_b1 : n0 ≤ b1 := Nat.le_trans Z0 (Nat.le_of_eq g1.symm)
  have sz_b1 : h0.size ≤ b1 := Nat.le_trans (Keep.refl h0 []).1 (Nat.le_of_eq g1.symm)
  have F_value_b1 : Fld Z h1 b1 "java/lang/String" "value" "[B" .null := D1 (Or.inr (hwd21 hw)) (ty := (.array .byte)) (by decide)
  have F_coder_b1 : Fld Z h1 b1 "java/lang/String" "coder" "B" (.int (0 : Int32)) := D1 (Or.inr (hwd22 hw)) (ty := .byte) (by decide)
  have f3_V_b := (V_b.ext E1)
  have sz4 : n0 ≤ h1.size := (Nat.le_trans Z0 E1.1)
  have kp5 : Keep h0 h1 [] := ((Keep.refl h0 []).ext E1)
  obtain ⟨_, _, ⟨T2, L2, k2, n2⟩, -, X2, ⟨Lc2, hQ2, l2, y2, z2⟩, st2⟩ := Jvm.LawKit.callS X1 hx (y := my18) hown (mvT hZ (hwd91 hw)) (mvT hZ (hwd92 hw)) (mvT hZ (hwd93 hw)) (mvT hZ (hwd94 hw)) (by decide) (backOf (W := 2) (cor60 l Z a0 hw [] b kb vs h1 n0 sz4 f3_V_b) hZ (hwd94 hw) (hwd93 hw) (by decide) (by decide)) (g := (mkF m 16 #[.val (.ref b), .val (.int (30 : Int32)), .val (.int (30 : Int32))] [(.int (60 : Int32)), (.int (30 : Int32)), (.ref b), (.ref b1), (.ref b1)])) rfl (by rw [hml]; rfl) (argsL := [(.ref b), (.int (30 : Int32)), (.int (60 : Int32))]) (rest := [(.ref b1), (.ref b1)]) (lenOf pd_11 rfl) rfl (by show 2 * 0 + _ ≤ _; exact Nat.le_of_eq rfl) (hb hby d17_16) (fun _ _ => ⟨rfl, e1, (by decide : 1 + 1 ≤ _), (by decide : 4 + 30 ≤ _)⟩)
  dsimp only [Pt.U, Pt.locs, Pt.cells, Pt.slots] at X2 l2 y2 z2 st2 hQ2
  subst l2 y2 z2
  obtain ⟨t_e2, kt_e2, us_e2, rfl, N2q, K2, p2_1, sz_t_2, g_t_2⟩ := hQ2
  have N2 := Fr.app N0 N2q
  have f7_E_b1 := (A1.keep K2)
  have f8_F_b1_value := (F_value_b1.keep K2 nin0)
  have f9_F_b1_coder := (F_coder_b1.keep K2 nin0)
  have sz10 : n0 ≤ T2.heap.size := (Nat.le_trans sz4 K2.1)
  obtain ⟨_, _, ⟨T6, L6, k6, n6⟩, -, X6, ⟨Lc6, hQ6, l6, y6, z6⟩, st6⟩ := X2.specialBack hx (y := my8) rfl hown (mvT hZ (hwd109 hw)) (mvT hZ (hwd110 hw)) (mvT hZ (hwd111 hw)) (by decide) (backOf (W := 1) (sbb l Z a0 hw [] b1 t_e2 (T2.heap) n0 sz10 f7_E_b1 f8_F_b1_value f9_F_b1_coder g_b1) hZ (hwd111 hw) (hwd8 hw) (by decide) (by decide)) (g := (mkF m 20 #[.val (.ref b), .val (.int (30 : Int32)), .val (.int (30 : Int32))] [(.int (0 : Int32)), (.ref t_e2), (.ref b1), (.ref b1)])) rfl (by rw [hml]; rfl) (Steps.refl _) (a := b1) (argsL := [(.ref t_e2), (.int (0 : Int32))]) (rest := [(.ref b1)]) (lenOf pd_12 rfl) rfl (by show 2 * 0 + _ ≤ _; exact Nat.le_of_eq rfl) (hb hby d17_20) (fun _ _ => ⟨rfl, rfl, (by decide : 2 + 0 ≤ _), (by decide : 34 + 0 ≤ _)⟩)
  dsimp only [Pt.U, Pt.locs, Pt.cells, Pt.slots] at X6 l6 y6 z6 st6 hQ6
  subst l6 y6 z6
  obtain ⟨rfl, N6q, K6, p6_1, p6_2, p6_3⟩ := hQ6
  have N6 := Fr.app N2 N6q
  have kp11 : Keep h0 T6.heap [] := ((kp5.trans K2 all0).trans K6 (allS (Or.inr sz_b1) all0))
  have f12_V_t_e2 := (p2_1.keep K6 (ninS (Ne.symm (Nat.ne_of_lt (Nat.lt_of_lt_of_le A1.lt sz_t_2))) nin0))
  obtain ⟨fs, hr, hrun, hended, hW, hsame⟩ := X6.leave (v := some (.ref b1)) (fun h => by rw [Bd.returns] at h; cases h)
  refine ⟨_, _, pre0 _ ?_, hrun, hended, _, _, rfl, ?_, ⟨_, rfl⟩, hW, hsame.mono (by decide) (by decide)⟩
  · show Steps p.tables e below (s₁.setTop (mkF m 0 #[.val (.ref b), .val (.int (30 : Int32)), .val (.int (30 : Int32))] [])) _
    refine XS.iloadN X0.here hx rfl (hb hby d17_0) rfl ?_
    refine XS.ifYes X0.here hx rfl (pc0 := 1) (pc' := 7) rfl (hb hby d17_1) rfl ((if0 _ _).trans (feq (show ¬ ((30 : Int32) = (0 : Int32)) from (by decide))).2) (by decide) (by decide) ?_
    refine st1 _ ?_
    refine XS.dup X1.here hx rfl (hb hby d17_10) rfl rfl ?_
    refine XS.aloadN X1.here hx rfl (hb hby d17_11) rfl rfl ?_
    refine XS.iloadN X1.here hx rfl (hb hby d17_12) rfl ?_
    show Steps p.tables e below (T1.setTop (mkF m 13 #[.val (.ref b), .val (.int (30 : Int32)), .val (.int (30 : Int32))] [(.int (30 : Int32)), (.ref b), (.ref b1), (.ref b1)])) _
    refine XS.iloadN X1.here hx rfl (hb hby d17_13) rfl ?_
    refine XS.iloadN X1.here hx rfl (hb hby d17_14) rfl ?_
    refine XS.iadd X1.here hx rfl (hb hby d17_15) rfl ?_
    show Steps p.tables e below (T1.setTop (mkF m 16 #[.val (.ref b), .val (.int (30 : Int32)), .val (.int (30 : Int32))] [(.int ((30 : Int32) + (30 : Int32))), (.int (30 : Int32)), (.ref b), (.ref b1), (.ref b1)])) _
    rw [show (((30 : Int32) + (30 : Int32)) : Int32) = (60 : Int32) from by decide]
    refine st2 _ ?_
    refine XS.iconst X2.here hx rfl (hb hby d17_19) ?_
    refine st6.trans ?_
    jvm_step X6.here [X6.here.top, hx, (hb hby d17_23), X6.method', Bd.returns, Value.isRef, FieldType.isReference]
    first | (intro acts; rw [hr _ acts rfl rfl rfl]) | rw [hr _ _ rfl rfl rfl]
    exact Steps.refl _
  · show Qnst60 Z b kb vs h0 n0 _ T6.heap _
    exact ⟨b1, t_e2, kt_e2, us_e2, rfl, N6, kp11, p6_1, p6_2, p6_3, f12_V_t_e2⟩
def Qsb2_60 (Z : State) (so : Addr) (b : Addr) (kb : ClassId) (vs : List Value) (cz : Int32) (sf : Value) (h0 : Heap) (n0 : Nat) (v : Option Value) (h : Heap) (L : List Loc) : Prop := ∃ s2 : Addr, ∃ b2 : Addr, ∃ kb2 : ClassId, ∃ v2 : List Value, v = some (.ref s2) ∧ Fr n0 L ∧ Keep h0 h [] ∧ Exa Z h s2 "java/lang/String" ∧ Fld Z h s2 "java/lang/String" "value" "[B" (.ref b2) ∧ Fld Z h s2 "java/lang/String" "coder" "B" (.int (0 : Int32)) ∧ Arv Z h b2 kb2 .byte (30 : Int32) v2 (.int 0)
abbrev Rm_sb2_60 : Room := { frames := 4, cells := 2, slots := 34, locals := 64 }
set_option maxRecDepth 65536 in
set_option maxHeartbeats 40000000 in
theorem sb2_60 (l : Launch) (Z : State) (a0 : Array Value) (hw : ∀ d ∈ tables_1, d.before a0 Z = true) (ws : List Jvm.Cond) (so : Addr) (b : Addr) (kb : ClassId) (vs : List Value) (cz : Int32) (sf : Value) (h0 : Heap) (n0 : Nat) (Z0 : n0 ≤ h0.size) (E_so : Exa Z h0 so "java/lang/String") (F_value_so : Fld Z h0 so "java/lang/String" "value" "[B" (.ref b)) (F_coder_so : Fld Z h0 so "java/lang/String" "coder" "B" (.int (0 : Int32))) (V_b : Arv Z h0 b kb .byte (60 : Int32) vs (.int 0)) (O_C : Sta Z Z.heap "java/lang/String" "COMPACT_STRINGS" "Z" (.int cz)) (hcz : ¬ (cz = (0 : Int32))) (X00 : Old Z n0 h0) (O_S : Sta Z Z.heap "jdk/internal/util/Preconditions" "SIOOBE_FORMATTER" "Ljava/util/function/BiFunction;" sf) (hsf : sf.isRef = true) :
    MetFree l my12 (head1 (Jvm.Cond.code my12 jdk_42_method_92_code 5 (some (.object "java/lang/String")) :: ws) Rm_sb2_60) (fun aa_ U => aa_ = #[(.ref so), (.int (30 : Int32)), (.int (60 : Int32))] ∧ Z.Warmed39 U.vm ∧ U.heap = h0) (fun _ _ _ _ _ => True) (fun _ U oo_ U' => ∃ v L, oo_ = .returned v ∧ Qsb2_60 Z so b kb vs cz sf h0 n0 v U'.heap L ∧ FrameEnd U oo_ U' L Rm_sb2_60.cells Rm_sb2_60.slots) := by
  refine MetFree.of_bodySF (plainFor_of_name pn_1) hisR ?_
  intro p e s m args below meth c s₁ Bd hml0 hP hK
  obtain ⟨rfl, hZ, hh⟩ := hP
  have hx := Bd.exec
  have hby := Bd.bytes
  have hml : c.maxLocals = 5 := hml0
  have hown : s.vm.findClass "java/lang/String" = some m.cls := findClass_of_methodNamed Bd.named
  have hnm := (name_of_methodNamed Bd.named Bd.method).1
  have X0 : Stand p l e Rm_sb2_60 s m #[(.ref so), (.int (30 : Int32)), (.int (60 : Int32))] below meth c s₁ [] 0 0 := Stand.of_body Bd
  have e0 : s₁.heap = h0 := by rw [← hh, Bd.state]; rfl
  have N0 := Fr.nil n0
  have pre0 : ∀ tt_, Steps p.tables e below (s₁.setTop (mkF m 0 #[.val (.ref so), .val (.int (30 : Int32)), .val (.int (60 : Int32)), .unset, .unset] [])) tt_ → Steps p.tables e below (s₁.setTop (entryFrame m #[(.ref so), (.int (30 : Int32)), (.int (60 : Int32))] 5)) tt_ := fun tt_ kk_ => castTop (ef_13 m so (30 : Int32) (60 : Int32)) kk_
  obtain ⟨cq1, kq1, q1a, q1b, q1c⟩ := isOf hZ e0 E_so
  obtain ⟨_, _, ⟨T1, L1, k1, n1⟩, -, X1, ⟨Lc1, hQ1, l1, y1, z1⟩, st1⟩ := X0.virtualBack hx (y := my5) (z := my5) hown (mvT hZ (hwd61 hw)) (mvT hZ (hwd32 hw)) (notFace_of_selects (args := #[]) (mvT hZ (hwd34 hw))) (mvT hZ (hwd34 hw)) (mvT hZ (hwd33 hw)) (by decide) (backOf (W := 0) (sle60 l Z a0 hw [] so b kb vs cz h0 n0 Z0 E_so F_value_so F_coder_so V_b O_C hcz X00) hZ (hwd35 hw) (hwd8 hw) (by decide) (by decide)) q1a q1c (g := (mkF m 1 #[.val (.ref so), .val (.int (30 : Int32)), .val (.int (60 : Int32)), .unset, .unset] [(.ref so)])) rfl (by rw [hml]; rfl) (Steps.refl _) (argsL := []) (rest := []) (lenOf pd_2 rfl) rfl (by show 2 * 0 + _ ≤ _; exact Nat.le_of_eq rfl) (hb hby d13_1) (fun _ _ => ⟨rfl, e0, (by decide : 0 + 0 ≤ _), (by decide : 0 + 0 ≤ _)⟩)
  dsimp only [Pt.U, Pt.locs, Pt.cells, Pt.slots] at X1 l1 y1 z1 st1 hQ1
  subst l1 y1 z1
  obtain ⟨rfl, N1q, e1q⟩ := hQ1
  have N1 := Fr.app N0 N1q
  obtain ⟨_, _, ⟨T2, L2, k2, n2⟩, -, X2, ⟨Lc2, hQ2, l2, y2, z2⟩, st2⟩ := Jvm.LawKit.callS X1 hx (y := my10) hown (mvT hZ (hwd67 hw)) (mvT hZ (hwd68 hw)) (mvT hZ (hwd8 hw)) (mvT hZ (hwd69 hw)) (by decide) (backOf (W := 0) (cbe60 l Z a0 hw [] sf h0 n0 Z0 O_S hsf X00) hZ (hwd69 hw) (hwd8 hw) (by decide) (by decide)) (g := (mkF m 8 #[.val (.ref so), .val (.int (30 : Int32)), .val (.int (60 : Int32)), .val (.int (60 : Int32)), .unset] [(.int (60 : Int32)), (.int (60 : Int32)), (.int (30 : Int32))])) rfl (by rw [hml]; rfl) (argsL := [(.int (30 : Int32)), (.int (60 : Int32)), (.int (60 : Int32))]) (rest := []) (lenOf pd_4 rfl) rfl (by show 2 * 0 + _ ≤ _; exact Nat.le_of_eq rfl) (hb hby d13_8) (fun _ _ => ⟨rfl, e1q, (by decide : 0 + 0 ≤ _), (by decide : 0 + 0 ≤ _)⟩)
  dsimp only [Pt.U, Pt.locs, Pt.cells, Pt.slots] at X2 l2 y2 z2 st2 hQ2
  subst l2 y2 z2
  obtain ⟨rfl, N2q, e2q⟩ := hQ2
  have N2 := Fr.app N1 N2q
  obtain ⟨cq3, kq3, q3a, q3b, q3c⟩ := isOf hZ e2q E_so
  obtain ⟨_, _, ⟨T3, L3, k3, n3⟩, -, X3, ⟨Lc3, hQ3, l3, y3, z3⟩, st3⟩ := X2.virtualBack hx (y := my4) (z := my4) hown (mvT hZ (hwd75 hw)) (mvT hZ (hwd76 hw)) (notFace_of_selects (args := #[]) (mvT hZ (hwd78 hw))) (mvT hZ (hwd78 hw)) (mvT hZ (hwd77 hw)) (by decide) (backOf (W := 0) (lat l Z a0 hw [] so cz h0 n0 Z0 F_coder_so O_C hcz X00) hZ (hwd79 hw) (hwd8 hw) (by decide) (by decide)) q3a q3c (g := (mkF m 28 #[.val (.ref so), .val (.int (30 : Int32)), .val (.int (60 : Int32)), .val (.int (60 : Int32)), .val (.int (30 : Int32))] [(.ref so)])) rfl (by rw [hml]; rfl) (Steps.refl _) (argsL := []) (rest := []) (lenOf pd_5 rfl) rfl (by show 2 * 0 + _ ≤ _; exact Nat.le_of_eq rfl) (hb hby d13_28) (fun _ _ => ⟨rfl, e2q, (by decide : 0 + 0 ≤ _), (by decide : 0 + 0 ≤ _)⟩)
  dsimp only [Pt.U, Pt.locs, Pt.cells, Pt.slots] at X3 l3 y3 z3 st3 hQ3
  subst l3 y3 z3
  obtain ⟨rfl, N3q, e3q⟩ := hQ3
  have N3 := Fr.app N2 N3q
  obtain ⟨T4, X4, e4, st4⟩ := getF X3 hx hZ hown (host := "") (Or.inl (hwd25 hw)) Via.refl e3q F_value_so (g := (mkF m 35 #[.val (.ref so), .val (.int (30 : Int32)), .val (.int (60 : Int32)), .val (.int (60 : Int32)), .val (.int (30 : Int32))] [(.ref so)])) rfl rfl (hb hby d13_35)
  obtain ⟨_, _, ⟨T5, L5, k5, n5⟩, -, X5, ⟨Lc5, hQ5, l5, y5, z5⟩, st5⟩ := Jvm.LawKit.callS X4 hx (y := my11) hown (mvT hZ (hwd80 hw)) (mvT hZ (hwd81 hw)) (mvT hZ (hwd82 hw)) (mvT hZ (hwd83 hw)) (by decide) (backOf (W := 0) (nst60 l Z a0 hw [] b kb vs h0 n0 Z0 V_b) hZ (hwd83 hw) (hwd82 hw) (by decide) (by decide)) (g := (mkF m 41 #[.val (.ref so), .val (.int (30 : Int32)), .val (.int (60 : Int32)), .val (.int (60 : Int32)), .val (.int (30 : Int32))] [(.int (30 : Int32)), (.int (30 : Int32)), (.ref b)])) rfl (by rw [hml]; rfl) (argsL := [(.ref b), (.int (30 : Int32)), (.int (30 : Int32))]) (rest := []) (lenOf pd_6 rfl) rfl (by show 2 * 0 + _ ≤ _; exact Nat.le_of_eq rfl) (hb hby d13_41) (fun _ _ => ⟨rfl, e4, (by decide : 0 + 2 ≤ _), (by decide : 0 + 34 ≤ _)⟩)
  dsimp only [Pt.U, Pt.locs, Pt.cells, Pt.slots] at X5 l5 y5 z5 st5 hQ5
  subst l5 y5 z5
  obtain ⟨s2_e5, b2_e5, kb2_e5, v2_e5, rfl, N5q, K5, p5_1, p5_2, p5_3, p5_4⟩ := hQ5
  have N5 := Fr.app N3 N5q
  have kp6 : Keep h0 T5.heap [] := ((Keep.refl h0 []).trans K5 all0)
  obtain ⟨fs, hr, hrun, hended, hW, hsame⟩ := X5.leave (v := some (.ref s2_e5)) (fun h => by rw [Bd.returns] at h; cases h)
  refine ⟨_, _, pre0 _ ?_, hrun, hended, _, _, rfl, ?_, ⟨_, rfl⟩, hW, hsame.mono (by decide) (by decide)⟩
  · show Steps p.tables e below (s₁.setTop (mkF m 0 #[.val (.ref so), .val (.int (30 : Int32)), .val (.int (60 : Int32)), .unset, .unset] [])) _
    refine XS.aloadN X0.here hx rfl (hb hby d13_0) rfl rfl ?_
    refine st1.trans ?_
    refine XS.istoreN X1.here hx rfl (hb hby d13_4) rfl (l' := #[.val (.ref so), .val (.int (30 : Int32)), .val (.int (60 : Int32)), .val (.int (60 : Int32)), .unset]) rfl ?_
    refine XS.iloadN X1.here hx rfl (hb hby d13_5) rfl ?_
    refine XS.iloadN X1.here hx rfl (hb hby d13_6) rfl ?_
    refine XS.iloadN X1.here hx rfl (hb hby d13_7) rfl ?_
    show Steps p.tables e below (T1.setTop (mkF m 8 #[.val (.ref so), .val (.int (30 : Int32)), .val (.int (60 : Int32)), .val (.int (60 : Int32)), .unset] [(.int (60 : Int32)), (.int (60 : Int32)), (.int (30 : Int32))])) _
    refine st2 _ ?_
    refine XS.iloadN X2.here hx rfl (hb hby d13_11) rfl ?_
    refine XS.ifYes X2.here hx rfl (pc0 := 12) (pc' := 22) rfl (hb hby d13_12) rfl ((if0 _ _).trans (feq (show ¬ ((30 : Int32) = (0 : Int32)) from (by decide))).2) (by decide) (by decide) ?_
    refine XS.iloadN X2.here hx rfl (hb hby d13_22) rfl ?_
    refine XS.iloadN X2.here hx rfl (hb hby d13_23) rfl ?_
    refine XS.isub X2.here hx rfl (hb hby d13_24) rfl ?_
    show Steps p.tables e below (T2.setTop (mkF m 25 #[.val (.ref so), .val (.int (30 : Int32)), .val (.int (60 : Int32)), .val (.int (60 : Int32)), .unset] [(.int ((60 : Int32) - (30 : Int32)))])) _
    rw [show (((60 : Int32) - (30 : Int32)) : Int32) = (30 : Int32) from by decide]
    refine XS.istore X2.here hx rfl (hb hby d13_25) rfl (l' := #[.val (.ref so), .val (.int (30 : Int32)), .val (.int (60 : Int32)), .val (.int (60 : Int32)), .val (.int (30 : Int32))]) rfl ?_
    refine XS.aloadN X2.here hx rfl (hb hby d13_27) rfl rfl ?_
    refine st3.trans ?_
    refine XS.ifNo X3.here hx rfl (hb hby d13_31) rfl ((if0 _ _).trans (feq (show ¬ ((1 : Int32) = (0 : Int32)) from (by decide))).1) ?_
    refine XS.aloadN X3.here hx rfl (hb hby d13_34) rfl rfl ?_
    show Steps p.tables e below (T3.setTop (mkF m 35 #[.val (.ref so), .val (.int (30 : Int32)), .val (.int (60 : Int32)), .val (.int (60 : Int32)), .val (.int (30 : Int32))] [(.ref so)])) _
    refine st4 _ ?_
    refine XS.iloadN X4.here hx rfl (hb hby d13_38) rfl ?_
    refine XS.iload X4.here hx rfl (hb hby d13_39) rfl ?_
    refine st5 _ ?_
    refine XS.goto X5.here hx rfl (pc0 := 44) (pc' := 57) rfl (hb hby d13_44) (by decide) (by decide) ?_
    jvm_step X5.here [X5.here.top, hx, (hb hby d13_57), X5.method', Bd.returns, Value.isRef, FieldType.isReference]
    first | (intro acts; rw [hr _ acts rfl rfl rfl]) | rw [hr _ _ rfl rfl rfl]
    exact Steps.refl _
  · show Qsb2_60 Z so b kb vs cz sf h0 n0 _ T5.heap _
    exact ⟨s2_e5, b2_e5, kb2_e5, v2_e5, rfl, N5, kp6, p5_1, p5_2, p5_3, p5_4⟩
def Qsb1_60 (Z : State) (so : Addr) (b : Addr) (kb : ClassId) (vs : List Value) (cz : Int32) (sf : Value) (h0 : Heap) (n0 : Nat) (v : Option Value) (h : Heap) (L : List Loc) : Prop := ∃ s2 : Addr, ∃ b2 : Addr, ∃ kb2 : ClassId, ∃ v2 : List Value, v = some (.ref s2) ∧ Fr n0 L ∧ Keep h0 h [] ∧ Exa Z h s2 "java/lang/String" ∧ Fld Z h s2 "java/lang/String" "value" "[B" (.ref b2) ∧ Fld Z h s2 "java/lang/String" "coder" "B" (.int (0 : Int32)) ∧ Arv Z h b2 kb2 .byte (30 : Int32) v2 (.int 0)
abbrev Rm_sb1_60 : Room := { frames := 5, cells := 2, slots := 34, locals := 80 }
set_option maxRecDepth 65536 in
set_option maxHeartbeats 40000000 in
theorem sb1_60 (l : Launch) (Z : State) (a0 : Array Value) (hw : ∀ d ∈ tables_1, d.before a0 Z = true) (ws : List Jvm.Cond) (so : Addr) (b : Addr) (kb : ClassId) (vs : List Value) (cz : Int32) (sf : Value) (h0 : Heap) (n0 : Nat) (Z0 : n0 ≤ h0.size) (E_so : Exa Z h0 so "java/lang/String") (F_value_so : Fld Z h0 so "java/lang/String" "value" "[B" (.ref b)) (F_coder_so : Fld Z h0 so "java/lang/String" "coder" "B" (.int (0 : Int32))) (V_b : Arv Z h0 b kb .byte (60 : Int32) vs (.int 0)) (O_C : Sta Z Z.heap "java/lang/String" "COMPACT_STRINGS" "Z" (.int cz)) (hcz : ¬ (cz = (0 : Int32))) (X00 : Old Z n0 h0) (O_S : Sta Z Z.heap "jdk/internal/util/Preconditions" "SIOOBE_FORMATTER" "Ljava/util/function/BiFunction;" sf) (hsf : sf.isRef = true) :
    MetFree l my13 (head1 (Jvm.Cond.code my13 jdk_42_method_91_code 2 (some (.object "java/lang/String")) :: ws) Rm_sb1_60) (fun aa_ U => aa_ = #[(.ref so), (.int (30 : Int32))] ∧ Z.Warmed39 U.vm ∧ U.heap = h0) (fun _ _ _ _ _ => True) (fun _ U oo_ U' => ∃ v L, oo_ = .returned v ∧ Qsb1_60 Z so b kb vs cz sf h0 n0 v U'.heap L ∧ FrameEnd U oo_ U' L Rm_sb1_60.cells Rm_sb1_60.slots) := by
  refine MetFree.of_bodySF (plainFor_of_name pn_1) hisR ?_
  intro p e s m args below meth c s₁ Bd hml0 hP hK
  obtain ⟨rfl, hZ, hh⟩ := hP
  have hx := Bd.exec
  have hby := Bd.bytes
  have hml : c.maxLocals = 2 := hml0
  have hown : s.vm.findClass "java/lang/String" = some m.cls := findClass_of_methodNamed Bd.named
  have hnm := (name_of_methodNamed Bd.named Bd.method).1
  have X0 : Stand p l e Rm_sb1_60 s m #[(.ref so), (.int (30 : Int32))] below meth c s₁ [] 0 0 := Stand.of_body Bd
  have e0 : s₁.heap = h0 := by rw [← hh, Bd.state]; rfl
  have N0 := Fr.nil n0
  have pre0 : ∀ tt_, Steps p.tables e below (s₁.setTop (mkF m 0 #[.val (.ref so), .val (.int (30 : Int32))] [])) tt_ → Steps p.tables e below (s₁.setTop (entryFrame m #[(.ref so), (.int (30 : Int32))] 2)) tt_ := fun tt_ kk_ => castTop (ef_12 m so (30 : Int32)) kk_
  obtain ⟨cq1, kq1, q1a, q1b, q1c⟩ := isOf hZ e0 E_so
  obtain ⟨_, _, ⟨T1, L1, k1, n1⟩, -, X1, ⟨Lc1, hQ1, l1, y1, z1⟩, st1⟩ := X0.virtualBack hx (y := my5) (z := my5) hown (mvT hZ (hwd61 hw)) (mvT hZ (hwd32 hw)) (notFace_of_selects (args := #[]) (mvT hZ (hwd34 hw))) (mvT hZ (hwd34 hw)) (mvT hZ (hwd33 hw)) (by decide) (backOf (W := 2) (sle60 l Z a0 hw [] so b kb vs cz h0 n0 Z0 E_so F_value_so F_coder_so V_b O_C hcz X00) hZ (hwd35 hw) (hwd8 hw) (by decide) (by decide)) q1a q1c (g := (mkF m 3 #[.val (.ref so), .val (.int (30 : Int32))] [(.ref so), (.int (30 : Int32)), (.ref so)])) rfl (by rw [hml]; rfl) (Steps.refl _) (argsL := []) (rest := [(.int (30 : Int32)), (.ref so)]) (lenOf pd_2 rfl) rfl (by show 2 * 0 + _ ≤ _; exact Nat.le_of_eq rfl) (hb hby d12_3) (fun _ _ => ⟨rfl, e0, (by decide : 0 + 0 ≤ _), (by decide : 0 + 0 ≤ _)⟩)
  dsimp only [Pt.U, Pt.locs, Pt.cells, Pt.slots] at X1 l1 y1 z1 st1 hQ1
  subst l1 y1 z1
  obtain ⟨rfl, N1q, e1q⟩ := hQ1
  have N1 := Fr.app N0 N1q
  obtain ⟨cq2, kq2, q2a, q2b, q2c⟩ := isOf hZ e1q E_so
  obtain ⟨_, _, ⟨T2, L2, k2, n2⟩, -, X2, ⟨Lc2, hQ2, l2, y2, z2⟩, st2⟩ := X1.virtualBack hx (y := my12) (z := my12) hown (mvT hZ (hwd62 hw)) (mvT hZ (hwd63 hw)) (notFace_of_selects (args := #[]) (mvT hZ (hwd65 hw))) (mvT hZ (hwd65 hw)) (mvT hZ (hwd64 hw)) (by decide) (backOf (W := 0) (sb2_60 l Z a0 hw [] so b kb vs cz sf h0 n0 Z0 E_so F_value_so F_coder_so V_b O_C hcz X00 O_S hsf) hZ (hwd66 hw) (hwd8 hw) (by decide) (by decide)) q2a q2c (g := (mkF m 6 #[.val (.ref so), .val (.int (30 : Int32))] [(.int (60 : Int32)), (.int (30 : Int32)), (.ref so)])) rfl (by rw [hml]; rfl) (Steps.refl _) (argsL := [(.int (30 : Int32)), (.int (60 : Int32))]) (rest := []) (lenOf pd_7 rfl) rfl (by show 2 * 0 + _ ≤ _; exact Nat.le_of_eq rfl) (hb hby d12_6) (fun _ _ => ⟨rfl, e1q, (by decide : 0 + 2 ≤ _), (by decide : 0 + 34 ≤ _)⟩)
  dsimp only [Pt.U, Pt.locs, Pt.cells, Pt.slots] at X2 l2 y2 z2 st2 hQ2
  subst l2 y2 z2
  obtain ⟨s2_e2, b2_e2, kb2_e2, v2_e2, rfl, N2q, K2, p2_1, p2_2, p2_3, p2_4⟩ := hQ2
  have N2 := Fr.app N1 N2q
  have kp3 : Keep h0 T2.heap [] := ((Keep.refl h0 []).trans K2 all0)
  obtain ⟨fs, hr, hrun, hended, hW, hsame⟩ := X2.leave (v := some (.ref s2_e2)) (fun h => by rw [Bd.returns] at h; cases h)
  refine ⟨_, _, pre0 _ ?_, hrun, hended, _, _, rfl, ?_, ⟨_, rfl⟩, hW, hsame.mono (by decide) (by decide)⟩
  · show Steps p.tables e below (s₁.setTop (mkF m 0 #[.val (.ref so), .val (.int (30 : Int32))] [])) _
    refine XS.aloadN X0.here hx rfl (hb hby d12_0) rfl rfl ?_
    refine XS.iloadN X0.here hx rfl (hb hby d12_1) rfl ?_
    refine XS.aloadN X0.here hx rfl (hb hby d12_2) rfl rfl ?_
    refine st1.trans ?_
    refine st2.trans ?_
    jvm_step X2.here [X2.here.top, hx, (hb hby d12_9), X2.method', Bd.returns, Value.isRef, FieldType.isReference]
    first | (intro acts; rw [hr _ acts rfl rfl rfl]) | rw [hr _ _ rfl rfl rfl]
    exact Steps.refl _
  · show Qsb1_60 Z so b kb vs cz sf h0 n0 _ T2.heap _
    exact ⟨s2_e2, b2_e2, kb2_e2, v2_e2, rfl, N2, kp3, p2_1, p2_2, p2_3, p2_4⟩
def Qclu60 (Z : State) (so : Addr) (b : Addr) (kb : ClassId) (vs : List Value) (cz : Int32) (sf : Value) (h0 : Heap) (n0 : Nat) (v : Option Value) (h : Heap) (L : List Loc) : Prop := ∃ s2 : Addr, ∃ b2 : Addr, ∃ kb2 : ClassId, ∃ v2 : List Value, v = some (.ref s2) ∧ Fr n0 L ∧ Keep h0 h [] ∧ Exa Z h s2 "java/lang/String" ∧ Fld Z h s2 "java/lang/String" "value" "[B" (.ref b2) ∧ Fld Z h s2 "java/lang/String" "coder" "B" (.int (0 : Int32)) ∧ Arv Z h b2 kb2 .byte (30 : Int32) v2 (.int 0)
abbrev Rm_clu60 : Room := { frames := 6, cells := 2, slots := 34, locals := 93 }
set_option maxRecDepth 65536 in
set_option maxHeartbeats 40000000 in
theorem clu60 (l : Launch) (Z : State) (a0 : Array Value) (hw : ∀ d ∈ tables_1, d.before a0 Z = true) (ws : List Jvm.Cond) (so : Addr) (b : Addr) (kb : ClassId) (vs : List Value) (cz : Int32) (sf : Value) (h0 : Heap) (n0 : Nat) (Z0 : n0 ≤ h0.size) (E_so : Exa Z h0 so "java/lang/String") (F_value_so : Fld Z h0 so "java/lang/String" "value" "[B" (.ref b)) (F_coder_so : Fld Z h0 so "java/lang/String" "coder" "B" (.int (0 : Int32))) (V_b : Arv Z h0 b kb .byte (60 : Int32) vs (.int 0)) (O_C : Sta Z Z.heap "java/lang/String" "COMPACT_STRINGS" "Z" (.int cz)) (hcz : ¬ (cz = (0 : Int32))) (X00 : Old Z n0 h0) (O_S : Sta Z Z.heap "jdk/internal/util/Preconditions" "SIOOBE_FORMATTER" "Ljava/util/function/BiFunction;" sf) (hsf : sf.isRef = true) :
    MetFree l my14 (head1 (Jvm.Cond.code my14 prog_78_method_5_code 1 (some (.object "java/lang/String")) :: ws) Rm_clu60) (fun aa_ U => aa_ = #[(.ref so)] ∧ Z.Warmed39 U.vm ∧ U.heap = h0) (fun _ _ _ _ _ => True) (fun _ U oo_ U' => ∃ v L, oo_ = .returned v ∧ Qclu60 Z so b kb vs cz sf h0 n0 v U'.heap L ∧ FrameEnd U oo_ U' L Rm_clu60.cells Rm_clu60.slots) := by
  refine MetFree.of_bodySF (plainFor_of_name pn_2) hisR ?_
  intro p e s m args below meth c s₁ Bd hml0 hP hK
  obtain ⟨rfl, hZ, hh⟩ := hP
  have hx := Bd.exec
  have hby := Bd.bytes
  have hml : c.maxLocals = 1 := hml0
  have hown : s.vm.findClass "com/example/coretally/coretally/store/SampleKey" = some m.cls := findClass_of_methodNamed Bd.named
  have hnm := (name_of_methodNamed Bd.named Bd.method).1
  have X0 : Stand p l e Rm_clu60 s m #[(.ref so)] below meth c s₁ [] 0 0 := Stand.of_body Bd
  have e0 : s₁.heap = h0 := by rw [← hh, Bd.state]; rfl
  have N0 := Fr.nil n0
  have pre0 : ∀ tt_, Steps p.tables e below (s₁.setTop (mkF m 0 #[.val (.ref so)] [])) tt_ → Steps p.tables e below (s₁.setTop (entryFrame m #[(.ref so)] 1)) tt_ := fun tt_ kk_ => castTop (ef_11 m so) kk_
  obtain ⟨cq1, kq1, q1a, q1b, q1c⟩ := isOf hZ e0 E_so
  obtain ⟨_, _, ⟨T1, L1, k1, n1⟩, -, X1, ⟨Lc1, hQ1, l1, y1, z1⟩, st1⟩ := X0.virtualBack hx (y := my13) (z := my13) hown (mvT hZ (hwd56 hw)) (mvT hZ (hwd57 hw)) (notFace_of_selects (args := #[]) (mvT hZ (hwd59 hw))) (mvT hZ (hwd59 hw)) (mvT hZ (hwd58 hw)) (by decide) (backOf (W := 0) (sb1_60 l Z a0 hw [] so b kb vs cz sf h0 n0 Z0 E_so F_value_so F_coder_so V_b O_C hcz X00 O_S hsf) hZ (hwd60 hw) (hwd8 hw) (by decide) (by decide)) q1a q1c (g := (mkF m 3 #[.val (.ref so)] [(.int (30 : Int32)), (.ref so)])) rfl (by rw [hml]; rfl) (Steps.refl _) (argsL := [(.int (30 : Int32))]) (rest := []) (lenOf pd_8 rfl) rfl (by show 2 * 0 + _ ≤ _; exact Nat.le_of_eq rfl) (hb hby d11_3) (fun _ _ => ⟨rfl, e0, (by decide : 0 + 2 ≤ _), (by decide : 0 + 34 ≤ _)⟩)
  dsimp only [Pt.U, Pt.locs, Pt.cells, Pt.slots] at X1 l1 y1 z1 st1 hQ1
  subst l1 y1 z1
  obtain ⟨s2_e1, b2_e1, kb2_e1, v2_e1, rfl, N1q, K1, p1_1, p1_2, p1_3, p1_4⟩ := hQ1
  have N1 := Fr.app N0 N1q
  have kp2 : Keep h0 T1.heap [] := ((Keep.refl h0 []).trans K1 all0)
  obtain ⟨fs, hr, hrun, hended, hW, hsame⟩ := X1.leave (v := some (.ref s2_e1)) (fun h => by rw [Bd.returns] at h; cases h)
  refine ⟨_, _, pre0 _ ?_, hrun, hended, _, _, rfl, ?_, ⟨_, rfl⟩, hW, hsame.mono (by decide) (by decide)⟩
  · show Steps p.tables e below (s₁.setTop (mkF m 0 #[.val (.ref so)] [])) _
    refine XS.aloadN X0.here hx rfl (hb hby d11_0) rfl rfl ?_
    refine XS.bipush X0.here hx rfl (hb hby d11_1) ?_
    show Steps p.tables e below (s₁.setTop (mkF m 3 #[.val (.ref so)] [(.int (30 : Int32)), (.ref so)])) _
    refine st1.trans ?_
    jvm_step X1.here [X1.here.top, hx, (hb hby d11_6), X1.method', Bd.returns, Value.isRef, FieldType.isReference]
    first | (intro acts; rw [hr _ acts rfl rfl rfl]) | rw [hr _ _ rfl rfl rfl]
    exact Steps.refl _
  · show Qclu60 Z so b kb vs cz sf h0 n0 _ T1.heap _
    exact ⟨s2_e1, b2_e1, kb2_e1, v2_e1, rfl, N1, kp2, p1_1, p1_2, p1_3, p1_4⟩
theorem hwd0 {Z : State} {a0 : Array Value} (hw : ∀ d ∈ tables_1, d.before a0 Z = true) : (Jvm.Cond.constant "com/example/coretally/coretally/store/SampleKeyNamesClusterPinLaw" (7 : Nat) (2147483647 : Int32)).before a0 Z = true := hw _ (List.mem_of_getElem? (i := 0) rfl)
theorem hwd1 {Z : State} {a0 : Array Value} (hw : ∀ d ∈ tables_1, d.before a0 Z = true) : (Jvm.Cond.methodLink "com/example/coretally/coretally/store/SampleKeyNamesClusterPinLaw" (8 : Nat) ({ cls := "com/example/coretally/coretally/store/SampleKeyNamesClusterPinLaw", name := "make", desc := "(I)[C" } : Jvm.MethodName)).before a0 Z = true := hw _ (List.mem_of_getElem? (i := 1) rfl)
theorem hwd4 {Z : State} {a0 : Array Value} (hw : ∀ d ∈ tables_1, d.before a0 Z = true) : (Jvm.Cond.code ({ cls := "com/example/coretally/coretally/store/SampleKeyNamesClusterPinLaw", name := "make", desc := "(I)[C" } : Jvm.MethodName) method_3_code (1 : Nat) (Option.some (Jvm.ClassFile.FieldType.array Jvm.ClassFile.FieldType.char))).before a0 Z = true := hw _ (List.mem_of_getElem? (i := 4) rfl)
theorem hwd3 {Z : State} {a0 : Array Value} (hw : ∀ d ∈ tables_1, d.before a0 Z = true) : (Jvm.Cond.initialized "com/example/coretally/coretally/store/SampleKeyNamesClusterPinLaw").before a0 Z = true := hw _ (List.mem_of_getElem? (i := 3) rfl)
theorem pd_13 : parseMethodDescriptor "(I)[C" = some ⟨[.int], some (.array .char)⟩ := by decide +kernel
theorem hwd2 {Z : State} {a0 : Array Value} (hw : ∀ d ∈ tables_1, d.before a0 Z = true) : (Jvm.Cond.static ({ cls := "com/example/coretally/coretally/store/SampleKeyNamesClusterPinLaw", name := "make", desc := "(I)[C" } : Jvm.MethodName)).before a0 Z = true := hw _ (List.mem_of_getElem? (i := 2) rfl)
theorem hwd6 {Z : State} {a0 : Array Value} (hw : ∀ d ∈ tables_1, d.before a0 Z = true) : (Jvm.Cond.classLink "com/example/coretally/coretally/store/SampleKeyNamesClusterPinLaw" (14 : Nat) "java/lang/String").before a0 Z = true := hw _ (List.mem_of_getElem? (i := 6) rfl)
theorem hwd9 {Z : State} {a0 : Array Value} (hw : ∀ d ∈ tables_1, d.before a0 Z = true) : (Jvm.Cond.methodLink "com/example/coretally/coretally/store/SampleKeyNamesClusterPinLaw" (16 : Nat) ({ cls := "java/lang/String", name := "<init>", desc := "([C)V" } : Jvm.MethodName)).before a0 Z = true := hw _ (List.mem_of_getElem? (i := 9) rfl)
theorem hwd11 {Z : State} {a0 : Array Value} (hw : ∀ d ∈ tables_1, d.before a0 Z = true) : (Jvm.Cond.code ({ cls := "java/lang/String", name := "<init>", desc := "([C)V" } : Jvm.MethodName) jdk_42_method_3_code (2 : Nat) (Option.none : Option Jvm.ClassFile.FieldType)).before a0 Z = true := hw _ (List.mem_of_getElem? (i := 11) rfl)
theorem pd_14 : parseMethodDescriptor "([C)V" = some ⟨[(.array .char)], none⟩ := by decide +kernel
theorem hwd10 {Z : State} {a0 : Array Value} (hw : ∀ d ∈ tables_1, d.before a0 Z = true) : (Jvm.Cond.instanceMethod ({ cls := "java/lang/String", name := "<init>", desc := "([C)V" } : Jvm.MethodName)).before a0 Z = true := hw _ (List.mem_of_getElem? (i := 10) rfl)
theorem hwd27 {Z : State} {a0 : Array Value} (hw : ∀ d ∈ tables_1, d.before a0 Z = true) : (Jvm.Cond.methodLink "com/example/coretally/coretally/store/SampleKeyNamesClusterPinLaw" (19 : Nat) ({ cls := "com/example/coretally/coretally/store/SampleKey", name := "namesCluster", desc := "(Ljava/lang/String;)Z" } : Jvm.MethodName)).before a0 Z = true := hw _ (List.mem_of_getElem? (i := 27) rfl)
theorem hwd30 {Z : State} {a0 : Array Value} (hw : ∀ d ∈ tables_1, d.before a0 Z = true) : (Jvm.Cond.code ({ cls := "com/example/coretally/coretally/store/SampleKey", name := "namesCluster", desc := "(Ljava/lang/String;)Z" } : Jvm.MethodName) prog_78_method_6_code (1 : Nat) (Option.some Jvm.ClassFile.FieldType.boolean)).before a0 Z = true := hw _ (List.mem_of_getElem? (i := 30) rfl)
theorem hwd29 {Z : State} {a0 : Array Value} (hw : ∀ d ∈ tables_1, d.before a0 Z = true) : (Jvm.Cond.initialized "com/example/coretally/coretally/store/SampleKey").before a0 Z = true := hw _ (List.mem_of_getElem? (i := 29) rfl)
theorem pd_15 : parseMethodDescriptor "(Ljava/lang/String;)Z" = some ⟨[(.object "java/lang/String")], some .boolean⟩ := by decide +kernel
theorem hwd28 {Z : State} {a0 : Array Value} (hw : ∀ d ∈ tables_1, d.before a0 Z = true) : (Jvm.Cond.static ({ cls := "com/example/coretally/coretally/store/SampleKey", name := "namesCluster", desc := "(Ljava/lang/String;)Z" } : Jvm.MethodName)).before a0 Z = true := hw _ (List.mem_of_getElem? (i := 28) rfl)
theorem hwd42 {Z : State} {a0 : Array Value} (hw : ∀ d ∈ tables_1, d.before a0 Z = true) : (Jvm.Cond.methodLink "com/example/coretally/coretally/store/SampleKeyNamesClusterPinLaw" (25 : Nat) ({ cls := "java/lang/String", name := "length", desc := "()I" } : Jvm.MethodName)).before a0 Z = true := hw _ (List.mem_of_getElem? (i := 42) rfl)
theorem ef_0 (m : MethodId) (x0 : Int32) (x1 : Int32) (x2 : Int32) : entryFrame m #[(.int x0), (.int x1), (.int x2)] maxLocals = mkF m 0 #[.val (.int x0), .val (.int x1), .val (.int x2), .unset, .unset, .unset, .unset] [] := by first | (simp [entryFrame, mkF, argsToLocals, Value.category, maxLocals]; done) | rfl
def Qrm0 (Z : State) (p1 : Int32) (p2 : Int32) (p3 : Int32) (cz : Int32) (sf : Value) (h0 : Heap) (n0 : Nat) (v : Option Value) (h : Heap) (L : List Loc) : Prop := v = some (.int (1 : Int32)) ∧ Fr n0 L
set_option maxRecDepth 65536 in
set_option maxHeartbeats 40000000 in
theorem law_0 (l : Launch) (Z : State) (a0 : Array Value) (hw : ∀ d ∈ tables_1, d.before a0 Z = true) (ws : List Jvm.Cond) (p1 : Int32) (p2 : Int32) (p3 : Int32) (cz : Int32) (sf : Value) (h0 : Heap) (n0 : Nat) (Z0 : n0 ≤ h0.size) (O_C : Sta Z Z.heap "java/lang/String" "COMPACT_STRINGS" "Z" (.int cz)) (hcz : ¬ (cz = (0 : Int32))) (O_S : Sta Z Z.heap "jdk/internal/util/Preconditions" "SIOOBE_FORMATTER" "Ljava/util/function/BiFunction;" sf) (hsf : sf.isRef = true) (X00 : Old Z n0 h0) (hn : ((p1 &&& (2147483647 : Int32)) - ((p1 &&& (2147483647 : Int32)) / (7 : Int32)) * (7 : Int32)) = (0 : Int32)) :
    MetFree l x (head1 (Jvm.Cond.code x code maxLocals ret :: ws) room_1) (fun aa_ U => aa_ = #[(.int p1), (.int p2), (.int p3)] ∧ Z.Warmed39 U.vm ∧ U.heap = h0 ∧ CHv Z consts_1 U.vm h0) (fun _ _ _ _ _ => True) (fun _ U oo_ U' => ∃ v L, oo_ = .returned v ∧ Qrm0 Z p1 p2 p3 cz sf h0 n0 v U'.heap L ∧ CHr Z consts_1 U.vm U.heap U'.vm U'.heap ∧ ReturnedEndW U oo_ U' L room_1.cells room_1.slots) := by
  refine MetFree.of_bodySF (plainFor_of_name pn_0) hisR ?_
  intro p e s m args below meth c s₁ Bd hml0 hP hK
  obtain ⟨rfl, hZ, hh, hC0⟩ := hP
  have hx := Bd.exec
  have hby := Bd.bytes
  have hml : c.maxLocals = 7 := hml0
  have hown : s.vm.findClass "com/example/coretally/coretally/store/SampleKeyNamesClusterPinLaw" = some m.cls := findClass_of_methodNamed Bd.named
  have hZ : Z.Warmed39 (s.setVm s.vm).vm := hZ
  have hown : (s.setVm s.vm).vm.findClass "com/example/coretally/coretally/store/SampleKeyNamesClusterPinLaw" = some m.cls := hown
  have hS0 : s.Since s.vm s.heap.size := (State.WarmedH.refl s).since _
  have hk0 : s.heap.size ≤ h0.size := Nat.le_of_eq (by rw [hh])
  have CR0 : CHr Z consts_1 s.vm h0 s.vm h0 := CHr.refl hC0
  have hnm := (name_of_methodNamed Bd.named Bd.method).1
  have X0 : Stand p l e room_1 (s.setVm s.vm) m #[(.int p1), (.int p2), (.int p3)] below meth c s₁ [] 0 0 := Stand.of_body Bd
  have e0 : s₁.heap = h0 := by rw [← hh, Bd.state]; rfl
  have N0 := Fr.nil n0
  have pre0 : ∀ tt_, Steps p.tables e below (s₁.setTop (mkF m 0 #[.val (.int p1), .val (.int p2), .val (.int p3), .unset, .unset, .unset, .unset] [])) tt_ → Steps p.tables e below (s₁.setTop (entryFrame m #[(.int p1), (.int p2), (.int p3)] maxLocals)) tt_ := fun tt_ kk_ => castTop (ef_0 m p1 p2 p3) kk_
  obtain ⟨_, _, ⟨T1, L1, k1, n1⟩, -, X1, ⟨Lc1, hQ1, l1, y1, z1⟩, st1⟩ := Jvm.LawKit.callS X0 hx (y := my0) hown (mvT hZ (hwd1 hw)) (mvT hZ (hwd2 hw)) (mvT hZ (hwd3 hw)) (mvT hZ (hwd4 hw)) (by decide) (backOf (W := 0) (mk0 l Z a0 hw []  h0 n0 Z0 ) hZ (hwd4 hw) (hwd3 hw) (by decide) (by decide)) (g := (mkF m 7 #[.val (.int p1), .val (.int p2), .val (.int p3), .unset, .unset, .unset, .unset] [(.int (0 : Int32))])) rfl (by rw [hml]; rfl) (argsL := [(.int (0 : Int32))]) (rest := []) (lenOf pd_13 rfl) rfl (by show 2 * 0 + _ ≤ _; exact Nat.le_of_eq rfl) (hb hby at_7) (fun _ _ => ⟨rfl, e0, (by decide : 0 + 1 ≤ _), (by decide : 0 + 0 ≤ _)⟩)
  dsimp only [Pt.U, Pt.locs, Pt.cells, Pt.slots] at X1 l1 y1 z1 st1 hQ1
  subst l1 y1 z1
  obtain ⟨b_e1, kb_e1, rfl, N1q, K1, p1_1, sz_b_1, g_b_1⟩ := hQ1
  have N1 := Fr.app N0 N1q
  obtain ⟨cl2, Ar2, -, S2, M2, -, -⟩ := id p1_1
  obtain ⟨T3, h3, X3, e3, E3, A3, D3, -, st3⟩ := newO X1 hx hZ hown (hwd6 hw) (hwd7 hw) (hwd8 hw) rfl (g := (mkF m 41 #[.val (.int p1), .val (.int p2), .val (.int p3), .val (.ref b_e1), .val (.int (0 : Int32)), .unset, .unset] [])) rfl (hb hby at_41) (by decide) (by decide)
  obtain ⟨b3, g3⟩ : ∃ zz_, zz_ = T1.heap.size := ⟨_, rfl⟩
  rw [← g3] at A3 D3 st3
  have ne_b_e1_b3 : b_e1 ≠ b3 := Nat.ne_of_lt (Nat.lt_of_lt_of_le p1_1.lt (Nat.le_of_eq g3.symm))
  have sz4 : n0 ≤ T1.heap.size := (Nat.le_trans Z0 K1.1)
  have g_b3 : n0 ≤ b3 := Nat.le_trans sz4 (Nat.le_of_eq g3.symm)
  have kp5 : Keep h0 T1.heap [] := ((Keep.refl h0 []).trans K1 all0)
  have sz_b3 : h0.size ≤ b3 := Nat.le_trans kp5.1 (Nat.le_of_eq g3.symm)
  have F_value_b3 : Fld Z h3 b3 "java/lang/String" "value" "[B" .null := D3 (Or.inr (hwd21 hw)) (ty := (.array .byte)) (by decide)
  have F_coder_b3 : Fld Z h3 b3 "java/lang/String" "coder" "B" (.int (0 : Int32)) := D3 (Or.inr (hwd22 hw)) (ty := .byte) (by decide)
  have f7_V_b_e1 := (p1_1.ext E3)
  have sz8 : n0 ≤ h3.size := (Nat.le_trans sz4 E3.1)
  have kp9 : Keep h0 h3 [] := (kp5.ext E3)
  have CR10h : CHr Z consts_1 s.vm h0 s.vm h3 := CR0.trans (CHr.keep kp9 sf0 CR0.1)
  have hk11 : _ ≤ h3.size := (Nat.le_trans (Nat.le_trans hk0 K1.1) E3.1)
  obtain ⟨_, _, ⟨T6, L6, k6, n6⟩, -, X6q, hS6q, hg6q, ⟨Lc6, hQ6, l6, y6, z6, CR6q⟩, st6⟩ := X3.specialBackS hx (y := my2) rfl hown (mvT hZ (hwd9 hw)) (mvT hZ (hwd10 hw)) (mvT hZ (hwd11 hw)) (by decide) (backOfSH (W := 1) (EL := consts_1) (s := s) (vm0 := s.vm) (sc0 l Z a0 hw [] b3 b_e1 kb_e1 h3 n0 sz8 A3 F_value_b3 F_coder_b3 g_b3 f7_V_b_e1) hZ (hwd11 hw) (hwd8 hw) (by decide) (by decide) (own_EL hw) CR10h.1) (g := (mkF m 46 #[.val (.int p1), .val (.int p2), .val (.int p3), .val (.ref b_e1), .val (.int (0 : Int32)), .unset, .unset] [(.ref b_e1), (.ref b3), (.ref b3)])) rfl (by rw [hml]; rfl) (Steps.refl _) (a := b3) (argsL := [(.ref b_e1)]) (rest := [(.ref b3)]) (lenOf pd_14 rfl) rfl (by show 2 * 0 + _ ≤ _; exact Nat.le_of_eq rfl) (hb hby at_46) (fun _ _ => ⟨rfl, e3, (by decide : 2 + 2 ≤ _), (by decide : 4 + 4 ≤ _)⟩)
  dsimp only [Pt.U, Pt.locs, Pt.cells, Pt.slots] at X6q l6 y6 z6 st6 hQ6 hS6q hg6q CR6q
  subst l6 y6 z6
  obtain ⟨X6, hS6, hZ6, hown6⟩ := rebS hS0 (by rw [show T3.heap = h3 from e3]; exact hk11) X6q hS6q hg6q hZ hown
  have hk6 : T6.heap.size ≤ T6.heap.size := Nat.le_refl _
  have CR6 := CR10h.trans CR6q
  obtain ⟨b_e6, kb_e6, rfl, N6q, K6, p6_1, p6_2, p6_3, p6_4⟩ := hQ6
  have N6 := Fr.app N1 N6q
  have old13 : Old Z n0 T6.heap := (((X00.keep K1 all0).ext E3).keep K6 (allS g_b3 all0))
  have sz14 : n0 ≤ T6.heap.size := (Nat.le_trans sz8 K6.1)
  obtain ⟨_, _, ⟨T12, L12, k12, n12⟩, -, X12, ⟨Lc12, hQ12, l12, y12, z12⟩, st12⟩ := Jvm.LawKit.callS X6 hx (y := my6) hown6 (mvT hZ6 (hwd27 hw)) (mvT hZ6 (hwd28 hw)) (mvT hZ6 (hwd29 hw)) (mvT hZ6 (hwd30 hw)) (by decide) (backOf (W := 0) (nc0 l Z a0 hw [] b3 b_e6 kb_e6 ([]) cz (T6.heap) n0 sz14 p6_1 p6_2 p6_3 p6_4 O_C hcz old13) hZ6 (hwd30 hw) (hwd29 hw) (by decide) (by decide)) (g := (mkF m 53 #[.val (.int p1), .val (.int p2), .val (.int p3), .val (.ref b_e1), .val (.int (0 : Int32)), .val (.ref b3), .unset] [(.ref b3)])) rfl (by rw [hml]; rfl) (argsL := [(.ref b3)]) (rest := []) (lenOf pd_15 rfl) rfl (by show 2 * 0 + _ ≤ _; exact Nat.le_of_eq rfl) (hb hby at_53) (fun _ _ => ⟨rfl, rfl, (by decide : 4 + 0 ≤ _), (by decide : 8 + 0 ≤ _)⟩)
  dsimp only [Pt.U, Pt.locs, Pt.cells, Pt.slots] at X12 l12 y12 z12 st12 hQ12
  subst l12 y12 z12
  obtain ⟨rfl, N12q, e12q⟩ := hQ12
  have N12 := Fr.app N6 N12q
  obtain ⟨cq15, kq15, q15a, q15b, q15c⟩ := isOf hZ6 e12q p6_1
  obtain ⟨_, _, ⟨T15, L15, k15, n15⟩, -, X15, ⟨Lc15, hQ15, l15, y15, z15⟩, st15⟩ := X12.virtualBack hx (y := my5) (z := my5) hown6 (mvT hZ6 (hwd42 hw)) (mvT hZ6 (hwd32 hw)) (notFace_of_selects (args := #[]) (mvT hZ6 (hwd34 hw))) (mvT hZ6 (hwd34 hw)) (mvT hZ6 (hwd33 hw)) (by decide) (backOf (W := 0) (sle0 l Z a0 hw [] b3 b_e6 kb_e6 ([]) cz (T6.heap) n0 sz14 p6_1 p6_2 p6_3 p6_4 O_C hcz old13) hZ6 (hwd35 hw) (hwd8 hw) (by decide) (by decide)) q15a q15c (g := (mkF m 60 #[.val (.int p1), .val (.int p2), .val (.int p3), .val (.ref b_e1), .val (.int (0 : Int32)), .val (.ref b3), .val (.int (0 : Int32))] [(.ref b3)])) rfl (by rw [hml]; rfl) (Steps.refl _) (argsL := []) (rest := []) (lenOf pd_2 rfl) rfl (by show 2 * 0 + _ ≤ _; exact Nat.le_of_eq rfl) (hb hby at_60) (fun _ _ => ⟨rfl, e12q, (by decide : 4 + 0 ≤ _), (by decide : 8 + 0 ≤ _)⟩)
  dsimp only [Pt.U, Pt.locs, Pt.cells, Pt.slots] at X15 l15 y15 z15 st15 hQ15
  subst l15 y15 z15
  obtain ⟨rfl, N15q, e15q⟩ := hQ15
  have N15 := Fr.app N12 N15q
  have hkE := Nat.le_trans hk6 (Nat.le_of_eq (congrArg Array.size (show T6.heap = T15.heap from Eq.symm e15q)))
  obtain ⟨fs, hr, hrun, hended, hRE⟩ := X15.leaveW hS6 hkE (v := some (.int (1 : Int32))) (fun h => by rw [Bd.returns] at h; cases h)
  refine ⟨_, _, pre0 _ ?_, hrun, hended, _, _, rfl, ?_, ?_, hRE.1, hRE.2.1, hRE.2.2.1, hRE.2.2.2.mono (by decide) (by decide)⟩
  · show Steps p.tables e below (s₁.setTop (mkF m 0 #[.val (.int p1), .val (.int p2), .val (.int p3), .unset, .unset, .unset, .unset] [])) _
    refine XS.iloadN X0.here hx rfl (hb hby at_0) rfl ?_
    refine X0.ldcInt hx hown (mvT hZ (hwd0 hw)) (g := (mkF m 1 #[.val (.int p1), .val (.int p2), .val (.int p3), .unset, .unset, .unset, .unset] [(.int p1)])) rfl (hb hby at_1) _ ?_
    refine XS.iand X0.here hx rfl (hb hby at_3) rfl ?_
    refine XS.bipush X0.here hx rfl (hb hby at_4) ?_
    show Steps p.tables e below (s₁.setTop (mkF m 6 #[.val (.int p1), .val (.int p2), .val (.int p3), .unset, .unset, .unset, .unset] [(.int (7 : Int32)), (.int (p1 &&& (2147483647 : Int32)))])) _
    refine XS.irem X0.here hx rfl (hb hby at_6) rfl (by decide) ?_
    show Steps p.tables e below (s₁.setTop (mkF m 7 #[.val (.int p1), .val (.int p2), .val (.int p3), .unset, .unset, .unset, .unset] [(.int ((p1 &&& (2147483647 : Int32)) - ((p1 &&& (2147483647 : Int32)) / (7 : Int32)) * (7 : Int32)))])) _
    rw [hn]
    refine st1 _ ?_
    refine XS.astoreN X1.here hx rfl (hb hby at_10) rfl rfl (l' := #[.val (.int p1), .val (.int p2), .val (.int p3), .val (.ref b_e1), .unset, .unset, .unset]) rfl ?_
    refine XS.aloadN X1.here hx rfl (hb hby at_11) rfl rfl ?_
    refine X1.arraylength hx (by exact Ar2.1) (State.isArrayOf_alike hZ.alike Ar2.2.1) (g := (mkF m 12 #[.val (.int p1), .val (.int p2), .val (.int p3), .val (.ref b_e1), .unset, .unset, .unset] [(.ref b_e1)])) rfl rfl (hb hby at_12) _ ?_
    rw [len_of S2 M2]
    refine XS.istore X1.here hx rfl (hb hby at_13) rfl (l' := #[.val (.int p1), .val (.int p2), .val (.int p3), .val (.ref b_e1), .val (.int (0 : Int32)), .unset, .unset]) rfl ?_
    show Steps p.tables e below (T1.setTop (mkF m 15 #[.val (.int p1), .val (.int p2), .val (.int p3), .val (.ref b_e1), .val (.int (0 : Int32)), .unset, .unset] [])) _
    refine XS.iload X1.here hx rfl (hb hby at_15) rfl ?_
    refine XS.ifYes X1.here hx rfl (pc0 := 17) (pc' := 41) rfl (hb hby at_17) rfl ((if0 _ _).trans (flt (show ¬ ((0 : Int32) < (0 : Int32)) from (by decide))).2.2.2) (by decide) (by decide) ?_
    refine st3 _ ?_
    refine XS.dup X3.here hx rfl (hb hby at_44) rfl rfl ?_
    refine XS.aloadN X3.here hx rfl (hb hby at_45) rfl rfl ?_
    refine st6.trans ?_
    show Steps p.tables e below (T6.setTop (mkF m 49 #[.val (.int p1), .val (.int p2), .val (.int p3), .val (.ref b_e1), .val (.int (0 : Int32)), .unset, .unset] [(.ref b3)])) _
    refine XS.astore X6.here hx rfl (hb hby at_49) rfl rfl (l' := #[.val (.int p1), .val (.int p2), .val (.int p3), .val (.ref b_e1), .val (.int (0 : Int32)), .val (.ref b3), .unset]) rfl ?_
    refine XS.aload X6.here hx rfl (hb hby at_51) rfl rfl ?_
    refine st12 _ ?_
    refine XS.istore X12.here hx rfl (hb hby at_56) rfl (l' := #[.val (.int p1), .val (.int p2), .val (.int p3), .val (.ref b_e1), .val (.int (0 : Int32)), .val (.ref b3), .val (.int (0 : Int32))]) rfl ?_
    refine XS.aload X12.here hx rfl (hb hby at_58) rfl rfl ?_
    refine st15.trans ?_
    show Steps p.tables e below (T15.setTop (mkF m 63 #[.val (.int p1), .val (.int p2), .val (.int p3), .val (.ref b_e1), .val (.int (0 : Int32)), .val (.ref b3), .val (.int (0 : Int32))] [(.int (0 : Int32))])) _
    refine XS.bipush X15.here hx rfl (hb hby at_63) ?_
    show Steps p.tables e below (T15.setTop (mkF m 65 #[.val (.int p1), .val (.int p2), .val (.int p3), .val (.ref b_e1), .val (.int (0 : Int32)), .val (.ref b3), .val (.int (0 : Int32))] [(.int (30 : Int32)), (.int (0 : Int32))])) _
    refine XS.icmpNo X15.here hx rfl (hb hby at_65) rfl (tlt (show (0 : Int32) < (30 : Int32) from (by decide))).2.1 ?_
    refine XS.iload X15.here hx rfl (hb hby at_68) rfl ?_
    refine XS.ifNo X15.here hx rfl (hb hby at_70) rfl ((if0 _ _).trans (teq (show (0 : Int32) = (0 : Int32) from rfl)).2) ?_
    refine XS.iconst X15.here hx rfl (hb hby at_73) ?_
    refine XS.goto X15.here hx rfl (pc0 := 74) (pc' := 78) rfl (hb hby at_74) (by decide) (by decide) ?_
    exact retN X15 hx (t := .boolean) Bd.returns (by simp) (hb hby at_78) hr
  · show Qrm0 Z p1 p2 p3 cz sf h0 n0 _ T15.heap _
    rw [e15q]
    exact ⟨rfl, N15⟩
  · show CHr Z consts_1 s.vm s.heap T15.vm T15.heap
    rw [hh, e15q]
    exact CR6.trans (CHv.at X15 hZ6 (own_EL hw) CR6.1)
set_option maxRecDepth 65536 in
set_option maxHeartbeats 40000000 in
theorem law_1 (l : Launch) (Z : State) (a0 : Array Value) (hw : ∀ d ∈ tables_1, d.before a0 Z = true) (ws : List Jvm.Cond) (p1 : Int32) (p2 : Int32) (p3 : Int32) (cz : Int32) (sf : Value) (h0 : Heap) (n0 : Nat) (Z0 : n0 ≤ h0.size) (O_C : Sta Z Z.heap "java/lang/String" "COMPACT_STRINGS" "Z" (.int cz)) (hcz : ¬ (cz = (0 : Int32))) (O_S : Sta Z Z.heap "jdk/internal/util/Preconditions" "SIOOBE_FORMATTER" "Ljava/util/function/BiFunction;" sf) (hsf : sf.isRef = true) (X00 : Old Z n0 h0) (hn : ((p1 &&& (2147483647 : Int32)) - ((p1 &&& (2147483647 : Int32)) / (7 : Int32)) * (7 : Int32)) = (1 : Int32)) :
    MetFree l x (head1 (Jvm.Cond.code x code maxLocals ret :: ws) room_1) (fun aa_ U => aa_ = #[(.int p1), (.int p2), (.int p3)] ∧ Z.Warmed39 U.vm ∧ U.heap = h0 ∧ CHv Z consts_1 U.vm h0) (fun _ _ _ _ _ => True) (fun _ U oo_ U' => ∃ v L, oo_ = .returned v ∧ Qrm0 Z p1 p2 p3 cz sf h0 n0 v U'.heap L ∧ CHr Z consts_1 U.vm U.heap U'.vm U'.heap ∧ ReturnedEndW U oo_ U' L room_1.cells room_1.slots) := by
  refine MetFree.of_bodySF (plainFor_of_name pn_0) hisR ?_
  intro p e s m args below meth c s₁ Bd hml0 hP hK
  obtain ⟨rfl, hZ, hh, hC0⟩ := hP
  have hx := Bd.exec
  have hby := Bd.bytes
  have hml : c.maxLocals = 7 := hml0
  have hown : s.vm.findClass "com/example/coretally/coretally/store/SampleKeyNamesClusterPinLaw" = some m.cls := findClass_of_methodNamed Bd.named
  have hZ : Z.Warmed39 (s.setVm s.vm).vm := hZ
  have hown : (s.setVm s.vm).vm.findClass "com/example/coretally/coretally/store/SampleKeyNamesClusterPinLaw" = some m.cls := hown
  have hS0 : s.Since s.vm s.heap.size := (State.WarmedH.refl s).since _
  have hk0 : s.heap.size ≤ h0.size := Nat.le_of_eq (by rw [hh])
  have CR0 : CHr Z consts_1 s.vm h0 s.vm h0 := CHr.refl hC0
  have hnm := (name_of_methodNamed Bd.named Bd.method).1
  have X0 : Stand p l e room_1 (s.setVm s.vm) m #[(.int p1), (.int p2), (.int p3)] below meth c s₁ [] 0 0 := Stand.of_body Bd
  have e0 : s₁.heap = h0 := by rw [← hh, Bd.state]; rfl
  have N0 := Fr.nil n0
  have pre0 : ∀ tt_, Steps p.tables e below (s₁.setTop (mkF m 0 #[.val (.int p1), .val (.int p2), .val (.int p3), .unset, .unset, .unset, .unset] [])) tt_ → Steps p.tables e below (s₁.setTop (entryFrame m #[(.int p1), (.int p2), (.int p3)] maxLocals)) tt_ := fun tt_ kk_ => castTop (ef_0 m p1 p2 p3) kk_
  obtain ⟨_, _, ⟨T1, L1, k1, n1⟩, -, X1, ⟨Lc1, hQ1, l1, y1, z1⟩, st1⟩ := Jvm.LawKit.callS X0 hx (y := my0) hown (mvT hZ (hwd1 hw)) (mvT hZ (hwd2 hw)) (mvT hZ (hwd3 hw)) (mvT hZ (hwd4 hw)) (by decide) (backOf (W := 0) (mk1 l Z a0 hw []  h0 n0 Z0 ) hZ (hwd4 hw) (hwd3 hw) (by decide) (by decide)) (g := (mkF m 7 #[.val (.int p1), .val (.int p2), .val (.int p3), .unset, .unset, .unset, .unset] [(.int (1 : Int32))])) rfl (by rw [hml]; rfl) (argsL := [(.int (1 : Int32))]) (rest := []) (lenOf pd_13 rfl) rfl (by show 2 * 0 + _ ≤ _; exact Nat.le_of_eq rfl) (hb hby at_7) (fun _ _ => ⟨rfl, e0, (by decide : 0 + 1 ≤ _), (by decide : 0 + 1 ≤ _)⟩)
  dsimp only [Pt.U, Pt.locs, Pt.cells, Pt.slots] at X1 l1 y1 z1 st1 hQ1
  subst l1 y1 z1
  obtain ⟨b_e1, kb_e1, rfl, N1q, K1, p1_1, sz_b_1, g_b_1⟩ := hQ1
  have N1 := Fr.app N0 N1q
  obtain ⟨cl2, Ar2, -, S2, M2, -, -⟩ := id p1_1
  obtain ⟨cl3, Ar3, q3, S3, M3, H3, G3⟩ := id p1_1
  obtain ⟨T4, h4, X4, e4, W4, st4⟩ := stC X1 hx hZ rfl Ar3 (j := (0 : Int32)) (inb_of S3 ⟨by decide, by decide⟩) (g := (mkF m 28 #[.val (.int p1), .val (.int p2), .val (.int p3), .val (.ref b_e1), .val (.int (1 : Int32)), .unset, .unset] [(.int ((p2 &&& (255 : Int32)).toUInt32.toUInt16.toUInt32.toInt32)), (.int (0 : Int32)), (.ref b_e1)])) rfl rfl (hb hby at_28)
  have N4 := Fr.snoc X4 N1 g_b_1
  have Vw4 : Arv Z h4 b_e1 kb_e1 .char (1 : Int32) ((List.replicate 1 (.int (0 : Int32))).set 0 (.int (nar .char ((p2 &&& (255 : Int32)).toUInt32.toUInt16.toUInt32.toInt32)))) (.int (0 : Int32)) := Arv.set Ar3 q3 S3 M3 H3 G3 (fits_nar_char _) W4 0 (by decide) (by simp)
  obtain ⟨cl5, Ar5, q5, S5, M5, H5, G5⟩ := id Vw4
  obtain ⟨T6, h6, X6, e6, W6, st6⟩ := stC X4 hx hZ e4 Ar5 (j := (0 : Int32)) (inb_of S5 ⟨by decide, by decide⟩) (g := (mkF m 40 #[.val (.int p1), .val (.int p2), .val (.int p3), .val (.ref b_e1), .val (.int (1 : Int32)), .unset, .unset] [(.int ((p3 &&& (255 : Int32)).toUInt32.toUInt16.toUInt32.toInt32)), (.int (0 : Int32)), (.ref b_e1)])) rfl rfl (hb hby at_40)
  have N6 := Fr.snoc X6 N4 g_b_1
  have Vw6 : Arv Z h6 b_e1 kb_e1 .char (1 : Int32) (((List.replicate 1 (.int (0 : Int32))).set 0 (.int (nar .char ((p2 &&& (255 : Int32)).toUInt32.toUInt16.toUInt32.toInt32)))).set 0 (.int (nar .char ((p3 &&& (255 : Int32)).toUInt32.toUInt16.toUInt32.toInt32)))) (.int (0 : Int32)) := Arv.set Ar5 q5 S5 M5 H5 G5 (fits_nar_char _) W6 0 (by decide) (by simp)
  obtain ⟨T7, h7, X7, e7, E7, A7, D7, -, st7⟩ := newO X6 hx hZ hown (hwd6 hw) (hwd7 hw) (hwd8 hw) e6 (g := (mkF m 41 #[.val (.int p1), .val (.int p2), .val (.int p3), .val (.ref b_e1), .val (.int (1 : Int32)), .unset, .unset] [])) rfl (hb hby at_41) (by decide) (by decide)
  obtain ⟨b7, g7⟩ : ∃ zz_, zz_ = h6.size := ⟨_, rfl⟩
  rw [← g7] at A7 D7 st7
  have ne_b_e1_b7 : b_e1 ≠ b7 := Nat.ne_of_lt (Nat.lt_of_lt_of_le Vw6.lt (Nat.le_of_eq g7.symm))
  have sz8 : n0 ≤ h6.size := (Nat.le_trans (Nat.le_trans (Nat.le_trans Z0 K1.1) (Keep.of_wr W4).1) (Keep.of_wr W6).1)
  have g_b7 : n0 ≤ b7 := Nat.le_trans sz8 (Nat.le_of_eq g7.symm)
  have kp9 : Keep h0 h6 [] := ((((Keep.refl h0 []).trans K1 all0).wr W4 (Or.inr (Nat.le_trans (Keep.refl h0 []).1 sz_b_1))).wr W6 (Or.inr (Nat.le_trans (Keep.refl h0 []).1 sz_b_1)))
  have sz_b7 : h0.size ≤ b7 := Nat.le_trans kp9.1 (Nat.le_of_eq g7.symm)
  have F_value_b7 : Fld Z h7 b7 "java/lang/String" "value" "[B" .null := D7 (Or.inr (hwd21 hw)) (ty := (.array .byte)) (by decide)
  have F_coder_b7 : Fld Z h7 b7 "java/lang/String" "coder" "B" (.int (0 : Int32)) := D7 (Or.inr (hwd22 hw)) (ty := .byte) (by decide)
  have f10_V_b_e1 := (Vw6.ext E7)
  have old12 : Old Z n0 h7 := ((((X00.keep K1 all0).wr W4 g_b_1).wr W6 g_b_1).ext E7)
  have sz13 : n0 ≤ h7.size := (Nat.le_trans sz8 E7.1)
  have hws : ∀ d ∈ StrChars.Road.words, d.before a0 Z = true := fun d hd => hw d ((by decide +kernel : ∀ d ∈ StrChars.Road.words, d ∈ tables_1) d hd)
  have Vn11 : Arv Z h7 b_e1 kb_e1 .char (1 : Int32) ((own_cs 1 0 p2 p3).map Value.int) (.int (0 : Int32)) := by rw [own_csmap]; exact f10_V_b_e1
  obtain ⟨_, _, ⟨T11, L11, k11, n11⟩, -, X11, ⟨Lc11, hQ11, l11, y11, z11⟩, st11⟩ := X7.specialBack hx (y := my2) rfl hown (mvT hZ (hwd9 hw)) (mvT hZ (hwd10 hw)) (mvT hZ (hwd11 hw)) (by decide) (StrChars.Road.backV (W := 1) hZ hws (kI := 4) (hwd7 hw) (cs := (own_cs 1 0 p2 p3)) (bs := (own_cs 1 0 p2 p3).map (fun c => c.toInt8.toInt32)) (n := 1) g_b7 sz13 A7 F_value_b7 F_coder_b7 Vn11 (O_C.ext old12.2) hcz (own_cslen _ _ _ _) rfl (by decide) (by decide) (own_cslat _ _ _ _) rfl (by decide) (by decide)) (g := (mkF m 46 #[.val (.int p1), .val (.int p2), .val (.int p3), .val (.ref b_e1), .val (.int (1 : Int32)), .unset, .unset] [(.ref b_e1), (.ref b7), (.ref b7)])) rfl (by rw [hml]; rfl) (Steps.refl _) (a := b7) (argsL := [(.ref b_e1)]) (rest := [(.ref b7)]) (lenOf pd_14 rfl) rfl (by show 2 * 0 + _ ≤ _; exact Nat.le_of_eq rfl) (hb hby at_46) (fun _ _ => ⟨rfl, e7, (by decide : 2 + 1 ≤ _), (by decide : 5 + 1 ≤ _)⟩)
  dsimp only [Pt.U, Pt.locs, Pt.cells, Pt.slots] at X11 l11 y11 z11 st11 hQ11
  subst l11 y11 z11
  obtain ⟨rfl, N11q, K11, E11s, C11s, t11, kb11, gt11, st11s, nt11, V11s, B11s⟩ := hQ11
  have N11 := Fr.app N6 N11q
  have old15 : Old Z n0 T11.heap := (old12.keep K11 (allS g_b7 all0))
  have sz16 : n0 ≤ T11.heap.size := (Nat.le_trans sz13 K11.1)
  obtain ⟨_, _, ⟨T14, L14, k14, n14⟩, -, X14, ⟨Lc14, hQ14, l14, y14, z14⟩, st14⟩ := Jvm.LawKit.callS X11 hx (y := my6) hown (mvT hZ (hwd27 hw)) (mvT hZ (hwd28 hw)) (mvT hZ (hwd29 hw)) (mvT hZ (hwd30 hw)) (by decide) (backOf (W := 0) (nc1 l Z a0 hw [] b7 t11 kb11 (((own_cs 1 0 p2 p3).map (fun c => c.toInt8.toInt32)).map Value.int) cz (T11.heap) n0 sz16 E11s V11s C11s B11s O_C hcz old15) hZ (hwd30 hw) (hwd29 hw) (by decide) (by decide)) (g := (mkF m 53 #[.val (.int p1), .val (.int p2), .val (.int p3), .val (.ref b_e1), .val (.int (1 : Int32)), .val (.ref b7), .unset] [(.ref b7)])) rfl (by rw [hml]; rfl) (argsL := [(.ref b7)]) (rest := []) (lenOf pd_15 rfl) rfl (by show 2 * 0 + _ ≤ _; exact Nat.le_of_eq rfl) (hb hby at_53) (fun _ _ => ⟨rfl, rfl, (by decide : 3 + 0 ≤ _), (by decide : 6 + 0 ≤ _)⟩)
  dsimp only [Pt.U, Pt.locs, Pt.cells, Pt.slots] at X14 l14 y14 z14 st14 hQ14
  subst l14 y14 z14
  obtain ⟨rfl, N14q, e14q⟩ := hQ14
  have N14 := Fr.app N11 N14q
  obtain ⟨cq17, kq17, q17a, q17b, q17c⟩ := isOf hZ e14q E11s
  obtain ⟨_, _, ⟨T17, L17, k17, n17⟩, -, X17, ⟨Lc17, hQ17, l17, y17, z17⟩, st17⟩ := X14.virtualBack hx (y := my5) (z := my5) hown (mvT hZ (hwd42 hw)) (mvT hZ (hwd32 hw)) (notFace_of_selects (args := #[]) (mvT hZ (hwd34 hw))) (mvT hZ (hwd34 hw)) (mvT hZ (hwd33 hw)) (by decide) (backOf (W := 0) (sle1 l Z a0 hw [] b7 t11 kb11 (((own_cs 1 0 p2 p3).map (fun c => c.toInt8.toInt32)).map Value.int) cz (T11.heap) n0 sz16 E11s V11s C11s B11s O_C hcz old15) hZ (hwd35 hw) (hwd8 hw) (by decide) (by decide)) q17a q17c (g := (mkF m 60 #[.val (.int p1), .val (.int p2), .val (.int p3), .val (.ref b_e1), .val (.int (1 : Int32)), .val (.ref b7), .val (.int (0 : Int32))] [(.ref b7)])) rfl (by rw [hml]; rfl) (Steps.refl _) (argsL := []) (rest := []) (lenOf pd_2 rfl) rfl (by show 2 * 0 + _ ≤ _; exact Nat.le_of_eq rfl) (hb hby at_60) (fun _ _ => ⟨rfl, e14q, (by decide : 3 + 0 ≤ _), (by decide : 6 + 0 ≤ _)⟩)
  dsimp only [Pt.U, Pt.locs, Pt.cells, Pt.slots] at X17 l17 y17 z17 st17 hQ17
  subst l17 y17 z17
  obtain ⟨rfl, N17q, e17q⟩ := hQ17
  have N17 := Fr.app N14 N17q
  have kp18 : Keep h0 T11.heap [] := ((kp9.ext E7).trans K11 (allS (Or.inr sz_b7) all0))
  have CR19h : CHr Z consts_1 s.vm h0 s.vm T11.heap := CR0.trans (CHr.keep kp18 sf0 CR0.1)
  have hk20 : _ ≤ T11.heap.size := (Nat.le_trans (Nat.le_trans (Nat.le_trans (Nat.le_trans (Nat.le_trans hk0 K1.1) (Keep.of_wr W4).1) (Keep.of_wr W6).1) E7.1) K11.1)
  have hkE := Nat.le_trans hk20 (Nat.le_of_eq (congrArg Array.size (show T11.heap = T17.heap from Eq.symm e17q)))
  obtain ⟨fs, hr, hrun, hended, hRE⟩ := X17.leaveW hS0 hkE (v := some (.int (1 : Int32))) (fun h => by rw [Bd.returns] at h; cases h)
  refine ⟨_, _, pre0 _ ?_, hrun, hended, _, _, rfl, ?_, ?_, hRE.1, hRE.2.1, hRE.2.2.1, hRE.2.2.2.mono (by decide) (by decide)⟩
  · show Steps p.tables e below (s₁.setTop (mkF m 0 #[.val (.int p1), .val (.int p2), .val (.int p3), .unset, .unset, .unset, .unset] [])) _
    refine XS.iloadN X0.here hx rfl (hb hby at_0) rfl ?_
    refine X0.ldcInt hx hown (mvT hZ (hwd0 hw)) (g := (mkF m 1 #[.val (.int p1), .val (.int p2), .val (.int p3), .unset, .unset, .unset, .unset] [(.int p1)])) rfl (hb hby at_1) _ ?_
    refine XS.iand X0.here hx rfl (hb hby at_3) rfl ?_
    refine XS.bipush X0.here hx rfl (hb hby at_4) ?_
    show Steps p.tables e below (s₁.setTop (mkF m 6 #[.val (.int p1), .val (.int p2), .val (.int p3), .unset, .unset, .unset, .unset] [(.int (7 : Int32)), (.int (p1 &&& (2147483647 : Int32)))])) _
    refine XS.irem X0.here hx rfl (hb hby at_6) rfl (by decide) ?_
    show Steps p.tables e below (s₁.setTop (mkF m 7 #[.val (.int p1), .val (.int p2), .val (.int p3), .unset, .unset, .unset, .unset] [(.int ((p1 &&& (2147483647 : Int32)) - ((p1 &&& (2147483647 : Int32)) / (7 : Int32)) * (7 : Int32)))])) _
    rw [hn]
    refine st1 _ ?_
    refine XS.astoreN X1.here hx rfl (hb hby at_10) rfl rfl (l' := #[.val (.int p1), .val (.int p2), .val (.int p3), .val (.ref b_e1), .unset, .unset, .unset]) rfl ?_
    refine XS.aloadN X1.here hx rfl (hb hby at_11) rfl rfl ?_
    refine X1.arraylength hx (by exact Ar2.1) (State.isArrayOf_alike hZ.alike Ar2.2.1) (g := (mkF m 12 #[.val (.int p1), .val (.int p2), .val (.int p3), .val (.ref b_e1), .unset, .unset, .unset] [(.ref b_e1)])) rfl rfl (hb hby at_12) _ ?_
    rw [len_of S2 M2]
    refine XS.istore X1.here hx rfl (hb hby at_13) rfl (l' := #[.val (.int p1), .val (.int p2), .val (.int p3), .val (.ref b_e1), .val (.int (1 : Int32)), .unset, .unset]) rfl ?_
    show Steps p.tables e below (T1.setTop (mkF m 15 #[.val (.int p1), .val (.int p2), .val (.int p3), .val (.ref b_e1), .val (.int (1 : Int32)), .unset, .unset] [])) _
    refine XS.iload X1.here hx rfl (hb hby at_15) rfl ?_
    refine XS.ifNo X1.here hx rfl (hb hby at_17) rfl ((if0 _ _).trans (tlt (show (0 : Int32) < (1 : Int32) from (by decide))).2.2.2) ?_
    refine XS.aloadN X1.here hx rfl (hb hby at_20) rfl rfl ?_
    refine XS.iconst X1.here hx rfl (hb hby at_21) ?_
    refine XS.iloadN X1.here hx rfl (hb hby at_22) rfl ?_
    refine XS.sipush X1.here hx rfl (hb hby at_23) ?_
    show Steps p.tables e below (T1.setTop (mkF m 26 #[.val (.int p1), .val (.int p2), .val (.int p3), .val (.ref b_e1), .val (.int (1 : Int32)), .unset, .unset] [(.int (255 : Int32)), (.int p2), (.int (0 : Int32)), (.ref b_e1)])) _
    refine XS.iand X1.here hx rfl (hb hby at_26) rfl ?_
    refine XS.i2c X1.here hx rfl (hb hby at_27) rfl ?_
    refine st4 _ ?_
    refine XS.aloadN X4.here hx rfl (hb hby at_29) rfl rfl ?_
    refine XS.iload X4.here hx rfl (hb hby at_30) rfl ?_
    refine XS.iconst X4.here hx rfl (hb hby at_32) ?_
    show Steps p.tables e below (T4.setTop (mkF m 33 #[.val (.int p1), .val (.int p2), .val (.int p3), .val (.ref b_e1), .val (.int (1 : Int32)), .unset, .unset] [(.int (1 : Int32)), (.int (1 : Int32)), (.ref b_e1)])) _
    refine XS.isub X4.here hx rfl (hb hby at_33) rfl ?_
    show Steps p.tables e below (T4.setTop (mkF m 34 #[.val (.int p1), .val (.int p2), .val (.int p3), .val (.ref b_e1), .val (.int (1 : Int32)), .unset, .unset] [(.int ((1 : Int32) - (1 : Int32))), (.ref b_e1)])) _
    rw [show (((1 : Int32) - (1 : Int32)) : Int32) = (0 : Int32) from by decide]
    refine XS.iloadN X4.here hx rfl (hb hby at_34) rfl ?_
    refine XS.sipush X4.here hx rfl (hb hby at_35) ?_
    show Steps p.tables e below (T4.setTop (mkF m 38 #[.val (.int p1), .val (.int p2), .val (.int p3), .val (.ref b_e1), .val (.int (1 : Int32)), .unset, .unset] [(.int (255 : Int32)), (.int p3), (.int (0 : Int32)), (.ref b_e1)])) _
    refine XS.iand X4.here hx rfl (hb hby at_38) rfl ?_
    refine XS.i2c X4.here hx rfl (hb hby at_39) rfl ?_
    refine st6 _ ?_
    refine st7 _ ?_
    refine XS.dup X7.here hx rfl (hb hby at_44) rfl rfl ?_
    refine XS.aloadN X7.here hx rfl (hb hby at_45) rfl rfl ?_
    show Steps p.tables e below (T7.setTop (mkF m 46 #[.val (.int p1), .val (.int p2), .val (.int p3), .val (.ref b_e1), .val (.int (1 : Int32)), .unset, .unset] [(.ref b_e1), (.ref b7), (.ref b7)])) _
    refine st11.trans ?_
    refine XS.astore X11.here hx rfl (hb hby at_49) rfl rfl (l' := #[.val (.int p1), .val (.int p2), .val (.int p3), .val (.ref b_e1), .val (.int (1 : Int32)), .val (.ref b7), .unset]) rfl ?_
    refine XS.aload X11.here hx rfl (hb hby at_51) rfl rfl ?_
    refine st14 _ ?_
    refine XS.istore X14.here hx rfl (hb hby at_56) rfl (l' := #[.val (.int p1), .val (.int p2), .val (.int p3), .val (.ref b_e1), .val (.int (1 : Int32)), .val (.ref b7), .val (.int (0 : Int32))]) rfl ?_
    refine XS.aload X14.here hx rfl (hb hby at_58) rfl rfl ?_
    show Steps p.tables e below (T14.setTop (mkF m 60 #[.val (.int p1), .val (.int p2), .val (.int p3), .val (.ref b_e1), .val (.int (1 : Int32)), .val (.ref b7), .val (.int (0 : Int32))] [(.ref b7)])) _
    refine st17.trans ?_
    refine XS.bipush X17.here hx rfl (hb hby at_63) ?_
    show Steps p.tables e below (T17.setTop (mkF m 65 #[.val (.int p1), .val (.int p2), .val (.int p3), .val (.ref b_e1), .val (.int (1 : Int32)), .val (.ref b7), .val (.int (0 : Int32))] [(.int (30 : Int32)), (.int (1 : Int32))])) _
    refine XS.icmpNo X17.here hx rfl (hb hby at_65) rfl (tlt (show (1 : Int32) < (30 : Int32) from (by decide))).2.1 ?_
    refine XS.iload X17.here hx rfl (hb hby at_68) rfl ?_
    refine XS.ifNo X17.here hx rfl (hb hby at_70) rfl ((if0 _ _).trans (teq (show (0 : Int32) = (0 : Int32) from rfl)).2) ?_
    refine XS.iconst X17.here hx rfl (hb hby at_73) ?_
    refine XS.goto X17.here hx rfl (pc0 := 74) (pc' := 78) rfl (hb hby at_74) (by decide) (by decide) ?_
    exact retN X17 hx (t := .boolean) Bd.returns (by simp) (hb hby at_78) hr
  · show Qrm0 Z p1 p2 p3 cz sf h0 n0 _ T17.heap _
    rw [e17q]
    exact ⟨rfl, N17⟩
  · show CHr Z consts_1 s.vm s.heap T17.vm T17.heap
    rw [hh, e17q]
    exact CR19h.trans (CHv.at X17 hZ (own_EL hw) CR19h.1)
set_option maxRecDepth 65536 in
set_option maxHeartbeats 40000000 in
theorem law_29 (l : Launch) (Z : State) (a0 : Array Value) (hw : ∀ d ∈ tables_1, d.before a0 Z = true) (ws : List Jvm.Cond) (p1 : Int32) (p2 : Int32) (p3 : Int32) (cz : Int32) (sf : Value) (h0 : Heap) (n0 : Nat) (Z0 : n0 ≤ h0.size) (O_C : Sta Z Z.heap "java/lang/String" "COMPACT_STRINGS" "Z" (.int cz)) (hcz : ¬ (cz = (0 : Int32))) (O_S : Sta Z Z.heap "jdk/internal/util/Preconditions" "SIOOBE_FORMATTER" "Ljava/util/function/BiFunction;" sf) (hsf : sf.isRef = true) (X00 : Old Z n0 h0) (hn : ((p1 &&& (2147483647 : Int32)) - ((p1 &&& (2147483647 : Int32)) / (7 : Int32)) * (7 : Int32)) = (2 : Int32)) :
    MetFree l x (head1 (Jvm.Cond.code x code maxLocals ret :: ws) room_1) (fun aa_ U => aa_ = #[(.int p1), (.int p2), (.int p3)] ∧ Z.Warmed39 U.vm ∧ U.heap = h0 ∧ CHv Z consts_1 U.vm h0) (fun _ _ _ _ _ => True) (fun _ U oo_ U' => ∃ v L, oo_ = .returned v ∧ Qrm0 Z p1 p2 p3 cz sf h0 n0 v U'.heap L ∧ CHr Z consts_1 U.vm U.heap U'.vm U'.heap ∧ ReturnedEndW U oo_ U' L room_1.cells room_1.slots) := by
  refine MetFree.of_bodySF (plainFor_of_name pn_0) hisR ?_
  intro p e s m args below meth c s₁ Bd hml0 hP hK
  obtain ⟨rfl, hZ, hh, hC0⟩ := hP
  have hx := Bd.exec
  have hby := Bd.bytes
  have hml : c.maxLocals = 7 := hml0
  have hown : s.vm.findClass "com/example/coretally/coretally/store/SampleKeyNamesClusterPinLaw" = some m.cls := findClass_of_methodNamed Bd.named
  have hZ : Z.Warmed39 (s.setVm s.vm).vm := hZ
  have hown : (s.setVm s.vm).vm.findClass "com/example/coretally/coretally/store/SampleKeyNamesClusterPinLaw" = some m.cls := hown
  have hS0 : s.Since s.vm s.heap.size := (State.WarmedH.refl s).since _
  have hk0 : s.heap.size ≤ h0.size := Nat.le_of_eq (by rw [hh])
  have CR0 : CHr Z consts_1 s.vm h0 s.vm h0 := CHr.refl hC0
  have hnm := (name_of_methodNamed Bd.named Bd.method).1
  have X0 : Stand p l e room_1 (s.setVm s.vm) m #[(.int p1), (.int p2), (.int p3)] below meth c s₁ [] 0 0 := Stand.of_body Bd
  have e0 : s₁.heap = h0 := by rw [← hh, Bd.state]; rfl
  have N0 := Fr.nil n0
  have pre0 : ∀ tt_, Steps p.tables e below (s₁.setTop (mkF m 0 #[.val (.int p1), .val (.int p2), .val (.int p3), .unset, .unset, .unset, .unset] [])) tt_ → Steps p.tables e below (s₁.setTop (entryFrame m #[(.int p1), (.int p2), (.int p3)] maxLocals)) tt_ := fun tt_ kk_ => castTop (ef_0 m p1 p2 p3) kk_
  obtain ⟨_, _, ⟨T1, L1, k1, n1⟩, -, X1, ⟨Lc1, hQ1, l1, y1, z1⟩, st1⟩ := Jvm.LawKit.callS X0 hx (y := my0) hown (mvT hZ (hwd1 hw)) (mvT hZ (hwd2 hw)) (mvT hZ (hwd3 hw)) (mvT hZ (hwd4 hw)) (by decide) (backOf (W := 0) (mk29 l Z a0 hw []  h0 n0 Z0 ) hZ (hwd4 hw) (hwd3 hw) (by decide) (by decide)) (g := (mkF m 7 #[.val (.int p1), .val (.int p2), .val (.int p3), .unset, .unset, .unset, .unset] [(.int (2 : Int32))])) rfl (by rw [hml]; rfl) (argsL := [(.int (2 : Int32))]) (rest := []) (lenOf pd_13 rfl) rfl (by show 2 * 0 + _ ≤ _; exact Nat.le_of_eq rfl) (hb hby at_7) (fun _ _ => ⟨rfl, e0, (by decide : 0 + 1 ≤ _), (by decide : 0 + 29 ≤ _)⟩)
  dsimp only [Pt.U, Pt.locs, Pt.cells, Pt.slots] at X1 l1 y1 z1 st1 hQ1
  subst l1 y1 z1
  obtain ⟨b_e1, kb_e1, rfl, N1q, K1, p1_1, sz_b_1, g_b_1⟩ := hQ1
  have N1 := Fr.app N0 N1q
  obtain ⟨cl2, Ar2, -, S2, M2, -, -⟩ := id p1_1
  obtain ⟨cl3, Ar3, q3, S3, M3, H3, G3⟩ := id p1_1
  obtain ⟨T4, h4, X4, e4, W4, st4⟩ := stC X1 hx hZ rfl Ar3 (j := (0 : Int32)) (inb_of S3 ⟨by decide, by decide⟩) (g := (mkF m 28 #[.val (.int p1), .val (.int p2), .val (.int p3), .val (.ref b_e1), .val (.int (29 : Int32)), .unset, .unset] [(.int ((p2 &&& (255 : Int32)).toUInt32.toUInt16.toUInt32.toInt32)), (.int (0 : Int32)), (.ref b_e1)])) rfl rfl (hb hby at_28)
  have N4 := Fr.snoc X4 N1 g_b_1
  have Vw4 : Arv Z h4 b_e1 kb_e1 .char (29 : Int32) ((List.replicate 29 (.int (0 : Int32))).set 0 (.int (nar .char ((p2 &&& (255 : Int32)).toUInt32.toUInt16.toUInt32.toInt32)))) (.int (0 : Int32)) := Arv.set Ar3 q3 S3 M3 H3 G3 (fits_nar_char _) W4 0 (by decide) (by simp)
  obtain ⟨cl5, Ar5, q5, S5, M5, H5, G5⟩ := id Vw4
  obtain ⟨T6, h6, X6, e6, W6, st6⟩ := stC X4 hx hZ e4 Ar5 (j := (28 : Int32)) (inb_of S5 ⟨by decide, by decide⟩) (g := (mkF m 40 #[.val (.int p1), .val (.int p2), .val (.int p3), .val (.ref b_e1), .val (.int (29 : Int32)), .unset, .unset] [(.int ((p3 &&& (255 : Int32)).toUInt32.toUInt16.toUInt32.toInt32)), (.int (28 : Int32)), (.ref b_e1)])) rfl rfl (hb hby at_40)
  have N6 := Fr.snoc X6 N4 g_b_1
  have Vw6 : Arv Z h6 b_e1 kb_e1 .char (29 : Int32) (((List.replicate 29 (.int (0 : Int32))).set 0 (.int (nar .char ((p2 &&& (255 : Int32)).toUInt32.toUInt16.toUInt32.toInt32)))).set 28 (.int (nar .char ((p3 &&& (255 : Int32)).toUInt32.toUInt16.toUInt32.toInt32)))) (.int (0 : Int32)) := Arv.set Ar5 q5 S5 M5 H5 G5 (fits_nar_char _) W6 28 (by decide) (by simp)
  obtain ⟨T7, h7, X7, e7, E7, A7, D7, -, st7⟩ := newO X6 hx hZ hown (hwd6 hw) (hwd7 hw) (hwd8 hw) e6 (g := (mkF m 41 #[.val (.int p1), .val (.int p2), .val (.int p3), .val (.ref b_e1), .val (.int (29 : Int32)), .unset, .unset] [])) rfl (hb hby at_41) (by decide) (by decide)
  obtain ⟨b7, g7⟩ : ∃ zz_, zz_ = h6.size := ⟨_, rfl⟩
  rw [← g7] at A7 D7 st7
  have ne_b_e1_b7 : b_e1 ≠ b7 := Nat.ne_of_lt (Nat.lt_of_lt_of_le Vw6.lt (Nat.le_of_eq g7.symm))
  have sz8 : n0 ≤ h6.size := (Nat.le_trans (Nat.le_trans (Nat.le_trans Z0 K1.1) (Keep.of_wr W4).1) (Keep.of_wr W6).1)
  have g_b7 : n0 ≤ b7 := Nat.le_trans sz8 (Nat.le_of_eq g7.symm)
  have kp9 : Keep h0 h6 [] := ((((Keep.refl h0 []).trans K1 all0).wr W4 (Or.inr (Nat.le_trans (Keep.refl h0 []).1 sz_b_1))).wr W6 (Or.inr (Nat.le_trans (Keep.refl h0 []).1 sz_b_1)))
  have sz_b7 : h0.size ≤ b7 := Nat.le_trans kp9.1 (Nat.le_of_eq g7.symm)
  have F_value_b7 : Fld Z h7 b7 "java/lang/String" "value" "[B" .null := D7 (Or.inr (hwd21 hw)) (ty := (.array .byte)) (by decide)
  have F_coder_b7 : Fld Z h7 b7 "java/lang/String" "coder" "B" (.int (0 : Int32)) := D7 (Or.inr (hwd22 hw)) (ty := .byte) (by decide)
  have f10_V_b_e1 := (Vw6.ext E7)
  have old12 : Old Z n0 h7 := ((((X00.keep K1 all0).wr W4 g_b_1).wr W6 g_b_1).ext E7)
  have sz13 : n0 ≤ h7.size := (Nat.le_trans sz8 E7.1)
  have hws : ∀ d ∈ StrChars.Road.words, d.before a0 Z = true := fun d hd => hw d ((by decide +kernel : ∀ d ∈ StrChars.Road.words, d ∈ tables_1) d hd)
  have Vn11 : Arv Z h7 b_e1 kb_e1 .char (29 : Int32) ((own_cs 29 28 p2 p3).map Value.int) (.int (0 : Int32)) := by rw [own_csmap]; exact f10_V_b_e1
  obtain ⟨_, _, ⟨T11, L11, k11, n11⟩, -, X11, ⟨Lc11, hQ11, l11, y11, z11⟩, st11⟩ := X7.specialBack hx (y := my2) rfl hown (mvT hZ (hwd9 hw)) (mvT hZ (hwd10 hw)) (mvT hZ (hwd11 hw)) (by decide) (StrChars.Road.backV (W := 1) hZ hws (kI := 4) (hwd7 hw) (cs := (own_cs 29 28 p2 p3)) (bs := (own_cs 29 28 p2 p3).map (fun c => c.toInt8.toInt32)) (n := 29) g_b7 sz13 A7 F_value_b7 F_coder_b7 Vn11 (O_C.ext old12.2) hcz (own_cslen _ _ _ _) rfl (by decide) (by decide) (own_cslat _ _ _ _) rfl (by decide) (by decide)) (g := (mkF m 46 #[.val (.int p1), .val (.int p2), .val (.int p3), .val (.ref b_e1), .val (.int (29 : Int32)), .unset, .unset] [(.ref b_e1), (.ref b7), (.ref b7)])) rfl (by rw [hml]; rfl) (Steps.refl _) (a := b7) (argsL := [(.ref b_e1)]) (rest := [(.ref b7)]) (lenOf pd_14 rfl) rfl (by show 2 * 0 + _ ≤ _; exact Nat.le_of_eq rfl) (hb hby at_46) (fun _ _ => ⟨rfl, e7, (by decide : 2 + 1 ≤ _), (by decide : 33 + 29 ≤ _)⟩)
  dsimp only [Pt.U, Pt.locs, Pt.cells, Pt.slots] at X11 l11 y11 z11 st11 hQ11
  subst l11 y11 z11
  obtain ⟨rfl, N11q, K11, E11s, C11s, t11, kb11, gt11, st11s, nt11, V11s, B11s⟩ := hQ11
  have N11 := Fr.app N6 N11q
  have old15 : Old Z n0 T11.heap := (old12.keep K11 (allS g_b7 all0))
  have sz16 : n0 ≤ T11.heap.size := (Nat.le_trans sz13 K11.1)
  obtain ⟨_, _, ⟨T14, L14, k14, n14⟩, -, X14, ⟨Lc14, hQ14, l14, y14, z14⟩, st14⟩ := Jvm.LawKit.callS X11 hx (y := my6) hown (mvT hZ (hwd27 hw)) (mvT hZ (hwd28 hw)) (mvT hZ (hwd29 hw)) (mvT hZ (hwd30 hw)) (by decide) (backOf (W := 0) (nc29 l Z a0 hw [] b7 t11 kb11 (((own_cs 29 28 p2 p3).map (fun c => c.toInt8.toInt32)).map Value.int) cz (T11.heap) n0 sz16 E11s V11s C11s B11s O_C hcz old15) hZ (hwd30 hw) (hwd29 hw) (by decide) (by decide)) (g := (mkF m 53 #[.val (.int p1), .val (.int p2), .val (.int p3), .val (.ref b_e1), .val (.int (29 : Int32)), .val (.ref b7), .unset] [(.ref b7)])) rfl (by rw [hml]; rfl) (argsL := [(.ref b7)]) (rest := []) (lenOf pd_15 rfl) rfl (by show 2 * 0 + _ ≤ _; exact Nat.le_of_eq rfl) (hb hby at_53) (fun _ _ => ⟨rfl, rfl, (by decide : 3 + 0 ≤ _), (by decide : 62 + 0 ≤ _)⟩)
  dsimp only [Pt.U, Pt.locs, Pt.cells, Pt.slots] at X14 l14 y14 z14 st14 hQ14
  subst l14 y14 z14
  obtain ⟨rfl, N14q, e14q⟩ := hQ14
  have N14 := Fr.app N11 N14q
  obtain ⟨cq17, kq17, q17a, q17b, q17c⟩ := isOf hZ e14q E11s
  obtain ⟨_, _, ⟨T17, L17, k17, n17⟩, -, X17, ⟨Lc17, hQ17, l17, y17, z17⟩, st17⟩ := X14.virtualBack hx (y := my5) (z := my5) hown (mvT hZ (hwd42 hw)) (mvT hZ (hwd32 hw)) (notFace_of_selects (args := #[]) (mvT hZ (hwd34 hw))) (mvT hZ (hwd34 hw)) (mvT hZ (hwd33 hw)) (by decide) (backOf (W := 0) (sle29 l Z a0 hw [] b7 t11 kb11 (((own_cs 29 28 p2 p3).map (fun c => c.toInt8.toInt32)).map Value.int) cz (T11.heap) n0 sz16 E11s V11s C11s B11s O_C hcz old15) hZ (hwd35 hw) (hwd8 hw) (by decide) (by decide)) q17a q17c (g := (mkF m 60 #[.val (.int p1), .val (.int p2), .val (.int p3), .val (.ref b_e1), .val (.int (29 : Int32)), .val (.ref b7), .val (.int (0 : Int32))] [(.ref b7)])) rfl (by rw [hml]; rfl) (Steps.refl _) (argsL := []) (rest := []) (lenOf pd_2 rfl) rfl (by show 2 * 0 + _ ≤ _; exact Nat.le_of_eq rfl) (hb hby at_60) (fun _ _ => ⟨rfl, e14q, (by decide : 3 + 0 ≤ _), (by decide : 62 + 0 ≤ _)⟩)
  dsimp only [Pt.U, Pt.locs, Pt.cells, Pt.slots] at X17 l17 y17 z17 st17 hQ17
  subst l17 y17 z17
  obtain ⟨rfl, N17q, e17q⟩ := hQ17
  have N17 := Fr.app N14 N17q
  have kp18 : Keep h0 T11.heap [] := ((kp9.ext E7).trans K11 (allS (Or.inr sz_b7) all0))
  have CR19h : CHr Z consts_1 s.vm h0 s.vm T11.heap := CR0.trans (CHr.keep kp18 sf0 CR0.1)
  have hk20 : _ ≤ T11.heap.size := (Nat.le_trans (Nat.le_trans (Nat.le_trans (Nat.le_trans (Nat.le_trans hk0 K1.1) (Keep.of_wr W4).1) (Keep.of_wr W6).1) E7.1) K11.1)
  have hkE := Nat.le_trans hk20 (Nat.le_of_eq (congrArg Array.size (show T11.heap = T17.heap from Eq.symm e17q)))
  obtain ⟨fs, hr, hrun, hended, hRE⟩ := X17.leaveW hS0 hkE (v := some (.int (1 : Int32))) (fun h => by rw [Bd.returns] at h; cases h)
  refine ⟨_, _, pre0 _ ?_, hrun, hended, _, _, rfl, ?_, ?_, hRE.1, hRE.2.1, hRE.2.2.1, hRE.2.2.2.mono (by decide) (by decide)⟩
  · show Steps p.tables e below (s₁.setTop (mkF m 0 #[.val (.int p1), .val (.int p2), .val (.int p3), .unset, .unset, .unset, .unset] [])) _
    refine XS.iloadN X0.here hx rfl (hb hby at_0) rfl ?_
    refine X0.ldcInt hx hown (mvT hZ (hwd0 hw)) (g := (mkF m 1 #[.val (.int p1), .val (.int p2), .val (.int p3), .unset, .unset, .unset, .unset] [(.int p1)])) rfl (hb hby at_1) _ ?_
    refine XS.iand X0.here hx rfl (hb hby at_3) rfl ?_
    refine XS.bipush X0.here hx rfl (hb hby at_4) ?_
    show Steps p.tables e below (s₁.setTop (mkF m 6 #[.val (.int p1), .val (.int p2), .val (.int p3), .unset, .unset, .unset, .unset] [(.int (7 : Int32)), (.int (p1 &&& (2147483647 : Int32)))])) _
    refine XS.irem X0.here hx rfl (hb hby at_6) rfl (by decide) ?_
    show Steps p.tables e below (s₁.setTop (mkF m 7 #[.val (.int p1), .val (.int p2), .val (.int p3), .unset, .unset, .unset, .unset] [(.int ((p1 &&& (2147483647 : Int32)) - ((p1 &&& (2147483647 : Int32)) / (7 : Int32)) * (7 : Int32)))])) _
    rw [hn]
    refine st1 _ ?_
    refine XS.astoreN X1.here hx rfl (hb hby at_10) rfl rfl (l' := #[.val (.int p1), .val (.int p2), .val (.int p3), .val (.ref b_e1), .unset, .unset, .unset]) rfl ?_
    refine XS.aloadN X1.here hx rfl (hb hby at_11) rfl rfl ?_
    refine X1.arraylength hx (by exact Ar2.1) (State.isArrayOf_alike hZ.alike Ar2.2.1) (g := (mkF m 12 #[.val (.int p1), .val (.int p2), .val (.int p3), .val (.ref b_e1), .unset, .unset, .unset] [(.ref b_e1)])) rfl rfl (hb hby at_12) _ ?_
    rw [len_of S2 M2]
    refine XS.istore X1.here hx rfl (hb hby at_13) rfl (l' := #[.val (.int p1), .val (.int p2), .val (.int p3), .val (.ref b_e1), .val (.int (29 : Int32)), .unset, .unset]) rfl ?_
    show Steps p.tables e below (T1.setTop (mkF m 15 #[.val (.int p1), .val (.int p2), .val (.int p3), .val (.ref b_e1), .val (.int (29 : Int32)), .unset, .unset] [])) _
    refine XS.iload X1.here hx rfl (hb hby at_15) rfl ?_
    refine XS.ifNo X1.here hx rfl (hb hby at_17) rfl ((if0 _ _).trans (tlt (show (0 : Int32) < (29 : Int32) from (by decide))).2.2.2) ?_
    refine XS.aloadN X1.here hx rfl (hb hby at_20) rfl rfl ?_
    refine XS.iconst X1.here hx rfl (hb hby at_21) ?_
    refine XS.iloadN X1.here hx rfl (hb hby at_22) rfl ?_
    refine XS.sipush X1.here hx rfl (hb hby at_23) ?_
    show Steps p.tables e below (T1.setTop (mkF m 26 #[.val (.int p1), .val (.int p2), .val (.int p3), .val (.ref b_e1), .val (.int (29 : Int32)), .unset, .unset] [(.int (255 : Int32)), (.int p2), (.int (0 : Int32)), (.ref b_e1)])) _
    refine XS.iand X1.here hx rfl (hb hby at_26) rfl ?_
    refine XS.i2c X1.here hx rfl (hb hby at_27) rfl ?_
    refine st4 _ ?_
    refine XS.aloadN X4.here hx rfl (hb hby at_29) rfl rfl ?_
    refine XS.iload X4.here hx rfl (hb hby at_30) rfl ?_
    refine XS.iconst X4.here hx rfl (hb hby at_32) ?_
    show Steps p.tables e below (T4.setTop (mkF m 33 #[.val (.int p1), .val (.int p2), .val (.int p3), .val (.ref b_e1), .val (.int (29 : Int32)), .unset, .unset] [(.int (1 : Int32)), (.int (29 : Int32)), (.ref b_e1)])) _
    refine XS.isub X4.here hx rfl (hb hby at_33) rfl ?_
    show Steps p.tables e below (T4.setTop (mkF m 34 #[.val (.int p1), .val (.int p2), .val (.int p3), .val (.ref b_e1), .val (.int (29 : Int32)), .unset, .unset] [(.int ((29 : Int32) - (1 : Int32))), (.ref b_e1)])) _
    rw [show (((29 : Int32) - (1 : Int32)) : Int32) = (28 : Int32) from by decide]
    refine XS.iloadN X4.here hx rfl (hb hby at_34) rfl ?_
    refine XS.sipush X4.here hx rfl (hb hby at_35) ?_
    show Steps p.tables e below (T4.setTop (mkF m 38 #[.val (.int p1), .val (.int p2), .val (.int p3), .val (.ref b_e1), .val (.int (29 : Int32)), .unset, .unset] [(.int (255 : Int32)), (.int p3), (.int (28 : Int32)), (.ref b_e1)])) _
    refine XS.iand X4.here hx rfl (hb hby at_38) rfl ?_
    refine XS.i2c X4.here hx rfl (hb hby at_39) rfl ?_
    refine st6 _ ?_
    refine st7 _ ?_
    refine XS.dup X7.here hx rfl (hb hby at_44) rfl rfl ?_
    refine XS.aloadN X7.here hx rfl (hb hby at_45) rfl rfl ?_
    show Steps p.tables e below (T7.setTop (mkF m 46 #[.val (.int p1), .val (.int p2), .val (.int p3), .val (.ref b_e1), .val (.int (29 : Int32)), .unset, .unset] [(.ref b_e1), (.ref b7), (.ref b7)])) _
    refine st11.trans ?_
    refine XS.astore X11.here hx rfl (hb hby at_49) rfl rfl (l' := #[.val (.int p1), .val (.int p2), .val (.int p3), .val (.ref b_e1), .val (.int (29 : Int32)), .val (.ref b7), .unset]) rfl ?_
    refine XS.aload X11.here hx rfl (hb hby at_51) rfl rfl ?_
    refine st14 _ ?_
    refine XS.istore X14.here hx rfl (hb hby at_56) rfl (l' := #[.val (.int p1), .val (.int p2), .val (.int p3), .val (.ref b_e1), .val (.int (29 : Int32)), .val (.ref b7), .val (.int (0 : Int32))]) rfl ?_
    refine XS.aload X14.here hx rfl (hb hby at_58) rfl rfl ?_
    show Steps p.tables e below (T14.setTop (mkF m 60 #[.val (.int p1), .val (.int p2), .val (.int p3), .val (.ref b_e1), .val (.int (29 : Int32)), .val (.ref b7), .val (.int (0 : Int32))] [(.ref b7)])) _
    refine st17.trans ?_
    refine XS.bipush X17.here hx rfl (hb hby at_63) ?_
    show Steps p.tables e below (T17.setTop (mkF m 65 #[.val (.int p1), .val (.int p2), .val (.int p3), .val (.ref b_e1), .val (.int (29 : Int32)), .val (.ref b7), .val (.int (0 : Int32))] [(.int (30 : Int32)), (.int (29 : Int32))])) _
    refine XS.icmpNo X17.here hx rfl (hb hby at_65) rfl (tlt (show (29 : Int32) < (30 : Int32) from (by decide))).2.1 ?_
    refine XS.iload X17.here hx rfl (hb hby at_68) rfl ?_
    refine XS.ifNo X17.here hx rfl (hb hby at_70) rfl ((if0 _ _).trans (teq (show (0 : Int32) = (0 : Int32) from rfl)).2) ?_
    refine XS.iconst X17.here hx rfl (hb hby at_73) ?_
    refine XS.goto X17.here hx rfl (pc0 := 74) (pc' := 78) rfl (hb hby at_74) (by decide) (by decide) ?_
    exact retN X17 hx (t := .boolean) Bd.returns (by simp) (hb hby at_78) hr
  · show Qrm0 Z p1 p2 p3 cz sf h0 n0 _ T17.heap _
    rw [e17q]
    exact ⟨rfl, N17⟩
  · show CHr Z consts_1 s.vm s.heap T17.vm T17.heap
    rw [hh, e17q]
    exact CR19h.trans (CHv.at X17 hZ (own_EL hw) CR19h.1)
theorem hwd53 {Z : State} {a0 : Array Value} (hw : ∀ d ∈ tables_1, d.before a0 Z = true) : (Jvm.Cond.methodLink "com/example/coretally/coretally/store/SampleKeyNamesClusterPinLaw" (29 : Nat) ({ cls := "com/example/coretally/coretally/store/SampleKey", name := "cluster", desc := "(Ljava/lang/String;)Ljava/lang/String;" } : Jvm.MethodName)).before a0 Z = true := hw _ (List.mem_of_getElem? (i := 53) rfl)
theorem hwd55 {Z : State} {a0 : Array Value} (hw : ∀ d ∈ tables_1, d.before a0 Z = true) : (Jvm.Cond.code ({ cls := "com/example/coretally/coretally/store/SampleKey", name := "cluster", desc := "(Ljava/lang/String;)Ljava/lang/String;" } : Jvm.MethodName) prog_78_method_5_code (1 : Nat) (Option.some (Jvm.ClassFile.FieldType.object "java/lang/String"))).before a0 Z = true := hw _ (List.mem_of_getElem? (i := 55) rfl)
theorem pd_16 : parseMethodDescriptor "(Ljava/lang/String;)Ljava/lang/String;" = some ⟨[(.object "java/lang/String")], some (.object "java/lang/String")⟩ := by decide +kernel
theorem hwd54 {Z : State} {a0 : Array Value} (hw : ∀ d ∈ tables_1, d.before a0 Z = true) : (Jvm.Cond.static ({ cls := "com/example/coretally/coretally/store/SampleKey", name := "cluster", desc := "(Ljava/lang/String;)Ljava/lang/String;" } : Jvm.MethodName)).before a0 Z = true := hw _ (List.mem_of_getElem? (i := 54) rfl)
theorem hwd85 {Z : State} {a0 : Array Value} (hw : ∀ d ∈ tables_1, d.before a0 Z = true) : (Jvm.Cond.methodLink "com/example/coretally/coretally/store/SampleKeyNamesClusterPinLaw" (33 : Nat) ({ cls := "java/lang/String", name := "isEmpty", desc := "()Z" } : Jvm.MethodName)).before a0 Z = true := hw _ (List.mem_of_getElem? (i := 85) rfl)
theorem hwd89 {Z : State} {a0 : Array Value} (hw : ∀ d ∈ tables_1, d.before a0 Z = true) : (Jvm.Cond.code ({ cls := "java/lang/String", name := "isEmpty", desc := "()Z" } : Jvm.MethodName) jdk_42_method_55_code (1 : Nat) (Option.some Jvm.ClassFile.FieldType.boolean)).before a0 Z = true := hw _ (List.mem_of_getElem? (i := 89) rfl)
theorem hwd88 {Z : State} {a0 : Array Value} (hw : ∀ d ∈ tables_1, d.before a0 Z = true) : (Jvm.Cond.selects "java/lang/String" ({ cls := "java/lang/String", name := "isEmpty", desc := "()Z" } : Jvm.MethodName) ({ cls := "java/lang/String", name := "isEmpty", desc := "()Z" } : Jvm.MethodName)).before a0 Z = true := hw _ (List.mem_of_getElem? (i := 88) rfl)
theorem hwd86 {Z : State} {a0 : Array Value} (hw : ∀ d ∈ tables_1, d.before a0 Z = true) : (Jvm.Cond.declares ({ cls := "java/lang/String", name := "isEmpty", desc := "()Z" } : Jvm.MethodName)).before a0 Z = true := hw _ (List.mem_of_getElem? (i := 86) rfl)
theorem hwd87 {Z : State} {a0 : Array Value} (hw : ∀ d ∈ tables_1, d.before a0 Z = true) : (Jvm.Cond.instanceMethod ({ cls := "java/lang/String", name := "isEmpty", desc := "()Z" } : Jvm.MethodName)).before a0 Z = true := hw _ (List.mem_of_getElem? (i := 87) rfl)
set_option maxRecDepth 65536 in
set_option maxHeartbeats 40000000 in
theorem law_30 (l : Launch) (Z : State) (a0 : Array Value) (hw : ∀ d ∈ tables_1, d.before a0 Z = true) (ws : List Jvm.Cond) (p1 : Int32) (p2 : Int32) (p3 : Int32) (cz : Int32) (sf : Value) (h0 : Heap) (n0 : Nat) (Z0 : n0 ≤ h0.size) (O_C : Sta Z Z.heap "java/lang/String" "COMPACT_STRINGS" "Z" (.int cz)) (hcz : ¬ (cz = (0 : Int32))) (O_S : Sta Z Z.heap "jdk/internal/util/Preconditions" "SIOOBE_FORMATTER" "Ljava/util/function/BiFunction;" sf) (hsf : sf.isRef = true) (X00 : Old Z n0 h0) (hn : ((p1 &&& (2147483647 : Int32)) - ((p1 &&& (2147483647 : Int32)) / (7 : Int32)) * (7 : Int32)) = (3 : Int32)) :
    MetFree l x (head1 (Jvm.Cond.code x code maxLocals ret :: ws) room_1) (fun aa_ U => aa_ = #[(.int p1), (.int p2), (.int p3)] ∧ Z.Warmed39 U.vm ∧ U.heap = h0 ∧ CHv Z consts_1 U.vm h0) (fun _ _ _ _ _ => True) (fun _ U oo_ U' => ∃ v L, oo_ = .returned v ∧ Qrm0 Z p1 p2 p3 cz sf h0 n0 v U'.heap L ∧ CHr Z consts_1 U.vm U.heap U'.vm U'.heap ∧ ReturnedEndW U oo_ U' L room_1.cells room_1.slots) := by
  refine MetFree.of_bodySF (plainFor_of_name pn_0) hisR ?_
  intro p e s m args below meth c s₁ Bd hml0 hP hK
  obtain ⟨rfl, hZ, hh, hC0⟩ := hP
  have hx := Bd.exec
  have hby := Bd.bytes
  have hml : c.maxLocals = 7 := hml0
  have hown : s.vm.findClass "com/example/coretally/coretally/store/SampleKeyNamesClusterPinLaw" = some m.cls := findClass_of_methodNamed Bd.named
  have hZ : Z.Warmed39 (s.setVm s.vm).vm := hZ
  have hown : (s.setVm s.vm).vm.findClass "com/example/coretally/coretally/store/SampleKeyNamesClusterPinLaw" = some m.cls := hown
  have hS0 : s.Since s.vm s.heap.size := (State.WarmedH.refl s).since _
  have hk0 : s.heap.size ≤ h0.size := Nat.le_of_eq (by rw [hh])
  have CR0 : CHr Z consts_1 s.vm h0 s.vm h0 := CHr.refl hC0
  have hnm := (name_of_methodNamed Bd.named Bd.method).1
  have X0 : Stand p l e room_1 (s.setVm s.vm) m #[(.int p1), (.int p2), (.int p3)] below meth c s₁ [] 0 0 := Stand.of_body Bd
  have e0 : s₁.heap = h0 := by rw [← hh, Bd.state]; rfl
  have N0 := Fr.nil n0
  have pre0 : ∀ tt_, Steps p.tables e below (s₁.setTop (mkF m 0 #[.val (.int p1), .val (.int p2), .val (.int p3), .unset, .unset, .unset, .unset] [])) tt_ → Steps p.tables e below (s₁.setTop (entryFrame m #[(.int p1), (.int p2), (.int p3)] maxLocals)) tt_ := fun tt_ kk_ => castTop (ef_0 m p1 p2 p3) kk_
  obtain ⟨_, _, ⟨T1, L1, k1, n1⟩, -, X1, ⟨Lc1, hQ1, l1, y1, z1⟩, st1⟩ := Jvm.LawKit.callS X0 hx (y := my0) hown (mvT hZ (hwd1 hw)) (mvT hZ (hwd2 hw)) (mvT hZ (hwd3 hw)) (mvT hZ (hwd4 hw)) (by decide) (backOf (W := 0) (mk30 l Z a0 hw []  h0 n0 Z0 ) hZ (hwd4 hw) (hwd3 hw) (by decide) (by decide)) (g := (mkF m 7 #[.val (.int p1), .val (.int p2), .val (.int p3), .unset, .unset, .unset, .unset] [(.int (3 : Int32))])) rfl (by rw [hml]; rfl) (argsL := [(.int (3 : Int32))]) (rest := []) (lenOf pd_13 rfl) rfl (by show 2 * 0 + _ ≤ _; exact Nat.le_of_eq rfl) (hb hby at_7) (fun _ _ => ⟨rfl, e0, (by decide : 0 + 1 ≤ _), (by decide : 0 + 30 ≤ _)⟩)
  dsimp only [Pt.U, Pt.locs, Pt.cells, Pt.slots] at X1 l1 y1 z1 st1 hQ1
  subst l1 y1 z1
  obtain ⟨b_e1, kb_e1, rfl, N1q, K1, p1_1, sz_b_1, g_b_1⟩ := hQ1
  have N1 := Fr.app N0 N1q
  obtain ⟨cl2, Ar2, -, S2, M2, -, -⟩ := id p1_1
  obtain ⟨cl3, Ar3, q3, S3, M3, H3, G3⟩ := id p1_1
  obtain ⟨T4, h4, X4, e4, W4, st4⟩ := stC X1 hx hZ rfl Ar3 (j := (0 : Int32)) (inb_of S3 ⟨by decide, by decide⟩) (g := (mkF m 28 #[.val (.int p1), .val (.int p2), .val (.int p3), .val (.ref b_e1), .val (.int (30 : Int32)), .unset, .unset] [(.int ((p2 &&& (255 : Int32)).toUInt32.toUInt16.toUInt32.toInt32)), (.int (0 : Int32)), (.ref b_e1)])) rfl rfl (hb hby at_28)
  have N4 := Fr.snoc X4 N1 g_b_1
  have Vw4 : Arv Z h4 b_e1 kb_e1 .char (30 : Int32) ((List.replicate 30 (.int (0 : Int32))).set 0 (.int (nar .char ((p2 &&& (255 : Int32)).toUInt32.toUInt16.toUInt32.toInt32)))) (.int (0 : Int32)) := Arv.set Ar3 q3 S3 M3 H3 G3 (fits_nar_char _) W4 0 (by decide) (by simp)
  obtain ⟨cl5, Ar5, q5, S5, M5, H5, G5⟩ := id Vw4
  obtain ⟨T6, h6, X6, e6, W6, st6⟩ := stC X4 hx hZ e4 Ar5 (j := (29 : Int32)) (inb_of S5 ⟨by decide, by decide⟩) (g := (mkF m 40 #[.val (.int p1), .val (.int p2), .val (.int p3), .val (.ref b_e1), .val (.int (30 : Int32)), .unset, .unset] [(.int ((p3 &&& (255 : Int32)).toUInt32.toUInt16.toUInt32.toInt32)), (.int (29 : Int32)), (.ref b_e1)])) rfl rfl (hb hby at_40)
  have N6 := Fr.snoc X6 N4 g_b_1
  have Vw6 : Arv Z h6 b_e1 kb_e1 .char (30 : Int32) (((List.replicate 30 (.int (0 : Int32))).set 0 (.int (nar .char ((p2 &&& (255 : Int32)).toUInt32.toUInt16.toUInt32.toInt32)))).set 29 (.int (nar .char ((p3 &&& (255 : Int32)).toUInt32.toUInt16.toUInt32.toInt32)))) (.int (0 : Int32)) := Arv.set Ar5 q5 S5 M5 H5 G5 (fits_nar_char _) W6 29 (by decide) (by simp)
  obtain ⟨T7, h7, X7, e7, E7, A7, D7, -, st7⟩ := newO X6 hx hZ hown (hwd6 hw) (hwd7 hw) (hwd8 hw) e6 (g := (mkF m 41 #[.val (.int p1), .val (.int p2), .val (.int p3), .val (.ref b_e1), .val (.int (30 : Int32)), .unset, .unset] [])) rfl (hb hby at_41) (by decide) (by decide)
  obtain ⟨b7, g7⟩ : ∃ zz_, zz_ = h6.size := ⟨_, rfl⟩
  rw [← g7] at A7 D7 st7
  have ne_b_e1_b7 : b_e1 ≠ b7 := Nat.ne_of_lt (Nat.lt_of_lt_of_le Vw6.lt (Nat.le_of_eq g7.symm))
  have sz8 : n0 ≤ h6.size := (Nat.le_trans (Nat.le_trans (Nat.le_trans Z0 K1.1) (Keep.of_wr W4).1) (Keep.of_wr W6).1)
  have g_b7 : n0 ≤ b7 := Nat.le_trans sz8 (Nat.le_of_eq g7.symm)
  have kp9 : Keep h0 h6 [] := ((((Keep.refl h0 []).trans K1 all0).wr W4 (Or.inr (Nat.le_trans (Keep.refl h0 []).1 sz_b_1))).wr W6 (Or.inr (Nat.le_trans (Keep.refl h0 []).1 sz_b_1)))
  have sz_b7 : h0.size ≤ b7 := Nat.le_trans kp9.1 (Nat.le_of_eq g7.symm)
  have F_value_b7 : Fld Z h7 b7 "java/lang/String" "value" "[B" .null := D7 (Or.inr (hwd21 hw)) (ty := (.array .byte)) (by decide)
  have F_coder_b7 : Fld Z h7 b7 "java/lang/String" "coder" "B" (.int (0 : Int32)) := D7 (Or.inr (hwd22 hw)) (ty := .byte) (by decide)
  have f10_V_b_e1 := (Vw6.ext E7)
  have old12 : Old Z n0 h7 := ((((X00.keep K1 all0).wr W4 g_b_1).wr W6 g_b_1).ext E7)
  have sz13 : n0 ≤ h7.size := (Nat.le_trans sz8 E7.1)
  have hws : ∀ d ∈ StrChars.Road.words, d.before a0 Z = true := fun d hd => hw d ((by decide +kernel : ∀ d ∈ StrChars.Road.words, d ∈ tables_1) d hd)
  have Vn11 : Arv Z h7 b_e1 kb_e1 .char (30 : Int32) ((own_cs 30 29 p2 p3).map Value.int) (.int (0 : Int32)) := by rw [own_csmap]; exact f10_V_b_e1
  obtain ⟨_, _, ⟨T11, L11, k11, n11⟩, -, X11, ⟨Lc11, hQ11, l11, y11, z11⟩, st11⟩ := X7.specialBack hx (y := my2) rfl hown (mvT hZ (hwd9 hw)) (mvT hZ (hwd10 hw)) (mvT hZ (hwd11 hw)) (by decide) (StrChars.Road.backV (W := 1) hZ hws (kI := 4) (hwd7 hw) (cs := (own_cs 30 29 p2 p3)) (bs := (own_cs 30 29 p2 p3).map (fun c => c.toInt8.toInt32)) (n := 30) g_b7 sz13 A7 F_value_b7 F_coder_b7 Vn11 (O_C.ext old12.2) hcz (own_cslen _ _ _ _) rfl (by decide) (by decide) (own_cslat _ _ _ _) rfl (by decide) (by decide)) (g := (mkF m 46 #[.val (.int p1), .val (.int p2), .val (.int p3), .val (.ref b_e1), .val (.int (30 : Int32)), .unset, .unset] [(.ref b_e1), (.ref b7), (.ref b7)])) rfl (by rw [hml]; rfl) (Steps.refl _) (a := b7) (argsL := [(.ref b_e1)]) (rest := [(.ref b7)]) (lenOf pd_14 rfl) rfl (by show 2 * 0 + _ ≤ _; exact Nat.le_of_eq rfl) (hb hby at_46) (fun _ _ => ⟨rfl, e7, (by decide : 2 + 1 ≤ _), (by decide : 34 + 30 ≤ _)⟩)
  dsimp only [Pt.U, Pt.locs, Pt.cells, Pt.slots] at X11 l11 y11 z11 st11 hQ11
  subst l11 y11 z11
  obtain ⟨rfl, N11q, K11, E11s, C11s, t11, kb11, gt11, st11s, nt11, V11s, B11s⟩ := hQ11
  have N11 := Fr.app N6 N11q
  have old15 : Old Z n0 T11.heap := (old12.keep K11 (allS g_b7 all0))
  have sz16 : n0 ≤ T11.heap.size := (Nat.le_trans sz13 K11.1)
  obtain ⟨_, _, ⟨T14, L14, k14, n14⟩, -, X14, ⟨Lc14, hQ14, l14, y14, z14⟩, st14⟩ := Jvm.LawKit.callS X11 hx (y := my6) hown (mvT hZ (hwd27 hw)) (mvT hZ (hwd28 hw)) (mvT hZ (hwd29 hw)) (mvT hZ (hwd30 hw)) (by decide) (backOf (W := 0) (nc30 l Z a0 hw [] b7 t11 kb11 (((own_cs 30 29 p2 p3).map (fun c => c.toInt8.toInt32)).map Value.int) cz (T11.heap) n0 sz16 E11s V11s C11s B11s O_C hcz old15) hZ (hwd30 hw) (hwd29 hw) (by decide) (by decide)) (g := (mkF m 53 #[.val (.int p1), .val (.int p2), .val (.int p3), .val (.ref b_e1), .val (.int (30 : Int32)), .val (.ref b7), .unset] [(.ref b7)])) rfl (by rw [hml]; rfl) (argsL := [(.ref b7)]) (rest := []) (lenOf pd_15 rfl) rfl (by show 2 * 0 + _ ≤ _; exact Nat.le_of_eq rfl) (hb hby at_53) (fun _ _ => ⟨rfl, rfl, (by decide : 3 + 0 ≤ _), (by decide : 64 + 0 ≤ _)⟩)
  dsimp only [Pt.U, Pt.locs, Pt.cells, Pt.slots] at X14 l14 y14 z14 st14 hQ14
  subst l14 y14 z14
  obtain ⟨rfl, N14q, e14q⟩ := hQ14
  have N14 := Fr.app N11 N14q
  obtain ⟨cq17, kq17, q17a, q17b, q17c⟩ := isOf hZ e14q E11s
  obtain ⟨_, _, ⟨T17, L17, k17, n17⟩, -, X17, ⟨Lc17, hQ17, l17, y17, z17⟩, st17⟩ := X14.virtualBack hx (y := my5) (z := my5) hown (mvT hZ (hwd42 hw)) (mvT hZ (hwd32 hw)) (notFace_of_selects (args := #[]) (mvT hZ (hwd34 hw))) (mvT hZ (hwd34 hw)) (mvT hZ (hwd33 hw)) (by decide) (backOf (W := 0) (sle30 l Z a0 hw [] b7 t11 kb11 (((own_cs 30 29 p2 p3).map (fun c => c.toInt8.toInt32)).map Value.int) cz (T11.heap) n0 sz16 E11s V11s C11s B11s O_C hcz old15) hZ (hwd35 hw) (hwd8 hw) (by decide) (by decide)) q17a q17c (g := (mkF m 60 #[.val (.int p1), .val (.int p2), .val (.int p3), .val (.ref b_e1), .val (.int (30 : Int32)), .val (.ref b7), .val (.int (0 : Int32))] [(.ref b7)])) rfl (by rw [hml]; rfl) (Steps.refl _) (argsL := []) (rest := []) (lenOf pd_2 rfl) rfl (by show 2 * 0 + _ ≤ _; exact Nat.le_of_eq rfl) (hb hby at_60) (fun _ _ => ⟨rfl, e14q, (by decide : 3 + 0 ≤ _), (by decide : 64 + 0 ≤ _)⟩)
  dsimp only [Pt.U, Pt.locs, Pt.cells, Pt.slots] at X17 l17 y17 z17 st17 hQ17
  subst l17 y17 z17
  obtain ⟨rfl, N17q, e17q⟩ := hQ17
  have N17 := Fr.app N14 N17q
  have kp19 : Keep h0 T11.heap [] := ((kp9.ext E7).trans K11 (allS (Or.inr sz_b7) all0))
  have CR20h : CHr Z consts_1 s.vm h0 s.vm T11.heap := CR0.trans (CHr.keep kp19 sf0 CR0.1)
  have hk21 : _ ≤ T11.heap.size := (Nat.le_trans (Nat.le_trans (Nat.le_trans (Nat.le_trans (Nat.le_trans hk0 K1.1) (Keep.of_wr W4).1) (Keep.of_wr W6).1) E7.1) K11.1)
  obtain ⟨_, _, ⟨T18, L18, k18, n18⟩, -, X18q, hS18q, hg18q, ⟨Lc18, hQ18, l18, y18, z18, CR18q⟩, st18⟩ := callSS X17 hx (y := my14) hown (mvT hZ (hwd53 hw)) (mvT hZ (hwd54 hw)) (mvT hZ (hwd29 hw)) (mvT hZ (hwd55 hw)) (by decide) (backOfSH (W := 1) (EL := consts_1) (s := s) (vm0 := s.vm) (clu30 l Z a0 hw [] b7 t11 kb11 (((own_cs 30 29 p2 p3).map (fun c => c.toInt8.toInt32)).map Value.int) cz sf (T11.heap) n0 sz16 E11s V11s C11s B11s O_C hcz old15 O_S hsf) hZ (hwd55 hw) (hwd29 hw) (by decide) (by decide) (own_EL hw) CR20h.1) (g := (mkF m 83 #[.val (.int p1), .val (.int p2), .val (.int p3), .val (.ref b_e1), .val (.int (30 : Int32)), .val (.ref b7), .val (.int (0 : Int32))] [(.ref b7), (.int (0 : Int32))])) rfl (by rw [hml]; rfl) (argsL := [(.ref b7)]) (rest := [(.int (0 : Int32))]) (lenOf pd_16 rfl) rfl (by show 2 * 0 + _ ≤ _; exact Nat.le_of_eq rfl) (hb hby at_83) (fun _ _ => ⟨rfl, e17q, (by decide : 3 + 2 ≤ _), (by decide : 64 + 4 ≤ _)⟩)
  dsimp only [Pt.U, Pt.locs, Pt.cells, Pt.slots] at X18q l18 y18 z18 st18 hQ18 hS18q hg18q CR18q
  subst l18 y18 z18
  obtain ⟨X18, hS18, hZ18, hown18⟩ := rebS hS0 (by rw [show T17.heap = T11.heap from e17q]; exact hk21) X18q hS18q hg18q hZ hown
  have hk18 : T18.heap.size ≤ T18.heap.size := Nat.le_refl _
  have CR18 := CR20h.trans CR18q
  obtain ⟨s2_e18, b2_e18, kb2_e18, v2_e18, rfl, N18q, K18, p18_1, p18_2, p18_3, p18_4⟩ := hQ18
  have N18 := Fr.app N17 N18q
  have sz23 : n0 ≤ T18.heap.size := (Nat.le_trans sz16 K18.1)
  obtain ⟨cq22, kq22, q22a, q22b, q22c⟩ := isOf hZ18 rfl p18_1
  obtain ⟨_, _, ⟨T22, L22, k22, n22⟩, -, X22, ⟨Lc22, hQ22, l22, y22, z22⟩, st22⟩ := X18.virtualBack hx (y := my7) (z := my7) hown18 (mvT hZ18 (hwd85 hw)) (mvT hZ18 (hwd86 hw)) (notFace_of_selects (args := #[]) (mvT hZ18 (hwd88 hw))) (mvT hZ18 (hwd88 hw)) (mvT hZ18 (hwd87 hw)) (by decide) (backOf (W := 1) (sem0 l Z a0 hw [] s2_e18 b2_e18 kb2_e18 v2_e18 (T18.heap) n0 sz23 p18_2 p18_4) hZ18 (hwd89 hw) (hwd8 hw) (by decide) (by decide)) q22a q22c (g := (mkF m 86 #[.val (.int p1), .val (.int p2), .val (.int p3), .val (.ref b_e1), .val (.int (30 : Int32)), .val (.ref b7), .val (.int (0 : Int32))] [(.ref s2_e18), (.int (0 : Int32))])) rfl (by rw [hml]; rfl) (Steps.refl _) (argsL := []) (rest := [(.int (0 : Int32))]) (lenOf pd_5 rfl) rfl (by show 2 * 0 + _ ≤ _; exact Nat.le_of_eq rfl) (hb hby at_86) (fun _ _ => ⟨rfl, rfl, (by decide : 5 + 0 ≤ _), (by decide : 68 + 0 ≤ _)⟩)
  dsimp only [Pt.U, Pt.locs, Pt.cells, Pt.slots] at X22 l22 y22 z22 st22 hQ22
  subst l22 y22 z22
  obtain ⟨rfl, N22q, e22q⟩ := hQ22
  have N22 := Fr.app N18 N22q
  have hkE := Nat.le_trans hk18 (Nat.le_of_eq (congrArg Array.size (show T18.heap = T22.heap from Eq.symm e22q)))
  obtain ⟨fs, hr, hrun, hended, hRE⟩ := X22.leaveW hS18 hkE (v := some (.int (1 : Int32))) (fun h => by rw [Bd.returns] at h; cases h)
  refine ⟨_, _, pre0 _ ?_, hrun, hended, _, _, rfl, ?_, ?_, hRE.1, hRE.2.1, hRE.2.2.1, hRE.2.2.2.mono (by decide) (by decide)⟩
  · show Steps p.tables e below (s₁.setTop (mkF m 0 #[.val (.int p1), .val (.int p2), .val (.int p3), .unset, .unset, .unset, .unset] [])) _
    refine XS.iloadN X0.here hx rfl (hb hby at_0) rfl ?_
    refine X0.ldcInt hx hown (mvT hZ (hwd0 hw)) (g := (mkF m 1 #[.val (.int p1), .val (.int p2), .val (.int p3), .unset, .unset, .unset, .unset] [(.int p1)])) rfl (hb hby at_1) _ ?_
    refine XS.iand X0.here hx rfl (hb hby at_3) rfl ?_
    refine XS.bipush X0.here hx rfl (hb hby at_4) ?_
    show Steps p.tables e below (s₁.setTop (mkF m 6 #[.val (.int p1), .val (.int p2), .val (.int p3), .unset, .unset, .unset, .unset] [(.int (7 : Int32)), (.int (p1 &&& (2147483647 : Int32)))])) _
    refine XS.irem X0.here hx rfl (hb hby at_6) rfl (by decide) ?_
    show Steps p.tables e below (s₁.setTop (mkF m 7 #[.val (.int p1), .val (.int p2), .val (.int p3), .unset, .unset, .unset, .unset] [(.int ((p1 &&& (2147483647 : Int32)) - ((p1 &&& (2147483647 : Int32)) / (7 : Int32)) * (7 : Int32)))])) _
    rw [hn]
    refine st1 _ ?_
    refine XS.astoreN X1.here hx rfl (hb hby at_10) rfl rfl (l' := #[.val (.int p1), .val (.int p2), .val (.int p3), .val (.ref b_e1), .unset, .unset, .unset]) rfl ?_
    refine XS.aloadN X1.here hx rfl (hb hby at_11) rfl rfl ?_
    refine X1.arraylength hx (by exact Ar2.1) (State.isArrayOf_alike hZ.alike Ar2.2.1) (g := (mkF m 12 #[.val (.int p1), .val (.int p2), .val (.int p3), .val (.ref b_e1), .unset, .unset, .unset] [(.ref b_e1)])) rfl rfl (hb hby at_12) _ ?_
    rw [len_of S2 M2]
    refine XS.istore X1.here hx rfl (hb hby at_13) rfl (l' := #[.val (.int p1), .val (.int p2), .val (.int p3), .val (.ref b_e1), .val (.int (30 : Int32)), .unset, .unset]) rfl ?_
    show Steps p.tables e below (T1.setTop (mkF m 15 #[.val (.int p1), .val (.int p2), .val (.int p3), .val (.ref b_e1), .val (.int (30 : Int32)), .unset, .unset] [])) _
    refine XS.iload X1.here hx rfl (hb hby at_15) rfl ?_
    refine XS.ifNo X1.here hx rfl (hb hby at_17) rfl ((if0 _ _).trans (tlt (show (0 : Int32) < (30 : Int32) from (by decide))).2.2.2) ?_
    refine XS.aloadN X1.here hx rfl (hb hby at_20) rfl rfl ?_
    refine XS.iconst X1.here hx rfl (hb hby at_21) ?_
    refine XS.iloadN X1.here hx rfl (hb hby at_22) rfl ?_
    refine XS.sipush X1.here hx rfl (hb hby at_23) ?_
    show Steps p.tables e below (T1.setTop (mkF m 26 #[.val (.int p1), .val (.int p2), .val (.int p3), .val (.ref b_e1), .val (.int (30 : Int32)), .unset, .unset] [(.int (255 : Int32)), (.int p2), (.int (0 : Int32)), (.ref b_e1)])) _
    refine XS.iand X1.here hx rfl (hb hby at_26) rfl ?_
    refine XS.i2c X1.here hx rfl (hb hby at_27) rfl ?_
    refine st4 _ ?_
    refine XS.aloadN X4.here hx rfl (hb hby at_29) rfl rfl ?_
    refine XS.iload X4.here hx rfl (hb hby at_30) rfl ?_
    refine XS.iconst X4.here hx rfl (hb hby at_32) ?_
    show Steps p.tables e below (T4.setTop (mkF m 33 #[.val (.int p1), .val (.int p2), .val (.int p3), .val (.ref b_e1), .val (.int (30 : Int32)), .unset, .unset] [(.int (1 : Int32)), (.int (30 : Int32)), (.ref b_e1)])) _
    refine XS.isub X4.here hx rfl (hb hby at_33) rfl ?_
    show Steps p.tables e below (T4.setTop (mkF m 34 #[.val (.int p1), .val (.int p2), .val (.int p3), .val (.ref b_e1), .val (.int (30 : Int32)), .unset, .unset] [(.int ((30 : Int32) - (1 : Int32))), (.ref b_e1)])) _
    rw [show (((30 : Int32) - (1 : Int32)) : Int32) = (29 : Int32) from by decide]
    refine XS.iloadN X4.here hx rfl (hb hby at_34) rfl ?_
    refine XS.sipush X4.here hx rfl (hb hby at_35) ?_
    show Steps p.tables e below (T4.setTop (mkF m 38 #[.val (.int p1), .val (.int p2), .val (.int p3), .val (.ref b_e1), .val (.int (30 : Int32)), .unset, .unset] [(.int (255 : Int32)), (.int p3), (.int (29 : Int32)), (.ref b_e1)])) _
    refine XS.iand X4.here hx rfl (hb hby at_38) rfl ?_
    refine XS.i2c X4.here hx rfl (hb hby at_39) rfl ?_
    refine st6 _ ?_
    refine st7 _ ?_
    refine XS.dup X7.here hx rfl (hb hby at_44) rfl rfl ?_
    refine XS.aloadN X7.here hx rfl (hb hby at_45) rfl rfl ?_
    show Steps p.tables e below (T7.setTop (mkF m 46 #[.val (.int p1), .val (.int p2), .val (.int p3), .val (.ref b_e1), .val (.int (30 : Int32)), .unset, .unset] [(.ref b_e1), (.ref b7), (.ref b7)])) _
    refine st11.trans ?_
    refine XS.astore X11.here hx rfl (hb hby at_49) rfl rfl (l' := #[.val (.int p1), .val (.int p2), .val (.int p3), .val (.ref b_e1), .val (.int (30 : Int32)), .val (.ref b7), .unset]) rfl ?_
    refine XS.aload X11.here hx rfl (hb hby at_51) rfl rfl ?_
    refine st14 _ ?_
    refine XS.istore X14.here hx rfl (hb hby at_56) rfl (l' := #[.val (.int p1), .val (.int p2), .val (.int p3), .val (.ref b_e1), .val (.int (30 : Int32)), .val (.ref b7), .val (.int (0 : Int32))]) rfl ?_
    refine XS.aload X14.here hx rfl (hb hby at_58) rfl rfl ?_
    show Steps p.tables e below (T14.setTop (mkF m 60 #[.val (.int p1), .val (.int p2), .val (.int p3), .val (.ref b_e1), .val (.int (30 : Int32)), .val (.ref b7), .val (.int (0 : Int32))] [(.ref b7)])) _
    refine st17.trans ?_
    refine XS.bipush X17.here hx rfl (hb hby at_63) ?_
    show Steps p.tables e below (T17.setTop (mkF m 65 #[.val (.int p1), .val (.int p2), .val (.int p3), .val (.ref b_e1), .val (.int (30 : Int32)), .val (.ref b7), .val (.int (0 : Int32))] [(.int (30 : Int32)), (.int (30 : Int32))])) _
    refine XS.icmpYes X17.here hx rfl (pc0 := 65) (pc' := 79) rfl (hb hby at_65) rfl (flt (show ¬ ((30 : Int32) < (30 : Int32)) from (by decide))).2.1 (by decide) (by decide) ?_
    refine XS.iload X17.here hx rfl (hb hby at_79) rfl ?_
    refine XS.aload X17.here hx rfl (hb hby at_81) rfl rfl ?_
    refine st18.trans ?_
    refine st22.trans ?_
    refine XS.ifYes X22.here hx rfl (pc0 := 89) (pc' := 96) rfl (hb hby at_89) rfl ((if0 _ _).trans (feq (show ¬ ((1 : Int32) = (0 : Int32)) from (by decide))).2) (by decide) (by decide) ?_
    show Steps p.tables e below (T22.setTop (mkF m 96 #[.val (.int p1), .val (.int p2), .val (.int p3), .val (.ref b_e1), .val (.int (30 : Int32)), .val (.ref b7), .val (.int (0 : Int32))] [(.int (0 : Int32))])) _
    refine XS.iconst X22.here hx rfl (hb hby at_96) ?_
    refine XS.icmpNo X22.here hx rfl (hb hby at_97) rfl (teq (show (0 : Int32) = (0 : Int32) from rfl)).2 ?_
    refine XS.iconst X22.here hx rfl (hb hby at_100) ?_
    refine XS.goto X22.here hx rfl (pc0 := 101) (pc' := 105) rfl (hb hby at_101) (by decide) (by decide) ?_
    exact retN X22 hx (t := .boolean) Bd.returns (by simp) (hb hby at_105) hr
  · show Qrm0 Z p1 p2 p3 cz sf h0 n0 _ T22.heap _
    rw [e22q]
    exact ⟨rfl, N22⟩
  · show CHr Z consts_1 s.vm s.heap T22.vm T22.heap
    rw [hh, e22q]
    exact CR18.trans (CHv.at X22 hZ18 (own_EL hw) CR18.1)
set_option maxRecDepth 65536 in
set_option maxHeartbeats 40000000 in
theorem law_31 (l : Launch) (Z : State) (a0 : Array Value) (hw : ∀ d ∈ tables_1, d.before a0 Z = true) (ws : List Jvm.Cond) (p1 : Int32) (p2 : Int32) (p3 : Int32) (cz : Int32) (sf : Value) (h0 : Heap) (n0 : Nat) (Z0 : n0 ≤ h0.size) (O_C : Sta Z Z.heap "java/lang/String" "COMPACT_STRINGS" "Z" (.int cz)) (hcz : ¬ (cz = (0 : Int32))) (O_S : Sta Z Z.heap "jdk/internal/util/Preconditions" "SIOOBE_FORMATTER" "Ljava/util/function/BiFunction;" sf) (hsf : sf.isRef = true) (X00 : Old Z n0 h0) (hn : ((p1 &&& (2147483647 : Int32)) - ((p1 &&& (2147483647 : Int32)) / (7 : Int32)) * (7 : Int32)) = (4 : Int32)) :
    MetFree l x (head1 (Jvm.Cond.code x code maxLocals ret :: ws) room_1) (fun aa_ U => aa_ = #[(.int p1), (.int p2), (.int p3)] ∧ Z.Warmed39 U.vm ∧ U.heap = h0 ∧ CHv Z consts_1 U.vm h0) (fun _ _ _ _ _ => True) (fun _ U oo_ U' => ∃ v L, oo_ = .returned v ∧ Qrm0 Z p1 p2 p3 cz sf h0 n0 v U'.heap L ∧ CHr Z consts_1 U.vm U.heap U'.vm U'.heap ∧ ReturnedEndW U oo_ U' L room_1.cells room_1.slots) := by
  refine MetFree.of_bodySF (plainFor_of_name pn_0) hisR ?_
  intro p e s m args below meth c s₁ Bd hml0 hP hK
  obtain ⟨rfl, hZ, hh, hC0⟩ := hP
  have hx := Bd.exec
  have hby := Bd.bytes
  have hml : c.maxLocals = 7 := hml0
  have hown : s.vm.findClass "com/example/coretally/coretally/store/SampleKeyNamesClusterPinLaw" = some m.cls := findClass_of_methodNamed Bd.named
  have hZ : Z.Warmed39 (s.setVm s.vm).vm := hZ
  have hown : (s.setVm s.vm).vm.findClass "com/example/coretally/coretally/store/SampleKeyNamesClusterPinLaw" = some m.cls := hown
  have hS0 : s.Since s.vm s.heap.size := (State.WarmedH.refl s).since _
  have hk0 : s.heap.size ≤ h0.size := Nat.le_of_eq (by rw [hh])
  have CR0 : CHr Z consts_1 s.vm h0 s.vm h0 := CHr.refl hC0
  have hnm := (name_of_methodNamed Bd.named Bd.method).1
  have X0 : Stand p l e room_1 (s.setVm s.vm) m #[(.int p1), (.int p2), (.int p3)] below meth c s₁ [] 0 0 := Stand.of_body Bd
  have e0 : s₁.heap = h0 := by rw [← hh, Bd.state]; rfl
  have N0 := Fr.nil n0
  have pre0 : ∀ tt_, Steps p.tables e below (s₁.setTop (mkF m 0 #[.val (.int p1), .val (.int p2), .val (.int p3), .unset, .unset, .unset, .unset] [])) tt_ → Steps p.tables e below (s₁.setTop (entryFrame m #[(.int p1), (.int p2), (.int p3)] maxLocals)) tt_ := fun tt_ kk_ => castTop (ef_0 m p1 p2 p3) kk_
  obtain ⟨_, _, ⟨T1, L1, k1, n1⟩, -, X1, ⟨Lc1, hQ1, l1, y1, z1⟩, st1⟩ := Jvm.LawKit.callS X0 hx (y := my0) hown (mvT hZ (hwd1 hw)) (mvT hZ (hwd2 hw)) (mvT hZ (hwd3 hw)) (mvT hZ (hwd4 hw)) (by decide) (backOf (W := 0) (mk31 l Z a0 hw []  h0 n0 Z0 ) hZ (hwd4 hw) (hwd3 hw) (by decide) (by decide)) (g := (mkF m 7 #[.val (.int p1), .val (.int p2), .val (.int p3), .unset, .unset, .unset, .unset] [(.int (4 : Int32))])) rfl (by rw [hml]; rfl) (argsL := [(.int (4 : Int32))]) (rest := []) (lenOf pd_13 rfl) rfl (by show 2 * 0 + _ ≤ _; exact Nat.le_of_eq rfl) (hb hby at_7) (fun _ _ => ⟨rfl, e0, (by decide : 0 + 1 ≤ _), (by decide : 0 + 31 ≤ _)⟩)
  dsimp only [Pt.U, Pt.locs, Pt.cells, Pt.slots] at X1 l1 y1 z1 st1 hQ1
  subst l1 y1 z1
  obtain ⟨b_e1, kb_e1, rfl, N1q, K1, p1_1, sz_b_1, g_b_1⟩ := hQ1
  have N1 := Fr.app N0 N1q
  obtain ⟨cl2, Ar2, -, S2, M2, -, -⟩ := id p1_1
  obtain ⟨cl3, Ar3, q3, S3, M3, H3, G3⟩ := id p1_1
  obtain ⟨T4, h4, X4, e4, W4, st4⟩ := stC X1 hx hZ rfl Ar3 (j := (0 : Int32)) (inb_of S3 ⟨by decide, by decide⟩) (g := (mkF m 28 #[.val (.int p1), .val (.int p2), .val (.int p3), .val (.ref b_e1), .val (.int (31 : Int32)), .unset, .unset] [(.int ((p2 &&& (255 : Int32)).toUInt32.toUInt16.toUInt32.toInt32)), (.int (0 : Int32)), (.ref b_e1)])) rfl rfl (hb hby at_28)
  have N4 := Fr.snoc X4 N1 g_b_1
  have Vw4 : Arv Z h4 b_e1 kb_e1 .char (31 : Int32) ((List.replicate 31 (.int (0 : Int32))).set 0 (.int (nar .char ((p2 &&& (255 : Int32)).toUInt32.toUInt16.toUInt32.toInt32)))) (.int (0 : Int32)) := Arv.set Ar3 q3 S3 M3 H3 G3 (fits_nar_char _) W4 0 (by decide) (by simp)
  obtain ⟨cl5, Ar5, q5, S5, M5, H5, G5⟩ := id Vw4
  obtain ⟨T6, h6, X6, e6, W6, st6⟩ := stC X4 hx hZ e4 Ar5 (j := (30 : Int32)) (inb_of S5 ⟨by decide, by decide⟩) (g := (mkF m 40 #[.val (.int p1), .val (.int p2), .val (.int p3), .val (.ref b_e1), .val (.int (31 : Int32)), .unset, .unset] [(.int ((p3 &&& (255 : Int32)).toUInt32.toUInt16.toUInt32.toInt32)), (.int (30 : Int32)), (.ref b_e1)])) rfl rfl (hb hby at_40)
  have N6 := Fr.snoc X6 N4 g_b_1
  have Vw6 : Arv Z h6 b_e1 kb_e1 .char (31 : Int32) (((List.replicate 31 (.int (0 : Int32))).set 0 (.int (nar .char ((p2 &&& (255 : Int32)).toUInt32.toUInt16.toUInt32.toInt32)))).set 30 (.int (nar .char ((p3 &&& (255 : Int32)).toUInt32.toUInt16.toUInt32.toInt32)))) (.int (0 : Int32)) := Arv.set Ar5 q5 S5 M5 H5 G5 (fits_nar_char _) W6 30 (by decide) (by simp)
  obtain ⟨T7, h7, X7, e7, E7, A7, D7, -, st7⟩ := newO X6 hx hZ hown (hwd6 hw) (hwd7 hw) (hwd8 hw) e6 (g := (mkF m 41 #[.val (.int p1), .val (.int p2), .val (.int p3), .val (.ref b_e1), .val (.int (31 : Int32)), .unset, .unset] [])) rfl (hb hby at_41) (by decide) (by decide)
  obtain ⟨b7, g7⟩ : ∃ zz_, zz_ = h6.size := ⟨_, rfl⟩
  rw [← g7] at A7 D7 st7
  have ne_b_e1_b7 : b_e1 ≠ b7 := Nat.ne_of_lt (Nat.lt_of_lt_of_le Vw6.lt (Nat.le_of_eq g7.symm))
  have sz8 : n0 ≤ h6.size := (Nat.le_trans (Nat.le_trans (Nat.le_trans Z0 K1.1) (Keep.of_wr W4).1) (Keep.of_wr W6).1)
  have g_b7 : n0 ≤ b7 := Nat.le_trans sz8 (Nat.le_of_eq g7.symm)
  have kp9 : Keep h0 h6 [] := ((((Keep.refl h0 []).trans K1 all0).wr W4 (Or.inr (Nat.le_trans (Keep.refl h0 []).1 sz_b_1))).wr W6 (Or.inr (Nat.le_trans (Keep.refl h0 []).1 sz_b_1)))
  have sz_b7 : h0.size ≤ b7 := Nat.le_trans kp9.1 (Nat.le_of_eq g7.symm)
  have F_value_b7 : Fld Z h7 b7 "java/lang/String" "value" "[B" .null := D7 (Or.inr (hwd21 hw)) (ty := (.array .byte)) (by decide)
  have F_coder_b7 : Fld Z h7 b7 "java/lang/String" "coder" "B" (.int (0 : Int32)) := D7 (Or.inr (hwd22 hw)) (ty := .byte) (by decide)
  have f10_V_b_e1 := (Vw6.ext E7)
  have old12 : Old Z n0 h7 := ((((X00.keep K1 all0).wr W4 g_b_1).wr W6 g_b_1).ext E7)
  have sz13 : n0 ≤ h7.size := (Nat.le_trans sz8 E7.1)
  have hws : ∀ d ∈ StrChars.Road.words, d.before a0 Z = true := fun d hd => hw d ((by decide +kernel : ∀ d ∈ StrChars.Road.words, d ∈ tables_1) d hd)
  have Vn11 : Arv Z h7 b_e1 kb_e1 .char (31 : Int32) ((own_cs 31 30 p2 p3).map Value.int) (.int (0 : Int32)) := by rw [own_csmap]; exact f10_V_b_e1
  obtain ⟨_, _, ⟨T11, L11, k11, n11⟩, -, X11, ⟨Lc11, hQ11, l11, y11, z11⟩, st11⟩ := X7.specialBack hx (y := my2) rfl hown (mvT hZ (hwd9 hw)) (mvT hZ (hwd10 hw)) (mvT hZ (hwd11 hw)) (by decide) (StrChars.Road.backV (W := 1) hZ hws (kI := 4) (hwd7 hw) (cs := (own_cs 31 30 p2 p3)) (bs := (own_cs 31 30 p2 p3).map (fun c => c.toInt8.toInt32)) (n := 31) g_b7 sz13 A7 F_value_b7 F_coder_b7 Vn11 (O_C.ext old12.2) hcz (own_cslen _ _ _ _) rfl (by decide) (by decide) (own_cslat _ _ _ _) rfl (by decide) (by decide)) (g := (mkF m 46 #[.val (.int p1), .val (.int p2), .val (.int p3), .val (.ref b_e1), .val (.int (31 : Int32)), .unset, .unset] [(.ref b_e1), (.ref b7), (.ref b7)])) rfl (by rw [hml]; rfl) (Steps.refl _) (a := b7) (argsL := [(.ref b_e1)]) (rest := [(.ref b7)]) (lenOf pd_14 rfl) rfl (by show 2 * 0 + _ ≤ _; exact Nat.le_of_eq rfl) (hb hby at_46) (fun _ _ => ⟨rfl, e7, (by decide : 2 + 1 ≤ _), (by decide : 35 + 31 ≤ _)⟩)
  dsimp only [Pt.U, Pt.locs, Pt.cells, Pt.slots] at X11 l11 y11 z11 st11 hQ11
  subst l11 y11 z11
  obtain ⟨rfl, N11q, K11, E11s, C11s, t11, kb11, gt11, st11s, nt11, V11s, B11s⟩ := hQ11
  have N11 := Fr.app N6 N11q
  have old15 : Old Z n0 T11.heap := (old12.keep K11 (allS g_b7 all0))
  have sz16 : n0 ≤ T11.heap.size := (Nat.le_trans sz13 K11.1)
  obtain ⟨_, _, ⟨T14, L14, k14, n14⟩, -, X14, ⟨Lc14, hQ14, l14, y14, z14⟩, st14⟩ := Jvm.LawKit.callS X11 hx (y := my6) hown (mvT hZ (hwd27 hw)) (mvT hZ (hwd28 hw)) (mvT hZ (hwd29 hw)) (mvT hZ (hwd30 hw)) (by decide) (backOf (W := 0) (nc31 l Z a0 hw [] b7 t11 kb11 (((own_cs 31 30 p2 p3).map (fun c => c.toInt8.toInt32)).map Value.int) cz (T11.heap) n0 sz16 E11s V11s C11s B11s O_C hcz old15) hZ (hwd30 hw) (hwd29 hw) (by decide) (by decide)) (g := (mkF m 53 #[.val (.int p1), .val (.int p2), .val (.int p3), .val (.ref b_e1), .val (.int (31 : Int32)), .val (.ref b7), .unset] [(.ref b7)])) rfl (by rw [hml]; rfl) (argsL := [(.ref b7)]) (rest := []) (lenOf pd_15 rfl) rfl (by show 2 * 0 + _ ≤ _; exact Nat.le_of_eq rfl) (hb hby at_53) (fun _ _ => ⟨rfl, rfl, (by decide : 3 + 0 ≤ _), (by decide : 66 + 0 ≤ _)⟩)
  dsimp only [Pt.U, Pt.locs, Pt.cells, Pt.slots] at X14 l14 y14 z14 st14 hQ14
  subst l14 y14 z14
  obtain ⟨rfl, N14q, e14q⟩ := hQ14
  have N14 := Fr.app N11 N14q
  obtain ⟨cq17, kq17, q17a, q17b, q17c⟩ := isOf hZ e14q E11s
  obtain ⟨_, _, ⟨T17, L17, k17, n17⟩, -, X17, ⟨Lc17, hQ17, l17, y17, z17⟩, st17⟩ := X14.virtualBack hx (y := my5) (z := my5) hown (mvT hZ (hwd42 hw)) (mvT hZ (hwd32 hw)) (notFace_of_selects (args := #[]) (mvT hZ (hwd34 hw))) (mvT hZ (hwd34 hw)) (mvT hZ (hwd33 hw)) (by decide) (backOf (W := 0) (sle31 l Z a0 hw [] b7 t11 kb11 (((own_cs 31 30 p2 p3).map (fun c => c.toInt8.toInt32)).map Value.int) cz (T11.heap) n0 sz16 E11s V11s C11s B11s O_C hcz old15) hZ (hwd35 hw) (hwd8 hw) (by decide) (by decide)) q17a q17c (g := (mkF m 60 #[.val (.int p1), .val (.int p2), .val (.int p3), .val (.ref b_e1), .val (.int (31 : Int32)), .val (.ref b7), .val (.int (1 : Int32))] [(.ref b7)])) rfl (by rw [hml]; rfl) (Steps.refl _) (argsL := []) (rest := []) (lenOf pd_2 rfl) rfl (by show 2 * 0 + _ ≤ _; exact Nat.le_of_eq rfl) (hb hby at_60) (fun _ _ => ⟨rfl, e14q, (by decide : 3 + 0 ≤ _), (by decide : 66 + 0 ≤ _)⟩)
  dsimp only [Pt.U, Pt.locs, Pt.cells, Pt.slots] at X17 l17 y17 z17 st17 hQ17
  subst l17 y17 z17
  obtain ⟨rfl, N17q, e17q⟩ := hQ17
  have N17 := Fr.app N14 N17q
  obtain ⟨_, _, ⟨T18, L18, k18, n18⟩, -, X18, ⟨Lc18, hQ18, l18, y18, z18⟩, st18⟩ := Jvm.LawKit.callS X17 hx (y := my14) hown (mvT hZ (hwd53 hw)) (mvT hZ (hwd54 hw)) (mvT hZ (hwd29 hw)) (mvT hZ (hwd55 hw)) (by decide) (backOf (W := 1) (clu31 l Z a0 hw [] b7 t11 kb11 (((own_cs 31 30 p2 p3).map (fun c => c.toInt8.toInt32)).map Value.int) cz sf (T11.heap) n0 sz16 E11s V11s C11s B11s O_C hcz old15 O_S hsf) hZ (hwd55 hw) (hwd29 hw) (by decide) (by decide)) (g := (mkF m 83 #[.val (.int p1), .val (.int p2), .val (.int p3), .val (.ref b_e1), .val (.int (31 : Int32)), .val (.ref b7), .val (.int (1 : Int32))] [(.ref b7), (.int (1 : Int32))])) rfl (by rw [hml]; rfl) (argsL := [(.ref b7)]) (rest := [(.int (1 : Int32))]) (lenOf pd_16 rfl) rfl (by show 2 * 0 + _ ≤ _; exact Nat.le_of_eq rfl) (hb hby at_83) (fun _ _ => ⟨rfl, e17q, (by decide : 3 + 2 ≤ _), (by decide : 66 + 5 ≤ _)⟩)
  dsimp only [Pt.U, Pt.locs, Pt.cells, Pt.slots] at X18 l18 y18 z18 st18 hQ18
  subst l18 y18 z18
  obtain ⟨s2_e18, b2_e18, kb2_e18, v2_e18, rfl, N18q, K18, p18_1, p18_2, p18_3, p18_4⟩ := hQ18
  have N18 := Fr.app N17 N18q
  have sz20 : n0 ≤ T18.heap.size := (Nat.le_trans sz16 K18.1)
  obtain ⟨cq19, kq19, q19a, q19b, q19c⟩ := isOf hZ rfl p18_1
  obtain ⟨_, _, ⟨T19, L19, k19, n19⟩, -, X19, ⟨Lc19, hQ19, l19, y19, z19⟩, st19⟩ := X18.virtualBack hx (y := my7) (z := my7) hown (mvT hZ (hwd85 hw)) (mvT hZ (hwd86 hw)) (notFace_of_selects (args := #[]) (mvT hZ (hwd88 hw))) (mvT hZ (hwd88 hw)) (mvT hZ (hwd87 hw)) (by decide) (backOf (W := 1) (sem1 l Z a0 hw [] s2_e18 b2_e18 kb2_e18 v2_e18 (T18.heap) n0 sz20 p18_2 p18_4) hZ (hwd89 hw) (hwd8 hw) (by decide) (by decide)) q19a q19c (g := (mkF m 86 #[.val (.int p1), .val (.int p2), .val (.int p3), .val (.ref b_e1), .val (.int (31 : Int32)), .val (.ref b7), .val (.int (1 : Int32))] [(.ref s2_e18), (.int (1 : Int32))])) rfl (by rw [hml]; rfl) (Steps.refl _) (argsL := []) (rest := [(.int (1 : Int32))]) (lenOf pd_5 rfl) rfl (by show 2 * 0 + _ ≤ _; exact Nat.le_of_eq rfl) (hb hby at_86) (fun _ _ => ⟨rfl, rfl, (by decide : 5 + 0 ≤ _), (by decide : 71 + 0 ≤ _)⟩)
  dsimp only [Pt.U, Pt.locs, Pt.cells, Pt.slots] at X19 l19 y19 z19 st19 hQ19
  subst l19 y19 z19
  obtain ⟨rfl, N19q, e19q⟩ := hQ19
  have N19 := Fr.app N18 N19q
  have kp21 : Keep h0 T18.heap [] := (((kp9.ext E7).trans K11 (allS (Or.inr sz_b7) all0)).trans K18 all0)
  have CR22h : CHr Z consts_1 s.vm h0 s.vm T18.heap := CR0.trans (CHr.keep kp21 sf0 CR0.1)
  have hk23 : _ ≤ T18.heap.size := (Nat.le_trans (Nat.le_trans (Nat.le_trans (Nat.le_trans (Nat.le_trans (Nat.le_trans hk0 K1.1) (Keep.of_wr W4).1) (Keep.of_wr W6).1) E7.1) K11.1) K18.1)
  have hkE := Nat.le_trans hk23 (Nat.le_of_eq (congrArg Array.size (show T18.heap = T19.heap from Eq.symm e19q)))
  obtain ⟨fs, hr, hrun, hended, hRE⟩ := X19.leaveW hS0 hkE (v := some (.int (1 : Int32))) (fun h => by rw [Bd.returns] at h; cases h)
  refine ⟨_, _, pre0 _ ?_, hrun, hended, _, _, rfl, ?_, ?_, hRE.1, hRE.2.1, hRE.2.2.1, hRE.2.2.2.mono (by decide) (by decide)⟩
  · show Steps p.tables e below (s₁.setTop (mkF m 0 #[.val (.int p1), .val (.int p2), .val (.int p3), .unset, .unset, .unset, .unset] [])) _
    refine XS.iloadN X0.here hx rfl (hb hby at_0) rfl ?_
    refine X0.ldcInt hx hown (mvT hZ (hwd0 hw)) (g := (mkF m 1 #[.val (.int p1), .val (.int p2), .val (.int p3), .unset, .unset, .unset, .unset] [(.int p1)])) rfl (hb hby at_1) _ ?_
    refine XS.iand X0.here hx rfl (hb hby at_3) rfl ?_
    refine XS.bipush X0.here hx rfl (hb hby at_4) ?_
    show Steps p.tables e below (s₁.setTop (mkF m 6 #[.val (.int p1), .val (.int p2), .val (.int p3), .unset, .unset, .unset, .unset] [(.int (7 : Int32)), (.int (p1 &&& (2147483647 : Int32)))])) _
    refine XS.irem X0.here hx rfl (hb hby at_6) rfl (by decide) ?_
    show Steps p.tables e below (s₁.setTop (mkF m 7 #[.val (.int p1), .val (.int p2), .val (.int p3), .unset, .unset, .unset, .unset] [(.int ((p1 &&& (2147483647 : Int32)) - ((p1 &&& (2147483647 : Int32)) / (7 : Int32)) * (7 : Int32)))])) _
    rw [hn]
    refine st1 _ ?_
    refine XS.astoreN X1.here hx rfl (hb hby at_10) rfl rfl (l' := #[.val (.int p1), .val (.int p2), .val (.int p3), .val (.ref b_e1), .unset, .unset, .unset]) rfl ?_
    refine XS.aloadN X1.here hx rfl (hb hby at_11) rfl rfl ?_
    refine X1.arraylength hx (by exact Ar2.1) (State.isArrayOf_alike hZ.alike Ar2.2.1) (g := (mkF m 12 #[.val (.int p1), .val (.int p2), .val (.int p3), .val (.ref b_e1), .unset, .unset, .unset] [(.ref b_e1)])) rfl rfl (hb hby at_12) _ ?_
    rw [len_of S2 M2]
    refine XS.istore X1.here hx rfl (hb hby at_13) rfl (l' := #[.val (.int p1), .val (.int p2), .val (.int p3), .val (.ref b_e1), .val (.int (31 : Int32)), .unset, .unset]) rfl ?_
    show Steps p.tables e below (T1.setTop (mkF m 15 #[.val (.int p1), .val (.int p2), .val (.int p3), .val (.ref b_e1), .val (.int (31 : Int32)), .unset, .unset] [])) _
    refine XS.iload X1.here hx rfl (hb hby at_15) rfl ?_
    refine XS.ifNo X1.here hx rfl (hb hby at_17) rfl ((if0 _ _).trans (tlt (show (0 : Int32) < (31 : Int32) from (by decide))).2.2.2) ?_
    refine XS.aloadN X1.here hx rfl (hb hby at_20) rfl rfl ?_
    refine XS.iconst X1.here hx rfl (hb hby at_21) ?_
    refine XS.iloadN X1.here hx rfl (hb hby at_22) rfl ?_
    refine XS.sipush X1.here hx rfl (hb hby at_23) ?_
    show Steps p.tables e below (T1.setTop (mkF m 26 #[.val (.int p1), .val (.int p2), .val (.int p3), .val (.ref b_e1), .val (.int (31 : Int32)), .unset, .unset] [(.int (255 : Int32)), (.int p2), (.int (0 : Int32)), (.ref b_e1)])) _
    refine XS.iand X1.here hx rfl (hb hby at_26) rfl ?_
    refine XS.i2c X1.here hx rfl (hb hby at_27) rfl ?_
    refine st4 _ ?_
    refine XS.aloadN X4.here hx rfl (hb hby at_29) rfl rfl ?_
    refine XS.iload X4.here hx rfl (hb hby at_30) rfl ?_
    refine XS.iconst X4.here hx rfl (hb hby at_32) ?_
    show Steps p.tables e below (T4.setTop (mkF m 33 #[.val (.int p1), .val (.int p2), .val (.int p3), .val (.ref b_e1), .val (.int (31 : Int32)), .unset, .unset] [(.int (1 : Int32)), (.int (31 : Int32)), (.ref b_e1)])) _
    refine XS.isub X4.here hx rfl (hb hby at_33) rfl ?_
    show Steps p.tables e below (T4.setTop (mkF m 34 #[.val (.int p1), .val (.int p2), .val (.int p3), .val (.ref b_e1), .val (.int (31 : Int32)), .unset, .unset] [(.int ((31 : Int32) - (1 : Int32))), (.ref b_e1)])) _
    rw [show (((31 : Int32) - (1 : Int32)) : Int32) = (30 : Int32) from by decide]
    refine XS.iloadN X4.here hx rfl (hb hby at_34) rfl ?_
    refine XS.sipush X4.here hx rfl (hb hby at_35) ?_
    show Steps p.tables e below (T4.setTop (mkF m 38 #[.val (.int p1), .val (.int p2), .val (.int p3), .val (.ref b_e1), .val (.int (31 : Int32)), .unset, .unset] [(.int (255 : Int32)), (.int p3), (.int (30 : Int32)), (.ref b_e1)])) _
    refine XS.iand X4.here hx rfl (hb hby at_38) rfl ?_
    refine XS.i2c X4.here hx rfl (hb hby at_39) rfl ?_
    refine st6 _ ?_
    refine st7 _ ?_
    refine XS.dup X7.here hx rfl (hb hby at_44) rfl rfl ?_
    refine XS.aloadN X7.here hx rfl (hb hby at_45) rfl rfl ?_
    show Steps p.tables e below (T7.setTop (mkF m 46 #[.val (.int p1), .val (.int p2), .val (.int p3), .val (.ref b_e1), .val (.int (31 : Int32)), .unset, .unset] [(.ref b_e1), (.ref b7), (.ref b7)])) _
    refine st11.trans ?_
    refine XS.astore X11.here hx rfl (hb hby at_49) rfl rfl (l' := #[.val (.int p1), .val (.int p2), .val (.int p3), .val (.ref b_e1), .val (.int (31 : Int32)), .val (.ref b7), .unset]) rfl ?_
    refine XS.aload X11.here hx rfl (hb hby at_51) rfl rfl ?_
    refine st14 _ ?_
    refine XS.istore X14.here hx rfl (hb hby at_56) rfl (l' := #[.val (.int p1), .val (.int p2), .val (.int p3), .val (.ref b_e1), .val (.int (31 : Int32)), .val (.ref b7), .val (.int (1 : Int32))]) rfl ?_
    refine XS.aload X14.here hx rfl (hb hby at_58) rfl rfl ?_
    show Steps p.tables e below (T14.setTop (mkF m 60 #[.val (.int p1), .val (.int p2), .val (.int p3), .val (.ref b_e1), .val (.int (31 : Int32)), .val (.ref b7), .val (.int (1 : Int32))] [(.ref b7)])) _
    refine st17.trans ?_
    refine XS.bipush X17.here hx rfl (hb hby at_63) ?_
    show Steps p.tables e below (T17.setTop (mkF m 65 #[.val (.int p1), .val (.int p2), .val (.int p3), .val (.ref b_e1), .val (.int (31 : Int32)), .val (.ref b7), .val (.int (1 : Int32))] [(.int (30 : Int32)), (.int (31 : Int32))])) _
    refine XS.icmpYes X17.here hx rfl (pc0 := 65) (pc' := 79) rfl (hb hby at_65) rfl (flt (show ¬ ((31 : Int32) < (30 : Int32)) from (by decide))).2.1 (by decide) (by decide) ?_
    refine XS.iload X17.here hx rfl (hb hby at_79) rfl ?_
    refine XS.aload X17.here hx rfl (hb hby at_81) rfl rfl ?_
    refine st18 _ ?_
    refine st19.trans ?_
    refine XS.ifNo X19.here hx rfl (hb hby at_89) rfl ((if0 _ _).trans (teq (show (0 : Int32) = (0 : Int32) from rfl)).2) ?_
    show Steps p.tables e below (T19.setTop (mkF m 92 #[.val (.int p1), .val (.int p2), .val (.int p3), .val (.ref b_e1), .val (.int (31 : Int32)), .val (.ref b7), .val (.int (1 : Int32))] [(.int (1 : Int32))])) _
    refine XS.iconst X19.here hx rfl (hb hby at_92) ?_
    refine XS.goto X19.here hx rfl (pc0 := 93) (pc' := 97) rfl (hb hby at_93) (by decide) (by decide) ?_
    refine XS.icmpNo X19.here hx rfl (hb hby at_97) rfl (teq (show (1 : Int32) = (1 : Int32) from rfl)).2 ?_
    refine XS.iconst X19.here hx rfl (hb hby at_100) ?_
    refine XS.goto X19.here hx rfl (pc0 := 101) (pc' := 105) rfl (hb hby at_101) (by decide) (by decide) ?_
    exact retN X19 hx (t := .boolean) Bd.returns (by simp) (hb hby at_105) hr
  · show Qrm0 Z p1 p2 p3 cz sf h0 n0 _ T19.heap _
    rw [e19q]
    exact ⟨rfl, N19⟩
  · show CHr Z consts_1 s.vm s.heap T19.vm T19.heap
    rw [hh, e19q]
    exact CR22h.trans (CHv.at X19 hZ (own_EL hw) CR22h.1)
set_option maxRecDepth 65536 in
set_option maxHeartbeats 40000000 in
theorem law_32 (l : Launch) (Z : State) (a0 : Array Value) (hw : ∀ d ∈ tables_1, d.before a0 Z = true) (ws : List Jvm.Cond) (p1 : Int32) (p2 : Int32) (p3 : Int32) (cz : Int32) (sf : Value) (h0 : Heap) (n0 : Nat) (Z0 : n0 ≤ h0.size) (O_C : Sta Z Z.heap "java/lang/String" "COMPACT_STRINGS" "Z" (.int cz)) (hcz : ¬ (cz = (0 : Int32))) (O_S : Sta Z Z.heap "jdk/internal/util/Preconditions" "SIOOBE_FORMATTER" "Ljava/util/function/BiFunction;" sf) (hsf : sf.isRef = true) (X00 : Old Z n0 h0) (hn : ((p1 &&& (2147483647 : Int32)) - ((p1 &&& (2147483647 : Int32)) / (7 : Int32)) * (7 : Int32)) = (5 : Int32)) :
    MetFree l x (head1 (Jvm.Cond.code x code maxLocals ret :: ws) room_1) (fun aa_ U => aa_ = #[(.int p1), (.int p2), (.int p3)] ∧ Z.Warmed39 U.vm ∧ U.heap = h0 ∧ CHv Z consts_1 U.vm h0) (fun _ _ _ _ _ => True) (fun _ U oo_ U' => ∃ v L, oo_ = .returned v ∧ Qrm0 Z p1 p2 p3 cz sf h0 n0 v U'.heap L ∧ CHr Z consts_1 U.vm U.heap U'.vm U'.heap ∧ ReturnedEndW U oo_ U' L room_1.cells room_1.slots) := by
  refine MetFree.of_bodySF (plainFor_of_name pn_0) hisR ?_
  intro p e s m args below meth c s₁ Bd hml0 hP hK
  obtain ⟨rfl, hZ, hh, hC0⟩ := hP
  have hx := Bd.exec
  have hby := Bd.bytes
  have hml : c.maxLocals = 7 := hml0
  have hown : s.vm.findClass "com/example/coretally/coretally/store/SampleKeyNamesClusterPinLaw" = some m.cls := findClass_of_methodNamed Bd.named
  have hZ : Z.Warmed39 (s.setVm s.vm).vm := hZ
  have hown : (s.setVm s.vm).vm.findClass "com/example/coretally/coretally/store/SampleKeyNamesClusterPinLaw" = some m.cls := hown
  have hS0 : s.Since s.vm s.heap.size := (State.WarmedH.refl s).since _
  have hk0 : s.heap.size ≤ h0.size := Nat.le_of_eq (by rw [hh])
  have CR0 : CHr Z consts_1 s.vm h0 s.vm h0 := CHr.refl hC0
  have hnm := (name_of_methodNamed Bd.named Bd.method).1
  have X0 : Stand p l e room_1 (s.setVm s.vm) m #[(.int p1), (.int p2), (.int p3)] below meth c s₁ [] 0 0 := Stand.of_body Bd
  have e0 : s₁.heap = h0 := by rw [← hh, Bd.state]; rfl
  have N0 := Fr.nil n0
  have pre0 : ∀ tt_, Steps p.tables e below (s₁.setTop (mkF m 0 #[.val (.int p1), .val (.int p2), .val (.int p3), .unset, .unset, .unset, .unset] [])) tt_ → Steps p.tables e below (s₁.setTop (entryFrame m #[(.int p1), (.int p2), (.int p3)] maxLocals)) tt_ := fun tt_ kk_ => castTop (ef_0 m p1 p2 p3) kk_
  obtain ⟨_, _, ⟨T1, L1, k1, n1⟩, -, X1, ⟨Lc1, hQ1, l1, y1, z1⟩, st1⟩ := Jvm.LawKit.callS X0 hx (y := my0) hown (mvT hZ (hwd1 hw)) (mvT hZ (hwd2 hw)) (mvT hZ (hwd3 hw)) (mvT hZ (hwd4 hw)) (by decide) (backOf (W := 0) (mk32 l Z a0 hw []  h0 n0 Z0 ) hZ (hwd4 hw) (hwd3 hw) (by decide) (by decide)) (g := (mkF m 7 #[.val (.int p1), .val (.int p2), .val (.int p3), .unset, .unset, .unset, .unset] [(.int (5 : Int32))])) rfl (by rw [hml]; rfl) (argsL := [(.int (5 : Int32))]) (rest := []) (lenOf pd_13 rfl) rfl (by show 2 * 0 + _ ≤ _; exact Nat.le_of_eq rfl) (hb hby at_7) (fun _ _ => ⟨rfl, e0, (by decide : 0 + 1 ≤ _), (by decide : 0 + 32 ≤ _)⟩)
  dsimp only [Pt.U, Pt.locs, Pt.cells, Pt.slots] at X1 l1 y1 z1 st1 hQ1
  subst l1 y1 z1
  obtain ⟨b_e1, kb_e1, rfl, N1q, K1, p1_1, sz_b_1, g_b_1⟩ := hQ1
  have N1 := Fr.app N0 N1q
  obtain ⟨cl2, Ar2, -, S2, M2, -, -⟩ := id p1_1
  obtain ⟨cl3, Ar3, q3, S3, M3, H3, G3⟩ := id p1_1
  obtain ⟨T4, h4, X4, e4, W4, st4⟩ := stC X1 hx hZ rfl Ar3 (j := (0 : Int32)) (inb_of S3 ⟨by decide, by decide⟩) (g := (mkF m 28 #[.val (.int p1), .val (.int p2), .val (.int p3), .val (.ref b_e1), .val (.int (32 : Int32)), .unset, .unset] [(.int ((p2 &&& (255 : Int32)).toUInt32.toUInt16.toUInt32.toInt32)), (.int (0 : Int32)), (.ref b_e1)])) rfl rfl (hb hby at_28)
  have N4 := Fr.snoc X4 N1 g_b_1
  have Vw4 : Arv Z h4 b_e1 kb_e1 .char (32 : Int32) ((List.replicate 32 (.int (0 : Int32))).set 0 (.int (nar .char ((p2 &&& (255 : Int32)).toUInt32.toUInt16.toUInt32.toInt32)))) (.int (0 : Int32)) := Arv.set Ar3 q3 S3 M3 H3 G3 (fits_nar_char _) W4 0 (by decide) (by simp)
  obtain ⟨cl5, Ar5, q5, S5, M5, H5, G5⟩ := id Vw4
  obtain ⟨T6, h6, X6, e6, W6, st6⟩ := stC X4 hx hZ e4 Ar5 (j := (31 : Int32)) (inb_of S5 ⟨by decide, by decide⟩) (g := (mkF m 40 #[.val (.int p1), .val (.int p2), .val (.int p3), .val (.ref b_e1), .val (.int (32 : Int32)), .unset, .unset] [(.int ((p3 &&& (255 : Int32)).toUInt32.toUInt16.toUInt32.toInt32)), (.int (31 : Int32)), (.ref b_e1)])) rfl rfl (hb hby at_40)
  have N6 := Fr.snoc X6 N4 g_b_1
  have Vw6 : Arv Z h6 b_e1 kb_e1 .char (32 : Int32) (((List.replicate 32 (.int (0 : Int32))).set 0 (.int (nar .char ((p2 &&& (255 : Int32)).toUInt32.toUInt16.toUInt32.toInt32)))).set 31 (.int (nar .char ((p3 &&& (255 : Int32)).toUInt32.toUInt16.toUInt32.toInt32)))) (.int (0 : Int32)) := Arv.set Ar5 q5 S5 M5 H5 G5 (fits_nar_char _) W6 31 (by decide) (by simp)
  obtain ⟨T7, h7, X7, e7, E7, A7, D7, -, st7⟩ := newO X6 hx hZ hown (hwd6 hw) (hwd7 hw) (hwd8 hw) e6 (g := (mkF m 41 #[.val (.int p1), .val (.int p2), .val (.int p3), .val (.ref b_e1), .val (.int (32 : Int32)), .unset, .unset] [])) rfl (hb hby at_41) (by decide) (by decide)
  obtain ⟨b7, g7⟩ : ∃ zz_, zz_ = h6.size := ⟨_, rfl⟩
  rw [← g7] at A7 D7 st7
  have ne_b_e1_b7 : b_e1 ≠ b7 := Nat.ne_of_lt (Nat.lt_of_lt_of_le Vw6.lt (Nat.le_of_eq g7.symm))
  have sz8 : n0 ≤ h6.size := (Nat.le_trans (Nat.le_trans (Nat.le_trans Z0 K1.1) (Keep.of_wr W4).1) (Keep.of_wr W6).1)
  have g_b7 : n0 ≤ b7 := Nat.le_trans sz8 (Nat.le_of_eq g7.symm)
  have kp9 : Keep h0 h6 [] := ((((Keep.refl h0 []).trans K1 all0).wr W4 (Or.inr (Nat.le_trans (Keep.refl h0 []).1 sz_b_1))).wr W6 (Or.inr (Nat.le_trans (Keep.refl h0 []).1 sz_b_1)))
  have sz_b7 : h0.size ≤ b7 := Nat.le_trans kp9.1 (Nat.le_of_eq g7.symm)
  have F_value_b7 : Fld Z h7 b7 "java/lang/String" "value" "[B" .null := D7 (Or.inr (hwd21 hw)) (ty := (.array .byte)) (by decide)
  have F_coder_b7 : Fld Z h7 b7 "java/lang/String" "coder" "B" (.int (0 : Int32)) := D7 (Or.inr (hwd22 hw)) (ty := .byte) (by decide)
  have f10_V_b_e1 := (Vw6.ext E7)
  have old12 : Old Z n0 h7 := ((((X00.keep K1 all0).wr W4 g_b_1).wr W6 g_b_1).ext E7)
  have sz13 : n0 ≤ h7.size := (Nat.le_trans sz8 E7.1)
  have hws : ∀ d ∈ StrChars.Road.words, d.before a0 Z = true := fun d hd => hw d ((by decide +kernel : ∀ d ∈ StrChars.Road.words, d ∈ tables_1) d hd)
  have Vn11 : Arv Z h7 b_e1 kb_e1 .char (32 : Int32) ((own_cs 32 31 p2 p3).map Value.int) (.int (0 : Int32)) := by rw [own_csmap]; exact f10_V_b_e1
  obtain ⟨_, _, ⟨T11, L11, k11, n11⟩, -, X11, ⟨Lc11, hQ11, l11, y11, z11⟩, st11⟩ := X7.specialBack hx (y := my2) rfl hown (mvT hZ (hwd9 hw)) (mvT hZ (hwd10 hw)) (mvT hZ (hwd11 hw)) (by decide) (StrChars.Road.backV (W := 1) hZ hws (kI := 4) (hwd7 hw) (cs := (own_cs 32 31 p2 p3)) (bs := (own_cs 32 31 p2 p3).map (fun c => c.toInt8.toInt32)) (n := 32) g_b7 sz13 A7 F_value_b7 F_coder_b7 Vn11 (O_C.ext old12.2) hcz (own_cslen _ _ _ _) rfl (by decide) (by decide) (own_cslat _ _ _ _) rfl (by decide) (by decide)) (g := (mkF m 46 #[.val (.int p1), .val (.int p2), .val (.int p3), .val (.ref b_e1), .val (.int (32 : Int32)), .unset, .unset] [(.ref b_e1), (.ref b7), (.ref b7)])) rfl (by rw [hml]; rfl) (Steps.refl _) (a := b7) (argsL := [(.ref b_e1)]) (rest := [(.ref b7)]) (lenOf pd_14 rfl) rfl (by show 2 * 0 + _ ≤ _; exact Nat.le_of_eq rfl) (hb hby at_46) (fun _ _ => ⟨rfl, e7, (by decide : 2 + 1 ≤ _), (by decide : 36 + 32 ≤ _)⟩)
  dsimp only [Pt.U, Pt.locs, Pt.cells, Pt.slots] at X11 l11 y11 z11 st11 hQ11
  subst l11 y11 z11
  obtain ⟨rfl, N11q, K11, E11s, C11s, t11, kb11, gt11, st11s, nt11, V11s, B11s⟩ := hQ11
  have N11 := Fr.app N6 N11q
  have old15 : Old Z n0 T11.heap := (old12.keep K11 (allS g_b7 all0))
  have sz16 : n0 ≤ T11.heap.size := (Nat.le_trans sz13 K11.1)
  obtain ⟨_, _, ⟨T14, L14, k14, n14⟩, -, X14, ⟨Lc14, hQ14, l14, y14, z14⟩, st14⟩ := Jvm.LawKit.callS X11 hx (y := my6) hown (mvT hZ (hwd27 hw)) (mvT hZ (hwd28 hw)) (mvT hZ (hwd29 hw)) (mvT hZ (hwd30 hw)) (by decide) (backOf (W := 0) (nc32 l Z a0 hw [] b7 t11 kb11 (((own_cs 32 31 p2 p3).map (fun c => c.toInt8.toInt32)).map Value.int) cz (T11.heap) n0 sz16 E11s V11s C11s B11s O_C hcz old15) hZ (hwd30 hw) (hwd29 hw) (by decide) (by decide)) (g := (mkF m 53 #[.val (.int p1), .val (.int p2), .val (.int p3), .val (.ref b_e1), .val (.int (32 : Int32)), .val (.ref b7), .unset] [(.ref b7)])) rfl (by rw [hml]; rfl) (argsL := [(.ref b7)]) (rest := []) (lenOf pd_15 rfl) rfl (by show 2 * 0 + _ ≤ _; exact Nat.le_of_eq rfl) (hb hby at_53) (fun _ _ => ⟨rfl, rfl, (by decide : 3 + 0 ≤ _), (by decide : 68 + 0 ≤ _)⟩)
  dsimp only [Pt.U, Pt.locs, Pt.cells, Pt.slots] at X14 l14 y14 z14 st14 hQ14
  subst l14 y14 z14
  obtain ⟨rfl, N14q, e14q⟩ := hQ14
  have N14 := Fr.app N11 N14q
  obtain ⟨cq17, kq17, q17a, q17b, q17c⟩ := isOf hZ e14q E11s
  obtain ⟨_, _, ⟨T17, L17, k17, n17⟩, -, X17, ⟨Lc17, hQ17, l17, y17, z17⟩, st17⟩ := X14.virtualBack hx (y := my5) (z := my5) hown (mvT hZ (hwd42 hw)) (mvT hZ (hwd32 hw)) (notFace_of_selects (args := #[]) (mvT hZ (hwd34 hw))) (mvT hZ (hwd34 hw)) (mvT hZ (hwd33 hw)) (by decide) (backOf (W := 0) (sle32 l Z a0 hw [] b7 t11 kb11 (((own_cs 32 31 p2 p3).map (fun c => c.toInt8.toInt32)).map Value.int) cz (T11.heap) n0 sz16 E11s V11s C11s B11s O_C hcz old15) hZ (hwd35 hw) (hwd8 hw) (by decide) (by decide)) q17a q17c (g := (mkF m 60 #[.val (.int p1), .val (.int p2), .val (.int p3), .val (.ref b_e1), .val (.int (32 : Int32)), .val (.ref b7), .val (.int (1 : Int32))] [(.ref b7)])) rfl (by rw [hml]; rfl) (Steps.refl _) (argsL := []) (rest := []) (lenOf pd_2 rfl) rfl (by show 2 * 0 + _ ≤ _; exact Nat.le_of_eq rfl) (hb hby at_60) (fun _ _ => ⟨rfl, e14q, (by decide : 3 + 0 ≤ _), (by decide : 68 + 0 ≤ _)⟩)
  dsimp only [Pt.U, Pt.locs, Pt.cells, Pt.slots] at X17 l17 y17 z17 st17 hQ17
  subst l17 y17 z17
  obtain ⟨rfl, N17q, e17q⟩ := hQ17
  have N17 := Fr.app N14 N17q
  obtain ⟨_, _, ⟨T18, L18, k18, n18⟩, -, X18, ⟨Lc18, hQ18, l18, y18, z18⟩, st18⟩ := Jvm.LawKit.callS X17 hx (y := my14) hown (mvT hZ (hwd53 hw)) (mvT hZ (hwd54 hw)) (mvT hZ (hwd29 hw)) (mvT hZ (hwd55 hw)) (by decide) (backOf (W := 1) (clu32 l Z a0 hw [] b7 t11 kb11 (((own_cs 32 31 p2 p3).map (fun c => c.toInt8.toInt32)).map Value.int) cz sf (T11.heap) n0 sz16 E11s V11s C11s B11s O_C hcz old15 O_S hsf) hZ (hwd55 hw) (hwd29 hw) (by decide) (by decide)) (g := (mkF m 83 #[.val (.int p1), .val (.int p2), .val (.int p3), .val (.ref b_e1), .val (.int (32 : Int32)), .val (.ref b7), .val (.int (1 : Int32))] [(.ref b7), (.int (1 : Int32))])) rfl (by rw [hml]; rfl) (argsL := [(.ref b7)]) (rest := [(.int (1 : Int32))]) (lenOf pd_16 rfl) rfl (by show 2 * 0 + _ ≤ _; exact Nat.le_of_eq rfl) (hb hby at_83) (fun _ _ => ⟨rfl, e17q, (by decide : 3 + 2 ≤ _), (by decide : 68 + 6 ≤ _)⟩)
  dsimp only [Pt.U, Pt.locs, Pt.cells, Pt.slots] at X18 l18 y18 z18 st18 hQ18
  subst l18 y18 z18
  obtain ⟨s2_e18, b2_e18, kb2_e18, v2_e18, rfl, N18q, K18, p18_1, p18_2, p18_3, p18_4⟩ := hQ18
  have N18 := Fr.app N17 N18q
  have sz20 : n0 ≤ T18.heap.size := (Nat.le_trans sz16 K18.1)
  obtain ⟨cq19, kq19, q19a, q19b, q19c⟩ := isOf hZ rfl p18_1
  obtain ⟨_, _, ⟨T19, L19, k19, n19⟩, -, X19, ⟨Lc19, hQ19, l19, y19, z19⟩, st19⟩ := X18.virtualBack hx (y := my7) (z := my7) hown (mvT hZ (hwd85 hw)) (mvT hZ (hwd86 hw)) (notFace_of_selects (args := #[]) (mvT hZ (hwd88 hw))) (mvT hZ (hwd88 hw)) (mvT hZ (hwd87 hw)) (by decide) (backOf (W := 1) (sem2 l Z a0 hw [] s2_e18 b2_e18 kb2_e18 v2_e18 (T18.heap) n0 sz20 p18_2 p18_4) hZ (hwd89 hw) (hwd8 hw) (by decide) (by decide)) q19a q19c (g := (mkF m 86 #[.val (.int p1), .val (.int p2), .val (.int p3), .val (.ref b_e1), .val (.int (32 : Int32)), .val (.ref b7), .val (.int (1 : Int32))] [(.ref s2_e18), (.int (1 : Int32))])) rfl (by rw [hml]; rfl) (Steps.refl _) (argsL := []) (rest := [(.int (1 : Int32))]) (lenOf pd_5 rfl) rfl (by show 2 * 0 + _ ≤ _; exact Nat.le_of_eq rfl) (hb hby at_86) (fun _ _ => ⟨rfl, rfl, (by decide : 5 + 0 ≤ _), (by decide : 74 + 0 ≤ _)⟩)
  dsimp only [Pt.U, Pt.locs, Pt.cells, Pt.slots] at X19 l19 y19 z19 st19 hQ19
  subst l19 y19 z19
  obtain ⟨rfl, N19q, e19q⟩ := hQ19
  have N19 := Fr.app N18 N19q
  have kp21 : Keep h0 T18.heap [] := (((kp9.ext E7).trans K11 (allS (Or.inr sz_b7) all0)).trans K18 all0)
  have CR22h : CHr Z consts_1 s.vm h0 s.vm T18.heap := CR0.trans (CHr.keep kp21 sf0 CR0.1)
  have hk23 : _ ≤ T18.heap.size := (Nat.le_trans (Nat.le_trans (Nat.le_trans (Nat.le_trans (Nat.le_trans (Nat.le_trans hk0 K1.1) (Keep.of_wr W4).1) (Keep.of_wr W6).1) E7.1) K11.1) K18.1)
  have hkE := Nat.le_trans hk23 (Nat.le_of_eq (congrArg Array.size (show T18.heap = T19.heap from Eq.symm e19q)))
  obtain ⟨fs, hr, hrun, hended, hRE⟩ := X19.leaveW hS0 hkE (v := some (.int (1 : Int32))) (fun h => by rw [Bd.returns] at h; cases h)
  refine ⟨_, _, pre0 _ ?_, hrun, hended, _, _, rfl, ?_, ?_, hRE.1, hRE.2.1, hRE.2.2.1, hRE.2.2.2.mono (by decide) (by decide)⟩
  · show Steps p.tables e below (s₁.setTop (mkF m 0 #[.val (.int p1), .val (.int p2), .val (.int p3), .unset, .unset, .unset, .unset] [])) _
    refine XS.iloadN X0.here hx rfl (hb hby at_0) rfl ?_
    refine X0.ldcInt hx hown (mvT hZ (hwd0 hw)) (g := (mkF m 1 #[.val (.int p1), .val (.int p2), .val (.int p3), .unset, .unset, .unset, .unset] [(.int p1)])) rfl (hb hby at_1) _ ?_
    refine XS.iand X0.here hx rfl (hb hby at_3) rfl ?_
    refine XS.bipush X0.here hx rfl (hb hby at_4) ?_
    show Steps p.tables e below (s₁.setTop (mkF m 6 #[.val (.int p1), .val (.int p2), .val (.int p3), .unset, .unset, .unset, .unset] [(.int (7 : Int32)), (.int (p1 &&& (2147483647 : Int32)))])) _
    refine XS.irem X0.here hx rfl (hb hby at_6) rfl (by decide) ?_
    show Steps p.tables e below (s₁.setTop (mkF m 7 #[.val (.int p1), .val (.int p2), .val (.int p3), .unset, .unset, .unset, .unset] [(.int ((p1 &&& (2147483647 : Int32)) - ((p1 &&& (2147483647 : Int32)) / (7 : Int32)) * (7 : Int32)))])) _
    rw [hn]
    refine st1 _ ?_
    refine XS.astoreN X1.here hx rfl (hb hby at_10) rfl rfl (l' := #[.val (.int p1), .val (.int p2), .val (.int p3), .val (.ref b_e1), .unset, .unset, .unset]) rfl ?_
    refine XS.aloadN X1.here hx rfl (hb hby at_11) rfl rfl ?_
    refine X1.arraylength hx (by exact Ar2.1) (State.isArrayOf_alike hZ.alike Ar2.2.1) (g := (mkF m 12 #[.val (.int p1), .val (.int p2), .val (.int p3), .val (.ref b_e1), .unset, .unset, .unset] [(.ref b_e1)])) rfl rfl (hb hby at_12) _ ?_
    rw [len_of S2 M2]
    refine XS.istore X1.here hx rfl (hb hby at_13) rfl (l' := #[.val (.int p1), .val (.int p2), .val (.int p3), .val (.ref b_e1), .val (.int (32 : Int32)), .unset, .unset]) rfl ?_
    show Steps p.tables e below (T1.setTop (mkF m 15 #[.val (.int p1), .val (.int p2), .val (.int p3), .val (.ref b_e1), .val (.int (32 : Int32)), .unset, .unset] [])) _
    refine XS.iload X1.here hx rfl (hb hby at_15) rfl ?_
    refine XS.ifNo X1.here hx rfl (hb hby at_17) rfl ((if0 _ _).trans (tlt (show (0 : Int32) < (32 : Int32) from (by decide))).2.2.2) ?_
    refine XS.aloadN X1.here hx rfl (hb hby at_20) rfl rfl ?_
    refine XS.iconst X1.here hx rfl (hb hby at_21) ?_
    refine XS.iloadN X1.here hx rfl (hb hby at_22) rfl ?_
    refine XS.sipush X1.here hx rfl (hb hby at_23) ?_
    show Steps p.tables e below (T1.setTop (mkF m 26 #[.val (.int p1), .val (.int p2), .val (.int p3), .val (.ref b_e1), .val (.int (32 : Int32)), .unset, .unset] [(.int (255 : Int32)), (.int p2), (.int (0 : Int32)), (.ref b_e1)])) _
    refine XS.iand X1.here hx rfl (hb hby at_26) rfl ?_
    refine XS.i2c X1.here hx rfl (hb hby at_27) rfl ?_
    refine st4 _ ?_
    refine XS.aloadN X4.here hx rfl (hb hby at_29) rfl rfl ?_
    refine XS.iload X4.here hx rfl (hb hby at_30) rfl ?_
    refine XS.iconst X4.here hx rfl (hb hby at_32) ?_
    show Steps p.tables e below (T4.setTop (mkF m 33 #[.val (.int p1), .val (.int p2), .val (.int p3), .val (.ref b_e1), .val (.int (32 : Int32)), .unset, .unset] [(.int (1 : Int32)), (.int (32 : Int32)), (.ref b_e1)])) _
    refine XS.isub X4.here hx rfl (hb hby at_33) rfl ?_
    show Steps p.tables e below (T4.setTop (mkF m 34 #[.val (.int p1), .val (.int p2), .val (.int p3), .val (.ref b_e1), .val (.int (32 : Int32)), .unset, .unset] [(.int ((32 : Int32) - (1 : Int32))), (.ref b_e1)])) _
    rw [show (((32 : Int32) - (1 : Int32)) : Int32) = (31 : Int32) from by decide]
    refine XS.iloadN X4.here hx rfl (hb hby at_34) rfl ?_
    refine XS.sipush X4.here hx rfl (hb hby at_35) ?_
    show Steps p.tables e below (T4.setTop (mkF m 38 #[.val (.int p1), .val (.int p2), .val (.int p3), .val (.ref b_e1), .val (.int (32 : Int32)), .unset, .unset] [(.int (255 : Int32)), (.int p3), (.int (31 : Int32)), (.ref b_e1)])) _
    refine XS.iand X4.here hx rfl (hb hby at_38) rfl ?_
    refine XS.i2c X4.here hx rfl (hb hby at_39) rfl ?_
    refine st6 _ ?_
    refine st7 _ ?_
    refine XS.dup X7.here hx rfl (hb hby at_44) rfl rfl ?_
    refine XS.aloadN X7.here hx rfl (hb hby at_45) rfl rfl ?_
    show Steps p.tables e below (T7.setTop (mkF m 46 #[.val (.int p1), .val (.int p2), .val (.int p3), .val (.ref b_e1), .val (.int (32 : Int32)), .unset, .unset] [(.ref b_e1), (.ref b7), (.ref b7)])) _
    refine st11.trans ?_
    refine XS.astore X11.here hx rfl (hb hby at_49) rfl rfl (l' := #[.val (.int p1), .val (.int p2), .val (.int p3), .val (.ref b_e1), .val (.int (32 : Int32)), .val (.ref b7), .unset]) rfl ?_
    refine XS.aload X11.here hx rfl (hb hby at_51) rfl rfl ?_
    refine st14 _ ?_
    refine XS.istore X14.here hx rfl (hb hby at_56) rfl (l' := #[.val (.int p1), .val (.int p2), .val (.int p3), .val (.ref b_e1), .val (.int (32 : Int32)), .val (.ref b7), .val (.int (1 : Int32))]) rfl ?_
    refine XS.aload X14.here hx rfl (hb hby at_58) rfl rfl ?_
    show Steps p.tables e below (T14.setTop (mkF m 60 #[.val (.int p1), .val (.int p2), .val (.int p3), .val (.ref b_e1), .val (.int (32 : Int32)), .val (.ref b7), .val (.int (1 : Int32))] [(.ref b7)])) _
    refine st17.trans ?_
    refine XS.bipush X17.here hx rfl (hb hby at_63) ?_
    show Steps p.tables e below (T17.setTop (mkF m 65 #[.val (.int p1), .val (.int p2), .val (.int p3), .val (.ref b_e1), .val (.int (32 : Int32)), .val (.ref b7), .val (.int (1 : Int32))] [(.int (30 : Int32)), (.int (32 : Int32))])) _
    refine XS.icmpYes X17.here hx rfl (pc0 := 65) (pc' := 79) rfl (hb hby at_65) rfl (flt (show ¬ ((32 : Int32) < (30 : Int32)) from (by decide))).2.1 (by decide) (by decide) ?_
    refine XS.iload X17.here hx rfl (hb hby at_79) rfl ?_
    refine XS.aload X17.here hx rfl (hb hby at_81) rfl rfl ?_
    refine st18 _ ?_
    refine st19.trans ?_
    refine XS.ifNo X19.here hx rfl (hb hby at_89) rfl ((if0 _ _).trans (teq (show (0 : Int32) = (0 : Int32) from rfl)).2) ?_
    show Steps p.tables e below (T19.setTop (mkF m 92 #[.val (.int p1), .val (.int p2), .val (.int p3), .val (.ref b_e1), .val (.int (32 : Int32)), .val (.ref b7), .val (.int (1 : Int32))] [(.int (1 : Int32))])) _
    refine XS.iconst X19.here hx rfl (hb hby at_92) ?_
    refine XS.goto X19.here hx rfl (pc0 := 93) (pc' := 97) rfl (hb hby at_93) (by decide) (by decide) ?_
    refine XS.icmpNo X19.here hx rfl (hb hby at_97) rfl (teq (show (1 : Int32) = (1 : Int32) from rfl)).2 ?_
    refine XS.iconst X19.here hx rfl (hb hby at_100) ?_
    refine XS.goto X19.here hx rfl (pc0 := 101) (pc' := 105) rfl (hb hby at_101) (by decide) (by decide) ?_
    exact retN X19 hx (t := .boolean) Bd.returns (by simp) (hb hby at_105) hr
  · show Qrm0 Z p1 p2 p3 cz sf h0 n0 _ T19.heap _
    rw [e19q]
    exact ⟨rfl, N19⟩
  · show CHr Z consts_1 s.vm s.heap T19.vm T19.heap
    rw [hh, e19q]
    exact CR22h.trans (CHv.at X19 hZ (own_EL hw) CR22h.1)
set_option maxRecDepth 65536 in
set_option maxHeartbeats 40000000 in
theorem law_60 (l : Launch) (Z : State) (a0 : Array Value) (hw : ∀ d ∈ tables_1, d.before a0 Z = true) (ws : List Jvm.Cond) (p1 : Int32) (p2 : Int32) (p3 : Int32) (cz : Int32) (sf : Value) (h0 : Heap) (n0 : Nat) (Z0 : n0 ≤ h0.size) (O_C : Sta Z Z.heap "java/lang/String" "COMPACT_STRINGS" "Z" (.int cz)) (hcz : ¬ (cz = (0 : Int32))) (O_S : Sta Z Z.heap "jdk/internal/util/Preconditions" "SIOOBE_FORMATTER" "Ljava/util/function/BiFunction;" sf) (hsf : sf.isRef = true) (X00 : Old Z n0 h0) (hn : ((p1 &&& (2147483647 : Int32)) - ((p1 &&& (2147483647 : Int32)) / (7 : Int32)) * (7 : Int32)) = (6 : Int32)) :
    MetFree l x (head1 (Jvm.Cond.code x code maxLocals ret :: ws) room_1) (fun aa_ U => aa_ = #[(.int p1), (.int p2), (.int p3)] ∧ Z.Warmed39 U.vm ∧ U.heap = h0 ∧ CHv Z consts_1 U.vm h0) (fun _ _ _ _ _ => True) (fun _ U oo_ U' => ∃ v L, oo_ = .returned v ∧ Qrm0 Z p1 p2 p3 cz sf h0 n0 v U'.heap L ∧ CHr Z consts_1 U.vm U.heap U'.vm U'.heap ∧ ReturnedEndW U oo_ U' L room_1.cells room_1.slots) := by
  refine MetFree.of_bodySF (plainFor_of_name pn_0) hisR ?_
  intro p e s m args below meth c s₁ Bd hml0 hP hK
  obtain ⟨rfl, hZ, hh, hC0⟩ := hP
  have hx := Bd.exec
  have hby := Bd.bytes
  have hml : c.maxLocals = 7 := hml0
  have hown : s.vm.findClass "com/example/coretally/coretally/store/SampleKeyNamesClusterPinLaw" = some m.cls := findClass_of_methodNamed Bd.named
  have hZ : Z.Warmed39 (s.setVm s.vm).vm := hZ
  have hown : (s.setVm s.vm).vm.findClass "com/example/coretally/coretally/store/SampleKeyNamesClusterPinLaw" = some m.cls := hown
  have hS0 : s.Since s.vm s.heap.size := (State.WarmedH.refl s).since _
  have hk0 : s.heap.size ≤ h0.size := Nat.le_of_eq (by rw [hh])
  have CR0 : CHr Z consts_1 s.vm h0 s.vm h0 := CHr.refl hC0
  have hnm := (name_of_methodNamed Bd.named Bd.method).1
  have X0 : Stand p l e room_1 (s.setVm s.vm) m #[(.int p1), (.int p2), (.int p3)] below meth c s₁ [] 0 0 := Stand.of_body Bd
  have e0 : s₁.heap = h0 := by rw [← hh, Bd.state]; rfl
  have N0 := Fr.nil n0
  have pre0 : ∀ tt_, Steps p.tables e below (s₁.setTop (mkF m 0 #[.val (.int p1), .val (.int p2), .val (.int p3), .unset, .unset, .unset, .unset] [])) tt_ → Steps p.tables e below (s₁.setTop (entryFrame m #[(.int p1), (.int p2), (.int p3)] maxLocals)) tt_ := fun tt_ kk_ => castTop (ef_0 m p1 p2 p3) kk_
  obtain ⟨_, _, ⟨T1, L1, k1, n1⟩, -, X1, ⟨Lc1, hQ1, l1, y1, z1⟩, st1⟩ := Jvm.LawKit.callS X0 hx (y := my0) hown (mvT hZ (hwd1 hw)) (mvT hZ (hwd2 hw)) (mvT hZ (hwd3 hw)) (mvT hZ (hwd4 hw)) (by decide) (backOf (W := 0) (mk60 l Z a0 hw []  h0 n0 Z0 ) hZ (hwd4 hw) (hwd3 hw) (by decide) (by decide)) (g := (mkF m 7 #[.val (.int p1), .val (.int p2), .val (.int p3), .unset, .unset, .unset, .unset] [(.int (6 : Int32))])) rfl (by rw [hml]; rfl) (argsL := [(.int (6 : Int32))]) (rest := []) (lenOf pd_13 rfl) rfl (by show 2 * 0 + _ ≤ _; exact Nat.le_of_eq rfl) (hb hby at_7) (fun _ _ => ⟨rfl, e0, (by decide : 0 + 1 ≤ _), (by decide : 0 + 60 ≤ _)⟩)
  dsimp only [Pt.U, Pt.locs, Pt.cells, Pt.slots] at X1 l1 y1 z1 st1 hQ1
  subst l1 y1 z1
  obtain ⟨b_e1, kb_e1, rfl, N1q, K1, p1_1, sz_b_1, g_b_1⟩ := hQ1
  have N1 := Fr.app N0 N1q
  obtain ⟨cl2, Ar2, -, S2, M2, -, -⟩ := id p1_1
  obtain ⟨cl3, Ar3, q3, S3, M3, H3, G3⟩ := id p1_1
  obtain ⟨T4, h4, X4, e4, W4, st4⟩ := stC X1 hx hZ rfl Ar3 (j := (0 : Int32)) (inb_of S3 ⟨by decide, by decide⟩) (g := (mkF m 28 #[.val (.int p1), .val (.int p2), .val (.int p3), .val (.ref b_e1), .val (.int (60 : Int32)), .unset, .unset] [(.int ((p2 &&& (255 : Int32)).toUInt32.toUInt16.toUInt32.toInt32)), (.int (0 : Int32)), (.ref b_e1)])) rfl rfl (hb hby at_28)
  have N4 := Fr.snoc X4 N1 g_b_1
  have Vw4 : Arv Z h4 b_e1 kb_e1 .char (60 : Int32) ((List.replicate 60 (.int (0 : Int32))).set 0 (.int (nar .char ((p2 &&& (255 : Int32)).toUInt32.toUInt16.toUInt32.toInt32)))) (.int (0 : Int32)) := Arv.set Ar3 q3 S3 M3 H3 G3 (fits_nar_char _) W4 0 (by decide) (by simp)
  obtain ⟨cl5, Ar5, q5, S5, M5, H5, G5⟩ := id Vw4
  obtain ⟨T6, h6, X6, e6, W6, st6⟩ := stC X4 hx hZ e4 Ar5 (j := (59 : Int32)) (inb_of S5 ⟨by decide, by decide⟩) (g := (mkF m 40 #[.val (.int p1), .val (.int p2), .val (.int p3), .val (.ref b_e1), .val (.int (60 : Int32)), .unset, .unset] [(.int ((p3 &&& (255 : Int32)).toUInt32.toUInt16.toUInt32.toInt32)), (.int (59 : Int32)), (.ref b_e1)])) rfl rfl (hb hby at_40)
  have N6 := Fr.snoc X6 N4 g_b_1
  have Vw6 : Arv Z h6 b_e1 kb_e1 .char (60 : Int32) (((List.replicate 60 (.int (0 : Int32))).set 0 (.int (nar .char ((p2 &&& (255 : Int32)).toUInt32.toUInt16.toUInt32.toInt32)))).set 59 (.int (nar .char ((p3 &&& (255 : Int32)).toUInt32.toUInt16.toUInt32.toInt32)))) (.int (0 : Int32)) := Arv.set Ar5 q5 S5 M5 H5 G5 (fits_nar_char _) W6 59 (by decide) (by simp)
  obtain ⟨T7, h7, X7, e7, E7, A7, D7, -, st7⟩ := newO X6 hx hZ hown (hwd6 hw) (hwd7 hw) (hwd8 hw) e6 (g := (mkF m 41 #[.val (.int p1), .val (.int p2), .val (.int p3), .val (.ref b_e1), .val (.int (60 : Int32)), .unset, .unset] [])) rfl (hb hby at_41) (by decide) (by decide)
  obtain ⟨b7, g7⟩ : ∃ zz_, zz_ = h6.size := ⟨_, rfl⟩
  rw [← g7] at A7 D7 st7
  have ne_b_e1_b7 : b_e1 ≠ b7 := Nat.ne_of_lt (Nat.lt_of_lt_of_le Vw6.lt (Nat.le_of_eq g7.symm))
  have sz8 : n0 ≤ h6.size := (Nat.le_trans (Nat.le_trans (Nat.le_trans Z0 K1.1) (Keep.of_wr W4).1) (Keep.of_wr W6).1)
  have g_b7 : n0 ≤ b7 := Nat.le_trans sz8 (Nat.le_of_eq g7.symm)
  have kp9 : Keep h0 h6 [] := ((((Keep.refl h0 []).trans K1 all0).wr W4 (Or.inr (Nat.le_trans (Keep.refl h0 []).1 sz_b_1))).wr W6 (Or.inr (Nat.le_trans (Keep.refl h0 []).1 sz_b_1)))
  have sz_b7 : h0.size ≤ b7 := Nat.le_trans kp9.1 (Nat.le_of_eq g7.symm)
  have F_value_b7 : Fld Z h7 b7 "java/lang/String" "value" "[B" .null := D7 (Or.inr (hwd21 hw)) (ty := (.array .byte)) (by decide)
  have F_coder_b7 : Fld Z h7 b7 "java/lang/String" "coder" "B" (.int (0 : Int32)) := D7 (Or.inr (hwd22 hw)) (ty := .byte) (by decide)
  have f10_V_b_e1 := (Vw6.ext E7)
  have old12 : Old Z n0 h7 := ((((X00.keep K1 all0).wr W4 g_b_1).wr W6 g_b_1).ext E7)
  have sz13 : n0 ≤ h7.size := (Nat.le_trans sz8 E7.1)
  have hws : ∀ d ∈ StrChars.Road.words, d.before a0 Z = true := fun d hd => hw d ((by decide +kernel : ∀ d ∈ StrChars.Road.words, d ∈ tables_1) d hd)
  have Vn11 : Arv Z h7 b_e1 kb_e1 .char (60 : Int32) ((own_cs 60 59 p2 p3).map Value.int) (.int (0 : Int32)) := by rw [own_csmap]; exact f10_V_b_e1
  obtain ⟨_, _, ⟨T11, L11, k11, n11⟩, -, X11, ⟨Lc11, hQ11, l11, y11, z11⟩, st11⟩ := X7.specialBack hx (y := my2) rfl hown (mvT hZ (hwd9 hw)) (mvT hZ (hwd10 hw)) (mvT hZ (hwd11 hw)) (by decide) (StrChars.Road.backV (W := 1) hZ hws (kI := 4) (hwd7 hw) (cs := (own_cs 60 59 p2 p3)) (bs := (own_cs 60 59 p2 p3).map (fun c => c.toInt8.toInt32)) (n := 60) g_b7 sz13 A7 F_value_b7 F_coder_b7 Vn11 (O_C.ext old12.2) hcz (own_cslen _ _ _ _) rfl (by decide) (by decide) (own_cslat _ _ _ _) rfl (by decide) (by decide)) (g := (mkF m 46 #[.val (.int p1), .val (.int p2), .val (.int p3), .val (.ref b_e1), .val (.int (60 : Int32)), .unset, .unset] [(.ref b_e1), (.ref b7), (.ref b7)])) rfl (by rw [hml]; rfl) (Steps.refl _) (a := b7) (argsL := [(.ref b_e1)]) (rest := [(.ref b7)]) (lenOf pd_14 rfl) rfl (by show 2 * 0 + _ ≤ _; exact Nat.le_of_eq rfl) (hb hby at_46) (fun _ _ => ⟨rfl, e7, (by decide : 2 + 1 ≤ _), (by decide : 64 + 60 ≤ _)⟩)
  dsimp only [Pt.U, Pt.locs, Pt.cells, Pt.slots] at X11 l11 y11 z11 st11 hQ11
  subst l11 y11 z11
  obtain ⟨rfl, N11q, K11, E11s, C11s, t11, kb11, gt11, st11s, nt11, V11s, B11s⟩ := hQ11
  have N11 := Fr.app N6 N11q
  have old15 : Old Z n0 T11.heap := (old12.keep K11 (allS g_b7 all0))
  have sz16 : n0 ≤ T11.heap.size := (Nat.le_trans sz13 K11.1)
  obtain ⟨_, _, ⟨T14, L14, k14, n14⟩, -, X14, ⟨Lc14, hQ14, l14, y14, z14⟩, st14⟩ := Jvm.LawKit.callS X11 hx (y := my6) hown (mvT hZ (hwd27 hw)) (mvT hZ (hwd28 hw)) (mvT hZ (hwd29 hw)) (mvT hZ (hwd30 hw)) (by decide) (backOf (W := 0) (nc60 l Z a0 hw [] b7 t11 kb11 (((own_cs 60 59 p2 p3).map (fun c => c.toInt8.toInt32)).map Value.int) cz (T11.heap) n0 sz16 E11s V11s C11s B11s O_C hcz old15) hZ (hwd30 hw) (hwd29 hw) (by decide) (by decide)) (g := (mkF m 53 #[.val (.int p1), .val (.int p2), .val (.int p3), .val (.ref b_e1), .val (.int (60 : Int32)), .val (.ref b7), .unset] [(.ref b7)])) rfl (by rw [hml]; rfl) (argsL := [(.ref b7)]) (rest := []) (lenOf pd_15 rfl) rfl (by show 2 * 0 + _ ≤ _; exact Nat.le_of_eq rfl) (hb hby at_53) (fun _ _ => ⟨rfl, rfl, (by decide : 3 + 0 ≤ _), (by decide : 124 + 0 ≤ _)⟩)
  dsimp only [Pt.U, Pt.locs, Pt.cells, Pt.slots] at X14 l14 y14 z14 st14 hQ14
  subst l14 y14 z14
  obtain ⟨rfl, N14q, e14q⟩ := hQ14
  have N14 := Fr.app N11 N14q
  obtain ⟨cq17, kq17, q17a, q17b, q17c⟩ := isOf hZ e14q E11s
  obtain ⟨_, _, ⟨T17, L17, k17, n17⟩, -, X17, ⟨Lc17, hQ17, l17, y17, z17⟩, st17⟩ := X14.virtualBack hx (y := my5) (z := my5) hown (mvT hZ (hwd42 hw)) (mvT hZ (hwd32 hw)) (notFace_of_selects (args := #[]) (mvT hZ (hwd34 hw))) (mvT hZ (hwd34 hw)) (mvT hZ (hwd33 hw)) (by decide) (backOf (W := 0) (sle60 l Z a0 hw [] b7 t11 kb11 (((own_cs 60 59 p2 p3).map (fun c => c.toInt8.toInt32)).map Value.int) cz (T11.heap) n0 sz16 E11s V11s C11s B11s O_C hcz old15) hZ (hwd35 hw) (hwd8 hw) (by decide) (by decide)) q17a q17c (g := (mkF m 60 #[.val (.int p1), .val (.int p2), .val (.int p3), .val (.ref b_e1), .val (.int (60 : Int32)), .val (.ref b7), .val (.int (1 : Int32))] [(.ref b7)])) rfl (by rw [hml]; rfl) (Steps.refl _) (argsL := []) (rest := []) (lenOf pd_2 rfl) rfl (by show 2 * 0 + _ ≤ _; exact Nat.le_of_eq rfl) (hb hby at_60) (fun _ _ => ⟨rfl, e14q, (by decide : 3 + 0 ≤ _), (by decide : 124 + 0 ≤ _)⟩)
  dsimp only [Pt.U, Pt.locs, Pt.cells, Pt.slots] at X17 l17 y17 z17 st17 hQ17
  subst l17 y17 z17
  obtain ⟨rfl, N17q, e17q⟩ := hQ17
  have N17 := Fr.app N14 N17q
  obtain ⟨_, _, ⟨T18, L18, k18, n18⟩, -, X18, ⟨Lc18, hQ18, l18, y18, z18⟩, st18⟩ := Jvm.LawKit.callS X17 hx (y := my14) hown (mvT hZ (hwd53 hw)) (mvT hZ (hwd54 hw)) (mvT hZ (hwd29 hw)) (mvT hZ (hwd55 hw)) (by decide) (backOf (W := 1) (clu60 l Z a0 hw [] b7 t11 kb11 (((own_cs 60 59 p2 p3).map (fun c => c.toInt8.toInt32)).map Value.int) cz sf (T11.heap) n0 sz16 E11s V11s C11s B11s O_C hcz old15 O_S hsf) hZ (hwd55 hw) (hwd29 hw) (by decide) (by decide)) (g := (mkF m 83 #[.val (.int p1), .val (.int p2), .val (.int p3), .val (.ref b_e1), .val (.int (60 : Int32)), .val (.ref b7), .val (.int (1 : Int32))] [(.ref b7), (.int (1 : Int32))])) rfl (by rw [hml]; rfl) (argsL := [(.ref b7)]) (rest := [(.int (1 : Int32))]) (lenOf pd_16 rfl) rfl (by show 2 * 0 + _ ≤ _; exact Nat.le_of_eq rfl) (hb hby at_83) (fun _ _ => ⟨rfl, e17q, (by decide : 3 + 2 ≤ _), (by decide : 124 + 34 ≤ _)⟩)
  dsimp only [Pt.U, Pt.locs, Pt.cells, Pt.slots] at X18 l18 y18 z18 st18 hQ18
  subst l18 y18 z18
  obtain ⟨s2_e18, b2_e18, kb2_e18, v2_e18, rfl, N18q, K18, p18_1, p18_2, p18_3, p18_4⟩ := hQ18
  have N18 := Fr.app N17 N18q
  have sz20 : n0 ≤ T18.heap.size := (Nat.le_trans sz16 K18.1)
  obtain ⟨cq19, kq19, q19a, q19b, q19c⟩ := isOf hZ rfl p18_1
  obtain ⟨_, _, ⟨T19, L19, k19, n19⟩, -, X19, ⟨Lc19, hQ19, l19, y19, z19⟩, st19⟩ := X18.virtualBack hx (y := my7) (z := my7) hown (mvT hZ (hwd85 hw)) (mvT hZ (hwd86 hw)) (notFace_of_selects (args := #[]) (mvT hZ (hwd88 hw))) (mvT hZ (hwd88 hw)) (mvT hZ (hwd87 hw)) (by decide) (backOf (W := 1) (sem30 l Z a0 hw [] s2_e18 b2_e18 kb2_e18 v2_e18 (T18.heap) n0 sz20 p18_2 p18_4) hZ (hwd89 hw) (hwd8 hw) (by decide) (by decide)) q19a q19c (g := (mkF m 86 #[.val (.int p1), .val (.int p2), .val (.int p3), .val (.ref b_e1), .val (.int (60 : Int32)), .val (.ref b7), .val (.int (1 : Int32))] [(.ref s2_e18), (.int (1 : Int32))])) rfl (by rw [hml]; rfl) (Steps.refl _) (argsL := []) (rest := [(.int (1 : Int32))]) (lenOf pd_5 rfl) rfl (by show 2 * 0 + _ ≤ _; exact Nat.le_of_eq rfl) (hb hby at_86) (fun _ _ => ⟨rfl, rfl, (by decide : 5 + 0 ≤ _), (by decide : 158 + 0 ≤ _)⟩)
  dsimp only [Pt.U, Pt.locs, Pt.cells, Pt.slots] at X19 l19 y19 z19 st19 hQ19
  subst l19 y19 z19
  obtain ⟨rfl, N19q, e19q⟩ := hQ19
  have N19 := Fr.app N18 N19q
  have kp21 : Keep h0 T18.heap [] := (((kp9.ext E7).trans K11 (allS (Or.inr sz_b7) all0)).trans K18 all0)
  have CR22h : CHr Z consts_1 s.vm h0 s.vm T18.heap := CR0.trans (CHr.keep kp21 sf0 CR0.1)
  have hk23 : _ ≤ T18.heap.size := (Nat.le_trans (Nat.le_trans (Nat.le_trans (Nat.le_trans (Nat.le_trans (Nat.le_trans hk0 K1.1) (Keep.of_wr W4).1) (Keep.of_wr W6).1) E7.1) K11.1) K18.1)
  have hkE := Nat.le_trans hk23 (Nat.le_of_eq (congrArg Array.size (show T18.heap = T19.heap from Eq.symm e19q)))
  obtain ⟨fs, hr, hrun, hended, hRE⟩ := X19.leaveW hS0 hkE (v := some (.int (1 : Int32))) (fun h => by rw [Bd.returns] at h; cases h)
  refine ⟨_, _, pre0 _ ?_, hrun, hended, _, _, rfl, ?_, ?_, hRE.1, hRE.2.1, hRE.2.2.1, hRE.2.2.2.mono (by decide) (by decide)⟩
  · show Steps p.tables e below (s₁.setTop (mkF m 0 #[.val (.int p1), .val (.int p2), .val (.int p3), .unset, .unset, .unset, .unset] [])) _
    refine XS.iloadN X0.here hx rfl (hb hby at_0) rfl ?_
    refine X0.ldcInt hx hown (mvT hZ (hwd0 hw)) (g := (mkF m 1 #[.val (.int p1), .val (.int p2), .val (.int p3), .unset, .unset, .unset, .unset] [(.int p1)])) rfl (hb hby at_1) _ ?_
    refine XS.iand X0.here hx rfl (hb hby at_3) rfl ?_
    refine XS.bipush X0.here hx rfl (hb hby at_4) ?_
    show Steps p.tables e below (s₁.setTop (mkF m 6 #[.val (.int p1), .val (.int p2), .val (.int p3), .unset, .unset, .unset, .unset] [(.int (7 : Int32)), (.int (p1 &&& (2147483647 : Int32)))])) _
    refine XS.irem X0.here hx rfl (hb hby at_6) rfl (by decide) ?_
    show Steps p.tables e below (s₁.setTop (mkF m 7 #[.val (.int p1), .val (.int p2), .val (.int p3), .unset, .unset, .unset, .unset] [(.int ((p1 &&& (2147483647 : Int32)) - ((p1 &&& (2147483647 : Int32)) / (7 : Int32)) * (7 : Int32)))])) _
    rw [hn]
    refine st1 _ ?_
    refine XS.astoreN X1.here hx rfl (hb hby at_10) rfl rfl (l' := #[.val (.int p1), .val (.int p2), .val (.int p3), .val (.ref b_e1), .unset, .unset, .unset]) rfl ?_
    refine XS.aloadN X1.here hx rfl (hb hby at_11) rfl rfl ?_
    refine X1.arraylength hx (by exact Ar2.1) (State.isArrayOf_alike hZ.alike Ar2.2.1) (g := (mkF m 12 #[.val (.int p1), .val (.int p2), .val (.int p3), .val (.ref b_e1), .unset, .unset, .unset] [(.ref b_e1)])) rfl rfl (hb hby at_12) _ ?_
    rw [len_of S2 M2]
    refine XS.istore X1.here hx rfl (hb hby at_13) rfl (l' := #[.val (.int p1), .val (.int p2), .val (.int p3), .val (.ref b_e1), .val (.int (60 : Int32)), .unset, .unset]) rfl ?_
    show Steps p.tables e below (T1.setTop (mkF m 15 #[.val (.int p1), .val (.int p2), .val (.int p3), .val (.ref b_e1), .val (.int (60 : Int32)), .unset, .unset] [])) _
    refine XS.iload X1.here hx rfl (hb hby at_15) rfl ?_
    refine XS.ifNo X1.here hx rfl (hb hby at_17) rfl ((if0 _ _).trans (tlt (show (0 : Int32) < (60 : Int32) from (by decide))).2.2.2) ?_
    refine XS.aloadN X1.here hx rfl (hb hby at_20) rfl rfl ?_
    refine XS.iconst X1.here hx rfl (hb hby at_21) ?_
    refine XS.iloadN X1.here hx rfl (hb hby at_22) rfl ?_
    refine XS.sipush X1.here hx rfl (hb hby at_23) ?_
    show Steps p.tables e below (T1.setTop (mkF m 26 #[.val (.int p1), .val (.int p2), .val (.int p3), .val (.ref b_e1), .val (.int (60 : Int32)), .unset, .unset] [(.int (255 : Int32)), (.int p2), (.int (0 : Int32)), (.ref b_e1)])) _
    refine XS.iand X1.here hx rfl (hb hby at_26) rfl ?_
    refine XS.i2c X1.here hx rfl (hb hby at_27) rfl ?_
    refine st4 _ ?_
    refine XS.aloadN X4.here hx rfl (hb hby at_29) rfl rfl ?_
    refine XS.iload X4.here hx rfl (hb hby at_30) rfl ?_
    refine XS.iconst X4.here hx rfl (hb hby at_32) ?_
    show Steps p.tables e below (T4.setTop (mkF m 33 #[.val (.int p1), .val (.int p2), .val (.int p3), .val (.ref b_e1), .val (.int (60 : Int32)), .unset, .unset] [(.int (1 : Int32)), (.int (60 : Int32)), (.ref b_e1)])) _
    refine XS.isub X4.here hx rfl (hb hby at_33) rfl ?_
    show Steps p.tables e below (T4.setTop (mkF m 34 #[.val (.int p1), .val (.int p2), .val (.int p3), .val (.ref b_e1), .val (.int (60 : Int32)), .unset, .unset] [(.int ((60 : Int32) - (1 : Int32))), (.ref b_e1)])) _
    rw [show (((60 : Int32) - (1 : Int32)) : Int32) = (59 : Int32) from by decide]
    refine XS.iloadN X4.here hx rfl (hb hby at_34) rfl ?_
    refine XS.sipush X4.here hx rfl (hb hby at_35) ?_
    show Steps p.tables e below (T4.setTop (mkF m 38 #[.val (.int p1), .val (.int p2), .val (.int p3), .val (.ref b_e1), .val (.int (60 : Int32)), .unset, .unset] [(.int (255 : Int32)), (.int p3), (.int (59 : Int32)), (.ref b_e1)])) _
    refine XS.iand X4.here hx rfl (hb hby at_38) rfl ?_
    refine XS.i2c X4.here hx rfl (hb hby at_39) rfl ?_
    refine st6 _ ?_
    refine st7 _ ?_
    refine XS.dup X7.here hx rfl (hb hby at_44) rfl rfl ?_
    refine XS.aloadN X7.here hx rfl (hb hby at_45) rfl rfl ?_
    show Steps p.tables e below (T7.setTop (mkF m 46 #[.val (.int p1), .val (.int p2), .val (.int p3), .val (.ref b_e1), .val (.int (60 : Int32)), .unset, .unset] [(.ref b_e1), (.ref b7), (.ref b7)])) _
    refine st11.trans ?_
    refine XS.astore X11.here hx rfl (hb hby at_49) rfl rfl (l' := #[.val (.int p1), .val (.int p2), .val (.int p3), .val (.ref b_e1), .val (.int (60 : Int32)), .val (.ref b7), .unset]) rfl ?_
    refine XS.aload X11.here hx rfl (hb hby at_51) rfl rfl ?_
    refine st14 _ ?_
    refine XS.istore X14.here hx rfl (hb hby at_56) rfl (l' := #[.val (.int p1), .val (.int p2), .val (.int p3), .val (.ref b_e1), .val (.int (60 : Int32)), .val (.ref b7), .val (.int (1 : Int32))]) rfl ?_
    refine XS.aload X14.here hx rfl (hb hby at_58) rfl rfl ?_
    show Steps p.tables e below (T14.setTop (mkF m 60 #[.val (.int p1), .val (.int p2), .val (.int p3), .val (.ref b_e1), .val (.int (60 : Int32)), .val (.ref b7), .val (.int (1 : Int32))] [(.ref b7)])) _
    refine st17.trans ?_
    refine XS.bipush X17.here hx rfl (hb hby at_63) ?_
    show Steps p.tables e below (T17.setTop (mkF m 65 #[.val (.int p1), .val (.int p2), .val (.int p3), .val (.ref b_e1), .val (.int (60 : Int32)), .val (.ref b7), .val (.int (1 : Int32))] [(.int (30 : Int32)), (.int (60 : Int32))])) _
    refine XS.icmpYes X17.here hx rfl (pc0 := 65) (pc' := 79) rfl (hb hby at_65) rfl (flt (show ¬ ((60 : Int32) < (30 : Int32)) from (by decide))).2.1 (by decide) (by decide) ?_
    refine XS.iload X17.here hx rfl (hb hby at_79) rfl ?_
    refine XS.aload X17.here hx rfl (hb hby at_81) rfl rfl ?_
    refine st18 _ ?_
    refine st19.trans ?_
    refine XS.ifNo X19.here hx rfl (hb hby at_89) rfl ((if0 _ _).trans (teq (show (0 : Int32) = (0 : Int32) from rfl)).2) ?_
    show Steps p.tables e below (T19.setTop (mkF m 92 #[.val (.int p1), .val (.int p2), .val (.int p3), .val (.ref b_e1), .val (.int (60 : Int32)), .val (.ref b7), .val (.int (1 : Int32))] [(.int (1 : Int32))])) _
    refine XS.iconst X19.here hx rfl (hb hby at_92) ?_
    refine XS.goto X19.here hx rfl (pc0 := 93) (pc' := 97) rfl (hb hby at_93) (by decide) (by decide) ?_
    refine XS.icmpNo X19.here hx rfl (hb hby at_97) rfl (teq (show (1 : Int32) = (1 : Int32) from rfl)).2 ?_
    refine XS.iconst X19.here hx rfl (hb hby at_100) ?_
    refine XS.goto X19.here hx rfl (pc0 := 101) (pc' := 105) rfl (hb hby at_101) (by decide) (by decide) ?_
    exact retN X19 hx (t := .boolean) Bd.returns (by simp) (hb hby at_105) hr
  · show Qrm0 Z p1 p2 p3 cz sf h0 n0 _ T19.heap _
    rw [e19q]
    exact ⟨rfl, N19⟩
  · show CHr Z consts_1 s.vm s.heap T19.vm T19.heap
    rw [hh, e19q]
    exact CR22h.trans (CHv.at X19 hZ (own_EL hw) CR22h.1)
theorem rm0 (l : Launch) (Z : State) (a0 : Array Value) (hw : ∀ d ∈ tables_1, d.before a0 Z = true) (ws : List Jvm.Cond) (p1 : Int32) (p2 : Int32) (p3 : Int32) (cz : Int32) (sf : Value) (h0 : Heap) (n0 : Nat) (Z0 : n0 ≤ h0.size) (O_C : Sta Z Z.heap "java/lang/String" "COMPACT_STRINGS" "Z" (.int cz)) (hcz : ¬ (cz = (0 : Int32))) (O_S : Sta Z Z.heap "jdk/internal/util/Preconditions" "SIOOBE_FORMATTER" "Ljava/util/function/BiFunction;" sf) (hsf : sf.isRef = true) (X00 : Old Z n0 h0) :
    MetFree l x (head1 (Jvm.Cond.code x code maxLocals ret :: ws) room_1) (fun aa_ U => aa_ = #[(.int p1), (.int p2), (.int p3)] ∧ Z.Warmed39 U.vm ∧ U.heap = h0 ∧ CHv Z consts_1 U.vm h0) (fun _ _ _ _ _ => True) (fun _ U oo_ U' => ∃ v L, oo_ = .returned v ∧ Qrm0 Z p1 p2 p3 cz sf h0 n0 v U'.heap L ∧ CHr Z consts_1 U.vm U.heap U'.vm U'.heap ∧ ReturnedEndW U oo_ U' L room_1.cells room_1.slots) := by
  rcases own_rem7 p1 _ rfl with h | h | h | h | h | h | h
  · exact law_0 l Z a0 hw ws p1 p2 p3 cz sf h0 n0 Z0 O_C hcz O_S hsf X00 h
  · exact law_1 l Z a0 hw ws p1 p2 p3 cz sf h0 n0 Z0 O_C hcz O_S hsf X00 h
  · exact law_29 l Z a0 hw ws p1 p2 p3 cz sf h0 n0 Z0 O_C hcz O_S hsf X00 h
  · exact law_30 l Z a0 hw ws p1 p2 p3 cz sf h0 n0 Z0 O_C hcz O_S hsf X00 h
  · exact law_31 l Z a0 hw ws p1 p2 p3 cz sf h0 n0 Z0 O_C hcz O_S hsf X00 h
  · exact law_32 l Z a0 hw ws p1 p2 p3 cz sf h0 n0 Z0 O_C hcz O_S hsf X00 h
  · exact law_60 l Z a0 hw ws p1 p2 p3 cz sf h0 n0 Z0 O_C hcz O_S hsf X00 h
set_option maxRecDepth 65536 in
set_option maxHeartbeats 40000000 in
theorem comes_1 {Post : Tables → Env → Array Value → State → Outcome → State → Prop} (hpost : ∀ tb e args s v u, (limb_1_1.after args s (.returned v) u = true ∧ limb_1_2.after args s (.returned v) u = true ∧ True) → ReturnedEndW s (.returned v) u (Jvm.fieldLocs frame_1_writes args s ++ Jvm.arrayLocs frame_1_arrays args s ++ Jvm.staticLocs frame_1_statics s) 24 2496 → Post tb e args s (.returned v) u) :
    ArmFor flags0 classFile x code maxLocals ret World_1 tables_1 room_1 Calls_1 rest_1 Pre_1 Post := by
  intro l hfl _ _ p e ha hc hk s m args below hf hA hF happ hP
  obtain ⟨hcalls, hrest, hpre⟩ := hP
  obtain ⟨-, -, -, hnamed, -, -, -, hat⟩ := (Spec.applies_iff hf).mp happ
  obtain ⟨hg, hn⟩ := and_e (Cond.before_iff.mp (show (Jvm.Cond.and given_1 narrow_1).before args s = true from hpre))
  obtain ⟨gv1, gv2⟩ := and_e hg
  obtain ⟨gv3, gv4⟩ := and_e gv2
  obtain ⟨gv5, gv6⟩ := and_e gv4
  obtain ⟨w0, w1, w2, rfl⟩ : ∃ w0 w1 w2 : Value, args = #[w0, w1, w2] := by
    have hs : args.size = 3 := by simpa [Cond.value, given_1] using gv1
    obtain ⟨L⟩ := args
    match L, hs with
    | [w0, w1, w2], _ => exact ⟨w0, w1, w2, rfl⟩
  have hw := fun d (hd : d ∈ tables_1) => atoms_spec (ws := Jvm.Cond.code x code maxLocals ret :: tables_1) hat d (List.mem_cons_of_mem _ hd)
  have hfit : Fit s := fun {y c} hc i hi => by
    obtain ⟨ha, rfl⟩ := Array.getElem?_eq_some_iff.mp hc
    have q := List.all_eq_true.mp ((Array.all_eq_true_iff_forall_mem.mp hF) _ (Array.getElem_mem ha)) i (List.mem_range.mpr hi)
    simpa [Array.getElem?_eq_getElem hi] using q
  obtain ⟨hsets, hown0⟩ := atoms_of _ (rest_1_c_eq ▸ (show rest_1_c.before _ s = true from hrest))
  have hr0 := Cond.before_iff.mp hown0
  obtain ⟨i0, ei0⟩ := is_v gv3
  obtain rfl : w0 = (.int i0) := Option.some.inj ei0
  obtain ⟨i1, ei1⟩ := is_v gv5
  obtain rfl : w1 = (.int i1) := Option.some.inj ei1
  obtain ⟨i2, ei2⟩ := is_v gv6
  obtain rfl : w2 = (.int i2) := Option.some.inj ei2
  have n5 := not_v (Cond.before_iff.mp (hsets _ (List.mem_of_getElem? (i := 2) rfl)))
  obtain ⟨gi, ge⟩ := is_v (Cond.before_iff.mp (hsets _ (List.mem_of_getElem? (i := 1) rfl)))
  have gS : Sta s s.heap "java/lang/String" "COMPACT_STRINGS" "Z" (.int gi) := Sta.start ge (Or.inl (hsets _ (List.mem_of_getElem? (i := 0) rfl)))
  have gN : ¬ (gi = (0 : Int32)) := gotF (Cond.eq_ints ge (Term.int_eval (0))) n5
  obtain ⟨sf, fe, hsf⟩ := isR_v (Cond.before_iff.mp (hsets _ (List.mem_of_getElem? (i := 8) rfl)))
  have fS : Sta s s.heap "jdk/internal/util/Preconditions" "SIOOBE_FORMATTER" "Ljava/util/function/BiFunction;" sf := Sta.start fe (Or.inl (hsets _ (List.mem_of_getElem? (i := 7) rfl)))
  have hCH : CHv s consts_1 s.vm s.heap := CHv.start (own_EL hw) (fun p hp => hcalls.1 p hp) (hsets _ (List.mem_of_getElem? (i := 2) rfl)) (hw _ (List.mem_of_getElem? (i := 20) rfl)) (hw _ (List.mem_of_getElem? (i := 7) rfl))
  obtain ⟨n, o, h1, h2, h3, _, L, rfl, ⟨rfl, N⟩, -, hq⟩ := rm0 l s _ hw tables_1 i0 i1 i2 gi sf s.heap s.heap.size (Nat.le_refl _) gS gN fS hsf (Old.start s) p e ha hc hk s m _ below hf ((Spec.applies_iff_loose hf).mp happ).1 ⟨rfl, State.Warmed39.refl s, rfl, hCH⟩ trivial
  refine ⟨n, _, h1, h2, h3, hpost _ _ _ _ _ _ ⟨Cond.after_iff.mpr rfl, Cond.after_iff.mpr (eq_i res_at (Term.int_eval (1)) rfl), trivial⟩ ⟨hq.1, hq.2.1, hq.2.2.1, (hq.2.2.2.sift fun y hy => Or.inr (N y hy)).mono (by decide) (by decide)⟩⟩
theorem main_1_1 : Claimed_1_1 := comes_1 fun _ _ _ _ _ _ h hF => ⟨h.1, hF⟩
theorem main_1_2 : Claimed_1_2 := comes_1 fun _ _ _ _ _ _ h hF => ⟨h.2.1, hF⟩
end Jvm.Pilot.@@N@@
namespace Jvm.Pilot.@@N@@
open Jvm Jvm.ClassFile Sem Op Lib Jvm.Free Jvm.Stand Jvm.Pilot.@@N@@.Jvm.D
/-! MADE BY PROGRAM (witnessworld.py) out of the Statement's table words and the real class files: 23 classes; the members and pool entries that the words name. The judged class is class 1, her method 1. -/
namespace start1
open Jvm.ClassFile
def u (s : String) : CpInfo := .utf8 (stringToUtf16 s)
/-- a pool by its gaps: so many unusable entries, then the entry; so many at the end -/
def gap : Nat → List CpInfo → List CpInfo
  | 0, r => r
  | n + 1, r => .unusable :: gap n r
def poolList (es : List (Nat × CpInfo)) (last : Nat) : List CpInfo := es.foldr (fun e r => gap e.1 (e.2 :: r)) (gap last [])
def pool (es : List (Nat × CpInfo)) (last : Nat) : Array CpInfo := ⟨poolList es last⟩
def fileOf (pool : Array CpInfo) (this : Nat) (attrs : Array Attribute := #[]) (ms : Array MethodInfo := #[]) (fl : Nat := 33) (sup : Nat := 0) (ifs : Array Nat := #[]) (fds : Array FieldInfo := #[]) : ClassFile where
  minorVersion := 0
  majorVersion := 65
  constantPool := pool
  accessFlags := fl
  thisClass := this
  superClass := sup
  interfaces := ifs
  fields := fds
  methods := ms
  attributes := attrs
def plain (name : String) (sup : Option ClassId) : Class where
  name := name
  kind := .ordinary
  loader := none
  accessFlags := 33
  super := sup
  interfaces := #[]
  cf := none
  fields := #[]
  methods := #[]
  instanceTypes := #[]
  staticTypes := #[]
  resolved := #[]
  callSites := []
  init := .initialized
  statics := none
  mirror := none

def pool0 : Array CpInfo := pool [(5, u "<init>"), (0, u "()V"), (1, .class_ 10), (1, u "java/lang/Object")] 113

def k0c0 : Code := { maxStack := 0, maxLocals := 1, code := object_method_1_code, exceptionTable := #[], attributes := #[] }
def k0m0 : Method := { name := "<init>", desc := "()V", sig := { parameters := [], returnType := none }, accessFlags := 1, code := some k0c0 }
/-- java/lang/Object -/
def k0 : Class := { plain "java/lang/Object" none with
  accessFlags := 33
  interfaces := #[]
  cf := some (fileOf pool0 8 #[] #[{ accessFlags := 1, nameIndex := 5, descriptorIndex := 6, attributes := #[] }] 33 0 #[] #[])
  fields := #[]
  methods := #[k0m0]
  instanceTypes := #[]
  staticTypes := #[]
  resolved := Array.replicate 124 none
  statics := none }

def pool1 : Array CpInfo := pool [(2, .class_ 4), (1, u "java/lang/Object"), (0, u "<init>"), (0, u "()V"), (0, .integer 2147483647), (0, .methodref 9 10), (0, .class_ 11), (0, .nameAndType 12 13), (0, u "com/example/coretally/coretally/store/SampleKeyNamesClusterPinLaw"), (0, u "make"), (0, u "(I)[C"), (0, .class_ 15), (0, u "java/lang/String"), (0, .methodref 14 17), (0, .nameAndType 5 18), (0, u "([C)V"), (0, .methodref 20 21), (0, .class_ 22), (0, .nameAndType 23 24), (0, u "com/example/coretally/coretally/store/SampleKey"), (0, u "namesCluster"), (0, u "(Ljava/lang/String;)Z"), (0, .methodref 14 26), (0, .nameAndType 27 28), (0, u "length"), (0, u "()I"), (0, .methodref 20 30), (0, .nameAndType 31 32), (0, u "cluster"), (0, u "(Ljava/lang/String;)Ljava/lang/String;"), (0, .methodref 14 34), (0, .nameAndType 35 36), (0, u "isEmpty"), (0, u "()Z"), (2, u "law"), (0, u "(III)Z")] 5

def k1m0 : Method := { name := "<init>", desc := "()V", sig := { parameters := [], returnType := none }, accessFlags := 1, code := none }
def k1c1 : Code := { maxStack := 4, maxLocals := 7, code := code, exceptionTable := #[], attributes := #[] }
def k1m1 : Method := { name := "law", desc := "(III)Z", sig := { parameters := [.int, .int, .int], returnType := some .boolean }, accessFlags := 9, code := some k1c1 }
def k1c2 : Code := { maxStack := 2, maxLocals := 1, code := method_3_code, exceptionTable := #[], attributes := #[] }
def k1m2 : Method := { name := "make", desc := "(I)[C", sig := { parameters := [.int], returnType := some (.array .char) }, accessFlags := 10, code := some k1c2 }
/-- com/example/coretally/coretally/store/SampleKeyNamesClusterPinLaw -/
def k1 : Class := { plain "com/example/coretally/coretally/store/SampleKeyNamesClusterPinLaw" (some 0) with
  accessFlags := 49
  interfaces := #[]
  cf := some (fileOf pool1 9 #[] #[{ accessFlags := 1, nameIndex := 5, descriptorIndex := 6, attributes := #[] }, { accessFlags := 9, nameIndex := 39, descriptorIndex := 40, attributes := #[] }, { accessFlags := 10, nameIndex := 12, descriptorIndex := 13, attributes := #[] }] 49 2 #[] #[])
  fields := #[]
  methods := #[k1m0, k1m1, k1m2]
  instanceTypes := #[]
  staticTypes := #[]
  resolved := Array.replicate 46 none
  statics := none }

def pool2 : Array CpInfo := pool [(1, .class_ 2), (0, u "java/io/Serializable"), (0, .class_ 4), (0, u "java/lang/Object")] 2

/-- java/io/Serializable -/
def k2 : Class := { plain "java/io/Serializable" (some 0) with
  accessFlags := 1537
  interfaces := #[]
  cf := some (fileOf pool2 1 #[] #[] 1537 3 #[] #[])
  fields := #[]
  methods := #[]
  instanceTypes := #[]
  staticTypes := #[]
  resolved := Array.replicate 7 none
  statics := none }

def pool3 : Array CpInfo := pool [(1, .class_ 2), (0, u "java/lang/Comparable"), (0, .class_ 4), (0, u "java/lang/Object")] 7

/-- java/lang/Comparable -/
def k3 : Class := { plain "java/lang/Comparable" (some 0) with
  accessFlags := 1537
  interfaces := #[]
  cf := some (fileOf pool3 1 #[] #[] 1537 3 #[] #[])
  fields := #[]
  methods := #[]
  instanceTypes := #[]
  staticTypes := #[]
  resolved := Array.replicate 12 none
  statics := none }

def pool4 : Array CpInfo := pool [(2, .class_ 4), (1, u "java/lang/CharSequence"), (42, .class_ 48), (0, u "java/lang/CharSequence$1CodePointIterator"), (10, .class_ 60), (0, u "java/lang/CharSequence$1CharIterator"), (5, .class_ 67), (0, u "java/lang/Object")] 63

/-- java/lang/CharSequence -/
def k4 : Class := { plain "java/lang/CharSequence" (some 0) with
  accessFlags := 1537
  interfaces := #[]
  cf := some (fileOf pool4 2 #[.nestMembers #[47, 59]] #[] 1537 66 #[] #[])
  fields := #[]
  methods := #[]
  instanceTypes := #[]
  staticTypes := #[]
  resolved := Array.replicate 131 none
  statics := none }

def pool5 : Array CpInfo := pool [(1, .class_ 2), (0, u "java/lang/constant/Constable"), (0, .class_ 4), (0, u "java/lang/Object")] 6

/-- java/lang/constant/Constable -/
def k5 : Class := { plain "java/lang/constant/Constable" (some 0) with
  accessFlags := 1537
  interfaces := #[]
  cf := some (fileOf pool5 1 #[] #[] 1537 3 #[] #[])
  fields := #[]
  methods := #[]
  instanceTypes := #[]
  staticTypes := #[]
  resolved := Array.replicate 11 none
  statics := none }

def pool6 : Array CpInfo := pool [(1, .class_ 2), (0, u "java/lang/constant/ConstantDesc"), (0, .class_ 4), (0, u "java/lang/Object")] 32

/-- java/lang/constant/ConstantDesc -/
def k6 : Class := { plain "java/lang/constant/ConstantDesc" (some 0) with
  accessFlags := 1537
  interfaces := #[]
  cf := some (fileOf pool6 1 #[] #[] 1537 3 #[] #[])
  fields := #[]
  methods := #[]
  instanceTypes := #[]
  staticTypes := #[]
  resolved := Array.replicate 37 none
  statics := none }

def pool7 : Array CpInfo := pool [(1, .methodref 2 3), (0, .class_ 4), (0, .nameAndType 5 6), (0, u "java/lang/Object"), (0, u "<init>"), (0, u "()V"), (0, .string 8), (0, u ""), (0, .fieldref 10 11), (0, .class_ 12), (0, .nameAndType 13 14), (0, u "java/lang/String"), (0, u "value"), (0, u "[B"), (0, .fieldref 10 16), (0, .nameAndType 17 18), (0, u "coder"), (0, u "B"), (2, u "hash"), (0, u "I"), (2, u "hashIsZero"), (0, u "Z"), (0, .methodref 10 28), (0, .nameAndType 5 29), (0, u "([CIILjava/lang/Void;)V"), (8, .fieldref 10 39), (0, .nameAndType 40 26), (0, u "COMPACT_STRINGS"), (1, .class_ 44), (1, u "java/lang/StringUTF16"), (0, u "compress"), (1, .methodref 42 48), (0, .nameAndType 49 50), (0, u "coderFromArrayLen"), (0, u "([BI)B"), (56, .class_ 109), (1, u "java/lang/StringLatin1"), (32, u "()Z"), (34, .methodref 42 178), (0, .nameAndType 45 179), (0, u "([CII)[B"), (31, u "([BB)V"), (122, u "()I"), (0, .methodref 10 336), (0, .nameAndType 17 337), (0, u "()B"), (154, .methodref 10 493), (0, .nameAndType 494 142), (0, u "isLatin1"), (10, .methodref 10 506), (0, .nameAndType 507 334), (0, u "length"), (5, u "checkFromToIndex"), (7, .methodref 10 522), (0, .nameAndType 523 524), (0, u "checkBoundsBeginEnd"), (0, u "(III)V"), (50, .class_ 576), (0, u "java/lang/CharSequence"), (22, u "CASE_INSENSITIVE_ORDER"), (0, u "Ljava/util/Comparator;"), (80, .methodref 10 682), (0, .nameAndType 683 684), (0, u "substring"), (0, u "(II)Ljava/lang/String;"), (0, .methodref 107 686), (0, .nameAndType 687 688), (0, u "newString"), (0, u "([BII)Ljava/lang/String;"), (3, u "isEmpty"), (199, u "(I)Ljava/lang/String;"), (117, u "([C)V"), (42, .fieldref 1054 1055), (0, .class_ 1056), (0, .nameAndType 1057 1058), (0, u "jdk/internal/util/Preconditions"), (0, u "SIOOBE_FORMATTER"), (0, u "Ljava/util/function/BiFunction;"), (3, .methodref 1054 1063), (0, .nameAndType 513 1064), (0, u "(IIILjava/util/function/BiFunction;)I"), (36, u "serialPersistentFields"), (0, u "[Ljava/io/ObjectStreamField;"), (0, .class_ 1104), (0, u "java/lang/String$CaseInsensitiveComparator"), (1, .class_ 1107), (0, u "java/io/Serializable"), (0, .class_ 1109), (0, u "java/lang/Comparable"), (0, .class_ 1111), (0, u "java/lang/constant/Constable"), (0, .class_ 1113), (0, u "java/lang/constant/ConstantDesc"), (2, u "serialVersionUID"), (0, u "J"), (3, u "REPL"), (0, u "C"), (2, u "LATIN1"), (1, u "UTF16")] 323

def k7m0 : Method := { name := "<init>", desc := "()V", sig := { parameters := [], returnType := none }, accessFlags := 1, code := none }
def k7c1 : Code := { maxStack := 5, maxLocals := 2, code := jdk_42_method_3_code, exceptionTable := #[], attributes := #[] }
def k7m1 : Method := { name := "<init>", desc := "([C)V", sig := { parameters := [(.array .char)], returnType := none }, accessFlags := 1, code := some k7c1 }
def k7c2 : Code := { maxStack := 2, maxLocals := 1, code := jdk_42_method_54_code, exceptionTable := #[], attributes := #[] }
def k7m2 : Method := { name := "length", desc := "()I", sig := { parameters := [], returnType := some .int }, accessFlags := 1, code := some k7c2 }
def k7c3 : Code := { maxStack := 1, maxLocals := 1, code := jdk_42_method_55_code, exceptionTable := #[], attributes := #[] }
def k7m3 : Method := { name := "isEmpty", desc := "()Z", sig := { parameters := [], returnType := some .boolean }, accessFlags := 1, code := some k7c3 }
def k7c4 : Code := { maxStack := 3, maxLocals := 2, code := jdk_42_method_91_code, exceptionTable := #[], attributes := #[] }
def k7m4 : Method := { name := "substring", desc := "(I)Ljava/lang/String;", sig := { parameters := [.int], returnType := some (.object "java/lang/String") }, accessFlags := 1, code := some k7c4 }
def k7c5 : Code := { maxStack := 3, maxLocals := 5, code := jdk_42_method_92_code, exceptionTable := #[], attributes := #[] }
def k7m5 : Method := { name := "substring", desc := "(II)Ljava/lang/String;", sig := { parameters := [.int, .int], returnType := some (.object "java/lang/String") }, accessFlags := 1, code := some k7c5 }
def k7c6 : Code := { maxStack := 4, maxLocals := 6, code := jdk_42_method_149_code, exceptionTable := #[], attributes := #[] }
def k7m6 : Method := { name := "<init>", desc := "([CIILjava/lang/Void;)V", sig := { parameters := [(.array .char), .int, .int, (.object "java/lang/Void")], returnType := none }, accessFlags := 2, code := some k7c6 }
def k7c7 : Code := { maxStack := 2, maxLocals := 3, code := jdk_42_method_151_code, exceptionTable := #[], attributes := #[] }
def k7m7 : Method := { name := "<init>", desc := "([BB)V", sig := { parameters := [(.array .byte), .byte], returnType := none }, accessFlags := 0, code := some k7c7 }
def k7c8 : Code := { maxStack := 1, maxLocals := 1, code := jdk_42_method_152_code, exceptionTable := #[], attributes := #[] }
def k7m8 : Method := { name := "coder", desc := "()B", sig := { parameters := [], returnType := some .byte }, accessFlags := 0, code := some k7c8 }
def k7c9 : Code := { maxStack := 1, maxLocals := 1, code := jdk_42_method_154_code, exceptionTable := #[], attributes := #[] }
def k7m9 : Method := { name := "isLatin1", desc := "()Z", sig := { parameters := [], returnType := some .boolean }, accessFlags := 0, code := some k7c9 }
def k7c10 : Code := { maxStack := 4, maxLocals := 3, code := jdk_42_method_158_code, exceptionTable := #[], attributes := #[] }
def k7m10 : Method := { name := "checkBoundsBeginEnd", desc := "(III)V", sig := { parameters := [.int, .int, .int], returnType := none }, accessFlags := 8, code := some k7c10 }
/-- java/lang/String -/
def k7 : Class := { plain "java/lang/String" (some 0) with
  accessFlags := 49
  interfaces := #[2, 3, 4, 5, 6]
  cf := some (fileOf pool7 10 #[.nestMembers #[1103]] #[{ accessFlags := 1, nameIndex := 5, descriptorIndex := 6, attributes := #[] }, { accessFlags := 1, nameIndex := 5, descriptorIndex := 1010, attributes := #[] }, { accessFlags := 1, nameIndex := 507, descriptorIndex := 334, attributes := #[] }, { accessFlags := 1, nameIndex := 692, descriptorIndex := 142, attributes := #[] }, { accessFlags := 1, nameIndex := 683, descriptorIndex := 892, attributes := #[] }, { accessFlags := 1, nameIndex := 683, descriptorIndex := 684, attributes := #[] }, { accessFlags := 2, nameIndex := 5, descriptorIndex := 29, attributes := #[] }, { accessFlags := 0, nameIndex := 5, descriptorIndex := 211, attributes := #[] }, { accessFlags := 0, nameIndex := 17, descriptorIndex := 337, attributes := #[] }, { accessFlags := 0, nameIndex := 494, descriptorIndex := 142, attributes := #[] }, { accessFlags := 8, nameIndex := 523, descriptorIndex := 524, attributes := #[] }] 49 2 #[1106, 1108, 575, 1110, 1112] #[{ accessFlags := 18, nameIndex := 13, descriptorIndex := 14, attributes := #[] }, { accessFlags := 18, nameIndex := 17, descriptorIndex := 18, attributes := #[] }, { accessFlags := 2, nameIndex := 21, descriptorIndex := 22, attributes := #[] }, { accessFlags := 2, nameIndex := 25, descriptorIndex := 26, attributes := #[] }, { accessFlags := 26, nameIndex := 1116, descriptorIndex := 1117, attributes := #[] }, { accessFlags := 24, nameIndex := 40, descriptorIndex := 26, attributes := #[] }, { accessFlags := 26, nameIndex := 1101, descriptorIndex := 1102, attributes := #[] }, { accessFlags := 26, nameIndex := 1121, descriptorIndex := 1122, attributes := #[] }, { accessFlags := 25, nameIndex := 599, descriptorIndex := 600, attributes := #[] }, { accessFlags := 24, nameIndex := 1125, descriptorIndex := 18, attributes := #[] }, { accessFlags := 24, nameIndex := 1127, descriptorIndex := 18, attributes := #[] }])
  fields := #[{ name := "value", type := (.array .byte), accessFlags := 18, slot := 0, constantValue := 0 }, { name := "coder", type := .byte, accessFlags := 18, slot := 1, constantValue := 0 }, { name := "hash", type := .int, accessFlags := 2, slot := 2, constantValue := 0 }, { name := "hashIsZero", type := .boolean, accessFlags := 2, slot := 3, constantValue := 0 }, { name := "serialVersionUID", type := .long, accessFlags := 26, slot := 0, constantValue := 0 }, { name := "COMPACT_STRINGS", type := .boolean, accessFlags := 24, slot := 1, constantValue := 0 }, { name := "serialPersistentFields", type := (.array (.object "java/io/ObjectStreamField")), accessFlags := 26, slot := 2, constantValue := 0 }, { name := "REPL", type := .char, accessFlags := 26, slot := 3, constantValue := 0 }, { name := "CASE_INSENSITIVE_ORDER", type := (.object "java/util/Comparator"), accessFlags := 25, slot := 4, constantValue := 0 }, { name := "LATIN1", type := .byte, accessFlags := 24, slot := 5, constantValue := 0 }, { name := "UTF16", type := .byte, accessFlags := 24, slot := 6, constantValue := 0 }]
  methods := #[k7m0, k7m1, k7m2, k7m3, k7m4, k7m5, k7m6, k7m7, k7m8, k7m9, k7m10]
  instanceTypes := #[(.array .byte), .byte, .int, .boolean]
  staticTypes := #[.long, .boolean, (.array (.object "java/io/ObjectStreamField")), .char, (.object "java/util/Comparator"), .byte, .byte]
  resolved := Array.replicate 1451 none
  statics := some 0 }

def pool8 : Array CpInfo := pool [(2, .class_ 4), (1, u "java/lang/Object"), (0, u "<init>"), (0, u "()V"), (1, .class_ 10), (1, u "com/example/coretally/coretally/store/SampleKey"), (0, u "TIME"), (0, u "Ljava/time/format/DateTimeFormatter;"), (23, .class_ 38), (1, u "java/lang/String"), (0, u "substring"), (11, .methodref 36 52), (0, .nameAndType 39 53), (0, u "(I)Ljava/lang/String;"), (0, .methodref 36 55), (0, .nameAndType 56 57), (0, u "length"), (0, u "()I"), (3, u "(Ljava/lang/String;)Z"), (26, u "LAST_YEAR"), (0, u "I"), (2, u "TIME_LENGTH"), (9, u "cluster"), (0, u "(Ljava/lang/String;)Ljava/lang/String;"), (0, u "namesCluster")] 36

def k8m0 : Method := { name := "<init>", desc := "()V", sig := { parameters := [], returnType := none }, accessFlags := 2, code := none }
def k8c1 : Code := { maxStack := 2, maxLocals := 1, code := prog_78_method_5_code, exceptionTable := #[], attributes := #[] }
def k8m1 : Method := { name := "cluster", desc := "(Ljava/lang/String;)Ljava/lang/String;", sig := { parameters := [(.object "java/lang/String")], returnType := some (.object "java/lang/String") }, accessFlags := 8, code := some k8c1 }
def k8c2 : Code := { maxStack := 2, maxLocals := 1, code := prog_78_method_6_code, exceptionTable := #[], attributes := #[] }
def k8m2 : Method := { name := "namesCluster", desc := "(Ljava/lang/String;)Z", sig := { parameters := [(.object "java/lang/String")], returnType := some .boolean }, accessFlags := 8, code := some k8c2 }
/-- com/example/coretally/coretally/store/SampleKey -/
def k8 : Class := { plain "com/example/coretally/coretally/store/SampleKey" (some 0) with
  accessFlags := 32
  interfaces := #[]
  cf := some (fileOf pool8 8 #[] #[{ accessFlags := 2, nameIndex := 5, descriptorIndex := 6, attributes := #[] }, { accessFlags := 8, nameIndex := 102, descriptorIndex := 103, attributes := #[] }, { accessFlags := 8, nameIndex := 104, descriptorIndex := 61, attributes := #[] }] 32 2 #[] #[{ accessFlags := 24, nameIndex := 88, descriptorIndex := 89, attributes := #[] }, { accessFlags := 26, nameIndex := 11, descriptorIndex := 12, attributes := #[] }, { accessFlags := 26, nameIndex := 92, descriptorIndex := 89, attributes := #[] }])
  fields := #[{ name := "LAST_YEAR", type := .int, accessFlags := 24, slot := 0, constantValue := 0 }, { name := "TIME", type := (.object "java/time/format/DateTimeFormatter"), accessFlags := 26, slot := 1, constantValue := 0 }, { name := "TIME_LENGTH", type := .int, accessFlags := 26, slot := 2, constantValue := 0 }]
  methods := #[k8m0, k8m1, k8m2]
  instanceTypes := #[]
  staticTypes := #[.int, (.object "java/time/format/DateTimeFormatter"), .int]
  resolved := Array.replicate 141 none
  statics := none }

def pool9 : Array CpInfo := pool [(6, .class_ 8), (1, u "java/lang/Object"), (0, u "<init>"), (0, u "()V"), (1, .class_ 14), (1, u "java/lang/StringUTF16"), (31, u "$assertionsDisabled"), (0, u "Z"), (13, u "HI_BYTE_SHIFT"), (0, u "I"), (2, u "LO_BYTE_SHIFT"), (49, .methodref 12 116), (0, .nameAndType 117 118), (0, u "compress"), (0, u "([CI[BII)I"), (3, u "([CII)[B"), (138, u "coderFromArrayLen"), (0, u "([BI)B"), (106, .class_ 371), (1, u "java/lang/StringUTF16$LinesSpliterator"), (58, u "MAX_LENGTH"), (196, .class_ 628), (0, u "java/lang/StringUTF16$CodePointsSpliterator"), (0, .class_ 630), (0, u "java/lang/StringUTF16$CharsSpliterator")] 4

def k9m0 : Method := { name := "<init>", desc := "()V", sig := { parameters := [], returnType := none }, accessFlags := 0, code := none }
def k9c1 : Code := { maxStack := 2, maxLocals := 2, code := jdk_52_method_15_code, exceptionTable := #[], attributes := #[] }
def k9m1 : Method := { name := "coderFromArrayLen", desc := "([BI)B", sig := { parameters := [(.array .byte), .int], returnType := some .byte }, accessFlags := 8, code := some k9c1 }
def k9c2 : Code := { maxStack := 5, maxLocals := 6, code := jdk_52_method_16_code, exceptionTable := #[], attributes := #[] }
def k9m2 : Method := { name := "compress", desc := "([CII)[B", sig := { parameters := [(.array .char), .int, .int], returnType := some (.array .byte) }, accessFlags := 9, code := some k9c2 }
def k9c3 : Code := { maxStack := 3, maxLocals := 7, code := jdk_52_method_21_code, exceptionTable := #[], attributes := #[] }
def k9m3 : Method := { name := "compress", desc := "([CI[BII)I", sig := { parameters := [(.array .char), .int, (.array .byte), .int, .int], returnType := some .int }, accessFlags := 9, code := some k9c3 }
/-- java/lang/StringUTF16 -/
def k9 : Class := { plain "java/lang/StringUTF16" (some 0) with
  accessFlags := 48
  interfaces := #[]
  cf := some (fileOf pool9 12 #[.nestMembers #[627, 629, 369]] #[{ accessFlags := 0, nameIndex := 9, descriptorIndex := 10, attributes := #[] }, { accessFlags := 8, nameIndex := 261, descriptorIndex := 262, attributes := #[] }, { accessFlags := 9, nameIndex := 117, descriptorIndex := 122, attributes := #[] }, { accessFlags := 9, nameIndex := 117, descriptorIndex := 118, attributes := #[] }] 48 6 #[] #[{ accessFlags := 26, nameIndex := 61, descriptorIndex := 62, attributes := #[] }, { accessFlags := 26, nameIndex := 65, descriptorIndex := 62, attributes := #[] }, { accessFlags := 24, nameIndex := 430, descriptorIndex := 62, attributes := #[] }, { accessFlags := 4120, nameIndex := 46, descriptorIndex := 47, attributes := #[] }])
  fields := #[{ name := "HI_BYTE_SHIFT", type := .int, accessFlags := 26, slot := 0, constantValue := 0 }, { name := "LO_BYTE_SHIFT", type := .int, accessFlags := 26, slot := 1, constantValue := 0 }, { name := "MAX_LENGTH", type := .int, accessFlags := 24, slot := 2, constantValue := 0 }, { name := "$assertionsDisabled", type := .boolean, accessFlags := 4120, slot := 3, constantValue := 0 }]
  methods := #[k9m0, k9m1, k9m2, k9m3]
  instanceTypes := #[]
  staticTypes := #[.int, .int, .int, .boolean]
  resolved := Array.replicate 635 none
  statics := none }

def pool10 : Array CpInfo := pool [(2, .class_ 4), (1, u "java/lang/Object"), (0, u "<init>"), (0, u "()V"), (17, .class_ 26), (1, u "jdk/internal/util/Preconditions"), (20, u "checkFromToIndex"), (7, .class_ 56), (0, u "jdk/internal/util/Preconditions$4"), (57, .class_ 115), (0, u "jdk/internal/util/Preconditions$1"), (7, u "SIOOBE_FORMATTER"), (0, u "Ljava/util/function/BiFunction;"), (0, .class_ 126), (0, u "jdk/internal/util/Preconditions$2"), (3, u "AIOOBE_FORMATTER"), (0, .class_ 132), (0, u "jdk/internal/util/Preconditions$3"), (3, u "IOOBE_FORMATTER"), (46, u "(IIILjava/util/function/BiFunction;)I")] 10

def k10m0 : Method := { name := "<init>", desc := "()V", sig := { parameters := [], returnType := none }, accessFlags := 1, code := none }
def k10c1 : Code := { maxStack := 4, maxLocals := 4, code := jdk_41_method_12_code, exceptionTable := #[], attributes := #[] }
def k10m1 : Method := { name := "checkFromToIndex", desc := "(IIILjava/util/function/BiFunction;)I", sig := { parameters := [.int, .int, .int, (.object "java/util/function/BiFunction")], returnType := some .int }, accessFlags := 9, code := some k10c1 }
/-- jdk/internal/util/Preconditions -/
def k10 : Class := { plain "jdk/internal/util/Preconditions" (some 0) with
  accessFlags := 33
  interfaces := #[]
  cf := some (fileOf pool10 24 #[.nestMembers #[55, 131, 125, 114]] #[{ accessFlags := 1, nameIndex := 5, descriptorIndex := 6, attributes := #[] }, { accessFlags := 9, nameIndex := 47, descriptorIndex := 183, attributes := #[] }] 33 2 #[] #[{ accessFlags := 25, nameIndex := 123, descriptorIndex := 124, attributes := #[] }, { accessFlags := 25, nameIndex := 130, descriptorIndex := 124, attributes := #[] }, { accessFlags := 25, nameIndex := 136, descriptorIndex := 124, attributes := #[] }])
  fields := #[{ name := "SIOOBE_FORMATTER", type := (.object "java/util/function/BiFunction"), accessFlags := 25, slot := 0, constantValue := 0 }, { name := "AIOOBE_FORMATTER", type := (.object "java/util/function/BiFunction"), accessFlags := 25, slot := 1, constantValue := 0 }, { name := "IOOBE_FORMATTER", type := (.object "java/util/function/BiFunction"), accessFlags := 25, slot := 2, constantValue := 0 }]
  methods := #[k10m0, k10m1]
  instanceTypes := #[]
  staticTypes := #[(.object "java/util/function/BiFunction"), (.object "java/util/function/BiFunction"), (.object "java/util/function/BiFunction")]
  resolved := Array.replicate 194 none
  statics := some 1 }

def pool11 : Array CpInfo := pool [(1, .class_ 2), (0, u "java/lang/String"), (1, .class_ 6), (1, u "java/lang/Object"), (0, u "<init>"), (0, u "()V"), (5, .class_ 16), (1, u "java/lang/StringLatin1"), (95, .methodref 1 113), (0, .nameAndType 7 114), (0, u "([BB)V"), (6, u "$assertionsDisabled"), (0, u "Z"), (8, .class_ 133), (1, u "java/util/Arrays"), (17, .string 152), (0, u ""), (43, u "newString"), (0, u "([BII)Ljava/lang/String;"), (23, .class_ 223), (1, u "java/lang/StringLatin1$LinesSpliterator"), (8, .methodref 131 233), (0, .nameAndType 234 235), (0, u "copyOfRange"), (0, u "([BII)[B"), (154, .class_ 391), (0, u "java/lang/StringLatin1$CharsSpliterator")] 3

def k11m0 : Method := { name := "<init>", desc := "()V", sig := { parameters := [], returnType := none }, accessFlags := 0, code := none }
def k11c1 : Code := { maxStack := 6, maxLocals := 3, code := jdk_43_method_47_code, exceptionTable := #[], attributes := #[] }
def k11m1 : Method := { name := "newString", desc := "([BII)Ljava/lang/String;", sig := { parameters := [(.array .byte), .int, .int], returnType := some (.object "java/lang/String") }, accessFlags := 9, code := some k11c1 }
/-- java/lang/StringLatin1 -/
def k11 : Class := { plain "java/lang/StringLatin1" (some 0) with
  accessFlags := 48
  interfaces := #[]
  cf := some (fileOf pool11 14 #[.nestMembers #[390, 221]] #[{ accessFlags := 0, nameIndex := 7, descriptorIndex := 8, attributes := #[] }, { accessFlags := 9, nameIndex := 196, descriptorIndex := 197, attributes := #[] }] 48 4 #[] #[{ accessFlags := 4120, nameIndex := 121, descriptorIndex := 122, attributes := #[] }])
  fields := #[{ name := "$assertionsDisabled", type := .boolean, accessFlags := 4120, slot := 0, constantValue := 0 }]
  methods := #[k11m0, k11m1]
  instanceTypes := #[]
  staticTypes := #[.boolean]
  resolved := Array.replicate 395 none
  statics := none }

def pool12 : Array CpInfo := pool [(2, .class_ 4), (1, u "java/lang/Object"), (0, u "<init>"), (0, u "()V"), (7, .class_ 16), (1, u "java/util/Arrays"), (57, .class_ 76), (1, u "java/util/Arrays$NaturalOrder"), (36, .class_ 115), (1, u "java/util/Arrays$LegacyMergeSort"), (1, u "Z"), (21, u "copyOfRange"), (10, .methodref 151 152), (0, .class_ 153), (0, .nameAndType 154 155), (0, u "java/lang/System"), (0, u "arraycopy"), (0, u "(Ljava/lang/Object;ILjava/lang/Object;II)V"), (148, .methodref 305 306), (0, .class_ 307), (0, .nameAndType 308 309), (0, u "java/lang/Math"), (0, u "min"), (0, u "(II)I"), (29, .methodref 14 340), (0, .nameAndType 341 342), (0, u "copyOfRangeByte"), (0, u "([BII)[B"), (0, .methodref 14 344), (0, .nameAndType 345 346), (0, u "checkLength"), (0, u "(II)V"), (28, .class_ 376), (0, u "java/util/Arrays$ArrayList"), (68, u "$assertionsDisabled"), (269, u "MIN_ARRAY_SORT_GRAN"), (0, u "I"), (2, u "INSERTIONSORT_THRESHOLD"), (255, .class_ 976), (0, u "java/util/Arrays$ArrayItr")] 52

def k12m0 : Method := { name := "<init>", desc := "()V", sig := { parameters := [], returnType := none }, accessFlags := 2, code := none }
def k12c1 : Code := { maxStack := 4, maxLocals := 2, code := jdk_65_method_131_code, exceptionTable := #[], attributes := #[] }
def k12m1 : Method := { name := "checkLength", desc := "(II)V", sig := { parameters := [.int, .int], returnType := none }, accessFlags := 10, code := some k12c1 }
def k12c2 : Code := { maxStack := 3, maxLocals := 3, code := jdk_65_method_132_code, exceptionTable := #[], attributes := #[] }
def k12m2 : Method := { name := "copyOfRange", desc := "([BII)[B", sig := { parameters := [(.array .byte), .int, .int], returnType := some (.array .byte) }, accessFlags := 9, code := some k12c2 }
def k12c3 : Code := { maxStack := 6, maxLocals := 5, code := jdk_65_method_133_code, exceptionTable := #[], attributes := #[] }
def k12m3 : Method := { name := "copyOfRangeByte", desc := "([BII)[B", sig := { parameters := [(.array .byte), .int, .int], returnType := some (.array .byte) }, accessFlags := 10, code := some k12c3 }
/-- java/util/Arrays -/
def k12 : Class := { plain "java/util/Arrays" (some 0) with
  accessFlags := 49
  interfaces := #[]
  cf := some (fileOf pool12 14 #[.nestMembers #[975, 375, 113, 74]] #[{ accessFlags := 2, nameIndex := 5, descriptorIndex := 6, attributes := #[] }, { accessFlags := 10, nameIndex := 345, descriptorIndex := 346, attributes := #[] }, { accessFlags := 9, nameIndex := 139, descriptorIndex := 342, attributes := #[] }, { accessFlags := 10, nameIndex := 341, descriptorIndex := 342, attributes := #[] }] 49 2 #[] #[{ accessFlags := 26, nameIndex := 715, descriptorIndex := 716, attributes := #[] }, { accessFlags := 26, nameIndex := 719, descriptorIndex := 716, attributes := #[] }, { accessFlags := 4120, nameIndex := 445, descriptorIndex := 117, attributes := #[] }])
  fields := #[{ name := "MIN_ARRAY_SORT_GRAN", type := .int, accessFlags := 26, slot := 0, constantValue := 0 }, { name := "INSERTIONSORT_THRESHOLD", type := .int, accessFlags := 26, slot := 1, constantValue := 0 }, { name := "$assertionsDisabled", type := .boolean, accessFlags := 4120, slot := 2, constantValue := 0 }]
  methods := #[k12m0, k12m1, k12m2, k12m3]
  instanceTypes := #[]
  staticTypes := #[.int, .int, .boolean]
  resolved := Array.replicate 1029 none
  statics := none }

def pool13 : Array CpInfo := pool [(1, .class_ 2), (0, u "java/lang/Math"), (1, .class_ 6), (1, u "java/lang/Object"), (0, u "<init>"), (0, u "()V"), (89, .class_ 100), (1, u "java/lang/Math$RandomNumberGeneratorHolder"), (71, u "negativeZeroFloatBits"), (0, u "J"), (2, u "negativeZeroDoubleBits"), (24, u "min"), (43, u "$assertionsDisabled"), (0, u "Z"), (88, u "(II)I"), (2, u "twoToTheDoubleScaleDown"), (0, u "D"), (4, u "twoToTheDoubleScaleUp"), (9, u "E"), (3, u "PI"), (2, u "TAU"), (2, u "DEGREES_TO_RADIANS"), (0, u "RADIANS_TO_DEGREES")] 94

def k13m0 : Method := { name := "<init>", desc := "()V", sig := { parameters := [], returnType := none }, accessFlags := 2, code := none }
def k13c1 : Code := { maxStack := 2, maxLocals := 2, code := jdk_29_method_69_code, exceptionTable := #[], attributes := #[] }
def k13m1 : Method := { name := "min", desc := "(II)I", sig := { parameters := [.int, .int], returnType := some .int }, accessFlags := 9, code := some k13c1 }
/-- java/lang/Math -/
def k13 : Class := { plain "java/lang/Math" (some 0) with
  accessFlags := 49
  interfaces := #[]
  cf := some (fileOf pool13 1 #[.nestMembers #[98]] #[{ accessFlags := 2, nameIndex := 7, descriptorIndex := 8, attributes := #[] }, { accessFlags := 9, nameIndex := 201, descriptorIndex := 335, attributes := #[] }] 49 4 #[] #[{ accessFlags := 25, nameIndex := 354, descriptorIndex := 339, attributes := #[] }, { accessFlags := 25, nameIndex := 358, descriptorIndex := 339, attributes := #[] }, { accessFlags := 25, nameIndex := 361, descriptorIndex := 339, attributes := #[] }, { accessFlags := 26, nameIndex := 364, descriptorIndex := 339, attributes := #[] }, { accessFlags := 26, nameIndex := 365, descriptorIndex := 339, attributes := #[] }, { accessFlags := 26, nameIndex := 172, descriptorIndex := 173, attributes := #[] }, { accessFlags := 26, nameIndex := 176, descriptorIndex := 173, attributes := #[] }, { accessFlags := 8, nameIndex := 344, descriptorIndex := 339, attributes := #[] }, { accessFlags := 8, nameIndex := 338, descriptorIndex := 339, attributes := #[] }, { accessFlags := 4120, nameIndex := 245, descriptorIndex := 246, attributes := #[] }])
  fields := #[{ name := "E", type := .double, accessFlags := 25, slot := 0, constantValue := 0 }, { name := "PI", type := .double, accessFlags := 25, slot := 1, constantValue := 0 }, { name := "TAU", type := .double, accessFlags := 25, slot := 2, constantValue := 0 }, { name := "DEGREES_TO_RADIANS", type := .double, accessFlags := 26, slot := 3, constantValue := 0 }, { name := "RADIANS_TO_DEGREES", type := .double, accessFlags := 26, slot := 4, constantValue := 0 }, { name := "negativeZeroFloatBits", type := .long, accessFlags := 26, slot := 5, constantValue := 0 }, { name := "negativeZeroDoubleBits", type := .long, accessFlags := 26, slot := 6, constantValue := 0 }, { name := "twoToTheDoubleScaleUp", type := .double, accessFlags := 8, slot := 7, constantValue := 0 }, { name := "twoToTheDoubleScaleDown", type := .double, accessFlags := 8, slot := 8, constantValue := 0 }, { name := "$assertionsDisabled", type := .boolean, accessFlags := 4120, slot := 9, constantValue := 0 }]
  methods := #[k13m0, k13m1]
  instanceTypes := #[]
  staticTypes := #[.double, .double, .double, .double, .double, .long, .long, .double, .double, .boolean]
  resolved := Array.replicate 460 none
  statics := none }

def pool14 : Array CpInfo := pool [(2, .class_ 4), (1, u "java/lang/Object"), (0, u "<init>"), (0, u "()V"), (1, .class_ 10), (1, u "java/lang/System"), (0, u "allowSecurityManager"), (0, u "I"), (16, u "cons"), (0, u "Ljava/io/Console;"), (77, .class_ 110), (1, u "java/lang/System$CallersHolder"), (43, u "initialErrStream"), (0, u "Ljava/io/PrintStream;"), (19, u "security"), (0, u "Ljava/lang/SecurityManager;"), (31, .class_ 209), (0, u "java/lang/System$1"), (7, u "props"), (0, u "Ljava/util/Properties;"), (2, u "lineSeparator"), (0, u "Ljava/lang/String;"), (96, .class_ 321), (1, u "java/lang/System$LoggerFinder"), (5, .class_ 328), (0, u "java/lang/System$Logger"), (67, u "err"), (2, u "out"), (91, u "notSupportedJnuEncoding"), (15, u "in"), (17, u "initialIn"), (0, u "Ljava/io/InputStream;"), (35, u "bootLayer"), (0, u "Ljava/lang/ModuleLayer;"), (99, .class_ 664), (0, u "java/lang/System$2"), (9, u "NEVER"), (2, u "MAYBE"), (49, u "arraycopy"), (0, u "(Ljava/lang/Object;ILjava/lang/Object;II)V"), (72, .class_ 802), (0, u "java/lang/System$Logger$Level")] 31

def k14m0 : Method := { name := "<init>", desc := "()V", sig := { parameters := [], returnType := none }, accessFlags := 2, code := none }
def k14m1 : Method := { name := "arraycopy", desc := "(Ljava/lang/Object;ILjava/lang/Object;II)V", sig := { parameters := [(.object "java/lang/Object"), .int, (.object "java/lang/Object"), .int, .int], returnType := none }, accessFlags := 265, code := none }
/-- java/lang/System -/
def k14 : Class := { plain "java/lang/System" (some 0) with
  accessFlags := 49
  interfaces := #[]
  cf := some (fileOf pool14 8 #[.nestMembers #[319, 327, 801, 108, 663, 208]] #[{ accessFlags := 2, nameIndex := 5, descriptorIndex := 6, attributes := #[] }, { accessFlags := 265, nameIndex := 727, descriptorIndex := 728, attributes := #[] }] 49 2 #[] #[{ accessFlags := 25, nameIndex := 507, descriptorIndex := 526, attributes := #[] }, { accessFlags := 25, nameIndex := 399, descriptorIndex := 155, attributes := #[] }, { accessFlags := 25, nameIndex := 396, descriptorIndex := 155, attributes := #[] }, { accessFlags := 10, nameIndex := 525, descriptorIndex := 526, attributes := #[] }, { accessFlags := 26, nameIndex := 674, descriptorIndex := 12, attributes := #[] }, { accessFlags := 26, nameIndex := 677, descriptorIndex := 12, attributes := #[] }, { accessFlags := 10, nameIndex := 11, descriptorIndex := 12, attributes := #[] }, { accessFlags := 74, nameIndex := 175, descriptorIndex := 176, attributes := #[] }, { accessFlags := 10, nameIndex := 491, descriptorIndex := 222, attributes := #[] }, { accessFlags := 74, nameIndex := 29, descriptorIndex := 30, attributes := #[] }, { accessFlags := 74, nameIndex := 154, descriptorIndex := 155, attributes := #[] }, { accessFlags := 10, nameIndex := 217, descriptorIndex := 218, attributes := #[] }, { accessFlags := 10, nameIndex := 221, descriptorIndex := 222, attributes := #[] }, { accessFlags := 8, nameIndex := 562, descriptorIndex := 563, attributes := #[] }])
  fields := #[{ name := "in", type := (.object "java/io/InputStream"), accessFlags := 25, slot := 0, constantValue := 0 }, { name := "out", type := (.object "java/io/PrintStream"), accessFlags := 25, slot := 1, constantValue := 0 }, { name := "err", type := (.object "java/io/PrintStream"), accessFlags := 25, slot := 2, constantValue := 0 }, { name := "initialIn", type := (.object "java/io/InputStream"), accessFlags := 10, slot := 3, constantValue := 0 }, { name := "NEVER", type := .int, accessFlags := 26, slot := 4, constantValue := 0 }, { name := "MAYBE", type := .int, accessFlags := 26, slot := 5, constantValue := 0 }, { name := "allowSecurityManager", type := .int, accessFlags := 10, slot := 6, constantValue := 0 }, { name := "security", type := (.object "java/lang/SecurityManager"), accessFlags := 74, slot := 7, constantValue := 0 }, { name := "notSupportedJnuEncoding", type := (.object "java/lang/String"), accessFlags := 10, slot := 8, constantValue := 0 }, { name := "cons", type := (.object "java/io/Console"), accessFlags := 74, slot := 9, constantValue := 0 }, { name := "initialErrStream", type := (.object "java/io/PrintStream"), accessFlags := 74, slot := 10, constantValue := 0 }, { name := "props", type := (.object "java/util/Properties"), accessFlags := 10, slot := 11, constantValue := 0 }, { name := "lineSeparator", type := (.object "java/lang/String"), accessFlags := 10, slot := 12, constantValue := 0 }, { name := "bootLayer", type := (.object "java/lang/ModuleLayer"), accessFlags := 8, slot := 13, constantValue := 0 }]
  methods := #[k14m0, k14m1]
  instanceTypes := #[]
  staticTypes := #[(.object "java/io/InputStream"), (.object "java/io/PrintStream"), (.object "java/io/PrintStream"), (.object "java/io/InputStream"), .int, .int, .int, (.object "java/lang/SecurityManager"), (.object "java/lang/String"), (.object "java/io/Console"), (.object "java/io/PrintStream"), (.object "java/util/Properties"), (.object "java/lang/String"), (.object "java/lang/ModuleLayer")]
  resolved := Array.replicate 834 none
  statics := none }

def pool15 : Array CpInfo := pool [(9, u "<init>"), (6, .class_ 18), (1, u "java/lang/Object"), (0, u "()V"), (1, .class_ 23), (1, u "jdk/internal/util/ArraysSupport"), (0, u "LOG2_ARRAY_LONG_INDEX_SCALE"), (0, u "I"), (2, u "U"), (0, u "Ljdk/internal/misc/Unsafe;"), (8, u "BIG_ENDIAN"), (0, u "Z"), (8, u "LOG2_BYTE_BIT_SIZE"), (4, u "LOG2_ARRAY_INT_INDEX_SCALE"), (54, u "JLA"), (0, u "Ljdk/internal/access/JavaLangAccess;"), (11, u "LOG2_ARRAY_BOOLEAN_INDEX_SCALE"), (9, u "LOG2_ARRAY_BYTE_INDEX_SCALE"), (5, u "LOG2_ARRAY_CHAR_INDEX_SCALE"), (5, u "LOG2_ARRAY_SHORT_INDEX_SCALE"), (18, u "LOG2_ARRAY_FLOAT_INDEX_SCALE"), (24, u "LOG2_ARRAY_DOUBLE_INDEX_SCALE"), (89, u "T_BOOLEAN"), (2, u "T_CHAR"), (1, u "T_FLOAT"), (1, u "T_DOUBLE"), (1, u "T_BYTE"), (1, u "T_SHORT"), (1, u "T_INT"), (1, u "T_LONG"), (1, u "SOFT_MAX_ARRAY_LENGTH")] 83

def k15m0 : Method := { name := "<init>", desc := "()V", sig := { parameters := [], returnType := none }, accessFlags := 2, code := none }
/-- jdk/internal/util/ArraysSupport -/
def k15 : Class := { plain "jdk/internal/util/ArraysSupport" (some 0) with
  accessFlags := 33
  interfaces := #[]
  cf := some (fileOf pool15 21 #[] #[{ accessFlags := 2, nameIndex := 9, descriptorIndex := 19, attributes := #[] }] 33 16 #[] #[{ accessFlags := 24, nameIndex := 28, descriptorIndex := 29, attributes := #[] }, { accessFlags := 26, nameIndex := 38, descriptorIndex := 39, attributes := #[] }, { accessFlags := 25, nameIndex := 121, descriptorIndex := 25, attributes := #[] }, { accessFlags := 25, nameIndex := 131, descriptorIndex := 25, attributes := #[] }, { accessFlags := 25, nameIndex := 137, descriptorIndex := 25, attributes := #[] }, { accessFlags := 25, nameIndex := 143, descriptorIndex := 25, attributes := #[] }, { accessFlags := 25, nameIndex := 53, descriptorIndex := 25, attributes := #[] }, { accessFlags := 25, nameIndex := 24, descriptorIndex := 25, attributes := #[] }, { accessFlags := 25, nameIndex := 162, descriptorIndex := 25, attributes := #[] }, { accessFlags := 25, nameIndex := 187, descriptorIndex := 25, attributes := #[] }, { accessFlags := 26, nameIndex := 48, descriptorIndex := 25, attributes := #[] }, { accessFlags := 25, nameIndex := 277, descriptorIndex := 25, attributes := #[] }, { accessFlags := 25, nameIndex := 280, descriptorIndex := 25, attributes := #[] }, { accessFlags := 25, nameIndex := 282, descriptorIndex := 25, attributes := #[] }, { accessFlags := 25, nameIndex := 284, descriptorIndex := 25, attributes := #[] }, { accessFlags := 25, nameIndex := 286, descriptorIndex := 25, attributes := #[] }, { accessFlags := 25, nameIndex := 288, descriptorIndex := 25, attributes := #[] }, { accessFlags := 25, nameIndex := 290, descriptorIndex := 25, attributes := #[] }, { accessFlags := 25, nameIndex := 292, descriptorIndex := 25, attributes := #[] }, { accessFlags := 26, nameIndex := 108, descriptorIndex := 109, attributes := #[] }, { accessFlags := 25, nameIndex := 294, descriptorIndex := 25, attributes := #[] }])
  fields := #[{ name := "U", type := (.object "jdk/internal/misc/Unsafe"), accessFlags := 24, slot := 0, constantValue := 0 }, { name := "BIG_ENDIAN", type := .boolean, accessFlags := 26, slot := 1, constantValue := 0 }, { name := "LOG2_ARRAY_BOOLEAN_INDEX_SCALE", type := .int, accessFlags := 25, slot := 2, constantValue := 0 }, { name := "LOG2_ARRAY_BYTE_INDEX_SCALE", type := .int, accessFlags := 25, slot := 3, constantValue := 0 }, { name := "LOG2_ARRAY_CHAR_INDEX_SCALE", type := .int, accessFlags := 25, slot := 4, constantValue := 0 }, { name := "LOG2_ARRAY_SHORT_INDEX_SCALE", type := .int, accessFlags := 25, slot := 5, constantValue := 0 }, { name := "LOG2_ARRAY_INT_INDEX_SCALE", type := .int, accessFlags := 25, slot := 6, constantValue := 0 }, { name := "LOG2_ARRAY_LONG_INDEX_SCALE", type := .int, accessFlags := 25, slot := 7, constantValue := 0 }, { name := "LOG2_ARRAY_FLOAT_INDEX_SCALE", type := .int, accessFlags := 25, slot := 8, constantValue := 0 }, { name := "LOG2_ARRAY_DOUBLE_INDEX_SCALE", type := .int, accessFlags := 25, slot := 9, constantValue := 0 }, { name := "LOG2_BYTE_BIT_SIZE", type := .int, accessFlags := 26, slot := 10, constantValue := 0 }, { name := "T_BOOLEAN", type := .int, accessFlags := 25, slot := 11, constantValue := 0 }, { name := "T_CHAR", type := .int, accessFlags := 25, slot := 12, constantValue := 0 }, { name := "T_FLOAT", type := .int, accessFlags := 25, slot := 13, constantValue := 0 }, { name := "T_DOUBLE", type := .int, accessFlags := 25, slot := 14, constantValue := 0 }, { name := "T_BYTE", type := .int, accessFlags := 25, slot := 15, constantValue := 0 }, { name := "T_SHORT", type := .int, accessFlags := 25, slot := 16, constantValue := 0 }, { name := "T_INT", type := .int, accessFlags := 25, slot := 17, constantValue := 0 }, { name := "T_LONG", type := .int, accessFlags := 25, slot := 18, constantValue := 0 }, { name := "JLA", type := (.object "jdk/internal/access/JavaLangAccess"), accessFlags := 26, slot := 19, constantValue := 0 }, { name := "SOFT_MAX_ARRAY_LENGTH", type := .int, accessFlags := 25, slot := 20, constantValue := 0 }]
  methods := #[k15m0]
  instanceTypes := #[]
  staticTypes := #[(.object "jdk/internal/misc/Unsafe"), .boolean, .int, .int, .int, .int, .int, .int, .int, .int, .int, .int, .int, .int, .int, .int, .int, .int, .int, (.object "jdk/internal/access/JavaLangAccess"), .int]
  resolved := Array.replicate 378 none
  statics := none }

def pool16 : Array CpInfo := pool [(1, u "java/lang/Cloneable"), (0, .class_ 1), (0, u "java/lang/Object"), (0, .class_ 3)] 3

/-- java/lang/Cloneable -/
def k16 : Class := { plain "java/lang/Cloneable" (some 0) with
  accessFlags := 1537
  interfaces := #[]
  cf := some (fileOf pool16 2 #[] #[] 1537 4 #[] #[])
  fields := #[]
  methods := #[]
  instanceTypes := #[]
  staticTypes := #[]
  resolved := Array.replicate 8 none
  statics := none }

/-- the primitive byte -/
def k17 : Class := { plain "byte" none with kind := .primitive 'B', accessFlags := 0x411 }
/-- [B -/
def k18 : Class := { plain "[B" (some 0) with kind := .array 17 .byte, interfaces := #[16, 2], accessFlags := 1041 }

/-- the primitive char -/
def k19 : Class := { plain "char" none with kind := .primitive 'C', accessFlags := 0x411 }
/-- [C -/
def k20 : Class := { plain "[C" (some 0) with kind := .array 19 .char, interfaces := #[16, 2], accessFlags := 1041 }

/-- the primitive int -/
def k21 : Class := { plain "int" none with kind := .primitive 'I', accessFlags := 0x411 }
/-- [I -/
def k22 : Class := { plain "[I" (some 0) with kind := .array 21 .int, interfaces := #[16, 2], accessFlags := 1041 }

def heap : Heap := #[{ cls := 7, slots := #[.long 0, .int 1, .null, .int 0, .null, .int 0, .int 0], vm := .statics 7 },
  { cls := 10, slots := #[.null, .null, .null], vm := .statics 10 }]
def classes : Array Class := #[k0, k1, k2, k3, k4, k5, k6, k7, k8, k9, k10, k11, k12, k13, k14, k15, k16, k17, k18, k19, k20, k21, k22]
def interned : List (Array UInt16 × Addr) := []
def slotsUsed : Nat := 10
def theMethod : MethodId := ⟨1, 1⟩
def args0 : Array Value := #[.int 5, .int 6, .int 7]
def aboutOver (below : List Frame) : State where
  vm := { classes := classes, interned := interned.toArray }
  heap := heap
  slotsUsed := slotsUsed
  threads := #[{ frames := .invoking theMethod args0 :: below }]
def below0 : List Frame := [.native { method := ⟨0, 0⟩, args := #[] }]
def about1 : State := aboutOver below0
def p0 : Program := .bare "" "" ""
def e0 : Env := launch0.env 0 0 0
theorem w_frames : about1.frames = Frame.invoking theMethod args0 :: below0 := rfl
set_option maxRecDepth 65536 in
theorem w_args : argsFit about1.vm theMethod args0 = true := by decide +kernel
set_option maxRecDepth 65536 in
theorem w_heap : heapFits about1 = true := by decide +kernel
set_option maxRecDepth 65536 in
theorem w_runnable : about1.curStatus? = some .runnable := by decide +kernel
set_option maxRecDepth 65536 in
theorem w_alone : about1.alone = true := by decide +kernel
set_option maxRecDepth 65536 in
theorem w_named : about1.methodNamed? x = some theMethod := by decide +kernel
set_option maxRecDepth 65536 in
theorem w_hears : about1.hears theMethod below0 = true := by decide +kernel
set_option maxRecDepth 65536 in
theorem w_ripe : about1.ripe theMethod args0 below0 = true := by decide +kernel
theorem w_running : about1.status = .running := rfl
set_option maxRecDepth 65536 in
theorem w_room : about1.hasRoom e0.platform room_1 = true :=
  launch0.hasRoom_least _ room_1 (by decide +kernel) (by decide +kernel) (by decide +kernel) (by decide +kernel) (by decide +kernel) (by decide +kernel)
theorem allAtoms_all (ts : List Jvm.Cond) (a : Array Jvm.Value) (st : Jvm.State) : (allAtoms ts).before a st = ts.all (fun c => c.before a st) := by
  induction ts with
  | nil => rfl
  | cons c t ih =>
    show (Jvm.Cond.and c (allAtoms t)).before a st = _
    rw [Jvm.Cond.before_and, ih, List.all_cons]
def words1 : List Jvm.Cond := Jvm.Cond.code x code maxLocals ret :: tables_1
/-- a 'code' word, met by the world's own term for the bytes: nothing is compared byte by byte -/
theorem code_word {y : MethodName} {bytes : ByteArray} {mx : Nat} {rt : Option FieldType} {a : Array Value} {s : State} {m : MethodId} {meth : Method} {c : Code} (h1 : s.methodNamed? y = some m) (h2 : s.vm.method? m = some meth) (h3 : meth.code = some c) (h4 : c.code = bytes)
    (h5 : (c.maxLocals == mx && c.exceptionTable.isEmpty && decide (c.maxStack ≤ mostOperands) && decide (meth.sig.returnType = rt) && !meth.locks && decide (parseMethodDescriptor y.desc = some meth.sig)) = true) : (Jvm.Cond.code y bytes mx rt).before a s = true := by
  simp only [Bool.and_eq_true, beq_iff_eq, Bool.not_eq_true', decide_eq_true_eq] at h5
  obtain ⟨⟨⟨⟨⟨g1, g2⟩, g3⟩, g4⟩, g5⟩, g6⟩ := h5
  simp [Cond.before, Cond.holds, Cond.value, h1, h2, h3, h4, g1, g2, g3, g4, g5, g6]
def isCode : Jvm.Cond → Bool
  | .code _ _ _ _ => true
  | _ => false
theorem all_split {L : List Jvm.Cond} {P : Jvm.Cond → Bool} (h1 : L.all (fun c => isCode c || P c) = true) (h2 : ∀ c ∈ L.filter isCode, P c = true) : L.all P = true := by
  refine List.all_eq_true.mpr fun c hc => ?_
  have h := List.all_eq_true.mp h1 c hc
  rcases Bool.eq_false_or_eq_true (isCode c) with hi | hi
  · exact h2 c (List.mem_filter.mpr ⟨hc, hi⟩)
  · simpa [hi] using h
set_option maxRecDepth 65536 in
theorem w_c0 : (Jvm.Cond.code x code maxLocals ret).before args0 about1 = true := code_word (m := ⟨1, 1⟩) (meth := k1m1) (c := k1c1) (by decide +kernel) rfl rfl rfl (by decide +kernel)
set_option maxRecDepth 65536 in
theorem w_c1 : (Jvm.Cond.code ({ cls := "com/example/coretally/coretally/store/SampleKeyNamesClusterPinLaw", name := "make", desc := "(I)[C" } : Jvm.MethodName) method_3_code (1 : Nat) (Option.some (Jvm.ClassFile.FieldType.array Jvm.ClassFile.FieldType.char))).before args0 about1 = true := code_word (m := ⟨1, 2⟩) (meth := k1m2) (c := k1c2) (by decide +kernel) rfl rfl rfl (by decide +kernel)
set_option maxRecDepth 65536 in
theorem w_c2 : (Jvm.Cond.code ({ cls := "java/lang/String", name := "<init>", desc := "([C)V" } : Jvm.MethodName) jdk_42_method_3_code (2 : Nat) (Option.none : Option Jvm.ClassFile.FieldType)).before args0 about1 = true := code_word (m := ⟨7, 1⟩) (meth := k7m1) (c := k7c1) (by decide +kernel) rfl rfl rfl (by decide +kernel)
set_option maxRecDepth 65536 in
theorem w_c3 : (Jvm.Cond.code ({ cls := "java/lang/String", name := "<init>", desc := "([CIILjava/lang/Void;)V" } : Jvm.MethodName) jdk_42_method_149_code (6 : Nat) (Option.none : Option Jvm.ClassFile.FieldType)).before args0 about1 = true := code_word (m := ⟨7, 6⟩) (meth := k7m6) (c := k7c6) (by decide +kernel) rfl rfl rfl (by decide +kernel)
set_option maxRecDepth 65536 in
theorem w_c4 : (Jvm.Cond.code ({ cls := "java/lang/Object", name := "<init>", desc := "()V" } : Jvm.MethodName) object_method_1_code (1 : Nat) (Option.none : Option Jvm.ClassFile.FieldType)).before args0 about1 = true := code_word (m := ⟨0, 0⟩) (meth := k0m0) (c := k0c0) (by decide +kernel) rfl rfl rfl (by decide +kernel)
set_option maxRecDepth 65536 in
theorem w_c5 : (Jvm.Cond.code ({ cls := "com/example/coretally/coretally/store/SampleKey", name := "namesCluster", desc := "(Ljava/lang/String;)Z" } : Jvm.MethodName) prog_78_method_6_code (1 : Nat) (Option.some Jvm.ClassFile.FieldType.boolean)).before args0 about1 = true := code_word (m := ⟨8, 2⟩) (meth := k8m2) (c := k8c2) (by decide +kernel) rfl rfl rfl (by decide +kernel)
set_option maxRecDepth 65536 in
theorem w_c6 : (Jvm.Cond.code ({ cls := "java/lang/String", name := "length", desc := "()I" } : Jvm.MethodName) jdk_42_method_54_code (1 : Nat) (Option.some Jvm.ClassFile.FieldType.int)).before args0 about1 = true := code_word (m := ⟨7, 2⟩) (meth := k7m2) (c := k7c2) (by decide +kernel) rfl rfl rfl (by decide +kernel)
set_option maxRecDepth 65536 in
theorem w_c7 : (Jvm.Cond.code ({ cls := "java/lang/String", name := "coder", desc := "()B" } : Jvm.MethodName) jdk_42_method_152_code (1 : Nat) (Option.some Jvm.ClassFile.FieldType.byte)).before args0 about1 = true := code_word (m := ⟨7, 8⟩) (meth := k7m8) (c := k7c8) (by decide +kernel) rfl rfl rfl (by decide +kernel)
set_option maxRecDepth 65536 in
theorem w_c8 : (Jvm.Cond.code ({ cls := "java/lang/StringUTF16", name := "compress", desc := "([CII)[B" } : Jvm.MethodName) jdk_52_method_16_code (6 : Nat) (Option.some (Jvm.ClassFile.FieldType.array Jvm.ClassFile.FieldType.byte))).before args0 about1 = true := code_word (m := ⟨9, 2⟩) (meth := k9m2) (c := k9c2) (by decide +kernel) rfl rfl rfl (by decide +kernel)
set_option maxRecDepth 65536 in
theorem w_c9 : (Jvm.Cond.code ({ cls := "java/lang/StringUTF16", name := "compress", desc := "([CI[BII)I" } : Jvm.MethodName) jdk_52_method_21_code (7 : Nat) (Option.some Jvm.ClassFile.FieldType.int)).before args0 about1 = true := code_word (m := ⟨9, 3⟩) (meth := k9m3) (c := k9c3) (by decide +kernel) rfl rfl rfl (by decide +kernel)
set_option maxRecDepth 65536 in
theorem w_c10 : (Jvm.Cond.code ({ cls := "java/lang/StringUTF16", name := "coderFromArrayLen", desc := "([BI)B" } : Jvm.MethodName) jdk_52_method_15_code (2 : Nat) (Option.some Jvm.ClassFile.FieldType.byte)).before args0 about1 = true := code_word (m := ⟨9, 1⟩) (meth := k9m1) (c := k9c1) (by decide +kernel) rfl rfl rfl (by decide +kernel)
set_option maxRecDepth 65536 in
theorem w_c11 : (Jvm.Cond.code ({ cls := "com/example/coretally/coretally/store/SampleKey", name := "cluster", desc := "(Ljava/lang/String;)Ljava/lang/String;" } : Jvm.MethodName) prog_78_method_5_code (1 : Nat) (Option.some (Jvm.ClassFile.FieldType.object "java/lang/String"))).before args0 about1 = true := code_word (m := ⟨8, 1⟩) (meth := k8m1) (c := k8c1) (by decide +kernel) rfl rfl rfl (by decide +kernel)
set_option maxRecDepth 65536 in
theorem w_c12 : (Jvm.Cond.code ({ cls := "java/lang/String", name := "substring", desc := "(I)Ljava/lang/String;" } : Jvm.MethodName) jdk_42_method_91_code (2 : Nat) (Option.some (Jvm.ClassFile.FieldType.object "java/lang/String"))).before args0 about1 = true := code_word (m := ⟨7, 4⟩) (meth := k7m4) (c := k7c4) (by decide +kernel) rfl rfl rfl (by decide +kernel)
set_option maxRecDepth 65536 in
theorem w_c13 : (Jvm.Cond.code ({ cls := "java/lang/String", name := "substring", desc := "(II)Ljava/lang/String;" } : Jvm.MethodName) jdk_42_method_92_code (5 : Nat) (Option.some (Jvm.ClassFile.FieldType.object "java/lang/String"))).before args0 about1 = true := code_word (m := ⟨7, 5⟩) (meth := k7m5) (c := k7c5) (by decide +kernel) rfl rfl rfl (by decide +kernel)
set_option maxRecDepth 65536 in
theorem w_c14 : (Jvm.Cond.code ({ cls := "java/lang/String", name := "checkBoundsBeginEnd", desc := "(III)V" } : Jvm.MethodName) jdk_42_method_158_code (3 : Nat) (Option.none : Option Jvm.ClassFile.FieldType)).before args0 about1 = true := code_word (m := ⟨7, 10⟩) (meth := k7m10) (c := k7c10) (by decide +kernel) rfl rfl rfl (by decide +kernel)
set_option maxRecDepth 65536 in
theorem w_c15 : (Jvm.Cond.code ({ cls := "jdk/internal/util/Preconditions", name := "checkFromToIndex", desc := "(IIILjava/util/function/BiFunction;)I" } : Jvm.MethodName) jdk_41_method_12_code (4 : Nat) (Option.some Jvm.ClassFile.FieldType.int)).before args0 about1 = true := code_word (m := ⟨10, 1⟩) (meth := k10m1) (c := k10c1) (by decide +kernel) rfl rfl rfl (by decide +kernel)
set_option maxRecDepth 65536 in
theorem w_c16 : (Jvm.Cond.code ({ cls := "java/lang/String", name := "isLatin1", desc := "()Z" } : Jvm.MethodName) jdk_42_method_154_code (1 : Nat) (Option.some Jvm.ClassFile.FieldType.boolean)).before args0 about1 = true := code_word (m := ⟨7, 9⟩) (meth := k7m9) (c := k7c9) (by decide +kernel) rfl rfl rfl (by decide +kernel)
set_option maxRecDepth 65536 in
theorem w_c17 : (Jvm.Cond.code ({ cls := "java/lang/StringLatin1", name := "newString", desc := "([BII)Ljava/lang/String;" } : Jvm.MethodName) jdk_43_method_47_code (3 : Nat) (Option.some (Jvm.ClassFile.FieldType.object "java/lang/String"))).before args0 about1 = true := code_word (m := ⟨11, 1⟩) (meth := k11m1) (c := k11c1) (by decide +kernel) rfl rfl rfl (by decide +kernel)
set_option maxRecDepth 65536 in
theorem w_c18 : (Jvm.Cond.code ({ cls := "java/lang/String", name := "isEmpty", desc := "()Z" } : Jvm.MethodName) jdk_42_method_55_code (1 : Nat) (Option.some Jvm.ClassFile.FieldType.boolean)).before args0 about1 = true := code_word (m := ⟨7, 3⟩) (meth := k7m3) (c := k7c3) (by decide +kernel) rfl rfl rfl (by decide +kernel)
set_option maxRecDepth 65536 in
theorem w_c19 : (Jvm.Cond.code ({ cls := "java/util/Arrays", name := "copyOfRange", desc := "([BII)[B" } : Jvm.MethodName) jdk_65_method_132_code (3 : Nat) (Option.some (Jvm.ClassFile.FieldType.array Jvm.ClassFile.FieldType.byte))).before args0 about1 = true := code_word (m := ⟨12, 2⟩) (meth := k12m2) (c := k12c2) (by decide +kernel) rfl rfl rfl (by decide +kernel)
set_option maxRecDepth 65536 in
theorem w_c20 : (Jvm.Cond.code ({ cls := "java/util/Arrays", name := "copyOfRangeByte", desc := "([BII)[B" } : Jvm.MethodName) jdk_65_method_133_code (5 : Nat) (Option.some (Jvm.ClassFile.FieldType.array Jvm.ClassFile.FieldType.byte))).before args0 about1 = true := code_word (m := ⟨12, 3⟩) (meth := k12m3) (c := k12c3) (by decide +kernel) rfl rfl rfl (by decide +kernel)
set_option maxRecDepth 65536 in
theorem w_c21 : (Jvm.Cond.code ({ cls := "java/util/Arrays", name := "checkLength", desc := "(II)V" } : Jvm.MethodName) jdk_65_method_131_code (2 : Nat) (Option.none : Option Jvm.ClassFile.FieldType)).before args0 about1 = true := code_word (m := ⟨12, 1⟩) (meth := k12m1) (c := k12c1) (by decide +kernel) rfl rfl rfl (by decide +kernel)
set_option maxRecDepth 65536 in
theorem w_c22 : (Jvm.Cond.code ({ cls := "java/lang/Math", name := "min", desc := "(II)I" } : Jvm.MethodName) jdk_29_method_69_code (2 : Nat) (Option.some Jvm.ClassFile.FieldType.int)).before args0 about1 = true := code_word (m := ⟨13, 1⟩) (meth := k13m1) (c := k13c1) (by decide +kernel) rfl rfl rfl (by decide +kernel)
set_option maxRecDepth 65536 in
theorem w_c23 : (Jvm.Cond.code ({ cls := "java/lang/String", name := "<init>", desc := "([BB)V" } : Jvm.MethodName) jdk_42_method_151_code (3 : Nat) (Option.none : Option Jvm.ClassFile.FieldType)).before args0 about1 = true := code_word (m := ⟨7, 7⟩) (meth := k7m7) (c := k7c7) (by decide +kernel) rfl rfl rfl (by decide +kernel)
def codes1 : List Jvm.Cond := [Jvm.Cond.code x code maxLocals ret, Jvm.Cond.code ({ cls := "com/example/coretally/coretally/store/SampleKeyNamesClusterPinLaw", name := "make", desc := "(I)[C" } : Jvm.MethodName) method_3_code (1 : Nat) (Option.some (Jvm.ClassFile.FieldType.array Jvm.ClassFile.FieldType.char)), Jvm.Cond.code ({ cls := "java/lang/String", name := "<init>", desc := "([C)V" } : Jvm.MethodName) jdk_42_method_3_code (2 : Nat) (Option.none : Option Jvm.ClassFile.FieldType), Jvm.Cond.code ({ cls := "java/lang/String", name := "<init>", desc := "([CIILjava/lang/Void;)V" } : Jvm.MethodName) jdk_42_method_149_code (6 : Nat) (Option.none : Option Jvm.ClassFile.FieldType), Jvm.Cond.code ({ cls := "java/lang/Object", name := "<init>", desc := "()V" } : Jvm.MethodName) object_method_1_code (1 : Nat) (Option.none : Option Jvm.ClassFile.FieldType), Jvm.Cond.code ({ cls := "com/example/coretally/coretally/store/SampleKey", name := "namesCluster", desc := "(Ljava/lang/String;)Z" } : Jvm.MethodName) prog_78_method_6_code (1 : Nat) (Option.some Jvm.ClassFile.FieldType.boolean), Jvm.Cond.code ({ cls := "java/lang/String", name := "length", desc := "()I" } : Jvm.MethodName) jdk_42_method_54_code (1 : Nat) (Option.some Jvm.ClassFile.FieldType.int), Jvm.Cond.code ({ cls := "java/lang/String", name := "coder", desc := "()B" } : Jvm.MethodName) jdk_42_method_152_code (1 : Nat) (Option.some Jvm.ClassFile.FieldType.byte), Jvm.Cond.code ({ cls := "java/lang/StringUTF16", name := "compress", desc := "([CII)[B" } : Jvm.MethodName) jdk_52_method_16_code (6 : Nat) (Option.some (Jvm.ClassFile.FieldType.array Jvm.ClassFile.FieldType.byte)), Jvm.Cond.code ({ cls := "java/lang/StringUTF16", name := "compress", desc := "([CI[BII)I" } : Jvm.MethodName) jdk_52_method_21_code (7 : Nat) (Option.some Jvm.ClassFile.FieldType.int), Jvm.Cond.code ({ cls := "java/lang/StringUTF16", name := "coderFromArrayLen", desc := "([BI)B" } : Jvm.MethodName) jdk_52_method_15_code (2 : Nat) (Option.some Jvm.ClassFile.FieldType.byte), Jvm.Cond.code ({ cls := "com/example/coretally/coretally/store/SampleKey", name := "cluster", desc := "(Ljava/lang/String;)Ljava/lang/String;" } : Jvm.MethodName) prog_78_method_5_code (1 : Nat) (Option.some (Jvm.ClassFile.FieldType.object "java/lang/String")), Jvm.Cond.code ({ cls := "java/lang/String", name := "substring", desc := "(I)Ljava/lang/String;" } : Jvm.MethodName) jdk_42_method_91_code (2 : Nat) (Option.some (Jvm.ClassFile.FieldType.object "java/lang/String")), Jvm.Cond.code ({ cls := "java/lang/String", name := "substring", desc := "(II)Ljava/lang/String;" } : Jvm.MethodName) jdk_42_method_92_code (5 : Nat) (Option.some (Jvm.ClassFile.FieldType.object "java/lang/String")), Jvm.Cond.code ({ cls := "java/lang/String", name := "checkBoundsBeginEnd", desc := "(III)V" } : Jvm.MethodName) jdk_42_method_158_code (3 : Nat) (Option.none : Option Jvm.ClassFile.FieldType), Jvm.Cond.code ({ cls := "jdk/internal/util/Preconditions", name := "checkFromToIndex", desc := "(IIILjava/util/function/BiFunction;)I" } : Jvm.MethodName) jdk_41_method_12_code (4 : Nat) (Option.some Jvm.ClassFile.FieldType.int), Jvm.Cond.code ({ cls := "java/lang/String", name := "isLatin1", desc := "()Z" } : Jvm.MethodName) jdk_42_method_154_code (1 : Nat) (Option.some Jvm.ClassFile.FieldType.boolean), Jvm.Cond.code ({ cls := "java/lang/StringLatin1", name := "newString", desc := "([BII)Ljava/lang/String;" } : Jvm.MethodName) jdk_43_method_47_code (3 : Nat) (Option.some (Jvm.ClassFile.FieldType.object "java/lang/String")), Jvm.Cond.code ({ cls := "java/lang/String", name := "isEmpty", desc := "()Z" } : Jvm.MethodName) jdk_42_method_55_code (1 : Nat) (Option.some Jvm.ClassFile.FieldType.boolean), Jvm.Cond.code ({ cls := "java/util/Arrays", name := "copyOfRange", desc := "([BII)[B" } : Jvm.MethodName) jdk_65_method_132_code (3 : Nat) (Option.some (Jvm.ClassFile.FieldType.array Jvm.ClassFile.FieldType.byte)), Jvm.Cond.code ({ cls := "java/util/Arrays", name := "copyOfRangeByte", desc := "([BII)[B" } : Jvm.MethodName) jdk_65_method_133_code (5 : Nat) (Option.some (Jvm.ClassFile.FieldType.array Jvm.ClassFile.FieldType.byte)), Jvm.Cond.code ({ cls := "java/util/Arrays", name := "checkLength", desc := "(II)V" } : Jvm.MethodName) jdk_65_method_131_code (2 : Nat) (Option.none : Option Jvm.ClassFile.FieldType), Jvm.Cond.code ({ cls := "java/lang/Math", name := "min", desc := "(II)I" } : Jvm.MethodName) jdk_29_method_69_code (2 : Nat) (Option.some Jvm.ClassFile.FieldType.int), Jvm.Cond.code ({ cls := "java/lang/String", name := "<init>", desc := "([BB)V" } : Jvm.MethodName) jdk_42_method_151_code (3 : Nat) (Option.none : Option Jvm.ClassFile.FieldType)]
set_option maxRecDepth 65536 in
theorem codes_eq : words1.filter isCode = codes1 := rfl
theorem w_codes : ∀ c ∈ words1.filter isCode, c.before args0 about1 = true := by
  rw [codes_eq]
  intro c hc
  simp only [codes1, List.mem_cons, List.not_mem_nil, or_false] at hc
  rcases hc with rfl | rfl | rfl | rfl | rfl | rfl | rfl | rfl | rfl | rfl | rfl | rfl | rfl | rfl | rfl | rfl | rfl | rfl | rfl | rfl | rfl | rfl | rfl | rfl
  · exact w_c0
  · exact w_c1
  · exact w_c2
  · exact w_c3
  · exact w_c4
  · exact w_c5
  · exact w_c6
  · exact w_c7
  · exact w_c8
  · exact w_c9
  · exact w_c10
  · exact w_c11
  · exact w_c12
  · exact w_c13
  · exact w_c14
  · exact w_c15
  · exact w_c16
  · exact w_c17
  · exact w_c18
  · exact w_c19
  · exact w_c20
  · exact w_c21
  · exact w_c22
  · exact w_c23
set_option maxRecDepth 65536 in
theorem w_t1 : (words1.take 24).all (fun c => isCode c || c.before args0 about1) = true := by decide +kernel
set_option maxRecDepth 65536 in
theorem w_t2 : ((words1.drop 24).take 24).all (fun c => isCode c || c.before args0 about1) = true := by decide +kernel
set_option maxRecDepth 65536 in
theorem w_t3 : (((words1.drop 24).drop 24).take 24).all (fun c => isCode c || c.before args0 about1) = true := by decide +kernel
set_option maxRecDepth 65536 in
theorem w_t4 : ((((words1.drop 24).drop 24).drop 24).take 24).all (fun c => isCode c || c.before args0 about1) = true := by decide +kernel
set_option maxRecDepth 65536 in
theorem w_t5 : ((((words1.drop 24).drop 24).drop 24).drop 24).all (fun c => isCode c || c.before args0 about1) = true := by decide +kernel
theorem w_tables : (allAtoms (Jvm.Cond.code x code maxLocals ret :: tables_1)).before args0 about1 = true := by
  rw [allAtoms_all]
  show words1.all (fun c => c.before args0 about1) = true
  refine all_split ?_ w_codes
  rw [← List.take_append_drop 24 words1, List.all_append, w_t1, ← List.take_append_drop 24 (words1.drop 24), List.all_append, w_t2, ← List.take_append_drop 24 ((words1.drop 24).drop 24), List.all_append, w_t3, ← List.take_append_drop 24 (((words1.drop 24).drop 24).drop 24), List.all_append, w_t4, w_t5]
  rfl
set_option maxRecDepth 65536 in
theorem w_rest : rest_1_c.before args0 about1 = true := by decide +kernel
set_option maxRecDepth 65536 in
theorem w_case : (Jvm.Cond.and given_1 narrow_1).before args0 about1 = true := by decide +kernel
set_option maxRecDepth 65536 in
theorem w_consts : constsHeld consts_1 about1 := Jvm.Lit.constsHeldB_iff.mp (by decide +kernel)
theorem w_applies : (headSpec (Jvm.Cond.code x code maxLocals ret :: tables_1) room_1).applies x e0.platform about1 = true :=
  (Spec.applies_iff w_frames).mpr ⟨w_running, w_runnable, w_alone, w_named, w_hears, w_ripe, w_room, w_tables⟩
theorem atStart : AtStart classFile x code maxLocals ret World_1 tables_1 room_1 Calls_1 rest_1 Pre_1 launch0 p0 e0 about1 theMethod args0 below0 :=
  ⟨lists_1, trivial, launch0.admits_env _ _ _, launch0.least_env, fairChoices_fair.cas, fairChoices_fair.clock, w_frames, w_args, w_heap, w_applies, ⟨w_consts, trivial⟩, w_rest, w_case⟩
end start1
theorem witness_1 : WitnessClaimed_1 := ⟨start1.p0, start1.e0, start1.about1, start1.theMethod, start1.args0, start1.below0, start1.atStart⟩
end Jvm.Pilot.@@N@@

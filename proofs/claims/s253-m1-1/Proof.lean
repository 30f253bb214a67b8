import JvmDerived
import JvmDerived.Pilot.@@N@@Statement
import JvmDerived.Pilot.@@N@@Code
set_option linter.unusedVariables false
set_option linter.unusedSimpArgs false
namespace Jvm.RoadKit
open Sem ClassFile Op Lib Jvm.Stand Jvm.Free Jvm.LawKit
section New
variable {p : Program} {l : Launch} {e : Env} {R : Room} {s : State} {m : MethodId} {args : Array Value} {below : List Frame} {meth : Method} {c : Code} {T : State} {locs : List Loc} {cells slots : Nat}
theorem retI (X : Stand p l e R s m args below meth c T locs cells slots) (hx : p.tables.exec = Jvm.exec) {pc : Nat} {Ls : Array Slot} {z : Int32} {rest : List Value} (hret : meth.sig.returnType = some .int) (hd : decode c.code pc = .ok (.ireturn, 1)) {fs : List Frame}
    (hl : ∀ (f : JFrame) (acts : List Action), f.method = m → f.locked = none → f.entered = [] → (doReturn e (T.setTop f) acts (some (.int z))).1 = T.setFrames fs) : Steps p.tables e below (T.setTop (mkF m pc Ls (.int z :: rest))) (T.setFrames fs) := by
  have hm' : T.vm.method? m = some meth := X.method'
  have hn : narrow .int (.int z) = .int z := rfl
  show Steps p.tables e below (T.setTop { method := m, pc := pc, locals := Ls, stack := _ :: rest, locked := none }) _
  jvm_step X.here [X.here.top, hx, hd, hm', hret, hn]
  first | (intro acts; rw [hl _ acts rfl rfl rfl]) | rw [hl _ _ rfl rfl rfl]
  exact Steps.refl _
end New
end Jvm.RoadKit
namespace Jvm.Pilot.@@N@@
open Jvm Jvm.ClassFile Sem Op Lib Jvm.Free Jvm.Stand Jvm.LawKit Jvm.RoadKit Bundle Jvm.Pilot.@@N@@.Jvm.D
/-- an array of n places, place j holds f j -/
def Av (Z : State) (h : Heap) (a : Addr) (ty : FieldType) (n : Nat) (f : Nat → Value) : Prop := ∃ cl : Cell, Arr Z h a cl ty ∧ cl.slots.size = n ∧ ∀ j, j < n → cl.slots[j]? = some (f j)
theorem Av.ext {Z : State} {h h' : Heap} {a : Addr} {ty : FieldType} {n : Nat} {f : Nat → Value} (A : Av Z h a ty n f) (E : Ext h h') : Av Z h' a ty n f := by obtain ⟨c, A, r⟩ := A; exact ⟨c, A.ext E, r⟩
theorem Av.lt {Z : State} {h : Heap} {a : Addr} {ty : FieldType} {n : Nat} {f : Nat → Value} (A : Av Z h a ty n f) : a < h.size := by obtain ⟨c, A, r⟩ := A; exact A.lt
theorem Av.other {Z : State} {h h' : Heap} {a b : Addr} {ty : FieldType} {n sl : Nat} {v : Value} {f : Nat → Value} (A : Av Z h b ty n f) (W : Wr h h' a sl v) (q : b ≠ a) : Av Z h' b ty n f := by obtain ⟨c, A, r⟩ := A; exact ⟨c, A.other W q, r⟩
theorem Av.keep {Z : State} {h h' : Heap} {a : Addr} {ws : List Addr} {ty : FieldType} {n : Nat} {f : Nat → Value} (A : Av Z h a ty n f) (K : Keep h h' ws) (q : a ∉ ws) : Av Z h' a ty n f := by obtain ⟨c, A, r⟩ := A; exact ⟨c, ⟨K.2.1 a c A.1 q, A.2⟩, r⟩
theorem Av.congr {Z : State} {h : Heap} {a : Addr} {ty : FieldType} {n : Nat} {f f' : Nat → Value} (e : ∀ j, j < n → f' j = f j) (A : Av Z h a ty n f) : Av Z h a ty n f' := by obtain ⟨c, A, S, H⟩ := A; exact ⟨c, A, S, fun j hj => by rw [H j hj, e j hj]⟩
theorem Av.new {Z : State} {h : Heap} {a : Addr} {k : ClassId} {ty : FieldType} {z : Int32} {n : Nat} (A : Arr Z h a (newA k ty z) ty) (q : ¬ z < 0) (e : z.toNatClampNeg = n) : Av Z h a ty n (fun _ => defaultValue ty) := by
  obtain ⟨c, B, -, S, -, H, -⟩ := Arv.new A q
  exact ⟨c, B, S.trans e, fun j hj => by have := H j (by rw [S, e]; exact hj); simpa using this⟩
theorem Av.set {Z : State} {h h' : Heap} {a : Addr} {ty : FieldType} {n i : Nat} {f : Nat → Value} {cl : Cell} {j : Int32} {v w : Value} (A : Arr Z h a cl ty) (S : cl.slots.size = n) (H : ∀ j, j < n → cl.slots[j]? = some (f j)) (W : Wr h h' a j.toNatClampNeg v) (hj : j.toNatClampNeg = i) (e : v = w) : Av Z h' a ty n (fun j => if j = i then w else f j) := by
  subst e hj
  refine ⟨_, A.same W, by simp [Cell.setSlot, S], fun k hk => ?_⟩
  show (cl.slots.setIfInBounds j.toNatClampNeg v)[k]? = _
  rw [Array.getElem?_setIfInBounds]
  by_cases q : j.toNatClampNeg = k
  · subst q; simp [S, hk]
  · rw [if_neg q, H k hk]
    show some (f k) = some (if k = j.toNatClampNeg then v else f k)
    rw [if_neg (fun u => q (Eq.symm u))]
def own_bitv (u i n : Int32) : Int32 := if i < n ∧ ¬ (((u.toUInt32 >>> (i &&& 31).toUInt32).toInt32 &&& (1 : Int32)) = (0 : Int32)) then 1 else 0
def own_b (cf : Nat → Int32) (j : Nat) : Value := .int (cf j)
def own_upto (cf : Nat → Int32) (k : Nat) : Nat → Int32 := fun j => if j < k then cf j else 0
def own_upd (g : Nat → Int32) (k : Nat) (y : Int32) : Nat → Int32 := fun j => if j = k then y else g j
def own_cnt (cf : Nat → Int32) : Nat → Nat
  | 0 => 0
  | k + 1 => own_cnt cf k + (if cf k = 0 then 0 else 1)
theorem own_small {i : Nat} (h : i ≤ 6) : (Int32.ofNat i).toInt = i := Int32.toInt_ofNat_of_lt (by omega)
theorem own_lt {i n : Nat} (hi : i ≤ 6) (hn : n ≤ 6) : Int32.ofNat i < Int32.ofNat n ↔ i < n := by rw [Int32.lt_iff_toInt_lt, own_small hi, own_small hn]; omega
theorem own_z : (0 : Int32).toInt = 0 := by decide
theorem own_nn {i : Nat} (h : i ≤ 6) : ¬ Int32.ofNat i < 0 := by rw [Int32.lt_iff_toInt_lt, own_small h, own_z]; omega
theorem own_cv {i : Nat} (h : i ≤ 6) : (Int32.ofNat i).toNatClampNeg = i := by show (Int32.ofNat i).toInt.toNat = i; rw [own_small h]; omega
theorem own_suc (i : Nat) : Int32.ofNat i + 1 = Int32.ofNat (i + 1) := by rw [Int32.ofNat_add]; rfl
theorem own_cnt_le (cf : Nat → Int32) (k : Nat) : own_cnt cf k ≤ k := by
  induction k with
  | zero => exact Nat.le_refl _
  | succ k ih => unfold own_cnt; split <;> omega
theorem own_cnt_mono (cf : Nat → Int32) (i k : Nat) : own_cnt cf i ≤ own_cnt cf (i + k) := by
  induction k with
  | zero => exact Nat.le_refl _
  | succ k ih => refine Nat.le_trans ih ?_; show _ ≤ own_cnt cf (i + k) + _; omega
theorem own_cnt_lt (cf : Nat → Int32) {i n : Nat} (hi : i < n) (h : ¬ cf i = 0) : own_cnt cf i < own_cnt cf n := by
  obtain ⟨k, rfl⟩ : ∃ k, n = (i + 1) + k := ⟨n - (i + 1), by omega⟩
  have := own_cnt_mono cf (i + 1) k
  have e : own_cnt cf (i + 1) = own_cnt cf i + 1 := by show own_cnt cf i + (if cf i = 0 then 0 else 1) = _; rw [if_neg h]
  omega
theorem own_cnt_tail (cf : Nat → Int32) (n k : Nat) (h : ∀ j, n ≤ j → j < n + k → cf j = 0) : own_cnt cf (n + k) = own_cnt cf n := by
  induction k with
  | zero => rfl
  | succ k ih =>
    show own_cnt cf (n + k) + (if cf (n + k) = 0 then 0 else 1) = _
    rw [if_pos (h (n + k) (by omega) (by omega)), ih (fun j h1 h2 => h j h1 (by omega))]; rfl
theorem own_upto_congr (cf : Nat → Int32) (n k : Nat) (h : n ≤ k) (j : Nat) (hj : j < n) : own_b (own_upto cf (k + 1)) j = own_b (own_upto cf k) j := by
  unfold own_b own_upto
  rw [if_pos (by omega), if_pos (by omega)]
theorem own_upto_set (cf : Nat → Int32) (k : Nat) (v : Int32) (e : v = cf k) (j : Nat) : own_b (own_upto cf (k + 1)) j = (fun j => if j = k then (.int v) else (own_b (own_upto cf k)) j) j := by
  show own_b (own_upto cf (k + 1)) j = if j = k then (.int v) else own_b (own_upto cf k) j
  unfold own_b own_upto
  by_cases h : j = k
  · rw [if_pos h, if_pos (by omega), e, h]
  · rw [if_neg h]
    by_cases h2 : j < k
    · rw [if_pos h2, if_pos (by omega)]
    · rw [if_neg h2, if_neg (by omega)]
theorem own_upto_end (cf : Nat → Int32) (n : Nat) (hn : n ≤ 6) (j : Nat) (hj : j < n) : own_b cf j = own_b (own_upto cf 6) j := by
  unfold own_b own_upto
  rw [if_pos (by omega)]
theorem own_upd_b (g : Nat → Int32) (k : Nat) (y : Int32) (j : Nat) : own_b (own_upd g k y) j = (fun j => if j = k then (.int y) else (own_b g) j) j := by
  show own_b (own_upd g k y) j = if j = k then (.int y) else own_b g j
  unfold own_b own_upd
  split <;> rfl
theorem own_os {z0 z1 z2 z3 z4 : Value} {s5 : Slot} {v : Int32} (h : One s5) : storeLocals #[.val z0, .val z1, .val z2, .val z3, .val z4, s5] 5 (.int v) = some #[.val z0, .val z1, .val z2, .val z3, .val z4, .val (.int v)] := by
  rcases h with rfl | ⟨w, rfl, hw⟩
  · rfl
  · cases w <;> first | rfl | (simp [Value.category] at hw)
theorem own_len (x : Int32) : ∃ n : Nat, n ≤ 6 ∧ ((x &&& (2147483647 : Int32)) - ((x &&& (2147483647 : Int32)) / (7 : Int32)) * (7 : Int32)) = Int32.ofNat n := by
  have h0 := c_and x 2147483647 (by decide)
  rw [show (2147483647 : Int32).toInt = 2147483647 by decide] at h0
  generalize (x &&& (2147483647 : Int32)) = v at h0
  have hd := (c_idiv v 7 7 (by decide) (by decide)).1 h0.1
  generalize v / (7 : Int32) = w at hd
  have m1 := c_imul w 7
  have r1 := rng32 (w * 7)
  rw [show (7 : Int32).toInt = 7 by decide] at m1
  have s1 := c_isub v (w * 7)
  have r2 := rng32 (v - w * 7)
  refine ⟨(v - w * 7).toInt.toNat, by omega, ?_⟩
  apply Int32.toInt_inj.mp
  rw [Int32.toInt_ofNat_of_lt (by omega)]
  omega
theorem own_bit01 (u i n : Int32) : own_bitv u i n = 0 ∨ own_bitv u i n = 1 := by
  unfold own_bitv
  split
  · exact Or.inr rfl
  · exact Or.inl rfl
theorem own_nar {v : Int32} (h : v = 0 ∨ v = 1) : nar .boolean v = v := by rcases h with rfl | rfl <;> decide
theorem own_sum (cf : Nat → Int32) (hb : ∀ j, cf j = 0 ∨ cf j = 1) (k : Nat) : Int32.ofNat (own_cnt cf k) + cf k = Int32.ofNat (own_cnt cf (k + 1)) := by
  show _ = Int32.ofNat (own_cnt cf k + (if cf k = 0 then 0 else 1))
  rcases hb k with h | h
  · rw [if_pos h, h, Int32.add_zero]; rfl
  · rw [if_neg (by rw [h]; decide), h, Int32.ofNat_add]; rfl
theorem d1_0 : decode method_2_code 0 = .ok (.iload_n 1, 1) := by decide +kernel
theorem d1_1 : decode method_2_code 1 = .ok (.iload_n 2, 1) := by decide +kernel
theorem d1_2 : decode method_2_code 2 = .ok (.if_icmp .ge 15, 3) := by decide +kernel
theorem d1_17 : decode method_2_code 17 = .ok (.iconst 0, 1) := by decide +kernel
theorem d1_18 : decode method_2_code 18 = .ok (.ireturn, 1) := by decide +kernel
theorem pn_0 : plainName "stillmark/PlacementIndicesPinLaw" = true := by first | (simp [plainName, overriddenIn]; done) | decide +kernel
theorem ef_1 (m : MethodId) (x0 : Int32) (x1 : Int32) (x2 : Int32) : entryFrame m #[(.int x0), (.int x1), (.int x2)] 3 = mkF m 0 #[.val (.int x0), .val (.int x1), .val (.int x2)] [] := by first | (simp [entryFrame, mkF, argsToLocals, Value.category]; done) | rfl
def Qrm1 (Z : State) (u : Int32) (i : Int32) (n : Int32) (h0 : Heap) (n0 : Nat) (v : Option Value) (h : Heap) (L : List Loc) : Prop := v = some (.int (own_bitv u i n)) ∧ Fr n0 L ∧ h = h0
set_option maxRecDepth 65536 in
set_option maxHeartbeats 40000000 in
theorem rm1a (l : Launch) (Z : State) (a0 : Array Value) (hw : ∀ d ∈ tables_1, d.before a0 Z = true) (ws : List Jvm.Cond) (u : Int32) (i : Int32) (n : Int32) (h0 : Heap) (n0 : Nat) (Z0 : n0 ≤ h0.size) (hc2 : ¬ (i < n)) :
    MetFree l (⟨"stillmark/PlacementIndicesPinLaw", "bit", "(III)I"⟩ : MethodName) (head1 (Jvm.Cond.code (⟨"stillmark/PlacementIndicesPinLaw", "bit", "(III)I"⟩ : MethodName) method_2_code 3 (some .int) :: ws) ({ frames := 0, cells := 0, slots := 0, locals := 0 } : Room)) (fun aa_ U => aa_ = #[(.int u), (.int i), (.int n)] ∧ Z.Warmed39 U.vm ∧ U.heap = h0) (fun _ _ _ _ _ => True) (fun _ U o U' => ∃ v L, o = .returned v ∧ Qrm1 Z u i n h0 n0 v U'.heap L ∧ FrameEnd U o U' L ({ frames := 0, cells := 0, slots := 0, locals := 0 } : Room).cells ({ frames := 0, cells := 0, slots := 0, locals := 0 } : Room).slots) := by
  refine MetFree.of_bodySF (plainFor_of_name pn_0) hisR ?_
  intro p e s m args below meth c s₁ Bd hml0 hP hK
  obtain ⟨rfl, hZ, hh⟩ := hP
  have hx := Bd.exec
  have hby := Bd.bytes
  have hml : c.maxLocals = 3 := hml0
  have hown : s.vm.findClass "stillmark/PlacementIndicesPinLaw" = some m.cls := findClass_of_methodNamed Bd.named
  have hnm := (name_of_methodNamed Bd.named Bd.method).1
  have X0 : Stand p l e ({ frames := 0, cells := 0, slots := 0, locals := 0 } : Room) s m #[(.int u), (.int i), (.int n)] below meth c s₁ [] 0 0 := Stand.of_body Bd
  have e0 : s₁.heap = h0 := by rw [← hh, Bd.state]; rfl
  have N0 := Fr.nil n0
  have pre0 : ∀ tt_, Steps p.tables e below (s₁.setTop (mkF m 0 #[.val (.int u), .val (.int i), .val (.int n)] [])) tt_ → Steps p.tables e below (s₁.setTop (entryFrame m #[(.int u), (.int i), (.int n)] 3)) tt_ := fun tt_ kk_ => castTop (ef_1 m u i n) kk_
  obtain ⟨fs, hr, hrun, hended, hW, hsame⟩ := X0.leave (v := some (.int (0 : Int32))) (fun h => by rw [Bd.returns] at h; cases h)
  refine ⟨_, _, pre0 _ ?_, hrun, hended, _, _, rfl, ?_, ⟨_, rfl⟩, hW, hsame.mono (by decide) (by decide)⟩
  · show Steps p.tables e below (s₁.setTop (mkF m 0 #[.val (.int u), .val (.int i), .val (.int n)] [])) _
    refine XS.iloadN X0.here hx rfl (hb hby d1_0) rfl ?_
    show Steps p.tables e below (s₁.setTop (mkF m 1 #[.val (.int u), .val (.int i), .val (.int n)] [(.int i)])) _
    refine XS.iloadN X0.here hx rfl (hb hby d1_1) rfl ?_
    show Steps p.tables e below (s₁.setTop (mkF m 2 #[.val (.int u), .val (.int i), .val (.int n)] [(.int n), (.int i)])) _
    refine XS.icmpYes X0.here hx rfl (pc0 := 2) (pc' := 17) rfl (hb hby d1_2) rfl (flt (show ¬ (i < n) from hc2)).2.1 (by decide) (by decide) ?_
    show Steps p.tables e below (s₁.setTop (mkF m 17 #[.val (.int u), .val (.int i), .val (.int n)] [])) _
    refine XS.iconst X0.here hx rfl (hb hby d1_17) ?_
    show Steps p.tables e below (s₁.setTop (mkF m 18 #[.val (.int u), .val (.int i), .val (.int n)] [(.int (0 : Int32))])) _
    exact retI X0 hx Bd.returns (hb hby d1_18) hr
  · show Qrm1 Z u i n h0 n0 _ s₁.heap _
    rw [e0]
    exact ⟨by rw [own_bitv, if_neg (fun q => hc2 q.1)], N0, rfl⟩
theorem d1_5 : decode method_2_code 5 = .ok (.iload_n 0, 1) := by decide +kernel
theorem d1_6 : decode method_2_code 6 = .ok (.iload_n 1, 1) := by decide +kernel
theorem d1_7 : decode method_2_code 7 = .ok (.iushr, 1) := by decide +kernel
theorem d1_8 : decode method_2_code 8 = .ok (.iconst 1, 1) := by decide +kernel
theorem d1_9 : decode method_2_code 9 = .ok (.iand, 1) := by decide +kernel
theorem d1_10 : decode method_2_code 10 = .ok (.ifCond .eq 7, 3) := by decide +kernel
set_option maxRecDepth 65536 in
set_option maxHeartbeats 40000000 in
theorem rm1b (l : Launch) (Z : State) (a0 : Array Value) (hw : ∀ d ∈ tables_1, d.before a0 Z = true) (ws : List Jvm.Cond) (u : Int32) (i : Int32) (n : Int32) (h0 : Heap) (n0 : Nat) (Z0 : n0 ≤ h0.size) (hc2 : i < n) (hc10 : (((u.toUInt32 >>> (i &&& 31).toUInt32).toInt32) &&& (1 : Int32)) = (0 : Int32)) :
    MetFree l (⟨"stillmark/PlacementIndicesPinLaw", "bit", "(III)I"⟩ : MethodName) (head1 (Jvm.Cond.code (⟨"stillmark/PlacementIndicesPinLaw", "bit", "(III)I"⟩ : MethodName) method_2_code 3 (some .int) :: ws) ({ frames := 0, cells := 0, slots := 0, locals := 0 } : Room)) (fun aa_ U => aa_ = #[(.int u), (.int i), (.int n)] ∧ Z.Warmed39 U.vm ∧ U.heap = h0) (fun _ _ _ _ _ => True) (fun _ U o U' => ∃ v L, o = .returned v ∧ Qrm1 Z u i n h0 n0 v U'.heap L ∧ FrameEnd U o U' L ({ frames := 0, cells := 0, slots := 0, locals := 0 } : Room).cells ({ frames := 0, cells := 0, slots := 0, locals := 0 } : Room).slots) := by
  refine MetFree.of_bodySF (plainFor_of_name pn_0) hisR ?_
  intro p e s m args below meth c s₁ Bd hml0 hP hK
  obtain ⟨rfl, hZ, hh⟩ := hP
  have hx := Bd.exec
  have hby := Bd.bytes
  have hml : c.maxLocals = 3 := hml0
  have hown : s.vm.findClass "stillmark/PlacementIndicesPinLaw" = some m.cls := findClass_of_methodNamed Bd.named
  have hnm := (name_of_methodNamed Bd.named Bd.method).1
  have X0 : Stand p l e ({ frames := 0, cells := 0, slots := 0, locals := 0 } : Room) s m #[(.int u), (.int i), (.int n)] below meth c s₁ [] 0 0 := Stand.of_body Bd
  have e0 : s₁.heap = h0 := by rw [← hh, Bd.state]; rfl
  have N0 := Fr.nil n0
  have pre0 : ∀ tt_, Steps p.tables e below (s₁.setTop (mkF m 0 #[.val (.int u), .val (.int i), .val (.int n)] [])) tt_ → Steps p.tables e below (s₁.setTop (entryFrame m #[(.int u), (.int i), (.int n)] 3)) tt_ := fun tt_ kk_ => castTop (ef_1 m u i n) kk_
  obtain ⟨fs, hr, hrun, hended, hW, hsame⟩ := X0.leave (v := some (.int (0 : Int32))) (fun h => by rw [Bd.returns] at h; cases h)
  refine ⟨_, _, pre0 _ ?_, hrun, hended, _, _, rfl, ?_, ⟨_, rfl⟩, hW, hsame.mono (by decide) (by decide)⟩
  · show Steps p.tables e below (s₁.setTop (mkF m 0 #[.val (.int u), .val (.int i), .val (.int n)] [])) _
    refine XS.iloadN X0.here hx rfl (hb hby d1_0) rfl ?_
    show Steps p.tables e below (s₁.setTop (mkF m 1 #[.val (.int u), .val (.int i), .val (.int n)] [(.int i)])) _
    refine XS.iloadN X0.here hx rfl (hb hby d1_1) rfl ?_
    show Steps p.tables e below (s₁.setTop (mkF m 2 #[.val (.int u), .val (.int i), .val (.int n)] [(.int n), (.int i)])) _
    refine XS.icmpNo X0.here hx rfl (hb hby d1_2) rfl (tlt (show i < n from hc2)).2.1 ?_
    show Steps p.tables e below (s₁.setTop (mkF m 5 #[.val (.int u), .val (.int i), .val (.int n)] [])) _
    refine XS.iloadN X0.here hx rfl (hb hby d1_5) rfl ?_
    show Steps p.tables e below (s₁.setTop (mkF m 6 #[.val (.int u), .val (.int i), .val (.int n)] [(.int u)])) _
    refine XS.iloadN X0.here hx rfl (hb hby d1_6) rfl ?_
    show Steps p.tables e below (s₁.setTop (mkF m 7 #[.val (.int u), .val (.int i), .val (.int n)] [(.int i), (.int u)])) _
    refine XS.iushr X0.here hx rfl (hb hby d1_7) rfl ?_
    show Steps p.tables e below (s₁.setTop (mkF m 8 #[.val (.int u), .val (.int i), .val (.int n)] [(.int ((u.toUInt32 >>> (i &&& 31).toUInt32).toInt32))])) _
    refine XS.iconst X0.here hx rfl (hb hby d1_8) ?_
    show Steps p.tables e below (s₁.setTop (mkF m 9 #[.val (.int u), .val (.int i), .val (.int n)] [(.int (1 : Int32)), (.int ((u.toUInt32 >>> (i &&& 31).toUInt32).toInt32))])) _
    refine XS.iand X0.here hx rfl (hb hby d1_9) rfl ?_
    show Steps p.tables e below (s₁.setTop (mkF m 10 #[.val (.int u), .val (.int i), .val (.int n)] [(.int (((u.toUInt32 >>> (i &&& 31).toUInt32).toInt32) &&& (1 : Int32)))])) _
    refine XS.ifYes X0.here hx rfl (pc0 := 10) (pc' := 17) rfl (hb hby d1_10) rfl ((if0 _ _).trans (teq (show (((u.toUInt32 >>> (i &&& 31).toUInt32).toInt32) &&& (1 : Int32)) = (0 : Int32) from hc10)).1) (by decide) (by decide) ?_
    show Steps p.tables e below (s₁.setTop (mkF m 17 #[.val (.int u), .val (.int i), .val (.int n)] [])) _
    refine XS.iconst X0.here hx rfl (hb hby d1_17) ?_
    show Steps p.tables e below (s₁.setTop (mkF m 18 #[.val (.int u), .val (.int i), .val (.int n)] [(.int (0 : Int32))])) _
    exact retI X0 hx Bd.returns (hb hby d1_18) hr
  · show Qrm1 Z u i n h0 n0 _ s₁.heap _
    rw [e0]
    exact ⟨by rw [own_bitv, if_neg (fun q => q.2 hc10)], N0, rfl⟩
theorem d1_13 : decode method_2_code 13 = .ok (.iconst 1, 1) := by decide +kernel
theorem d1_14 : decode method_2_code 14 = .ok (.goto 4, 3) := by decide +kernel
set_option maxRecDepth 65536 in
set_option maxHeartbeats 40000000 in
theorem rm1c (l : Launch) (Z : State) (a0 : Array Value) (hw : ∀ d ∈ tables_1, d.before a0 Z = true) (ws : List Jvm.Cond) (u : Int32) (i : Int32) (n : Int32) (h0 : Heap) (n0 : Nat) (Z0 : n0 ≤ h0.size) (hc2 : i < n) (hc10 : ¬ ((((u.toUInt32 >>> (i &&& 31).toUInt32).toInt32) &&& (1 : Int32)) = (0 : Int32))) :
    MetFree l (⟨"stillmark/PlacementIndicesPinLaw", "bit", "(III)I"⟩ : MethodName) (head1 (Jvm.Cond.code (⟨"stillmark/PlacementIndicesPinLaw", "bit", "(III)I"⟩ : MethodName) method_2_code 3 (some .int) :: ws) ({ frames := 0, cells := 0, slots := 0, locals := 0 } : Room)) (fun aa_ U => aa_ = #[(.int u), (.int i), (.int n)] ∧ Z.Warmed39 U.vm ∧ U.heap = h0) (fun _ _ _ _ _ => True) (fun _ U o U' => ∃ v L, o = .returned v ∧ Qrm1 Z u i n h0 n0 v U'.heap L ∧ FrameEnd U o U' L ({ frames := 0, cells := 0, slots := 0, locals := 0 } : Room).cells ({ frames := 0, cells := 0, slots := 0, locals := 0 } : Room).slots) := by
  refine MetFree.of_bodySF (plainFor_of_name pn_0) hisR ?_
  intro p e s m args below meth c s₁ Bd hml0 hP hK
  obtain ⟨rfl, hZ, hh⟩ := hP
  have hx := Bd.exec
  have hby := Bd.bytes
  have hml : c.maxLocals = 3 := hml0
  have hown : s.vm.findClass "stillmark/PlacementIndicesPinLaw" = some m.cls := findClass_of_methodNamed Bd.named
  have hnm := (name_of_methodNamed Bd.named Bd.method).1
  have X0 : Stand p l e ({ frames := 0, cells := 0, slots := 0, locals := 0 } : Room) s m #[(.int u), (.int i), (.int n)] below meth c s₁ [] 0 0 := Stand.of_body Bd
  have e0 : s₁.heap = h0 := by rw [← hh, Bd.state]; rfl
  have N0 := Fr.nil n0
  have pre0 : ∀ tt_, Steps p.tables e below (s₁.setTop (mkF m 0 #[.val (.int u), .val (.int i), .val (.int n)] [])) tt_ → Steps p.tables e below (s₁.setTop (entryFrame m #[(.int u), (.int i), (.int n)] 3)) tt_ := fun tt_ kk_ => castTop (ef_1 m u i n) kk_
  obtain ⟨fs, hr, hrun, hended, hW, hsame⟩ := X0.leave (v := some (.int (1 : Int32))) (fun h => by rw [Bd.returns] at h; cases h)
  refine ⟨_, _, pre0 _ ?_, hrun, hended, _, _, rfl, ?_, ⟨_, rfl⟩, hW, hsame.mono (by decide) (by decide)⟩
  · show Steps p.tables e below (s₁.setTop (mkF m 0 #[.val (.int u), .val (.int i), .val (.int n)] [])) _
    refine XS.iloadN X0.here hx rfl (hb hby d1_0) rfl ?_
    show Steps p.tables e below (s₁.setTop (mkF m 1 #[.val (.int u), .val (.int i), .val (.int n)] [(.int i)])) _
    refine XS.iloadN X0.here hx rfl (hb hby d1_1) rfl ?_
    show Steps p.tables e below (s₁.setTop (mkF m 2 #[.val (.int u), .val (.int i), .val (.int n)] [(.int n), (.int i)])) _
    refine XS.icmpNo X0.here hx rfl (hb hby d1_2) rfl (tlt (show i < n from hc2)).2.1 ?_
    show Steps p.tables e below (s₁.setTop (mkF m 5 #[.val (.int u), .val (.int i), .val (.int n)] [])) _
    refine XS.iloadN X0.here hx rfl (hb hby d1_5) rfl ?_
    show Steps p.tables e below (s₁.setTop (mkF m 6 #[.val (.int u), .val (.int i), .val (.int n)] [(.int u)])) _
    refine XS.iloadN X0.here hx rfl (hb hby d1_6) rfl ?_
    show Steps p.tables e below (s₁.setTop (mkF m 7 #[.val (.int u), .val (.int i), .val (.int n)] [(.int i), (.int u)])) _
    refine XS.iushr X0.here hx rfl (hb hby d1_7) rfl ?_
    show Steps p.tables e below (s₁.setTop (mkF m 8 #[.val (.int u), .val (.int i), .val (.int n)] [(.int ((u.toUInt32 >>> (i &&& 31).toUInt32).toInt32))])) _
    refine XS.iconst X0.here hx rfl (hb hby d1_8) ?_
    show Steps p.tables e below (s₁.setTop (mkF m 9 #[.val (.int u), .val (.int i), .val (.int n)] [(.int (1 : Int32)), (.int ((u.toUInt32 >>> (i &&& 31).toUInt32).toInt32))])) _
    refine XS.iand X0.here hx rfl (hb hby d1_9) rfl ?_
    show Steps p.tables e below (s₁.setTop (mkF m 10 #[.val (.int u), .val (.int i), .val (.int n)] [(.int (((u.toUInt32 >>> (i &&& 31).toUInt32).toInt32) &&& (1 : Int32)))])) _
    refine XS.ifNo X0.here hx rfl (hb hby d1_10) rfl ((if0 _ _).trans (feq (show ¬ ((((u.toUInt32 >>> (i &&& 31).toUInt32).toInt32) &&& (1 : Int32)) = (0 : Int32)) from hc10)).1) ?_
    show Steps p.tables e below (s₁.setTop (mkF m 13 #[.val (.int u), .val (.int i), .val (.int n)] [])) _
    refine XS.iconst X0.here hx rfl (hb hby d1_13) ?_
    show Steps p.tables e below (s₁.setTop (mkF m 14 #[.val (.int u), .val (.int i), .val (.int n)] [(.int (1 : Int32))])) _
    refine XS.goto X0.here hx rfl (pc0 := 14) (pc' := 18) rfl (hb hby d1_14) (by decide) (by decide) ?_
    show Steps p.tables e below (s₁.setTop (mkF m 18 #[.val (.int u), .val (.int i), .val (.int n)] [(.int (1 : Int32))])) _
    exact retI X0 hx Bd.returns (hb hby d1_18) hr
  · show Qrm1 Z u i n h0 n0 _ s₁.heap _
    rw [e0]
    exact ⟨by rw [own_bitv, if_pos ⟨hc2, hc10⟩], N0, rfl⟩
theorem rm1 (l : Launch) (Z : State) (a0 : Array Value) (hw : ∀ d ∈ tables_1, d.before a0 Z = true) (ws : List Jvm.Cond) (u : Int32) (i : Int32) (n : Int32) (h0 : Heap) (n0 : Nat) (Z0 : n0 ≤ h0.size) :
    MetFree l (⟨"stillmark/PlacementIndicesPinLaw", "bit", "(III)I"⟩ : MethodName) (head1 (Jvm.Cond.code (⟨"stillmark/PlacementIndicesPinLaw", "bit", "(III)I"⟩ : MethodName) method_2_code 3 (some .int) :: ws) ({ frames := 0, cells := 0, slots := 0, locals := 0 } : Room)) (fun aa_ U => aa_ = #[(.int u), (.int i), (.int n)] ∧ Z.Warmed39 U.vm ∧ U.heap = h0) (fun _ _ _ _ _ => True) (fun _ U o U' => ∃ v L, o = .returned v ∧ Qrm1 Z u i n h0 n0 v U'.heap L ∧ FrameEnd U o U' L ({ frames := 0, cells := 0, slots := 0, locals := 0 } : Room).cells ({ frames := 0, cells := 0, slots := 0, locals := 0 } : Room).slots) := by
  by_cases h1 : i < n
  · by_cases h2 : (((u.toUInt32 >>> (i &&& 31).toUInt32).toInt32) &&& (1 : Int32)) = (0 : Int32)
    · exact rm1b l Z a0 hw ws u i n h0 n0 Z0  h1 h2
    · exact rm1c l Z a0 hw ws u i n h0 n0 Z0  h1 h2
  · exact rm1a l Z a0 hw ws u i n h0 n0 Z0  h1
theorem d3_0 : decode method_3_code 0 = .ok (.iload_n 2, 1) := by decide +kernel
theorem d3_1 : decode method_3_code 1 = .ok (.ifCond .eq 20, 3) := by decide +kernel
theorem d3_21 : decode method_3_code 21 = .ok (.iconst 1, 1) := by decide +kernel
theorem d3_22 : decode method_3_code 22 = .ok (.goto 4, 3) := by decide +kernel
theorem d3_26 : decode method_3_code 26 = .ok (.ireturn, 1) := by decide +kernel
theorem ef_3 (m : MethodId) (x0 : Addr) (x1 : Int32) (x2 : Int32) (x3 : Int32) : entryFrame m #[(.ref x0), (.int x1), (.int x2), (.int x3)] 4 = mkF m 0 #[.val (.ref x0), .val (.int x1), .val (.int x2), .val (.int x3)] [] := by first | (simp [entryFrame, mkF, argsToLocals, Value.category]; done) | rfl
def Qrm3 (Z : State) (r : Addr) (i : Int32) (cc : Int32) (k : Nat) (N : Nat) (g : Nat → Int32) (h0 : Heap) (n0 : Nat) (v : Option Value) (h : Heap) (L : List Loc) : Prop := v = some (.int (1 : Int32)) ∧ Fr n0 L ∧ h = h0
set_option maxRecDepth 65536 in
set_option maxHeartbeats 40000000 in
theorem rm3a (l : Launch) (Z : State) (a0 : Array Value) (hw : ∀ d ∈ tables_1, d.before a0 Z = true) (ws : List Jvm.Cond) (r : Addr) (i : Int32) (cc : Int32) (k : Nat) (N : Nat) (g : Nat → Int32) (h0 : Heap) (n0 : Nat) (Z0 : n0 ≤ h0.size) (A_r : Av Z h0 r .int N (own_b g)) (hk : k ≤ 6) (hN : N ≤ 6) (hd : cc = 0 ∨ (¬ cc = 0 ∧ k < N ∧ g k = i)) (hh0 : cc = 0) :
    MetFree l (⟨"stillmark/PlacementIndicesPinLaw", "at", "([IIII)Z"⟩ : MethodName) (head1 (Jvm.Cond.code (⟨"stillmark/PlacementIndicesPinLaw", "at", "([IIII)Z"⟩ : MethodName) method_3_code 4 (some .boolean) :: ws) ({ frames := 0, cells := 0, slots := 0, locals := 0 } : Room)) (fun aa_ U => aa_ = #[(.ref r), (.int i), (.int cc), (.int (Int32.ofNat k))] ∧ Z.Warmed39 U.vm ∧ U.heap = h0) (fun _ _ _ _ _ => True) (fun _ U o U' => ∃ v L, o = .returned v ∧ Qrm3 Z r i cc k N g h0 n0 v U'.heap L ∧ FrameEnd U o U' L ({ frames := 0, cells := 0, slots := 0, locals := 0 } : Room).cells ({ frames := 0, cells := 0, slots := 0, locals := 0 } : Room).slots) := by
  refine MetFree.of_bodySF (plainFor_of_name pn_0) hisR ?_
  intro p e s m args below meth c s₁ Bd hml0 hP hK
  obtain ⟨rfl, hZ, hh⟩ := hP
  have hx := Bd.exec
  have hby := Bd.bytes
  have hml : c.maxLocals = 4 := hml0
  have hown : s.vm.findClass "stillmark/PlacementIndicesPinLaw" = some m.cls := findClass_of_methodNamed Bd.named
  have hnm := (name_of_methodNamed Bd.named Bd.method).1
  have X0 : Stand p l e ({ frames := 0, cells := 0, slots := 0, locals := 0 } : Room) s m #[(.ref r), (.int i), (.int cc), (.int (Int32.ofNat k))] below meth c s₁ [] 0 0 := Stand.of_body Bd
  have e0 : s₁.heap = h0 := by rw [← hh, Bd.state]; rfl
  have N0 := Fr.nil n0
  have pre0 : ∀ tt_, Steps p.tables e below (s₁.setTop (mkF m 0 #[.val (.ref r), .val (.int i), .val (.int cc), .val (.int (Int32.ofNat k))] [])) tt_ → Steps p.tables e below (s₁.setTop (entryFrame m #[(.ref r), (.int i), (.int cc), (.int (Int32.ofNat k))] 4)) tt_ := fun tt_ kk_ => castTop (ef_3 m r i cc (Int32.ofNat k)) kk_
  obtain ⟨fs, hr, hrun, hended, hW, hsame⟩ := X0.leave (v := some (.int (1 : Int32))) (fun h => by rw [Bd.returns] at h; cases h)
  refine ⟨_, _, pre0 _ ?_, hrun, hended, _, _, rfl, ?_, ⟨_, rfl⟩, hW, hsame.mono (by decide) (by decide)⟩
  · show Steps p.tables e below (s₁.setTop (mkF m 0 #[.val (.ref r), .val (.int i), .val (.int cc), .val (.int (Int32.ofNat k))] [])) _
    refine XS.iloadN X0.here hx rfl (hb hby d3_0) rfl ?_
    show Steps p.tables e below (s₁.setTop (mkF m 1 #[.val (.ref r), .val (.int i), .val (.int cc), .val (.int (Int32.ofNat k))] [(.int cc)])) _
    refine XS.ifYes X0.here hx rfl (pc0 := 1) (pc' := 21) rfl (hb hby d3_1) rfl ((if0 _ _).trans (teq (show cc = (0 : Int32) from hh0)).1) (by decide) (by decide) ?_
    show Steps p.tables e below (s₁.setTop (mkF m 21 #[.val (.ref r), .val (.int i), .val (.int cc), .val (.int (Int32.ofNat k))] [])) _
    refine XS.iconst X0.here hx rfl (hb hby d3_21) ?_
    show Steps p.tables e below (s₁.setTop (mkF m 22 #[.val (.ref r), .val (.int i), .val (.int cc), .val (.int (Int32.ofNat k))] [(.int (1 : Int32))])) _
    refine XS.goto X0.here hx rfl (pc0 := 22) (pc' := 26) rfl (hb hby d3_22) (by decide) (by decide) ?_
    show Steps p.tables e below (s₁.setTop (mkF m 26 #[.val (.ref r), .val (.int i), .val (.int cc), .val (.int (Int32.ofNat k))] [(.int (1 : Int32))])) _
    exact retN X0 hx (t := .boolean) Bd.returns (by simp) (hb hby d3_26) hr
  · show Qrm3 Z r i cc k N g h0 n0 _ s₁.heap _
    rw [e0]
    exact ⟨rfl, N0, rfl⟩
theorem d3_4 : decode method_3_code 4 = .ok (.iload_n 3, 1) := by decide +kernel
theorem d3_5 : decode method_3_code 5 = .ok (.ifCond .lt 20, 3) := by decide +kernel
theorem d3_8 : decode method_3_code 8 = .ok (.iload_n 3, 1) := by decide +kernel
theorem d3_9 : decode method_3_code 9 = .ok (.aload_n 0, 1) := by decide +kernel
theorem d3_10 : decode method_3_code 10 = .ok (.arraylength, 1) := by decide +kernel
theorem d3_11 : decode method_3_code 11 = .ok (.if_icmp .ge 14, 3) := by decide +kernel
theorem d3_14 : decode method_3_code 14 = .ok (.aload_n 0, 1) := by decide +kernel
theorem d3_15 : decode method_3_code 15 = .ok (.iload_n 3, 1) := by decide +kernel
theorem d3_16 : decode method_3_code 16 = .ok (.iaload, 1) := by decide +kernel
theorem d3_17 : decode method_3_code 17 = .ok (.iload_n 1, 1) := by decide +kernel
theorem d3_18 : decode method_3_code 18 = .ok (.if_icmp .ne 7, 3) := by decide +kernel
set_option maxRecDepth 65536 in
set_option maxHeartbeats 40000000 in
theorem rm3b (l : Launch) (Z : State) (a0 : Array Value) (hw : ∀ d ∈ tables_1, d.before a0 Z = true) (ws : List Jvm.Cond) (r : Addr) (i : Int32) (cc : Int32) (k : Nat) (N : Nat) (g : Nat → Int32) (h0 : Heap) (n0 : Nat) (Z0 : n0 ≤ h0.size) (A_r : Av Z h0 r .int N (own_b g)) (hk : k ≤ 6) (hN : N ≤ 6) (hd : cc = 0 ∨ (¬ cc = 0 ∧ k < N ∧ g k = i)) (hh0 : ¬ cc = 0) (h1 : k < N) (h2 : g k = i) :
    MetFree l (⟨"stillmark/PlacementIndicesPinLaw", "at", "([IIII)Z"⟩ : MethodName) (head1 (Jvm.Cond.code (⟨"stillmark/PlacementIndicesPinLaw", "at", "([IIII)Z"⟩ : MethodName) method_3_code 4 (some .boolean) :: ws) ({ frames := 0, cells := 0, slots := 0, locals := 0 } : Room)) (fun aa_ U => aa_ = #[(.ref r), (.int i), (.int cc), (.int (Int32.ofNat k))] ∧ Z.Warmed39 U.vm ∧ U.heap = h0) (fun _ _ _ _ _ => True) (fun _ U o U' => ∃ v L, o = .returned v ∧ Qrm3 Z r i cc k N g h0 n0 v U'.heap L ∧ FrameEnd U o U' L ({ frames := 0, cells := 0, slots := 0, locals := 0 } : Room).cells ({ frames := 0, cells := 0, slots := 0, locals := 0 } : Room).slots) := by
  refine MetFree.of_bodySF (plainFor_of_name pn_0) hisR ?_
  intro p e s m args below meth c s₁ Bd hml0 hP hK
  obtain ⟨rfl, hZ, hh⟩ := hP
  have hx := Bd.exec
  have hby := Bd.bytes
  have hml : c.maxLocals = 4 := hml0
  have hown : s.vm.findClass "stillmark/PlacementIndicesPinLaw" = some m.cls := findClass_of_methodNamed Bd.named
  have hnm := (name_of_methodNamed Bd.named Bd.method).1
  have X0 : Stand p l e ({ frames := 0, cells := 0, slots := 0, locals := 0 } : Room) s m #[(.ref r), (.int i), (.int cc), (.int (Int32.ofNat k))] below meth c s₁ [] 0 0 := Stand.of_body Bd
  have e0 : s₁.heap = h0 := by rw [← hh, Bd.state]; rfl
  have N0 := Fr.nil n0
  have pre0 : ∀ tt_, Steps p.tables e below (s₁.setTop (mkF m 0 #[.val (.ref r), .val (.int i), .val (.int cc), .val (.int (Int32.ofNat k))] [])) tt_ → Steps p.tables e below (s₁.setTop (entryFrame m #[(.ref r), (.int i), (.int cc), (.int (Int32.ofNat k))] 4)) tt_ := fun tt_ kk_ => castTop (ef_3 m r i cc (Int32.ofNat k)) kk_
  obtain ⟨cl1, Ar1, S1, -⟩ := id A_r
  obtain ⟨cl2, Ar2, S2, H2⟩ := id A_r
  have hj2 : (Int32.ofNat k).toNatClampNeg = k := (own_cv hk)
  have hin2 : ¬ ((Int32.ofNat k) < 0 ∨ cl2.slots.size ≤ ((Int32.ofNat k)).toNatClampNeg) := by rw [S2, hj2]; exact fun q => q.elim (own_nn hk) (Nat.not_le.mpr h1)
  have hat2 : cl2.slots[((Int32.ofNat k)).toNatClampNeg]? = some (.int (g k)) := by rw [hj2, H2 _ h1]; exact congrArg some (rfl)
  obtain ⟨fs, hr, hrun, hended, hW, hsame⟩ := X0.leave (v := some (.int (1 : Int32))) (fun h => by rw [Bd.returns] at h; cases h)
  refine ⟨_, _, pre0 _ ?_, hrun, hended, _, _, rfl, ?_, ⟨_, rfl⟩, hW, hsame.mono (by decide) (by decide)⟩
  · show Steps p.tables e below (s₁.setTop (mkF m 0 #[.val (.ref r), .val (.int i), .val (.int cc), .val (.int (Int32.ofNat k))] [])) _
    refine XS.iloadN X0.here hx rfl (hb hby d3_0) rfl ?_
    show Steps p.tables e below (s₁.setTop (mkF m 1 #[.val (.ref r), .val (.int i), .val (.int cc), .val (.int (Int32.ofNat k))] [(.int cc)])) _
    refine XS.ifNo X0.here hx rfl (hb hby d3_1) rfl ((if0 _ _).trans (feq (show ¬ (cc = (0 : Int32)) from hh0)).1) ?_
    show Steps p.tables e below (s₁.setTop (mkF m 4 #[.val (.ref r), .val (.int i), .val (.int cc), .val (.int (Int32.ofNat k))] [])) _
    refine XS.iloadN X0.here hx rfl (hb hby d3_4) rfl ?_
    show Steps p.tables e below (s₁.setTop (mkF m 5 #[.val (.ref r), .val (.int i), .val (.int cc), .val (.int (Int32.ofNat k))] [(.int (Int32.ofNat k))])) _
    refine XS.ifNo X0.here hx rfl (hb hby d3_5) rfl ((if0 _ _).trans (flt (show ¬ ((Int32.ofNat k) < (0 : Int32)) from (own_nn hk))).1) ?_
    show Steps p.tables e below (s₁.setTop (mkF m 8 #[.val (.ref r), .val (.int i), .val (.int cc), .val (.int (Int32.ofNat k))] [])) _
    refine XS.iloadN X0.here hx rfl (hb hby d3_8) rfl ?_
    show Steps p.tables e below (s₁.setTop (mkF m 9 #[.val (.ref r), .val (.int i), .val (.int cc), .val (.int (Int32.ofNat k))] [(.int (Int32.ofNat k))])) _
    refine XS.aloadN X0.here hx rfl (hb hby d3_9) rfl rfl ?_
    show Steps p.tables e below (s₁.setTop (mkF m 10 #[.val (.ref r), .val (.int i), .val (.int cc), .val (.int (Int32.ofNat k))] [(.ref r), (.int (Int32.ofNat k))])) _
    refine X0.arraylength hx (by rw [e0]; exact Ar1.1) (State.isArrayOf_alike hZ.alike Ar1.2.1) (g := (mkF m 10 #[.val (.ref r), .val (.int i), .val (.int cc), .val (.int (Int32.ofNat k))] [(.ref r), (.int (Int32.ofNat k))])) rfl rfl (hb hby d3_10) _ ?_
    rw [S1]
    show Steps p.tables e below (s₁.setTop (mkF m 11 #[.val (.ref r), .val (.int i), .val (.int cc), .val (.int (Int32.ofNat k))] [(.int (Nat.toInt32 N)), (.int (Int32.ofNat k))])) _
    refine XS.icmpNo X0.here hx rfl (hb hby d3_11) rfl (tlt (show (Int32.ofNat k) < (Nat.toInt32 N) from ((own_lt hk hN).mpr h1))).2.1 ?_
    show Steps p.tables e below (s₁.setTop (mkF m 14 #[.val (.ref r), .val (.int i), .val (.int cc), .val (.int (Int32.ofNat k))] [])) _
    refine XS.aloadN X0.here hx rfl (hb hby d3_14) rfl rfl ?_
    show Steps p.tables e below (s₁.setTop (mkF m 15 #[.val (.ref r), .val (.int i), .val (.int cc), .val (.int (Int32.ofNat k))] [(.ref r)])) _
    refine XS.iloadN X0.here hx rfl (hb hby d3_15) rfl ?_
    show Steps p.tables e below (s₁.setTop (mkF m 16 #[.val (.ref r), .val (.int i), .val (.int cc), .val (.int (Int32.ofNat k))] [(.int (Int32.ofNat k)), (.ref r)])) _
    refine X0.iaload hx (j := (Int32.ofNat k)) (v := (.int (g k))) (by rw [e0]; exact Ar2.1) (State.isArrayOf_alike hZ.alike Ar2.2.1) Ar2.2.2 hin2 hat2 (g := (mkF m 16 #[.val (.ref r), .val (.int i), .val (.int cc), .val (.int (Int32.ofNat k))] [(.int (Int32.ofNat k)), (.ref r)])) rfl rfl (hb hby d3_16) _ ?_
    show Steps p.tables e below (s₁.setTop (mkF m 17 #[.val (.ref r), .val (.int i), .val (.int cc), .val (.int (Int32.ofNat k))] [(.int (g k))])) _
    refine XS.iloadN X0.here hx rfl (hb hby d3_17) rfl ?_
    show Steps p.tables e below (s₁.setTop (mkF m 18 #[.val (.ref r), .val (.int i), .val (.int cc), .val (.int (Int32.ofNat k))] [(.int i), (.int (g k))])) _
    refine XS.icmpNo X0.here hx rfl (hb hby d3_18) rfl (teq (show (g k) = i from h2)).2 ?_
    show Steps p.tables e below (s₁.setTop (mkF m 21 #[.val (.ref r), .val (.int i), .val (.int cc), .val (.int (Int32.ofNat k))] [])) _
    refine XS.iconst X0.here hx rfl (hb hby d3_21) ?_
    show Steps p.tables e below (s₁.setTop (mkF m 22 #[.val (.ref r), .val (.int i), .val (.int cc), .val (.int (Int32.ofNat k))] [(.int (1 : Int32))])) _
    refine XS.goto X0.here hx rfl (pc0 := 22) (pc' := 26) rfl (hb hby d3_22) (by decide) (by decide) ?_
    show Steps p.tables e below (s₁.setTop (mkF m 26 #[.val (.ref r), .val (.int i), .val (.int cc), .val (.int (Int32.ofNat k))] [(.int (1 : Int32))])) _
    exact retN X0 hx (t := .boolean) Bd.returns (by simp) (hb hby d3_26) hr
  · show Qrm3 Z r i cc k N g h0 n0 _ s₁.heap _
    rw [e0]
    exact ⟨rfl, N0, rfl⟩
theorem rm3 (l : Launch) (Z : State) (a0 : Array Value) (hw : ∀ d ∈ tables_1, d.before a0 Z = true) (ws : List Jvm.Cond) (r : Addr) (i : Int32) (cc : Int32) (k : Nat) (N : Nat) (g : Nat → Int32) (h0 : Heap) (n0 : Nat) (Z0 : n0 ≤ h0.size) (A_r : Av Z h0 r .int N (own_b g)) (hk : k ≤ 6) (hN : N ≤ 6) (hd : cc = 0 ∨ (¬ cc = 0 ∧ k < N ∧ g k = i)) :
    MetFree l (⟨"stillmark/PlacementIndicesPinLaw", "at", "([IIII)Z"⟩ : MethodName) (head1 (Jvm.Cond.code (⟨"stillmark/PlacementIndicesPinLaw", "at", "([IIII)Z"⟩ : MethodName) method_3_code 4 (some .boolean) :: ws) ({ frames := 0, cells := 0, slots := 0, locals := 0 } : Room)) (fun aa_ U => aa_ = #[(.ref r), (.int i), (.int cc), (.int (Int32.ofNat k))] ∧ Z.Warmed39 U.vm ∧ U.heap = h0) (fun _ _ _ _ _ => True) (fun _ U o U' => ∃ v L, o = .returned v ∧ Qrm3 Z r i cc k N g h0 n0 v U'.heap L ∧ FrameEnd U o U' L ({ frames := 0, cells := 0, slots := 0, locals := 0 } : Room).cells ({ frames := 0, cells := 0, slots := 0, locals := 0 } : Room).slots) := by
  rcases id hd with h | ⟨h, h1, h2⟩
  · exact rm3a l Z a0 hw ws r i cc k N g h0 n0 Z0 A_r hk hN hd h
  · exact rm3b l Z a0 hw ws r i cc k N g h0 n0 Z0 A_r hk hN hd h h1 h2
theorem d2_10 : decode prog_132_method_10_code 10 = .ok (.iload 4, 2) := by decide +kernel
theorem d2_12 : decode prog_132_method_10_code 12 = .ok (.iload_n 3, 1) := by decide +kernel
theorem d2_13 : decode prog_132_method_10_code 13 = .ok (.if_icmp .ge 23, 3) := by decide +kernel
theorem d2_16 : decode prog_132_method_10_code 16 = .ok (.aload_n 2, 1) := by decide +kernel
theorem d2_17 : decode prog_132_method_10_code 17 = .ok (.iload 4, 2) := by decide +kernel
theorem d2_19 : decode prog_132_method_10_code 19 = .ok (.baload, 1) := by decide +kernel
theorem d2_20 : decode prog_132_method_10_code 20 = .ok (.istore 5, 2) := by decide +kernel
theorem d2_22 : decode prog_132_method_10_code 22 = .ok (.iload 5, 2) := by decide +kernel
theorem d2_24 : decode prog_132_method_10_code 24 = .ok (.ifCond .eq 6, 3) := by decide +kernel
theorem d2_30 : decode prog_132_method_10_code 30 = .ok (.iinc 4 1, 3) := by decide +kernel
theorem d2_33 : decode prog_132_method_10_code 33 = .ok (.goto (-23), 3) := by decide +kernel
set_option maxRecDepth 65536 in
set_option maxHeartbeats 40000000 in
theorem tn1z {p : Program} {l : Launch} {e : Env} {R : Room} {s : State} {m : MethodId} {args : Array Value} {below : List Frame} {meth : Method} {c : Code} {T0 : State} {locs : List Loc} {cells slots : Nat} {Z : State} {a0 : Array Value} {h0 : Heap} {n0 : Nat} (a : Addr) (q : Int32) (n : Nat) (i : Nat) (cf : Nat → Int32) (s5 : Slot)
    (X0 : Stand p l e R s m args below meth c T0 locs cells slots) (hx : p.tables.exec = Jvm.exec) (hZ : Z.Warmed39 s.vm) (hw : ∀ d ∈ tables_1, d.before a0 Z = true) (hby : c.code = prog_132_method_10_code) (hml : c.maxLocals = 6) (hown : s.vm.findClass "stillmark/Placement" = some m.cls) (e0 : T0.heap = h0) (N0 : Fr n0 locs) (Z0 : n0 ≤ h0.size) (A_a : Av Z h0 a .boolean n (own_b cf)) (hn : n ≤ 6) (hi : i < n) (hz : cf i = 0) (h5 : One s5) :
    ∀ target, Steps p.tables e below (T0.setTop (mkF m 10 #[.val (.ref a), .val (.int q), .val (.ref a), .val (.int (Int32.ofNat n)), .val (.int ((Int32.ofNat i) + (1 : Int32))), .val (.int (cf i))] [])) target → Steps p.tables e below (T0.setTop (mkF m 10 #[.val (.ref a), .val (.int q), .val (.ref a), .val (.int (Int32.ofNat n)), .val (.int (Int32.ofNat i)), s5] [])) target := by
  obtain ⟨cl1, Ar1, S1, H1⟩ := id A_a
  have hj1 : (Int32.ofNat i).toNatClampNeg = i := (own_cv (by omega))
  have hin1 : ¬ ((Int32.ofNat i) < 0 ∨ cl1.slots.size ≤ ((Int32.ofNat i)).toNatClampNeg) := by rw [S1, hj1]; exact fun q => q.elim (own_nn (by omega)) (Nat.not_le.mpr hi)
  have hat1 : cl1.slots[((Int32.ofNat i)).toNatClampNeg]? = some (.int (cf i)) := by rw [hj1, H1 _ hi]; exact congrArg some (rfl)
  intro target kt
  show Steps p.tables e below (T0.setTop (mkF m 10 #[.val (.ref a), .val (.int q), .val (.ref a), .val (.int (Int32.ofNat n)), .val (.int (Int32.ofNat i)), s5] [])) _
  refine XS.iload X0.here hx rfl (hb hby d2_10) rfl ?_
  show Steps p.tables e below (T0.setTop (mkF m 12 #[.val (.ref a), .val (.int q), .val (.ref a), .val (.int (Int32.ofNat n)), .val (.int (Int32.ofNat i)), s5] [(.int (Int32.ofNat i))])) _
  refine XS.iloadN X0.here hx rfl (hb hby d2_12) rfl ?_
  show Steps p.tables e below (T0.setTop (mkF m 13 #[.val (.ref a), .val (.int q), .val (.ref a), .val (.int (Int32.ofNat n)), .val (.int (Int32.ofNat i)), s5] [(.int (Int32.ofNat n)), (.int (Int32.ofNat i))])) _
  refine XS.icmpNo X0.here hx rfl (hb hby d2_13) rfl (tlt (show (Int32.ofNat i) < (Int32.ofNat n) from ((own_lt (by omega) hn).mpr hi))).2.1 ?_
  show Steps p.tables e below (T0.setTop (mkF m 16 #[.val (.ref a), .val (.int q), .val (.ref a), .val (.int (Int32.ofNat n)), .val (.int (Int32.ofNat i)), s5] [])) _
  refine XS.aloadN X0.here hx rfl (hb hby d2_16) rfl rfl ?_
  show Steps p.tables e below (T0.setTop (mkF m 17 #[.val (.ref a), .val (.int q), .val (.ref a), .val (.int (Int32.ofNat n)), .val (.int (Int32.ofNat i)), s5] [(.ref a)])) _
  refine XS.iload X0.here hx rfl (hb hby d2_17) rfl ?_
  show Steps p.tables e below (T0.setTop (mkF m 19 #[.val (.ref a), .val (.int q), .val (.ref a), .val (.int (Int32.ofNat n)), .val (.int (Int32.ofNat i)), s5] [(.int (Int32.ofNat i)), (.ref a)])) _
  refine X0.baloadBooleans hx (j := (Int32.ofNat i)) (v := (.int (cf i))) (by rw [e0]; exact Ar1.1) (State.isArrayOf_alike hZ.alike Ar1.2.1) Ar1.2.2 hin1 hat1 (g := (mkF m 19 #[.val (.ref a), .val (.int q), .val (.ref a), .val (.int (Int32.ofNat n)), .val (.int (Int32.ofNat i)), s5] [(.int (Int32.ofNat i)), (.ref a)])) rfl rfl (hb hby d2_19) _ ?_
  show Steps p.tables e below (T0.setTop (mkF m 20 #[.val (.ref a), .val (.int q), .val (.ref a), .val (.int (Int32.ofNat n)), .val (.int (Int32.ofNat i)), s5] [(.int (cf i))])) _
  refine XS.istore X0.here hx rfl (hb hby d2_20) rfl (l' := #[.val (.ref a), .val (.int q), .val (.ref a), .val (.int (Int32.ofNat n)), .val (.int (Int32.ofNat i)), .val (.int (cf i))]) (own_os h5) ?_
  show Steps p.tables e below (T0.setTop (mkF m 22 #[.val (.ref a), .val (.int q), .val (.ref a), .val (.int (Int32.ofNat n)), .val (.int (Int32.ofNat i)), .val (.int (cf i))] [])) _
  refine XS.iload X0.here hx rfl (hb hby d2_22) rfl ?_
  show Steps p.tables e below (T0.setTop (mkF m 24 #[.val (.ref a), .val (.int q), .val (.ref a), .val (.int (Int32.ofNat n)), .val (.int (Int32.ofNat i)), .val (.int (cf i))] [(.int (cf i))])) _
  refine XS.ifYes X0.here hx rfl (pc0 := 24) (pc' := 30) rfl (hb hby d2_24) rfl ((if0 _ _).trans (teq (show (cf i) = (0 : Int32) from hz)).1) (by decide) (by decide) ?_
  show Steps p.tables e below (T0.setTop (mkF m 30 #[.val (.ref a), .val (.int q), .val (.ref a), .val (.int (Int32.ofNat n)), .val (.int (Int32.ofNat i)), .val (.int (cf i))] [])) _
  refine XS.iinc X0.here hx rfl (hb hby d2_30) rfl (l' := #[.val (.ref a), .val (.int q), .val (.ref a), .val (.int (Int32.ofNat n)), .val (.int ((Int32.ofNat i) + (1 : Int32))), .val (.int (cf i))]) rfl ?_
  show Steps p.tables e below (T0.setTop (mkF m 33 #[.val (.ref a), .val (.int q), .val (.ref a), .val (.int (Int32.ofNat n)), .val (.int ((Int32.ofNat i) + (1 : Int32))), .val (.int (cf i))] [])) _
  refine XS.goto X0.here hx rfl (pc0 := 33) (pc' := 10) rfl (hb hby d2_33) (by decide) (by decide) ?_
  show Steps p.tables e below (T0.setTop (mkF m 10 #[.val (.ref a), .val (.int q), .val (.ref a), .val (.int (Int32.ofNat n)), .val (.int ((Int32.ofNat i) + (1 : Int32))), .val (.int (cf i))] [])) _
  exact kt
theorem d2_27 : decode prog_132_method_10_code 27 = .ok (.iinc 1 1, 3) := by decide +kernel
set_option maxRecDepth 65536 in
set_option maxHeartbeats 40000000 in
theorem tn1p {p : Program} {l : Launch} {e : Env} {R : Room} {s : State} {m : MethodId} {args : Array Value} {below : List Frame} {meth : Method} {c : Code} {T0 : State} {locs : List Loc} {cells slots : Nat} {Z : State} {a0 : Array Value} {h0 : Heap} {n0 : Nat} (a : Addr) (q : Int32) (n : Nat) (i : Nat) (cf : Nat → Int32) (s5 : Slot)
    (X0 : Stand p l e R s m args below meth c T0 locs cells slots) (hx : p.tables.exec = Jvm.exec) (hZ : Z.Warmed39 s.vm) (hw : ∀ d ∈ tables_1, d.before a0 Z = true) (hby : c.code = prog_132_method_10_code) (hml : c.maxLocals = 6) (hown : s.vm.findClass "stillmark/Placement" = some m.cls) (e0 : T0.heap = h0) (N0 : Fr n0 locs) (Z0 : n0 ≤ h0.size) (A_a : Av Z h0 a .boolean n (own_b cf)) (hn : n ≤ 6) (hi : i < n) (hz : ¬ cf i = 0) (h5 : One s5) :
    ∀ target, Steps p.tables e below (T0.setTop (mkF m 10 #[.val (.ref a), .val (.int (q + (1 : Int32))), .val (.ref a), .val (.int (Int32.ofNat n)), .val (.int ((Int32.ofNat i) + (1 : Int32))), .val (.int (cf i))] [])) target → Steps p.tables e below (T0.setTop (mkF m 10 #[.val (.ref a), .val (.int q), .val (.ref a), .val (.int (Int32.ofNat n)), .val (.int (Int32.ofNat i)), s5] [])) target := by
  obtain ⟨cl1, Ar1, S1, H1⟩ := id A_a
  have hj1 : (Int32.ofNat i).toNatClampNeg = i := (own_cv (by omega))
  have hin1 : ¬ ((Int32.ofNat i) < 0 ∨ cl1.slots.size ≤ ((Int32.ofNat i)).toNatClampNeg) := by rw [S1, hj1]; exact fun q => q.elim (own_nn (by omega)) (Nat.not_le.mpr hi)
  have hat1 : cl1.slots[((Int32.ofNat i)).toNatClampNeg]? = some (.int (cf i)) := by rw [hj1, H1 _ hi]; exact congrArg some (rfl)
  intro target kt
  show Steps p.tables e below (T0.setTop (mkF m 10 #[.val (.ref a), .val (.int q), .val (.ref a), .val (.int (Int32.ofNat n)), .val (.int (Int32.ofNat i)), s5] [])) _
  refine XS.iload X0.here hx rfl (hb hby d2_10) rfl ?_
  show Steps p.tables e below (T0.setTop (mkF m 12 #[.val (.ref a), .val (.int q), .val (.ref a), .val (.int (Int32.ofNat n)), .val (.int (Int32.ofNat i)), s5] [(.int (Int32.ofNat i))])) _
  refine XS.iloadN X0.here hx rfl (hb hby d2_12) rfl ?_
  show Steps p.tables e below (T0.setTop (mkF m 13 #[.val (.ref a), .val (.int q), .val (.ref a), .val (.int (Int32.ofNat n)), .val (.int (Int32.ofNat i)), s5] [(.int (Int32.ofNat n)), (.int (Int32.ofNat i))])) _
  refine XS.icmpNo X0.here hx rfl (hb hby d2_13) rfl (tlt (show (Int32.ofNat i) < (Int32.ofNat n) from ((own_lt (by omega) hn).mpr hi))).2.1 ?_
  show Steps p.tables e below (T0.setTop (mkF m 16 #[.val (.ref a), .val (.int q), .val (.ref a), .val (.int (Int32.ofNat n)), .val (.int (Int32.ofNat i)), s5] [])) _
  refine XS.aloadN X0.here hx rfl (hb hby d2_16) rfl rfl ?_
  show Steps p.tables e below (T0.setTop (mkF m 17 #[.val (.ref a), .val (.int q), .val (.ref a), .val (.int (Int32.ofNat n)), .val (.int (Int32.ofNat i)), s5] [(.ref a)])) _
  refine XS.iload X0.here hx rfl (hb hby d2_17) rfl ?_
  show Steps p.tables e below (T0.setTop (mkF m 19 #[.val (.ref a), .val (.int q), .val (.ref a), .val (.int (Int32.ofNat n)), .val (.int (Int32.ofNat i)), s5] [(.int (Int32.ofNat i)), (.ref a)])) _
  refine X0.baloadBooleans hx (j := (Int32.ofNat i)) (v := (.int (cf i))) (by rw [e0]; exact Ar1.1) (State.isArrayOf_alike hZ.alike Ar1.2.1) Ar1.2.2 hin1 hat1 (g := (mkF m 19 #[.val (.ref a), .val (.int q), .val (.ref a), .val (.int (Int32.ofNat n)), .val (.int (Int32.ofNat i)), s5] [(.int (Int32.ofNat i)), (.ref a)])) rfl rfl (hb hby d2_19) _ ?_
  show Steps p.tables e below (T0.setTop (mkF m 20 #[.val (.ref a), .val (.int q), .val (.ref a), .val (.int (Int32.ofNat n)), .val (.int (Int32.ofNat i)), s5] [(.int (cf i))])) _
  refine XS.istore X0.here hx rfl (hb hby d2_20) rfl (l' := #[.val (.ref a), .val (.int q), .val (.ref a), .val (.int (Int32.ofNat n)), .val (.int (Int32.ofNat i)), .val (.int (cf i))]) (own_os h5) ?_
  show Steps p.tables e below (T0.setTop (mkF m 22 #[.val (.ref a), .val (.int q), .val (.ref a), .val (.int (Int32.ofNat n)), .val (.int (Int32.ofNat i)), .val (.int (cf i))] [])) _
  refine XS.iload X0.here hx rfl (hb hby d2_22) rfl ?_
  show Steps p.tables e below (T0.setTop (mkF m 24 #[.val (.ref a), .val (.int q), .val (.ref a), .val (.int (Int32.ofNat n)), .val (.int (Int32.ofNat i)), .val (.int (cf i))] [(.int (cf i))])) _
  refine XS.ifNo X0.here hx rfl (hb hby d2_24) rfl ((if0 _ _).trans (feq (show ¬ ((cf i) = (0 : Int32)) from hz)).1) ?_
  show Steps p.tables e below (T0.setTop (mkF m 27 #[.val (.ref a), .val (.int q), .val (.ref a), .val (.int (Int32.ofNat n)), .val (.int (Int32.ofNat i)), .val (.int (cf i))] [])) _
  refine XS.iinc X0.here hx rfl (hb hby d2_27) rfl (l' := #[.val (.ref a), .val (.int (q + (1 : Int32))), .val (.ref a), .val (.int (Int32.ofNat n)), .val (.int (Int32.ofNat i)), .val (.int (cf i))]) rfl ?_
  show Steps p.tables e below (T0.setTop (mkF m 30 #[.val (.ref a), .val (.int (q + (1 : Int32))), .val (.ref a), .val (.int (Int32.ofNat n)), .val (.int (Int32.ofNat i)), .val (.int (cf i))] [])) _
  refine XS.iinc X0.here hx rfl (hb hby d2_30) rfl (l' := #[.val (.ref a), .val (.int (q + (1 : Int32))), .val (.ref a), .val (.int (Int32.ofNat n)), .val (.int ((Int32.ofNat i) + (1 : Int32))), .val (.int (cf i))]) rfl ?_
  show Steps p.tables e below (T0.setTop (mkF m 33 #[.val (.ref a), .val (.int (q + (1 : Int32))), .val (.ref a), .val (.int (Int32.ofNat n)), .val (.int ((Int32.ofNat i) + (1 : Int32))), .val (.int (cf i))] [])) _
  refine XS.goto X0.here hx rfl (pc0 := 33) (pc' := 10) rfl (hb hby d2_33) (by decide) (by decide) ?_
  show Steps p.tables e below (T0.setTop (mkF m 10 #[.val (.ref a), .val (.int (q + (1 : Int32))), .val (.ref a), .val (.int (Int32.ofNat n)), .val (.int ((Int32.ofNat i) + (1 : Int32))), .val (.int (cf i))] [])) _
  exact kt
set_option maxRecDepth 65536 in
set_option maxHeartbeats 40000000 in
theorem out1 {p : Program} {l : Launch} {e : Env} {R : Room} {s : State} {m : MethodId} {args : Array Value} {below : List Frame} {meth : Method} {c : Code} {T0 : State} {locs : List Loc} {cells slots : Nat} {Z : State} {a0 : Array Value} {h0 : Heap} {n0 : Nat} (a : Addr) (q : Int32) (n : Nat) (i : Nat) (cf : Nat → Int32) (s5 : Slot)
    (X0 : Stand p l e R s m args below meth c T0 locs cells slots) (hx : p.tables.exec = Jvm.exec) (hZ : Z.Warmed39 s.vm) (hw : ∀ d ∈ tables_1, d.before a0 Z = true) (hby : c.code = prog_132_method_10_code) (hml : c.maxLocals = 6) (hown : s.vm.findClass "stillmark/Placement" = some m.cls) (e0 : T0.heap = h0) (N0 : Fr n0 locs) (Z0 : n0 ≤ h0.size) (A_a : Av Z h0 a .boolean n (own_b cf)) (hn : n ≤ 6) (hi : i = n) :
    ∀ target, Steps p.tables e below (T0.setTop (mkF m 36 #[.val (.ref a), .val (.int q), .val (.ref a), .val (.int (Int32.ofNat n)), .val (.int (Int32.ofNat i)), s5] [])) target → Steps p.tables e below (T0.setTop (mkF m 10 #[.val (.ref a), .val (.int q), .val (.ref a), .val (.int (Int32.ofNat n)), .val (.int (Int32.ofNat i)), s5] [])) target := by
  intro target kt
  show Steps p.tables e below (T0.setTop (mkF m 10 #[.val (.ref a), .val (.int q), .val (.ref a), .val (.int (Int32.ofNat n)), .val (.int (Int32.ofNat i)), s5] [])) _
  refine XS.iload X0.here hx rfl (hb hby d2_10) rfl ?_
  show Steps p.tables e below (T0.setTop (mkF m 12 #[.val (.ref a), .val (.int q), .val (.ref a), .val (.int (Int32.ofNat n)), .val (.int (Int32.ofNat i)), s5] [(.int (Int32.ofNat i))])) _
  refine XS.iloadN X0.here hx rfl (hb hby d2_12) rfl ?_
  show Steps p.tables e below (T0.setTop (mkF m 13 #[.val (.ref a), .val (.int q), .val (.ref a), .val (.int (Int32.ofNat n)), .val (.int (Int32.ofNat i)), s5] [(.int (Int32.ofNat n)), (.int (Int32.ofNat i))])) _
  refine XS.icmpYes X0.here hx rfl (pc0 := 13) (pc' := 36) rfl (hb hby d2_13) rfl (flt (show ¬ ((Int32.ofNat i) < (Int32.ofNat n)) from (fun z => absurd ((own_lt (by omega) hn).mp z) (by omega)))).2.1 (by decide) (by decide) ?_
  show Steps p.tables e below (T0.setTop (mkF m 36 #[.val (.ref a), .val (.int q), .val (.ref a), .val (.int (Int32.ofNat n)), .val (.int (Int32.ofNat i)), s5] [])) _
  exact kt
theorem d2_45 : decode prog_132_method_10_code 45 = .ok (.iload 4, 2) := by decide +kernel
theorem d2_47 : decode prog_132_method_10_code 47 = .ok (.aload_n 0, 1) := by decide +kernel
theorem d2_48 : decode prog_132_method_10_code 48 = .ok (.arraylength, 1) := by decide +kernel
theorem d2_49 : decode prog_132_method_10_code 49 = .ok (.if_icmp .ge 24, 3) := by decide +kernel
theorem d2_52 : decode prog_132_method_10_code 52 = .ok (.aload_n 0, 1) := by decide +kernel
theorem d2_53 : decode prog_132_method_10_code 53 = .ok (.iload 4, 2) := by decide +kernel
theorem d2_55 : decode prog_132_method_10_code 55 = .ok (.baload, 1) := by decide +kernel
theorem d2_56 : decode prog_132_method_10_code 56 = .ok (.ifCond .eq 11, 3) := by decide +kernel
theorem d2_67 : decode prog_132_method_10_code 67 = .ok (.iinc 4 1, 3) := by decide +kernel
theorem d2_70 : decode prog_132_method_10_code 70 = .ok (.goto (-25), 3) := by decide +kernel
set_option maxRecDepth 65536 in
set_option maxHeartbeats 40000000 in
theorem tn2z {p : Program} {l : Launch} {e : Env} {R : Room} {s : State} {m : MethodId} {args : Array Value} {below : List Frame} {meth : Method} {c : Code} {T0 : State} {locs : List Loc} {cells slots : Nat} {Z : State} {a0 : Array Value} {h0 : Heap} {n0 : Nat} (a : Addr) (q : Int32) (n : Nat) (b : Addr) (j : Nat) (i : Nat) (cf : Nat → Int32) (s5 : Slot) (N : Nat) (g : Nat → Int32)
    (X0 : Stand p l e R s m args below meth c T0 locs cells slots) (hx : p.tables.exec = Jvm.exec) (hZ : Z.Warmed39 s.vm) (hw : ∀ d ∈ tables_1, d.before a0 Z = true) (hby : c.code = prog_132_method_10_code) (hml : c.maxLocals = 6) (hown : s.vm.findClass "stillmark/Placement" = some m.cls) (e0 : T0.heap = h0) (N0 : Fr n0 locs) (Z0 : n0 ≤ h0.size) (A_a : Av Z h0 a .boolean n (own_b cf)) (hn : n ≤ 6) (hi : i < n) (A_b : Av Z h0 b .int N (own_b g)) (hN : N ≤ 6) (hz : cf i = 0) :
    ∀ target, Steps p.tables e below (T0.setTop (mkF m 45 #[.val (.ref a), .val (.int q), .val (.ref b), .val (.int (Int32.ofNat j)), .val (.int ((Int32.ofNat i) + (1 : Int32))), s5] [])) target → Steps p.tables e below (T0.setTop (mkF m 45 #[.val (.ref a), .val (.int q), .val (.ref b), .val (.int (Int32.ofNat j)), .val (.int (Int32.ofNat i)), s5] [])) target := by
  obtain ⟨cl1, Ar1, S1, -⟩ := id A_a
  obtain ⟨cl2, Ar2, S2, H2⟩ := id A_a
  have hj2 : (Int32.ofNat i).toNatClampNeg = i := (own_cv (by omega))
  have hin2 : ¬ ((Int32.ofNat i) < 0 ∨ cl2.slots.size ≤ ((Int32.ofNat i)).toNatClampNeg) := by rw [S2, hj2]; exact fun q => q.elim (own_nn (by omega)) (Nat.not_le.mpr hi)
  have hat2 : cl2.slots[((Int32.ofNat i)).toNatClampNeg]? = some (.int (cf i)) := by rw [hj2, H2 _ hi]; exact congrArg some (rfl)
  intro target kt
  show Steps p.tables e below (T0.setTop (mkF m 45 #[.val (.ref a), .val (.int q), .val (.ref b), .val (.int (Int32.ofNat j)), .val (.int (Int32.ofNat i)), s5] [])) _
  refine XS.iload X0.here hx rfl (hb hby d2_45) rfl ?_
  show Steps p.tables e below (T0.setTop (mkF m 47 #[.val (.ref a), .val (.int q), .val (.ref b), .val (.int (Int32.ofNat j)), .val (.int (Int32.ofNat i)), s5] [(.int (Int32.ofNat i))])) _
  refine XS.aloadN X0.here hx rfl (hb hby d2_47) rfl rfl ?_
  show Steps p.tables e below (T0.setTop (mkF m 48 #[.val (.ref a), .val (.int q), .val (.ref b), .val (.int (Int32.ofNat j)), .val (.int (Int32.ofNat i)), s5] [(.ref a), (.int (Int32.ofNat i))])) _
  refine X0.arraylength hx (by rw [e0]; exact Ar1.1) (State.isArrayOf_alike hZ.alike Ar1.2.1) (g := (mkF m 48 #[.val (.ref a), .val (.int q), .val (.ref b), .val (.int (Int32.ofNat j)), .val (.int (Int32.ofNat i)), s5] [(.ref a), (.int (Int32.ofNat i))])) rfl rfl (hb hby d2_48) _ ?_
  rw [S1]
  show Steps p.tables e below (T0.setTop (mkF m 49 #[.val (.ref a), .val (.int q), .val (.ref b), .val (.int (Int32.ofNat j)), .val (.int (Int32.ofNat i)), s5] [(.int (Nat.toInt32 n)), (.int (Int32.ofNat i))])) _
  refine XS.icmpNo X0.here hx rfl (hb hby d2_49) rfl (tlt (show (Int32.ofNat i) < (Nat.toInt32 n) from ((own_lt (by omega) hn).mpr hi))).2.1 ?_
  show Steps p.tables e below (T0.setTop (mkF m 52 #[.val (.ref a), .val (.int q), .val (.ref b), .val (.int (Int32.ofNat j)), .val (.int (Int32.ofNat i)), s5] [])) _
  refine XS.aloadN X0.here hx rfl (hb hby d2_52) rfl rfl ?_
  show Steps p.tables e below (T0.setTop (mkF m 53 #[.val (.ref a), .val (.int q), .val (.ref b), .val (.int (Int32.ofNat j)), .val (.int (Int32.ofNat i)), s5] [(.ref a)])) _
  refine XS.iload X0.here hx rfl (hb hby d2_53) rfl ?_
  show Steps p.tables e below (T0.setTop (mkF m 55 #[.val (.ref a), .val (.int q), .val (.ref b), .val (.int (Int32.ofNat j)), .val (.int (Int32.ofNat i)), s5] [(.int (Int32.ofNat i)), (.ref a)])) _
  refine X0.baloadBooleans hx (j := (Int32.ofNat i)) (v := (.int (cf i))) (by rw [e0]; exact Ar2.1) (State.isArrayOf_alike hZ.alike Ar2.2.1) Ar2.2.2 hin2 hat2 (g := (mkF m 55 #[.val (.ref a), .val (.int q), .val (.ref b), .val (.int (Int32.ofNat j)), .val (.int (Int32.ofNat i)), s5] [(.int (Int32.ofNat i)), (.ref a)])) rfl rfl (hb hby d2_55) _ ?_
  show Steps p.tables e below (T0.setTop (mkF m 56 #[.val (.ref a), .val (.int q), .val (.ref b), .val (.int (Int32.ofNat j)), .val (.int (Int32.ofNat i)), s5] [(.int (cf i))])) _
  refine XS.ifYes X0.here hx rfl (pc0 := 56) (pc' := 67) rfl (hb hby d2_56) rfl ((if0 _ _).trans (teq (show (cf i) = (0 : Int32) from hz)).1) (by decide) (by decide) ?_
  show Steps p.tables e below (T0.setTop (mkF m 67 #[.val (.ref a), .val (.int q), .val (.ref b), .val (.int (Int32.ofNat j)), .val (.int (Int32.ofNat i)), s5] [])) _
  refine XS.iinc X0.here hx rfl (hb hby d2_67) rfl (l' := #[.val (.ref a), .val (.int q), .val (.ref b), .val (.int (Int32.ofNat j)), .val (.int ((Int32.ofNat i) + (1 : Int32))), s5]) rfl ?_
  show Steps p.tables e below (T0.setTop (mkF m 70 #[.val (.ref a), .val (.int q), .val (.ref b), .val (.int (Int32.ofNat j)), .val (.int ((Int32.ofNat i) + (1 : Int32))), s5] [])) _
  refine XS.goto X0.here hx rfl (pc0 := 70) (pc' := 45) rfl (hb hby d2_70) (by decide) (by decide) ?_
  show Steps p.tables e below (T0.setTop (mkF m 45 #[.val (.ref a), .val (.int q), .val (.ref b), .val (.int (Int32.ofNat j)), .val (.int ((Int32.ofNat i) + (1 : Int32))), s5] [])) _
  exact kt
theorem d2_59 : decode prog_132_method_10_code 59 = .ok (.aload_n 2, 1) := by decide +kernel
theorem d2_60 : decode prog_132_method_10_code 60 = .ok (.iload_n 3, 1) := by decide +kernel
theorem d2_61 : decode prog_132_method_10_code 61 = .ok (.iinc 3 1, 3) := by decide +kernel
theorem d2_64 : decode prog_132_method_10_code 64 = .ok (.iload 4, 2) := by decide +kernel
theorem d2_66 : decode prog_132_method_10_code 66 = .ok (.iastore, 1) := by decide +kernel
set_option maxRecDepth 65536 in
set_option maxHeartbeats 40000000 in
theorem tn2p {p : Program} {l : Launch} {e : Env} {R : Room} {s : State} {m : MethodId} {args : Array Value} {below : List Frame} {meth : Method} {c : Code} {T0 : State} {locs : List Loc} {cells slots : Nat} {Z : State} {a0 : Array Value} {h0 : Heap} {n0 : Nat} (a : Addr) (q : Int32) (n : Nat) (b : Addr) (j : Nat) (i : Nat) (cf : Nat → Int32) (s5 : Slot) (N : Nat) (g : Nat → Int32)
    (X0 : Stand p l e R s m args below meth c T0 locs cells slots) (hx : p.tables.exec = Jvm.exec) (hZ : Z.Warmed39 s.vm) (hw : ∀ d ∈ tables_1, d.before a0 Z = true) (hby : c.code = prog_132_method_10_code) (hml : c.maxLocals = 6) (hown : s.vm.findClass "stillmark/Placement" = some m.cls) (e0 : T0.heap = h0) (N0 : Fr n0 locs) (Z0 : n0 ≤ h0.size) (A_a : Av Z h0 a .boolean n (own_b cf)) (hn : n ≤ 6) (hi : i < n) (A_b : Av Z h0 b .int N (own_b g)) (hN : N ≤ 6) (hz : ¬ cf i = 0) (hj : j < N) (g_b : n0 ≤ b) (ne_a_b : a ≠ b) :
    ∃ (T' : State) (locs' : List Loc) (h' : Heap), Stand p l e R s m args below meth c T' locs' cells slots ∧ T'.heap = h' ∧ Fr n0 locs' ∧ Keep h0 h' [b] ∧ Av Z h' b .int N (own_b (own_upd g j (Int32.ofNat i))) ∧ ∀ target, Steps p.tables e below (T'.setTop (mkF m 45 #[.val (.ref a), .val (.int q), .val (.ref b), .val (.int ((Int32.ofNat j) + (1 : Int32))), .val (.int ((Int32.ofNat i) + (1 : Int32))), s5] [])) target → Steps p.tables e below (T0.setTop (mkF m 45 #[.val (.ref a), .val (.int q), .val (.ref b), .val (.int (Int32.ofNat j)), .val (.int (Int32.ofNat i)), s5] [])) target := by
  obtain ⟨cl1, Ar1, S1, -⟩ := id A_a
  obtain ⟨cl2, Ar2, S2, H2⟩ := id A_a
  have hj2 : (Int32.ofNat i).toNatClampNeg = i := (own_cv (by omega))
  have hin2 : ¬ ((Int32.ofNat i) < 0 ∨ cl2.slots.size ≤ ((Int32.ofNat i)).toNatClampNeg) := by rw [S2, hj2]; exact fun q => q.elim (own_nn (by omega)) (Nat.not_le.mpr hi)
  have hat2 : cl2.slots[((Int32.ofNat i)).toNatClampNeg]? = some (.int (cf i)) := by rw [hj2, H2 _ hi]; exact congrArg some (rfl)
  obtain ⟨cl3, Ar3, S3, H3⟩ := id A_b
  have hj3 : (Int32.ofNat j).toNatClampNeg = j := (own_cv (by omega))
  have hin3 : ¬ ((Int32.ofNat j) < 0 ∨ cl3.slots.size ≤ ((Int32.ofNat j)).toNatClampNeg) := by rw [S3, hj3]; exact fun q => q.elim (own_nn (by omega)) (Nat.not_le.mpr hj)
  obtain ⟨T4, h4, X4, e4, W4, st4⟩ := stI X0 hx hZ e0 Ar3 (j := (Int32.ofNat j)) hin3 (g := (mkF m 66 #[.val (.ref a), .val (.int q), .val (.ref b), .val (.int ((Int32.ofNat j) + (1 : Int32))), .val (.int (Int32.ofNat i)), s5] [(.int (Int32.ofNat i)), (.int (Int32.ofNat j)), (.ref b)])) rfl rfl (hb hby d2_66)
  have N4 := Fr.snoc X4 N0 g_b
  have Aw4 : Av Z h4 b .int N (fun jj_ => if jj_ = j then (.int (Int32.ofNat i)) else (own_b g) jj_) := Av.set Ar3 S3 H3 W4 hj3 rfl
  have rc5 : Av Z h4 b .int N (own_b (own_upd g j (Int32.ofNat i))) := Av.congr (fun k _ => own_upd_b g j (Int32.ofNat i) k) Aw4
  have kp6 : Keep h0 h4 [b] := ((Keep.refl h0 [b]).wr W4 (Or.inl (List.mem_of_getElem? (i := 0) rfl)))
  refine ⟨T4, _, _, X4, e4, N4, kp6, rc5, fun target kt => ?_⟩
  show Steps p.tables e below (T0.setTop (mkF m 45 #[.val (.ref a), .val (.int q), .val (.ref b), .val (.int (Int32.ofNat j)), .val (.int (Int32.ofNat i)), s5] [])) _
  refine XS.iload X0.here hx rfl (hb hby d2_45) rfl ?_
  show Steps p.tables e below (T0.setTop (mkF m 47 #[.val (.ref a), .val (.int q), .val (.ref b), .val (.int (Int32.ofNat j)), .val (.int (Int32.ofNat i)), s5] [(.int (Int32.ofNat i))])) _
  refine XS.aloadN X0.here hx rfl (hb hby d2_47) rfl rfl ?_
  show Steps p.tables e below (T0.setTop (mkF m 48 #[.val (.ref a), .val (.int q), .val (.ref b), .val (.int (Int32.ofNat j)), .val (.int (Int32.ofNat i)), s5] [(.ref a), (.int (Int32.ofNat i))])) _
  refine X0.arraylength hx (by rw [e0]; exact Ar1.1) (State.isArrayOf_alike hZ.alike Ar1.2.1) (g := (mkF m 48 #[.val (.ref a), .val (.int q), .val (.ref b), .val (.int (Int32.ofNat j)), .val (.int (Int32.ofNat i)), s5] [(.ref a), (.int (Int32.ofNat i))])) rfl rfl (hb hby d2_48) _ ?_
  rw [S1]
  show Steps p.tables e below (T0.setTop (mkF m 49 #[.val (.ref a), .val (.int q), .val (.ref b), .val (.int (Int32.ofNat j)), .val (.int (Int32.ofNat i)), s5] [(.int (Nat.toInt32 n)), (.int (Int32.ofNat i))])) _
  refine XS.icmpNo X0.here hx rfl (hb hby d2_49) rfl (tlt (show (Int32.ofNat i) < (Nat.toInt32 n) from ((own_lt (by omega) hn).mpr hi))).2.1 ?_
  show Steps p.tables e below (T0.setTop (mkF m 52 #[.val (.ref a), .val (.int q), .val (.ref b), .val (.int (Int32.ofNat j)), .val (.int (Int32.ofNat i)), s5] [])) _
  refine XS.aloadN X0.here hx rfl (hb hby d2_52) rfl rfl ?_
  show Steps p.tables e below (T0.setTop (mkF m 53 #[.val (.ref a), .val (.int q), .val (.ref b), .val (.int (Int32.ofNat j)), .val (.int (Int32.ofNat i)), s5] [(.ref a)])) _
  refine XS.iload X0.here hx rfl (hb hby d2_53) rfl ?_
  show Steps p.tables e below (T0.setTop (mkF m 55 #[.val (.ref a), .val (.int q), .val (.ref b), .val (.int (Int32.ofNat j)), .val (.int (Int32.ofNat i)), s5] [(.int (Int32.ofNat i)), (.ref a)])) _
  refine X0.baloadBooleans hx (j := (Int32.ofNat i)) (v := (.int (cf i))) (by rw [e0]; exact Ar2.1) (State.isArrayOf_alike hZ.alike Ar2.2.1) Ar2.2.2 hin2 hat2 (g := (mkF m 55 #[.val (.ref a), .val (.int q), .val (.ref b), .val (.int (Int32.ofNat j)), .val (.int (Int32.ofNat i)), s5] [(.int (Int32.ofNat i)), (.ref a)])) rfl rfl (hb hby d2_55) _ ?_
  show Steps p.tables e below (T0.setTop (mkF m 56 #[.val (.ref a), .val (.int q), .val (.ref b), .val (.int (Int32.ofNat j)), .val (.int (Int32.ofNat i)), s5] [(.int (cf i))])) _
  refine XS.ifNo X0.here hx rfl (hb hby d2_56) rfl ((if0 _ _).trans (feq (show ¬ ((cf i) = (0 : Int32)) from hz)).1) ?_
  show Steps p.tables e below (T0.setTop (mkF m 59 #[.val (.ref a), .val (.int q), .val (.ref b), .val (.int (Int32.ofNat j)), .val (.int (Int32.ofNat i)), s5] [])) _
  refine XS.aloadN X0.here hx rfl (hb hby d2_59) rfl rfl ?_
  show Steps p.tables e below (T0.setTop (mkF m 60 #[.val (.ref a), .val (.int q), .val (.ref b), .val (.int (Int32.ofNat j)), .val (.int (Int32.ofNat i)), s5] [(.ref b)])) _
  refine XS.iloadN X0.here hx rfl (hb hby d2_60) rfl ?_
  show Steps p.tables e below (T0.setTop (mkF m 61 #[.val (.ref a), .val (.int q), .val (.ref b), .val (.int (Int32.ofNat j)), .val (.int (Int32.ofNat i)), s5] [(.int (Int32.ofNat j)), (.ref b)])) _
  refine XS.iinc X0.here hx rfl (hb hby d2_61) rfl (l' := #[.val (.ref a), .val (.int q), .val (.ref b), .val (.int ((Int32.ofNat j) + (1 : Int32))), .val (.int (Int32.ofNat i)), s5]) rfl ?_
  show Steps p.tables e below (T0.setTop (mkF m 64 #[.val (.ref a), .val (.int q), .val (.ref b), .val (.int ((Int32.ofNat j) + (1 : Int32))), .val (.int (Int32.ofNat i)), s5] [(.int (Int32.ofNat j)), (.ref b)])) _
  refine XS.iload X0.here hx rfl (hb hby d2_64) rfl ?_
  show Steps p.tables e below (T0.setTop (mkF m 66 #[.val (.ref a), .val (.int q), .val (.ref b), .val (.int ((Int32.ofNat j) + (1 : Int32))), .val (.int (Int32.ofNat i)), s5] [(.int (Int32.ofNat i)), (.int (Int32.ofNat j)), (.ref b)])) _
  refine st4 _ ?_
  show Steps p.tables e below (T4.setTop (mkF m 67 #[.val (.ref a), .val (.int q), .val (.ref b), .val (.int ((Int32.ofNat j) + (1 : Int32))), .val (.int (Int32.ofNat i)), s5] [])) _
  refine XS.iinc X4.here hx rfl (hb hby d2_67) rfl (l' := #[.val (.ref a), .val (.int q), .val (.ref b), .val (.int ((Int32.ofNat j) + (1 : Int32))), .val (.int ((Int32.ofNat i) + (1 : Int32))), s5]) rfl ?_
  show Steps p.tables e below (T4.setTop (mkF m 70 #[.val (.ref a), .val (.int q), .val (.ref b), .val (.int ((Int32.ofNat j) + (1 : Int32))), .val (.int ((Int32.ofNat i) + (1 : Int32))), s5] [])) _
  refine XS.goto X4.here hx rfl (pc0 := 70) (pc' := 45) rfl (hb hby d2_70) (by decide) (by decide) ?_
  show Steps p.tables e below (T4.setTop (mkF m 45 #[.val (.ref a), .val (.int q), .val (.ref b), .val (.int ((Int32.ofNat j) + (1 : Int32))), .val (.int ((Int32.ofNat i) + (1 : Int32))), s5] [])) _
  exact kt
set_option maxRecDepth 65536 in
set_option maxHeartbeats 40000000 in
theorem out2 {p : Program} {l : Launch} {e : Env} {R : Room} {s : State} {m : MethodId} {args : Array Value} {below : List Frame} {meth : Method} {c : Code} {T0 : State} {locs : List Loc} {cells slots : Nat} {Z : State} {a0 : Array Value} {h0 : Heap} {n0 : Nat} (a : Addr) (q : Int32) (n : Nat) (b : Addr) (j : Nat) (i : Nat) (cf : Nat → Int32) (s5 : Slot) (N : Nat) (g : Nat → Int32)
    (X0 : Stand p l e R s m args below meth c T0 locs cells slots) (hx : p.tables.exec = Jvm.exec) (hZ : Z.Warmed39 s.vm) (hw : ∀ d ∈ tables_1, d.before a0 Z = true) (hby : c.code = prog_132_method_10_code) (hml : c.maxLocals = 6) (hown : s.vm.findClass "stillmark/Placement" = some m.cls) (e0 : T0.heap = h0) (N0 : Fr n0 locs) (Z0 : n0 ≤ h0.size) (A_a : Av Z h0 a .boolean n (own_b cf)) (hn : n ≤ 6) (A_b : Av Z h0 b .int N (own_b g)) (hi : i = n) :
    ∀ target, Steps p.tables e below (T0.setTop (mkF m 73 #[.val (.ref a), .val (.int q), .val (.ref b), .val (.int (Int32.ofNat j)), .val (.int (Int32.ofNat i)), s5] [])) target → Steps p.tables e below (T0.setTop (mkF m 45 #[.val (.ref a), .val (.int q), .val (.ref b), .val (.int (Int32.ofNat j)), .val (.int (Int32.ofNat i)), s5] [])) target := by
  obtain ⟨cl1, Ar1, S1, -⟩ := id A_a
  intro target kt
  show Steps p.tables e below (T0.setTop (mkF m 45 #[.val (.ref a), .val (.int q), .val (.ref b), .val (.int (Int32.ofNat j)), .val (.int (Int32.ofNat i)), s5] [])) _
  refine XS.iload X0.here hx rfl (hb hby d2_45) rfl ?_
  show Steps p.tables e below (T0.setTop (mkF m 47 #[.val (.ref a), .val (.int q), .val (.ref b), .val (.int (Int32.ofNat j)), .val (.int (Int32.ofNat i)), s5] [(.int (Int32.ofNat i))])) _
  refine XS.aloadN X0.here hx rfl (hb hby d2_47) rfl rfl ?_
  show Steps p.tables e below (T0.setTop (mkF m 48 #[.val (.ref a), .val (.int q), .val (.ref b), .val (.int (Int32.ofNat j)), .val (.int (Int32.ofNat i)), s5] [(.ref a), (.int (Int32.ofNat i))])) _
  refine X0.arraylength hx (by rw [e0]; exact Ar1.1) (State.isArrayOf_alike hZ.alike Ar1.2.1) (g := (mkF m 48 #[.val (.ref a), .val (.int q), .val (.ref b), .val (.int (Int32.ofNat j)), .val (.int (Int32.ofNat i)), s5] [(.ref a), (.int (Int32.ofNat i))])) rfl rfl (hb hby d2_48) _ ?_
  rw [S1]
  show Steps p.tables e below (T0.setTop (mkF m 49 #[.val (.ref a), .val (.int q), .val (.ref b), .val (.int (Int32.ofNat j)), .val (.int (Int32.ofNat i)), s5] [(.int (Nat.toInt32 n)), (.int (Int32.ofNat i))])) _
  refine XS.icmpYes X0.here hx rfl (pc0 := 49) (pc' := 73) rfl (hb hby d2_49) rfl (flt (show ¬ ((Int32.ofNat i) < (Nat.toInt32 n)) from (fun z => absurd ((own_lt (by omega) hn).mp z) (by omega)))).2.1 (by decide) (by decide) ?_
  show Steps p.tables e below (T0.setTop (mkF m 73 #[.val (.ref a), .val (.int q), .val (.ref b), .val (.int (Int32.ofNat j)), .val (.int (Int32.ofNat i)), s5] [])) _
  exact kt
theorem loop1 {p : Program} {l : Launch} {e : Env} {R : Room} {s : State} {m : MethodId} {args : Array Value} {below : List Frame} {meth : Method} {c : Code} {T0 : State} {locs : List Loc} {cells slots : Nat} {Z : State} {a0 : Array Value} {h0 : Heap} {n0 : Nat} (a : Addr) (n : Nat) (cf : Nat → Int32)
    (X0 : Stand p l e R s m args below meth c T0 locs cells slots) (hx : p.tables.exec = Jvm.exec) (hZ : Z.Warmed39 s.vm) (hw : ∀ d ∈ tables_1, d.before a0 Z = true) (hby : c.code = prog_132_method_10_code) (hml : c.maxLocals = 6) (hown : s.vm.findClass "stillmark/Placement" = some m.cls) (e0 : T0.heap = h0) (N0 : Fr n0 locs) (Z0 : n0 ≤ h0.size) (A_a : Av Z h0 a .boolean n (own_b cf)) (hn : n ≤ 6) :
    ∀ (k i : Nat) (s5 : Slot), i + k = n → One s5 → ∃ s5' : Slot, One s5' ∧ ∀ target, Steps p.tables e below (T0.setTop (mkF m 36 #[.val (.ref a), .val (.int (Int32.ofNat (own_cnt cf n))), .val (.ref a), .val (.int (Int32.ofNat n)), .val (.int (Int32.ofNat n)), s5'] [])) target → Steps p.tables e below (T0.setTop (mkF m 10 #[.val (.ref a), .val (.int (Int32.ofNat (own_cnt cf i))), .val (.ref a), .val (.int (Int32.ofNat n)), .val (.int (Int32.ofNat i)), s5] [])) target := by
  intro k
  induction k with
  | zero =>
    intro i s5 hk h5
    obtain rfl : i = n := hk
    exact ⟨s5, h5, out1 a _ i i cf s5 X0 hx hZ hw hby hml hown e0 N0 Z0 A_a hn rfl⟩
  | succ k ih =>
    intro i s5 hk h5
    by_cases hz : cf i = 0
    · obtain ⟨s5', h5', st⟩ := ih (i + 1) (.val (.int (cf i))) (by omega) (One.val rfl)
      refine ⟨s5', h5', fun target kt => ?_⟩
      have q := tn1z a (Int32.ofNat (own_cnt cf i)) n i cf s5 X0 hx hZ hw hby hml hown e0 N0 Z0 A_a hn (by omega) hz h5 target
      have e : own_cnt cf (i + 1) = own_cnt cf i := by show own_cnt cf i + (if cf i = 0 then 0 else 1) = _; rw [if_pos hz]; rfl
      have st := st target kt
      rw [e, ← own_suc] at st
      exact q st
    · obtain ⟨s5', h5', st⟩ := ih (i + 1) (.val (.int (cf i))) (by omega) (One.val rfl)
      refine ⟨s5', h5', fun target kt => ?_⟩
      have q := tn1p a (Int32.ofNat (own_cnt cf i)) n i cf s5 X0 hx hZ hw hby hml hown e0 N0 Z0 A_a hn (by omega) hz h5 target
      have e : own_cnt cf (i + 1) = own_cnt cf i + 1 := by show own_cnt cf i + (if cf i = 0 then 0 else 1) = _; rw [if_neg hz]
      have st := st target kt
      rw [e, ← own_suc, ← own_suc] at st
      exact q st
theorem loop2 {p : Program} {l : Launch} {e : Env} {R : Room} {s : State} {m : MethodId} {args : Array Value} {below : List Frame} {meth : Method} {c : Code} {cells slots : Nat} {Z : State} {a0 : Array Value} {n0 : Nat} (a : Addr) (q : Int32) (n : Nat) (b : Addr) (cf : Nat → Int32) (s5 : Slot)
    (hx : p.tables.exec = Jvm.exec) (hZ : Z.Warmed39 s.vm) (hw : ∀ d ∈ tables_1, d.before a0 Z = true) (hby : c.code = prog_132_method_10_code) (hml : c.maxLocals = 6) (hown : s.vm.findClass "stillmark/Placement" = some m.cls) (hn : n ≤ 6) (g_b : n0 ≤ b) (ne_a_b : a ≠ b) :
    ∀ (k i : Nat) {T0 : State} {locs : List Loc} {h0 : Heap} (g : Nat → Int32), i + k = n → Stand p l e R s m args below meth c T0 locs cells slots → T0.heap = h0 → Fr n0 locs → n0 ≤ h0.size → Av Z h0 a .boolean n (own_b cf) → Av Z h0 b .int (own_cnt cf n) (own_b g) →
      ∃ (T' : State) (locs' : List Loc) (h' : Heap) (g' : Nat → Int32), Stand p l e R s m args below meth c T' locs' cells slots ∧ T'.heap = h' ∧ Fr n0 locs' ∧ Keep h0 h' [b] ∧ Av Z h' b .int (own_cnt cf n) (own_b g') ∧ (∀ j, i ≤ j → j < n → ¬ cf j = 0 → g' (own_cnt cf j) = Int32.ofNat j) ∧ (∀ r, r < own_cnt cf i → g' r = g r) ∧
      ∀ target, Steps p.tables e below (T'.setTop (mkF m 73 #[.val (.ref a), .val (.int q), .val (.ref b), .val (.int (Int32.ofNat (own_cnt cf n))), .val (.int (Int32.ofNat n)), s5] [])) target → Steps p.tables e below (T0.setTop (mkF m 45 #[.val (.ref a), .val (.int q), .val (.ref b), .val (.int (Int32.ofNat (own_cnt cf i))), .val (.int (Int32.ofNat i)), s5] [])) target := by
  have hN := Nat.le_trans (own_cnt_le cf n) hn
  intro k
  induction k with
  | zero =>
    intro i T0 locs h0 g hk X0 e0 N0 Z0 A_a A_b
    obtain rfl : i = n := hk
    exact ⟨T0, locs, h0, g, X0, e0, N0, Keep.refl _ _, A_b, fun j h1 h2 => absurd h1 (by omega), fun _ _ => rfl, out2 a q i b _ i cf s5 _ g X0 hx hZ hw hby hml hown e0 N0 Z0 A_a hn A_b rfl⟩
  | succ k ih =>
    intro i T0 locs h0 g hk X0 e0 N0 Z0 A_a A_b
    by_cases hz : cf i = 0
    · have e : own_cnt cf (i + 1) = own_cnt cf i := by show own_cnt cf i + (if cf i = 0 then 0 else 1) = _; rw [if_pos hz]; rfl
      obtain ⟨T', locs', h', g', X', e', N', K, A', H1, H2, st⟩ := ih (i + 1) g (by omega) X0 e0 N0 Z0 A_a A_b
      refine ⟨T', locs', h', g', X', e', N', K, A', fun j h1 h2 h3 => H1 j (Nat.lt_of_le_of_ne h1 (fun u => h3 (u ▸ hz))) h2 h3, fun r hr => H2 r (by rw [e]; exact hr), fun target kt => ?_⟩
      have st := st target kt
      rw [e, ← own_suc] at st
      exact tn2z a q n b _ i cf s5 _ g X0 hx hZ hw hby hml hown e0 N0 Z0 A_a hn (by omega) A_b hN hz target st
    · have e : own_cnt cf (i + 1) = own_cnt cf i + 1 := by show own_cnt cf i + (if cf i = 0 then 0 else 1) = _; rw [if_neg hz]
      have hlt := own_cnt_lt cf (show i < n by omega) hz
      obtain ⟨T1, locs1, h1, X1, e1, N1, K1, A1, st1⟩ := tn2p a q n b (own_cnt cf i) i cf s5 _ g X0 hx hZ hw hby hml hown e0 N0 Z0 A_a hn (by omega) A_b hN hz hlt g_b ne_a_b
      obtain ⟨T', locs', h', g', X', e', N', K, A', H1, H2, st⟩ := ih (i + 1) _ (by omega) X1 e1 N1 (Nat.le_trans Z0 K1.1) (A_a.keep K1 (ninS ne_a_b nin0)) A1
      refine ⟨T', locs', h', g', X', e', N', K1.trans K (allS (Or.inl (List.mem_singleton.mpr rfl)) all0), A', fun j h1 h2 h3 => ?_, fun r hr => ?_, fun target kt => st1 target ?_⟩
      · by_cases u : j = i
        · rw [u, H2 (own_cnt cf i) (by omega)]; exact if_pos rfl
        · exact H1 j (by omega) h2 h3
      · rw [H2 r (by omega)]; exact if_neg (by omega)
      · have st := st target kt
        rw [e, ← own_suc, ← own_suc] at st
        exact st
theorem d2_0 : decode prog_132_method_10_code 0 = .ok (.iconst 0, 1) := by decide +kernel
theorem d2_1 : decode prog_132_method_10_code 1 = .ok (.istore_n 1, 1) := by decide +kernel
theorem d2_2 : decode prog_132_method_10_code 2 = .ok (.aload_n 0, 1) := by decide +kernel
theorem d2_3 : decode prog_132_method_10_code 3 = .ok (.astore_n 2, 1) := by decide +kernel
theorem d2_4 : decode prog_132_method_10_code 4 = .ok (.aload_n 2, 1) := by decide +kernel
theorem d2_5 : decode prog_132_method_10_code 5 = .ok (.arraylength, 1) := by decide +kernel
theorem d2_6 : decode prog_132_method_10_code 6 = .ok (.istore_n 3, 1) := by decide +kernel
theorem d2_7 : decode prog_132_method_10_code 7 = .ok (.iconst 0, 1) := by decide +kernel
theorem d2_8 : decode prog_132_method_10_code 8 = .ok (.istore 4, 2) := by decide +kernel
theorem d2_36 : decode prog_132_method_10_code 36 = .ok (.iload_n 1, 1) := by decide +kernel
theorem d2_37 : decode prog_132_method_10_code 37 = .ok (.newarray .int, 2) := by decide +kernel
theorem d2_39 : decode prog_132_method_10_code 39 = .ok (.astore_n 2, 1) := by decide +kernel
theorem d2_40 : decode prog_132_method_10_code 40 = .ok (.iconst 0, 1) := by decide +kernel
theorem d2_41 : decode prog_132_method_10_code 41 = .ok (.istore_n 3, 1) := by decide +kernel
theorem d2_42 : decode prog_132_method_10_code 42 = .ok (.iconst 0, 1) := by decide +kernel
theorem d2_43 : decode prog_132_method_10_code 43 = .ok (.istore 4, 2) := by decide +kernel
theorem d2_73 : decode prog_132_method_10_code 73 = .ok (.aload_n 2, 1) := by decide +kernel
theorem d2_74 : decode prog_132_method_10_code 74 = .ok (.areturn, 1) := by decide +kernel
theorem pn_1 : plainName "stillmark/Placement" = true := by first | (simp [plainName, overriddenIn]; done) | decide +kernel
theorem ef_2 (m : MethodId) (x0 : Addr) : entryFrame m #[(.ref x0)] 6 = mkF m 0 #[.val (.ref x0), .unset, .unset, .unset, .unset, .unset] [] := by first | (simp [entryFrame, mkF, argsToLocals, Value.category]; done) | rfl
def Qrm2 (Z : State) (a : Addr) (n : Nat) (cf : Nat → Int32) (h0 : Heap) (n0 : Nat) (v : Option Value) (h : Heap) (L : List Loc) : Prop := ∃ b : Addr, ∃ g : Nat → Int32, v = some (.ref b) ∧ Fr n0 L ∧ Keep h0 h [] ∧ Av Z h b .int (own_cnt cf n) (own_b g) ∧ (∀ j, j < n → ¬ cf j = 0 → g (own_cnt cf j) = Int32.ofNat j)
set_option maxRecDepth 65536 in
set_option maxHeartbeats 40000000 in
theorem rm2 (l : Launch) (Z : State) (a0 : Array Value) (hw : ∀ d ∈ tables_1, d.before a0 Z = true) (ws : List Jvm.Cond) (a : Addr) (n : Nat) (cf : Nat → Int32) (h0 : Heap) (n0 : Nat) (Z0 : n0 ≤ h0.size) (A_a : Av Z h0 a .boolean n (own_b cf)) (hn : n ≤ 6) :
    MetFree l (⟨"stillmark/Placement", "indices", "([Z)[I"⟩ : MethodName) (head1 (Jvm.Cond.code (⟨"stillmark/Placement", "indices", "([Z)[I"⟩ : MethodName) prog_132_method_10_code 6 (some (.array .int)) :: ws) ({ frames := 0, cells := 1, slots := 6, locals := 0 } : Room)) (fun aa_ U => aa_ = #[(.ref a)] ∧ Z.Warmed39 U.vm ∧ U.heap = h0) (fun _ _ _ _ _ => True) (fun _ U o U' => ∃ v L, o = .returned v ∧ Qrm2 Z a n cf h0 n0 v U'.heap L ∧ FrameEnd U o U' L ({ frames := 0, cells := 1, slots := 6, locals := 0 } : Room).cells ({ frames := 0, cells := 1, slots := 6, locals := 0 } : Room).slots) := by
  refine MetFree.of_bodySF (plainFor_of_name pn_1) hisR ?_
  intro p e s m args below meth c s₁ Bd hml0 hP hK
  obtain ⟨rfl, hZ, hh⟩ := hP
  have hx := Bd.exec
  have hby := Bd.bytes
  have hml : c.maxLocals = 6 := hml0
  have hown : s.vm.findClass "stillmark/Placement" = some m.cls := findClass_of_methodNamed Bd.named
  have hnm := (name_of_methodNamed Bd.named Bd.method).1
  have X0 : Stand p l e ({ frames := 0, cells := 1, slots := 6, locals := 0 } : Room) s m #[(.ref a)] below meth c s₁ [] 0 0 := Stand.of_body Bd
  have e0 : s₁.heap = h0 := by rw [← hh, Bd.state]; rfl
  have N0 := Fr.nil n0
  have pre0 : ∀ tt_, Steps p.tables e below (s₁.setTop (mkF m 0 #[.val (.ref a), .unset, .unset, .unset, .unset, .unset] [])) tt_ → Steps p.tables e below (s₁.setTop (entryFrame m #[(.ref a)] 6)) tt_ := fun tt_ kk_ => castTop (ef_2 m a) kk_
  obtain ⟨cl1, Ar1, S1, -⟩ := id A_a
  obtain ⟨s5', h5', st1'⟩ := loop1 a n cf X0 hx hZ hw hby hml hown e0 N0 Z0 A_a hn n 0 .unset (by omega) One.u
  have hN := Nat.le_trans (own_cnt_le cf n) hn
  obtain ⟨T2, h2, k2, X2, e2, E2, A2, st2⟩ := newP X0 hx hZ (hw _ (List.mem_of_getElem? (i := 10) rfl)) e0 (g := (mkF m 37 #[.val (.ref a), .val (.int (Int32.ofNat (own_cnt cf n))), .val (.ref a), .val (.int (Int32.ofNat n)), .val (.int (Int32.ofNat n)), s5'] [(.int (Int32.ofNat (own_cnt cf n)))])) rfl (hb hby d2_37) rfl (own_nn hN) (cap := 6) (by rw [own_cv hN]; exact hN) (by decide) (by decide) (by decide)
  obtain ⟨b2, g2⟩ : ∃ zz_, zz_ = h0.size := ⟨_, rfl⟩
  rw [← g2] at A2 st2
  have ne_a_b2 : a ≠ b2 := Nat.ne_of_lt (Nat.lt_of_lt_of_le A_a.lt (Nat.le_of_eq g2.symm))
  have g_b2 : n0 ≤ b2 := Nat.le_trans Z0 (Nat.le_of_eq g2.symm)
  have sz_b2 : h0.size ≤ b2 := Nat.le_trans (Keep.refl h0 []).1 (Nat.le_of_eq g2.symm)
  have A_b2 : Av Z h2 b2 .int (own_cnt cf n) (fun _ => (.int (0 : Int32))) := Av.new A2 (own_nn hN) (own_cv hN)
  have rc3 : Av Z h2 b2 .int (own_cnt cf n) (own_b (fun _ => 0)) := A_b2
  have f4_A_a := (A_a.ext E2)
  have sz5 : n0 ≤ h2.size := (Nat.le_trans Z0 E2.1)
  obtain ⟨TL, LL, hL, g', XL, eL, NL, KL, AL, HL, -, stL⟩ := loop2 a (Int32.ofNat (own_cnt cf n)) n b2 cf s5' hx hZ hw hby hml hown hn g_b2 ne_a_b2 n 0 (fun _ => 0) (by omega) X2 e2 N0 sz5 f4_A_a rc3
  have kp6 : Keep h0 h2 [] := ((Keep.refl h0 []).ext E2)
  have kEnd : Keep h0 hL [] := kp6.trans KL (allS (Or.inr sz_b2) all0)
  obtain ⟨fs, hr, hrun, hended, hW, hsame⟩ := XL.leave (v := some (.ref b2)) (fun h => by rw [Bd.returns] at h; cases h)
  refine ⟨_, _, pre0 _ ?_, hrun, hended, _, _, rfl, ?_, ⟨_, rfl⟩, hW, hsame.mono (by decide) (by decide)⟩
  · show Steps p.tables e below (s₁.setTop (mkF m 0 #[.val (.ref a), .unset, .unset, .unset, .unset, .unset] [])) _
    refine XS.iconst X0.here hx rfl (hb hby d2_0) ?_
    show Steps p.tables e below (s₁.setTop (mkF m 1 #[.val (.ref a), .unset, .unset, .unset, .unset, .unset] [(.int (0 : Int32))])) _
    refine XS.istoreN X0.here hx rfl (hb hby d2_1) rfl (l' := #[.val (.ref a), .val (.int (0 : Int32)), .unset, .unset, .unset, .unset]) rfl ?_
    show Steps p.tables e below (s₁.setTop (mkF m 2 #[.val (.ref a), .val (.int (0 : Int32)), .unset, .unset, .unset, .unset] [])) _
    refine XS.aloadN X0.here hx rfl (hb hby d2_2) rfl rfl ?_
    show Steps p.tables e below (s₁.setTop (mkF m 3 #[.val (.ref a), .val (.int (0 : Int32)), .unset, .unset, .unset, .unset] [(.ref a)])) _
    refine XS.astoreN X0.here hx rfl (hb hby d2_3) rfl rfl (l' := #[.val (.ref a), .val (.int (0 : Int32)), .val (.ref a), .unset, .unset, .unset]) rfl ?_
    show Steps p.tables e below (s₁.setTop (mkF m 4 #[.val (.ref a), .val (.int (0 : Int32)), .val (.ref a), .unset, .unset, .unset] [])) _
    refine XS.aloadN X0.here hx rfl (hb hby d2_4) rfl rfl ?_
    show Steps p.tables e below (s₁.setTop (mkF m 5 #[.val (.ref a), .val (.int (0 : Int32)), .val (.ref a), .unset, .unset, .unset] [(.ref a)])) _
    refine X0.arraylength hx (by rw [e0]; exact Ar1.1) (State.isArrayOf_alike hZ.alike Ar1.2.1) (g := (mkF m 5 #[.val (.ref a), .val (.int (0 : Int32)), .val (.ref a), .unset, .unset, .unset] [(.ref a)])) rfl rfl (hb hby d2_5) _ ?_
    rw [S1]
    show Steps p.tables e below (s₁.setTop (mkF m 6 #[.val (.ref a), .val (.int (0 : Int32)), .val (.ref a), .unset, .unset, .unset] [(.int (Nat.toInt32 n))])) _
    refine XS.istoreN X0.here hx rfl (hb hby d2_6) rfl (l' := #[.val (.ref a), .val (.int (0 : Int32)), .val (.ref a), .val (.int (Nat.toInt32 n)), .unset, .unset]) rfl ?_
    show Steps p.tables e below (s₁.setTop (mkF m 7 #[.val (.ref a), .val (.int (0 : Int32)), .val (.ref a), .val (.int (Nat.toInt32 n)), .unset, .unset] [])) _
    refine XS.iconst X0.here hx rfl (hb hby d2_7) ?_
    show Steps p.tables e below (s₁.setTop (mkF m 8 #[.val (.ref a), .val (.int (0 : Int32)), .val (.ref a), .val (.int (Nat.toInt32 n)), .unset, .unset] [(.int (0 : Int32))])) _
    refine XS.istore X0.here hx rfl (hb hby d2_8) rfl (l' := #[.val (.ref a), .val (.int (0 : Int32)), .val (.ref a), .val (.int (Nat.toInt32 n)), .val (.int (0 : Int32)), .unset]) rfl ?_
    show Steps p.tables e below (s₁.setTop (mkF m 10 #[.val (.ref a), .val (.int (Int32.ofNat (own_cnt cf 0))), .val (.ref a), .val (.int (Int32.ofNat n)), .val (.int (Int32.ofNat 0)), .unset] [])) _
    refine st1' _ ?_
    show Steps p.tables e below (s₁.setTop (mkF m 36 #[.val (.ref a), .val (.int (Int32.ofNat (own_cnt cf n))), .val (.ref a), .val (.int (Int32.ofNat n)), .val (.int (Int32.ofNat n)), s5'] [])) _
    refine XS.iloadN X0.here hx rfl (hb hby d2_36) rfl ?_
    show Steps p.tables e below (s₁.setTop (mkF m 37 #[.val (.ref a), .val (.int (Int32.ofNat (own_cnt cf n))), .val (.ref a), .val (.int (Int32.ofNat n)), .val (.int (Int32.ofNat n)), s5'] [(.int (Int32.ofNat (own_cnt cf n)))])) _
    refine st2 _ ?_
    show Steps p.tables e below (T2.setTop (mkF m 39 #[.val (.ref a), .val (.int (Int32.ofNat (own_cnt cf n))), .val (.ref a), .val (.int (Int32.ofNat n)), .val (.int (Int32.ofNat n)), s5'] [(.ref b2)])) _
    refine XS.astoreN X2.here hx rfl (hb hby d2_39) rfl rfl (l' := #[.val (.ref a), .val (.int (Int32.ofNat (own_cnt cf n))), .val (.ref b2), .val (.int (Int32.ofNat n)), .val (.int (Int32.ofNat n)), s5']) rfl ?_
    show Steps p.tables e below (T2.setTop (mkF m 40 #[.val (.ref a), .val (.int (Int32.ofNat (own_cnt cf n))), .val (.ref b2), .val (.int (Int32.ofNat n)), .val (.int (Int32.ofNat n)), s5'] [])) _
    refine XS.iconst X2.here hx rfl (hb hby d2_40) ?_
    show Steps p.tables e below (T2.setTop (mkF m 41 #[.val (.ref a), .val (.int (Int32.ofNat (own_cnt cf n))), .val (.ref b2), .val (.int (Int32.ofNat n)), .val (.int (Int32.ofNat n)), s5'] [(.int (0 : Int32))])) _
    refine XS.istoreN X2.here hx rfl (hb hby d2_41) rfl (l' := #[.val (.ref a), .val (.int (Int32.ofNat (own_cnt cf n))), .val (.ref b2), .val (.int (0 : Int32)), .val (.int (Int32.ofNat n)), s5']) rfl ?_
    show Steps p.tables e below (T2.setTop (mkF m 42 #[.val (.ref a), .val (.int (Int32.ofNat (own_cnt cf n))), .val (.ref b2), .val (.int (0 : Int32)), .val (.int (Int32.ofNat n)), s5'] [])) _
    refine XS.iconst X2.here hx rfl (hb hby d2_42) ?_
    show Steps p.tables e below (T2.setTop (mkF m 43 #[.val (.ref a), .val (.int (Int32.ofNat (own_cnt cf n))), .val (.ref b2), .val (.int (0 : Int32)), .val (.int (Int32.ofNat n)), s5'] [(.int (0 : Int32))])) _
    refine XS.istore X2.here hx rfl (hb hby d2_43) rfl (l' := #[.val (.ref a), .val (.int (Int32.ofNat (own_cnt cf n))), .val (.ref b2), .val (.int (0 : Int32)), .val (.int (0 : Int32)), s5']) rfl ?_
    show Steps p.tables e below (T2.setTop (mkF m 45 #[.val (.ref a), .val (.int (Int32.ofNat (own_cnt cf n))), .val (.ref b2), .val (.int (Int32.ofNat (own_cnt cf 0))), .val (.int (Int32.ofNat 0)), s5'] [])) _
    refine stL _ ?_
    show Steps p.tables e below (TL.setTop (mkF m 73 #[.val (.ref a), .val (.int (Int32.ofNat (own_cnt cf n))), .val (.ref b2), .val (.int (Int32.ofNat (own_cnt cf n))), .val (.int (Int32.ofNat n)), s5'] [])) _
    refine XS.aloadN XL.here hx rfl (hb hby d2_73) rfl rfl ?_
    show Steps p.tables e below (TL.setTop (mkF m 74 #[.val (.ref a), .val (.int (Int32.ofNat (own_cnt cf n))), .val (.ref b2), .val (.int (Int32.ofNat (own_cnt cf n))), .val (.int (Int32.ofNat n)), s5'] [(.ref b2)])) _
    jvm_step XL.here [XL.here.top, hx, (hb hby d2_74), XL.method', Bd.returns, Value.isRef, FieldType.isReference]
    first | (intro acts; rw [hr _ acts rfl rfl rfl]) | rw [hr _ _ rfl rfl rfl]
    exact Steps.refl _
  · show Qrm2 Z a n cf h0 n0 _ TL.heap _
    rw [eL]
    exact ⟨b2, g', rfl, NL, kEnd, AL, (fun j hj h => HL j (Nat.zero_le _) hj h)⟩
set_option maxRecDepth 65536 in
set_option maxHeartbeats 40000000 in
theorem set0a {p : Program} {l : Launch} {e : Env} {R : Room} {s : State} {m : MethodId} {args : Array Value} {below : List Frame} {meth : Method} {c : Code} {T0 : State} {locs : List Loc} {cells slots : Nat} {Z : State} {a0 : Array Value} {h0 : Heap} {n0 : Nat} (p1 : Int32) (p2 : Int32) (n : Nat) (a : Addr) (c0' : Int32) (c1' : Int32) (c2' : Int32) (c3' : Int32) (c4' : Int32) (c5' : Int32) (cf : Nat → Int32)
    (X0 : Stand p l e R s m args below meth c T0 locs cells slots) (hx : p.tables.exec = Jvm.exec) (hZ : Z.Warmed39 s.vm) (hw : ∀ d ∈ tables_1, d.before a0 Z = true) (hby : c.code = code) (hml : c.maxLocals = 17) (hown : s.vm.findClass "stillmark/PlacementIndicesPinLaw" = some m.cls) (e0 : T0.heap = h0) (N0 : Fr n0 locs) (Z0 : n0 ≤ h0.size) (A_a : Av Z h0 a .boolean n (own_b (own_upto cf 0))) (g_a : n0 ≤ a) (hn : n ≤ 6) (hck : c0' = cf 0) (hbb : cf 0 = 0 ∨ cf 0 = 1) (hk : ¬ 0 < n) :
    ∃ (T' : State) (locs' : List Loc) (h' : Heap), Stand p l e R s m args below meth c T' locs' cells slots ∧ T'.heap = h' ∧ Fr n0 locs' ∧ Keep h0 h' [a] ∧ Av Z h' a .boolean n (own_b (own_upto cf 1)) ∧ ∀ target, Steps p.tables e below (T'.setTop (mkF m 78 #[.val (.int p1), .val (.int p2), .val (.int (Int32.ofNat n)), .val (.ref a), .val (.int c0'), .val (.int c1'), .val (.int c2'), .val (.int c3'), .val (.int c4'), .val (.int c5'), .unset, .unset, .unset, .unset, .unset, .unset, .unset] [])) target → Steps p.tables e below (T0.setTop (mkF m 60 #[.val (.int p1), .val (.int p2), .val (.int (Int32.ofNat n)), .val (.ref a), .val (.int c0'), .val (.int c1'), .val (.int c2'), .val (.int c3'), .val (.int c4'), .val (.int c5'), .unset, .unset, .unset, .unset, .unset, .unset, .unset] [])) target := by
  have rc1 : Av Z h0 a .boolean n (own_b (own_upto cf 1)) := Av.congr (fun j hj => own_upto_congr cf n 0 (by omega) j hj) A_a
  refine ⟨T0, _, _, X0, e0, N0, (Keep.refl h0 [a]), rc1, fun target kt => ?_⟩
  show Steps p.tables e below (T0.setTop (mkF m 60 #[.val (.int p1), .val (.int p2), .val (.int (Int32.ofNat n)), .val (.ref a), .val (.int c0'), .val (.int c1'), .val (.int c2'), .val (.int c3'), .val (.int c4'), .val (.int c5'), .unset, .unset, .unset, .unset, .unset, .unset, .unset] [])) _
  refine XS.iloadN X0.here hx rfl (hb hby at_60) rfl ?_
  show Steps p.tables e below (T0.setTop (mkF m 61 #[.val (.int p1), .val (.int p2), .val (.int (Int32.ofNat n)), .val (.ref a), .val (.int c0'), .val (.int c1'), .val (.int c2'), .val (.int c3'), .val (.int c4'), .val (.int c5'), .unset, .unset, .unset, .unset, .unset, .unset, .unset] [(.int (Int32.ofNat n))])) _
  refine XS.ifYes X0.here hx rfl (pc0 := 61) (pc' := 78) rfl (hb hby at_61) rfl ((if0 _ _).trans (flt (show ¬ ((0 : Int32) < (Int32.ofNat n)) from (fun z => hk ((own_lt (i := 0) (by omega) hn).mp z)))).2.2.2) (by decide) (by decide) ?_
  show Steps p.tables e below (T0.setTop (mkF m 78 #[.val (.int p1), .val (.int p2), .val (.int (Int32.ofNat n)), .val (.ref a), .val (.int c0'), .val (.int c1'), .val (.int c2'), .val (.int c3'), .val (.int c4'), .val (.int c5'), .unset, .unset, .unset, .unset, .unset, .unset, .unset] [])) _
  exact kt
set_option maxRecDepth 65536 in
set_option maxHeartbeats 40000000 in
theorem set0b {p : Program} {l : Launch} {e : Env} {R : Room} {s : State} {m : MethodId} {args : Array Value} {below : List Frame} {meth : Method} {c : Code} {T0 : State} {locs : List Loc} {cells slots : Nat} {Z : State} {a0 : Array Value} {h0 : Heap} {n0 : Nat} (p1 : Int32) (p2 : Int32) (n : Nat) (a : Addr) (c0' : Int32) (c1' : Int32) (c2' : Int32) (c3' : Int32) (c4' : Int32) (c5' : Int32) (cf : Nat → Int32)
    (X0 : Stand p l e R s m args below meth c T0 locs cells slots) (hx : p.tables.exec = Jvm.exec) (hZ : Z.Warmed39 s.vm) (hw : ∀ d ∈ tables_1, d.before a0 Z = true) (hby : c.code = code) (hml : c.maxLocals = 17) (hown : s.vm.findClass "stillmark/PlacementIndicesPinLaw" = some m.cls) (e0 : T0.heap = h0) (N0 : Fr n0 locs) (Z0 : n0 ≤ h0.size) (A_a : Av Z h0 a .boolean n (own_b (own_upto cf 0))) (g_a : n0 ≤ a) (hn : n ≤ 6) (hck : c0' = cf 0) (hbb : cf 0 = 0 ∨ cf 0 = 1) (hk : 0 < n) :
    ∃ (T' : State) (locs' : List Loc) (h' : Heap), Stand p l e R s m args below meth c T' locs' cells slots ∧ T'.heap = h' ∧ Fr n0 locs' ∧ Keep h0 h' [a] ∧ Av Z h' a .boolean n (own_b (own_upto cf 1)) ∧ ∀ target, Steps p.tables e below (T'.setTop (mkF m 78 #[.val (.int p1), .val (.int p2), .val (.int (Int32.ofNat n)), .val (.ref a), .val (.int c0'), .val (.int c1'), .val (.int c2'), .val (.int c3'), .val (.int c4'), .val (.int c5'), .unset, .unset, .unset, .unset, .unset, .unset, .unset] [])) target → Steps p.tables e below (T0.setTop (mkF m 60 #[.val (.int p1), .val (.int p2), .val (.int (Int32.ofNat n)), .val (.ref a), .val (.int c0'), .val (.int c1'), .val (.int c2'), .val (.int c3'), .val (.int c4'), .val (.int c5'), .unset, .unset, .unset, .unset, .unset, .unset, .unset] [])) target := by
  obtain ⟨v', hv_v'⟩ : ∃ zz_ : Int32, (c0' = (1 : Int32) ∧ zz_ = (1 : Int32)) ∨ (¬ (c0' = (1 : Int32)) ∧ zz_ = (0 : Int32)) := by
    by_cases hq : c0' = (1 : Int32)
    · exact ⟨_, Or.inl ⟨hq, rfl⟩⟩
    · exact ⟨_, Or.inr ⟨hq, rfl⟩⟩
  have dm1 : ∀ t, Steps p.tables e below (T0.setTop (mkF m 77 #[.val (.int p1), .val (.int p2), .val (.int (Int32.ofNat n)), .val (.ref a), .val (.int c0'), .val (.int c1'), .val (.int c2'), .val (.int c3'), .val (.int c4'), .val (.int c5'), .unset, .unset, .unset, .unset, .unset, .unset, .unset] [(.int v'), (.int (0 : Int32)), (.ref a)])) t → Steps p.tables e below (T0.setTop (mkF m 69 #[.val (.int p1), .val (.int p2), .val (.int (Int32.ofNat n)), .val (.ref a), .val (.int c0'), .val (.int c1'), .val (.int c2'), .val (.int c3'), .val (.int c4'), .val (.int c5'), .unset, .unset, .unset, .unset, .unset, .unset, .unset] [(.int (1 : Int32)), (.int c0'), (.int (0 : Int32)), (.ref a)])) t := by
    intro t K
    rcases hv_v' with ⟨hq, rfl⟩ | ⟨hq, rfl⟩
    · show Steps p.tables e below (T0.setTop (mkF m 69 #[.val (.int p1), .val (.int p2), .val (.int (Int32.ofNat n)), .val (.ref a), .val (.int c0'), .val (.int c1'), .val (.int c2'), .val (.int c3'), .val (.int c4'), .val (.int c5'), .unset, .unset, .unset, .unset, .unset, .unset, .unset] [(.int (1 : Int32)), (.int c0'), (.int (0 : Int32)), (.ref a)])) _
      refine XS.icmpNo X0.here hx rfl (hb hby at_69) rfl (teq (show c0' = (1 : Int32) from hq)).2 ?_
      show Steps p.tables e below (T0.setTop (mkF m 72 #[.val (.int p1), .val (.int p2), .val (.int (Int32.ofNat n)), .val (.ref a), .val (.int c0'), .val (.int c1'), .val (.int c2'), .val (.int c3'), .val (.int c4'), .val (.int c5'), .unset, .unset, .unset, .unset, .unset, .unset, .unset] [(.int (0 : Int32)), (.ref a)])) _
      refine XS.iconst X0.here hx rfl (hb hby at_72) ?_
      show Steps p.tables e below (T0.setTop (mkF m 73 #[.val (.int p1), .val (.int p2), .val (.int (Int32.ofNat n)), .val (.ref a), .val (.int c0'), .val (.int c1'), .val (.int c2'), .val (.int c3'), .val (.int c4'), .val (.int c5'), .unset, .unset, .unset, .unset, .unset, .unset, .unset] [(.int (1 : Int32)), (.int (0 : Int32)), (.ref a)])) _
      refine XS.goto X0.here hx rfl (pc0 := 73) (pc' := 77) rfl (hb hby at_73) (by decide) (by decide) ?_
      show Steps p.tables e below (T0.setTop (mkF m 77 #[.val (.int p1), .val (.int p2), .val (.int (Int32.ofNat n)), .val (.ref a), .val (.int c0'), .val (.int c1'), .val (.int c2'), .val (.int c3'), .val (.int c4'), .val (.int c5'), .unset, .unset, .unset, .unset, .unset, .unset, .unset] [(.int (1 : Int32)), (.int (0 : Int32)), (.ref a)])) _
      exact K
    · show Steps p.tables e below (T0.setTop (mkF m 69 #[.val (.int p1), .val (.int p2), .val (.int (Int32.ofNat n)), .val (.ref a), .val (.int c0'), .val (.int c1'), .val (.int c2'), .val (.int c3'), .val (.int c4'), .val (.int c5'), .unset, .unset, .unset, .unset, .unset, .unset, .unset] [(.int (1 : Int32)), (.int c0'), (.int (0 : Int32)), (.ref a)])) _
      refine XS.icmpYes X0.here hx rfl (pc0 := 69) (pc' := 76) rfl (hb hby at_69) rfl (feq (show ¬ (c0' = (1 : Int32)) from hq)).2 (by decide) (by decide) ?_
      show Steps p.tables e below (T0.setTop (mkF m 76 #[.val (.int p1), .val (.int p2), .val (.int (Int32.ofNat n)), .val (.ref a), .val (.int c0'), .val (.int c1'), .val (.int c2'), .val (.int c3'), .val (.int c4'), .val (.int c5'), .unset, .unset, .unset, .unset, .unset, .unset, .unset] [(.int (0 : Int32)), (.ref a)])) _
      refine XS.iconst X0.here hx rfl (hb hby at_76) ?_
      show Steps p.tables e below (T0.setTop (mkF m 77 #[.val (.int p1), .val (.int p2), .val (.int (Int32.ofNat n)), .val (.ref a), .val (.int c0'), .val (.int c1'), .val (.int c2'), .val (.int c3'), .val (.int c4'), .val (.int c5'), .unset, .unset, .unset, .unset, .unset, .unset, .unset] [(.int (0 : Int32)), (.int (0 : Int32)), (.ref a)])) _
      exact K
  have hv : v' = cf 0 := by
    rw [← hck]
    rcases hv_v' with ⟨h1, h2⟩ | ⟨h1, h2⟩
    · rw [h1, h2]
    · rw [h2]; rw [← hck] at hbb; exact (hbb.resolve_right h1).symm
  obtain ⟨cl2, Ar2, S2, H2⟩ := id A_a
  have hj2 : (0 : Int32).toNatClampNeg = 0 := (by decide)
  have hin2 : ¬ ((0 : Int32) < 0 ∨ cl2.slots.size ≤ ((0 : Int32)).toNatClampNeg) := by rw [S2, hj2]; exact fun q => q.elim (by decide) (Nat.not_le.mpr hk)
  obtain ⟨T3, h3, X3, e3, W3, st3⟩ := stZ X0 hx hZ e0 Ar2 (j := (0 : Int32)) hin2 (g := (mkF m 77 #[.val (.int p1), .val (.int p2), .val (.int (Int32.ofNat n)), .val (.ref a), .val (.int c0'), .val (.int c1'), .val (.int c2'), .val (.int c3'), .val (.int c4'), .val (.int c5'), .unset, .unset, .unset, .unset, .unset, .unset, .unset] [(.int v'), (.int (0 : Int32)), (.ref a)])) rfl rfl (hb hby at_77)
  have N3 := Fr.snoc X3 N0 g_a
  have Aw3 : Av Z h3 a .boolean n (fun jj_ => if jj_ = 0 then (.int v') else (own_b (own_upto cf 0)) jj_) := Av.set Ar2 S2 H2 W3 hj2 (congrArg Value.int (own_nar (hv ▸ hbb)))
  have rc4 : Av Z h3 a .boolean n (own_b (own_upto cf 1)) := Av.congr (fun j _ => own_upto_set cf 0 v' hv j) Aw3
  have kp5 : Keep h0 h3 [a] := ((Keep.refl h0 [a]).wr W3 (Or.inl (List.mem_of_getElem? (i := 0) rfl)))
  refine ⟨T3, _, _, X3, e3, N3, kp5, rc4, fun target kt => ?_⟩
  show Steps p.tables e below (T0.setTop (mkF m 60 #[.val (.int p1), .val (.int p2), .val (.int (Int32.ofNat n)), .val (.ref a), .val (.int c0'), .val (.int c1'), .val (.int c2'), .val (.int c3'), .val (.int c4'), .val (.int c5'), .unset, .unset, .unset, .unset, .unset, .unset, .unset] [])) _
  refine XS.iloadN X0.here hx rfl (hb hby at_60) rfl ?_
  show Steps p.tables e below (T0.setTop (mkF m 61 #[.val (.int p1), .val (.int p2), .val (.int (Int32.ofNat n)), .val (.ref a), .val (.int c0'), .val (.int c1'), .val (.int c2'), .val (.int c3'), .val (.int c4'), .val (.int c5'), .unset, .unset, .unset, .unset, .unset, .unset, .unset] [(.int (Int32.ofNat n))])) _
  refine XS.ifNo X0.here hx rfl (hb hby at_61) rfl ((if0 _ _).trans (tlt (show (0 : Int32) < (Int32.ofNat n) from ((own_lt (i := 0) (by omega) hn).mpr hk))).2.2.2) ?_
  show Steps p.tables e below (T0.setTop (mkF m 64 #[.val (.int p1), .val (.int p2), .val (.int (Int32.ofNat n)), .val (.ref a), .val (.int c0'), .val (.int c1'), .val (.int c2'), .val (.int c3'), .val (.int c4'), .val (.int c5'), .unset, .unset, .unset, .unset, .unset, .unset, .unset] [])) _
  refine XS.aloadN X0.here hx rfl (hb hby at_64) rfl rfl ?_
  show Steps p.tables e below (T0.setTop (mkF m 65 #[.val (.int p1), .val (.int p2), .val (.int (Int32.ofNat n)), .val (.ref a), .val (.int c0'), .val (.int c1'), .val (.int c2'), .val (.int c3'), .val (.int c4'), .val (.int c5'), .unset, .unset, .unset, .unset, .unset, .unset, .unset] [(.ref a)])) _
  refine XS.iconst X0.here hx rfl (hb hby at_65) ?_
  show Steps p.tables e below (T0.setTop (mkF m 66 #[.val (.int p1), .val (.int p2), .val (.int (Int32.ofNat n)), .val (.ref a), .val (.int c0'), .val (.int c1'), .val (.int c2'), .val (.int c3'), .val (.int c4'), .val (.int c5'), .unset, .unset, .unset, .unset, .unset, .unset, .unset] [(.int (0 : Int32)), (.ref a)])) _
  refine XS.iload X0.here hx rfl (hb hby at_66) rfl ?_
  show Steps p.tables e below (T0.setTop (mkF m 68 #[.val (.int p1), .val (.int p2), .val (.int (Int32.ofNat n)), .val (.ref a), .val (.int c0'), .val (.int c1'), .val (.int c2'), .val (.int c3'), .val (.int c4'), .val (.int c5'), .unset, .unset, .unset, .unset, .unset, .unset, .unset] [(.int c0'), (.int (0 : Int32)), (.ref a)])) _
  refine XS.iconst X0.here hx rfl (hb hby at_68) ?_
  show Steps p.tables e below (T0.setTop (mkF m 69 #[.val (.int p1), .val (.int p2), .val (.int (Int32.ofNat n)), .val (.ref a), .val (.int c0'), .val (.int c1'), .val (.int c2'), .val (.int c3'), .val (.int c4'), .val (.int c5'), .unset, .unset, .unset, .unset, .unset, .unset, .unset] [(.int (1 : Int32)), (.int c0'), (.int (0 : Int32)), (.ref a)])) _
  refine dm1 _ ?_
  show Steps p.tables e below (T0.setTop (mkF m 77 #[.val (.int p1), .val (.int p2), .val (.int (Int32.ofNat n)), .val (.ref a), .val (.int c0'), .val (.int c1'), .val (.int c2'), .val (.int c3'), .val (.int c4'), .val (.int c5'), .unset, .unset, .unset, .unset, .unset, .unset, .unset] [(.int v'), (.int (0 : Int32)), (.ref a)])) _
  refine st3 _ ?_
  show Steps p.tables e below (T3.setTop (mkF m 78 #[.val (.int p1), .val (.int p2), .val (.int (Int32.ofNat n)), .val (.ref a), .val (.int c0'), .val (.int c1'), .val (.int c2'), .val (.int c3'), .val (.int c4'), .val (.int c5'), .unset, .unset, .unset, .unset, .unset, .unset, .unset] [])) _
  exact kt
theorem set0 {p : Program} {l : Launch} {e : Env} {R : Room} {s : State} {m : MethodId} {args : Array Value} {below : List Frame} {meth : Method} {c : Code} {T0 : State} {locs : List Loc} {cells slots : Nat} {Z : State} {a0 : Array Value} {h0 : Heap} {n0 : Nat} (p1 : Int32) (p2 : Int32) (n : Nat) (a : Addr) (c0' : Int32) (c1' : Int32) (c2' : Int32) (c3' : Int32) (c4' : Int32) (c5' : Int32) (cf : Nat → Int32)
    (X0 : Stand p l e R s m args below meth c T0 locs cells slots) (hx : p.tables.exec = Jvm.exec) (hZ : Z.Warmed39 s.vm) (hw : ∀ d ∈ tables_1, d.before a0 Z = true) (hby : c.code = code) (hml : c.maxLocals = 17) (hown : s.vm.findClass "stillmark/PlacementIndicesPinLaw" = some m.cls) (e0 : T0.heap = h0) (N0 : Fr n0 locs) (Z0 : n0 ≤ h0.size) (A_a : Av Z h0 a .boolean n (own_b (own_upto cf 0))) (g_a : n0 ≤ a) (hn : n ≤ 6) (hck : c0' = cf 0) (hbb : cf 0 = 0 ∨ cf 0 = 1) :
    ∃ (T' : State) (locs' : List Loc) (h' : Heap), Stand p l e R s m args below meth c T' locs' cells slots ∧ T'.heap = h' ∧ Fr n0 locs' ∧ Keep h0 h' [a] ∧ Av Z h' a .boolean n (own_b (own_upto cf 1)) ∧ ∀ target, Steps p.tables e below (T'.setTop (mkF m 78 #[.val (.int p1), .val (.int p2), .val (.int (Int32.ofNat n)), .val (.ref a), .val (.int c0'), .val (.int c1'), .val (.int c2'), .val (.int c3'), .val (.int c4'), .val (.int c5'), .unset, .unset, .unset, .unset, .unset, .unset, .unset] [])) target → Steps p.tables e below (T0.setTop (mkF m 60 #[.val (.int p1), .val (.int p2), .val (.int (Int32.ofNat n)), .val (.ref a), .val (.int c0'), .val (.int c1'), .val (.int c2'), .val (.int c3'), .val (.int c4'), .val (.int c5'), .unset, .unset, .unset, .unset, .unset, .unset, .unset] [])) target := by
  by_cases hk : 0 < n
  · exact set0b p1 p2 n a c0' c1' c2' c3' c4' c5' cf X0 hx hZ hw hby hml hown e0 N0 Z0 A_a g_a hn hck hbb hk
  · exact set0a p1 p2 n a c0' c1' c2' c3' c4' c5' cf X0 hx hZ hw hby hml hown e0 N0 Z0 A_a g_a hn hck hbb hk
set_option maxRecDepth 65536 in
set_option maxHeartbeats 40000000 in
theorem set1a {p : Program} {l : Launch} {e : Env} {R : Room} {s : State} {m : MethodId} {args : Array Value} {below : List Frame} {meth : Method} {c : Code} {T0 : State} {locs : List Loc} {cells slots : Nat} {Z : State} {a0 : Array Value} {h0 : Heap} {n0 : Nat} (p1 : Int32) (p2 : Int32) (n : Nat) (a : Addr) (c0' : Int32) (c1' : Int32) (c2' : Int32) (c3' : Int32) (c4' : Int32) (c5' : Int32) (cf : Nat → Int32)
    (X0 : Stand p l e R s m args below meth c T0 locs cells slots) (hx : p.tables.exec = Jvm.exec) (hZ : Z.Warmed39 s.vm) (hw : ∀ d ∈ tables_1, d.before a0 Z = true) (hby : c.code = code) (hml : c.maxLocals = 17) (hown : s.vm.findClass "stillmark/PlacementIndicesPinLaw" = some m.cls) (e0 : T0.heap = h0) (N0 : Fr n0 locs) (Z0 : n0 ≤ h0.size) (A_a : Av Z h0 a .boolean n (own_b (own_upto cf 1))) (g_a : n0 ≤ a) (hn : n ≤ 6) (hck : c1' = cf 1) (hbb : cf 1 = 0 ∨ cf 1 = 1) (hk : ¬ 1 < n) :
    ∃ (T' : State) (locs' : List Loc) (h' : Heap), Stand p l e R s m args below meth c T' locs' cells slots ∧ T'.heap = h' ∧ Fr n0 locs' ∧ Keep h0 h' [a] ∧ Av Z h' a .boolean n (own_b (own_upto cf 2)) ∧ ∀ target, Steps p.tables e below (T'.setTop (mkF m 97 #[.val (.int p1), .val (.int p2), .val (.int (Int32.ofNat n)), .val (.ref a), .val (.int c0'), .val (.int c1'), .val (.int c2'), .val (.int c3'), .val (.int c4'), .val (.int c5'), .unset, .unset, .unset, .unset, .unset, .unset, .unset] [])) target → Steps p.tables e below (T0.setTop (mkF m 78 #[.val (.int p1), .val (.int p2), .val (.int (Int32.ofNat n)), .val (.ref a), .val (.int c0'), .val (.int c1'), .val (.int c2'), .val (.int c3'), .val (.int c4'), .val (.int c5'), .unset, .unset, .unset, .unset, .unset, .unset, .unset] [])) target := by
  have rc1 : Av Z h0 a .boolean n (own_b (own_upto cf 2)) := Av.congr (fun j hj => own_upto_congr cf n 1 (by omega) j hj) A_a
  refine ⟨T0, _, _, X0, e0, N0, (Keep.refl h0 [a]), rc1, fun target kt => ?_⟩
  show Steps p.tables e below (T0.setTop (mkF m 78 #[.val (.int p1), .val (.int p2), .val (.int (Int32.ofNat n)), .val (.ref a), .val (.int c0'), .val (.int c1'), .val (.int c2'), .val (.int c3'), .val (.int c4'), .val (.int c5'), .unset, .unset, .unset, .unset, .unset, .unset, .unset] [])) _
  refine XS.iloadN X0.here hx rfl (hb hby at_78) rfl ?_
  show Steps p.tables e below (T0.setTop (mkF m 79 #[.val (.int p1), .val (.int p2), .val (.int (Int32.ofNat n)), .val (.ref a), .val (.int c0'), .val (.int c1'), .val (.int c2'), .val (.int c3'), .val (.int c4'), .val (.int c5'), .unset, .unset, .unset, .unset, .unset, .unset, .unset] [(.int (Int32.ofNat n))])) _
  refine XS.iconst X0.here hx rfl (hb hby at_79) ?_
  show Steps p.tables e below (T0.setTop (mkF m 80 #[.val (.int p1), .val (.int p2), .val (.int (Int32.ofNat n)), .val (.ref a), .val (.int c0'), .val (.int c1'), .val (.int c2'), .val (.int c3'), .val (.int c4'), .val (.int c5'), .unset, .unset, .unset, .unset, .unset, .unset, .unset] [(.int (1 : Int32)), (.int (Int32.ofNat n))])) _
  refine XS.icmpYes X0.here hx rfl (pc0 := 80) (pc' := 97) rfl (hb hby at_80) rfl (flt (show ¬ ((1 : Int32) < (Int32.ofNat n)) from (fun z => hk ((own_lt (i := 1) (by omega) hn).mp z)))).2.2.2 (by decide) (by decide) ?_
  show Steps p.tables e below (T0.setTop (mkF m 97 #[.val (.int p1), .val (.int p2), .val (.int (Int32.ofNat n)), .val (.ref a), .val (.int c0'), .val (.int c1'), .val (.int c2'), .val (.int c3'), .val (.int c4'), .val (.int c5'), .unset, .unset, .unset, .unset, .unset, .unset, .unset] [])) _
  exact kt
set_option maxRecDepth 65536 in
set_option maxHeartbeats 40000000 in
theorem set1b {p : Program} {l : Launch} {e : Env} {R : Room} {s : State} {m : MethodId} {args : Array Value} {below : List Frame} {meth : Method} {c : Code} {T0 : State} {locs : List Loc} {cells slots : Nat} {Z : State} {a0 : Array Value} {h0 : Heap} {n0 : Nat} (p1 : Int32) (p2 : Int32) (n : Nat) (a : Addr) (c0' : Int32) (c1' : Int32) (c2' : Int32) (c3' : Int32) (c4' : Int32) (c5' : Int32) (cf : Nat → Int32)
    (X0 : Stand p l e R s m args below meth c T0 locs cells slots) (hx : p.tables.exec = Jvm.exec) (hZ : Z.Warmed39 s.vm) (hw : ∀ d ∈ tables_1, d.before a0 Z = true) (hby : c.code = code) (hml : c.maxLocals = 17) (hown : s.vm.findClass "stillmark/PlacementIndicesPinLaw" = some m.cls) (e0 : T0.heap = h0) (N0 : Fr n0 locs) (Z0 : n0 ≤ h0.size) (A_a : Av Z h0 a .boolean n (own_b (own_upto cf 1))) (g_a : n0 ≤ a) (hn : n ≤ 6) (hck : c1' = cf 1) (hbb : cf 1 = 0 ∨ cf 1 = 1) (hk : 1 < n) :
    ∃ (T' : State) (locs' : List Loc) (h' : Heap), Stand p l e R s m args below meth c T' locs' cells slots ∧ T'.heap = h' ∧ Fr n0 locs' ∧ Keep h0 h' [a] ∧ Av Z h' a .boolean n (own_b (own_upto cf 2)) ∧ ∀ target, Steps p.tables e below (T'.setTop (mkF m 97 #[.val (.int p1), .val (.int p2), .val (.int (Int32.ofNat n)), .val (.ref a), .val (.int c0'), .val (.int c1'), .val (.int c2'), .val (.int c3'), .val (.int c4'), .val (.int c5'), .unset, .unset, .unset, .unset, .unset, .unset, .unset] [])) target → Steps p.tables e below (T0.setTop (mkF m 78 #[.val (.int p1), .val (.int p2), .val (.int (Int32.ofNat n)), .val (.ref a), .val (.int c0'), .val (.int c1'), .val (.int c2'), .val (.int c3'), .val (.int c4'), .val (.int c5'), .unset, .unset, .unset, .unset, .unset, .unset, .unset] [])) target := by
  obtain ⟨v', hv_v'⟩ : ∃ zz_ : Int32, (c1' = (1 : Int32) ∧ zz_ = (1 : Int32)) ∨ (¬ (c1' = (1 : Int32)) ∧ zz_ = (0 : Int32)) := by
    by_cases hq : c1' = (1 : Int32)
    · exact ⟨_, Or.inl ⟨hq, rfl⟩⟩
    · exact ⟨_, Or.inr ⟨hq, rfl⟩⟩
  have dm1 : ∀ t, Steps p.tables e below (T0.setTop (mkF m 96 #[.val (.int p1), .val (.int p2), .val (.int (Int32.ofNat n)), .val (.ref a), .val (.int c0'), .val (.int c1'), .val (.int c2'), .val (.int c3'), .val (.int c4'), .val (.int c5'), .unset, .unset, .unset, .unset, .unset, .unset, .unset] [(.int v'), (.int (1 : Int32)), (.ref a)])) t → Steps p.tables e below (T0.setTop (mkF m 88 #[.val (.int p1), .val (.int p2), .val (.int (Int32.ofNat n)), .val (.ref a), .val (.int c0'), .val (.int c1'), .val (.int c2'), .val (.int c3'), .val (.int c4'), .val (.int c5'), .unset, .unset, .unset, .unset, .unset, .unset, .unset] [(.int (1 : Int32)), (.int c1'), (.int (1 : Int32)), (.ref a)])) t := by
    intro t K
    rcases hv_v' with ⟨hq, rfl⟩ | ⟨hq, rfl⟩
    · show Steps p.tables e below (T0.setTop (mkF m 88 #[.val (.int p1), .val (.int p2), .val (.int (Int32.ofNat n)), .val (.ref a), .val (.int c0'), .val (.int c1'), .val (.int c2'), .val (.int c3'), .val (.int c4'), .val (.int c5'), .unset, .unset, .unset, .unset, .unset, .unset, .unset] [(.int (1 : Int32)), (.int c1'), (.int (1 : Int32)), (.ref a)])) _
      refine XS.icmpNo X0.here hx rfl (hb hby at_88) rfl (teq (show c1' = (1 : Int32) from hq)).2 ?_
      show Steps p.tables e below (T0.setTop (mkF m 91 #[.val (.int p1), .val (.int p2), .val (.int (Int32.ofNat n)), .val (.ref a), .val (.int c0'), .val (.int c1'), .val (.int c2'), .val (.int c3'), .val (.int c4'), .val (.int c5'), .unset, .unset, .unset, .unset, .unset, .unset, .unset] [(.int (1 : Int32)), (.ref a)])) _
      refine XS.iconst X0.here hx rfl (hb hby at_91) ?_
      show Steps p.tables e below (T0.setTop (mkF m 92 #[.val (.int p1), .val (.int p2), .val (.int (Int32.ofNat n)), .val (.ref a), .val (.int c0'), .val (.int c1'), .val (.int c2'), .val (.int c3'), .val (.int c4'), .val (.int c5'), .unset, .unset, .unset, .unset, .unset, .unset, .unset] [(.int (1 : Int32)), (.int (1 : Int32)), (.ref a)])) _
      refine XS.goto X0.here hx rfl (pc0 := 92) (pc' := 96) rfl (hb hby at_92) (by decide) (by decide) ?_
      show Steps p.tables e below (T0.setTop (mkF m 96 #[.val (.int p1), .val (.int p2), .val (.int (Int32.ofNat n)), .val (.ref a), .val (.int c0'), .val (.int c1'), .val (.int c2'), .val (.int c3'), .val (.int c4'), .val (.int c5'), .unset, .unset, .unset, .unset, .unset, .unset, .unset] [(.int (1 : Int32)), (.int (1 : Int32)), (.ref a)])) _
      exact K
    · show Steps p.tables e below (T0.setTop (mkF m 88 #[.val (.int p1), .val (.int p2), .val (.int (Int32.ofNat n)), .val (.ref a), .val (.int c0'), .val (.int c1'), .val (.int c2'), .val (.int c3'), .val (.int c4'), .val (.int c5'), .unset, .unset, .unset, .unset, .unset, .unset, .unset] [(.int (1 : Int32)), (.int c1'), (.int (1 : Int32)), (.ref a)])) _
      refine XS.icmpYes X0.here hx rfl (pc0 := 88) (pc' := 95) rfl (hb hby at_88) rfl (feq (show ¬ (c1' = (1 : Int32)) from hq)).2 (by decide) (by decide) ?_
      show Steps p.tables e below (T0.setTop (mkF m 95 #[.val (.int p1), .val (.int p2), .val (.int (Int32.ofNat n)), .val (.ref a), .val (.int c0'), .val (.int c1'), .val (.int c2'), .val (.int c3'), .val (.int c4'), .val (.int c5'), .unset, .unset, .unset, .unset, .unset, .unset, .unset] [(.int (1 : Int32)), (.ref a)])) _
      refine XS.iconst X0.here hx rfl (hb hby at_95) ?_
      show Steps p.tables e below (T0.setTop (mkF m 96 #[.val (.int p1), .val (.int p2), .val (.int (Int32.ofNat n)), .val (.ref a), .val (.int c0'), .val (.int c1'), .val (.int c2'), .val (.int c3'), .val (.int c4'), .val (.int c5'), .unset, .unset, .unset, .unset, .unset, .unset, .unset] [(.int (0 : Int32)), (.int (1 : Int32)), (.ref a)])) _
      exact K
  have hv : v' = cf 1 := by
    rw [← hck]
    rcases hv_v' with ⟨h1, h2⟩ | ⟨h1, h2⟩
    · rw [h1, h2]
    · rw [h2]; rw [← hck] at hbb; exact (hbb.resolve_right h1).symm
  obtain ⟨cl2, Ar2, S2, H2⟩ := id A_a
  have hj2 : (1 : Int32).toNatClampNeg = 1 := (by decide)
  have hin2 : ¬ ((1 : Int32) < 0 ∨ cl2.slots.size ≤ ((1 : Int32)).toNatClampNeg) := by rw [S2, hj2]; exact fun q => q.elim (by decide) (Nat.not_le.mpr hk)
  obtain ⟨T3, h3, X3, e3, W3, st3⟩ := stZ X0 hx hZ e0 Ar2 (j := (1 : Int32)) hin2 (g := (mkF m 96 #[.val (.int p1), .val (.int p2), .val (.int (Int32.ofNat n)), .val (.ref a), .val (.int c0'), .val (.int c1'), .val (.int c2'), .val (.int c3'), .val (.int c4'), .val (.int c5'), .unset, .unset, .unset, .unset, .unset, .unset, .unset] [(.int v'), (.int (1 : Int32)), (.ref a)])) rfl rfl (hb hby at_96)
  have N3 := Fr.snoc X3 N0 g_a
  have Aw3 : Av Z h3 a .boolean n (fun jj_ => if jj_ = 1 then (.int v') else (own_b (own_upto cf 1)) jj_) := Av.set Ar2 S2 H2 W3 hj2 (congrArg Value.int (own_nar (hv ▸ hbb)))
  have rc4 : Av Z h3 a .boolean n (own_b (own_upto cf 2)) := Av.congr (fun j _ => own_upto_set cf 1 v' hv j) Aw3
  have kp5 : Keep h0 h3 [a] := ((Keep.refl h0 [a]).wr W3 (Or.inl (List.mem_of_getElem? (i := 0) rfl)))
  refine ⟨T3, _, _, X3, e3, N3, kp5, rc4, fun target kt => ?_⟩
  show Steps p.tables e below (T0.setTop (mkF m 78 #[.val (.int p1), .val (.int p2), .val (.int (Int32.ofNat n)), .val (.ref a), .val (.int c0'), .val (.int c1'), .val (.int c2'), .val (.int c3'), .val (.int c4'), .val (.int c5'), .unset, .unset, .unset, .unset, .unset, .unset, .unset] [])) _
  refine XS.iloadN X0.here hx rfl (hb hby at_78) rfl ?_
  show Steps p.tables e below (T0.setTop (mkF m 79 #[.val (.int p1), .val (.int p2), .val (.int (Int32.ofNat n)), .val (.ref a), .val (.int c0'), .val (.int c1'), .val (.int c2'), .val (.int c3'), .val (.int c4'), .val (.int c5'), .unset, .unset, .unset, .unset, .unset, .unset, .unset] [(.int (Int32.ofNat n))])) _
  refine XS.iconst X0.here hx rfl (hb hby at_79) ?_
  show Steps p.tables e below (T0.setTop (mkF m 80 #[.val (.int p1), .val (.int p2), .val (.int (Int32.ofNat n)), .val (.ref a), .val (.int c0'), .val (.int c1'), .val (.int c2'), .val (.int c3'), .val (.int c4'), .val (.int c5'), .unset, .unset, .unset, .unset, .unset, .unset, .unset] [(.int (1 : Int32)), (.int (Int32.ofNat n))])) _
  refine XS.icmpNo X0.here hx rfl (hb hby at_80) rfl (tlt (show (1 : Int32) < (Int32.ofNat n) from ((own_lt (i := 1) (by omega) hn).mpr hk))).2.2.2 ?_
  show Steps p.tables e below (T0.setTop (mkF m 83 #[.val (.int p1), .val (.int p2), .val (.int (Int32.ofNat n)), .val (.ref a), .val (.int c0'), .val (.int c1'), .val (.int c2'), .val (.int c3'), .val (.int c4'), .val (.int c5'), .unset, .unset, .unset, .unset, .unset, .unset, .unset] [])) _
  refine XS.aloadN X0.here hx rfl (hb hby at_83) rfl rfl ?_
  show Steps p.tables e below (T0.setTop (mkF m 84 #[.val (.int p1), .val (.int p2), .val (.int (Int32.ofNat n)), .val (.ref a), .val (.int c0'), .val (.int c1'), .val (.int c2'), .val (.int c3'), .val (.int c4'), .val (.int c5'), .unset, .unset, .unset, .unset, .unset, .unset, .unset] [(.ref a)])) _
  refine XS.iconst X0.here hx rfl (hb hby at_84) ?_
  show Steps p.tables e below (T0.setTop (mkF m 85 #[.val (.int p1), .val (.int p2), .val (.int (Int32.ofNat n)), .val (.ref a), .val (.int c0'), .val (.int c1'), .val (.int c2'), .val (.int c3'), .val (.int c4'), .val (.int c5'), .unset, .unset, .unset, .unset, .unset, .unset, .unset] [(.int (1 : Int32)), (.ref a)])) _
  refine XS.iload X0.here hx rfl (hb hby at_85) rfl ?_
  show Steps p.tables e below (T0.setTop (mkF m 87 #[.val (.int p1), .val (.int p2), .val (.int (Int32.ofNat n)), .val (.ref a), .val (.int c0'), .val (.int c1'), .val (.int c2'), .val (.int c3'), .val (.int c4'), .val (.int c5'), .unset, .unset, .unset, .unset, .unset, .unset, .unset] [(.int c1'), (.int (1 : Int32)), (.ref a)])) _
  refine XS.iconst X0.here hx rfl (hb hby at_87) ?_
  show Steps p.tables e below (T0.setTop (mkF m 88 #[.val (.int p1), .val (.int p2), .val (.int (Int32.ofNat n)), .val (.ref a), .val (.int c0'), .val (.int c1'), .val (.int c2'), .val (.int c3'), .val (.int c4'), .val (.int c5'), .unset, .unset, .unset, .unset, .unset, .unset, .unset] [(.int (1 : Int32)), (.int c1'), (.int (1 : Int32)), (.ref a)])) _
  refine dm1 _ ?_
  show Steps p.tables e below (T0.setTop (mkF m 96 #[.val (.int p1), .val (.int p2), .val (.int (Int32.ofNat n)), .val (.ref a), .val (.int c0'), .val (.int c1'), .val (.int c2'), .val (.int c3'), .val (.int c4'), .val (.int c5'), .unset, .unset, .unset, .unset, .unset, .unset, .unset] [(.int v'), (.int (1 : Int32)), (.ref a)])) _
  refine st3 _ ?_
  show Steps p.tables e below (T3.setTop (mkF m 97 #[.val (.int p1), .val (.int p2), .val (.int (Int32.ofNat n)), .val (.ref a), .val (.int c0'), .val (.int c1'), .val (.int c2'), .val (.int c3'), .val (.int c4'), .val (.int c5'), .unset, .unset, .unset, .unset, .unset, .unset, .unset] [])) _
  exact kt
theorem set1 {p : Program} {l : Launch} {e : Env} {R : Room} {s : State} {m : MethodId} {args : Array Value} {below : List Frame} {meth : Method} {c : Code} {T0 : State} {locs : List Loc} {cells slots : Nat} {Z : State} {a0 : Array Value} {h0 : Heap} {n0 : Nat} (p1 : Int32) (p2 : Int32) (n : Nat) (a : Addr) (c0' : Int32) (c1' : Int32) (c2' : Int32) (c3' : Int32) (c4' : Int32) (c5' : Int32) (cf : Nat → Int32)
    (X0 : Stand p l e R s m args below meth c T0 locs cells slots) (hx : p.tables.exec = Jvm.exec) (hZ : Z.Warmed39 s.vm) (hw : ∀ d ∈ tables_1, d.before a0 Z = true) (hby : c.code = code) (hml : c.maxLocals = 17) (hown : s.vm.findClass "stillmark/PlacementIndicesPinLaw" = some m.cls) (e0 : T0.heap = h0) (N0 : Fr n0 locs) (Z0 : n0 ≤ h0.size) (A_a : Av Z h0 a .boolean n (own_b (own_upto cf 1))) (g_a : n0 ≤ a) (hn : n ≤ 6) (hck : c1' = cf 1) (hbb : cf 1 = 0 ∨ cf 1 = 1) :
    ∃ (T' : State) (locs' : List Loc) (h' : Heap), Stand p l e R s m args below meth c T' locs' cells slots ∧ T'.heap = h' ∧ Fr n0 locs' ∧ Keep h0 h' [a] ∧ Av Z h' a .boolean n (own_b (own_upto cf 2)) ∧ ∀ target, Steps p.tables e below (T'.setTop (mkF m 97 #[.val (.int p1), .val (.int p2), .val (.int (Int32.ofNat n)), .val (.ref a), .val (.int c0'), .val (.int c1'), .val (.int c2'), .val (.int c3'), .val (.int c4'), .val (.int c5'), .unset, .unset, .unset, .unset, .unset, .unset, .unset] [])) target → Steps p.tables e below (T0.setTop (mkF m 78 #[.val (.int p1), .val (.int p2), .val (.int (Int32.ofNat n)), .val (.ref a), .val (.int c0'), .val (.int c1'), .val (.int c2'), .val (.int c3'), .val (.int c4'), .val (.int c5'), .unset, .unset, .unset, .unset, .unset, .unset, .unset] [])) target := by
  by_cases hk : 1 < n
  · exact set1b p1 p2 n a c0' c1' c2' c3' c4' c5' cf X0 hx hZ hw hby hml hown e0 N0 Z0 A_a g_a hn hck hbb hk
  · exact set1a p1 p2 n a c0' c1' c2' c3' c4' c5' cf X0 hx hZ hw hby hml hown e0 N0 Z0 A_a g_a hn hck hbb hk
set_option maxRecDepth 65536 in
set_option maxHeartbeats 40000000 in
theorem set2a {p : Program} {l : Launch} {e : Env} {R : Room} {s : State} {m : MethodId} {args : Array Value} {below : List Frame} {meth : Method} {c : Code} {T0 : State} {locs : List Loc} {cells slots : Nat} {Z : State} {a0 : Array Value} {h0 : Heap} {n0 : Nat} (p1 : Int32) (p2 : Int32) (n : Nat) (a : Addr) (c0' : Int32) (c1' : Int32) (c2' : Int32) (c3' : Int32) (c4' : Int32) (c5' : Int32) (cf : Nat → Int32)
    (X0 : Stand p l e R s m args below meth c T0 locs cells slots) (hx : p.tables.exec = Jvm.exec) (hZ : Z.Warmed39 s.vm) (hw : ∀ d ∈ tables_1, d.before a0 Z = true) (hby : c.code = code) (hml : c.maxLocals = 17) (hown : s.vm.findClass "stillmark/PlacementIndicesPinLaw" = some m.cls) (e0 : T0.heap = h0) (N0 : Fr n0 locs) (Z0 : n0 ≤ h0.size) (A_a : Av Z h0 a .boolean n (own_b (own_upto cf 2))) (g_a : n0 ≤ a) (hn : n ≤ 6) (hck : c2' = cf 2) (hbb : cf 2 = 0 ∨ cf 2 = 1) (hk : ¬ 2 < n) :
    ∃ (T' : State) (locs' : List Loc) (h' : Heap), Stand p l e R s m args below meth c T' locs' cells slots ∧ T'.heap = h' ∧ Fr n0 locs' ∧ Keep h0 h' [a] ∧ Av Z h' a .boolean n (own_b (own_upto cf 3)) ∧ ∀ target, Steps p.tables e below (T'.setTop (mkF m 116 #[.val (.int p1), .val (.int p2), .val (.int (Int32.ofNat n)), .val (.ref a), .val (.int c0'), .val (.int c1'), .val (.int c2'), .val (.int c3'), .val (.int c4'), .val (.int c5'), .unset, .unset, .unset, .unset, .unset, .unset, .unset] [])) target → Steps p.tables e below (T0.setTop (mkF m 97 #[.val (.int p1), .val (.int p2), .val (.int (Int32.ofNat n)), .val (.ref a), .val (.int c0'), .val (.int c1'), .val (.int c2'), .val (.int c3'), .val (.int c4'), .val (.int c5'), .unset, .unset, .unset, .unset, .unset, .unset, .unset] [])) target := by
  have rc1 : Av Z h0 a .boolean n (own_b (own_upto cf 3)) := Av.congr (fun j hj => own_upto_congr cf n 2 (by omega) j hj) A_a
  refine ⟨T0, _, _, X0, e0, N0, (Keep.refl h0 [a]), rc1, fun target kt => ?_⟩
  show Steps p.tables e below (T0.setTop (mkF m 97 #[.val (.int p1), .val (.int p2), .val (.int (Int32.ofNat n)), .val (.ref a), .val (.int c0'), .val (.int c1'), .val (.int c2'), .val (.int c3'), .val (.int c4'), .val (.int c5'), .unset, .unset, .unset, .unset, .unset, .unset, .unset] [])) _
  refine XS.iloadN X0.here hx rfl (hb hby at_97) rfl ?_
  show Steps p.tables e below (T0.setTop (mkF m 98 #[.val (.int p1), .val (.int p2), .val (.int (Int32.ofNat n)), .val (.ref a), .val (.int c0'), .val (.int c1'), .val (.int c2'), .val (.int c3'), .val (.int c4'), .val (.int c5'), .unset, .unset, .unset, .unset, .unset, .unset, .unset] [(.int (Int32.ofNat n))])) _
  refine XS.iconst X0.here hx rfl (hb hby at_98) ?_
  show Steps p.tables e below (T0.setTop (mkF m 99 #[.val (.int p1), .val (.int p2), .val (.int (Int32.ofNat n)), .val (.ref a), .val (.int c0'), .val (.int c1'), .val (.int c2'), .val (.int c3'), .val (.int c4'), .val (.int c5'), .unset, .unset, .unset, .unset, .unset, .unset, .unset] [(.int (2 : Int32)), (.int (Int32.ofNat n))])) _
  refine XS.icmpYes X0.here hx rfl (pc0 := 99) (pc' := 116) rfl (hb hby at_99) rfl (flt (show ¬ ((2 : Int32) < (Int32.ofNat n)) from (fun z => hk ((own_lt (i := 2) (by omega) hn).mp z)))).2.2.2 (by decide) (by decide) ?_
  show Steps p.tables e below (T0.setTop (mkF m 116 #[.val (.int p1), .val (.int p2), .val (.int (Int32.ofNat n)), .val (.ref a), .val (.int c0'), .val (.int c1'), .val (.int c2'), .val (.int c3'), .val (.int c4'), .val (.int c5'), .unset, .unset, .unset, .unset, .unset, .unset, .unset] [])) _
  exact kt
set_option maxRecDepth 65536 in
set_option maxHeartbeats 40000000 in
theorem set2b {p : Program} {l : Launch} {e : Env} {R : Room} {s : State} {m : MethodId} {args : Array Value} {below : List Frame} {meth : Method} {c : Code} {T0 : State} {locs : List Loc} {cells slots : Nat} {Z : State} {a0 : Array Value} {h0 : Heap} {n0 : Nat} (p1 : Int32) (p2 : Int32) (n : Nat) (a : Addr) (c0' : Int32) (c1' : Int32) (c2' : Int32) (c3' : Int32) (c4' : Int32) (c5' : Int32) (cf : Nat → Int32)
    (X0 : Stand p l e R s m args below meth c T0 locs cells slots) (hx : p.tables.exec = Jvm.exec) (hZ : Z.Warmed39 s.vm) (hw : ∀ d ∈ tables_1, d.before a0 Z = true) (hby : c.code = code) (hml : c.maxLocals = 17) (hown : s.vm.findClass "stillmark/PlacementIndicesPinLaw" = some m.cls) (e0 : T0.heap = h0) (N0 : Fr n0 locs) (Z0 : n0 ≤ h0.size) (A_a : Av Z h0 a .boolean n (own_b (own_upto cf 2))) (g_a : n0 ≤ a) (hn : n ≤ 6) (hck : c2' = cf 2) (hbb : cf 2 = 0 ∨ cf 2 = 1) (hk : 2 < n) :
    ∃ (T' : State) (locs' : List Loc) (h' : Heap), Stand p l e R s m args below meth c T' locs' cells slots ∧ T'.heap = h' ∧ Fr n0 locs' ∧ Keep h0 h' [a] ∧ Av Z h' a .boolean n (own_b (own_upto cf 3)) ∧ ∀ target, Steps p.tables e below (T'.setTop (mkF m 116 #[.val (.int p1), .val (.int p2), .val (.int (Int32.ofNat n)), .val (.ref a), .val (.int c0'), .val (.int c1'), .val (.int c2'), .val (.int c3'), .val (.int c4'), .val (.int c5'), .unset, .unset, .unset, .unset, .unset, .unset, .unset] [])) target → Steps p.tables e below (T0.setTop (mkF m 97 #[.val (.int p1), .val (.int p2), .val (.int (Int32.ofNat n)), .val (.ref a), .val (.int c0'), .val (.int c1'), .val (.int c2'), .val (.int c3'), .val (.int c4'), .val (.int c5'), .unset, .unset, .unset, .unset, .unset, .unset, .unset] [])) target := by
  obtain ⟨v', hv_v'⟩ : ∃ zz_ : Int32, (c2' = (1 : Int32) ∧ zz_ = (1 : Int32)) ∨ (¬ (c2' = (1 : Int32)) ∧ zz_ = (0 : Int32)) := by
    by_cases hq : c2' = (1 : Int32)
    · exact ⟨_, Or.inl ⟨hq, rfl⟩⟩
    · exact ⟨_, Or.inr ⟨hq, rfl⟩⟩
  have dm1 : ∀ t, Steps p.tables e below (T0.setTop (mkF m 115 #[.val (.int p1), .val (.int p2), .val (.int (Int32.ofNat n)), .val (.ref a), .val (.int c0'), .val (.int c1'), .val (.int c2'), .val (.int c3'), .val (.int c4'), .val (.int c5'), .unset, .unset, .unset, .unset, .unset, .unset, .unset] [(.int v'), (.int (2 : Int32)), (.ref a)])) t → Steps p.tables e below (T0.setTop (mkF m 107 #[.val (.int p1), .val (.int p2), .val (.int (Int32.ofNat n)), .val (.ref a), .val (.int c0'), .val (.int c1'), .val (.int c2'), .val (.int c3'), .val (.int c4'), .val (.int c5'), .unset, .unset, .unset, .unset, .unset, .unset, .unset] [(.int (1 : Int32)), (.int c2'), (.int (2 : Int32)), (.ref a)])) t := by
    intro t K
    rcases hv_v' with ⟨hq, rfl⟩ | ⟨hq, rfl⟩
    · show Steps p.tables e below (T0.setTop (mkF m 107 #[.val (.int p1), .val (.int p2), .val (.int (Int32.ofNat n)), .val (.ref a), .val (.int c0'), .val (.int c1'), .val (.int c2'), .val (.int c3'), .val (.int c4'), .val (.int c5'), .unset, .unset, .unset, .unset, .unset, .unset, .unset] [(.int (1 : Int32)), (.int c2'), (.int (2 : Int32)), (.ref a)])) _
      refine XS.icmpNo X0.here hx rfl (hb hby at_107) rfl (teq (show c2' = (1 : Int32) from hq)).2 ?_
      show Steps p.tables e below (T0.setTop (mkF m 110 #[.val (.int p1), .val (.int p2), .val (.int (Int32.ofNat n)), .val (.ref a), .val (.int c0'), .val (.int c1'), .val (.int c2'), .val (.int c3'), .val (.int c4'), .val (.int c5'), .unset, .unset, .unset, .unset, .unset, .unset, .unset] [(.int (2 : Int32)), (.ref a)])) _
      refine XS.iconst X0.here hx rfl (hb hby at_110) ?_
      show Steps p.tables e below (T0.setTop (mkF m 111 #[.val (.int p1), .val (.int p2), .val (.int (Int32.ofNat n)), .val (.ref a), .val (.int c0'), .val (.int c1'), .val (.int c2'), .val (.int c3'), .val (.int c4'), .val (.int c5'), .unset, .unset, .unset, .unset, .unset, .unset, .unset] [(.int (1 : Int32)), (.int (2 : Int32)), (.ref a)])) _
      refine XS.goto X0.here hx rfl (pc0 := 111) (pc' := 115) rfl (hb hby at_111) (by decide) (by decide) ?_
      show Steps p.tables e below (T0.setTop (mkF m 115 #[.val (.int p1), .val (.int p2), .val (.int (Int32.ofNat n)), .val (.ref a), .val (.int c0'), .val (.int c1'), .val (.int c2'), .val (.int c3'), .val (.int c4'), .val (.int c5'), .unset, .unset, .unset, .unset, .unset, .unset, .unset] [(.int (1 : Int32)), (.int (2 : Int32)), (.ref a)])) _
      exact K
    · show Steps p.tables e below (T0.setTop (mkF m 107 #[.val (.int p1), .val (.int p2), .val (.int (Int32.ofNat n)), .val (.ref a), .val (.int c0'), .val (.int c1'), .val (.int c2'), .val (.int c3'), .val (.int c4'), .val (.int c5'), .unset, .unset, .unset, .unset, .unset, .unset, .unset] [(.int (1 : Int32)), (.int c2'), (.int (2 : Int32)), (.ref a)])) _
      refine XS.icmpYes X0.here hx rfl (pc0 := 107) (pc' := 114) rfl (hb hby at_107) rfl (feq (show ¬ (c2' = (1 : Int32)) from hq)).2 (by decide) (by decide) ?_
      show Steps p.tables e below (T0.setTop (mkF m 114 #[.val (.int p1), .val (.int p2), .val (.int (Int32.ofNat n)), .val (.ref a), .val (.int c0'), .val (.int c1'), .val (.int c2'), .val (.int c3'), .val (.int c4'), .val (.int c5'), .unset, .unset, .unset, .unset, .unset, .unset, .unset] [(.int (2 : Int32)), (.ref a)])) _
      refine XS.iconst X0.here hx rfl (hb hby at_114) ?_
      show Steps p.tables e below (T0.setTop (mkF m 115 #[.val (.int p1), .val (.int p2), .val (.int (Int32.ofNat n)), .val (.ref a), .val (.int c0'), .val (.int c1'), .val (.int c2'), .val (.int c3'), .val (.int c4'), .val (.int c5'), .unset, .unset, .unset, .unset, .unset, .unset, .unset] [(.int (0 : Int32)), (.int (2 : Int32)), (.ref a)])) _
      exact K
  have hv : v' = cf 2 := by
    rw [← hck]
    rcases hv_v' with ⟨h1, h2⟩ | ⟨h1, h2⟩
    · rw [h1, h2]
    · rw [h2]; rw [← hck] at hbb; exact (hbb.resolve_right h1).symm
  obtain ⟨cl2, Ar2, S2, H2⟩ := id A_a
  have hj2 : (2 : Int32).toNatClampNeg = 2 := (by decide)
  have hin2 : ¬ ((2 : Int32) < 0 ∨ cl2.slots.size ≤ ((2 : Int32)).toNatClampNeg) := by rw [S2, hj2]; exact fun q => q.elim (by decide) (Nat.not_le.mpr hk)
  obtain ⟨T3, h3, X3, e3, W3, st3⟩ := stZ X0 hx hZ e0 Ar2 (j := (2 : Int32)) hin2 (g := (mkF m 115 #[.val (.int p1), .val (.int p2), .val (.int (Int32.ofNat n)), .val (.ref a), .val (.int c0'), .val (.int c1'), .val (.int c2'), .val (.int c3'), .val (.int c4'), .val (.int c5'), .unset, .unset, .unset, .unset, .unset, .unset, .unset] [(.int v'), (.int (2 : Int32)), (.ref a)])) rfl rfl (hb hby at_115)
  have N3 := Fr.snoc X3 N0 g_a
  have Aw3 : Av Z h3 a .boolean n (fun jj_ => if jj_ = 2 then (.int v') else (own_b (own_upto cf 2)) jj_) := Av.set Ar2 S2 H2 W3 hj2 (congrArg Value.int (own_nar (hv ▸ hbb)))
  have rc4 : Av Z h3 a .boolean n (own_b (own_upto cf 3)) := Av.congr (fun j _ => own_upto_set cf 2 v' hv j) Aw3
  have kp5 : Keep h0 h3 [a] := ((Keep.refl h0 [a]).wr W3 (Or.inl (List.mem_of_getElem? (i := 0) rfl)))
  refine ⟨T3, _, _, X3, e3, N3, kp5, rc4, fun target kt => ?_⟩
  show Steps p.tables e below (T0.setTop (mkF m 97 #[.val (.int p1), .val (.int p2), .val (.int (Int32.ofNat n)), .val (.ref a), .val (.int c0'), .val (.int c1'), .val (.int c2'), .val (.int c3'), .val (.int c4'), .val (.int c5'), .unset, .unset, .unset, .unset, .unset, .unset, .unset] [])) _
  refine XS.iloadN X0.here hx rfl (hb hby at_97) rfl ?_
  show Steps p.tables e below (T0.setTop (mkF m 98 #[.val (.int p1), .val (.int p2), .val (.int (Int32.ofNat n)), .val (.ref a), .val (.int c0'), .val (.int c1'), .val (.int c2'), .val (.int c3'), .val (.int c4'), .val (.int c5'), .unset, .unset, .unset, .unset, .unset, .unset, .unset] [(.int (Int32.ofNat n))])) _
  refine XS.iconst X0.here hx rfl (hb hby at_98) ?_
  show Steps p.tables e below (T0.setTop (mkF m 99 #[.val (.int p1), .val (.int p2), .val (.int (Int32.ofNat n)), .val (.ref a), .val (.int c0'), .val (.int c1'), .val (.int c2'), .val (.int c3'), .val (.int c4'), .val (.int c5'), .unset, .unset, .unset, .unset, .unset, .unset, .unset] [(.int (2 : Int32)), (.int (Int32.ofNat n))])) _
  refine XS.icmpNo X0.here hx rfl (hb hby at_99) rfl (tlt (show (2 : Int32) < (Int32.ofNat n) from ((own_lt (i := 2) (by omega) hn).mpr hk))).2.2.2 ?_
  show Steps p.tables e below (T0.setTop (mkF m 102 #[.val (.int p1), .val (.int p2), .val (.int (Int32.ofNat n)), .val (.ref a), .val (.int c0'), .val (.int c1'), .val (.int c2'), .val (.int c3'), .val (.int c4'), .val (.int c5'), .unset, .unset, .unset, .unset, .unset, .unset, .unset] [])) _
  refine XS.aloadN X0.here hx rfl (hb hby at_102) rfl rfl ?_
  show Steps p.tables e below (T0.setTop (mkF m 103 #[.val (.int p1), .val (.int p2), .val (.int (Int32.ofNat n)), .val (.ref a), .val (.int c0'), .val (.int c1'), .val (.int c2'), .val (.int c3'), .val (.int c4'), .val (.int c5'), .unset, .unset, .unset, .unset, .unset, .unset, .unset] [(.ref a)])) _
  refine XS.iconst X0.here hx rfl (hb hby at_103) ?_
  show Steps p.tables e below (T0.setTop (mkF m 104 #[.val (.int p1), .val (.int p2), .val (.int (Int32.ofNat n)), .val (.ref a), .val (.int c0'), .val (.int c1'), .val (.int c2'), .val (.int c3'), .val (.int c4'), .val (.int c5'), .unset, .unset, .unset, .unset, .unset, .unset, .unset] [(.int (2 : Int32)), (.ref a)])) _
  refine XS.iload X0.here hx rfl (hb hby at_104) rfl ?_
  show Steps p.tables e below (T0.setTop (mkF m 106 #[.val (.int p1), .val (.int p2), .val (.int (Int32.ofNat n)), .val (.ref a), .val (.int c0'), .val (.int c1'), .val (.int c2'), .val (.int c3'), .val (.int c4'), .val (.int c5'), .unset, .unset, .unset, .unset, .unset, .unset, .unset] [(.int c2'), (.int (2 : Int32)), (.ref a)])) _
  refine XS.iconst X0.here hx rfl (hb hby at_106) ?_
  show Steps p.tables e below (T0.setTop (mkF m 107 #[.val (.int p1), .val (.int p2), .val (.int (Int32.ofNat n)), .val (.ref a), .val (.int c0'), .val (.int c1'), .val (.int c2'), .val (.int c3'), .val (.int c4'), .val (.int c5'), .unset, .unset, .unset, .unset, .unset, .unset, .unset] [(.int (1 : Int32)), (.int c2'), (.int (2 : Int32)), (.ref a)])) _
  refine dm1 _ ?_
  show Steps p.tables e below (T0.setTop (mkF m 115 #[.val (.int p1), .val (.int p2), .val (.int (Int32.ofNat n)), .val (.ref a), .val (.int c0'), .val (.int c1'), .val (.int c2'), .val (.int c3'), .val (.int c4'), .val (.int c5'), .unset, .unset, .unset, .unset, .unset, .unset, .unset] [(.int v'), (.int (2 : Int32)), (.ref a)])) _
  refine st3 _ ?_
  show Steps p.tables e below (T3.setTop (mkF m 116 #[.val (.int p1), .val (.int p2), .val (.int (Int32.ofNat n)), .val (.ref a), .val (.int c0'), .val (.int c1'), .val (.int c2'), .val (.int c3'), .val (.int c4'), .val (.int c5'), .unset, .unset, .unset, .unset, .unset, .unset, .unset] [])) _
  exact kt
theorem set2 {p : Program} {l : Launch} {e : Env} {R : Room} {s : State} {m : MethodId} {args : Array Value} {below : List Frame} {meth : Method} {c : Code} {T0 : State} {locs : List Loc} {cells slots : Nat} {Z : State} {a0 : Array Value} {h0 : Heap} {n0 : Nat} (p1 : Int32) (p2 : Int32) (n : Nat) (a : Addr) (c0' : Int32) (c1' : Int32) (c2' : Int32) (c3' : Int32) (c4' : Int32) (c5' : Int32) (cf : Nat → Int32)
    (X0 : Stand p l e R s m args below meth c T0 locs cells slots) (hx : p.tables.exec = Jvm.exec) (hZ : Z.Warmed39 s.vm) (hw : ∀ d ∈ tables_1, d.before a0 Z = true) (hby : c.code = code) (hml : c.maxLocals = 17) (hown : s.vm.findClass "stillmark/PlacementIndicesPinLaw" = some m.cls) (e0 : T0.heap = h0) (N0 : Fr n0 locs) (Z0 : n0 ≤ h0.size) (A_a : Av Z h0 a .boolean n (own_b (own_upto cf 2))) (g_a : n0 ≤ a) (hn : n ≤ 6) (hck : c2' = cf 2) (hbb : cf 2 = 0 ∨ cf 2 = 1) :
    ∃ (T' : State) (locs' : List Loc) (h' : Heap), Stand p l e R s m args below meth c T' locs' cells slots ∧ T'.heap = h' ∧ Fr n0 locs' ∧ Keep h0 h' [a] ∧ Av Z h' a .boolean n (own_b (own_upto cf 3)) ∧ ∀ target, Steps p.tables e below (T'.setTop (mkF m 116 #[.val (.int p1), .val (.int p2), .val (.int (Int32.ofNat n)), .val (.ref a), .val (.int c0'), .val (.int c1'), .val (.int c2'), .val (.int c3'), .val (.int c4'), .val (.int c5'), .unset, .unset, .unset, .unset, .unset, .unset, .unset] [])) target → Steps p.tables e below (T0.setTop (mkF m 97 #[.val (.int p1), .val (.int p2), .val (.int (Int32.ofNat n)), .val (.ref a), .val (.int c0'), .val (.int c1'), .val (.int c2'), .val (.int c3'), .val (.int c4'), .val (.int c5'), .unset, .unset, .unset, .unset, .unset, .unset, .unset] [])) target := by
  by_cases hk : 2 < n
  · exact set2b p1 p2 n a c0' c1' c2' c3' c4' c5' cf X0 hx hZ hw hby hml hown e0 N0 Z0 A_a g_a hn hck hbb hk
  · exact set2a p1 p2 n a c0' c1' c2' c3' c4' c5' cf X0 hx hZ hw hby hml hown e0 N0 Z0 A_a g_a hn hck hbb hk
set_option maxRecDepth 65536 in
set_option maxHeartbeats 40000000 in
theorem set3a {p : Program} {l : Launch} {e : Env} {R : Room} {s : State} {m : MethodId} {args : Array Value} {below : List Frame} {meth : Method} {c : Code} {T0 : State} {locs : List Loc} {cells slots : Nat} {Z : State} {a0 : Array Value} {h0 : Heap} {n0 : Nat} (p1 : Int32) (p2 : Int32) (n : Nat) (a : Addr) (c0' : Int32) (c1' : Int32) (c2' : Int32) (c3' : Int32) (c4' : Int32) (c5' : Int32) (cf : Nat → Int32)
    (X0 : Stand p l e R s m args below meth c T0 locs cells slots) (hx : p.tables.exec = Jvm.exec) (hZ : Z.Warmed39 s.vm) (hw : ∀ d ∈ tables_1, d.before a0 Z = true) (hby : c.code = code) (hml : c.maxLocals = 17) (hown : s.vm.findClass "stillmark/PlacementIndicesPinLaw" = some m.cls) (e0 : T0.heap = h0) (N0 : Fr n0 locs) (Z0 : n0 ≤ h0.size) (A_a : Av Z h0 a .boolean n (own_b (own_upto cf 3))) (g_a : n0 ≤ a) (hn : n ≤ 6) (hck : c3' = cf 3) (hbb : cf 3 = 0 ∨ cf 3 = 1) (hk : ¬ 3 < n) :
    ∃ (T' : State) (locs' : List Loc) (h' : Heap), Stand p l e R s m args below meth c T' locs' cells slots ∧ T'.heap = h' ∧ Fr n0 locs' ∧ Keep h0 h' [a] ∧ Av Z h' a .boolean n (own_b (own_upto cf 4)) ∧ ∀ target, Steps p.tables e below (T'.setTop (mkF m 135 #[.val (.int p1), .val (.int p2), .val (.int (Int32.ofNat n)), .val (.ref a), .val (.int c0'), .val (.int c1'), .val (.int c2'), .val (.int c3'), .val (.int c4'), .val (.int c5'), .unset, .unset, .unset, .unset, .unset, .unset, .unset] [])) target → Steps p.tables e below (T0.setTop (mkF m 116 #[.val (.int p1), .val (.int p2), .val (.int (Int32.ofNat n)), .val (.ref a), .val (.int c0'), .val (.int c1'), .val (.int c2'), .val (.int c3'), .val (.int c4'), .val (.int c5'), .unset, .unset, .unset, .unset, .unset, .unset, .unset] [])) target := by
  have rc1 : Av Z h0 a .boolean n (own_b (own_upto cf 4)) := Av.congr (fun j hj => own_upto_congr cf n 3 (by omega) j hj) A_a
  refine ⟨T0, _, _, X0, e0, N0, (Keep.refl h0 [a]), rc1, fun target kt => ?_⟩
  show Steps p.tables e below (T0.setTop (mkF m 116 #[.val (.int p1), .val (.int p2), .val (.int (Int32.ofNat n)), .val (.ref a), .val (.int c0'), .val (.int c1'), .val (.int c2'), .val (.int c3'), .val (.int c4'), .val (.int c5'), .unset, .unset, .unset, .unset, .unset, .unset, .unset] [])) _
  refine XS.iloadN X0.here hx rfl (hb hby at_116) rfl ?_
  show Steps p.tables e below (T0.setTop (mkF m 117 #[.val (.int p1), .val (.int p2), .val (.int (Int32.ofNat n)), .val (.ref a), .val (.int c0'), .val (.int c1'), .val (.int c2'), .val (.int c3'), .val (.int c4'), .val (.int c5'), .unset, .unset, .unset, .unset, .unset, .unset, .unset] [(.int (Int32.ofNat n))])) _
  refine XS.iconst X0.here hx rfl (hb hby at_117) ?_
  show Steps p.tables e below (T0.setTop (mkF m 118 #[.val (.int p1), .val (.int p2), .val (.int (Int32.ofNat n)), .val (.ref a), .val (.int c0'), .val (.int c1'), .val (.int c2'), .val (.int c3'), .val (.int c4'), .val (.int c5'), .unset, .unset, .unset, .unset, .unset, .unset, .unset] [(.int (3 : Int32)), (.int (Int32.ofNat n))])) _
  refine XS.icmpYes X0.here hx rfl (pc0 := 118) (pc' := 135) rfl (hb hby at_118) rfl (flt (show ¬ ((3 : Int32) < (Int32.ofNat n)) from (fun z => hk ((own_lt (i := 3) (by omega) hn).mp z)))).2.2.2 (by decide) (by decide) ?_
  show Steps p.tables e below (T0.setTop (mkF m 135 #[.val (.int p1), .val (.int p2), .val (.int (Int32.ofNat n)), .val (.ref a), .val (.int c0'), .val (.int c1'), .val (.int c2'), .val (.int c3'), .val (.int c4'), .val (.int c5'), .unset, .unset, .unset, .unset, .unset, .unset, .unset] [])) _
  exact kt
set_option maxRecDepth 65536 in
set_option maxHeartbeats 40000000 in
theorem set3b {p : Program} {l : Launch} {e : Env} {R : Room} {s : State} {m : MethodId} {args : Array Value} {below : List Frame} {meth : Method} {c : Code} {T0 : State} {locs : List Loc} {cells slots : Nat} {Z : State} {a0 : Array Value} {h0 : Heap} {n0 : Nat} (p1 : Int32) (p2 : Int32) (n : Nat) (a : Addr) (c0' : Int32) (c1' : Int32) (c2' : Int32) (c3' : Int32) (c4' : Int32) (c5' : Int32) (cf : Nat → Int32)
    (X0 : Stand p l e R s m args below meth c T0 locs cells slots) (hx : p.tables.exec = Jvm.exec) (hZ : Z.Warmed39 s.vm) (hw : ∀ d ∈ tables_1, d.before a0 Z = true) (hby : c.code = code) (hml : c.maxLocals = 17) (hown : s.vm.findClass "stillmark/PlacementIndicesPinLaw" = some m.cls) (e0 : T0.heap = h0) (N0 : Fr n0 locs) (Z0 : n0 ≤ h0.size) (A_a : Av Z h0 a .boolean n (own_b (own_upto cf 3))) (g_a : n0 ≤ a) (hn : n ≤ 6) (hck : c3' = cf 3) (hbb : cf 3 = 0 ∨ cf 3 = 1) (hk : 3 < n) :
    ∃ (T' : State) (locs' : List Loc) (h' : Heap), Stand p l e R s m args below meth c T' locs' cells slots ∧ T'.heap = h' ∧ Fr n0 locs' ∧ Keep h0 h' [a] ∧ Av Z h' a .boolean n (own_b (own_upto cf 4)) ∧ ∀ target, Steps p.tables e below (T'.setTop (mkF m 135 #[.val (.int p1), .val (.int p2), .val (.int (Int32.ofNat n)), .val (.ref a), .val (.int c0'), .val (.int c1'), .val (.int c2'), .val (.int c3'), .val (.int c4'), .val (.int c5'), .unset, .unset, .unset, .unset, .unset, .unset, .unset] [])) target → Steps p.tables e below (T0.setTop (mkF m 116 #[.val (.int p1), .val (.int p2), .val (.int (Int32.ofNat n)), .val (.ref a), .val (.int c0'), .val (.int c1'), .val (.int c2'), .val (.int c3'), .val (.int c4'), .val (.int c5'), .unset, .unset, .unset, .unset, .unset, .unset, .unset] [])) target := by
  obtain ⟨v', hv_v'⟩ : ∃ zz_ : Int32, (c3' = (1 : Int32) ∧ zz_ = (1 : Int32)) ∨ (¬ (c3' = (1 : Int32)) ∧ zz_ = (0 : Int32)) := by
    by_cases hq : c3' = (1 : Int32)
    · exact ⟨_, Or.inl ⟨hq, rfl⟩⟩
    · exact ⟨_, Or.inr ⟨hq, rfl⟩⟩
  have dm1 : ∀ t, Steps p.tables e below (T0.setTop (mkF m 134 #[.val (.int p1), .val (.int p2), .val (.int (Int32.ofNat n)), .val (.ref a), .val (.int c0'), .val (.int c1'), .val (.int c2'), .val (.int c3'), .val (.int c4'), .val (.int c5'), .unset, .unset, .unset, .unset, .unset, .unset, .unset] [(.int v'), (.int (3 : Int32)), (.ref a)])) t → Steps p.tables e below (T0.setTop (mkF m 126 #[.val (.int p1), .val (.int p2), .val (.int (Int32.ofNat n)), .val (.ref a), .val (.int c0'), .val (.int c1'), .val (.int c2'), .val (.int c3'), .val (.int c4'), .val (.int c5'), .unset, .unset, .unset, .unset, .unset, .unset, .unset] [(.int (1 : Int32)), (.int c3'), (.int (3 : Int32)), (.ref a)])) t := by
    intro t K
    rcases hv_v' with ⟨hq, rfl⟩ | ⟨hq, rfl⟩
    · show Steps p.tables e below (T0.setTop (mkF m 126 #[.val (.int p1), .val (.int p2), .val (.int (Int32.ofNat n)), .val (.ref a), .val (.int c0'), .val (.int c1'), .val (.int c2'), .val (.int c3'), .val (.int c4'), .val (.int c5'), .unset, .unset, .unset, .unset, .unset, .unset, .unset] [(.int (1 : Int32)), (.int c3'), (.int (3 : Int32)), (.ref a)])) _
      refine XS.icmpNo X0.here hx rfl (hb hby at_126) rfl (teq (show c3' = (1 : Int32) from hq)).2 ?_
      show Steps p.tables e below (T0.setTop (mkF m 129 #[.val (.int p1), .val (.int p2), .val (.int (Int32.ofNat n)), .val (.ref a), .val (.int c0'), .val (.int c1'), .val (.int c2'), .val (.int c3'), .val (.int c4'), .val (.int c5'), .unset, .unset, .unset, .unset, .unset, .unset, .unset] [(.int (3 : Int32)), (.ref a)])) _
      refine XS.iconst X0.here hx rfl (hb hby at_129) ?_
      show Steps p.tables e below (T0.setTop (mkF m 130 #[.val (.int p1), .val (.int p2), .val (.int (Int32.ofNat n)), .val (.ref a), .val (.int c0'), .val (.int c1'), .val (.int c2'), .val (.int c3'), .val (.int c4'), .val (.int c5'), .unset, .unset, .unset, .unset, .unset, .unset, .unset] [(.int (1 : Int32)), (.int (3 : Int32)), (.ref a)])) _
      refine XS.goto X0.here hx rfl (pc0 := 130) (pc' := 134) rfl (hb hby at_130) (by decide) (by decide) ?_
      show Steps p.tables e below (T0.setTop (mkF m 134 #[.val (.int p1), .val (.int p2), .val (.int (Int32.ofNat n)), .val (.ref a), .val (.int c0'), .val (.int c1'), .val (.int c2'), .val (.int c3'), .val (.int c4'), .val (.int c5'), .unset, .unset, .unset, .unset, .unset, .unset, .unset] [(.int (1 : Int32)), (.int (3 : Int32)), (.ref a)])) _
      exact K
    · show Steps p.tables e below (T0.setTop (mkF m 126 #[.val (.int p1), .val (.int p2), .val (.int (Int32.ofNat n)), .val (.ref a), .val (.int c0'), .val (.int c1'), .val (.int c2'), .val (.int c3'), .val (.int c4'), .val (.int c5'), .unset, .unset, .unset, .unset, .unset, .unset, .unset] [(.int (1 : Int32)), (.int c3'), (.int (3 : Int32)), (.ref a)])) _
      refine XS.icmpYes X0.here hx rfl (pc0 := 126) (pc' := 133) rfl (hb hby at_126) rfl (feq (show ¬ (c3' = (1 : Int32)) from hq)).2 (by decide) (by decide) ?_
      show Steps p.tables e below (T0.setTop (mkF m 133 #[.val (.int p1), .val (.int p2), .val (.int (Int32.ofNat n)), .val (.ref a), .val (.int c0'), .val (.int c1'), .val (.int c2'), .val (.int c3'), .val (.int c4'), .val (.int c5'), .unset, .unset, .unset, .unset, .unset, .unset, .unset] [(.int (3 : Int32)), (.ref a)])) _
      refine XS.iconst X0.here hx rfl (hb hby at_133) ?_
      show Steps p.tables e below (T0.setTop (mkF m 134 #[.val (.int p1), .val (.int p2), .val (.int (Int32.ofNat n)), .val (.ref a), .val (.int c0'), .val (.int c1'), .val (.int c2'), .val (.int c3'), .val (.int c4'), .val (.int c5'), .unset, .unset, .unset, .unset, .unset, .unset, .unset] [(.int (0 : Int32)), (.int (3 : Int32)), (.ref a)])) _
      exact K
  have hv : v' = cf 3 := by
    rw [← hck]
    rcases hv_v' with ⟨h1, h2⟩ | ⟨h1, h2⟩
    · rw [h1, h2]
    · rw [h2]; rw [← hck] at hbb; exact (hbb.resolve_right h1).symm
  obtain ⟨cl2, Ar2, S2, H2⟩ := id A_a
  have hj2 : (3 : Int32).toNatClampNeg = 3 := (by decide)
  have hin2 : ¬ ((3 : Int32) < 0 ∨ cl2.slots.size ≤ ((3 : Int32)).toNatClampNeg) := by rw [S2, hj2]; exact fun q => q.elim (by decide) (Nat.not_le.mpr hk)
  obtain ⟨T3, h3, X3, e3, W3, st3⟩ := stZ X0 hx hZ e0 Ar2 (j := (3 : Int32)) hin2 (g := (mkF m 134 #[.val (.int p1), .val (.int p2), .val (.int (Int32.ofNat n)), .val (.ref a), .val (.int c0'), .val (.int c1'), .val (.int c2'), .val (.int c3'), .val (.int c4'), .val (.int c5'), .unset, .unset, .unset, .unset, .unset, .unset, .unset] [(.int v'), (.int (3 : Int32)), (.ref a)])) rfl rfl (hb hby at_134)
  have N3 := Fr.snoc X3 N0 g_a
  have Aw3 : Av Z h3 a .boolean n (fun jj_ => if jj_ = 3 then (.int v') else (own_b (own_upto cf 3)) jj_) := Av.set Ar2 S2 H2 W3 hj2 (congrArg Value.int (own_nar (hv ▸ hbb)))
  have rc4 : Av Z h3 a .boolean n (own_b (own_upto cf 4)) := Av.congr (fun j _ => own_upto_set cf 3 v' hv j) Aw3
  have kp5 : Keep h0 h3 [a] := ((Keep.refl h0 [a]).wr W3 (Or.inl (List.mem_of_getElem? (i := 0) rfl)))
  refine ⟨T3, _, _, X3, e3, N3, kp5, rc4, fun target kt => ?_⟩
  show Steps p.tables e below (T0.setTop (mkF m 116 #[.val (.int p1), .val (.int p2), .val (.int (Int32.ofNat n)), .val (.ref a), .val (.int c0'), .val (.int c1'), .val (.int c2'), .val (.int c3'), .val (.int c4'), .val (.int c5'), .unset, .unset, .unset, .unset, .unset, .unset, .unset] [])) _
  refine XS.iloadN X0.here hx rfl (hb hby at_116) rfl ?_
  show Steps p.tables e below (T0.setTop (mkF m 117 #[.val (.int p1), .val (.int p2), .val (.int (Int32.ofNat n)), .val (.ref a), .val (.int c0'), .val (.int c1'), .val (.int c2'), .val (.int c3'), .val (.int c4'), .val (.int c5'), .unset, .unset, .unset, .unset, .unset, .unset, .unset] [(.int (Int32.ofNat n))])) _
  refine XS.iconst X0.here hx rfl (hb hby at_117) ?_
  show Steps p.tables e below (T0.setTop (mkF m 118 #[.val (.int p1), .val (.int p2), .val (.int (Int32.ofNat n)), .val (.ref a), .val (.int c0'), .val (.int c1'), .val (.int c2'), .val (.int c3'), .val (.int c4'), .val (.int c5'), .unset, .unset, .unset, .unset, .unset, .unset, .unset] [(.int (3 : Int32)), (.int (Int32.ofNat n))])) _
  refine XS.icmpNo X0.here hx rfl (hb hby at_118) rfl (tlt (show (3 : Int32) < (Int32.ofNat n) from ((own_lt (i := 3) (by omega) hn).mpr hk))).2.2.2 ?_
  show Steps p.tables e below (T0.setTop (mkF m 121 #[.val (.int p1), .val (.int p2), .val (.int (Int32.ofNat n)), .val (.ref a), .val (.int c0'), .val (.int c1'), .val (.int c2'), .val (.int c3'), .val (.int c4'), .val (.int c5'), .unset, .unset, .unset, .unset, .unset, .unset, .unset] [])) _
  refine XS.aloadN X0.here hx rfl (hb hby at_121) rfl rfl ?_
  show Steps p.tables e below (T0.setTop (mkF m 122 #[.val (.int p1), .val (.int p2), .val (.int (Int32.ofNat n)), .val (.ref a), .val (.int c0'), .val (.int c1'), .val (.int c2'), .val (.int c3'), .val (.int c4'), .val (.int c5'), .unset, .unset, .unset, .unset, .unset, .unset, .unset] [(.ref a)])) _
  refine XS.iconst X0.here hx rfl (hb hby at_122) ?_
  show Steps p.tables e below (T0.setTop (mkF m 123 #[.val (.int p1), .val (.int p2), .val (.int (Int32.ofNat n)), .val (.ref a), .val (.int c0'), .val (.int c1'), .val (.int c2'), .val (.int c3'), .val (.int c4'), .val (.int c5'), .unset, .unset, .unset, .unset, .unset, .unset, .unset] [(.int (3 : Int32)), (.ref a)])) _
  refine XS.iload X0.here hx rfl (hb hby at_123) rfl ?_
  show Steps p.tables e below (T0.setTop (mkF m 125 #[.val (.int p1), .val (.int p2), .val (.int (Int32.ofNat n)), .val (.ref a), .val (.int c0'), .val (.int c1'), .val (.int c2'), .val (.int c3'), .val (.int c4'), .val (.int c5'), .unset, .unset, .unset, .unset, .unset, .unset, .unset] [(.int c3'), (.int (3 : Int32)), (.ref a)])) _
  refine XS.iconst X0.here hx rfl (hb hby at_125) ?_
  show Steps p.tables e below (T0.setTop (mkF m 126 #[.val (.int p1), .val (.int p2), .val (.int (Int32.ofNat n)), .val (.ref a), .val (.int c0'), .val (.int c1'), .val (.int c2'), .val (.int c3'), .val (.int c4'), .val (.int c5'), .unset, .unset, .unset, .unset, .unset, .unset, .unset] [(.int (1 : Int32)), (.int c3'), (.int (3 : Int32)), (.ref a)])) _
  refine dm1 _ ?_
  show Steps p.tables e below (T0.setTop (mkF m 134 #[.val (.int p1), .val (.int p2), .val (.int (Int32.ofNat n)), .val (.ref a), .val (.int c0'), .val (.int c1'), .val (.int c2'), .val (.int c3'), .val (.int c4'), .val (.int c5'), .unset, .unset, .unset, .unset, .unset, .unset, .unset] [(.int v'), (.int (3 : Int32)), (.ref a)])) _
  refine st3 _ ?_
  show Steps p.tables e below (T3.setTop (mkF m 135 #[.val (.int p1), .val (.int p2), .val (.int (Int32.ofNat n)), .val (.ref a), .val (.int c0'), .val (.int c1'), .val (.int c2'), .val (.int c3'), .val (.int c4'), .val (.int c5'), .unset, .unset, .unset, .unset, .unset, .unset, .unset] [])) _
  exact kt
theorem set3 {p : Program} {l : Launch} {e : Env} {R : Room} {s : State} {m : MethodId} {args : Array Value} {below : List Frame} {meth : Method} {c : Code} {T0 : State} {locs : List Loc} {cells slots : Nat} {Z : State} {a0 : Array Value} {h0 : Heap} {n0 : Nat} (p1 : Int32) (p2 : Int32) (n : Nat) (a : Addr) (c0' : Int32) (c1' : Int32) (c2' : Int32) (c3' : Int32) (c4' : Int32) (c5' : Int32) (cf : Nat → Int32)
    (X0 : Stand p l e R s m args below meth c T0 locs cells slots) (hx : p.tables.exec = Jvm.exec) (hZ : Z.Warmed39 s.vm) (hw : ∀ d ∈ tables_1, d.before a0 Z = true) (hby : c.code = code) (hml : c.maxLocals = 17) (hown : s.vm.findClass "stillmark/PlacementIndicesPinLaw" = some m.cls) (e0 : T0.heap = h0) (N0 : Fr n0 locs) (Z0 : n0 ≤ h0.size) (A_a : Av Z h0 a .boolean n (own_b (own_upto cf 3))) (g_a : n0 ≤ a) (hn : n ≤ 6) (hck : c3' = cf 3) (hbb : cf 3 = 0 ∨ cf 3 = 1) :
    ∃ (T' : State) (locs' : List Loc) (h' : Heap), Stand p l e R s m args below meth c T' locs' cells slots ∧ T'.heap = h' ∧ Fr n0 locs' ∧ Keep h0 h' [a] ∧ Av Z h' a .boolean n (own_b (own_upto cf 4)) ∧ ∀ target, Steps p.tables e below (T'.setTop (mkF m 135 #[.val (.int p1), .val (.int p2), .val (.int (Int32.ofNat n)), .val (.ref a), .val (.int c0'), .val (.int c1'), .val (.int c2'), .val (.int c3'), .val (.int c4'), .val (.int c5'), .unset, .unset, .unset, .unset, .unset, .unset, .unset] [])) target → Steps p.tables e below (T0.setTop (mkF m 116 #[.val (.int p1), .val (.int p2), .val (.int (Int32.ofNat n)), .val (.ref a), .val (.int c0'), .val (.int c1'), .val (.int c2'), .val (.int c3'), .val (.int c4'), .val (.int c5'), .unset, .unset, .unset, .unset, .unset, .unset, .unset] [])) target := by
  by_cases hk : 3 < n
  · exact set3b p1 p2 n a c0' c1' c2' c3' c4' c5' cf X0 hx hZ hw hby hml hown e0 N0 Z0 A_a g_a hn hck hbb hk
  · exact set3a p1 p2 n a c0' c1' c2' c3' c4' c5' cf X0 hx hZ hw hby hml hown e0 N0 Z0 A_a g_a hn hck hbb hk
set_option maxRecDepth 65536 in
set_option maxHeartbeats 40000000 in
theorem set4a {p : Program} {l : Launch} {e : Env} {R : Room} {s : State} {m : MethodId} {args : Array Value} {below : List Frame} {meth : Method} {c : Code} {T0 : State} {locs : List Loc} {cells slots : Nat} {Z : State} {a0 : Array Value} {h0 : Heap} {n0 : Nat} (p1 : Int32) (p2 : Int32) (n : Nat) (a : Addr) (c0' : Int32) (c1' : Int32) (c2' : Int32) (c3' : Int32) (c4' : Int32) (c5' : Int32) (cf : Nat → Int32)
    (X0 : Stand p l e R s m args below meth c T0 locs cells slots) (hx : p.tables.exec = Jvm.exec) (hZ : Z.Warmed39 s.vm) (hw : ∀ d ∈ tables_1, d.before a0 Z = true) (hby : c.code = code) (hml : c.maxLocals = 17) (hown : s.vm.findClass "stillmark/PlacementIndicesPinLaw" = some m.cls) (e0 : T0.heap = h0) (N0 : Fr n0 locs) (Z0 : n0 ≤ h0.size) (A_a : Av Z h0 a .boolean n (own_b (own_upto cf 4))) (g_a : n0 ≤ a) (hn : n ≤ 6) (hck : c4' = cf 4) (hbb : cf 4 = 0 ∨ cf 4 = 1) (hk : ¬ 4 < n) :
    ∃ (T' : State) (locs' : List Loc) (h' : Heap), Stand p l e R s m args below meth c T' locs' cells slots ∧ T'.heap = h' ∧ Fr n0 locs' ∧ Keep h0 h' [a] ∧ Av Z h' a .boolean n (own_b (own_upto cf 5)) ∧ ∀ target, Steps p.tables e below (T'.setTop (mkF m 154 #[.val (.int p1), .val (.int p2), .val (.int (Int32.ofNat n)), .val (.ref a), .val (.int c0'), .val (.int c1'), .val (.int c2'), .val (.int c3'), .val (.int c4'), .val (.int c5'), .unset, .unset, .unset, .unset, .unset, .unset, .unset] [])) target → Steps p.tables e below (T0.setTop (mkF m 135 #[.val (.int p1), .val (.int p2), .val (.int (Int32.ofNat n)), .val (.ref a), .val (.int c0'), .val (.int c1'), .val (.int c2'), .val (.int c3'), .val (.int c4'), .val (.int c5'), .unset, .unset, .unset, .unset, .unset, .unset, .unset] [])) target := by
  have rc1 : Av Z h0 a .boolean n (own_b (own_upto cf 5)) := Av.congr (fun j hj => own_upto_congr cf n 4 (by omega) j hj) A_a
  refine ⟨T0, _, _, X0, e0, N0, (Keep.refl h0 [a]), rc1, fun target kt => ?_⟩
  show Steps p.tables e below (T0.setTop (mkF m 135 #[.val (.int p1), .val (.int p2), .val (.int (Int32.ofNat n)), .val (.ref a), .val (.int c0'), .val (.int c1'), .val (.int c2'), .val (.int c3'), .val (.int c4'), .val (.int c5'), .unset, .unset, .unset, .unset, .unset, .unset, .unset] [])) _
  refine XS.iloadN X0.here hx rfl (hb hby at_135) rfl ?_
  show Steps p.tables e below (T0.setTop (mkF m 136 #[.val (.int p1), .val (.int p2), .val (.int (Int32.ofNat n)), .val (.ref a), .val (.int c0'), .val (.int c1'), .val (.int c2'), .val (.int c3'), .val (.int c4'), .val (.int c5'), .unset, .unset, .unset, .unset, .unset, .unset, .unset] [(.int (Int32.ofNat n))])) _
  refine XS.iconst X0.here hx rfl (hb hby at_136) ?_
  show Steps p.tables e below (T0.setTop (mkF m 137 #[.val (.int p1), .val (.int p2), .val (.int (Int32.ofNat n)), .val (.ref a), .val (.int c0'), .val (.int c1'), .val (.int c2'), .val (.int c3'), .val (.int c4'), .val (.int c5'), .unset, .unset, .unset, .unset, .unset, .unset, .unset] [(.int (4 : Int32)), (.int (Int32.ofNat n))])) _
  refine XS.icmpYes X0.here hx rfl (pc0 := 137) (pc' := 154) rfl (hb hby at_137) rfl (flt (show ¬ ((4 : Int32) < (Int32.ofNat n)) from (fun z => hk ((own_lt (i := 4) (by omega) hn).mp z)))).2.2.2 (by decide) (by decide) ?_
  show Steps p.tables e below (T0.setTop (mkF m 154 #[.val (.int p1), .val (.int p2), .val (.int (Int32.ofNat n)), .val (.ref a), .val (.int c0'), .val (.int c1'), .val (.int c2'), .val (.int c3'), .val (.int c4'), .val (.int c5'), .unset, .unset, .unset, .unset, .unset, .unset, .unset] [])) _
  exact kt
set_option maxRecDepth 65536 in
set_option maxHeartbeats 40000000 in
theorem set4b {p : Program} {l : Launch} {e : Env} {R : Room} {s : State} {m : MethodId} {args : Array Value} {below : List Frame} {meth : Method} {c : Code} {T0 : State} {locs : List Loc} {cells slots : Nat} {Z : State} {a0 : Array Value} {h0 : Heap} {n0 : Nat} (p1 : Int32) (p2 : Int32) (n : Nat) (a : Addr) (c0' : Int32) (c1' : Int32) (c2' : Int32) (c3' : Int32) (c4' : Int32) (c5' : Int32) (cf : Nat → Int32)
    (X0 : Stand p l e R s m args below meth c T0 locs cells slots) (hx : p.tables.exec = Jvm.exec) (hZ : Z.Warmed39 s.vm) (hw : ∀ d ∈ tables_1, d.before a0 Z = true) (hby : c.code = code) (hml : c.maxLocals = 17) (hown : s.vm.findClass "stillmark/PlacementIndicesPinLaw" = some m.cls) (e0 : T0.heap = h0) (N0 : Fr n0 locs) (Z0 : n0 ≤ h0.size) (A_a : Av Z h0 a .boolean n (own_b (own_upto cf 4))) (g_a : n0 ≤ a) (hn : n ≤ 6) (hck : c4' = cf 4) (hbb : cf 4 = 0 ∨ cf 4 = 1) (hk : 4 < n) :
    ∃ (T' : State) (locs' : List Loc) (h' : Heap), Stand p l e R s m args below meth c T' locs' cells slots ∧ T'.heap = h' ∧ Fr n0 locs' ∧ Keep h0 h' [a] ∧ Av Z h' a .boolean n (own_b (own_upto cf 5)) ∧ ∀ target, Steps p.tables e below (T'.setTop (mkF m 154 #[.val (.int p1), .val (.int p2), .val (.int (Int32.ofNat n)), .val (.ref a), .val (.int c0'), .val (.int c1'), .val (.int c2'), .val (.int c3'), .val (.int c4'), .val (.int c5'), .unset, .unset, .unset, .unset, .unset, .unset, .unset] [])) target → Steps p.tables e below (T0.setTop (mkF m 135 #[.val (.int p1), .val (.int p2), .val (.int (Int32.ofNat n)), .val (.ref a), .val (.int c0'), .val (.int c1'), .val (.int c2'), .val (.int c3'), .val (.int c4'), .val (.int c5'), .unset, .unset, .unset, .unset, .unset, .unset, .unset] [])) target := by
  obtain ⟨v', hv_v'⟩ : ∃ zz_ : Int32, (c4' = (1 : Int32) ∧ zz_ = (1 : Int32)) ∨ (¬ (c4' = (1 : Int32)) ∧ zz_ = (0 : Int32)) := by
    by_cases hq : c4' = (1 : Int32)
    · exact ⟨_, Or.inl ⟨hq, rfl⟩⟩
    · exact ⟨_, Or.inr ⟨hq, rfl⟩⟩
  have dm1 : ∀ t, Steps p.tables e below (T0.setTop (mkF m 153 #[.val (.int p1), .val (.int p2), .val (.int (Int32.ofNat n)), .val (.ref a), .val (.int c0'), .val (.int c1'), .val (.int c2'), .val (.int c3'), .val (.int c4'), .val (.int c5'), .unset, .unset, .unset, .unset, .unset, .unset, .unset] [(.int v'), (.int (4 : Int32)), (.ref a)])) t → Steps p.tables e below (T0.setTop (mkF m 145 #[.val (.int p1), .val (.int p2), .val (.int (Int32.ofNat n)), .val (.ref a), .val (.int c0'), .val (.int c1'), .val (.int c2'), .val (.int c3'), .val (.int c4'), .val (.int c5'), .unset, .unset, .unset, .unset, .unset, .unset, .unset] [(.int (1 : Int32)), (.int c4'), (.int (4 : Int32)), (.ref a)])) t := by
    intro t K
    rcases hv_v' with ⟨hq, rfl⟩ | ⟨hq, rfl⟩
    · show Steps p.tables e below (T0.setTop (mkF m 145 #[.val (.int p1), .val (.int p2), .val (.int (Int32.ofNat n)), .val (.ref a), .val (.int c0'), .val (.int c1'), .val (.int c2'), .val (.int c3'), .val (.int c4'), .val (.int c5'), .unset, .unset, .unset, .unset, .unset, .unset, .unset] [(.int (1 : Int32)), (.int c4'), (.int (4 : Int32)), (.ref a)])) _
      refine XS.icmpNo X0.here hx rfl (hb hby at_145) rfl (teq (show c4' = (1 : Int32) from hq)).2 ?_
      show Steps p.tables e below (T0.setTop (mkF m 148 #[.val (.int p1), .val (.int p2), .val (.int (Int32.ofNat n)), .val (.ref a), .val (.int c0'), .val (.int c1'), .val (.int c2'), .val (.int c3'), .val (.int c4'), .val (.int c5'), .unset, .unset, .unset, .unset, .unset, .unset, .unset] [(.int (4 : Int32)), (.ref a)])) _
      refine XS.iconst X0.here hx rfl (hb hby at_148) ?_
      show Steps p.tables e below (T0.setTop (mkF m 149 #[.val (.int p1), .val (.int p2), .val (.int (Int32.ofNat n)), .val (.ref a), .val (.int c0'), .val (.int c1'), .val (.int c2'), .val (.int c3'), .val (.int c4'), .val (.int c5'), .unset, .unset, .unset, .unset, .unset, .unset, .unset] [(.int (1 : Int32)), (.int (4 : Int32)), (.ref a)])) _
      refine XS.goto X0.here hx rfl (pc0 := 149) (pc' := 153) rfl (hb hby at_149) (by decide) (by decide) ?_
      show Steps p.tables e below (T0.setTop (mkF m 153 #[.val (.int p1), .val (.int p2), .val (.int (Int32.ofNat n)), .val (.ref a), .val (.int c0'), .val (.int c1'), .val (.int c2'), .val (.int c3'), .val (.int c4'), .val (.int c5'), .unset, .unset, .unset, .unset, .unset, .unset, .unset] [(.int (1 : Int32)), (.int (4 : Int32)), (.ref a)])) _
      exact K
    · show Steps p.tables e below (T0.setTop (mkF m 145 #[.val (.int p1), .val (.int p2), .val (.int (Int32.ofNat n)), .val (.ref a), .val (.int c0'), .val (.int c1'), .val (.int c2'), .val (.int c3'), .val (.int c4'), .val (.int c5'), .unset, .unset, .unset, .unset, .unset, .unset, .unset] [(.int (1 : Int32)), (.int c4'), (.int (4 : Int32)), (.ref a)])) _
      refine XS.icmpYes X0.here hx rfl (pc0 := 145) (pc' := 152) rfl (hb hby at_145) rfl (feq (show ¬ (c4' = (1 : Int32)) from hq)).2 (by decide) (by decide) ?_
      show Steps p.tables e below (T0.setTop (mkF m 152 #[.val (.int p1), .val (.int p2), .val (.int (Int32.ofNat n)), .val (.ref a), .val (.int c0'), .val (.int c1'), .val (.int c2'), .val (.int c3'), .val (.int c4'), .val (.int c5'), .unset, .unset, .unset, .unset, .unset, .unset, .unset] [(.int (4 : Int32)), (.ref a)])) _
      refine XS.iconst X0.here hx rfl (hb hby at_152) ?_
      show Steps p.tables e below (T0.setTop (mkF m 153 #[.val (.int p1), .val (.int p2), .val (.int (Int32.ofNat n)), .val (.ref a), .val (.int c0'), .val (.int c1'), .val (.int c2'), .val (.int c3'), .val (.int c4'), .val (.int c5'), .unset, .unset, .unset, .unset, .unset, .unset, .unset] [(.int (0 : Int32)), (.int (4 : Int32)), (.ref a)])) _
      exact K
  have hv : v' = cf 4 := by
    rw [← hck]
    rcases hv_v' with ⟨h1, h2⟩ | ⟨h1, h2⟩
    · rw [h1, h2]
    · rw [h2]; rw [← hck] at hbb; exact (hbb.resolve_right h1).symm
  obtain ⟨cl2, Ar2, S2, H2⟩ := id A_a
  have hj2 : (4 : Int32).toNatClampNeg = 4 := (by decide)
  have hin2 : ¬ ((4 : Int32) < 0 ∨ cl2.slots.size ≤ ((4 : Int32)).toNatClampNeg) := by rw [S2, hj2]; exact fun q => q.elim (by decide) (Nat.not_le.mpr hk)
  obtain ⟨T3, h3, X3, e3, W3, st3⟩ := stZ X0 hx hZ e0 Ar2 (j := (4 : Int32)) hin2 (g := (mkF m 153 #[.val (.int p1), .val (.int p2), .val (.int (Int32.ofNat n)), .val (.ref a), .val (.int c0'), .val (.int c1'), .val (.int c2'), .val (.int c3'), .val (.int c4'), .val (.int c5'), .unset, .unset, .unset, .unset, .unset, .unset, .unset] [(.int v'), (.int (4 : Int32)), (.ref a)])) rfl rfl (hb hby at_153)
  have N3 := Fr.snoc X3 N0 g_a
  have Aw3 : Av Z h3 a .boolean n (fun jj_ => if jj_ = 4 then (.int v') else (own_b (own_upto cf 4)) jj_) := Av.set Ar2 S2 H2 W3 hj2 (congrArg Value.int (own_nar (hv ▸ hbb)))
  have rc4 : Av Z h3 a .boolean n (own_b (own_upto cf 5)) := Av.congr (fun j _ => own_upto_set cf 4 v' hv j) Aw3
  have kp5 : Keep h0 h3 [a] := ((Keep.refl h0 [a]).wr W3 (Or.inl (List.mem_of_getElem? (i := 0) rfl)))
  refine ⟨T3, _, _, X3, e3, N3, kp5, rc4, fun target kt => ?_⟩
  show Steps p.tables e below (T0.setTop (mkF m 135 #[.val (.int p1), .val (.int p2), .val (.int (Int32.ofNat n)), .val (.ref a), .val (.int c0'), .val (.int c1'), .val (.int c2'), .val (.int c3'), .val (.int c4'), .val (.int c5'), .unset, .unset, .unset, .unset, .unset, .unset, .unset] [])) _
  refine XS.iloadN X0.here hx rfl (hb hby at_135) rfl ?_
  show Steps p.tables e below (T0.setTop (mkF m 136 #[.val (.int p1), .val (.int p2), .val (.int (Int32.ofNat n)), .val (.ref a), .val (.int c0'), .val (.int c1'), .val (.int c2'), .val (.int c3'), .val (.int c4'), .val (.int c5'), .unset, .unset, .unset, .unset, .unset, .unset, .unset] [(.int (Int32.ofNat n))])) _
  refine XS.iconst X0.here hx rfl (hb hby at_136) ?_
  show Steps p.tables e below (T0.setTop (mkF m 137 #[.val (.int p1), .val (.int p2), .val (.int (Int32.ofNat n)), .val (.ref a), .val (.int c0'), .val (.int c1'), .val (.int c2'), .val (.int c3'), .val (.int c4'), .val (.int c5'), .unset, .unset, .unset, .unset, .unset, .unset, .unset] [(.int (4 : Int32)), (.int (Int32.ofNat n))])) _
  refine XS.icmpNo X0.here hx rfl (hb hby at_137) rfl (tlt (show (4 : Int32) < (Int32.ofNat n) from ((own_lt (i := 4) (by omega) hn).mpr hk))).2.2.2 ?_
  show Steps p.tables e below (T0.setTop (mkF m 140 #[.val (.int p1), .val (.int p2), .val (.int (Int32.ofNat n)), .val (.ref a), .val (.int c0'), .val (.int c1'), .val (.int c2'), .val (.int c3'), .val (.int c4'), .val (.int c5'), .unset, .unset, .unset, .unset, .unset, .unset, .unset] [])) _
  refine XS.aloadN X0.here hx rfl (hb hby at_140) rfl rfl ?_
  show Steps p.tables e below (T0.setTop (mkF m 141 #[.val (.int p1), .val (.int p2), .val (.int (Int32.ofNat n)), .val (.ref a), .val (.int c0'), .val (.int c1'), .val (.int c2'), .val (.int c3'), .val (.int c4'), .val (.int c5'), .unset, .unset, .unset, .unset, .unset, .unset, .unset] [(.ref a)])) _
  refine XS.iconst X0.here hx rfl (hb hby at_141) ?_
  show Steps p.tables e below (T0.setTop (mkF m 142 #[.val (.int p1), .val (.int p2), .val (.int (Int32.ofNat n)), .val (.ref a), .val (.int c0'), .val (.int c1'), .val (.int c2'), .val (.int c3'), .val (.int c4'), .val (.int c5'), .unset, .unset, .unset, .unset, .unset, .unset, .unset] [(.int (4 : Int32)), (.ref a)])) _
  refine XS.iload X0.here hx rfl (hb hby at_142) rfl ?_
  show Steps p.tables e below (T0.setTop (mkF m 144 #[.val (.int p1), .val (.int p2), .val (.int (Int32.ofNat n)), .val (.ref a), .val (.int c0'), .val (.int c1'), .val (.int c2'), .val (.int c3'), .val (.int c4'), .val (.int c5'), .unset, .unset, .unset, .unset, .unset, .unset, .unset] [(.int c4'), (.int (4 : Int32)), (.ref a)])) _
  refine XS.iconst X0.here hx rfl (hb hby at_144) ?_
  show Steps p.tables e below (T0.setTop (mkF m 145 #[.val (.int p1), .val (.int p2), .val (.int (Int32.ofNat n)), .val (.ref a), .val (.int c0'), .val (.int c1'), .val (.int c2'), .val (.int c3'), .val (.int c4'), .val (.int c5'), .unset, .unset, .unset, .unset, .unset, .unset, .unset] [(.int (1 : Int32)), (.int c4'), (.int (4 : Int32)), (.ref a)])) _
  refine dm1 _ ?_
  show Steps p.tables e below (T0.setTop (mkF m 153 #[.val (.int p1), .val (.int p2), .val (.int (Int32.ofNat n)), .val (.ref a), .val (.int c0'), .val (.int c1'), .val (.int c2'), .val (.int c3'), .val (.int c4'), .val (.int c5'), .unset, .unset, .unset, .unset, .unset, .unset, .unset] [(.int v'), (.int (4 : Int32)), (.ref a)])) _
  refine st3 _ ?_
  show Steps p.tables e below (T3.setTop (mkF m 154 #[.val (.int p1), .val (.int p2), .val (.int (Int32.ofNat n)), .val (.ref a), .val (.int c0'), .val (.int c1'), .val (.int c2'), .val (.int c3'), .val (.int c4'), .val (.int c5'), .unset, .unset, .unset, .unset, .unset, .unset, .unset] [])) _
  exact kt
theorem set4 {p : Program} {l : Launch} {e : Env} {R : Room} {s : State} {m : MethodId} {args : Array Value} {below : List Frame} {meth : Method} {c : Code} {T0 : State} {locs : List Loc} {cells slots : Nat} {Z : State} {a0 : Array Value} {h0 : Heap} {n0 : Nat} (p1 : Int32) (p2 : Int32) (n : Nat) (a : Addr) (c0' : Int32) (c1' : Int32) (c2' : Int32) (c3' : Int32) (c4' : Int32) (c5' : Int32) (cf : Nat → Int32)
    (X0 : Stand p l e R s m args below meth c T0 locs cells slots) (hx : p.tables.exec = Jvm.exec) (hZ : Z.Warmed39 s.vm) (hw : ∀ d ∈ tables_1, d.before a0 Z = true) (hby : c.code = code) (hml : c.maxLocals = 17) (hown : s.vm.findClass "stillmark/PlacementIndicesPinLaw" = some m.cls) (e0 : T0.heap = h0) (N0 : Fr n0 locs) (Z0 : n0 ≤ h0.size) (A_a : Av Z h0 a .boolean n (own_b (own_upto cf 4))) (g_a : n0 ≤ a) (hn : n ≤ 6) (hck : c4' = cf 4) (hbb : cf 4 = 0 ∨ cf 4 = 1) :
    ∃ (T' : State) (locs' : List Loc) (h' : Heap), Stand p l e R s m args below meth c T' locs' cells slots ∧ T'.heap = h' ∧ Fr n0 locs' ∧ Keep h0 h' [a] ∧ Av Z h' a .boolean n (own_b (own_upto cf 5)) ∧ ∀ target, Steps p.tables e below (T'.setTop (mkF m 154 #[.val (.int p1), .val (.int p2), .val (.int (Int32.ofNat n)), .val (.ref a), .val (.int c0'), .val (.int c1'), .val (.int c2'), .val (.int c3'), .val (.int c4'), .val (.int c5'), .unset, .unset, .unset, .unset, .unset, .unset, .unset] [])) target → Steps p.tables e below (T0.setTop (mkF m 135 #[.val (.int p1), .val (.int p2), .val (.int (Int32.ofNat n)), .val (.ref a), .val (.int c0'), .val (.int c1'), .val (.int c2'), .val (.int c3'), .val (.int c4'), .val (.int c5'), .unset, .unset, .unset, .unset, .unset, .unset, .unset] [])) target := by
  by_cases hk : 4 < n
  · exact set4b p1 p2 n a c0' c1' c2' c3' c4' c5' cf X0 hx hZ hw hby hml hown e0 N0 Z0 A_a g_a hn hck hbb hk
  · exact set4a p1 p2 n a c0' c1' c2' c3' c4' c5' cf X0 hx hZ hw hby hml hown e0 N0 Z0 A_a g_a hn hck hbb hk
set_option maxRecDepth 65536 in
set_option maxHeartbeats 40000000 in
theorem set5a {p : Program} {l : Launch} {e : Env} {R : Room} {s : State} {m : MethodId} {args : Array Value} {below : List Frame} {meth : Method} {c : Code} {T0 : State} {locs : List Loc} {cells slots : Nat} {Z : State} {a0 : Array Value} {h0 : Heap} {n0 : Nat} (p1 : Int32) (p2 : Int32) (n : Nat) (a : Addr) (c0' : Int32) (c1' : Int32) (c2' : Int32) (c3' : Int32) (c4' : Int32) (c5' : Int32) (cf : Nat → Int32)
    (X0 : Stand p l e R s m args below meth c T0 locs cells slots) (hx : p.tables.exec = Jvm.exec) (hZ : Z.Warmed39 s.vm) (hw : ∀ d ∈ tables_1, d.before a0 Z = true) (hby : c.code = code) (hml : c.maxLocals = 17) (hown : s.vm.findClass "stillmark/PlacementIndicesPinLaw" = some m.cls) (e0 : T0.heap = h0) (N0 : Fr n0 locs) (Z0 : n0 ≤ h0.size) (A_a : Av Z h0 a .boolean n (own_b (own_upto cf 5))) (g_a : n0 ≤ a) (hn : n ≤ 6) (hck : c5' = cf 5) (hbb : cf 5 = 0 ∨ cf 5 = 1) (hk : ¬ 5 < n) :
    ∃ (T' : State) (locs' : List Loc) (h' : Heap), Stand p l e R s m args below meth c T' locs' cells slots ∧ T'.heap = h' ∧ Fr n0 locs' ∧ Keep h0 h' [a] ∧ Av Z h' a .boolean n (own_b (own_upto cf 6)) ∧ ∀ target, Steps p.tables e below (T'.setTop (mkF m 173 #[.val (.int p1), .val (.int p2), .val (.int (Int32.ofNat n)), .val (.ref a), .val (.int c0'), .val (.int c1'), .val (.int c2'), .val (.int c3'), .val (.int c4'), .val (.int c5'), .unset, .unset, .unset, .unset, .unset, .unset, .unset] [])) target → Steps p.tables e below (T0.setTop (mkF m 154 #[.val (.int p1), .val (.int p2), .val (.int (Int32.ofNat n)), .val (.ref a), .val (.int c0'), .val (.int c1'), .val (.int c2'), .val (.int c3'), .val (.int c4'), .val (.int c5'), .unset, .unset, .unset, .unset, .unset, .unset, .unset] [])) target := by
  have rc1 : Av Z h0 a .boolean n (own_b (own_upto cf 6)) := Av.congr (fun j hj => own_upto_congr cf n 5 (by omega) j hj) A_a
  refine ⟨T0, _, _, X0, e0, N0, (Keep.refl h0 [a]), rc1, fun target kt => ?_⟩
  show Steps p.tables e below (T0.setTop (mkF m 154 #[.val (.int p1), .val (.int p2), .val (.int (Int32.ofNat n)), .val (.ref a), .val (.int c0'), .val (.int c1'), .val (.int c2'), .val (.int c3'), .val (.int c4'), .val (.int c5'), .unset, .unset, .unset, .unset, .unset, .unset, .unset] [])) _
  refine XS.iloadN X0.here hx rfl (hb hby at_154) rfl ?_
  show Steps p.tables e below (T0.setTop (mkF m 155 #[.val (.int p1), .val (.int p2), .val (.int (Int32.ofNat n)), .val (.ref a), .val (.int c0'), .val (.int c1'), .val (.int c2'), .val (.int c3'), .val (.int c4'), .val (.int c5'), .unset, .unset, .unset, .unset, .unset, .unset, .unset] [(.int (Int32.ofNat n))])) _
  refine XS.iconst X0.here hx rfl (hb hby at_155) ?_
  show Steps p.tables e below (T0.setTop (mkF m 156 #[.val (.int p1), .val (.int p2), .val (.int (Int32.ofNat n)), .val (.ref a), .val (.int c0'), .val (.int c1'), .val (.int c2'), .val (.int c3'), .val (.int c4'), .val (.int c5'), .unset, .unset, .unset, .unset, .unset, .unset, .unset] [(.int (5 : Int32)), (.int (Int32.ofNat n))])) _
  refine XS.icmpYes X0.here hx rfl (pc0 := 156) (pc' := 173) rfl (hb hby at_156) rfl (flt (show ¬ ((5 : Int32) < (Int32.ofNat n)) from (fun z => hk ((own_lt (i := 5) (by omega) hn).mp z)))).2.2.2 (by decide) (by decide) ?_
  show Steps p.tables e below (T0.setTop (mkF m 173 #[.val (.int p1), .val (.int p2), .val (.int (Int32.ofNat n)), .val (.ref a), .val (.int c0'), .val (.int c1'), .val (.int c2'), .val (.int c3'), .val (.int c4'), .val (.int c5'), .unset, .unset, .unset, .unset, .unset, .unset, .unset] [])) _
  exact kt
set_option maxRecDepth 65536 in
set_option maxHeartbeats 40000000 in
theorem set5b {p : Program} {l : Launch} {e : Env} {R : Room} {s : State} {m : MethodId} {args : Array Value} {below : List Frame} {meth : Method} {c : Code} {T0 : State} {locs : List Loc} {cells slots : Nat} {Z : State} {a0 : Array Value} {h0 : Heap} {n0 : Nat} (p1 : Int32) (p2 : Int32) (n : Nat) (a : Addr) (c0' : Int32) (c1' : Int32) (c2' : Int32) (c3' : Int32) (c4' : Int32) (c5' : Int32) (cf : Nat → Int32)
    (X0 : Stand p l e R s m args below meth c T0 locs cells slots) (hx : p.tables.exec = Jvm.exec) (hZ : Z.Warmed39 s.vm) (hw : ∀ d ∈ tables_1, d.before a0 Z = true) (hby : c.code = code) (hml : c.maxLocals = 17) (hown : s.vm.findClass "stillmark/PlacementIndicesPinLaw" = some m.cls) (e0 : T0.heap = h0) (N0 : Fr n0 locs) (Z0 : n0 ≤ h0.size) (A_a : Av Z h0 a .boolean n (own_b (own_upto cf 5))) (g_a : n0 ≤ a) (hn : n ≤ 6) (hck : c5' = cf 5) (hbb : cf 5 = 0 ∨ cf 5 = 1) (hk : 5 < n) :
    ∃ (T' : State) (locs' : List Loc) (h' : Heap), Stand p l e R s m args below meth c T' locs' cells slots ∧ T'.heap = h' ∧ Fr n0 locs' ∧ Keep h0 h' [a] ∧ Av Z h' a .boolean n (own_b (own_upto cf 6)) ∧ ∀ target, Steps p.tables e below (T'.setTop (mkF m 173 #[.val (.int p1), .val (.int p2), .val (.int (Int32.ofNat n)), .val (.ref a), .val (.int c0'), .val (.int c1'), .val (.int c2'), .val (.int c3'), .val (.int c4'), .val (.int c5'), .unset, .unset, .unset, .unset, .unset, .unset, .unset] [])) target → Steps p.tables e below (T0.setTop (mkF m 154 #[.val (.int p1), .val (.int p2), .val (.int (Int32.ofNat n)), .val (.ref a), .val (.int c0'), .val (.int c1'), .val (.int c2'), .val (.int c3'), .val (.int c4'), .val (.int c5'), .unset, .unset, .unset, .unset, .unset, .unset, .unset] [])) target := by
  obtain ⟨v', hv_v'⟩ : ∃ zz_ : Int32, (c5' = (1 : Int32) ∧ zz_ = (1 : Int32)) ∨ (¬ (c5' = (1 : Int32)) ∧ zz_ = (0 : Int32)) := by
    by_cases hq : c5' = (1 : Int32)
    · exact ⟨_, Or.inl ⟨hq, rfl⟩⟩
    · exact ⟨_, Or.inr ⟨hq, rfl⟩⟩
  have dm1 : ∀ t, Steps p.tables e below (T0.setTop (mkF m 172 #[.val (.int p1), .val (.int p2), .val (.int (Int32.ofNat n)), .val (.ref a), .val (.int c0'), .val (.int c1'), .val (.int c2'), .val (.int c3'), .val (.int c4'), .val (.int c5'), .unset, .unset, .unset, .unset, .unset, .unset, .unset] [(.int v'), (.int (5 : Int32)), (.ref a)])) t → Steps p.tables e below (T0.setTop (mkF m 164 #[.val (.int p1), .val (.int p2), .val (.int (Int32.ofNat n)), .val (.ref a), .val (.int c0'), .val (.int c1'), .val (.int c2'), .val (.int c3'), .val (.int c4'), .val (.int c5'), .unset, .unset, .unset, .unset, .unset, .unset, .unset] [(.int (1 : Int32)), (.int c5'), (.int (5 : Int32)), (.ref a)])) t := by
    intro t K
    rcases hv_v' with ⟨hq, rfl⟩ | ⟨hq, rfl⟩
    · show Steps p.tables e below (T0.setTop (mkF m 164 #[.val (.int p1), .val (.int p2), .val (.int (Int32.ofNat n)), .val (.ref a), .val (.int c0'), .val (.int c1'), .val (.int c2'), .val (.int c3'), .val (.int c4'), .val (.int c5'), .unset, .unset, .unset, .unset, .unset, .unset, .unset] [(.int (1 : Int32)), (.int c5'), (.int (5 : Int32)), (.ref a)])) _
      refine XS.icmpNo X0.here hx rfl (hb hby at_164) rfl (teq (show c5' = (1 : Int32) from hq)).2 ?_
      show Steps p.tables e below (T0.setTop (mkF m 167 #[.val (.int p1), .val (.int p2), .val (.int (Int32.ofNat n)), .val (.ref a), .val (.int c0'), .val (.int c1'), .val (.int c2'), .val (.int c3'), .val (.int c4'), .val (.int c5'), .unset, .unset, .unset, .unset, .unset, .unset, .unset] [(.int (5 : Int32)), (.ref a)])) _
      refine XS.iconst X0.here hx rfl (hb hby at_167) ?_
      show Steps p.tables e below (T0.setTop (mkF m 168 #[.val (.int p1), .val (.int p2), .val (.int (Int32.ofNat n)), .val (.ref a), .val (.int c0'), .val (.int c1'), .val (.int c2'), .val (.int c3'), .val (.int c4'), .val (.int c5'), .unset, .unset, .unset, .unset, .unset, .unset, .unset] [(.int (1 : Int32)), (.int (5 : Int32)), (.ref a)])) _
      refine XS.goto X0.here hx rfl (pc0 := 168) (pc' := 172) rfl (hb hby at_168) (by decide) (by decide) ?_
      show Steps p.tables e below (T0.setTop (mkF m 172 #[.val (.int p1), .val (.int p2), .val (.int (Int32.ofNat n)), .val (.ref a), .val (.int c0'), .val (.int c1'), .val (.int c2'), .val (.int c3'), .val (.int c4'), .val (.int c5'), .unset, .unset, .unset, .unset, .unset, .unset, .unset] [(.int (1 : Int32)), (.int (5 : Int32)), (.ref a)])) _
      exact K
    · show Steps p.tables e below (T0.setTop (mkF m 164 #[.val (.int p1), .val (.int p2), .val (.int (Int32.ofNat n)), .val (.ref a), .val (.int c0'), .val (.int c1'), .val (.int c2'), .val (.int c3'), .val (.int c4'), .val (.int c5'), .unset, .unset, .unset, .unset, .unset, .unset, .unset] [(.int (1 : Int32)), (.int c5'), (.int (5 : Int32)), (.ref a)])) _
      refine XS.icmpYes X0.here hx rfl (pc0 := 164) (pc' := 171) rfl (hb hby at_164) rfl (feq (show ¬ (c5' = (1 : Int32)) from hq)).2 (by decide) (by decide) ?_
      show Steps p.tables e below (T0.setTop (mkF m 171 #[.val (.int p1), .val (.int p2), .val (.int (Int32.ofNat n)), .val (.ref a), .val (.int c0'), .val (.int c1'), .val (.int c2'), .val (.int c3'), .val (.int c4'), .val (.int c5'), .unset, .unset, .unset, .unset, .unset, .unset, .unset] [(.int (5 : Int32)), (.ref a)])) _
      refine XS.iconst X0.here hx rfl (hb hby at_171) ?_
      show Steps p.tables e below (T0.setTop (mkF m 172 #[.val (.int p1), .val (.int p2), .val (.int (Int32.ofNat n)), .val (.ref a), .val (.int c0'), .val (.int c1'), .val (.int c2'), .val (.int c3'), .val (.int c4'), .val (.int c5'), .unset, .unset, .unset, .unset, .unset, .unset, .unset] [(.int (0 : Int32)), (.int (5 : Int32)), (.ref a)])) _
      exact K
  have hv : v' = cf 5 := by
    rw [← hck]
    rcases hv_v' with ⟨h1, h2⟩ | ⟨h1, h2⟩
    · rw [h1, h2]
    · rw [h2]; rw [← hck] at hbb; exact (hbb.resolve_right h1).symm
  obtain ⟨cl2, Ar2, S2, H2⟩ := id A_a
  have hj2 : (5 : Int32).toNatClampNeg = 5 := (by decide)
  have hin2 : ¬ ((5 : Int32) < 0 ∨ cl2.slots.size ≤ ((5 : Int32)).toNatClampNeg) := by rw [S2, hj2]; exact fun q => q.elim (by decide) (Nat.not_le.mpr hk)
  obtain ⟨T3, h3, X3, e3, W3, st3⟩ := stZ X0 hx hZ e0 Ar2 (j := (5 : Int32)) hin2 (g := (mkF m 172 #[.val (.int p1), .val (.int p2), .val (.int (Int32.ofNat n)), .val (.ref a), .val (.int c0'), .val (.int c1'), .val (.int c2'), .val (.int c3'), .val (.int c4'), .val (.int c5'), .unset, .unset, .unset, .unset, .unset, .unset, .unset] [(.int v'), (.int (5 : Int32)), (.ref a)])) rfl rfl (hb hby at_172)
  have N3 := Fr.snoc X3 N0 g_a
  have Aw3 : Av Z h3 a .boolean n (fun jj_ => if jj_ = 5 then (.int v') else (own_b (own_upto cf 5)) jj_) := Av.set Ar2 S2 H2 W3 hj2 (congrArg Value.int (own_nar (hv ▸ hbb)))
  have rc4 : Av Z h3 a .boolean n (own_b (own_upto cf 6)) := Av.congr (fun j _ => own_upto_set cf 5 v' hv j) Aw3
  have kp5 : Keep h0 h3 [a] := ((Keep.refl h0 [a]).wr W3 (Or.inl (List.mem_of_getElem? (i := 0) rfl)))
  refine ⟨T3, _, _, X3, e3, N3, kp5, rc4, fun target kt => ?_⟩
  show Steps p.tables e below (T0.setTop (mkF m 154 #[.val (.int p1), .val (.int p2), .val (.int (Int32.ofNat n)), .val (.ref a), .val (.int c0'), .val (.int c1'), .val (.int c2'), .val (.int c3'), .val (.int c4'), .val (.int c5'), .unset, .unset, .unset, .unset, .unset, .unset, .unset] [])) _
  refine XS.iloadN X0.here hx rfl (hb hby at_154) rfl ?_
  show Steps p.tables e below (T0.setTop (mkF m 155 #[.val (.int p1), .val (.int p2), .val (.int (Int32.ofNat n)), .val (.ref a), .val (.int c0'), .val (.int c1'), .val (.int c2'), .val (.int c3'), .val (.int c4'), .val (.int c5'), .unset, .unset, .unset, .unset, .unset, .unset, .unset] [(.int (Int32.ofNat n))])) _
  refine XS.iconst X0.here hx rfl (hb hby at_155) ?_
  show Steps p.tables e below (T0.setTop (mkF m 156 #[.val (.int p1), .val (.int p2), .val (.int (Int32.ofNat n)), .val (.ref a), .val (.int c0'), .val (.int c1'), .val (.int c2'), .val (.int c3'), .val (.int c4'), .val (.int c5'), .unset, .unset, .unset, .unset, .unset, .unset, .unset] [(.int (5 : Int32)), (.int (Int32.ofNat n))])) _
  refine XS.icmpNo X0.here hx rfl (hb hby at_156) rfl (tlt (show (5 : Int32) < (Int32.ofNat n) from ((own_lt (i := 5) (by omega) hn).mpr hk))).2.2.2 ?_
  show Steps p.tables e below (T0.setTop (mkF m 159 #[.val (.int p1), .val (.int p2), .val (.int (Int32.ofNat n)), .val (.ref a), .val (.int c0'), .val (.int c1'), .val (.int c2'), .val (.int c3'), .val (.int c4'), .val (.int c5'), .unset, .unset, .unset, .unset, .unset, .unset, .unset] [])) _
  refine XS.aloadN X0.here hx rfl (hb hby at_159) rfl rfl ?_
  show Steps p.tables e below (T0.setTop (mkF m 160 #[.val (.int p1), .val (.int p2), .val (.int (Int32.ofNat n)), .val (.ref a), .val (.int c0'), .val (.int c1'), .val (.int c2'), .val (.int c3'), .val (.int c4'), .val (.int c5'), .unset, .unset, .unset, .unset, .unset, .unset, .unset] [(.ref a)])) _
  refine XS.iconst X0.here hx rfl (hb hby at_160) ?_
  show Steps p.tables e below (T0.setTop (mkF m 161 #[.val (.int p1), .val (.int p2), .val (.int (Int32.ofNat n)), .val (.ref a), .val (.int c0'), .val (.int c1'), .val (.int c2'), .val (.int c3'), .val (.int c4'), .val (.int c5'), .unset, .unset, .unset, .unset, .unset, .unset, .unset] [(.int (5 : Int32)), (.ref a)])) _
  refine XS.iload X0.here hx rfl (hb hby at_161) rfl ?_
  show Steps p.tables e below (T0.setTop (mkF m 163 #[.val (.int p1), .val (.int p2), .val (.int (Int32.ofNat n)), .val (.ref a), .val (.int c0'), .val (.int c1'), .val (.int c2'), .val (.int c3'), .val (.int c4'), .val (.int c5'), .unset, .unset, .unset, .unset, .unset, .unset, .unset] [(.int c5'), (.int (5 : Int32)), (.ref a)])) _
  refine XS.iconst X0.here hx rfl (hb hby at_163) ?_
  show Steps p.tables e below (T0.setTop (mkF m 164 #[.val (.int p1), .val (.int p2), .val (.int (Int32.ofNat n)), .val (.ref a), .val (.int c0'), .val (.int c1'), .val (.int c2'), .val (.int c3'), .val (.int c4'), .val (.int c5'), .unset, .unset, .unset, .unset, .unset, .unset, .unset] [(.int (1 : Int32)), (.int c5'), (.int (5 : Int32)), (.ref a)])) _
  refine dm1 _ ?_
  show Steps p.tables e below (T0.setTop (mkF m 172 #[.val (.int p1), .val (.int p2), .val (.int (Int32.ofNat n)), .val (.ref a), .val (.int c0'), .val (.int c1'), .val (.int c2'), .val (.int c3'), .val (.int c4'), .val (.int c5'), .unset, .unset, .unset, .unset, .unset, .unset, .unset] [(.int v'), (.int (5 : Int32)), (.ref a)])) _
  refine st3 _ ?_
  show Steps p.tables e below (T3.setTop (mkF m 173 #[.val (.int p1), .val (.int p2), .val (.int (Int32.ofNat n)), .val (.ref a), .val (.int c0'), .val (.int c1'), .val (.int c2'), .val (.int c3'), .val (.int c4'), .val (.int c5'), .unset, .unset, .unset, .unset, .unset, .unset, .unset] [])) _
  exact kt
theorem set5 {p : Program} {l : Launch} {e : Env} {R : Room} {s : State} {m : MethodId} {args : Array Value} {below : List Frame} {meth : Method} {c : Code} {T0 : State} {locs : List Loc} {cells slots : Nat} {Z : State} {a0 : Array Value} {h0 : Heap} {n0 : Nat} (p1 : Int32) (p2 : Int32) (n : Nat) (a : Addr) (c0' : Int32) (c1' : Int32) (c2' : Int32) (c3' : Int32) (c4' : Int32) (c5' : Int32) (cf : Nat → Int32)
    (X0 : Stand p l e R s m args below meth c T0 locs cells slots) (hx : p.tables.exec = Jvm.exec) (hZ : Z.Warmed39 s.vm) (hw : ∀ d ∈ tables_1, d.before a0 Z = true) (hby : c.code = code) (hml : c.maxLocals = 17) (hown : s.vm.findClass "stillmark/PlacementIndicesPinLaw" = some m.cls) (e0 : T0.heap = h0) (N0 : Fr n0 locs) (Z0 : n0 ≤ h0.size) (A_a : Av Z h0 a .boolean n (own_b (own_upto cf 5))) (g_a : n0 ≤ a) (hn : n ≤ 6) (hck : c5' = cf 5) (hbb : cf 5 = 0 ∨ cf 5 = 1) :
    ∃ (T' : State) (locs' : List Loc) (h' : Heap), Stand p l e R s m args below meth c T' locs' cells slots ∧ T'.heap = h' ∧ Fr n0 locs' ∧ Keep h0 h' [a] ∧ Av Z h' a .boolean n (own_b (own_upto cf 6)) ∧ ∀ target, Steps p.tables e below (T'.setTop (mkF m 173 #[.val (.int p1), .val (.int p2), .val (.int (Int32.ofNat n)), .val (.ref a), .val (.int c0'), .val (.int c1'), .val (.int c2'), .val (.int c3'), .val (.int c4'), .val (.int c5'), .unset, .unset, .unset, .unset, .unset, .unset, .unset] [])) target → Steps p.tables e below (T0.setTop (mkF m 154 #[.val (.int p1), .val (.int p2), .val (.int (Int32.ofNat n)), .val (.ref a), .val (.int c0'), .val (.int c1'), .val (.int c2'), .val (.int c3'), .val (.int c4'), .val (.int c5'), .unset, .unset, .unset, .unset, .unset, .unset, .unset] [])) target := by
  by_cases hk : 5 < n
  · exact set5b p1 p2 n a c0' c1' c2' c3' c4' c5' cf X0 hx hZ hw hby hml hown e0 N0 Z0 A_a g_a hn hck hbb hk
  · exact set5a p1 p2 n a c0' c1' c2' c3' c4' c5' cf X0 hx hZ hw hby hml hown e0 N0 Z0 A_a g_a hn hck hbb hk
theorem pd_0 : parseMethodDescriptor "(III)I" = some ⟨[.int, .int, .int], some .int⟩ := by decide +kernel
theorem pd_1 : parseMethodDescriptor "([Z)[I" = some ⟨[(.array .boolean)], some (.array .int)⟩ := by decide +kernel
theorem pd_2 : parseMethodDescriptor "([IIII)Z" = some ⟨[(.array .int), .int, .int, .int], some .boolean⟩ := by decide +kernel
theorem ef_0 (m : MethodId) (x0 : Int32) (x1 : Int32) : entryFrame m #[(.int x0), (.int x1)] maxLocals = mkF m 0 #[.val (.int x0), .val (.int x1), .unset, .unset, .unset, .unset, .unset, .unset, .unset, .unset, .unset, .unset, .unset, .unset, .unset, .unset, .unset] [] := by first | (simp [entryFrame, mkF, argsToLocals, Value.category, maxLocals]; done) | rfl
def Qrm0 (Z : State) (p1 : Int32) (p2 : Int32) (h0 : Heap) (n0 : Nat) (v : Option Value) (h : Heap) (L : List Loc) : Prop := v = some (.int (1 : Int32)) ∧ Fr n0 L
set_option maxRecDepth 65536 in
set_option maxHeartbeats 40000000 in
theorem rm0 (l : Launch) (Z : State) (a0 : Array Value) (hw : ∀ d ∈ tables_1, d.before a0 Z = true) (ws : List Jvm.Cond) (p1 : Int32) (p2 : Int32) (h0 : Heap) (n0 : Nat) (Z0 : n0 ≤ h0.size) :
    MetFree l x (head1 (Jvm.Cond.code x code maxLocals ret :: ws) room_1) (fun aa_ U => aa_ = #[(.int p1), (.int p2)] ∧ Z.Warmed39 U.vm ∧ U.heap = h0) (fun _ _ _ _ _ => True) (fun _ U o U' => ∃ v L, o = .returned v ∧ Qrm0 Z p1 p2 h0 n0 v U'.heap L ∧ FrameEnd U o U' L room_1.cells room_1.slots) := by
  refine MetFree.of_bodySF (plainFor_of_name pn_0) hisR ?_
  intro p e s m args below meth c s₁ Bd hml0 hP hK
  obtain ⟨rfl, hZ, hh⟩ := hP
  have hx := Bd.exec
  have hby := Bd.bytes
  have hml : c.maxLocals = 17 := hml0
  have hown : s.vm.findClass "stillmark/PlacementIndicesPinLaw" = some m.cls := findClass_of_methodNamed Bd.named
  have hnm := (name_of_methodNamed Bd.named Bd.method).1
  have X0 : Stand p l e room_1 s m #[(.int p1), (.int p2)] below meth c s₁ [] 0 0 := Stand.of_body Bd
  have e0 : s₁.heap = h0 := by rw [← hh, Bd.state]; rfl
  have N0 := Fr.nil n0
  have pre0 : ∀ tt_, Steps p.tables e below (s₁.setTop (mkF m 0 #[.val (.int p1), .val (.int p2), .unset, .unset, .unset, .unset, .unset, .unset, .unset, .unset, .unset, .unset, .unset, .unset, .unset, .unset, .unset] [])) tt_ → Steps p.tables e below (s₁.setTop (entryFrame m #[(.int p1), (.int p2)] maxLocals)) tt_ := fun tt_ kk_ => castTop (ef_0 m p1 p2) kk_
  obtain ⟨n, hn, hlen⟩ := own_len p2
  obtain ⟨T1, h1, k1, X1, e1, E1, A1, st1⟩ := newP X0 hx hZ (hw _ (List.mem_of_getElem? (i := 1) rfl)) e0 (g := (mkF m 9 #[.val (.int p1), .val (.int p2), .val (.int (Int32.ofNat n)), .unset, .unset, .unset, .unset, .unset, .unset, .unset, .unset, .unset, .unset, .unset, .unset, .unset, .unset] [(.int (Int32.ofNat n))])) rfl (hb hby at_9) rfl (own_nn hn) (cap := 6) (by rw [own_cv hn]; exact hn) (by decide) (by decide) (by decide)
  obtain ⟨b1, g1⟩ : ∃ zz_, zz_ = h0.size := ⟨_, rfl⟩
  rw [← g1] at A1 st1
  have g_b1 : n0 ≤ b1 := Nat.le_trans Z0 (Nat.le_of_eq g1.symm)
  have sz_b1 : h0.size ≤ b1 := Nat.le_trans (Keep.refl h0 []).1 (Nat.le_of_eq g1.symm)
  have A_b1 : Av Z h1 b1 .boolean n (fun _ => (.int (0 : Int32))) := Av.new A1 (own_nn hn) (own_cv hn)
  obtain ⟨cf, h_cf⟩ : ∃ f : Nat → Int32, f = fun j => own_bitv p1 (Int32.ofNat j) (Int32.ofNat n) := ⟨_, rfl⟩
  have hbb : ∀ j, cf j = 0 ∨ cf j = 1 := fun j => by rw [h_cf]; exact own_bit01 _ _ _
  have hout : ∀ j, n ≤ j → j ≤ 6 → cf j = 0 := fun j h1 h2 => by rw [h_cf]; exact if_neg (fun q => absurd ((own_lt h2 hn).mp q.1) (by omega))
  have sz3 : n0 ≤ h1.size := (Nat.le_trans Z0 E1.1)
  obtain ⟨_, _, ⟨T2, L2, k2, n2⟩, -, X2, ⟨Lc2, hQ2, l2, y2, z2⟩, st2⟩ := Jvm.LawKit.callS X1 hx (y := (⟨"stillmark/PlacementIndicesPinLaw", "bit", "(III)I"⟩ : MethodName)) hown (mvT hZ (hw _ (List.mem_of_getElem? (i := 2) rfl))) (mvT hZ (hw _ (List.mem_of_getElem? (i := 3) rfl))) (mvT hZ (hw _ (List.mem_of_getElem? (i := 4) rfl))) (mvT hZ (hw _ (List.mem_of_getElem? (i := 5) rfl))) (by decide) (backOf (W := 0) (rm1 l Z a0 hw [] p1 (0 : Int32) (Int32.ofNat n) h1 n0 sz3 ) hZ (hw _ (List.mem_of_getElem? (i := 5) rfl)) (hw _ (List.mem_of_getElem? (i := 4) rfl)) (by decide) (by decide)) (g := (mkF m 15 #[.val (.int p1), .val (.int p2), .val (.int (Int32.ofNat n)), .val (.ref b1), .unset, .unset, .unset, .unset, .unset, .unset, .unset, .unset, .unset, .unset, .unset, .unset, .unset] [(.int (Int32.ofNat n)), (.int (0 : Int32)), (.int p1)])) rfl (by rw [hml]; rfl) (argsL := [(.int p1), (.int (0 : Int32)), (.int (Int32.ofNat n))]) (rest := []) (lenOf pd_0 rfl) rfl (by show 2 * 0 + _ ≤ _; exact Nat.le_of_eq rfl) (hb hby at_15) (fun _ _ => ⟨rfl, e1, (by decide : 1 + 0 ≤ _), (by decide : 6 + 0 ≤ _)⟩)
  dsimp only [Pt.U, Pt.locs, Pt.cells, Pt.slots] at X2 l2 y2 z2 st2 hQ2
  subst l2 y2 z2
  obtain ⟨rfl, N2q, e2q⟩ := hQ2
  have N2 := Fr.app N0 N2q
  obtain ⟨_, _, ⟨T4, L4, k4, n4⟩, -, X4, ⟨Lc4, hQ4, l4, y4, z4⟩, st4⟩ := Jvm.LawKit.callS X2 hx (y := (⟨"stillmark/PlacementIndicesPinLaw", "bit", "(III)I"⟩ : MethodName)) hown (mvT hZ (hw _ (List.mem_of_getElem? (i := 2) rfl))) (mvT hZ (hw _ (List.mem_of_getElem? (i := 3) rfl))) (mvT hZ (hw _ (List.mem_of_getElem? (i := 4) rfl))) (mvT hZ (hw _ (List.mem_of_getElem? (i := 5) rfl))) (by decide) (backOf (W := 0) (rm1 l Z a0 hw [] p1 (1 : Int32) (Int32.ofNat n) h1 n0 sz3 ) hZ (hw _ (List.mem_of_getElem? (i := 5) rfl)) (hw _ (List.mem_of_getElem? (i := 4) rfl)) (by decide) (by decide)) (g := (mkF m 23 #[.val (.int p1), .val (.int p2), .val (.int (Int32.ofNat n)), .val (.ref b1), .val (.int (cf 0)), .unset, .unset, .unset, .unset, .unset, .unset, .unset, .unset, .unset, .unset, .unset, .unset] [(.int (Int32.ofNat n)), (.int (1 : Int32)), (.int p1)])) rfl (by rw [hml]; rfl) (argsL := [(.int p1), (.int (1 : Int32)), (.int (Int32.ofNat n))]) (rest := []) (lenOf pd_0 rfl) rfl (by show 2 * 0 + _ ≤ _; exact Nat.le_of_eq rfl) (hb hby at_23) (fun _ _ => ⟨rfl, e2q, (by decide : 1 + 0 ≤ _), (by decide : 6 + 0 ≤ _)⟩)
  dsimp only [Pt.U, Pt.locs, Pt.cells, Pt.slots] at X4 l4 y4 z4 st4 hQ4
  subst l4 y4 z4
  obtain ⟨rfl, N4q, e4q⟩ := hQ4
  have N4 := Fr.app N2 N4q
  obtain ⟨_, _, ⟨T5, L5, k5, n5⟩, -, X5, ⟨Lc5, hQ5, l5, y5, z5⟩, st5⟩ := Jvm.LawKit.callS X4 hx (y := (⟨"stillmark/PlacementIndicesPinLaw", "bit", "(III)I"⟩ : MethodName)) hown (mvT hZ (hw _ (List.mem_of_getElem? (i := 2) rfl))) (mvT hZ (hw _ (List.mem_of_getElem? (i := 3) rfl))) (mvT hZ (hw _ (List.mem_of_getElem? (i := 4) rfl))) (mvT hZ (hw _ (List.mem_of_getElem? (i := 5) rfl))) (by decide) (backOf (W := 0) (rm1 l Z a0 hw [] p1 (2 : Int32) (Int32.ofNat n) h1 n0 sz3 ) hZ (hw _ (List.mem_of_getElem? (i := 5) rfl)) (hw _ (List.mem_of_getElem? (i := 4) rfl)) (by decide) (by decide)) (g := (mkF m 31 #[.val (.int p1), .val (.int p2), .val (.int (Int32.ofNat n)), .val (.ref b1), .val (.int (cf 0)), .val (.int (cf 1)), .unset, .unset, .unset, .unset, .unset, .unset, .unset, .unset, .unset, .unset, .unset] [(.int (Int32.ofNat n)), (.int (2 : Int32)), (.int p1)])) rfl (by rw [hml]; rfl) (argsL := [(.int p1), (.int (2 : Int32)), (.int (Int32.ofNat n))]) (rest := []) (lenOf pd_0 rfl) rfl (by show 2 * 0 + _ ≤ _; exact Nat.le_of_eq rfl) (hb hby at_31) (fun _ _ => ⟨rfl, e4q, (by decide : 1 + 0 ≤ _), (by decide : 6 + 0 ≤ _)⟩)
  dsimp only [Pt.U, Pt.locs, Pt.cells, Pt.slots] at X5 l5 y5 z5 st5 hQ5
  subst l5 y5 z5
  obtain ⟨rfl, N5q, e5q⟩ := hQ5
  have N5 := Fr.app N4 N5q
  obtain ⟨_, _, ⟨T6, L6, k6, n6⟩, -, X6, ⟨Lc6, hQ6, l6, y6, z6⟩, st6⟩ := Jvm.LawKit.callS X5 hx (y := (⟨"stillmark/PlacementIndicesPinLaw", "bit", "(III)I"⟩ : MethodName)) hown (mvT hZ (hw _ (List.mem_of_getElem? (i := 2) rfl))) (mvT hZ (hw _ (List.mem_of_getElem? (i := 3) rfl))) (mvT hZ (hw _ (List.mem_of_getElem? (i := 4) rfl))) (mvT hZ (hw _ (List.mem_of_getElem? (i := 5) rfl))) (by decide) (backOf (W := 0) (rm1 l Z a0 hw [] p1 (3 : Int32) (Int32.ofNat n) h1 n0 sz3 ) hZ (hw _ (List.mem_of_getElem? (i := 5) rfl)) (hw _ (List.mem_of_getElem? (i := 4) rfl)) (by decide) (by decide)) (g := (mkF m 39 #[.val (.int p1), .val (.int p2), .val (.int (Int32.ofNat n)), .val (.ref b1), .val (.int (cf 0)), .val (.int (cf 1)), .val (.int (cf 2)), .unset, .unset, .unset, .unset, .unset, .unset, .unset, .unset, .unset, .unset] [(.int (Int32.ofNat n)), (.int (3 : Int32)), (.int p1)])) rfl (by rw [hml]; rfl) (argsL := [(.int p1), (.int (3 : Int32)), (.int (Int32.ofNat n))]) (rest := []) (lenOf pd_0 rfl) rfl (by show 2 * 0 + _ ≤ _; exact Nat.le_of_eq rfl) (hb hby at_39) (fun _ _ => ⟨rfl, e5q, (by decide : 1 + 0 ≤ _), (by decide : 6 + 0 ≤ _)⟩)
  dsimp only [Pt.U, Pt.locs, Pt.cells, Pt.slots] at X6 l6 y6 z6 st6 hQ6
  subst l6 y6 z6
  obtain ⟨rfl, N6q, e6q⟩ := hQ6
  have N6 := Fr.app N5 N6q
  obtain ⟨_, _, ⟨T7, L7, k7, n7⟩, -, X7, ⟨Lc7, hQ7, l7, y7, z7⟩, st7⟩ := Jvm.LawKit.callS X6 hx (y := (⟨"stillmark/PlacementIndicesPinLaw", "bit", "(III)I"⟩ : MethodName)) hown (mvT hZ (hw _ (List.mem_of_getElem? (i := 2) rfl))) (mvT hZ (hw _ (List.mem_of_getElem? (i := 3) rfl))) (mvT hZ (hw _ (List.mem_of_getElem? (i := 4) rfl))) (mvT hZ (hw _ (List.mem_of_getElem? (i := 5) rfl))) (by decide) (backOf (W := 0) (rm1 l Z a0 hw [] p1 (4 : Int32) (Int32.ofNat n) h1 n0 sz3 ) hZ (hw _ (List.mem_of_getElem? (i := 5) rfl)) (hw _ (List.mem_of_getElem? (i := 4) rfl)) (by decide) (by decide)) (g := (mkF m 47 #[.val (.int p1), .val (.int p2), .val (.int (Int32.ofNat n)), .val (.ref b1), .val (.int (cf 0)), .val (.int (cf 1)), .val (.int (cf 2)), .val (.int (cf 3)), .unset, .unset, .unset, .unset, .unset, .unset, .unset, .unset, .unset] [(.int (Int32.ofNat n)), (.int (4 : Int32)), (.int p1)])) rfl (by rw [hml]; rfl) (argsL := [(.int p1), (.int (4 : Int32)), (.int (Int32.ofNat n))]) (rest := []) (lenOf pd_0 rfl) rfl (by show 2 * 0 + _ ≤ _; exact Nat.le_of_eq rfl) (hb hby at_47) (fun _ _ => ⟨rfl, e6q, (by decide : 1 + 0 ≤ _), (by decide : 6 + 0 ≤ _)⟩)
  dsimp only [Pt.U, Pt.locs, Pt.cells, Pt.slots] at X7 l7 y7 z7 st7 hQ7
  subst l7 y7 z7
  obtain ⟨rfl, N7q, e7q⟩ := hQ7
  have N7 := Fr.app N6 N7q
  obtain ⟨_, _, ⟨T8, L8, k8, n8⟩, -, X8, ⟨Lc8, hQ8, l8, y8, z8⟩, st8⟩ := Jvm.LawKit.callS X7 hx (y := (⟨"stillmark/PlacementIndicesPinLaw", "bit", "(III)I"⟩ : MethodName)) hown (mvT hZ (hw _ (List.mem_of_getElem? (i := 2) rfl))) (mvT hZ (hw _ (List.mem_of_getElem? (i := 3) rfl))) (mvT hZ (hw _ (List.mem_of_getElem? (i := 4) rfl))) (mvT hZ (hw _ (List.mem_of_getElem? (i := 5) rfl))) (by decide) (backOf (W := 0) (rm1 l Z a0 hw [] p1 (5 : Int32) (Int32.ofNat n) h1 n0 sz3 ) hZ (hw _ (List.mem_of_getElem? (i := 5) rfl)) (hw _ (List.mem_of_getElem? (i := 4) rfl)) (by decide) (by decide)) (g := (mkF m 55 #[.val (.int p1), .val (.int p2), .val (.int (Int32.ofNat n)), .val (.ref b1), .val (.int (cf 0)), .val (.int (cf 1)), .val (.int (cf 2)), .val (.int (cf 3)), .val (.int (cf 4)), .unset, .unset, .unset, .unset, .unset, .unset, .unset, .unset] [(.int (Int32.ofNat n)), (.int (5 : Int32)), (.int p1)])) rfl (by rw [hml]; rfl) (argsL := [(.int p1), (.int (5 : Int32)), (.int (Int32.ofNat n))]) (rest := []) (lenOf pd_0 rfl) rfl (by show 2 * 0 + _ ≤ _; exact Nat.le_of_eq rfl) (hb hby at_55) (fun _ _ => ⟨rfl, e7q, (by decide : 1 + 0 ≤ _), (by decide : 6 + 0 ≤ _)⟩)
  dsimp only [Pt.U, Pt.locs, Pt.cells, Pt.slots] at X8 l8 y8 z8 st8 hQ8
  subst l8 y8 z8
  obtain ⟨rfl, N8q, e8q⟩ := hQ8
  have N8 := Fr.app N7 N8q
  have rc9 : Av Z h1 b1 .boolean n (own_b (own_upto cf 0)) := Av.congr (fun j _ => rfl) A_b1
  obtain ⟨T10, L10, h10, X10, e10, N10, K10, p10_1, st10⟩ := set0 p1 p2 n b1 (cf 0) (cf 1) (cf 2) (cf 3) (cf 4) (cf 5) cf X8 hx hZ hw hby hml hown e8q N8 sz3 rc9 g_b1 hn rfl (hbb 0)
  have sz12 : n0 ≤ h10.size := (Nat.le_trans sz3 K10.1)
  obtain ⟨T11, L11, h11, X11, e11, N11, K11, p11_1, st11⟩ := set1 p1 p2 n b1 (cf 0) (cf 1) (cf 2) (cf 3) (cf 4) (cf 5) cf X10 hx hZ hw hby hml hown e10 N10 sz12 p10_1 g_b1 hn rfl (hbb 1)
  have sz14 : n0 ≤ h11.size := (Nat.le_trans sz12 K11.1)
  obtain ⟨T13, L13, h13, X13, e13, N13, K13, p13_1, st13⟩ := set2 p1 p2 n b1 (cf 0) (cf 1) (cf 2) (cf 3) (cf 4) (cf 5) cf X11 hx hZ hw hby hml hown e11 N11 sz14 p11_1 g_b1 hn rfl (hbb 2)
  have sz16 : n0 ≤ h13.size := (Nat.le_trans sz14 K13.1)
  obtain ⟨T15, L15, h15, X15, e15, N15, K15, p15_1, st15⟩ := set3 p1 p2 n b1 (cf 0) (cf 1) (cf 2) (cf 3) (cf 4) (cf 5) cf X13 hx hZ hw hby hml hown e13 N13 sz16 p13_1 g_b1 hn rfl (hbb 3)
  have sz18 : n0 ≤ h15.size := (Nat.le_trans sz16 K15.1)
  obtain ⟨T17, L17, h17, X17, e17, N17, K17, p17_1, st17⟩ := set4 p1 p2 n b1 (cf 0) (cf 1) (cf 2) (cf 3) (cf 4) (cf 5) cf X15 hx hZ hw hby hml hown e15 N15 sz18 p15_1 g_b1 hn rfl (hbb 4)
  have sz20 : n0 ≤ h17.size := (Nat.le_trans sz18 K17.1)
  obtain ⟨T19, L19, h19, X19, e19, N19, K19, p19_1, st19⟩ := set5 p1 p2 n b1 (cf 0) (cf 1) (cf 2) (cf 3) (cf 4) (cf 5) cf X17 hx hZ hw hby hml hown e17 N17 sz20 p17_1 g_b1 hn rfl (hbb 5)
  have rc21 : Av Z h19 b1 .boolean n (own_b cf) := Av.congr (fun j hj => own_upto_end cf n hn j hj) p19_1
  have sz23 : n0 ≤ h19.size := (Nat.le_trans sz20 K19.1)
  obtain ⟨_, _, ⟨T22, L22, k22, n22⟩, -, X22, ⟨Lc22, hQ22, l22, y22, z22⟩, st22⟩ := Jvm.LawKit.callS X19 hx (y := (⟨"stillmark/Placement", "indices", "([Z)[I"⟩ : MethodName)) hown (mvT hZ (hw _ (List.mem_of_getElem? (i := 6) rfl))) (mvT hZ (hw _ (List.mem_of_getElem? (i := 7) rfl))) (mvT hZ (hw _ (List.mem_of_getElem? (i := 8) rfl))) (mvT hZ (hw _ (List.mem_of_getElem? (i := 9) rfl))) (by decide) (backOf (W := 0) (rm2 l Z a0 hw [] b1 n cf h19 n0 sz23 rc21 hn) hZ (hw _ (List.mem_of_getElem? (i := 9) rfl)) (hw _ (List.mem_of_getElem? (i := 8) rfl)) (by decide) (by decide)) (g := (mkF m 174 #[.val (.int p1), .val (.int p2), .val (.int (Int32.ofNat n)), .val (.ref b1), .val (.int (cf 0)), .val (.int (cf 1)), .val (.int (cf 2)), .val (.int (cf 3)), .val (.int (cf 4)), .val (.int (cf 5)), .unset, .unset, .unset, .unset, .unset, .unset, .unset] [(.ref b1)])) rfl (by rw [hml]; rfl) (argsL := [(.ref b1)]) (rest := []) (lenOf pd_1 rfl) rfl (by show 2 * 0 + _ ≤ _; exact Nat.le_of_eq rfl) (hb hby at_174) (fun _ _ => ⟨rfl, e19, (by decide : 1 + 1 ≤ _), (by decide : 6 + 6 ≤ _)⟩)
  dsimp only [Pt.U, Pt.locs, Pt.cells, Pt.slots] at X22 l22 y22 z22 st22 hQ22
  subst l22 y22 z22
  obtain ⟨b_e22, g_e22, rfl, N22q, K22, p22_1, hg_22⟩ := hQ22
  have N22 := Fr.app N19 N22q
  have htail : own_cnt cf 6 = own_cnt cf n := by
    obtain ⟨k, hk⟩ : ∃ k, 6 = n + k := ⟨6 - n, by omega⟩
    rw [hk]; exact own_cnt_tail cf n k (fun j h1 h2 => hout j h1 (by omega))
  have hN := Nat.le_trans (own_cnt_le cf n) hn
  have hc0 : cf 0 = Int32.ofNat (own_cnt cf 1) := by
    have := own_sum cf hbb 0
    rw [← this]; exact (Int32.zero_add _).symm
  obtain ⟨cl24, Ar24, S24, -⟩ := id p22_1
  have sz26 : n0 ≤ T22.heap.size := (Nat.le_trans sz23 K22.1)
  obtain ⟨_, _, ⟨T25, L25, k25, n25⟩, -, X25, ⟨Lc25, hQ25, l25, y25, z25⟩, st25⟩ := Jvm.LawKit.callS X22 hx (y := (⟨"stillmark/PlacementIndicesPinLaw", "at", "([IIII)Z"⟩ : MethodName)) hown (mvT hZ (hw _ (List.mem_of_getElem? (i := 11) rfl))) (mvT hZ (hw _ (List.mem_of_getElem? (i := 12) rfl))) (mvT hZ (hw _ (List.mem_of_getElem? (i := 4) rfl))) (mvT hZ (hw _ (List.mem_of_getElem? (i := 13) rfl))) (by decide) (backOf (W := 0) (rm3 l Z a0 hw [] b_e22 (0 : Int32) (cf 0) (own_cnt cf 0) (own_cnt cf n) g_e22 (T22.heap) n0 sz26 p22_1 (Nat.le_trans (own_cnt_le cf 0) (by decide)) hN ((Decidable.em (cf 0 = 0)).elim Or.inl fun hz => Or.inr ⟨hz, own_cnt_lt cf (Nat.lt_of_not_le fun u => hz (hout 0 u (by decide))) hz, hg_22 0 (Nat.lt_of_not_le fun u => hz (hout 0 u (by decide))) hz⟩)) hZ (hw _ (List.mem_of_getElem? (i := 13) rfl)) (hw _ (List.mem_of_getElem? (i := 4) rfl)) (by decide) (by decide)) (g := (mkF m 239 #[.val (.int p1), .val (.int p2), .val (.int (Int32.ofNat n)), .val (.ref b1), .val (.int (cf 0)), .val (.int (cf 1)), .val (.int (cf 2)), .val (.int (cf 3)), .val (.int (cf 4)), .val (.int (cf 5)), .val (.ref b_e22), .val (.int (Int32.ofNat (own_cnt cf 1))), .val (.int (Int32.ofNat (own_cnt cf 2))), .val (.int (Int32.ofNat (own_cnt cf 3))), .val (.int (Int32.ofNat (own_cnt cf 4))), .val (.int (Int32.ofNat (own_cnt cf 5))), .val (.int (Int32.ofNat (own_cnt cf 6)))] [(.int (0 : Int32)), (.int (cf 0)), (.int (0 : Int32)), (.ref b_e22)])) rfl (by rw [hml]; rfl) (argsL := [(.ref b_e22), (.int (0 : Int32)), (.int (cf 0)), (.int (0 : Int32))]) (rest := []) (lenOf pd_2 rfl) rfl (by show 2 * 0 + _ ≤ _; exact Nat.le_of_eq rfl) (hb hby at_239) (fun _ _ => ⟨rfl, rfl, (by decide : 2 + 0 ≤ _), (by decide : 12 + 0 ≤ _)⟩)
  dsimp only [Pt.U, Pt.locs, Pt.cells, Pt.slots] at X25 l25 y25 z25 st25 hQ25
  subst l25 y25 z25
  obtain ⟨rfl, N25q, e25q⟩ := hQ25
  have N25 := Fr.app N22 N25q
  obtain ⟨_, _, ⟨T27, L27, k27, n27⟩, -, X27, ⟨Lc27, hQ27, l27, y27, z27⟩, st27⟩ := Jvm.LawKit.callS X25 hx (y := (⟨"stillmark/PlacementIndicesPinLaw", "at", "([IIII)Z"⟩ : MethodName)) hown (mvT hZ (hw _ (List.mem_of_getElem? (i := 11) rfl))) (mvT hZ (hw _ (List.mem_of_getElem? (i := 12) rfl))) (mvT hZ (hw _ (List.mem_of_getElem? (i := 4) rfl))) (mvT hZ (hw _ (List.mem_of_getElem? (i := 13) rfl))) (by decide) (backOf (W := 0) (rm3 l Z a0 hw [] b_e22 (1 : Int32) (cf 1) (own_cnt cf 1) (own_cnt cf n) g_e22 (T22.heap) n0 sz26 p22_1 (Nat.le_trans (own_cnt_le cf 1) (by decide)) hN ((Decidable.em (cf 1 = 0)).elim Or.inl fun hz => Or.inr ⟨hz, own_cnt_lt cf (Nat.lt_of_not_le fun u => hz (hout 1 u (by decide))) hz, hg_22 1 (Nat.lt_of_not_le fun u => hz (hout 1 u (by decide))) hz⟩)) hZ (hw _ (List.mem_of_getElem? (i := 13) rfl)) (hw _ (List.mem_of_getElem? (i := 4) rfl)) (by decide) (by decide)) (g := (mkF m 252 #[.val (.int p1), .val (.int p2), .val (.int (Int32.ofNat n)), .val (.ref b1), .val (.int (cf 0)), .val (.int (cf 1)), .val (.int (cf 2)), .val (.int (cf 3)), .val (.int (cf 4)), .val (.int (cf 5)), .val (.ref b_e22), .val (.int (Int32.ofNat (own_cnt cf 1))), .val (.int (Int32.ofNat (own_cnt cf 2))), .val (.int (Int32.ofNat (own_cnt cf 3))), .val (.int (Int32.ofNat (own_cnt cf 4))), .val (.int (Int32.ofNat (own_cnt cf 5))), .val (.int (Int32.ofNat (own_cnt cf 6)))] [(.int (Int32.ofNat (own_cnt cf 1))), (.int (cf 1)), (.int (1 : Int32)), (.ref b_e22)])) rfl (by rw [hml]; rfl) (argsL := [(.ref b_e22), (.int (1 : Int32)), (.int (cf 1)), (.int (Int32.ofNat (own_cnt cf 1)))]) (rest := []) (lenOf pd_2 rfl) rfl (by show 2 * 0 + _ ≤ _; exact Nat.le_of_eq rfl) (hb hby at_252) (fun _ _ => ⟨rfl, e25q, (by decide : 2 + 0 ≤ _), (by decide : 12 + 0 ≤ _)⟩)
  dsimp only [Pt.U, Pt.locs, Pt.cells, Pt.slots] at X27 l27 y27 z27 st27 hQ27
  subst l27 y27 z27
  obtain ⟨rfl, N27q, e27q⟩ := hQ27
  have N27 := Fr.app N25 N27q
  obtain ⟨_, _, ⟨T28, L28, k28, n28⟩, -, X28, ⟨Lc28, hQ28, l28, y28, z28⟩, st28⟩ := Jvm.LawKit.callS X27 hx (y := (⟨"stillmark/PlacementIndicesPinLaw", "at", "([IIII)Z"⟩ : MethodName)) hown (mvT hZ (hw _ (List.mem_of_getElem? (i := 11) rfl))) (mvT hZ (hw _ (List.mem_of_getElem? (i := 12) rfl))) (mvT hZ (hw _ (List.mem_of_getElem? (i := 4) rfl))) (mvT hZ (hw _ (List.mem_of_getElem? (i := 13) rfl))) (by decide) (backOf (W := 0) (rm3 l Z a0 hw [] b_e22 (2 : Int32) (cf 2) (own_cnt cf 2) (own_cnt cf n) g_e22 (T22.heap) n0 sz26 p22_1 (Nat.le_trans (own_cnt_le cf 2) (by decide)) hN ((Decidable.em (cf 2 = 0)).elim Or.inl fun hz => Or.inr ⟨hz, own_cnt_lt cf (Nat.lt_of_not_le fun u => hz (hout 2 u (by decide))) hz, hg_22 2 (Nat.lt_of_not_le fun u => hz (hout 2 u (by decide))) hz⟩)) hZ (hw _ (List.mem_of_getElem? (i := 13) rfl)) (hw _ (List.mem_of_getElem? (i := 4) rfl)) (by decide) (by decide)) (g := (mkF m 265 #[.val (.int p1), .val (.int p2), .val (.int (Int32.ofNat n)), .val (.ref b1), .val (.int (cf 0)), .val (.int (cf 1)), .val (.int (cf 2)), .val (.int (cf 3)), .val (.int (cf 4)), .val (.int (cf 5)), .val (.ref b_e22), .val (.int (Int32.ofNat (own_cnt cf 1))), .val (.int (Int32.ofNat (own_cnt cf 2))), .val (.int (Int32.ofNat (own_cnt cf 3))), .val (.int (Int32.ofNat (own_cnt cf 4))), .val (.int (Int32.ofNat (own_cnt cf 5))), .val (.int (Int32.ofNat (own_cnt cf 6)))] [(.int (Int32.ofNat (own_cnt cf 2))), (.int (cf 2)), (.int (2 : Int32)), (.ref b_e22)])) rfl (by rw [hml]; rfl) (argsL := [(.ref b_e22), (.int (2 : Int32)), (.int (cf 2)), (.int (Int32.ofNat (own_cnt cf 2)))]) (rest := []) (lenOf pd_2 rfl) rfl (by show 2 * 0 + _ ≤ _; exact Nat.le_of_eq rfl) (hb hby at_265) (fun _ _ => ⟨rfl, e27q, (by decide : 2 + 0 ≤ _), (by decide : 12 + 0 ≤ _)⟩)
  dsimp only [Pt.U, Pt.locs, Pt.cells, Pt.slots] at X28 l28 y28 z28 st28 hQ28
  subst l28 y28 z28
  obtain ⟨rfl, N28q, e28q⟩ := hQ28
  have N28 := Fr.app N27 N28q
  obtain ⟨_, _, ⟨T29, L29, k29, n29⟩, -, X29, ⟨Lc29, hQ29, l29, y29, z29⟩, st29⟩ := Jvm.LawKit.callS X28 hx (y := (⟨"stillmark/PlacementIndicesPinLaw", "at", "([IIII)Z"⟩ : MethodName)) hown (mvT hZ (hw _ (List.mem_of_getElem? (i := 11) rfl))) (mvT hZ (hw _ (List.mem_of_getElem? (i := 12) rfl))) (mvT hZ (hw _ (List.mem_of_getElem? (i := 4) rfl))) (mvT hZ (hw _ (List.mem_of_getElem? (i := 13) rfl))) (by decide) (backOf (W := 0) (rm3 l Z a0 hw [] b_e22 (3 : Int32) (cf 3) (own_cnt cf 3) (own_cnt cf n) g_e22 (T22.heap) n0 sz26 p22_1 (Nat.le_trans (own_cnt_le cf 3) (by decide)) hN ((Decidable.em (cf 3 = 0)).elim Or.inl fun hz => Or.inr ⟨hz, own_cnt_lt cf (Nat.lt_of_not_le fun u => hz (hout 3 u (by decide))) hz, hg_22 3 (Nat.lt_of_not_le fun u => hz (hout 3 u (by decide))) hz⟩)) hZ (hw _ (List.mem_of_getElem? (i := 13) rfl)) (hw _ (List.mem_of_getElem? (i := 4) rfl)) (by decide) (by decide)) (g := (mkF m 278 #[.val (.int p1), .val (.int p2), .val (.int (Int32.ofNat n)), .val (.ref b1), .val (.int (cf 0)), .val (.int (cf 1)), .val (.int (cf 2)), .val (.int (cf 3)), .val (.int (cf 4)), .val (.int (cf 5)), .val (.ref b_e22), .val (.int (Int32.ofNat (own_cnt cf 1))), .val (.int (Int32.ofNat (own_cnt cf 2))), .val (.int (Int32.ofNat (own_cnt cf 3))), .val (.int (Int32.ofNat (own_cnt cf 4))), .val (.int (Int32.ofNat (own_cnt cf 5))), .val (.int (Int32.ofNat (own_cnt cf 6)))] [(.int (Int32.ofNat (own_cnt cf 3))), (.int (cf 3)), (.int (3 : Int32)), (.ref b_e22)])) rfl (by rw [hml]; rfl) (argsL := [(.ref b_e22), (.int (3 : Int32)), (.int (cf 3)), (.int (Int32.ofNat (own_cnt cf 3)))]) (rest := []) (lenOf pd_2 rfl) rfl (by show 2 * 0 + _ ≤ _; exact Nat.le_of_eq rfl) (hb hby at_278) (fun _ _ => ⟨rfl, e28q, (by decide : 2 + 0 ≤ _), (by decide : 12 + 0 ≤ _)⟩)
  dsimp only [Pt.U, Pt.locs, Pt.cells, Pt.slots] at X29 l29 y29 z29 st29 hQ29
  subst l29 y29 z29
  obtain ⟨rfl, N29q, e29q⟩ := hQ29
  have N29 := Fr.app N28 N29q
  obtain ⟨_, _, ⟨T30, L30, k30, n30⟩, -, X30, ⟨Lc30, hQ30, l30, y30, z30⟩, st30⟩ := Jvm.LawKit.callS X29 hx (y := (⟨"stillmark/PlacementIndicesPinLaw", "at", "([IIII)Z"⟩ : MethodName)) hown (mvT hZ (hw _ (List.mem_of_getElem? (i := 11) rfl))) (mvT hZ (hw _ (List.mem_of_getElem? (i := 12) rfl))) (mvT hZ (hw _ (List.mem_of_getElem? (i := 4) rfl))) (mvT hZ (hw _ (List.mem_of_getElem? (i := 13) rfl))) (by decide) (backOf (W := 0) (rm3 l Z a0 hw [] b_e22 (4 : Int32) (cf 4) (own_cnt cf 4) (own_cnt cf n) g_e22 (T22.heap) n0 sz26 p22_1 (Nat.le_trans (own_cnt_le cf 4) (by decide)) hN ((Decidable.em (cf 4 = 0)).elim Or.inl fun hz => Or.inr ⟨hz, own_cnt_lt cf (Nat.lt_of_not_le fun u => hz (hout 4 u (by decide))) hz, hg_22 4 (Nat.lt_of_not_le fun u => hz (hout 4 u (by decide))) hz⟩)) hZ (hw _ (List.mem_of_getElem? (i := 13) rfl)) (hw _ (List.mem_of_getElem? (i := 4) rfl)) (by decide) (by decide)) (g := (mkF m 291 #[.val (.int p1), .val (.int p2), .val (.int (Int32.ofNat n)), .val (.ref b1), .val (.int (cf 0)), .val (.int (cf 1)), .val (.int (cf 2)), .val (.int (cf 3)), .val (.int (cf 4)), .val (.int (cf 5)), .val (.ref b_e22), .val (.int (Int32.ofNat (own_cnt cf 1))), .val (.int (Int32.ofNat (own_cnt cf 2))), .val (.int (Int32.ofNat (own_cnt cf 3))), .val (.int (Int32.ofNat (own_cnt cf 4))), .val (.int (Int32.ofNat (own_cnt cf 5))), .val (.int (Int32.ofNat (own_cnt cf 6)))] [(.int (Int32.ofNat (own_cnt cf 4))), (.int (cf 4)), (.int (4 : Int32)), (.ref b_e22)])) rfl (by rw [hml]; rfl) (argsL := [(.ref b_e22), (.int (4 : Int32)), (.int (cf 4)), (.int (Int32.ofNat (own_cnt cf 4)))]) (rest := []) (lenOf pd_2 rfl) rfl (by show 2 * 0 + _ ≤ _; exact Nat.le_of_eq rfl) (hb hby at_291) (fun _ _ => ⟨rfl, e29q, (by decide : 2 + 0 ≤ _), (by decide : 12 + 0 ≤ _)⟩)
  dsimp only [Pt.U, Pt.locs, Pt.cells, Pt.slots] at X30 l30 y30 z30 st30 hQ30
  subst l30 y30 z30
  obtain ⟨rfl, N30q, e30q⟩ := hQ30
  have N30 := Fr.app N29 N30q
  obtain ⟨_, _, ⟨T31, L31, k31, n31⟩, -, X31, ⟨Lc31, hQ31, l31, y31, z31⟩, st31⟩ := Jvm.LawKit.callS X30 hx (y := (⟨"stillmark/PlacementIndicesPinLaw", "at", "([IIII)Z"⟩ : MethodName)) hown (mvT hZ (hw _ (List.mem_of_getElem? (i := 11) rfl))) (mvT hZ (hw _ (List.mem_of_getElem? (i := 12) rfl))) (mvT hZ (hw _ (List.mem_of_getElem? (i := 4) rfl))) (mvT hZ (hw _ (List.mem_of_getElem? (i := 13) rfl))) (by decide) (backOf (W := 0) (rm3 l Z a0 hw [] b_e22 (5 : Int32) (cf 5) (own_cnt cf 5) (own_cnt cf n) g_e22 (T22.heap) n0 sz26 p22_1 (Nat.le_trans (own_cnt_le cf 5) (by decide)) hN ((Decidable.em (cf 5 = 0)).elim Or.inl fun hz => Or.inr ⟨hz, own_cnt_lt cf (Nat.lt_of_not_le fun u => hz (hout 5 u (by decide))) hz, hg_22 5 (Nat.lt_of_not_le fun u => hz (hout 5 u (by decide))) hz⟩)) hZ (hw _ (List.mem_of_getElem? (i := 13) rfl)) (hw _ (List.mem_of_getElem? (i := 4) rfl)) (by decide) (by decide)) (g := (mkF m 304 #[.val (.int p1), .val (.int p2), .val (.int (Int32.ofNat n)), .val (.ref b1), .val (.int (cf 0)), .val (.int (cf 1)), .val (.int (cf 2)), .val (.int (cf 3)), .val (.int (cf 4)), .val (.int (cf 5)), .val (.ref b_e22), .val (.int (Int32.ofNat (own_cnt cf 1))), .val (.int (Int32.ofNat (own_cnt cf 2))), .val (.int (Int32.ofNat (own_cnt cf 3))), .val (.int (Int32.ofNat (own_cnt cf 4))), .val (.int (Int32.ofNat (own_cnt cf 5))), .val (.int (Int32.ofNat (own_cnt cf 6)))] [(.int (Int32.ofNat (own_cnt cf 5))), (.int (cf 5)), (.int (5 : Int32)), (.ref b_e22)])) rfl (by rw [hml]; rfl) (argsL := [(.ref b_e22), (.int (5 : Int32)), (.int (cf 5)), (.int (Int32.ofNat (own_cnt cf 5)))]) (rest := []) (lenOf pd_2 rfl) rfl (by show 2 * 0 + _ ≤ _; exact Nat.le_of_eq rfl) (hb hby at_304) (fun _ _ => ⟨rfl, e30q, (by decide : 2 + 0 ≤ _), (by decide : 12 + 0 ≤ _)⟩)
  dsimp only [Pt.U, Pt.locs, Pt.cells, Pt.slots] at X31 l31 y31 z31 st31 hQ31
  subst l31 y31 z31
  obtain ⟨rfl, N31q, e31q⟩ := hQ31
  have N31 := Fr.app N30 N31q
  obtain ⟨fs, hr, hrun, hended, hW, hsame⟩ := X31.leave (v := some (.int (1 : Int32))) (fun h => by rw [Bd.returns] at h; cases h)
  refine ⟨_, _, pre0 _ ?_, hrun, hended, _, _, rfl, ?_, ⟨_, rfl⟩, hW, hsame.mono (by decide) (by decide)⟩
  · show Steps p.tables e below (s₁.setTop (mkF m 0 #[.val (.int p1), .val (.int p2), .unset, .unset, .unset, .unset, .unset, .unset, .unset, .unset, .unset, .unset, .unset, .unset, .unset, .unset, .unset] [])) _
    refine XS.iloadN X0.here hx rfl (hb hby at_0) rfl ?_
    show Steps p.tables e below (s₁.setTop (mkF m 1 #[.val (.int p1), .val (.int p2), .unset, .unset, .unset, .unset, .unset, .unset, .unset, .unset, .unset, .unset, .unset, .unset, .unset, .unset, .unset] [(.int p2)])) _
    refine X0.ldcInt hx hown (mvT hZ (hw _ (List.mem_of_getElem? (i := 0) rfl))) (g := (mkF m 1 #[.val (.int p1), .val (.int p2), .unset, .unset, .unset, .unset, .unset, .unset, .unset, .unset, .unset, .unset, .unset, .unset, .unset, .unset, .unset] [(.int p2)])) rfl (hb hby at_1) _ ?_
    show Steps p.tables e below (s₁.setTop (mkF m 3 #[.val (.int p1), .val (.int p2), .unset, .unset, .unset, .unset, .unset, .unset, .unset, .unset, .unset, .unset, .unset, .unset, .unset, .unset, .unset] [(.int (2147483647 : Int32)), (.int p2)])) _
    refine XS.iand X0.here hx rfl (hb hby at_3) rfl ?_
    show Steps p.tables e below (s₁.setTop (mkF m 4 #[.val (.int p1), .val (.int p2), .unset, .unset, .unset, .unset, .unset, .unset, .unset, .unset, .unset, .unset, .unset, .unset, .unset, .unset, .unset] [(.int (p2 &&& (2147483647 : Int32)))])) _
    refine XS.bipush X0.here hx rfl (hb hby at_4) ?_
    show Steps p.tables e below (s₁.setTop (mkF m 6 #[.val (.int p1), .val (.int p2), .unset, .unset, .unset, .unset, .unset, .unset, .unset, .unset, .unset, .unset, .unset, .unset, .unset, .unset, .unset] [(.int (7 : Int32)), (.int (p2 &&& (2147483647 : Int32)))])) _
    refine XS.irem X0.here hx rfl (hb hby at_6) rfl (by decide) ?_
    show Steps p.tables e below (s₁.setTop (mkF m 7 #[.val (.int p1), .val (.int p2), .unset, .unset, .unset, .unset, .unset, .unset, .unset, .unset, .unset, .unset, .unset, .unset, .unset, .unset, .unset] [(.int ((p2 &&& (2147483647 : Int32)) - ((p2 &&& (2147483647 : Int32)) / (7 : Int32)) * (7 : Int32)))])) _
    rw [hlen]
    show Steps p.tables e below (s₁.setTop (mkF m 7 #[.val (.int p1), .val (.int p2), .unset, .unset, .unset, .unset, .unset, .unset, .unset, .unset, .unset, .unset, .unset, .unset, .unset, .unset, .unset] [(.int (Int32.ofNat n))])) _
    refine XS.istoreN X0.here hx rfl (hb hby at_7) rfl (l' := #[.val (.int p1), .val (.int p2), .val (.int (Int32.ofNat n)), .unset, .unset, .unset, .unset, .unset, .unset, .unset, .unset, .unset, .unset, .unset, .unset, .unset, .unset]) rfl ?_
    show Steps p.tables e below (s₁.setTop (mkF m 8 #[.val (.int p1), .val (.int p2), .val (.int (Int32.ofNat n)), .unset, .unset, .unset, .unset, .unset, .unset, .unset, .unset, .unset, .unset, .unset, .unset, .unset, .unset] [])) _
    refine XS.iloadN X0.here hx rfl (hb hby at_8) rfl ?_
    show Steps p.tables e below (s₁.setTop (mkF m 9 #[.val (.int p1), .val (.int p2), .val (.int (Int32.ofNat n)), .unset, .unset, .unset, .unset, .unset, .unset, .unset, .unset, .unset, .unset, .unset, .unset, .unset, .unset] [(.int (Int32.ofNat n))])) _
    refine st1 _ ?_
    show Steps p.tables e below (T1.setTop (mkF m 11 #[.val (.int p1), .val (.int p2), .val (.int (Int32.ofNat n)), .unset, .unset, .unset, .unset, .unset, .unset, .unset, .unset, .unset, .unset, .unset, .unset, .unset, .unset] [(.ref b1)])) _
    refine XS.astoreN X1.here hx rfl (hb hby at_11) rfl rfl (l' := #[.val (.int p1), .val (.int p2), .val (.int (Int32.ofNat n)), .val (.ref b1), .unset, .unset, .unset, .unset, .unset, .unset, .unset, .unset, .unset, .unset, .unset, .unset, .unset]) rfl ?_
    show Steps p.tables e below (T1.setTop (mkF m 12 #[.val (.int p1), .val (.int p2), .val (.int (Int32.ofNat n)), .val (.ref b1), .unset, .unset, .unset, .unset, .unset, .unset, .unset, .unset, .unset, .unset, .unset, .unset, .unset] [])) _
    refine XS.iloadN X1.here hx rfl (hb hby at_12) rfl ?_
    show Steps p.tables e below (T1.setTop (mkF m 13 #[.val (.int p1), .val (.int p2), .val (.int (Int32.ofNat n)), .val (.ref b1), .unset, .unset, .unset, .unset, .unset, .unset, .unset, .unset, .unset, .unset, .unset, .unset, .unset] [(.int p1)])) _
    refine XS.iconst X1.here hx rfl (hb hby at_13) ?_
    show Steps p.tables e below (T1.setTop (mkF m 14 #[.val (.int p1), .val (.int p2), .val (.int (Int32.ofNat n)), .val (.ref b1), .unset, .unset, .unset, .unset, .unset, .unset, .unset, .unset, .unset, .unset, .unset, .unset, .unset] [(.int (0 : Int32)), (.int p1)])) _
    refine XS.iloadN X1.here hx rfl (hb hby at_14) rfl ?_
    show Steps p.tables e below (T1.setTop (mkF m 15 #[.val (.int p1), .val (.int p2), .val (.int (Int32.ofNat n)), .val (.ref b1), .unset, .unset, .unset, .unset, .unset, .unset, .unset, .unset, .unset, .unset, .unset, .unset, .unset] [(.int (Int32.ofNat n)), (.int (0 : Int32)), (.int p1)])) _
    refine st2 _ ?_
    show Steps p.tables e below (T2.setTop (mkF m 18 #[.val (.int p1), .val (.int p2), .val (.int (Int32.ofNat n)), .val (.ref b1), .unset, .unset, .unset, .unset, .unset, .unset, .unset, .unset, .unset, .unset, .unset, .unset, .unset] [(.int (own_bitv p1 (0 : Int32) (Int32.ofNat n)))])) _
    rw [show (own_bitv p1 (0 : Int32) (Int32.ofNat n)) = cf 0 from by rw [h_cf]; rfl]
    show Steps p.tables e below (T2.setTop (mkF m 18 #[.val (.int p1), .val (.int p2), .val (.int (Int32.ofNat n)), .val (.ref b1), .unset, .unset, .unset, .unset, .unset, .unset, .unset, .unset, .unset, .unset, .unset, .unset, .unset] [(.int (cf 0))])) _
    refine XS.istore X2.here hx rfl (hb hby at_18) rfl (l' := #[.val (.int p1), .val (.int p2), .val (.int (Int32.ofNat n)), .val (.ref b1), .val (.int (cf 0)), .unset, .unset, .unset, .unset, .unset, .unset, .unset, .unset, .unset, .unset, .unset, .unset]) rfl ?_
    show Steps p.tables e below (T2.setTop (mkF m 20 #[.val (.int p1), .val (.int p2), .val (.int (Int32.ofNat n)), .val (.ref b1), .val (.int (cf 0)), .unset, .unset, .unset, .unset, .unset, .unset, .unset, .unset, .unset, .unset, .unset, .unset] [])) _
    refine XS.iloadN X2.here hx rfl (hb hby at_20) rfl ?_
    show Steps p.tables e below (T2.setTop (mkF m 21 #[.val (.int p1), .val (.int p2), .val (.int (Int32.ofNat n)), .val (.ref b1), .val (.int (cf 0)), .unset, .unset, .unset, .unset, .unset, .unset, .unset, .unset, .unset, .unset, .unset, .unset] [(.int p1)])) _
    refine XS.iconst X2.here hx rfl (hb hby at_21) ?_
    show Steps p.tables e below (T2.setTop (mkF m 22 #[.val (.int p1), .val (.int p2), .val (.int (Int32.ofNat n)), .val (.ref b1), .val (.int (cf 0)), .unset, .unset, .unset, .unset, .unset, .unset, .unset, .unset, .unset, .unset, .unset, .unset] [(.int (1 : Int32)), (.int p1)])) _
    refine XS.iloadN X2.here hx rfl (hb hby at_22) rfl ?_
    show Steps p.tables e below (T2.setTop (mkF m 23 #[.val (.int p1), .val (.int p2), .val (.int (Int32.ofNat n)), .val (.ref b1), .val (.int (cf 0)), .unset, .unset, .unset, .unset, .unset, .unset, .unset, .unset, .unset, .unset, .unset, .unset] [(.int (Int32.ofNat n)), (.int (1 : Int32)), (.int p1)])) _
    refine st4 _ ?_
    show Steps p.tables e below (T4.setTop (mkF m 26 #[.val (.int p1), .val (.int p2), .val (.int (Int32.ofNat n)), .val (.ref b1), .val (.int (cf 0)), .unset, .unset, .unset, .unset, .unset, .unset, .unset, .unset, .unset, .unset, .unset, .unset] [(.int (own_bitv p1 (1 : Int32) (Int32.ofNat n)))])) _
    rw [show (own_bitv p1 (1 : Int32) (Int32.ofNat n)) = cf 1 from by rw [h_cf]; rfl]
    show Steps p.tables e below (T4.setTop (mkF m 26 #[.val (.int p1), .val (.int p2), .val (.int (Int32.ofNat n)), .val (.ref b1), .val (.int (cf 0)), .unset, .unset, .unset, .unset, .unset, .unset, .unset, .unset, .unset, .unset, .unset, .unset] [(.int (cf 1))])) _
    refine XS.istore X4.here hx rfl (hb hby at_26) rfl (l' := #[.val (.int p1), .val (.int p2), .val (.int (Int32.ofNat n)), .val (.ref b1), .val (.int (cf 0)), .val (.int (cf 1)), .unset, .unset, .unset, .unset, .unset, .unset, .unset, .unset, .unset, .unset, .unset]) rfl ?_
    show Steps p.tables e below (T4.setTop (mkF m 28 #[.val (.int p1), .val (.int p2), .val (.int (Int32.ofNat n)), .val (.ref b1), .val (.int (cf 0)), .val (.int (cf 1)), .unset, .unset, .unset, .unset, .unset, .unset, .unset, .unset, .unset, .unset, .unset] [])) _
    refine XS.iloadN X4.here hx rfl (hb hby at_28) rfl ?_
    show Steps p.tables e below (T4.setTop (mkF m 29 #[.val (.int p1), .val (.int p2), .val (.int (Int32.ofNat n)), .val (.ref b1), .val (.int (cf 0)), .val (.int (cf 1)), .unset, .unset, .unset, .unset, .unset, .unset, .unset, .unset, .unset, .unset, .unset] [(.int p1)])) _
    refine XS.iconst X4.here hx rfl (hb hby at_29) ?_
    show Steps p.tables e below (T4.setTop (mkF m 30 #[.val (.int p1), .val (.int p2), .val (.int (Int32.ofNat n)), .val (.ref b1), .val (.int (cf 0)), .val (.int (cf 1)), .unset, .unset, .unset, .unset, .unset, .unset, .unset, .unset, .unset, .unset, .unset] [(.int (2 : Int32)), (.int p1)])) _
    refine XS.iloadN X4.here hx rfl (hb hby at_30) rfl ?_
    show Steps p.tables e below (T4.setTop (mkF m 31 #[.val (.int p1), .val (.int p2), .val (.int (Int32.ofNat n)), .val (.ref b1), .val (.int (cf 0)), .val (.int (cf 1)), .unset, .unset, .unset, .unset, .unset, .unset, .unset, .unset, .unset, .unset, .unset] [(.int (Int32.ofNat n)), (.int (2 : Int32)), (.int p1)])) _
    refine st5 _ ?_
    show Steps p.tables e below (T5.setTop (mkF m 34 #[.val (.int p1), .val (.int p2), .val (.int (Int32.ofNat n)), .val (.ref b1), .val (.int (cf 0)), .val (.int (cf 1)), .unset, .unset, .unset, .unset, .unset, .unset, .unset, .unset, .unset, .unset, .unset] [(.int (own_bitv p1 (2 : Int32) (Int32.ofNat n)))])) _
    rw [show (own_bitv p1 (2 : Int32) (Int32.ofNat n)) = cf 2 from by rw [h_cf]; rfl]
    show Steps p.tables e below (T5.setTop (mkF m 34 #[.val (.int p1), .val (.int p2), .val (.int (Int32.ofNat n)), .val (.ref b1), .val (.int (cf 0)), .val (.int (cf 1)), .unset, .unset, .unset, .unset, .unset, .unset, .unset, .unset, .unset, .unset, .unset] [(.int (cf 2))])) _
    refine XS.istore X5.here hx rfl (hb hby at_34) rfl (l' := #[.val (.int p1), .val (.int p2), .val (.int (Int32.ofNat n)), .val (.ref b1), .val (.int (cf 0)), .val (.int (cf 1)), .val (.int (cf 2)), .unset, .unset, .unset, .unset, .unset, .unset, .unset, .unset, .unset, .unset]) rfl ?_
    show Steps p.tables e below (T5.setTop (mkF m 36 #[.val (.int p1), .val (.int p2), .val (.int (Int32.ofNat n)), .val (.ref b1), .val (.int (cf 0)), .val (.int (cf 1)), .val (.int (cf 2)), .unset, .unset, .unset, .unset, .unset, .unset, .unset, .unset, .unset, .unset] [])) _
    refine XS.iloadN X5.here hx rfl (hb hby at_36) rfl ?_
    show Steps p.tables e below (T5.setTop (mkF m 37 #[.val (.int p1), .val (.int p2), .val (.int (Int32.ofNat n)), .val (.ref b1), .val (.int (cf 0)), .val (.int (cf 1)), .val (.int (cf 2)), .unset, .unset, .unset, .unset, .unset, .unset, .unset, .unset, .unset, .unset] [(.int p1)])) _
    refine XS.iconst X5.here hx rfl (hb hby at_37) ?_
    show Steps p.tables e below (T5.setTop (mkF m 38 #[.val (.int p1), .val (.int p2), .val (.int (Int32.ofNat n)), .val (.ref b1), .val (.int (cf 0)), .val (.int (cf 1)), .val (.int (cf 2)), .unset, .unset, .unset, .unset, .unset, .unset, .unset, .unset, .unset, .unset] [(.int (3 : Int32)), (.int p1)])) _
    refine XS.iloadN X5.here hx rfl (hb hby at_38) rfl ?_
    show Steps p.tables e below (T5.setTop (mkF m 39 #[.val (.int p1), .val (.int p2), .val (.int (Int32.ofNat n)), .val (.ref b1), .val (.int (cf 0)), .val (.int (cf 1)), .val (.int (cf 2)), .unset, .unset, .unset, .unset, .unset, .unset, .unset, .unset, .unset, .unset] [(.int (Int32.ofNat n)), (.int (3 : Int32)), (.int p1)])) _
    refine st6 _ ?_
    show Steps p.tables e below (T6.setTop (mkF m 42 #[.val (.int p1), .val (.int p2), .val (.int (Int32.ofNat n)), .val (.ref b1), .val (.int (cf 0)), .val (.int (cf 1)), .val (.int (cf 2)), .unset, .unset, .unset, .unset, .unset, .unset, .unset, .unset, .unset, .unset] [(.int (own_bitv p1 (3 : Int32) (Int32.ofNat n)))])) _
    rw [show (own_bitv p1 (3 : Int32) (Int32.ofNat n)) = cf 3 from by rw [h_cf]; rfl]
    show Steps p.tables e below (T6.setTop (mkF m 42 #[.val (.int p1), .val (.int p2), .val (.int (Int32.ofNat n)), .val (.ref b1), .val (.int (cf 0)), .val (.int (cf 1)), .val (.int (cf 2)), .unset, .unset, .unset, .unset, .unset, .unset, .unset, .unset, .unset, .unset] [(.int (cf 3))])) _
    refine XS.istore X6.here hx rfl (hb hby at_42) rfl (l' := #[.val (.int p1), .val (.int p2), .val (.int (Int32.ofNat n)), .val (.ref b1), .val (.int (cf 0)), .val (.int (cf 1)), .val (.int (cf 2)), .val (.int (cf 3)), .unset, .unset, .unset, .unset, .unset, .unset, .unset, .unset, .unset]) rfl ?_
    show Steps p.tables e below (T6.setTop (mkF m 44 #[.val (.int p1), .val (.int p2), .val (.int (Int32.ofNat n)), .val (.ref b1), .val (.int (cf 0)), .val (.int (cf 1)), .val (.int (cf 2)), .val (.int (cf 3)), .unset, .unset, .unset, .unset, .unset, .unset, .unset, .unset, .unset] [])) _
    refine XS.iloadN X6.here hx rfl (hb hby at_44) rfl ?_
    show Steps p.tables e below (T6.setTop (mkF m 45 #[.val (.int p1), .val (.int p2), .val (.int (Int32.ofNat n)), .val (.ref b1), .val (.int (cf 0)), .val (.int (cf 1)), .val (.int (cf 2)), .val (.int (cf 3)), .unset, .unset, .unset, .unset, .unset, .unset, .unset, .unset, .unset] [(.int p1)])) _
    refine XS.iconst X6.here hx rfl (hb hby at_45) ?_
    show Steps p.tables e below (T6.setTop (mkF m 46 #[.val (.int p1), .val (.int p2), .val (.int (Int32.ofNat n)), .val (.ref b1), .val (.int (cf 0)), .val (.int (cf 1)), .val (.int (cf 2)), .val (.int (cf 3)), .unset, .unset, .unset, .unset, .unset, .unset, .unset, .unset, .unset] [(.int (4 : Int32)), (.int p1)])) _
    refine XS.iloadN X6.here hx rfl (hb hby at_46) rfl ?_
    show Steps p.tables e below (T6.setTop (mkF m 47 #[.val (.int p1), .val (.int p2), .val (.int (Int32.ofNat n)), .val (.ref b1), .val (.int (cf 0)), .val (.int (cf 1)), .val (.int (cf 2)), .val (.int (cf 3)), .unset, .unset, .unset, .unset, .unset, .unset, .unset, .unset, .unset] [(.int (Int32.ofNat n)), (.int (4 : Int32)), (.int p1)])) _
    refine st7 _ ?_
    show Steps p.tables e below (T7.setTop (mkF m 50 #[.val (.int p1), .val (.int p2), .val (.int (Int32.ofNat n)), .val (.ref b1), .val (.int (cf 0)), .val (.int (cf 1)), .val (.int (cf 2)), .val (.int (cf 3)), .unset, .unset, .unset, .unset, .unset, .unset, .unset, .unset, .unset] [(.int (own_bitv p1 (4 : Int32) (Int32.ofNat n)))])) _
    rw [show (own_bitv p1 (4 : Int32) (Int32.ofNat n)) = cf 4 from by rw [h_cf]; rfl]
    show Steps p.tables e below (T7.setTop (mkF m 50 #[.val (.int p1), .val (.int p2), .val (.int (Int32.ofNat n)), .val (.ref b1), .val (.int (cf 0)), .val (.int (cf 1)), .val (.int (cf 2)), .val (.int (cf 3)), .unset, .unset, .unset, .unset, .unset, .unset, .unset, .unset, .unset] [(.int (cf 4))])) _
    refine XS.istore X7.here hx rfl (hb hby at_50) rfl (l' := #[.val (.int p1), .val (.int p2), .val (.int (Int32.ofNat n)), .val (.ref b1), .val (.int (cf 0)), .val (.int (cf 1)), .val (.int (cf 2)), .val (.int (cf 3)), .val (.int (cf 4)), .unset, .unset, .unset, .unset, .unset, .unset, .unset, .unset]) rfl ?_
    show Steps p.tables e below (T7.setTop (mkF m 52 #[.val (.int p1), .val (.int p2), .val (.int (Int32.ofNat n)), .val (.ref b1), .val (.int (cf 0)), .val (.int (cf 1)), .val (.int (cf 2)), .val (.int (cf 3)), .val (.int (cf 4)), .unset, .unset, .unset, .unset, .unset, .unset, .unset, .unset] [])) _
    refine XS.iloadN X7.here hx rfl (hb hby at_52) rfl ?_
    show Steps p.tables e below (T7.setTop (mkF m 53 #[.val (.int p1), .val (.int p2), .val (.int (Int32.ofNat n)), .val (.ref b1), .val (.int (cf 0)), .val (.int (cf 1)), .val (.int (cf 2)), .val (.int (cf 3)), .val (.int (cf 4)), .unset, .unset, .unset, .unset, .unset, .unset, .unset, .unset] [(.int p1)])) _
    refine XS.iconst X7.here hx rfl (hb hby at_53) ?_
    show Steps p.tables e below (T7.setTop (mkF m 54 #[.val (.int p1), .val (.int p2), .val (.int (Int32.ofNat n)), .val (.ref b1), .val (.int (cf 0)), .val (.int (cf 1)), .val (.int (cf 2)), .val (.int (cf 3)), .val (.int (cf 4)), .unset, .unset, .unset, .unset, .unset, .unset, .unset, .unset] [(.int (5 : Int32)), (.int p1)])) _
    refine XS.iloadN X7.here hx rfl (hb hby at_54) rfl ?_
    show Steps p.tables e below (T7.setTop (mkF m 55 #[.val (.int p1), .val (.int p2), .val (.int (Int32.ofNat n)), .val (.ref b1), .val (.int (cf 0)), .val (.int (cf 1)), .val (.int (cf 2)), .val (.int (cf 3)), .val (.int (cf 4)), .unset, .unset, .unset, .unset, .unset, .unset, .unset, .unset] [(.int (Int32.ofNat n)), (.int (5 : Int32)), (.int p1)])) _
    refine st8 _ ?_
    show Steps p.tables e below (T8.setTop (mkF m 58 #[.val (.int p1), .val (.int p2), .val (.int (Int32.ofNat n)), .val (.ref b1), .val (.int (cf 0)), .val (.int (cf 1)), .val (.int (cf 2)), .val (.int (cf 3)), .val (.int (cf 4)), .unset, .unset, .unset, .unset, .unset, .unset, .unset, .unset] [(.int (own_bitv p1 (5 : Int32) (Int32.ofNat n)))])) _
    rw [show (own_bitv p1 (5 : Int32) (Int32.ofNat n)) = cf 5 from by rw [h_cf]; rfl]
    show Steps p.tables e below (T8.setTop (mkF m 58 #[.val (.int p1), .val (.int p2), .val (.int (Int32.ofNat n)), .val (.ref b1), .val (.int (cf 0)), .val (.int (cf 1)), .val (.int (cf 2)), .val (.int (cf 3)), .val (.int (cf 4)), .unset, .unset, .unset, .unset, .unset, .unset, .unset, .unset] [(.int (cf 5))])) _
    refine XS.istore X8.here hx rfl (hb hby at_58) rfl (l' := #[.val (.int p1), .val (.int p2), .val (.int (Int32.ofNat n)), .val (.ref b1), .val (.int (cf 0)), .val (.int (cf 1)), .val (.int (cf 2)), .val (.int (cf 3)), .val (.int (cf 4)), .val (.int (cf 5)), .unset, .unset, .unset, .unset, .unset, .unset, .unset]) rfl ?_
    show Steps p.tables e below (T8.setTop (mkF m 60 #[.val (.int p1), .val (.int p2), .val (.int (Int32.ofNat n)), .val (.ref b1), .val (.int (cf 0)), .val (.int (cf 1)), .val (.int (cf 2)), .val (.int (cf 3)), .val (.int (cf 4)), .val (.int (cf 5)), .unset, .unset, .unset, .unset, .unset, .unset, .unset] [])) _
    refine st10 _ ?_
    show Steps p.tables e below (T10.setTop (mkF m 78 #[.val (.int p1), .val (.int p2), .val (.int (Int32.ofNat n)), .val (.ref b1), .val (.int (cf 0)), .val (.int (cf 1)), .val (.int (cf 2)), .val (.int (cf 3)), .val (.int (cf 4)), .val (.int (cf 5)), .unset, .unset, .unset, .unset, .unset, .unset, .unset] [])) _
    refine st11 _ ?_
    show Steps p.tables e below (T11.setTop (mkF m 97 #[.val (.int p1), .val (.int p2), .val (.int (Int32.ofNat n)), .val (.ref b1), .val (.int (cf 0)), .val (.int (cf 1)), .val (.int (cf 2)), .val (.int (cf 3)), .val (.int (cf 4)), .val (.int (cf 5)), .unset, .unset, .unset, .unset, .unset, .unset, .unset] [])) _
    refine st13 _ ?_
    show Steps p.tables e below (T13.setTop (mkF m 116 #[.val (.int p1), .val (.int p2), .val (.int (Int32.ofNat n)), .val (.ref b1), .val (.int (cf 0)), .val (.int (cf 1)), .val (.int (cf 2)), .val (.int (cf 3)), .val (.int (cf 4)), .val (.int (cf 5)), .unset, .unset, .unset, .unset, .unset, .unset, .unset] [])) _
    refine st15 _ ?_
    show Steps p.tables e below (T15.setTop (mkF m 135 #[.val (.int p1), .val (.int p2), .val (.int (Int32.ofNat n)), .val (.ref b1), .val (.int (cf 0)), .val (.int (cf 1)), .val (.int (cf 2)), .val (.int (cf 3)), .val (.int (cf 4)), .val (.int (cf 5)), .unset, .unset, .unset, .unset, .unset, .unset, .unset] [])) _
    refine st17 _ ?_
    show Steps p.tables e below (T17.setTop (mkF m 154 #[.val (.int p1), .val (.int p2), .val (.int (Int32.ofNat n)), .val (.ref b1), .val (.int (cf 0)), .val (.int (cf 1)), .val (.int (cf 2)), .val (.int (cf 3)), .val (.int (cf 4)), .val (.int (cf 5)), .unset, .unset, .unset, .unset, .unset, .unset, .unset] [])) _
    refine st19 _ ?_
    show Steps p.tables e below (T19.setTop (mkF m 173 #[.val (.int p1), .val (.int p2), .val (.int (Int32.ofNat n)), .val (.ref b1), .val (.int (cf 0)), .val (.int (cf 1)), .val (.int (cf 2)), .val (.int (cf 3)), .val (.int (cf 4)), .val (.int (cf 5)), .unset, .unset, .unset, .unset, .unset, .unset, .unset] [])) _
    refine XS.aloadN X19.here hx rfl (hb hby at_173) rfl rfl ?_
    show Steps p.tables e below (T19.setTop (mkF m 174 #[.val (.int p1), .val (.int p2), .val (.int (Int32.ofNat n)), .val (.ref b1), .val (.int (cf 0)), .val (.int (cf 1)), .val (.int (cf 2)), .val (.int (cf 3)), .val (.int (cf 4)), .val (.int (cf 5)), .unset, .unset, .unset, .unset, .unset, .unset, .unset] [(.ref b1)])) _
    refine st22 _ ?_
    show Steps p.tables e below (T22.setTop (mkF m 177 #[.val (.int p1), .val (.int p2), .val (.int (Int32.ofNat n)), .val (.ref b1), .val (.int (cf 0)), .val (.int (cf 1)), .val (.int (cf 2)), .val (.int (cf 3)), .val (.int (cf 4)), .val (.int (cf 5)), .unset, .unset, .unset, .unset, .unset, .unset, .unset] [(.ref b_e22)])) _
    refine XS.astore X22.here hx rfl (hb hby at_177) rfl rfl (l' := #[.val (.int p1), .val (.int p2), .val (.int (Int32.ofNat n)), .val (.ref b1), .val (.int (cf 0)), .val (.int (cf 1)), .val (.int (cf 2)), .val (.int (cf 3)), .val (.int (cf 4)), .val (.int (cf 5)), .val (.ref b_e22), .unset, .unset, .unset, .unset, .unset, .unset]) rfl ?_
    show Steps p.tables e below (T22.setTop (mkF m 179 #[.val (.int p1), .val (.int p2), .val (.int (Int32.ofNat n)), .val (.ref b1), .val (.int (cf 0)), .val (.int (cf 1)), .val (.int (cf 2)), .val (.int (cf 3)), .val (.int (cf 4)), .val (.int (cf 5)), .val (.ref b_e22), .unset, .unset, .unset, .unset, .unset, .unset] [])) _
    refine XS.iload X22.here hx rfl (hb hby at_179) rfl ?_
    show Steps p.tables e below (T22.setTop (mkF m 181 #[.val (.int p1), .val (.int p2), .val (.int (Int32.ofNat n)), .val (.ref b1), .val (.int (cf 0)), .val (.int (cf 1)), .val (.int (cf 2)), .val (.int (cf 3)), .val (.int (cf 4)), .val (.int (cf 5)), .val (.ref b_e22), .unset, .unset, .unset, .unset, .unset, .unset] [(.int (cf 0))])) _
    refine castTop (show (mkF m 181 #[.val (.int p1), .val (.int p2), .val (.int (Int32.ofNat n)), .val (.ref b1), .val (.int (cf 0)), .val (.int (cf 1)), .val (.int (cf 2)), .val (.int (cf 3)), .val (.int (cf 4)), .val (.int (cf 5)), .val (.ref b_e22), .unset, .unset, .unset, .unset, .unset, .unset] [(.int (cf 0))]) = (mkF m 181 #[.val (.int p1), .val (.int p2), .val (.int (Int32.ofNat n)), .val (.ref b1), .val (.int (cf 0)), .val (.int (cf 1)), .val (.int (cf 2)), .val (.int (cf 3)), .val (.int (cf 4)), .val (.int (cf 5)), .val (.ref b_e22), .unset, .unset, .unset, .unset, .unset, .unset] [(.int (Int32.ofNat (own_cnt cf 1)))]) from by rw [← hc0]) ?_
    show Steps p.tables e below (T22.setTop (mkF m 181 #[.val (.int p1), .val (.int p2), .val (.int (Int32.ofNat n)), .val (.ref b1), .val (.int (cf 0)), .val (.int (cf 1)), .val (.int (cf 2)), .val (.int (cf 3)), .val (.int (cf 4)), .val (.int (cf 5)), .val (.ref b_e22), .unset, .unset, .unset, .unset, .unset, .unset] [(.int (Int32.ofNat (own_cnt cf 1)))])) _
    refine XS.istore X22.here hx rfl (hb hby at_181) rfl (l' := #[.val (.int p1), .val (.int p2), .val (.int (Int32.ofNat n)), .val (.ref b1), .val (.int (cf 0)), .val (.int (cf 1)), .val (.int (cf 2)), .val (.int (cf 3)), .val (.int (cf 4)), .val (.int (cf 5)), .val (.ref b_e22), .val (.int (Int32.ofNat (own_cnt cf 1))), .unset, .unset, .unset, .unset, .unset]) rfl ?_
    show Steps p.tables e below (T22.setTop (mkF m 183 #[.val (.int p1), .val (.int p2), .val (.int (Int32.ofNat n)), .val (.ref b1), .val (.int (cf 0)), .val (.int (cf 1)), .val (.int (cf 2)), .val (.int (cf 3)), .val (.int (cf 4)), .val (.int (cf 5)), .val (.ref b_e22), .val (.int (Int32.ofNat (own_cnt cf 1))), .unset, .unset, .unset, .unset, .unset] [])) _
    refine XS.iload X22.here hx rfl (hb hby at_183) rfl ?_
    show Steps p.tables e below (T22.setTop (mkF m 185 #[.val (.int p1), .val (.int p2), .val (.int (Int32.ofNat n)), .val (.ref b1), .val (.int (cf 0)), .val (.int (cf 1)), .val (.int (cf 2)), .val (.int (cf 3)), .val (.int (cf 4)), .val (.int (cf 5)), .val (.ref b_e22), .val (.int (Int32.ofNat (own_cnt cf 1))), .unset, .unset, .unset, .unset, .unset] [(.int (Int32.ofNat (own_cnt cf 1)))])) _
    refine XS.iload X22.here hx rfl (hb hby at_185) rfl ?_
    show Steps p.tables e below (T22.setTop (mkF m 187 #[.val (.int p1), .val (.int p2), .val (.int (Int32.ofNat n)), .val (.ref b1), .val (.int (cf 0)), .val (.int (cf 1)), .val (.int (cf 2)), .val (.int (cf 3)), .val (.int (cf 4)), .val (.int (cf 5)), .val (.ref b_e22), .val (.int (Int32.ofNat (own_cnt cf 1))), .unset, .unset, .unset, .unset, .unset] [(.int (cf 1)), (.int (Int32.ofNat (own_cnt cf 1)))])) _
    refine XS.iadd X22.here hx rfl (hb hby at_187) rfl ?_
    show Steps p.tables e below (T22.setTop (mkF m 188 #[.val (.int p1), .val (.int p2), .val (.int (Int32.ofNat n)), .val (.ref b1), .val (.int (cf 0)), .val (.int (cf 1)), .val (.int (cf 2)), .val (.int (cf 3)), .val (.int (cf 4)), .val (.int (cf 5)), .val (.ref b_e22), .val (.int (Int32.ofNat (own_cnt cf 1))), .unset, .unset, .unset, .unset, .unset] [(.int ((Int32.ofNat (own_cnt cf 1)) + (cf 1)))])) _
    rw [own_sum cf hbb 1]
    show Steps p.tables e below (T22.setTop (mkF m 188 #[.val (.int p1), .val (.int p2), .val (.int (Int32.ofNat n)), .val (.ref b1), .val (.int (cf 0)), .val (.int (cf 1)), .val (.int (cf 2)), .val (.int (cf 3)), .val (.int (cf 4)), .val (.int (cf 5)), .val (.ref b_e22), .val (.int (Int32.ofNat (own_cnt cf 1))), .unset, .unset, .unset, .unset, .unset] [(.int (Int32.ofNat (own_cnt cf 2)))])) _
    refine XS.istore X22.here hx rfl (hb hby at_188) rfl (l' := #[.val (.int p1), .val (.int p2), .val (.int (Int32.ofNat n)), .val (.ref b1), .val (.int (cf 0)), .val (.int (cf 1)), .val (.int (cf 2)), .val (.int (cf 3)), .val (.int (cf 4)), .val (.int (cf 5)), .val (.ref b_e22), .val (.int (Int32.ofNat (own_cnt cf 1))), .val (.int (Int32.ofNat (own_cnt cf 2))), .unset, .unset, .unset, .unset]) rfl ?_
    show Steps p.tables e below (T22.setTop (mkF m 190 #[.val (.int p1), .val (.int p2), .val (.int (Int32.ofNat n)), .val (.ref b1), .val (.int (cf 0)), .val (.int (cf 1)), .val (.int (cf 2)), .val (.int (cf 3)), .val (.int (cf 4)), .val (.int (cf 5)), .val (.ref b_e22), .val (.int (Int32.ofNat (own_cnt cf 1))), .val (.int (Int32.ofNat (own_cnt cf 2))), .unset, .unset, .unset, .unset] [])) _
    refine XS.iload X22.here hx rfl (hb hby at_190) rfl ?_
    show Steps p.tables e below (T22.setTop (mkF m 192 #[.val (.int p1), .val (.int p2), .val (.int (Int32.ofNat n)), .val (.ref b1), .val (.int (cf 0)), .val (.int (cf 1)), .val (.int (cf 2)), .val (.int (cf 3)), .val (.int (cf 4)), .val (.int (cf 5)), .val (.ref b_e22), .val (.int (Int32.ofNat (own_cnt cf 1))), .val (.int (Int32.ofNat (own_cnt cf 2))), .unset, .unset, .unset, .unset] [(.int (Int32.ofNat (own_cnt cf 2)))])) _
    refine XS.iload X22.here hx rfl (hb hby at_192) rfl ?_
    show Steps p.tables e below (T22.setTop (mkF m 194 #[.val (.int p1), .val (.int p2), .val (.int (Int32.ofNat n)), .val (.ref b1), .val (.int (cf 0)), .val (.int (cf 1)), .val (.int (cf 2)), .val (.int (cf 3)), .val (.int (cf 4)), .val (.int (cf 5)), .val (.ref b_e22), .val (.int (Int32.ofNat (own_cnt cf 1))), .val (.int (Int32.ofNat (own_cnt cf 2))), .unset, .unset, .unset, .unset] [(.int (cf 2)), (.int (Int32.ofNat (own_cnt cf 2)))])) _
    refine XS.iadd X22.here hx rfl (hb hby at_194) rfl ?_
    show Steps p.tables e below (T22.setTop (mkF m 195 #[.val (.int p1), .val (.int p2), .val (.int (Int32.ofNat n)), .val (.ref b1), .val (.int (cf 0)), .val (.int (cf 1)), .val (.int (cf 2)), .val (.int (cf 3)), .val (.int (cf 4)), .val (.int (cf 5)), .val (.ref b_e22), .val (.int (Int32.ofNat (own_cnt cf 1))), .val (.int (Int32.ofNat (own_cnt cf 2))), .unset, .unset, .unset, .unset] [(.int ((Int32.ofNat (own_cnt cf 2)) + (cf 2)))])) _
    rw [own_sum cf hbb 2]
    show Steps p.tables e below (T22.setTop (mkF m 195 #[.val (.int p1), .val (.int p2), .val (.int (Int32.ofNat n)), .val (.ref b1), .val (.int (cf 0)), .val (.int (cf 1)), .val (.int (cf 2)), .val (.int (cf 3)), .val (.int (cf 4)), .val (.int (cf 5)), .val (.ref b_e22), .val (.int (Int32.ofNat (own_cnt cf 1))), .val (.int (Int32.ofNat (own_cnt cf 2))), .unset, .unset, .unset, .unset] [(.int (Int32.ofNat (own_cnt cf 3)))])) _
    refine XS.istore X22.here hx rfl (hb hby at_195) rfl (l' := #[.val (.int p1), .val (.int p2), .val (.int (Int32.ofNat n)), .val (.ref b1), .val (.int (cf 0)), .val (.int (cf 1)), .val (.int (cf 2)), .val (.int (cf 3)), .val (.int (cf 4)), .val (.int (cf 5)), .val (.ref b_e22), .val (.int (Int32.ofNat (own_cnt cf 1))), .val (.int (Int32.ofNat (own_cnt cf 2))), .val (.int (Int32.ofNat (own_cnt cf 3))), .unset, .unset, .unset]) rfl ?_
    show Steps p.tables e below (T22.setTop (mkF m 197 #[.val (.int p1), .val (.int p2), .val (.int (Int32.ofNat n)), .val (.ref b1), .val (.int (cf 0)), .val (.int (cf 1)), .val (.int (cf 2)), .val (.int (cf 3)), .val (.int (cf 4)), .val (.int (cf 5)), .val (.ref b_e22), .val (.int (Int32.ofNat (own_cnt cf 1))), .val (.int (Int32.ofNat (own_cnt cf 2))), .val (.int (Int32.ofNat (own_cnt cf 3))), .unset, .unset, .unset] [])) _
    refine XS.iload X22.here hx rfl (hb hby at_197) rfl ?_
    show Steps p.tables e below (T22.setTop (mkF m 199 #[.val (.int p1), .val (.int p2), .val (.int (Int32.ofNat n)), .val (.ref b1), .val (.int (cf 0)), .val (.int (cf 1)), .val (.int (cf 2)), .val (.int (cf 3)), .val (.int (cf 4)), .val (.int (cf 5)), .val (.ref b_e22), .val (.int (Int32.ofNat (own_cnt cf 1))), .val (.int (Int32.ofNat (own_cnt cf 2))), .val (.int (Int32.ofNat (own_cnt cf 3))), .unset, .unset, .unset] [(.int (Int32.ofNat (own_cnt cf 3)))])) _
    refine XS.iload X22.here hx rfl (hb hby at_199) rfl ?_
    show Steps p.tables e below (T22.setTop (mkF m 201 #[.val (.int p1), .val (.int p2), .val (.int (Int32.ofNat n)), .val (.ref b1), .val (.int (cf 0)), .val (.int (cf 1)), .val (.int (cf 2)), .val (.int (cf 3)), .val (.int (cf 4)), .val (.int (cf 5)), .val (.ref b_e22), .val (.int (Int32.ofNat (own_cnt cf 1))), .val (.int (Int32.ofNat (own_cnt cf 2))), .val (.int (Int32.ofNat (own_cnt cf 3))), .unset, .unset, .unset] [(.int (cf 3)), (.int (Int32.ofNat (own_cnt cf 3)))])) _
    refine XS.iadd X22.here hx rfl (hb hby at_201) rfl ?_
    show Steps p.tables e below (T22.setTop (mkF m 202 #[.val (.int p1), .val (.int p2), .val (.int (Int32.ofNat n)), .val (.ref b1), .val (.int (cf 0)), .val (.int (cf 1)), .val (.int (cf 2)), .val (.int (cf 3)), .val (.int (cf 4)), .val (.int (cf 5)), .val (.ref b_e22), .val (.int (Int32.ofNat (own_cnt cf 1))), .val (.int (Int32.ofNat (own_cnt cf 2))), .val (.int (Int32.ofNat (own_cnt cf 3))), .unset, .unset, .unset] [(.int ((Int32.ofNat (own_cnt cf 3)) + (cf 3)))])) _
    rw [own_sum cf hbb 3]
    show Steps p.tables e below (T22.setTop (mkF m 202 #[.val (.int p1), .val (.int p2), .val (.int (Int32.ofNat n)), .val (.ref b1), .val (.int (cf 0)), .val (.int (cf 1)), .val (.int (cf 2)), .val (.int (cf 3)), .val (.int (cf 4)), .val (.int (cf 5)), .val (.ref b_e22), .val (.int (Int32.ofNat (own_cnt cf 1))), .val (.int (Int32.ofNat (own_cnt cf 2))), .val (.int (Int32.ofNat (own_cnt cf 3))), .unset, .unset, .unset] [(.int (Int32.ofNat (own_cnt cf 4)))])) _
    refine XS.istore X22.here hx rfl (hb hby at_202) rfl (l' := #[.val (.int p1), .val (.int p2), .val (.int (Int32.ofNat n)), .val (.ref b1), .val (.int (cf 0)), .val (.int (cf 1)), .val (.int (cf 2)), .val (.int (cf 3)), .val (.int (cf 4)), .val (.int (cf 5)), .val (.ref b_e22), .val (.int (Int32.ofNat (own_cnt cf 1))), .val (.int (Int32.ofNat (own_cnt cf 2))), .val (.int (Int32.ofNat (own_cnt cf 3))), .val (.int (Int32.ofNat (own_cnt cf 4))), .unset, .unset]) rfl ?_
    show Steps p.tables e below (T22.setTop (mkF m 204 #[.val (.int p1), .val (.int p2), .val (.int (Int32.ofNat n)), .val (.ref b1), .val (.int (cf 0)), .val (.int (cf 1)), .val (.int (cf 2)), .val (.int (cf 3)), .val (.int (cf 4)), .val (.int (cf 5)), .val (.ref b_e22), .val (.int (Int32.ofNat (own_cnt cf 1))), .val (.int (Int32.ofNat (own_cnt cf 2))), .val (.int (Int32.ofNat (own_cnt cf 3))), .val (.int (Int32.ofNat (own_cnt cf 4))), .unset, .unset] [])) _
    refine XS.iload X22.here hx rfl (hb hby at_204) rfl ?_
    show Steps p.tables e below (T22.setTop (mkF m 206 #[.val (.int p1), .val (.int p2), .val (.int (Int32.ofNat n)), .val (.ref b1), .val (.int (cf 0)), .val (.int (cf 1)), .val (.int (cf 2)), .val (.int (cf 3)), .val (.int (cf 4)), .val (.int (cf 5)), .val (.ref b_e22), .val (.int (Int32.ofNat (own_cnt cf 1))), .val (.int (Int32.ofNat (own_cnt cf 2))), .val (.int (Int32.ofNat (own_cnt cf 3))), .val (.int (Int32.ofNat (own_cnt cf 4))), .unset, .unset] [(.int (Int32.ofNat (own_cnt cf 4)))])) _
    refine XS.iload X22.here hx rfl (hb hby at_206) rfl ?_
    show Steps p.tables e below (T22.setTop (mkF m 208 #[.val (.int p1), .val (.int p2), .val (.int (Int32.ofNat n)), .val (.ref b1), .val (.int (cf 0)), .val (.int (cf 1)), .val (.int (cf 2)), .val (.int (cf 3)), .val (.int (cf 4)), .val (.int (cf 5)), .val (.ref b_e22), .val (.int (Int32.ofNat (own_cnt cf 1))), .val (.int (Int32.ofNat (own_cnt cf 2))), .val (.int (Int32.ofNat (own_cnt cf 3))), .val (.int (Int32.ofNat (own_cnt cf 4))), .unset, .unset] [(.int (cf 4)), (.int (Int32.ofNat (own_cnt cf 4)))])) _
    refine XS.iadd X22.here hx rfl (hb hby at_208) rfl ?_
    show Steps p.tables e below (T22.setTop (mkF m 209 #[.val (.int p1), .val (.int p2), .val (.int (Int32.ofNat n)), .val (.ref b1), .val (.int (cf 0)), .val (.int (cf 1)), .val (.int (cf 2)), .val (.int (cf 3)), .val (.int (cf 4)), .val (.int (cf 5)), .val (.ref b_e22), .val (.int (Int32.ofNat (own_cnt cf 1))), .val (.int (Int32.ofNat (own_cnt cf 2))), .val (.int (Int32.ofNat (own_cnt cf 3))), .val (.int (Int32.ofNat (own_cnt cf 4))), .unset, .unset] [(.int ((Int32.ofNat (own_cnt cf 4)) + (cf 4)))])) _
    rw [own_sum cf hbb 4]
    show Steps p.tables e below (T22.setTop (mkF m 209 #[.val (.int p1), .val (.int p2), .val (.int (Int32.ofNat n)), .val (.ref b1), .val (.int (cf 0)), .val (.int (cf 1)), .val (.int (cf 2)), .val (.int (cf 3)), .val (.int (cf 4)), .val (.int (cf 5)), .val (.ref b_e22), .val (.int (Int32.ofNat (own_cnt cf 1))), .val (.int (Int32.ofNat (own_cnt cf 2))), .val (.int (Int32.ofNat (own_cnt cf 3))), .val (.int (Int32.ofNat (own_cnt cf 4))), .unset, .unset] [(.int (Int32.ofNat (own_cnt cf 5)))])) _
    refine XS.istore X22.here hx rfl (hb hby at_209) rfl (l' := #[.val (.int p1), .val (.int p2), .val (.int (Int32.ofNat n)), .val (.ref b1), .val (.int (cf 0)), .val (.int (cf 1)), .val (.int (cf 2)), .val (.int (cf 3)), .val (.int (cf 4)), .val (.int (cf 5)), .val (.ref b_e22), .val (.int (Int32.ofNat (own_cnt cf 1))), .val (.int (Int32.ofNat (own_cnt cf 2))), .val (.int (Int32.ofNat (own_cnt cf 3))), .val (.int (Int32.ofNat (own_cnt cf 4))), .val (.int (Int32.ofNat (own_cnt cf 5))), .unset]) rfl ?_
    show Steps p.tables e below (T22.setTop (mkF m 211 #[.val (.int p1), .val (.int p2), .val (.int (Int32.ofNat n)), .val (.ref b1), .val (.int (cf 0)), .val (.int (cf 1)), .val (.int (cf 2)), .val (.int (cf 3)), .val (.int (cf 4)), .val (.int (cf 5)), .val (.ref b_e22), .val (.int (Int32.ofNat (own_cnt cf 1))), .val (.int (Int32.ofNat (own_cnt cf 2))), .val (.int (Int32.ofNat (own_cnt cf 3))), .val (.int (Int32.ofNat (own_cnt cf 4))), .val (.int (Int32.ofNat (own_cnt cf 5))), .unset] [])) _
    refine XS.iload X22.here hx rfl (hb hby at_211) rfl ?_
    show Steps p.tables e below (T22.setTop (mkF m 213 #[.val (.int p1), .val (.int p2), .val (.int (Int32.ofNat n)), .val (.ref b1), .val (.int (cf 0)), .val (.int (cf 1)), .val (.int (cf 2)), .val (.int (cf 3)), .val (.int (cf 4)), .val (.int (cf 5)), .val (.ref b_e22), .val (.int (Int32.ofNat (own_cnt cf 1))), .val (.int (Int32.ofNat (own_cnt cf 2))), .val (.int (Int32.ofNat (own_cnt cf 3))), .val (.int (Int32.ofNat (own_cnt cf 4))), .val (.int (Int32.ofNat (own_cnt cf 5))), .unset] [(.int (Int32.ofNat (own_cnt cf 5)))])) _
    refine XS.iload X22.here hx rfl (hb hby at_213) rfl ?_
    show Steps p.tables e below (T22.setTop (mkF m 215 #[.val (.int p1), .val (.int p2), .val (.int (Int32.ofNat n)), .val (.ref b1), .val (.int (cf 0)), .val (.int (cf 1)), .val (.int (cf 2)), .val (.int (cf 3)), .val (.int (cf 4)), .val (.int (cf 5)), .val (.ref b_e22), .val (.int (Int32.ofNat (own_cnt cf 1))), .val (.int (Int32.ofNat (own_cnt cf 2))), .val (.int (Int32.ofNat (own_cnt cf 3))), .val (.int (Int32.ofNat (own_cnt cf 4))), .val (.int (Int32.ofNat (own_cnt cf 5))), .unset] [(.int (cf 5)), (.int (Int32.ofNat (own_cnt cf 5)))])) _
    refine XS.iadd X22.here hx rfl (hb hby at_215) rfl ?_
    show Steps p.tables e below (T22.setTop (mkF m 216 #[.val (.int p1), .val (.int p2), .val (.int (Int32.ofNat n)), .val (.ref b1), .val (.int (cf 0)), .val (.int (cf 1)), .val (.int (cf 2)), .val (.int (cf 3)), .val (.int (cf 4)), .val (.int (cf 5)), .val (.ref b_e22), .val (.int (Int32.ofNat (own_cnt cf 1))), .val (.int (Int32.ofNat (own_cnt cf 2))), .val (.int (Int32.ofNat (own_cnt cf 3))), .val (.int (Int32.ofNat (own_cnt cf 4))), .val (.int (Int32.ofNat (own_cnt cf 5))), .unset] [(.int ((Int32.ofNat (own_cnt cf 5)) + (cf 5)))])) _
    rw [own_sum cf hbb 5]
    show Steps p.tables e below (T22.setTop (mkF m 216 #[.val (.int p1), .val (.int p2), .val (.int (Int32.ofNat n)), .val (.ref b1), .val (.int (cf 0)), .val (.int (cf 1)), .val (.int (cf 2)), .val (.int (cf 3)), .val (.int (cf 4)), .val (.int (cf 5)), .val (.ref b_e22), .val (.int (Int32.ofNat (own_cnt cf 1))), .val (.int (Int32.ofNat (own_cnt cf 2))), .val (.int (Int32.ofNat (own_cnt cf 3))), .val (.int (Int32.ofNat (own_cnt cf 4))), .val (.int (Int32.ofNat (own_cnt cf 5))), .unset] [(.int (Int32.ofNat (own_cnt cf 6)))])) _
    refine XS.istore X22.here hx rfl (hb hby at_216) rfl (l' := #[.val (.int p1), .val (.int p2), .val (.int (Int32.ofNat n)), .val (.ref b1), .val (.int (cf 0)), .val (.int (cf 1)), .val (.int (cf 2)), .val (.int (cf 3)), .val (.int (cf 4)), .val (.int (cf 5)), .val (.ref b_e22), .val (.int (Int32.ofNat (own_cnt cf 1))), .val (.int (Int32.ofNat (own_cnt cf 2))), .val (.int (Int32.ofNat (own_cnt cf 3))), .val (.int (Int32.ofNat (own_cnt cf 4))), .val (.int (Int32.ofNat (own_cnt cf 5))), .val (.int (Int32.ofNat (own_cnt cf 6)))]) rfl ?_
    show Steps p.tables e below (T22.setTop (mkF m 218 #[.val (.int p1), .val (.int p2), .val (.int (Int32.ofNat n)), .val (.ref b1), .val (.int (cf 0)), .val (.int (cf 1)), .val (.int (cf 2)), .val (.int (cf 3)), .val (.int (cf 4)), .val (.int (cf 5)), .val (.ref b_e22), .val (.int (Int32.ofNat (own_cnt cf 1))), .val (.int (Int32.ofNat (own_cnt cf 2))), .val (.int (Int32.ofNat (own_cnt cf 3))), .val (.int (Int32.ofNat (own_cnt cf 4))), .val (.int (Int32.ofNat (own_cnt cf 5))), .val (.int (Int32.ofNat (own_cnt cf 6)))] [])) _
    refine XS.aload X22.here hx rfl (hb hby at_218) rfl rfl ?_
    show Steps p.tables e below (T22.setTop (mkF m 220 #[.val (.int p1), .val (.int p2), .val (.int (Int32.ofNat n)), .val (.ref b1), .val (.int (cf 0)), .val (.int (cf 1)), .val (.int (cf 2)), .val (.int (cf 3)), .val (.int (cf 4)), .val (.int (cf 5)), .val (.ref b_e22), .val (.int (Int32.ofNat (own_cnt cf 1))), .val (.int (Int32.ofNat (own_cnt cf 2))), .val (.int (Int32.ofNat (own_cnt cf 3))), .val (.int (Int32.ofNat (own_cnt cf 4))), .val (.int (Int32.ofNat (own_cnt cf 5))), .val (.int (Int32.ofNat (own_cnt cf 6)))] [(.ref b_e22)])) _
    refine XS.ifnullNo X22.here hx rfl (hb hby at_220) rfl ?_
    show Steps p.tables e below (T22.setTop (mkF m 223 #[.val (.int p1), .val (.int p2), .val (.int (Int32.ofNat n)), .val (.ref b1), .val (.int (cf 0)), .val (.int (cf 1)), .val (.int (cf 2)), .val (.int (cf 3)), .val (.int (cf 4)), .val (.int (cf 5)), .val (.ref b_e22), .val (.int (Int32.ofNat (own_cnt cf 1))), .val (.int (Int32.ofNat (own_cnt cf 2))), .val (.int (Int32.ofNat (own_cnt cf 3))), .val (.int (Int32.ofNat (own_cnt cf 4))), .val (.int (Int32.ofNat (own_cnt cf 5))), .val (.int (Int32.ofNat (own_cnt cf 6)))] [])) _
    refine XS.aload X22.here hx rfl (hb hby at_223) rfl rfl ?_
    show Steps p.tables e below (T22.setTop (mkF m 225 #[.val (.int p1), .val (.int p2), .val (.int (Int32.ofNat n)), .val (.ref b1), .val (.int (cf 0)), .val (.int (cf 1)), .val (.int (cf 2)), .val (.int (cf 3)), .val (.int (cf 4)), .val (.int (cf 5)), .val (.ref b_e22), .val (.int (Int32.ofNat (own_cnt cf 1))), .val (.int (Int32.ofNat (own_cnt cf 2))), .val (.int (Int32.ofNat (own_cnt cf 3))), .val (.int (Int32.ofNat (own_cnt cf 4))), .val (.int (Int32.ofNat (own_cnt cf 5))), .val (.int (Int32.ofNat (own_cnt cf 6)))] [(.ref b_e22)])) _
    refine X22.arraylength hx (by exact Ar24.1) (State.isArrayOf_alike hZ.alike Ar24.2.1) (g := (mkF m 225 #[.val (.int p1), .val (.int p2), .val (.int (Int32.ofNat n)), .val (.ref b1), .val (.int (cf 0)), .val (.int (cf 1)), .val (.int (cf 2)), .val (.int (cf 3)), .val (.int (cf 4)), .val (.int (cf 5)), .val (.ref b_e22), .val (.int (Int32.ofNat (own_cnt cf 1))), .val (.int (Int32.ofNat (own_cnt cf 2))), .val (.int (Int32.ofNat (own_cnt cf 3))), .val (.int (Int32.ofNat (own_cnt cf 4))), .val (.int (Int32.ofNat (own_cnt cf 5))), .val (.int (Int32.ofNat (own_cnt cf 6)))] [(.ref b_e22)])) rfl rfl (hb hby at_225) _ ?_
    rw [S24]
    show Steps p.tables e below (T22.setTop (mkF m 226 #[.val (.int p1), .val (.int p2), .val (.int (Int32.ofNat n)), .val (.ref b1), .val (.int (cf 0)), .val (.int (cf 1)), .val (.int (cf 2)), .val (.int (cf 3)), .val (.int (cf 4)), .val (.int (cf 5)), .val (.ref b_e22), .val (.int (Int32.ofNat (own_cnt cf 1))), .val (.int (Int32.ofNat (own_cnt cf 2))), .val (.int (Int32.ofNat (own_cnt cf 3))), .val (.int (Int32.ofNat (own_cnt cf 4))), .val (.int (Int32.ofNat (own_cnt cf 5))), .val (.int (Int32.ofNat (own_cnt cf 6)))] [(.int (Nat.toInt32 (own_cnt cf n)))])) _
    refine XS.iload X22.here hx rfl (hb hby at_226) rfl ?_
    show Steps p.tables e below (T22.setTop (mkF m 228 #[.val (.int p1), .val (.int p2), .val (.int (Int32.ofNat n)), .val (.ref b1), .val (.int (cf 0)), .val (.int (cf 1)), .val (.int (cf 2)), .val (.int (cf 3)), .val (.int (cf 4)), .val (.int (cf 5)), .val (.ref b_e22), .val (.int (Int32.ofNat (own_cnt cf 1))), .val (.int (Int32.ofNat (own_cnt cf 2))), .val (.int (Int32.ofNat (own_cnt cf 3))), .val (.int (Int32.ofNat (own_cnt cf 4))), .val (.int (Int32.ofNat (own_cnt cf 5))), .val (.int (Int32.ofNat (own_cnt cf 6)))] [(.int (Int32.ofNat (own_cnt cf 6))), (.int (Nat.toInt32 (own_cnt cf n)))])) _
    refine XS.icmpYes X22.here hx rfl (pc0 := 228) (pc' := 233) rfl (hb hby at_228) rfl (teq (show (Nat.toInt32 (own_cnt cf n)) = (Int32.ofNat (own_cnt cf 6)) from (show Int32.ofNat (own_cnt cf n) = Int32.ofNat (own_cnt cf 6) by rw [htail]))).1 (by decide) (by decide) ?_
    show Steps p.tables e below (T22.setTop (mkF m 233 #[.val (.int p1), .val (.int p2), .val (.int (Int32.ofNat n)), .val (.ref b1), .val (.int (cf 0)), .val (.int (cf 1)), .val (.int (cf 2)), .val (.int (cf 3)), .val (.int (cf 4)), .val (.int (cf 5)), .val (.ref b_e22), .val (.int (Int32.ofNat (own_cnt cf 1))), .val (.int (Int32.ofNat (own_cnt cf 2))), .val (.int (Int32.ofNat (own_cnt cf 3))), .val (.int (Int32.ofNat (own_cnt cf 4))), .val (.int (Int32.ofNat (own_cnt cf 5))), .val (.int (Int32.ofNat (own_cnt cf 6)))] [])) _
    refine XS.aload X22.here hx rfl (hb hby at_233) rfl rfl ?_
    show Steps p.tables e below (T22.setTop (mkF m 235 #[.val (.int p1), .val (.int p2), .val (.int (Int32.ofNat n)), .val (.ref b1), .val (.int (cf 0)), .val (.int (cf 1)), .val (.int (cf 2)), .val (.int (cf 3)), .val (.int (cf 4)), .val (.int (cf 5)), .val (.ref b_e22), .val (.int (Int32.ofNat (own_cnt cf 1))), .val (.int (Int32.ofNat (own_cnt cf 2))), .val (.int (Int32.ofNat (own_cnt cf 3))), .val (.int (Int32.ofNat (own_cnt cf 4))), .val (.int (Int32.ofNat (own_cnt cf 5))), .val (.int (Int32.ofNat (own_cnt cf 6)))] [(.ref b_e22)])) _
    refine XS.iconst X22.here hx rfl (hb hby at_235) ?_
    show Steps p.tables e below (T22.setTop (mkF m 236 #[.val (.int p1), .val (.int p2), .val (.int (Int32.ofNat n)), .val (.ref b1), .val (.int (cf 0)), .val (.int (cf 1)), .val (.int (cf 2)), .val (.int (cf 3)), .val (.int (cf 4)), .val (.int (cf 5)), .val (.ref b_e22), .val (.int (Int32.ofNat (own_cnt cf 1))), .val (.int (Int32.ofNat (own_cnt cf 2))), .val (.int (Int32.ofNat (own_cnt cf 3))), .val (.int (Int32.ofNat (own_cnt cf 4))), .val (.int (Int32.ofNat (own_cnt cf 5))), .val (.int (Int32.ofNat (own_cnt cf 6)))] [(.int (0 : Int32)), (.ref b_e22)])) _
    refine XS.iload X22.here hx rfl (hb hby at_236) rfl ?_
    show Steps p.tables e below (T22.setTop (mkF m 238 #[.val (.int p1), .val (.int p2), .val (.int (Int32.ofNat n)), .val (.ref b1), .val (.int (cf 0)), .val (.int (cf 1)), .val (.int (cf 2)), .val (.int (cf 3)), .val (.int (cf 4)), .val (.int (cf 5)), .val (.ref b_e22), .val (.int (Int32.ofNat (own_cnt cf 1))), .val (.int (Int32.ofNat (own_cnt cf 2))), .val (.int (Int32.ofNat (own_cnt cf 3))), .val (.int (Int32.ofNat (own_cnt cf 4))), .val (.int (Int32.ofNat (own_cnt cf 5))), .val (.int (Int32.ofNat (own_cnt cf 6)))] [(.int (cf 0)), (.int (0 : Int32)), (.ref b_e22)])) _
    refine XS.iconst X22.here hx rfl (hb hby at_238) ?_
    show Steps p.tables e below (T22.setTop (mkF m 239 #[.val (.int p1), .val (.int p2), .val (.int (Int32.ofNat n)), .val (.ref b1), .val (.int (cf 0)), .val (.int (cf 1)), .val (.int (cf 2)), .val (.int (cf 3)), .val (.int (cf 4)), .val (.int (cf 5)), .val (.ref b_e22), .val (.int (Int32.ofNat (own_cnt cf 1))), .val (.int (Int32.ofNat (own_cnt cf 2))), .val (.int (Int32.ofNat (own_cnt cf 3))), .val (.int (Int32.ofNat (own_cnt cf 4))), .val (.int (Int32.ofNat (own_cnt cf 5))), .val (.int (Int32.ofNat (own_cnt cf 6)))] [(.int (0 : Int32)), (.int (cf 0)), (.int (0 : Int32)), (.ref b_e22)])) _
    refine st25 _ ?_
    show Steps p.tables e below (T25.setTop (mkF m 242 #[.val (.int p1), .val (.int p2), .val (.int (Int32.ofNat n)), .val (.ref b1), .val (.int (cf 0)), .val (.int (cf 1)), .val (.int (cf 2)), .val (.int (cf 3)), .val (.int (cf 4)), .val (.int (cf 5)), .val (.ref b_e22), .val (.int (Int32.ofNat (own_cnt cf 1))), .val (.int (Int32.ofNat (own_cnt cf 2))), .val (.int (Int32.ofNat (own_cnt cf 3))), .val (.int (Int32.ofNat (own_cnt cf 4))), .val (.int (Int32.ofNat (own_cnt cf 5))), .val (.int (Int32.ofNat (own_cnt cf 6)))] [(.int (1 : Int32))])) _
    refine XS.ifNo X25.here hx rfl (hb hby at_242) rfl ((if0 _ _).trans (feq (show ¬ ((1 : Int32) = (0 : Int32)) from (by decide))).1) ?_
    show Steps p.tables e below (T25.setTop (mkF m 245 #[.val (.int p1), .val (.int p2), .val (.int (Int32.ofNat n)), .val (.ref b1), .val (.int (cf 0)), .val (.int (cf 1)), .val (.int (cf 2)), .val (.int (cf 3)), .val (.int (cf 4)), .val (.int (cf 5)), .val (.ref b_e22), .val (.int (Int32.ofNat (own_cnt cf 1))), .val (.int (Int32.ofNat (own_cnt cf 2))), .val (.int (Int32.ofNat (own_cnt cf 3))), .val (.int (Int32.ofNat (own_cnt cf 4))), .val (.int (Int32.ofNat (own_cnt cf 5))), .val (.int (Int32.ofNat (own_cnt cf 6)))] [])) _
    refine XS.aload X25.here hx rfl (hb hby at_245) rfl rfl ?_
    show Steps p.tables e below (T25.setTop (mkF m 247 #[.val (.int p1), .val (.int p2), .val (.int (Int32.ofNat n)), .val (.ref b1), .val (.int (cf 0)), .val (.int (cf 1)), .val (.int (cf 2)), .val (.int (cf 3)), .val (.int (cf 4)), .val (.int (cf 5)), .val (.ref b_e22), .val (.int (Int32.ofNat (own_cnt cf 1))), .val (.int (Int32.ofNat (own_cnt cf 2))), .val (.int (Int32.ofNat (own_cnt cf 3))), .val (.int (Int32.ofNat (own_cnt cf 4))), .val (.int (Int32.ofNat (own_cnt cf 5))), .val (.int (Int32.ofNat (own_cnt cf 6)))] [(.ref b_e22)])) _
    refine XS.iconst X25.here hx rfl (hb hby at_247) ?_
    show Steps p.tables e below (T25.setTop (mkF m 248 #[.val (.int p1), .val (.int p2), .val (.int (Int32.ofNat n)), .val (.ref b1), .val (.int (cf 0)), .val (.int (cf 1)), .val (.int (cf 2)), .val (.int (cf 3)), .val (.int (cf 4)), .val (.int (cf 5)), .val (.ref b_e22), .val (.int (Int32.ofNat (own_cnt cf 1))), .val (.int (Int32.ofNat (own_cnt cf 2))), .val (.int (Int32.ofNat (own_cnt cf 3))), .val (.int (Int32.ofNat (own_cnt cf 4))), .val (.int (Int32.ofNat (own_cnt cf 5))), .val (.int (Int32.ofNat (own_cnt cf 6)))] [(.int (1 : Int32)), (.ref b_e22)])) _
    refine XS.iload X25.here hx rfl (hb hby at_248) rfl ?_
    show Steps p.tables e below (T25.setTop (mkF m 250 #[.val (.int p1), .val (.int p2), .val (.int (Int32.ofNat n)), .val (.ref b1), .val (.int (cf 0)), .val (.int (cf 1)), .val (.int (cf 2)), .val (.int (cf 3)), .val (.int (cf 4)), .val (.int (cf 5)), .val (.ref b_e22), .val (.int (Int32.ofNat (own_cnt cf 1))), .val (.int (Int32.ofNat (own_cnt cf 2))), .val (.int (Int32.ofNat (own_cnt cf 3))), .val (.int (Int32.ofNat (own_cnt cf 4))), .val (.int (Int32.ofNat (own_cnt cf 5))), .val (.int (Int32.ofNat (own_cnt cf 6)))] [(.int (cf 1)), (.int (1 : Int32)), (.ref b_e22)])) _
    refine XS.iload X25.here hx rfl (hb hby at_250) rfl ?_
    show Steps p.tables e below (T25.setTop (mkF m 252 #[.val (.int p1), .val (.int p2), .val (.int (Int32.ofNat n)), .val (.ref b1), .val (.int (cf 0)), .val (.int (cf 1)), .val (.int (cf 2)), .val (.int (cf 3)), .val (.int (cf 4)), .val (.int (cf 5)), .val (.ref b_e22), .val (.int (Int32.ofNat (own_cnt cf 1))), .val (.int (Int32.ofNat (own_cnt cf 2))), .val (.int (Int32.ofNat (own_cnt cf 3))), .val (.int (Int32.ofNat (own_cnt cf 4))), .val (.int (Int32.ofNat (own_cnt cf 5))), .val (.int (Int32.ofNat (own_cnt cf 6)))] [(.int (Int32.ofNat (own_cnt cf 1))), (.int (cf 1)), (.int (1 : Int32)), (.ref b_e22)])) _
    refine st27 _ ?_
    show Steps p.tables e below (T27.setTop (mkF m 255 #[.val (.int p1), .val (.int p2), .val (.int (Int32.ofNat n)), .val (.ref b1), .val (.int (cf 0)), .val (.int (cf 1)), .val (.int (cf 2)), .val (.int (cf 3)), .val (.int (cf 4)), .val (.int (cf 5)), .val (.ref b_e22), .val (.int (Int32.ofNat (own_cnt cf 1))), .val (.int (Int32.ofNat (own_cnt cf 2))), .val (.int (Int32.ofNat (own_cnt cf 3))), .val (.int (Int32.ofNat (own_cnt cf 4))), .val (.int (Int32.ofNat (own_cnt cf 5))), .val (.int (Int32.ofNat (own_cnt cf 6)))] [(.int (1 : Int32))])) _
    refine XS.ifNo X27.here hx rfl (hb hby at_255) rfl ((if0 _ _).trans (feq (show ¬ ((1 : Int32) = (0 : Int32)) from (by decide))).1) ?_
    show Steps p.tables e below (T27.setTop (mkF m 258 #[.val (.int p1), .val (.int p2), .val (.int (Int32.ofNat n)), .val (.ref b1), .val (.int (cf 0)), .val (.int (cf 1)), .val (.int (cf 2)), .val (.int (cf 3)), .val (.int (cf 4)), .val (.int (cf 5)), .val (.ref b_e22), .val (.int (Int32.ofNat (own_cnt cf 1))), .val (.int (Int32.ofNat (own_cnt cf 2))), .val (.int (Int32.ofNat (own_cnt cf 3))), .val (.int (Int32.ofNat (own_cnt cf 4))), .val (.int (Int32.ofNat (own_cnt cf 5))), .val (.int (Int32.ofNat (own_cnt cf 6)))] [])) _
    refine XS.aload X27.here hx rfl (hb hby at_258) rfl rfl ?_
    show Steps p.tables e below (T27.setTop (mkF m 260 #[.val (.int p1), .val (.int p2), .val (.int (Int32.ofNat n)), .val (.ref b1), .val (.int (cf 0)), .val (.int (cf 1)), .val (.int (cf 2)), .val (.int (cf 3)), .val (.int (cf 4)), .val (.int (cf 5)), .val (.ref b_e22), .val (.int (Int32.ofNat (own_cnt cf 1))), .val (.int (Int32.ofNat (own_cnt cf 2))), .val (.int (Int32.ofNat (own_cnt cf 3))), .val (.int (Int32.ofNat (own_cnt cf 4))), .val (.int (Int32.ofNat (own_cnt cf 5))), .val (.int (Int32.ofNat (own_cnt cf 6)))] [(.ref b_e22)])) _
    refine XS.iconst X27.here hx rfl (hb hby at_260) ?_
    show Steps p.tables e below (T27.setTop (mkF m 261 #[.val (.int p1), .val (.int p2), .val (.int (Int32.ofNat n)), .val (.ref b1), .val (.int (cf 0)), .val (.int (cf 1)), .val (.int (cf 2)), .val (.int (cf 3)), .val (.int (cf 4)), .val (.int (cf 5)), .val (.ref b_e22), .val (.int (Int32.ofNat (own_cnt cf 1))), .val (.int (Int32.ofNat (own_cnt cf 2))), .val (.int (Int32.ofNat (own_cnt cf 3))), .val (.int (Int32.ofNat (own_cnt cf 4))), .val (.int (Int32.ofNat (own_cnt cf 5))), .val (.int (Int32.ofNat (own_cnt cf 6)))] [(.int (2 : Int32)), (.ref b_e22)])) _
    refine XS.iload X27.here hx rfl (hb hby at_261) rfl ?_
    show Steps p.tables e below (T27.setTop (mkF m 263 #[.val (.int p1), .val (.int p2), .val (.int (Int32.ofNat n)), .val (.ref b1), .val (.int (cf 0)), .val (.int (cf 1)), .val (.int (cf 2)), .val (.int (cf 3)), .val (.int (cf 4)), .val (.int (cf 5)), .val (.ref b_e22), .val (.int (Int32.ofNat (own_cnt cf 1))), .val (.int (Int32.ofNat (own_cnt cf 2))), .val (.int (Int32.ofNat (own_cnt cf 3))), .val (.int (Int32.ofNat (own_cnt cf 4))), .val (.int (Int32.ofNat (own_cnt cf 5))), .val (.int (Int32.ofNat (own_cnt cf 6)))] [(.int (cf 2)), (.int (2 : Int32)), (.ref b_e22)])) _
    refine XS.iload X27.here hx rfl (hb hby at_263) rfl ?_
    show Steps p.tables e below (T27.setTop (mkF m 265 #[.val (.int p1), .val (.int p2), .val (.int (Int32.ofNat n)), .val (.ref b1), .val (.int (cf 0)), .val (.int (cf 1)), .val (.int (cf 2)), .val (.int (cf 3)), .val (.int (cf 4)), .val (.int (cf 5)), .val (.ref b_e22), .val (.int (Int32.ofNat (own_cnt cf 1))), .val (.int (Int32.ofNat (own_cnt cf 2))), .val (.int (Int32.ofNat (own_cnt cf 3))), .val (.int (Int32.ofNat (own_cnt cf 4))), .val (.int (Int32.ofNat (own_cnt cf 5))), .val (.int (Int32.ofNat (own_cnt cf 6)))] [(.int (Int32.ofNat (own_cnt cf 2))), (.int (cf 2)), (.int (2 : Int32)), (.ref b_e22)])) _
    refine st28 _ ?_
    show Steps p.tables e below (T28.setTop (mkF m 268 #[.val (.int p1), .val (.int p2), .val (.int (Int32.ofNat n)), .val (.ref b1), .val (.int (cf 0)), .val (.int (cf 1)), .val (.int (cf 2)), .val (.int (cf 3)), .val (.int (cf 4)), .val (.int (cf 5)), .val (.ref b_e22), .val (.int (Int32.ofNat (own_cnt cf 1))), .val (.int (Int32.ofNat (own_cnt cf 2))), .val (.int (Int32.ofNat (own_cnt cf 3))), .val (.int (Int32.ofNat (own_cnt cf 4))), .val (.int (Int32.ofNat (own_cnt cf 5))), .val (.int (Int32.ofNat (own_cnt cf 6)))] [(.int (1 : Int32))])) _
    refine XS.ifNo X28.here hx rfl (hb hby at_268) rfl ((if0 _ _).trans (feq (show ¬ ((1 : Int32) = (0 : Int32)) from (by decide))).1) ?_
    show Steps p.tables e below (T28.setTop (mkF m 271 #[.val (.int p1), .val (.int p2), .val (.int (Int32.ofNat n)), .val (.ref b1), .val (.int (cf 0)), .val (.int (cf 1)), .val (.int (cf 2)), .val (.int (cf 3)), .val (.int (cf 4)), .val (.int (cf 5)), .val (.ref b_e22), .val (.int (Int32.ofNat (own_cnt cf 1))), .val (.int (Int32.ofNat (own_cnt cf 2))), .val (.int (Int32.ofNat (own_cnt cf 3))), .val (.int (Int32.ofNat (own_cnt cf 4))), .val (.int (Int32.ofNat (own_cnt cf 5))), .val (.int (Int32.ofNat (own_cnt cf 6)))] [])) _
    refine XS.aload X28.here hx rfl (hb hby at_271) rfl rfl ?_
    show Steps p.tables e below (T28.setTop (mkF m 273 #[.val (.int p1), .val (.int p2), .val (.int (Int32.ofNat n)), .val (.ref b1), .val (.int (cf 0)), .val (.int (cf 1)), .val (.int (cf 2)), .val (.int (cf 3)), .val (.int (cf 4)), .val (.int (cf 5)), .val (.ref b_e22), .val (.int (Int32.ofNat (own_cnt cf 1))), .val (.int (Int32.ofNat (own_cnt cf 2))), .val (.int (Int32.ofNat (own_cnt cf 3))), .val (.int (Int32.ofNat (own_cnt cf 4))), .val (.int (Int32.ofNat (own_cnt cf 5))), .val (.int (Int32.ofNat (own_cnt cf 6)))] [(.ref b_e22)])) _
    refine XS.iconst X28.here hx rfl (hb hby at_273) ?_
    show Steps p.tables e below (T28.setTop (mkF m 274 #[.val (.int p1), .val (.int p2), .val (.int (Int32.ofNat n)), .val (.ref b1), .val (.int (cf 0)), .val (.int (cf 1)), .val (.int (cf 2)), .val (.int (cf 3)), .val (.int (cf 4)), .val (.int (cf 5)), .val (.ref b_e22), .val (.int (Int32.ofNat (own_cnt cf 1))), .val (.int (Int32.ofNat (own_cnt cf 2))), .val (.int (Int32.ofNat (own_cnt cf 3))), .val (.int (Int32.ofNat (own_cnt cf 4))), .val (.int (Int32.ofNat (own_cnt cf 5))), .val (.int (Int32.ofNat (own_cnt cf 6)))] [(.int (3 : Int32)), (.ref b_e22)])) _
    refine XS.iload X28.here hx rfl (hb hby at_274) rfl ?_
    show Steps p.tables e below (T28.setTop (mkF m 276 #[.val (.int p1), .val (.int p2), .val (.int (Int32.ofNat n)), .val (.ref b1), .val (.int (cf 0)), .val (.int (cf 1)), .val (.int (cf 2)), .val (.int (cf 3)), .val (.int (cf 4)), .val (.int (cf 5)), .val (.ref b_e22), .val (.int (Int32.ofNat (own_cnt cf 1))), .val (.int (Int32.ofNat (own_cnt cf 2))), .val (.int (Int32.ofNat (own_cnt cf 3))), .val (.int (Int32.ofNat (own_cnt cf 4))), .val (.int (Int32.ofNat (own_cnt cf 5))), .val (.int (Int32.ofNat (own_cnt cf 6)))] [(.int (cf 3)), (.int (3 : Int32)), (.ref b_e22)])) _
    refine XS.iload X28.here hx rfl (hb hby at_276) rfl ?_
    show Steps p.tables e below (T28.setTop (mkF m 278 #[.val (.int p1), .val (.int p2), .val (.int (Int32.ofNat n)), .val (.ref b1), .val (.int (cf 0)), .val (.int (cf 1)), .val (.int (cf 2)), .val (.int (cf 3)), .val (.int (cf 4)), .val (.int (cf 5)), .val (.ref b_e22), .val (.int (Int32.ofNat (own_cnt cf 1))), .val (.int (Int32.ofNat (own_cnt cf 2))), .val (.int (Int32.ofNat (own_cnt cf 3))), .val (.int (Int32.ofNat (own_cnt cf 4))), .val (.int (Int32.ofNat (own_cnt cf 5))), .val (.int (Int32.ofNat (own_cnt cf 6)))] [(.int (Int32.ofNat (own_cnt cf 3))), (.int (cf 3)), (.int (3 : Int32)), (.ref b_e22)])) _
    refine st29 _ ?_
    show Steps p.tables e below (T29.setTop (mkF m 281 #[.val (.int p1), .val (.int p2), .val (.int (Int32.ofNat n)), .val (.ref b1), .val (.int (cf 0)), .val (.int (cf 1)), .val (.int (cf 2)), .val (.int (cf 3)), .val (.int (cf 4)), .val (.int (cf 5)), .val (.ref b_e22), .val (.int (Int32.ofNat (own_cnt cf 1))), .val (.int (Int32.ofNat (own_cnt cf 2))), .val (.int (Int32.ofNat (own_cnt cf 3))), .val (.int (Int32.ofNat (own_cnt cf 4))), .val (.int (Int32.ofNat (own_cnt cf 5))), .val (.int (Int32.ofNat (own_cnt cf 6)))] [(.int (1 : Int32))])) _
    refine XS.ifNo X29.here hx rfl (hb hby at_281) rfl ((if0 _ _).trans (feq (show ¬ ((1 : Int32) = (0 : Int32)) from (by decide))).1) ?_
    show Steps p.tables e below (T29.setTop (mkF m 284 #[.val (.int p1), .val (.int p2), .val (.int (Int32.ofNat n)), .val (.ref b1), .val (.int (cf 0)), .val (.int (cf 1)), .val (.int (cf 2)), .val (.int (cf 3)), .val (.int (cf 4)), .val (.int (cf 5)), .val (.ref b_e22), .val (.int (Int32.ofNat (own_cnt cf 1))), .val (.int (Int32.ofNat (own_cnt cf 2))), .val (.int (Int32.ofNat (own_cnt cf 3))), .val (.int (Int32.ofNat (own_cnt cf 4))), .val (.int (Int32.ofNat (own_cnt cf 5))), .val (.int (Int32.ofNat (own_cnt cf 6)))] [])) _
    refine XS.aload X29.here hx rfl (hb hby at_284) rfl rfl ?_
    show Steps p.tables e below (T29.setTop (mkF m 286 #[.val (.int p1), .val (.int p2), .val (.int (Int32.ofNat n)), .val (.ref b1), .val (.int (cf 0)), .val (.int (cf 1)), .val (.int (cf 2)), .val (.int (cf 3)), .val (.int (cf 4)), .val (.int (cf 5)), .val (.ref b_e22), .val (.int (Int32.ofNat (own_cnt cf 1))), .val (.int (Int32.ofNat (own_cnt cf 2))), .val (.int (Int32.ofNat (own_cnt cf 3))), .val (.int (Int32.ofNat (own_cnt cf 4))), .val (.int (Int32.ofNat (own_cnt cf 5))), .val (.int (Int32.ofNat (own_cnt cf 6)))] [(.ref b_e22)])) _
    refine XS.iconst X29.here hx rfl (hb hby at_286) ?_
    show Steps p.tables e below (T29.setTop (mkF m 287 #[.val (.int p1), .val (.int p2), .val (.int (Int32.ofNat n)), .val (.ref b1), .val (.int (cf 0)), .val (.int (cf 1)), .val (.int (cf 2)), .val (.int (cf 3)), .val (.int (cf 4)), .val (.int (cf 5)), .val (.ref b_e22), .val (.int (Int32.ofNat (own_cnt cf 1))), .val (.int (Int32.ofNat (own_cnt cf 2))), .val (.int (Int32.ofNat (own_cnt cf 3))), .val (.int (Int32.ofNat (own_cnt cf 4))), .val (.int (Int32.ofNat (own_cnt cf 5))), .val (.int (Int32.ofNat (own_cnt cf 6)))] [(.int (4 : Int32)), (.ref b_e22)])) _
    refine XS.iload X29.here hx rfl (hb hby at_287) rfl ?_
    show Steps p.tables e below (T29.setTop (mkF m 289 #[.val (.int p1), .val (.int p2), .val (.int (Int32.ofNat n)), .val (.ref b1), .val (.int (cf 0)), .val (.int (cf 1)), .val (.int (cf 2)), .val (.int (cf 3)), .val (.int (cf 4)), .val (.int (cf 5)), .val (.ref b_e22), .val (.int (Int32.ofNat (own_cnt cf 1))), .val (.int (Int32.ofNat (own_cnt cf 2))), .val (.int (Int32.ofNat (own_cnt cf 3))), .val (.int (Int32.ofNat (own_cnt cf 4))), .val (.int (Int32.ofNat (own_cnt cf 5))), .val (.int (Int32.ofNat (own_cnt cf 6)))] [(.int (cf 4)), (.int (4 : Int32)), (.ref b_e22)])) _
    refine XS.iload X29.here hx rfl (hb hby at_289) rfl ?_
    show Steps p.tables e below (T29.setTop (mkF m 291 #[.val (.int p1), .val (.int p2), .val (.int (Int32.ofNat n)), .val (.ref b1), .val (.int (cf 0)), .val (.int (cf 1)), .val (.int (cf 2)), .val (.int (cf 3)), .val (.int (cf 4)), .val (.int (cf 5)), .val (.ref b_e22), .val (.int (Int32.ofNat (own_cnt cf 1))), .val (.int (Int32.ofNat (own_cnt cf 2))), .val (.int (Int32.ofNat (own_cnt cf 3))), .val (.int (Int32.ofNat (own_cnt cf 4))), .val (.int (Int32.ofNat (own_cnt cf 5))), .val (.int (Int32.ofNat (own_cnt cf 6)))] [(.int (Int32.ofNat (own_cnt cf 4))), (.int (cf 4)), (.int (4 : Int32)), (.ref b_e22)])) _
    refine st30 _ ?_
    show Steps p.tables e below (T30.setTop (mkF m 294 #[.val (.int p1), .val (.int p2), .val (.int (Int32.ofNat n)), .val (.ref b1), .val (.int (cf 0)), .val (.int (cf 1)), .val (.int (cf 2)), .val (.int (cf 3)), .val (.int (cf 4)), .val (.int (cf 5)), .val (.ref b_e22), .val (.int (Int32.ofNat (own_cnt cf 1))), .val (.int (Int32.ofNat (own_cnt cf 2))), .val (.int (Int32.ofNat (own_cnt cf 3))), .val (.int (Int32.ofNat (own_cnt cf 4))), .val (.int (Int32.ofNat (own_cnt cf 5))), .val (.int (Int32.ofNat (own_cnt cf 6)))] [(.int (1 : Int32))])) _
    refine XS.ifNo X30.here hx rfl (hb hby at_294) rfl ((if0 _ _).trans (feq (show ¬ ((1 : Int32) = (0 : Int32)) from (by decide))).1) ?_
    show Steps p.tables e below (T30.setTop (mkF m 297 #[.val (.int p1), .val (.int p2), .val (.int (Int32.ofNat n)), .val (.ref b1), .val (.int (cf 0)), .val (.int (cf 1)), .val (.int (cf 2)), .val (.int (cf 3)), .val (.int (cf 4)), .val (.int (cf 5)), .val (.ref b_e22), .val (.int (Int32.ofNat (own_cnt cf 1))), .val (.int (Int32.ofNat (own_cnt cf 2))), .val (.int (Int32.ofNat (own_cnt cf 3))), .val (.int (Int32.ofNat (own_cnt cf 4))), .val (.int (Int32.ofNat (own_cnt cf 5))), .val (.int (Int32.ofNat (own_cnt cf 6)))] [])) _
    refine XS.aload X30.here hx rfl (hb hby at_297) rfl rfl ?_
    show Steps p.tables e below (T30.setTop (mkF m 299 #[.val (.int p1), .val (.int p2), .val (.int (Int32.ofNat n)), .val (.ref b1), .val (.int (cf 0)), .val (.int (cf 1)), .val (.int (cf 2)), .val (.int (cf 3)), .val (.int (cf 4)), .val (.int (cf 5)), .val (.ref b_e22), .val (.int (Int32.ofNat (own_cnt cf 1))), .val (.int (Int32.ofNat (own_cnt cf 2))), .val (.int (Int32.ofNat (own_cnt cf 3))), .val (.int (Int32.ofNat (own_cnt cf 4))), .val (.int (Int32.ofNat (own_cnt cf 5))), .val (.int (Int32.ofNat (own_cnt cf 6)))] [(.ref b_e22)])) _
    refine XS.iconst X30.here hx rfl (hb hby at_299) ?_
    show Steps p.tables e below (T30.setTop (mkF m 300 #[.val (.int p1), .val (.int p2), .val (.int (Int32.ofNat n)), .val (.ref b1), .val (.int (cf 0)), .val (.int (cf 1)), .val (.int (cf 2)), .val (.int (cf 3)), .val (.int (cf 4)), .val (.int (cf 5)), .val (.ref b_e22), .val (.int (Int32.ofNat (own_cnt cf 1))), .val (.int (Int32.ofNat (own_cnt cf 2))), .val (.int (Int32.ofNat (own_cnt cf 3))), .val (.int (Int32.ofNat (own_cnt cf 4))), .val (.int (Int32.ofNat (own_cnt cf 5))), .val (.int (Int32.ofNat (own_cnt cf 6)))] [(.int (5 : Int32)), (.ref b_e22)])) _
    refine XS.iload X30.here hx rfl (hb hby at_300) rfl ?_
    show Steps p.tables e below (T30.setTop (mkF m 302 #[.val (.int p1), .val (.int p2), .val (.int (Int32.ofNat n)), .val (.ref b1), .val (.int (cf 0)), .val (.int (cf 1)), .val (.int (cf 2)), .val (.int (cf 3)), .val (.int (cf 4)), .val (.int (cf 5)), .val (.ref b_e22), .val (.int (Int32.ofNat (own_cnt cf 1))), .val (.int (Int32.ofNat (own_cnt cf 2))), .val (.int (Int32.ofNat (own_cnt cf 3))), .val (.int (Int32.ofNat (own_cnt cf 4))), .val (.int (Int32.ofNat (own_cnt cf 5))), .val (.int (Int32.ofNat (own_cnt cf 6)))] [(.int (cf 5)), (.int (5 : Int32)), (.ref b_e22)])) _
    refine XS.iload X30.here hx rfl (hb hby at_302) rfl ?_
    show Steps p.tables e below (T30.setTop (mkF m 304 #[.val (.int p1), .val (.int p2), .val (.int (Int32.ofNat n)), .val (.ref b1), .val (.int (cf 0)), .val (.int (cf 1)), .val (.int (cf 2)), .val (.int (cf 3)), .val (.int (cf 4)), .val (.int (cf 5)), .val (.ref b_e22), .val (.int (Int32.ofNat (own_cnt cf 1))), .val (.int (Int32.ofNat (own_cnt cf 2))), .val (.int (Int32.ofNat (own_cnt cf 3))), .val (.int (Int32.ofNat (own_cnt cf 4))), .val (.int (Int32.ofNat (own_cnt cf 5))), .val (.int (Int32.ofNat (own_cnt cf 6)))] [(.int (Int32.ofNat (own_cnt cf 5))), (.int (cf 5)), (.int (5 : Int32)), (.ref b_e22)])) _
    refine st31 _ ?_
    show Steps p.tables e below (T31.setTop (mkF m 307 #[.val (.int p1), .val (.int p2), .val (.int (Int32.ofNat n)), .val (.ref b1), .val (.int (cf 0)), .val (.int (cf 1)), .val (.int (cf 2)), .val (.int (cf 3)), .val (.int (cf 4)), .val (.int (cf 5)), .val (.ref b_e22), .val (.int (Int32.ofNat (own_cnt cf 1))), .val (.int (Int32.ofNat (own_cnt cf 2))), .val (.int (Int32.ofNat (own_cnt cf 3))), .val (.int (Int32.ofNat (own_cnt cf 4))), .val (.int (Int32.ofNat (own_cnt cf 5))), .val (.int (Int32.ofNat (own_cnt cf 6)))] [(.int (1 : Int32))])) _
    refine XS.ifNo X31.here hx rfl (hb hby at_307) rfl ((if0 _ _).trans (feq (show ¬ ((1 : Int32) = (0 : Int32)) from (by decide))).1) ?_
    show Steps p.tables e below (T31.setTop (mkF m 310 #[.val (.int p1), .val (.int p2), .val (.int (Int32.ofNat n)), .val (.ref b1), .val (.int (cf 0)), .val (.int (cf 1)), .val (.int (cf 2)), .val (.int (cf 3)), .val (.int (cf 4)), .val (.int (cf 5)), .val (.ref b_e22), .val (.int (Int32.ofNat (own_cnt cf 1))), .val (.int (Int32.ofNat (own_cnt cf 2))), .val (.int (Int32.ofNat (own_cnt cf 3))), .val (.int (Int32.ofNat (own_cnt cf 4))), .val (.int (Int32.ofNat (own_cnt cf 5))), .val (.int (Int32.ofNat (own_cnt cf 6)))] [])) _
    refine XS.iconst X31.here hx rfl (hb hby at_310) ?_
    show Steps p.tables e below (T31.setTop (mkF m 311 #[.val (.int p1), .val (.int p2), .val (.int (Int32.ofNat n)), .val (.ref b1), .val (.int (cf 0)), .val (.int (cf 1)), .val (.int (cf 2)), .val (.int (cf 3)), .val (.int (cf 4)), .val (.int (cf 5)), .val (.ref b_e22), .val (.int (Int32.ofNat (own_cnt cf 1))), .val (.int (Int32.ofNat (own_cnt cf 2))), .val (.int (Int32.ofNat (own_cnt cf 3))), .val (.int (Int32.ofNat (own_cnt cf 4))), .val (.int (Int32.ofNat (own_cnt cf 5))), .val (.int (Int32.ofNat (own_cnt cf 6)))] [(.int (1 : Int32))])) _
    refine XS.goto X31.here hx rfl (pc0 := 311) (pc' := 315) rfl (hb hby at_311) (by decide) (by decide) ?_
    show Steps p.tables e below (T31.setTop (mkF m 315 #[.val (.int p1), .val (.int p2), .val (.int (Int32.ofNat n)), .val (.ref b1), .val (.int (cf 0)), .val (.int (cf 1)), .val (.int (cf 2)), .val (.int (cf 3)), .val (.int (cf 4)), .val (.int (cf 5)), .val (.ref b_e22), .val (.int (Int32.ofNat (own_cnt cf 1))), .val (.int (Int32.ofNat (own_cnt cf 2))), .val (.int (Int32.ofNat (own_cnt cf 3))), .val (.int (Int32.ofNat (own_cnt cf 4))), .val (.int (Int32.ofNat (own_cnt cf 5))), .val (.int (Int32.ofNat (own_cnt cf 6)))] [(.int (1 : Int32))])) _
    exact retN X31 hx (t := .boolean) Bd.returns (by simp) (hb hby at_315) hr
  · show Qrm0 Z p1 p2 h0 n0 _ T31.heap _
    rw [e31q]
    exact ⟨rfl, N31⟩
set_option maxRecDepth 65536 in
set_option maxHeartbeats 40000000 in
theorem comes_1 {Post : Tables → Env → Array Value → State → Outcome → State → Prop} (hpost : ∀ tb e args s v u, (limb_1_1.after args s (.returned v) u = true ∧ limb_1_2.after args s (.returned v) u = true ∧ True) → FrameEnd s (.returned v) u (Jvm.fieldLocs frame_1_writes args s ++ Jvm.arrayLocs frame_1_arrays args s ++ Jvm.staticLocs frame_1_statics s) 16 128 → Post tb e args s (.returned v) u) :
    ArmFor flags0 classFile x code maxLocals ret World_1 tables_1 room_1 Calls_1 rest_1 Pre_1 Post := by
  intro l hfl _ _ p e ha hc hk s m args below hf hA hF happ hP
  obtain ⟨hcalls, hrest, hpre⟩ := hP
  obtain ⟨-, -, -, hnamed, -, -, -, hat⟩ := (Spec.applies_iff hf).mp happ
  obtain ⟨hg, hn⟩ := and_e (Cond.before_iff.mp (show (Jvm.Cond.and given_1 narrow_1).before args s = true from hpre))
  obtain ⟨gv1, gv2⟩ := and_e hg
  obtain ⟨gv3, gv4⟩ := and_e gv2
  obtain ⟨w0, w1, rfl⟩ : ∃ w0 w1 : Value, args = #[w0, w1] := by
    have hs : args.size = 2 := by simpa [Cond.value, given_1] using gv1
    obtain ⟨L⟩ := args
    match L, hs with
    | [w0, w1], _ => exact ⟨w0, w1, rfl⟩
  have hw := fun d (hd : d ∈ tables_1) => atoms_spec (ws := Jvm.Cond.code x code maxLocals ret :: tables_1) hat d (List.mem_cons_of_mem _ hd)
  have hfit : Fit s := fun {y c} hc i hi => by
    obtain ⟨ha, rfl⟩ := Array.getElem?_eq_some_iff.mp hc
    have q := List.all_eq_true.mp ((Array.all_eq_true_iff_forall_mem.mp hF) _ (Array.getElem_mem ha)) i (List.mem_range.mpr hi)
    simpa [Array.getElem?_eq_getElem hi] using q
  obtain ⟨i0, ei0⟩ := is_v gv3
  obtain rfl : w0 = (.int i0) := Option.some.inj ei0
  obtain ⟨i1, ei1⟩ := is_v gv4
  obtain rfl : w1 = (.int i1) := Option.some.inj ei1
  obtain ⟨n, o, h1, h2, h3, _, L, rfl, ⟨rfl, N⟩, hq⟩ := rm0 l s _ hw tables_1 i0 i1  s.heap s.heap.size (Nat.le_refl _)  p e ha hc hk s m _ below hf ((Spec.applies_iff_loose hf).mp happ).1 ⟨rfl, State.Warmed39.refl s, rfl⟩ trivial
  refine ⟨n, _, h1, h2, h3, hpost _ _ _ _ _ _ ⟨Cond.after_iff.mpr rfl, Cond.after_iff.mpr (eq_i res_at (Term.int_eval (1)) rfl), trivial⟩ ⟨hq.1, hq.2.1, (hq.2.2.sift fun y hy => Or.inr (N y hy)).mono (by decide) (by decide)⟩⟩
theorem main_1_1 : Claimed_1_1 := comes_1 fun _ _ _ _ _ _ h hF => ⟨h.1, hF⟩
theorem main_1_2 : Claimed_1_2 := comes_1 fun _ _ _ _ _ _ h hF => ⟨h.2.1, hF⟩
end Jvm.Pilot.@@N@@
namespace Jvm.Pilot.@@N@@
open Jvm Jvm.ClassFile Sem Op Lib Jvm.Free Jvm.Stand Jvm.Pilot.@@N@@.Jvm.D
/-! MADE BY PROGRAM (witnessworld.py) out of the Statement's table words and the real class files: 11 classes; the members and pool entries that the words name. The judged class is class 1, her method 3. -/
namespace start1
open Jvm.ClassFile
def u (s : String) : CpInfo := .utf8 (stringToUtf16 s)
/-- a pool by its gaps: so many unusable entries, then the entry; so many at the end -/
def gap : Nat → List CpInfo → List CpInfo
  | 0, r => r
  | n + 1, r => .unusable :: gap n r
def poolList (es : List (Nat × CpInfo)) (last : Nat) : List CpInfo := es.foldr (fun e r => gap e.1 (e.2 :: r)) (gap last [])
def pool (es : List (Nat × CpInfo)) (last : Nat) : Array CpInfo := ⟨poolList es last⟩
def fileOf (pool : Array CpInfo) (this : Nat) (attrs : Array Attribute := #[]) (ms : Array MethodInfo := #[]) (fl : Nat := 33) (sup : Nat := 0) (ifs : Array Nat := #[]) (fds : Array FieldInfo := #[]) : ClassFile where
  minorVersion := 0
  majorVersion := 65
  constantPool := pool
  accessFlags := fl
  thisClass := this
  superClass := sup
  interfaces := ifs
  fields := fds
  methods := ms
  attributes := attrs
def plain (name : String) (sup : Option ClassId) : Class where
  name := name
  kind := .ordinary
  loader := none
  accessFlags := 33
  super := sup
  interfaces := #[]
  cf := none
  fields := #[]
  methods := #[]
  instanceTypes := #[]
  staticTypes := #[]
  resolved := #[]
  callSites := []
  init := .initialized
  statics := none
  mirror := none

def pool0 : Array CpInfo := pool [(5, u "<init>"), (0, u "()V"), (1, .class_ 10), (1, u "java/lang/Object")] 113

def k0m0 : Method := { name := "<init>", desc := "()V", sig := { parameters := [], returnType := none }, accessFlags := 1, code := none }
/-- java/lang/Object -/
def k0 : Class := { plain "java/lang/Object" none with
  accessFlags := 33
  interfaces := #[]
  cf := some (fileOf pool0 8 #[] #[{ accessFlags := 1, nameIndex := 5, descriptorIndex := 6, attributes := #[] }] 33 0 #[] #[])
  fields := #[]
  methods := #[k0m0]
  instanceTypes := #[]
  staticTypes := #[]
  resolved := Array.replicate 124 none
  statics := none }

def pool1 : Array CpInfo := pool [(2, .class_ 4), (1, u "java/lang/Object"), (0, u "<init>"), (0, u "()V"), (0, .integer 2147483647), (0, .methodref 9 10), (0, .class_ 11), (0, .nameAndType 12 13), (0, u "stillmark/PlacementIndicesPinLaw"), (0, u "bit"), (0, u "(III)I"), (0, .methodref 15 16), (0, .class_ 17), (0, .nameAndType 18 19), (0, u "stillmark/Placement"), (0, u "indices"), (0, u "([Z)[I"), (0, .methodref 9 21), (0, .nameAndType 22 23), (0, u "at"), (0, u "([IIII)Z"), (3, u "law"), (0, u "(II)Z")] 6

def k1m0 : Method := { name := "<init>", desc := "()V", sig := { parameters := [], returnType := none }, accessFlags := 1, code := none }
def k1c1 : Code := { maxStack := 2, maxLocals := 3, code := method_2_code, exceptionTable := #[], attributes := #[] }
def k1m1 : Method := { name := "bit", desc := "(III)I", sig := { parameters := [.int, .int, .int], returnType := some .int }, accessFlags := 10, code := some k1c1 }
def k1c2 : Code := { maxStack := 2, maxLocals := 4, code := method_3_code, exceptionTable := #[], attributes := #[] }
def k1m2 : Method := { name := "at", desc := "([IIII)Z", sig := { parameters := [(.array .int), .int, .int, .int], returnType := some .boolean }, accessFlags := 10, code := some k1c2 }
def k1c3 : Code := { maxStack := 4, maxLocals := 17, code := code, exceptionTable := #[], attributes := #[] }
def k1m3 : Method := { name := "law", desc := "(II)Z", sig := { parameters := [.int, .int], returnType := some .boolean }, accessFlags := 9, code := some k1c3 }
/-- stillmark/PlacementIndicesPinLaw -/
def k1 : Class := { plain "stillmark/PlacementIndicesPinLaw" (some 0) with
  accessFlags := 49
  interfaces := #[]
  cf := some (fileOf pool1 9 #[] #[{ accessFlags := 1, nameIndex := 5, descriptorIndex := 6, attributes := #[] }, { accessFlags := 10, nameIndex := 12, descriptorIndex := 13, attributes := #[] }, { accessFlags := 10, nameIndex := 22, descriptorIndex := 23, attributes := #[] }, { accessFlags := 9, nameIndex := 27, descriptorIndex := 28, attributes := #[] }] 49 2 #[] #[])
  fields := #[]
  methods := #[k1m0, k1m1, k1m2, k1m3]
  instanceTypes := #[]
  staticTypes := #[]
  resolved := Array.replicate 35 none
  statics := none }

def pool2 : Array CpInfo := pool [(2, .class_ 4), (1, u "java/lang/Object"), (3, .class_ 10), (1, u "stillmark/Placement"), (0, u "sites"), (0, u "I"), (8, u "replicas"), (0, u "Ljava/util/List;"), (71, u "indices"), (0, u "([Z)[I"), (109, u "MAX_PARTITIONS"), (2, u "FNV_OFFSET_BASIS"), (0, u "J"), (0, u "FNV_PRIME")] 47

def k2c0 : Code := { maxStack := 3, maxLocals := 6, code := prog_132_method_10_code, exceptionTable := #[], attributes := #[] }
def k2m0 : Method := { name := "indices", desc := "([Z)[I", sig := { parameters := [(.array .boolean)], returnType := some (.array .int) }, accessFlags := 8, code := some k2c0 }
/-- stillmark/Placement -/
def k2 : Class := { plain "stillmark/Placement" (some 0) with
  accessFlags := 48
  interfaces := #[]
  cf := some (fileOf pool2 8 #[] #[{ accessFlags := 8, nameIndex := 94, descriptorIndex := 95, attributes := #[] }] 48 2 #[] #[{ accessFlags := 24, nameIndex := 205, descriptorIndex := 12, attributes := #[] }, { accessFlags := 26, nameIndex := 208, descriptorIndex := 209, attributes := #[] }, { accessFlags := 26, nameIndex := 210, descriptorIndex := 209, attributes := #[] }, { accessFlags := 18, nameIndex := 11, descriptorIndex := 12, attributes := #[] }, { accessFlags := 18, nameIndex := 21, descriptorIndex := 22, attributes := #[] }])
  fields := #[{ name := "MAX_PARTITIONS", type := .int, accessFlags := 24, slot := 0, constantValue := 0 }, { name := "FNV_OFFSET_BASIS", type := .long, accessFlags := 26, slot := 1, constantValue := 0 }, { name := "FNV_PRIME", type := .long, accessFlags := 26, slot := 2, constantValue := 0 }, { name := "sites", type := .int, accessFlags := 18, slot := 0, constantValue := 0 }, { name := "replicas", type := (.object "java/util/List"), accessFlags := 18, slot := 1, constantValue := 0 }]
  methods := #[k2m0]
  instanceTypes := #[.int, (.object "java/util/List")]
  staticTypes := #[.int, .long, .long]
  resolved := Array.replicate 258 none
  statics := none }

def pool3 : Array CpInfo := pool [(1, u "java/lang/Cloneable"), (0, .class_ 1), (0, u "java/lang/Object"), (0, .class_ 3)] 3

/-- java/lang/Cloneable -/
def k3 : Class := { plain "java/lang/Cloneable" (some 0) with
  accessFlags := 1537
  interfaces := #[]
  cf := some (fileOf pool3 2 #[] #[] 1537 4 #[] #[])
  fields := #[]
  methods := #[]
  instanceTypes := #[]
  staticTypes := #[]
  resolved := Array.replicate 8 none
  statics := none }

def pool4 : Array CpInfo := pool [(1, u "java/io/Serializable"), (0, .class_ 1), (0, u "java/lang/Object"), (0, .class_ 3)] 3

/-- java/io/Serializable -/
def k4 : Class := { plain "java/io/Serializable" (some 0) with
  accessFlags := 1537
  interfaces := #[]
  cf := some (fileOf pool4 2 #[] #[] 1537 4 #[] #[])
  fields := #[]
  methods := #[]
  instanceTypes := #[]
  staticTypes := #[]
  resolved := Array.replicate 8 none
  statics := none }

/-- the primitive boolean -/
def k5 : Class := { plain "boolean" none with kind := .primitive 'Z', accessFlags := 0x411 }
/-- [Z -/
def k6 : Class := { plain "[Z" (some 0) with kind := .array 5 .boolean, interfaces := #[3, 4], accessFlags := 1041 }

/-- the primitive byte -/
def k7 : Class := { plain "byte" none with kind := .primitive 'B', accessFlags := 0x411 }
/-- [B -/
def k8 : Class := { plain "[B" (some 0) with kind := .array 7 .byte, interfaces := #[3, 4], accessFlags := 1041 }

/-- the primitive int -/
def k9 : Class := { plain "int" none with kind := .primitive 'I', accessFlags := 0x411 }
/-- [I -/
def k10 : Class := { plain "[I" (some 0) with kind := .array 9 .int, interfaces := #[3, 4], accessFlags := 1041 }

def heap : Heap := #[]
def classes : Array Class := #[k0, k1, k2, k3, k4, k5, k6, k7, k8, k9, k10]
def interned : List (Array UInt16 × Addr) := []
def slotsUsed : Nat := 0
def theMethod : MethodId := ⟨1, 3⟩
def args0 : Array Value := #[.int 5, .int 6]
def aboutOver (below : List Frame) : State where
  vm := { classes := classes, interned := interned.toArray }
  heap := heap
  slotsUsed := slotsUsed
  threads := #[{ frames := .invoking theMethod args0 :: below }]
def below0 : List Frame := [.native { method := ⟨0, 0⟩, args := #[] }]
def about1 : State := aboutOver below0
def p0 : Program := .bare "" "" ""
def e0 : Env := launch0.env 0 0 0
theorem w_frames : about1.frames = Frame.invoking theMethod args0 :: below0 := rfl
set_option maxRecDepth 65536 in
theorem w_args : argsFit about1.vm theMethod args0 = true := by decide +kernel
set_option maxRecDepth 65536 in
theorem w_heap : heapFits about1 = true := by decide +kernel
set_option maxRecDepth 65536 in
theorem w_runnable : about1.curStatus? = some .runnable := by decide +kernel
set_option maxRecDepth 65536 in
theorem w_alone : about1.alone = true := by decide +kernel
set_option maxRecDepth 65536 in
theorem w_named : about1.methodNamed? x = some theMethod := by decide +kernel
set_option maxRecDepth 65536 in
theorem w_hears : about1.hears theMethod below0 = true := by decide +kernel
set_option maxRecDepth 65536 in
theorem w_ripe : about1.ripe theMethod args0 below0 = true := by decide +kernel
theorem w_running : about1.status = .running := rfl
set_option maxRecDepth 65536 in
theorem w_room : about1.hasRoom e0.platform room_1 = true :=
  launch0.hasRoom_least _ room_1 (by decide +kernel) (by decide +kernel) (by decide +kernel) (by decide +kernel) (by decide +kernel) (by decide +kernel)
theorem allAtoms_all (ts : List Jvm.Cond) (a : Array Jvm.Value) (st : Jvm.State) : (allAtoms ts).before a st = ts.all (fun c => c.before a st) := by
  induction ts with
  | nil => rfl
  | cons c t ih =>
    show (Jvm.Cond.and c (allAtoms t)).before a st = _
    rw [Jvm.Cond.before_and, ih, List.all_cons]
def words1 : List Jvm.Cond := Jvm.Cond.code x code maxLocals ret :: tables_1
/-- a 'code' word, met by the world's own term for the bytes: nothing is compared byte by byte -/
theorem code_word {y : MethodName} {bytes : ByteArray} {mx : Nat} {rt : Option FieldType} {a : Array Value} {s : State} {m : MethodId} {meth : Method} {c : Code} (h1 : s.methodNamed? y = some m) (h2 : s.vm.method? m = some meth) (h3 : meth.code = some c) (h4 : c.code = bytes)
    (h5 : (c.maxLocals == mx && c.exceptionTable.isEmpty && decide (c.maxStack ≤ mostOperands) && decide (meth.sig.returnType = rt) && !meth.locks && decide (parseMethodDescriptor y.desc = some meth.sig)) = true) : (Jvm.Cond.code y bytes mx rt).before a s = true := by
  simp only [Bool.and_eq_true, beq_iff_eq, Bool.not_eq_true', decide_eq_true_eq] at h5
  obtain ⟨⟨⟨⟨⟨g1, g2⟩, g3⟩, g4⟩, g5⟩, g6⟩ := h5
  simp [Cond.before, Cond.holds, Cond.value, h1, h2, h3, h4, g1, g2, g3, g4, g5, g6]
def isCode : Jvm.Cond → Bool
  | .code _ _ _ _ => true
  | _ => false
theorem all_split {L : List Jvm.Cond} {P : Jvm.Cond → Bool} (h1 : L.all (fun c => isCode c || P c) = true) (h2 : ∀ c ∈ L.filter isCode, P c = true) : L.all P = true := by
  refine List.all_eq_true.mpr fun c hc => ?_
  have h := List.all_eq_true.mp h1 c hc
  rcases Bool.eq_false_or_eq_true (isCode c) with hi | hi
  · exact h2 c (List.mem_filter.mpr ⟨hc, hi⟩)
  · simpa [hi] using h
set_option maxRecDepth 65536 in
theorem w_c0 : (Jvm.Cond.code x code maxLocals ret).before args0 about1 = true := code_word (m := ⟨1, 3⟩) (meth := k1m3) (c := k1c3) (by decide +kernel) rfl rfl rfl (by decide +kernel)
set_option maxRecDepth 65536 in
theorem w_c1 : (Jvm.Cond.code ({ cls := "stillmark/PlacementIndicesPinLaw", name := "bit", desc := "(III)I" } : Jvm.MethodName) method_2_code (3 : Nat) (Option.some Jvm.ClassFile.FieldType.int)).before args0 about1 = true := code_word (m := ⟨1, 1⟩) (meth := k1m1) (c := k1c1) (by decide +kernel) rfl rfl rfl (by decide +kernel)
set_option maxRecDepth 65536 in
theorem w_c2 : (Jvm.Cond.code ({ cls := "stillmark/Placement", name := "indices", desc := "([Z)[I" } : Jvm.MethodName) prog_132_method_10_code (6 : Nat) (Option.some (Jvm.ClassFile.FieldType.array Jvm.ClassFile.FieldType.int))).before args0 about1 = true := code_word (m := ⟨2, 0⟩) (meth := k2m0) (c := k2c0) (by decide +kernel) rfl rfl rfl (by decide +kernel)
set_option maxRecDepth 65536 in
theorem w_c3 : (Jvm.Cond.code ({ cls := "stillmark/PlacementIndicesPinLaw", name := "at", desc := "([IIII)Z" } : Jvm.MethodName) method_3_code (4 : Nat) (Option.some Jvm.ClassFile.FieldType.boolean)).before args0 about1 = true := code_word (m := ⟨1, 2⟩) (meth := k1m2) (c := k1c2) (by decide +kernel) rfl rfl rfl (by decide +kernel)
def codes1 : List Jvm.Cond := [Jvm.Cond.code x code maxLocals ret, Jvm.Cond.code ({ cls := "stillmark/PlacementIndicesPinLaw", name := "bit", desc := "(III)I" } : Jvm.MethodName) method_2_code (3 : Nat) (Option.some Jvm.ClassFile.FieldType.int), Jvm.Cond.code ({ cls := "stillmark/Placement", name := "indices", desc := "([Z)[I" } : Jvm.MethodName) prog_132_method_10_code (6 : Nat) (Option.some (Jvm.ClassFile.FieldType.array Jvm.ClassFile.FieldType.int)), Jvm.Cond.code ({ cls := "stillmark/PlacementIndicesPinLaw", name := "at", desc := "([IIII)Z" } : Jvm.MethodName) method_3_code (4 : Nat) (Option.some Jvm.ClassFile.FieldType.boolean)]
set_option maxRecDepth 65536 in
theorem codes_eq : words1.filter isCode = codes1 := rfl
theorem w_codes : ∀ c ∈ words1.filter isCode, c.before args0 about1 = true := by
  rw [codes_eq]
  intro c hc
  simp only [codes1, List.mem_cons, List.not_mem_nil, or_false] at hc
  rcases hc with rfl | rfl | rfl | rfl
  · exact w_c0
  · exact w_c1
  · exact w_c2
  · exact w_c3
set_option maxRecDepth 65536 in
theorem w_t1 : words1.all (fun c => isCode c || c.before args0 about1) = true := by decide +kernel
theorem w_tables : (allAtoms (Jvm.Cond.code x code maxLocals ret :: tables_1)).before args0 about1 = true := by
  rw [allAtoms_all]
  show words1.all (fun c => c.before args0 about1) = true
  refine all_split ?_ w_codes
  rw [w_t1]
set_option maxRecDepth 65536 in
theorem w_case : (Jvm.Cond.and given_1 narrow_1).before args0 about1 = true := by decide +kernel
theorem w_applies : (headSpec (Jvm.Cond.code x code maxLocals ret :: tables_1) room_1).applies x e0.platform about1 = true :=
  (Spec.applies_iff w_frames).mpr ⟨w_running, w_runnable, w_alone, w_named, w_hears, w_ripe, w_room, w_tables⟩
theorem atStart : AtStart classFile x code maxLocals ret World_1 tables_1 room_1 Calls_1 rest_1 Pre_1 launch0 p0 e0 about1 theMethod args0 below0 :=
  ⟨lists_1, trivial, launch0.admits_env _ _ _, launch0.least_env, fairChoices_fair.cas, fairChoices_fair.clock, w_frames, w_args, w_heap, w_applies, trivial, trivial, w_case⟩
end start1
theorem witness_1 : WitnessClaimed_1 := ⟨start1.p0, start1.e0, start1.about1, start1.theMethod, start1.args0, start1.below0, start1.atStart⟩
end Jvm.Pilot.@@N@@

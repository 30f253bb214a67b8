import JvmDerived
import JvmDerived.Pilot.@@N@@Statement
import JvmDerived.Pilot.@@N@@Code
set_option linter.unusedVariables false
set_option linter.unusedSimpArgs false
namespace Jvm.RoadKit
open Sem ClassFile Op Lib Jvm.Stand Jvm.Free Jvm.LawKit
section New
variable {p : Program} {l : Launch} {e : Env} {R : Room} {s : State} {m : MethodId} {args : Array Value} {below : List Frame} {meth : Method} {c : Code} {T : State} {locs : List Loc} {cells slots : Nat}
theorem retI (X : Stand p l e R s m args below meth c T locs cells slots) (hx : p.tables.exec = Jvm.exec) {pc : Nat} {Ls : Array Slot} {z : Int32} {rest : List Value} (hret : meth.sig.returnType = some .int) (hd : decode c.code pc = .ok (.ireturn, 1)) {fs : List Frame}
    (hl : ∀ (f : JFrame) (acts : List Action), f.method = m → f.locked = none → f.entered = [] → (doReturn e (T.setTop f) acts (some (.int z))).1 = T.setFrames fs) : Steps p.tables e below (T.setTop (mkF m pc Ls (.int z :: rest))) (T.setFrames fs) := by
  have hm' : T.vm.method? m = some meth := X.method'
  have hn : narrow .int (.int z) = .int z := rfl
  show Steps p.tables e below (T.setTop { method := m, pc := pc, locals := Ls, stack := _ :: rest, locked := none }) _
  jvm_step X.here [X.here.top, hx, hd, hm', hret, hn]
  first | (intro acts; rw [hl _ acts rfl rfl rfl]) | rw [hl _ _ rfl rfl rfl]
  exact Steps.refl _
end New
end Jvm.RoadKit
namespace Jvm.Pilot.@@N@@
open Jvm Jvm.ClassFile Sem Op Lib Jvm.Free Jvm.Stand Jvm.LawKit Jvm.RoadKit Bundle Jvm.Pilot.@@N@@.Jvm.D
/-- an array of n places, place j holds f j -/
def Av (Z : State) (h : Heap) (a : Addr) (ty : FieldType) (n : Nat) (f : Nat → Value) : Prop := ∃ cl : Cell, Arr Z h a cl ty ∧ cl.slots.size = n ∧ ∀ j, j < n → cl.slots[j]? = some (f j)
theorem Av.ext {Z : State} {h h' : Heap} {a : Addr} {ty : FieldType} {n : Nat} {f : Nat → Value} (A : Av Z h a ty n f) (E : Ext h h') : Av Z h' a ty n f := by obtain ⟨c, A, r⟩ := A; exact ⟨c, A.ext E, r⟩
theorem Av.lt {Z : State} {h : Heap} {a : Addr} {ty : FieldType} {n : Nat} {f : Nat → Value} (A : Av Z h a ty n f) : a < h.size := by obtain ⟨c, A, r⟩ := A; exact A.lt
theorem Av.other {Z : State} {h h' : Heap} {a b : Addr} {ty : FieldType} {n sl : Nat} {v : Value} {f : Nat → Value} (A : Av Z h b ty n f) (W : Wr h h' a sl v) (q : b ≠ a) : Av Z h' b ty n f := by obtain ⟨c, A, r⟩ := A; exact ⟨c, A.other W q, r⟩
theorem Av.keep {Z : State} {h h' : Heap} {a : Addr} {ws : List Addr} {ty : FieldType} {n : Nat} {f : Nat → Value} (A : Av Z h a ty n f) (K : Keep h h' ws) (q : a ∉ ws) : Av Z h' a ty n f := by obtain ⟨c, A, r⟩ := A; exact ⟨c, ⟨K.2.1 a c A.1 q, A.2⟩, r⟩
theorem Av.congr {Z : State} {h : Heap} {a : Addr} {ty : FieldType} {n : Nat} {f f' : Nat → Value} (e : ∀ j, j < n → f' j = f j) (A : Av Z h a ty n f) : Av Z h a ty n f' := by obtain ⟨c, A, S, H⟩ := A; exact ⟨c, A, S, fun j hj => by rw [H j hj, e j hj]⟩
theorem Av.new {Z : State} {h : Heap} {a : Addr} {k : ClassId} {ty : FieldType} {z : Int32} {n : Nat} (A : Arr Z h a (newA k ty z) ty) (q : ¬ z < 0) (e : z.toNatClampNeg = n) : Av Z h a ty n (fun _ => defaultValue ty) := by
  obtain ⟨c, B, -, S, -, H, -⟩ := Arv.new A q
  exact ⟨c, B, S.trans e, fun j hj => by have := H j (by rw [S, e]; exact hj); simpa using this⟩
theorem Av.set {Z : State} {h h' : Heap} {a : Addr} {ty : FieldType} {n i : Nat} {f : Nat → Value} {cl : Cell} {j : Int32} {v w : Value} (A : Arr Z h a cl ty) (S : cl.slots.size = n) (H : ∀ j, j < n → cl.slots[j]? = some (f j)) (W : Wr h h' a j.toNatClampNeg v) (hj : j.toNatClampNeg = i) (e : v = w) : Av Z h' a ty n (fun j => if j = i then w else f j) := by
  subst e hj
  refine ⟨_, A.same W, by simp [Cell.setSlot, S], fun k hk => ?_⟩
  show (cl.slots.setIfInBounds j.toNatClampNeg v)[k]? = _
  rw [Array.getElem?_setIfInBounds]
  by_cases q : j.toNatClampNeg = k
  · subst q; simp [S, hk]
  · rw [if_neg q, H k hk]
    show some (f k) = some (if k = j.toNatClampNeg then v else f k)
    rw [if_neg (fun u => q (Eq.symm u))]
def own_l (v : Nat → Int64) (j : Nat) : Value := .long (v j)
def own_set (v : Nat → Int64) (k : Nat) (y : Int64) : Nat → Int64 := fun j => if j = k then y else v j
def own_min (u y : Int64) : Int64 := if y < u then y else u
theorem own_set_l (v : Nat → Int64) (k : Nat) (y : Int64) (j : Nat) : own_l (own_set v k y) j = (fun j => if j = k then (.long y) else (own_l v) j) j := by
  show own_l (own_set v k y) j = if j = k then (.long y) else own_l v j
  unfold own_l own_set
  split <;> rfl
theorem own_fill (v : Nat → Int64) (y : Int64) (j : Nat) (hj : j < 4) : own_l (fun _ => y) j = (fun j => if j = 3 then (.long y) else (fun j => if j = 2 then (.long y) else (fun j => if j = 1 then (.long y) else (fun j => if j = 0 then (.long y) else (own_l v) j) j) j) j) j := by
  show Value.long y = if j = 3 then (.long y) else if j = 2 then (.long y) else if j = 1 then (.long y) else if j = 0 then (.long y) else own_l v j
  split
  · rfl
  split
  · rfl
  split
  · rfl
  split
  · rfl
  · omega
theorem own_min_int (u y : Int64) : (own_min u y).toInt = min u.toInt y.toInt := by
  unfold own_min
  split
  · rename_i h; rw [Int64.lt_iff_toInt_lt] at h; omega
  · rename_i h; rw [Int64.lt_iff_toInt_lt] at h; omega
theorem own_kmin : (-9223372036854775808 : Int64).toInt = -9223372036854775808 := by decide
theorem own_low (x u y w : Int64) (h : u = -9223372036854775808 ∨ y = -9223372036854775808 ∨ w = -9223372036854775808) : own_min (own_min (own_min x u) y) w = -9223372036854775808 := by
  apply Int64.toInt_inj.mp
  have h1 := rng64 x
  have h2 := rng64 u
  have h3 := rng64 y
  have h4 := rng64 w
  rw [own_min_int, own_min_int, own_min_int, own_kmin]
  rcases h with rfl | rfl | rfl <;> rw [own_kmin] <;> omega
theorem own_minA (x b d : Int64) : own_min (own_min x b) d = own_min x (own_min b d) := Int64.toInt_inj.mp (by rw [own_min_int, own_min_int, own_min_int, own_min_int]; omega)
theorem own_minB (x b d : Int64) : own_min (own_min x d) b = own_min x (own_min b d) := Int64.toInt_inj.mp (by rw [own_min_int, own_min_int, own_min_int, own_min_int]; omega)
theorem own_k1 : (1 : Int64).toInt = 1 := by decide
theorem own_t (x : Int32) : 0 ≤ (x.toInt64 &&& (2147483647 : Int64)).toInt ∧ (x.toInt64 &&& (2147483647 : Int64)).toInt < 2147483648 := by
  rw [c_maskL _ 2147483647 31 (by decide) (by decide)]
  have : ((2 ^ 31 : Nat) : Int) = 2147483648 := by decide
  rw [this]
  omega
theorem own_s (x : Int32) : 0 ≤ (x &&& (268435455 : Int32)).toInt64.toInt ∧ (x &&& (268435455 : Int32)).toInt64.toInt < 268435456 := by
  rw [c_i2l]
  have h := c_and x 268435455 (by decide)
  rw [show (268435455 : Int32).toInt = 268435455 by decide] at h
  omega
theorem own_e1 (t u : Int64) : (t + u) - u = t := by
  apply Int64.toInt_inj.mp
  have h1 := c_ladd t u
  have h2 := c_lsub (t + u) u
  have h3 := rng64 t
  have h4 := rng64 ((t + u) - u)
  omega
theorem own_e2 (t u : Int64) : ((t + u) + 1) - u = t + 1 := by
  apply Int64.toInt_inj.mp
  have h1 := c_ladd t u
  have h2 := c_lsub ((t + u) + 1) u
  have h5 := c_ladd (t + u) 1
  have h6 := c_ladd t 1
  have h3 := rng64 (t + 1)
  have h4 := rng64 (((t + u) + 1) - u)
  omega
theorem own_up (t : Int64) (h : 0 ≤ t.toInt ∧ t.toInt < 2147483648) : t < t + 1 := by
  rw [Int64.lt_iff_toInt_lt]
  have h6 := c_ladd t 1
  have h3 := rng64 (t + 1)
  rw [own_k1] at h6
  omega
theorem own_irr (t : Int64) : ¬ t < t := by rw [Int64.lt_iff_toInt_lt]; omega
theorem own_asym {t u : Int64} (h : t < u) : ¬ u < t := by rw [Int64.lt_iff_toInt_lt] at *; omega
theorem own_sel (x : Int32) : (x &&& (3 : Int32)) = 0 ∨ (x &&& (3 : Int32)) = 1 ∨ (x &&& (3 : Int32)) = 2 ∨ (x &&& (3 : Int32)) = 3 := by
  have h := c_and x 3 (by decide)
  rw [show (3 : Int32).toInt = 3 by decide] at h
  generalize (x &&& (3 : Int32)) = y at h
  have : y.toInt = 0 ∨ y.toInt = 1 ∨ y.toInt = 2 ∨ y.toInt = 3 := by omega
  rcases this with e | e | e | e
  · exact Or.inl (Int32.toInt_inj.mp (e.trans (by decide)))
  · exact Or.inr (Or.inl (Int32.toInt_inj.mp (e.trans (by decide))))
  · exact Or.inr (Or.inr (Or.inl (Int32.toInt_inj.mp (e.trans (by decide)))))
  · exact Or.inr (Or.inr (Or.inr (Int32.toInt_inj.mp (e.trans (by decide)))))
theorem d4_0 : decode jdk_65_method_101_code 0 = .ok (.iconst 0, 1) := by decide +kernel
theorem d4_1 : decode jdk_65_method_101_code 1 = .ok (.istore_n 3, 1) := by decide +kernel
theorem d4_2 : decode jdk_65_method_101_code 2 = .ok (.aload_n 0, 1) := by decide +kernel
theorem d4_3 : decode jdk_65_method_101_code 3 = .ok (.arraylength, 1) := by decide +kernel
theorem d4_4 : decode jdk_65_method_101_code 4 = .ok (.istore 4, 2) := by decide +kernel
theorem d4_6 : decode jdk_65_method_101_code 6 = .ok (.iload_n 3, 1) := by decide +kernel
theorem d4_7 : decode jdk_65_method_101_code 7 = .ok (.iload 4, 2) := by decide +kernel
theorem d4_9 : decode jdk_65_method_101_code 9 = .ok (.if_icmp .ge 13, 3) := by decide +kernel
theorem d4_12 : decode jdk_65_method_101_code 12 = .ok (.aload_n 0, 1) := by decide +kernel
theorem d4_13 : decode jdk_65_method_101_code 13 = .ok (.iload_n 3, 1) := by decide +kernel
theorem d4_14 : decode jdk_65_method_101_code 14 = .ok (.lload_n 1, 1) := by decide +kernel
theorem d4_15 : decode jdk_65_method_101_code 15 = .ok (.lastore, 1) := by decide +kernel
theorem d4_16 : decode jdk_65_method_101_code 16 = .ok (.iinc 3 1, 3) := by decide +kernel
theorem d4_19 : decode jdk_65_method_101_code 19 = .ok (.goto (-13), 3) := by decide +kernel
theorem d4_22 : decode jdk_65_method_101_code 22 = .ok (.return_, 1) := by decide +kernel
theorem pn_0 : plainName "java/util/Arrays" = true := by first | (simp [plainName, overriddenIn]; done) | decide +kernel
theorem ef_4 (m : MethodId) (x0 : Addr) (x1 : Int64) : entryFrame m #[(.ref x0), (.long x1)] 5 = mkF m 0 #[.val (.ref x0), .val (.long x1), .second, .unset, .unset] [] := by first | (simp [entryFrame, mkF, argsToLocals, Value.category]; done) | rfl
def Qrm4 (Z : State) (t : Addr) (y : Int64) (f : Nat → Int64) (h0 : Heap) (n0 : Nat) (v : Option Value) (h : Heap) (L : List Loc) : Prop := v = none ∧ Fr n0 L ∧ Keep h0 h [t] ∧ Av Z h t .long 4 (own_l (fun _ => y))
set_option maxRecDepth 65536 in
set_option maxHeartbeats 40000000 in
theorem rm4 (l : Launch) (Z : State) (a0 : Array Value) (hw : ∀ d ∈ tables_1, d.before a0 Z = true) (ws : List Jvm.Cond) (t : Addr) (y : Int64) (f : Nat → Int64) (h0 : Heap) (n0 : Nat) (Z0 : n0 ≤ h0.size) (A_t : Av Z h0 t .long 4 (own_l f)) (g_t : n0 ≤ t) :
    MetFree l (⟨"java/util/Arrays", "fill", "([JJ)V"⟩ : MethodName) (head1 (Jvm.Cond.code (⟨"java/util/Arrays", "fill", "([JJ)V"⟩ : MethodName) jdk_65_method_101_code 5 none :: ws) ({ frames := 0, cells := 0, slots := 0, locals := 0 } : Room)) (fun aa_ U => aa_ = #[(.ref t), (.long y)] ∧ Z.Warmed39 U.vm ∧ U.heap = h0) (fun _ _ _ _ _ => True) (fun _ U o U' => ∃ v L, o = .returned v ∧ Qrm4 Z t y f h0 n0 v U'.heap L ∧ FrameEnd U o U' L ({ frames := 0, cells := 0, slots := 0, locals := 0 } : Room).cells ({ frames := 0, cells := 0, slots := 0, locals := 0 } : Room).slots) := by
  refine MetFree.of_bodySF (plainFor_of_name pn_0) hisR ?_
  intro p e s m args below meth c s₁ Bd hml0 hP hK
  obtain ⟨rfl, hZ, hh⟩ := hP
  have hx := Bd.exec
  have hby := Bd.bytes
  have hml : c.maxLocals = 5 := hml0
  have hown : s.vm.findClass "java/util/Arrays" = some m.cls := findClass_of_methodNamed Bd.named
  have hnm := (name_of_methodNamed Bd.named Bd.method).1
  have X0 : Stand p l e ({ frames := 0, cells := 0, slots := 0, locals := 0 } : Room) s m #[(.ref t), (.long y)] below meth c s₁ [] 0 0 := Stand.of_body Bd
  have e0 : s₁.heap = h0 := by rw [← hh, Bd.state]; rfl
  have N0 := Fr.nil n0
  have pre0 : ∀ tt_, Steps p.tables e below (s₁.setTop (mkF m 0 #[.val (.ref t), .val (.long y), .second, .unset, .unset] [])) tt_ → Steps p.tables e below (s₁.setTop (entryFrame m #[(.ref t), (.long y)] 5)) tt_ := fun tt_ kk_ => castTop (ef_4 m t y) kk_
  obtain ⟨cl1, Ar1, S1, -⟩ := id A_t
  obtain ⟨cl2, Ar2, S2, H2⟩ := id A_t
  have hj2 : (0 : Int32).toNatClampNeg = 0 := (by decide)
  have hin2 : ¬ ((0 : Int32) < 0 ∨ cl2.slots.size ≤ ((0 : Int32)).toNatClampNeg) := by rw [S2, hj2]; exact fun q => q.elim (by decide) (Nat.not_le.mpr (by decide))
  obtain ⟨T3, h3, X3, e3, W3, st3⟩ := stJ X0 hx hZ e0 Ar2 (j := (0 : Int32)) hin2 (g := (mkF m 15 #[.val (.ref t), .val (.long y), .second, .val (.int (0 : Int32)), .val (.int (4 : Int32))] [(.long y), (.int (0 : Int32)), (.ref t)])) rfl rfl (hb hby d4_15)
  have N3 := Fr.snoc X3 N0 g_t
  have Aw3 : Av Z h3 t .long 4 (fun jj_ => if jj_ = 0 then (.long y) else (own_l f) jj_) := Av.set Ar2 S2 H2 W3 hj2 rfl
  obtain ⟨cl4, Ar4, S4, H4⟩ := id Aw3
  have hj4 : (1 : Int32).toNatClampNeg = 1 := (by decide)
  have hin4 : ¬ ((1 : Int32) < 0 ∨ cl4.slots.size ≤ ((1 : Int32)).toNatClampNeg) := by rw [S4, hj4]; exact fun q => q.elim (by decide) (Nat.not_le.mpr (by decide))
  obtain ⟨T5, h5, X5, e5, W5, st5⟩ := stJ X3 hx hZ e3 Ar4 (j := (1 : Int32)) hin4 (g := (mkF m 15 #[.val (.ref t), .val (.long y), .second, .val (.int (1 : Int32)), .val (.int (4 : Int32))] [(.long y), (.int (1 : Int32)), (.ref t)])) rfl rfl (hb hby d4_15)
  have N5 := Fr.snoc X5 N3 g_t
  have Aw5 : Av Z h5 t .long 4 (fun jj_ => if jj_ = 1 then (.long y) else (fun jj_ => if jj_ = 0 then (.long y) else (own_l f) jj_) jj_) := Av.set Ar4 S4 H4 W5 hj4 rfl
  obtain ⟨cl6, Ar6, S6, H6⟩ := id Aw5
  have hj6 : (2 : Int32).toNatClampNeg = 2 := (by decide)
  have hin6 : ¬ ((2 : Int32) < 0 ∨ cl6.slots.size ≤ ((2 : Int32)).toNatClampNeg) := by rw [S6, hj6]; exact fun q => q.elim (by decide) (Nat.not_le.mpr (by decide))
  obtain ⟨T7, h7, X7, e7, W7, st7⟩ := stJ X5 hx hZ e5 Ar6 (j := (2 : Int32)) hin6 (g := (mkF m 15 #[.val (.ref t), .val (.long y), .second, .val (.int (2 : Int32)), .val (.int (4 : Int32))] [(.long y), (.int (2 : Int32)), (.ref t)])) rfl rfl (hb hby d4_15)
  have N7 := Fr.snoc X7 N5 g_t
  have Aw7 : Av Z h7 t .long 4 (fun jj_ => if jj_ = 2 then (.long y) else (fun jj_ => if jj_ = 1 then (.long y) else (fun jj_ => if jj_ = 0 then (.long y) else (own_l f) jj_) jj_) jj_) := Av.set Ar6 S6 H6 W7 hj6 rfl
  obtain ⟨cl8, Ar8, S8, H8⟩ := id Aw7
  have hj8 : (3 : Int32).toNatClampNeg = 3 := (by decide)
  have hin8 : ¬ ((3 : Int32) < 0 ∨ cl8.slots.size ≤ ((3 : Int32)).toNatClampNeg) := by rw [S8, hj8]; exact fun q => q.elim (by decide) (Nat.not_le.mpr (by decide))
  obtain ⟨T9, h9, X9, e9, W9, st9⟩ := stJ X7 hx hZ e7 Ar8 (j := (3 : Int32)) hin8 (g := (mkF m 15 #[.val (.ref t), .val (.long y), .second, .val (.int (3 : Int32)), .val (.int (4 : Int32))] [(.long y), (.int (3 : Int32)), (.ref t)])) rfl rfl (hb hby d4_15)
  have N9 := Fr.snoc X9 N7 g_t
  have Aw9 : Av Z h9 t .long 4 (fun jj_ => if jj_ = 3 then (.long y) else (fun jj_ => if jj_ = 2 then (.long y) else (fun jj_ => if jj_ = 1 then (.long y) else (fun jj_ => if jj_ = 0 then (.long y) else (own_l f) jj_) jj_) jj_) jj_) := Av.set Ar8 S8 H8 W9 hj8 rfl
  have rc10 : Av Z h9 t .long 4 (own_l (fun _ => y)) := Av.congr (fun j hj => own_fill f y j hj) Aw9
  have kp11 : Keep h0 h9 [t] := (((((Keep.refl h0 [t]).wr W3 (Or.inl (List.mem_of_getElem? (i := 0) rfl))).wr W5 (Or.inl (List.mem_of_getElem? (i := 0) rfl))).wr W7 (Or.inl (List.mem_of_getElem? (i := 0) rfl))).wr W9 (Or.inl (List.mem_of_getElem? (i := 0) rfl)))
  obtain ⟨fs, hr, hrun, hended, hW, hsame⟩ := X9.leave (v := none) (fun _ => rfl)
  refine ⟨_, _, pre0 _ ?_, hrun, hended, _, _, rfl, ?_, ⟨_, rfl⟩, hW, hsame.mono (by decide) (by decide)⟩
  · show Steps p.tables e below (s₁.setTop (mkF m 0 #[.val (.ref t), .val (.long y), .second, .unset, .unset] [])) _
    refine XS.iconst X0.here hx rfl (hb hby d4_0) ?_
    show Steps p.tables e below (s₁.setTop (mkF m 1 #[.val (.ref t), .val (.long y), .second, .unset, .unset] [(.int (0 : Int32))])) _
    refine XS.istoreN X0.here hx rfl (hb hby d4_1) rfl (l' := #[.val (.ref t), .val (.long y), .second, .val (.int (0 : Int32)), .unset]) rfl ?_
    show Steps p.tables e below (s₁.setTop (mkF m 2 #[.val (.ref t), .val (.long y), .second, .val (.int (0 : Int32)), .unset] [])) _
    refine XS.aloadN X0.here hx rfl (hb hby d4_2) rfl rfl ?_
    show Steps p.tables e below (s₁.setTop (mkF m 3 #[.val (.ref t), .val (.long y), .second, .val (.int (0 : Int32)), .unset] [(.ref t)])) _
    refine X0.arraylength hx (by rw [e0]; exact Ar1.1) (State.isArrayOf_alike hZ.alike Ar1.2.1) (g := (mkF m 3 #[.val (.ref t), .val (.long y), .second, .val (.int (0 : Int32)), .unset] [(.ref t)])) rfl rfl (hb hby d4_3) _ ?_
    rw [S1]
    show Steps p.tables e below (s₁.setTop (mkF m 4 #[.val (.ref t), .val (.long y), .second, .val (.int (0 : Int32)), .unset] [(.int (Nat.toInt32 4))])) _
    rw [show ((Nat.toInt32 4) : Int32) = (4 : Int32) from by decide]
    show Steps p.tables e below (s₁.setTop (mkF m 4 #[.val (.ref t), .val (.long y), .second, .val (.int (0 : Int32)), .unset] [(.int (4 : Int32))])) _
    refine XS.istore X0.here hx rfl (hb hby d4_4) rfl (l' := #[.val (.ref t), .val (.long y), .second, .val (.int (0 : Int32)), .val (.int (4 : Int32))]) rfl ?_
    show Steps p.tables e below (s₁.setTop (mkF m 6 #[.val (.ref t), .val (.long y), .second, .val (.int (0 : Int32)), .val (.int (4 : Int32))] [])) _
    refine XS.iloadN X0.here hx rfl (hb hby d4_6) rfl ?_
    show Steps p.tables e below (s₁.setTop (mkF m 7 #[.val (.ref t), .val (.long y), .second, .val (.int (0 : Int32)), .val (.int (4 : Int32))] [(.int (0 : Int32))])) _
    refine XS.iload X0.here hx rfl (hb hby d4_7) rfl ?_
    show Steps p.tables e below (s₁.setTop (mkF m 9 #[.val (.ref t), .val (.long y), .second, .val (.int (0 : Int32)), .val (.int (4 : Int32))] [(.int (4 : Int32)), (.int (0 : Int32))])) _
    refine XS.icmpNo X0.here hx rfl (hb hby d4_9) rfl (tlt (show (0 : Int32) < (4 : Int32) from (by decide))).2.1 ?_
    show Steps p.tables e below (s₁.setTop (mkF m 12 #[.val (.ref t), .val (.long y), .second, .val (.int (0 : Int32)), .val (.int (4 : Int32))] [])) _
    refine XS.aloadN X0.here hx rfl (hb hby d4_12) rfl rfl ?_
    show Steps p.tables e below (s₁.setTop (mkF m 13 #[.val (.ref t), .val (.long y), .second, .val (.int (0 : Int32)), .val (.int (4 : Int32))] [(.ref t)])) _
    refine XS.iloadN X0.here hx rfl (hb hby d4_13) rfl ?_
    show Steps p.tables e below (s₁.setTop (mkF m 14 #[.val (.ref t), .val (.long y), .second, .val (.int (0 : Int32)), .val (.int (4 : Int32))] [(.int (0 : Int32)), (.ref t)])) _
    refine XS.lloadN X0.here hx rfl (hb hby d4_14) rfl ?_
    show Steps p.tables e below (s₁.setTop (mkF m 15 #[.val (.ref t), .val (.long y), .second, .val (.int (0 : Int32)), .val (.int (4 : Int32))] [(.long y), (.int (0 : Int32)), (.ref t)])) _
    refine st3 _ ?_
    show Steps p.tables e below (T3.setTop (mkF m 16 #[.val (.ref t), .val (.long y), .second, .val (.int (0 : Int32)), .val (.int (4 : Int32))] [])) _
    refine XS.iinc X3.here hx rfl (hb hby d4_16) rfl (l' := #[.val (.ref t), .val (.long y), .second, .val (.int ((0 : Int32) + (1 : Int32))), .val (.int (4 : Int32))]) rfl ?_
    show Steps p.tables e below (T3.setTop (mkF m 19 #[.val (.ref t), .val (.long y), .second, .val (.int ((0 : Int32) + (1 : Int32))), .val (.int (4 : Int32))] [])) _
    rw [show (((0 : Int32) + (1 : Int32)) : Int32) = (1 : Int32) from by decide]
    show Steps p.tables e below (T3.setTop (mkF m 19 #[.val (.ref t), .val (.long y), .second, .val (.int (1 : Int32)), .val (.int (4 : Int32))] [])) _
    refine XS.goto X3.here hx rfl (pc0 := 19) (pc' := 6) rfl (hb hby d4_19) (by decide) (by decide) ?_
    show Steps p.tables e below (T3.setTop (mkF m 6 #[.val (.ref t), .val (.long y), .second, .val (.int (1 : Int32)), .val (.int (4 : Int32))] [])) _
    refine XS.iloadN X3.here hx rfl (hb hby d4_6) rfl ?_
    show Steps p.tables e below (T3.setTop (mkF m 7 #[.val (.ref t), .val (.long y), .second, .val (.int (1 : Int32)), .val (.int (4 : Int32))] [(.int (1 : Int32))])) _
    refine XS.iload X3.here hx rfl (hb hby d4_7) rfl ?_
    show Steps p.tables e below (T3.setTop (mkF m 9 #[.val (.ref t), .val (.long y), .second, .val (.int (1 : Int32)), .val (.int (4 : Int32))] [(.int (4 : Int32)), (.int (1 : Int32))])) _
    refine XS.icmpNo X3.here hx rfl (hb hby d4_9) rfl (tlt (show (1 : Int32) < (4 : Int32) from (by decide))).2.1 ?_
    show Steps p.tables e below (T3.setTop (mkF m 12 #[.val (.ref t), .val (.long y), .second, .val (.int (1 : Int32)), .val (.int (4 : Int32))] [])) _
    refine XS.aloadN X3.here hx rfl (hb hby d4_12) rfl rfl ?_
    show Steps p.tables e below (T3.setTop (mkF m 13 #[.val (.ref t), .val (.long y), .second, .val (.int (1 : Int32)), .val (.int (4 : Int32))] [(.ref t)])) _
    refine XS.iloadN X3.here hx rfl (hb hby d4_13) rfl ?_
    show Steps p.tables e below (T3.setTop (mkF m 14 #[.val (.ref t), .val (.long y), .second, .val (.int (1 : Int32)), .val (.int (4 : Int32))] [(.int (1 : Int32)), (.ref t)])) _
    refine XS.lloadN X3.here hx rfl (hb hby d4_14) rfl ?_
    show Steps p.tables e below (T3.setTop (mkF m 15 #[.val (.ref t), .val (.long y), .second, .val (.int (1 : Int32)), .val (.int (4 : Int32))] [(.long y), (.int (1 : Int32)), (.ref t)])) _
    refine st5 _ ?_
    show Steps p.tables e below (T5.setTop (mkF m 16 #[.val (.ref t), .val (.long y), .second, .val (.int (1 : Int32)), .val (.int (4 : Int32))] [])) _
    refine XS.iinc X5.here hx rfl (hb hby d4_16) rfl (l' := #[.val (.ref t), .val (.long y), .second, .val (.int ((1 : Int32) + (1 : Int32))), .val (.int (4 : Int32))]) rfl ?_
    show Steps p.tables e below (T5.setTop (mkF m 19 #[.val (.ref t), .val (.long y), .second, .val (.int ((1 : Int32) + (1 : Int32))), .val (.int (4 : Int32))] [])) _
    rw [show (((1 : Int32) + (1 : Int32)) : Int32) = (2 : Int32) from by decide]
    show Steps p.tables e below (T5.setTop (mkF m 19 #[.val (.ref t), .val (.long y), .second, .val (.int (2 : Int32)), .val (.int (4 : Int32))] [])) _
    refine XS.goto X5.here hx rfl (pc0 := 19) (pc' := 6) rfl (hb hby d4_19) (by decide) (by decide) ?_
    show Steps p.tables e below (T5.setTop (mkF m 6 #[.val (.ref t), .val (.long y), .second, .val (.int (2 : Int32)), .val (.int (4 : Int32))] [])) _
    refine XS.iloadN X5.here hx rfl (hb hby d4_6) rfl ?_
    show Steps p.tables e below (T5.setTop (mkF m 7 #[.val (.ref t), .val (.long y), .second, .val (.int (2 : Int32)), .val (.int (4 : Int32))] [(.int (2 : Int32))])) _
    refine XS.iload X5.here hx rfl (hb hby d4_7) rfl ?_
    show Steps p.tables e below (T5.setTop (mkF m 9 #[.val (.ref t), .val (.long y), .second, .val (.int (2 : Int32)), .val (.int (4 : Int32))] [(.int (4 : Int32)), (.int (2 : Int32))])) _
    refine XS.icmpNo X5.here hx rfl (hb hby d4_9) rfl (tlt (show (2 : Int32) < (4 : Int32) from (by decide))).2.1 ?_
    show Steps p.tables e below (T5.setTop (mkF m 12 #[.val (.ref t), .val (.long y), .second, .val (.int (2 : Int32)), .val (.int (4 : Int32))] [])) _
    refine XS.aloadN X5.here hx rfl (hb hby d4_12) rfl rfl ?_
    show Steps p.tables e below (T5.setTop (mkF m 13 #[.val (.ref t), .val (.long y), .second, .val (.int (2 : Int32)), .val (.int (4 : Int32))] [(.ref t)])) _
    refine XS.iloadN X5.here hx rfl (hb hby d4_13) rfl ?_
    show Steps p.tables e below (T5.setTop (mkF m 14 #[.val (.ref t), .val (.long y), .second, .val (.int (2 : Int32)), .val (.int (4 : Int32))] [(.int (2 : Int32)), (.ref t)])) _
    refine XS.lloadN X5.here hx rfl (hb hby d4_14) rfl ?_
    show Steps p.tables e below (T5.setTop (mkF m 15 #[.val (.ref t), .val (.long y), .second, .val (.int (2 : Int32)), .val (.int (4 : Int32))] [(.long y), (.int (2 : Int32)), (.ref t)])) _
    refine st7 _ ?_
    show Steps p.tables e below (T7.setTop (mkF m 16 #[.val (.ref t), .val (.long y), .second, .val (.int (2 : Int32)), .val (.int (4 : Int32))] [])) _
    refine XS.iinc X7.here hx rfl (hb hby d4_16) rfl (l' := #[.val (.ref t), .val (.long y), .second, .val (.int ((2 : Int32) + (1 : Int32))), .val (.int (4 : Int32))]) rfl ?_
    show Steps p.tables e below (T7.setTop (mkF m 19 #[.val (.ref t), .val (.long y), .second, .val (.int ((2 : Int32) + (1 : Int32))), .val (.int (4 : Int32))] [])) _
    rw [show (((2 : Int32) + (1 : Int32)) : Int32) = (3 : Int32) from by decide]
    show Steps p.tables e below (T7.setTop (mkF m 19 #[.val (.ref t), .val (.long y), .second, .val (.int (3 : Int32)), .val (.int (4 : Int32))] [])) _
    refine XS.goto X7.here hx rfl (pc0 := 19) (pc' := 6) rfl (hb hby d4_19) (by decide) (by decide) ?_
    show Steps p.tables e below (T7.setTop (mkF m 6 #[.val (.ref t), .val (.long y), .second, .val (.int (3 : Int32)), .val (.int (4 : Int32))] [])) _
    refine XS.iloadN X7.here hx rfl (hb hby d4_6) rfl ?_
    show Steps p.tables e below (T7.setTop (mkF m 7 #[.val (.ref t), .val (.long y), .second, .val (.int (3 : Int32)), .val (.int (4 : Int32))] [(.int (3 : Int32))])) _
    refine XS.iload X7.here hx rfl (hb hby d4_7) rfl ?_
    show Steps p.tables e below (T7.setTop (mkF m 9 #[.val (.ref t), .val (.long y), .second, .val (.int (3 : Int32)), .val (.int (4 : Int32))] [(.int (4 : Int32)), (.int (3 : Int32))])) _
    refine XS.icmpNo X7.here hx rfl (hb hby d4_9) rfl (tlt (show (3 : Int32) < (4 : Int32) from (by decide))).2.1 ?_
    show Steps p.tables e below (T7.setTop (mkF m 12 #[.val (.ref t), .val (.long y), .second, .val (.int (3 : Int32)), .val (.int (4 : Int32))] [])) _
    refine XS.aloadN X7.here hx rfl (hb hby d4_12) rfl rfl ?_
    show Steps p.tables e below (T7.setTop (mkF m 13 #[.val (.ref t), .val (.long y), .second, .val (.int (3 : Int32)), .val (.int (4 : Int32))] [(.ref t)])) _
    refine XS.iloadN X7.here hx rfl (hb hby d4_13) rfl ?_
    show Steps p.tables e below (T7.setTop (mkF m 14 #[.val (.ref t), .val (.long y), .second, .val (.int (3 : Int32)), .val (.int (4 : Int32))] [(.int (3 : Int32)), (.ref t)])) _
    refine XS.lloadN X7.here hx rfl (hb hby d4_14) rfl ?_
    show Steps p.tables e below (T7.setTop (mkF m 15 #[.val (.ref t), .val (.long y), .second, .val (.int (3 : Int32)), .val (.int (4 : Int32))] [(.long y), (.int (3 : Int32)), (.ref t)])) _
    refine st9 _ ?_
    show Steps p.tables e below (T9.setTop (mkF m 16 #[.val (.ref t), .val (.long y), .second, .val (.int (3 : Int32)), .val (.int (4 : Int32))] [])) _
    refine XS.iinc X9.here hx rfl (hb hby d4_16) rfl (l' := #[.val (.ref t), .val (.long y), .second, .val (.int ((3 : Int32) + (1 : Int32))), .val (.int (4 : Int32))]) rfl ?_
    show Steps p.tables e below (T9.setTop (mkF m 19 #[.val (.ref t), .val (.long y), .second, .val (.int ((3 : Int32) + (1 : Int32))), .val (.int (4 : Int32))] [])) _
    rw [show (((3 : Int32) + (1 : Int32)) : Int32) = (4 : Int32) from by decide]
    show Steps p.tables e below (T9.setTop (mkF m 19 #[.val (.ref t), .val (.long y), .second, .val (.int (4 : Int32)), .val (.int (4 : Int32))] [])) _
    refine XS.goto X9.here hx rfl (pc0 := 19) (pc' := 6) rfl (hb hby d4_19) (by decide) (by decide) ?_
    show Steps p.tables e below (T9.setTop (mkF m 6 #[.val (.ref t), .val (.long y), .second, .val (.int (4 : Int32)), .val (.int (4 : Int32))] [])) _
    refine XS.iloadN X9.here hx rfl (hb hby d4_6) rfl ?_
    show Steps p.tables e below (T9.setTop (mkF m 7 #[.val (.ref t), .val (.long y), .second, .val (.int (4 : Int32)), .val (.int (4 : Int32))] [(.int (4 : Int32))])) _
    refine XS.iload X9.here hx rfl (hb hby d4_7) rfl ?_
    show Steps p.tables e below (T9.setTop (mkF m 9 #[.val (.ref t), .val (.long y), .second, .val (.int (4 : Int32)), .val (.int (4 : Int32))] [(.int (4 : Int32)), (.int (4 : Int32))])) _
    refine XS.icmpYes X9.here hx rfl (pc0 := 9) (pc' := 22) rfl (hb hby d4_9) rfl (flt (show ¬ ((4 : Int32) < (4 : Int32)) from (by decide))).2.1 (by decide) (by decide) ?_
    show Steps p.tables e below (T9.setTop (mkF m 22 #[.val (.ref t), .val (.long y), .second, .val (.int (4 : Int32)), .val (.int (4 : Int32))] [])) _
    exact X9.returnOut hx Bd.returns (hb hby d4_22) hr
  · show Qrm4 Z t y f h0 n0 _ T9.heap _
    rw [e9]
    exact ⟨rfl, N9, kp11, rc10⟩
theorem pd_0 : parseMethodDescriptor "([JJ)V" = some ⟨[(.array .long), .long], none⟩ := by decide +kernel
theorem d3_0 : decode prog_146_method_2_code 0 = .ok (.aload_n 0, 1) := by decide +kernel
theorem d3_1 : decode prog_146_method_2_code 1 = .ok (.getfield 20, 3) := by decide +kernel
theorem d3_4 : decode prog_146_method_2_code 4 = .ok (.ldc2_w 33, 3) := by decide +kernel
theorem d3_7 : decode prog_146_method_2_code 7 = .ok (.invokestatic 35, 3) := by decide +kernel
theorem d3_10 : decode prog_146_method_2_code 10 = .ok (.aload_n 0, 1) := by decide +kernel
theorem d3_11 : decode prog_146_method_2_code 11 = .ok (.getfield 24, 3) := by decide +kernel
theorem d3_14 : decode prog_146_method_2_code 14 = .ok (.lload_n 1, 1) := by decide +kernel
theorem d3_15 : decode prog_146_method_2_code 15 = .ok (.invokestatic 35, 3) := by decide +kernel
theorem d3_18 : decode prog_146_method_2_code 18 = .ok (.return_, 1) := by decide +kernel
theorem pn_1 : plainName "stillmark/StableTimes" = true := by first | (simp [plainName, overriddenIn]; done) | decide +kernel
theorem ef_3 (m : MethodId) (x0 : Addr) (x1 : Int64) : entryFrame m #[(.ref x0), (.long x1)] 3 = mkF m 0 #[.val (.ref x0), .val (.long x1), .second] [] := by first | (simp [entryFrame, mkF, argsToLocals, Value.category]; done) | rfl
def Qrm3 (Z : State) (a : Addr) (y : Int64) (t : Addr) (u : Addr) (f : Nat → Int64) (g : Nat → Int64) (h0 : Heap) (n0 : Nat) (v : Option Value) (h : Heap) (L : List Loc) : Prop := v = none ∧ Fr n0 L ∧ Keep h0 h [t, u] ∧ Av Z h t .long 4 (own_l (fun _ => (-9223372036854775808 : Int64))) ∧ Av Z h u .long 4 (own_l (fun _ => y))
set_option maxRecDepth 65536 in
set_option maxHeartbeats 40000000 in
theorem rm3 (l : Launch) (Z : State) (a0 : Array Value) (hw : ∀ d ∈ tables_1, d.before a0 Z = true) (ws : List Jvm.Cond) (a : Addr) (y : Int64) (t : Addr) (u : Addr) (f : Nat → Int64) (g : Nat → Int64) (h0 : Heap) (n0 : Nat) (Z0 : n0 ≤ h0.size) (E_a : Exa Z h0 a "stillmark/StableTimes") (F_told_a : Fld Z h0 a "stillmark/StableTimes" "told" "[J" (.ref t)) (F_heard_a : Fld Z h0 a "stillmark/StableTimes" "heard" "[J" (.ref u)) (A_t : Av Z h0 t .long 4 (own_l f)) (A_u : Av Z h0 u .long 4 (own_l g)) (g_t : n0 ≤ t) (g_u : n0 ≤ u) (ne_a_t : a ≠ t) (ne_a_u : a ≠ u) (ne_t_u : t ≠ u) :
    MetFree l (⟨"stillmark/StableTimes", "begin", "(J)V"⟩ : MethodName) (head1 (Jvm.Cond.code (⟨"stillmark/StableTimes", "begin", "(J)V"⟩ : MethodName) prog_146_method_2_code 3 none :: ws) ({ frames := 1, cells := 0, slots := 0, locals := 16 } : Room)) (fun aa_ U => aa_ = #[(.ref a), (.long y)] ∧ Z.Warmed39 U.vm ∧ U.heap = h0) (fun _ _ _ _ _ => True) (fun _ U o U' => ∃ v L, o = .returned v ∧ Qrm3 Z a y t u f g h0 n0 v U'.heap L ∧ FrameEnd U o U' L ({ frames := 1, cells := 0, slots := 0, locals := 16 } : Room).cells ({ frames := 1, cells := 0, slots := 0, locals := 16 } : Room).slots) := by
  refine MetFree.of_bodySF (plainFor_of_name pn_1) hisR ?_
  intro p e s m args below meth c s₁ Bd hml0 hP hK
  obtain ⟨rfl, hZ, hh⟩ := hP
  have hx := Bd.exec
  have hby := Bd.bytes
  have hml : c.maxLocals = 3 := hml0
  have hown : s.vm.findClass "stillmark/StableTimes" = some m.cls := findClass_of_methodNamed Bd.named
  have hnm := (name_of_methodNamed Bd.named Bd.method).1
  have X0 : Stand p l e ({ frames := 1, cells := 0, slots := 0, locals := 16 } : Room) s m #[(.ref a), (.long y)] below meth c s₁ [] 0 0 := Stand.of_body Bd
  have e0 : s₁.heap = h0 := by rw [← hh, Bd.state]; rfl
  have N0 := Fr.nil n0
  have pre0 : ∀ tt_, Steps p.tables e below (s₁.setTop (mkF m 0 #[.val (.ref a), .val (.long y), .second] [])) tt_ → Steps p.tables e below (s₁.setTop (entryFrame m #[(.ref a), (.long y)] 3)) tt_ := fun tt_ kk_ => castTop (ef_3 m a y) kk_
  obtain ⟨T1, X1, e1, st1⟩ := getF X0 hx hZ hown (host := "") (Or.inl (hw _ (List.mem_of_getElem? (i := 18) rfl))) Via.refl e0 F_told_a (g := (mkF m 1 #[.val (.ref a), .val (.long y), .second] [(.ref a)])) rfl rfl (hb hby d3_1)
  obtain ⟨_, _, ⟨T2, L2, k2, n2⟩, -, X2, ⟨Lc2, hQ2, l2, y2, z2⟩, st2⟩ := Jvm.LawKit.callS X1 hx (y := (⟨"java/util/Arrays", "fill", "([JJ)V"⟩ : MethodName)) hown (mvT hZ (hw _ (List.mem_of_getElem? (i := 28) rfl))) (mvT hZ (hw _ (List.mem_of_getElem? (i := 29) rfl))) (mvT hZ (hw _ (List.mem_of_getElem? (i := 30) rfl))) (mvT hZ (hw _ (List.mem_of_getElem? (i := 31) rfl))) (by decide) (backOf (W := 0) (rm4 l Z a0 hw [] t (-9223372036854775808 : Int64) f h0 n0 Z0 A_t g_t) hZ (hw _ (List.mem_of_getElem? (i := 31) rfl)) (hw _ (List.mem_of_getElem? (i := 30) rfl)) (by decide) (by decide)) (g := (mkF m 7 #[.val (.ref a), .val (.long y), .second] [(.long (-9223372036854775808 : Int64)), (.ref t)])) rfl (by rw [hml]; rfl) (argsL := [(.ref t), (.long (-9223372036854775808 : Int64))]) (rest := []) (lenOf pd_0 rfl) rfl (by show 2 * 0 + _ ≤ _; exact Nat.le_of_eq rfl) (hb hby d3_7) (fun _ _ => ⟨rfl, e1, (by decide : 0 + 0 ≤ _), (by decide : 0 + 0 ≤ _)⟩)
  dsimp only [Pt.U, Pt.locs, Pt.cells, Pt.slots] at X2 l2 y2 z2 st2 hQ2
  subst l2 y2 z2
  obtain ⟨rfl, N2q, K2, p2_1⟩ := hQ2
  have N2 := Fr.app N0 N2q
  have f3_F_a_heard := (F_heard_a.keep K2 (ninS ne_a_t nin0))
  obtain ⟨T4, X4, e4, st4⟩ := getF X2 hx hZ hown (host := "") (Or.inl (hw _ (List.mem_of_getElem? (i := 20) rfl))) Via.refl rfl f3_F_a_heard (g := (mkF m 11 #[.val (.ref a), .val (.long y), .second] [(.ref a)])) rfl rfl (hb hby d3_11)
  have f6_A_u := (A_u.keep K2 (ninS (Ne.symm ne_t_u) nin0))
  have sz7 : n0 ≤ T2.heap.size := (Nat.le_trans Z0 K2.1)
  obtain ⟨_, _, ⟨T5, L5, k5, n5⟩, -, X5, ⟨Lc5, hQ5, l5, y5, z5⟩, st5⟩ := Jvm.LawKit.callS X4 hx (y := (⟨"java/util/Arrays", "fill", "([JJ)V"⟩ : MethodName)) hown (mvT hZ (hw _ (List.mem_of_getElem? (i := 28) rfl))) (mvT hZ (hw _ (List.mem_of_getElem? (i := 29) rfl))) (mvT hZ (hw _ (List.mem_of_getElem? (i := 30) rfl))) (mvT hZ (hw _ (List.mem_of_getElem? (i := 31) rfl))) (by decide) (backOf (W := 0) (rm4 l Z a0 hw [] u y g (T2.heap) n0 sz7 f6_A_u g_u) hZ (hw _ (List.mem_of_getElem? (i := 31) rfl)) (hw _ (List.mem_of_getElem? (i := 30) rfl)) (by decide) (by decide)) (g := (mkF m 15 #[.val (.ref a), .val (.long y), .second] [(.long y), (.ref u)])) rfl (by rw [hml]; rfl) (argsL := [(.ref u), (.long y)]) (rest := []) (lenOf pd_0 rfl) rfl (by show 2 * 0 + _ ≤ _; exact Nat.le_of_eq rfl) (hb hby d3_15) (fun _ _ => ⟨rfl, e4, (by decide : 0 + 0 ≤ _), (by decide : 0 + 0 ≤ _)⟩)
  dsimp only [Pt.U, Pt.locs, Pt.cells, Pt.slots] at X5 l5 y5 z5 st5 hQ5
  subst l5 y5 z5
  obtain ⟨rfl, N5q, K5, p5_1⟩ := hQ5
  have N5 := Fr.app N2 N5q
  have kp8 : Keep h0 T5.heap [t, u] := (((Keep.refl h0 [t, u]).trans K2 (allS (Or.inl (List.mem_of_getElem? (i := 0) rfl)) all0)).trans K5 (allS (Or.inl (List.mem_of_getElem? (i := 1) rfl)) all0))
  have f9_A_t := (p2_1.keep K5 (ninS ne_t_u nin0))
  obtain ⟨fs, hr, hrun, hended, hW, hsame⟩ := X5.leave (v := none) (fun _ => rfl)
  refine ⟨_, _, pre0 _ ?_, hrun, hended, _, _, rfl, ?_, ⟨_, rfl⟩, hW, hsame.mono (by decide) (by decide)⟩
  · show Steps p.tables e below (s₁.setTop (mkF m 0 #[.val (.ref a), .val (.long y), .second] [])) _
    refine XS.aloadN X0.here hx rfl (hb hby d3_0) rfl rfl ?_
    show Steps p.tables e below (s₁.setTop (mkF m 1 #[.val (.ref a), .val (.long y), .second] [(.ref a)])) _
    refine st1 _ ?_
    show Steps p.tables e below (T1.setTop (mkF m 4 #[.val (.ref a), .val (.long y), .second] [(.ref t)])) _
    refine X1.ldc2Long hx hown (mvT hZ (hw _ (List.mem_of_getElem? (i := 27) rfl))) (g := (mkF m 4 #[.val (.ref a), .val (.long y), .second] [(.ref t)])) rfl (hb hby d3_4) _ ?_
    show Steps p.tables e below (T1.setTop (mkF m 7 #[.val (.ref a), .val (.long y), .second] [(.long (-9223372036854775808 : Int64)), (.ref t)])) _
    refine st2 _ ?_
    show Steps p.tables e below (T2.setTop (mkF m 10 #[.val (.ref a), .val (.long y), .second] [])) _
    refine XS.aloadN X2.here hx rfl (hb hby d3_10) rfl rfl ?_
    show Steps p.tables e below (T2.setTop (mkF m 11 #[.val (.ref a), .val (.long y), .second] [(.ref a)])) _
    refine st4 _ ?_
    show Steps p.tables e below (T4.setTop (mkF m 14 #[.val (.ref a), .val (.long y), .second] [(.ref u)])) _
    refine XS.lloadN X4.here hx rfl (hb hby d3_14) rfl ?_
    show Steps p.tables e below (T4.setTop (mkF m 15 #[.val (.ref a), .val (.long y), .second] [(.long y), (.ref u)])) _
    refine st5 _ ?_
    show Steps p.tables e below (T5.setTop (mkF m 18 #[.val (.ref a), .val (.long y), .second] [])) _
    exact X5.returnOut hx Bd.returns (hb hby d3_18) hr
  · show Qrm3 Z a y t u f g h0 n0 _ T5.heap _
    exact ⟨rfl, N5, kp8, f9_A_t, p5_1⟩
theorem pd_1 : parseMethodDescriptor "(J)V" = some ⟨[.long], none⟩ := by decide +kernel
theorem d1_0 : decode prog_146_method_1_code 0 = .ok (.aload_n 0, 1) := by decide +kernel
theorem d1_1 : decode prog_146_method_1_code 1 = .ok (.invokespecial 1, 3) := by decide +kernel
theorem d1_4 : decode prog_146_method_1_code 4 = .ok (.aload_n 0, 1) := by decide +kernel
theorem d1_5 : decode prog_146_method_1_code 5 = .ok (.iload_n 1, 1) := by decide +kernel
theorem d1_6 : decode prog_146_method_1_code 6 = .ok (.putfield 7, 3) := by decide +kernel
theorem d1_9 : decode prog_146_method_1_code 9 = .ok (.aload_n 0, 1) := by decide +kernel
theorem d1_10 : decode prog_146_method_1_code 10 = .ok (.iload_n 3, 1) := by decide +kernel
theorem d1_11 : decode prog_146_method_1_code 11 = .ok (.putfield 13, 3) := by decide +kernel
theorem d1_14 : decode prog_146_method_1_code 14 = .ok (.aload_n 0, 1) := by decide +kernel
theorem d1_15 : decode prog_146_method_1_code 15 = .ok (.lload 4, 2) := by decide +kernel
theorem d1_17 : decode prog_146_method_1_code 17 = .ok (.putfield 16, 3) := by decide +kernel
theorem d1_20 : decode prog_146_method_1_code 20 = .ok (.aload_n 0, 1) := by decide +kernel
theorem d1_21 : decode prog_146_method_1_code 21 = .ok (.iload_n 2, 1) := by decide +kernel
theorem d1_22 : decode prog_146_method_1_code 22 = .ok (.newarray .long, 2) := by decide +kernel
theorem d1_24 : decode prog_146_method_1_code 24 = .ok (.putfield 20, 3) := by decide +kernel
theorem d1_27 : decode prog_146_method_1_code 27 = .ok (.aload_n 0, 1) := by decide +kernel
theorem d1_28 : decode prog_146_method_1_code 28 = .ok (.iload_n 2, 1) := by decide +kernel
theorem d1_29 : decode prog_146_method_1_code 29 = .ok (.newarray .long, 2) := by decide +kernel
theorem d1_31 : decode prog_146_method_1_code 31 = .ok (.putfield 24, 3) := by decide +kernel
theorem d1_34 : decode prog_146_method_1_code 34 = .ok (.aload_n 0, 1) := by decide +kernel
theorem d1_35 : decode prog_146_method_1_code 35 = .ok (.lload 6, 2) := by decide +kernel
theorem d1_37 : decode prog_146_method_1_code 37 = .ok (.invokevirtual 27, 3) := by decide +kernel
theorem d1_40 : decode prog_146_method_1_code 40 = .ok (.return_, 1) := by decide +kernel
theorem ef_1 (m : MethodId) (x0 : Addr) (x1 : Int32) (x2 : Int32) (x3 : Int32) (x4 : Int64) (x5 : Int64) : entryFrame m #[(.ref x0), (.int x1), (.int x2), (.int x3), (.long x4), (.long x5)] 8 = mkF m 0 #[.val (.ref x0), .val (.int x1), .val (.int x2), .val (.int x3), .val (.long x4), .second, .val (.long x5), .second] [] := by first | (simp [entryFrame, mkF, argsToLocals, Value.category]; done) | rfl
def Qrm1 (Z : State) (a : Addr) (sl : Int64) (y : Int64) (h0 : Heap) (n0 : Nat) (v : Option Value) (h : Heap) (L : List Loc) : Prop := ∃ t : Addr, ∃ u : Addr, v = none ∧ Fr n0 L ∧ Keep h0 h [a] ∧ Exa Z h a "stillmark/StableTimes" ∧ Fld Z h a "stillmark/StableTimes" "own" "I" (.int (0 : Int32)) ∧ Fld Z h a "stillmark/StableTimes" "majority" "I" (.int (3 : Int32)) ∧ Fld Z h a "stillmark/StableTimes" "silence" "J" (.long sl) ∧ Fld Z h a "stillmark/StableTimes" "told" "[J" (.ref t) ∧ Fld Z h a "stillmark/StableTimes" "heard" "[J" (.ref u) ∧ Av Z h t .long 4 (own_l (fun _ => (-9223372036854775808 : Int64))) ∧ Av Z h u .long 4 (own_l (fun _ => y)) ∧ n0 ≤ t ∧ n0 ≤ u ∧ a ≠ t ∧ a ≠ u ∧ t ≠ u
set_option maxRecDepth 65536 in
set_option maxHeartbeats 40000000 in
theorem rm1 (l : Launch) (Z : State) (a0 : Array Value) (hw : ∀ d ∈ tables_1, d.before a0 Z = true) (ws : List Jvm.Cond) (a : Addr) (sl : Int64) (y : Int64) (h0 : Heap) (n0 : Nat) (Z0 : n0 ≤ h0.size) (E_a : Exa Z h0 a "stillmark/StableTimes") (F_own_a : Fld Z h0 a "stillmark/StableTimes" "own" "I" (.int (0 : Int32))) (F_majority_a : Fld Z h0 a "stillmark/StableTimes" "majority" "I" (.int (0 : Int32))) (F_silence_a : Fld Z h0 a "stillmark/StableTimes" "silence" "J" (.long (0 : Int64))) (F_told_a : Fld Z h0 a "stillmark/StableTimes" "told" "[J" .null) (F_heard_a : Fld Z h0 a "stillmark/StableTimes" "heard" "[J" .null) (g_a : n0 ≤ a) :
    MetFree l (⟨"stillmark/StableTimes", "<init>", "(IIIJJ)V"⟩ : MethodName) (head1 (Jvm.Cond.code (⟨"stillmark/StableTimes", "<init>", "(IIIJJ)V"⟩ : MethodName) prog_146_method_1_code 8 none :: ws) ({ frames := 2, cells := 2, slots := 8, locals := 30 } : Room)) (fun aa_ U => aa_ = #[(.ref a), (.int (0 : Int32)), (.int (4 : Int32)), (.int (3 : Int32)), (.long sl), (.long y)] ∧ Z.Warmed39 U.vm ∧ U.heap = h0) (fun _ _ _ _ _ => True) (fun _ U o U' => ∃ v L, o = .returned v ∧ Qrm1 Z a sl y h0 n0 v U'.heap L ∧ FrameEnd U o U' L ({ frames := 2, cells := 2, slots := 8, locals := 30 } : Room).cells ({ frames := 2, cells := 2, slots := 8, locals := 30 } : Room).slots) := by
  refine MetFree.of_bodySF (plainFor_of_name pn_1) hisR ?_
  intro p e s m args below meth c s₁ Bd hml0 hP hK
  obtain ⟨rfl, hZ, hh⟩ := hP
  have hx := Bd.exec
  have hby := Bd.bytes
  have hml : c.maxLocals = 8 := hml0
  have hown : s.vm.findClass "stillmark/StableTimes" = some m.cls := findClass_of_methodNamed Bd.named
  have hnm := (name_of_methodNamed Bd.named Bd.method).1
  have X0 : Stand p l e ({ frames := 2, cells := 2, slots := 8, locals := 30 } : Room) s m #[(.ref a), (.int (0 : Int32)), (.int (4 : Int32)), (.int (3 : Int32)), (.long sl), (.long y)] below meth c s₁ [] 0 0 := Stand.of_body Bd
  have e0 : s₁.heap = h0 := by rw [← hh, Bd.state]; rfl
  have N0 := Fr.nil n0
  have pre0 : ∀ tt_, Steps p.tables e below (s₁.setTop (mkF m 0 #[.val (.ref a), .val (.int (0 : Int32)), .val (.int (4 : Int32)), .val (.int (3 : Int32)), .val (.long sl), .second, .val (.long y), .second] [])) tt_ → Steps p.tables e below (s₁.setTop (entryFrame m #[(.ref a), (.int (0 : Int32)), (.int (4 : Int32)), (.int (3 : Int32)), (.long sl), (.long y)] 8)) tt_ := fun tt_ kk_ => castTop (ef_1 m a (0 : Int32) (4 : Int32) (3 : Int32) sl y) kk_
  obtain ⟨T1, X1, e1, st1⟩ := initO X0 hx hZ hown (hw _ (List.mem_of_getElem? (i := 8) rfl)) (hw _ (List.mem_of_getElem? (i := 9) rfl)) (hw _ (List.mem_of_getElem? (i := 10) rfl)) e0 (g := (mkF m 1 #[.val (.ref a), .val (.int (0 : Int32)), .val (.int (4 : Int32)), .val (.int (3 : Int32)), .val (.long sl), .second, .val (.long y), .second] [(.ref a)])) rfl (by rw [hml]; rfl) rfl (hb hby d1_1) (by decide) (W := 0) (by show 2 * 0 + _ ≤ _; exact Nat.le_of_eq rfl) (by decide)
  obtain ⟨T2, h2, X2, e2, W2, st2⟩ := putF X1 hx hZ hown (host := "") (Or.inl (hw _ (List.mem_of_getElem? (i := 11) rfl))) Via.refl e1 F_own_a E_a (Or.inr ⟨(hw _ (List.mem_of_getElem? (i := 12) rfl)), rfl, hnm⟩) (hw _ (List.mem_of_getElem? (i := 3) rfl)) (ty := .int) (by decide) rfl rfl (g := (mkF m 6 #[.val (.ref a), .val (.int (0 : Int32)), .val (.int (4 : Int32)), .val (.int (3 : Int32)), .val (.long sl), .second, .val (.long y), .second] [(.int (0 : Int32)), (.ref a)])) rfl rfl (hb hby d1_6)
  have N2 := Fr.snoc X2 N0 g_a
  have Fw2 := F_own_a.same W2
  have f3_E_a := (E_a.wr W2)
  have f4_F_a_majority := (F_majority_a.other W2 (Or.inr (slot_ne (Or.inr (hw _ (List.mem_of_getElem? (i := 14) rfl))) (Or.inr (hw _ (List.mem_of_getElem? (i := 12) rfl))) (by decide) (t := .int) (t' := .int) (by decide) (by decide))))
  obtain ⟨T5, h5, X5, e5, W5, st5⟩ := putF X2 hx hZ hown (host := "") (Or.inl (hw _ (List.mem_of_getElem? (i := 13) rfl))) Via.refl e2 f4_F_a_majority f3_E_a (Or.inr ⟨(hw _ (List.mem_of_getElem? (i := 14) rfl)), rfl, hnm⟩) (hw _ (List.mem_of_getElem? (i := 3) rfl)) (ty := .int) (by decide) rfl rfl (g := (mkF m 11 #[.val (.ref a), .val (.int (0 : Int32)), .val (.int (4 : Int32)), .val (.int (3 : Int32)), .val (.long sl), .second, .val (.long y), .second] [(.int (3 : Int32)), (.ref a)])) rfl rfl (hb hby d1_11)
  have N5 := Fr.snoc X5 N2 g_a
  have Fw5 := f4_F_a_majority.same W5
  have f6_E_a := (f3_E_a.wr W5)
  have f7_F_a_silence := ((F_silence_a.other W2 (Or.inr (slot_ne (Or.inr (hw _ (List.mem_of_getElem? (i := 16) rfl))) (Or.inr (hw _ (List.mem_of_getElem? (i := 12) rfl))) (by decide) (t := .long) (t' := .int) (by decide) (by decide)))).other W5 (Or.inr (slot_ne (Or.inr (hw _ (List.mem_of_getElem? (i := 16) rfl))) (Or.inr (hw _ (List.mem_of_getElem? (i := 14) rfl))) (by decide) (t := .long) (t' := .int) (by decide) (by decide))))
  obtain ⟨T8, h8, X8, e8, W8, st8⟩ := putF X5 hx hZ hown (host := "") (Or.inl (hw _ (List.mem_of_getElem? (i := 15) rfl))) Via.refl e5 f7_F_a_silence f6_E_a (Or.inr ⟨(hw _ (List.mem_of_getElem? (i := 16) rfl)), rfl, hnm⟩) (hw _ (List.mem_of_getElem? (i := 3) rfl)) (ty := .long) (by decide) rfl rfl (g := (mkF m 17 #[.val (.ref a), .val (.int (0 : Int32)), .val (.int (4 : Int32)), .val (.int (3 : Int32)), .val (.long sl), .second, .val (.long y), .second] [(.long sl), (.ref a)])) rfl rfl (hb hby d1_17)
  have N8 := Fr.snoc X8 N5 g_a
  have Fw8 := f7_F_a_silence.same W8
  obtain ⟨T9, h9, k9, X9, e9, E9, A9, st9⟩ := newP X8 hx hZ (hw _ (List.mem_of_getElem? (i := 17) rfl)) e8 (g := (mkF m 22 #[.val (.ref a), .val (.int (0 : Int32)), .val (.int (4 : Int32)), .val (.int (3 : Int32)), .val (.long sl), .second, .val (.long y), .second] [(.int (4 : Int32)), (.ref a)])) rfl (hb hby d1_22) rfl (by decide) (cap := 4) (by decide) (by decide) (by decide) (by decide)
  obtain ⟨b9, g9⟩ : ∃ zz_, zz_ = h8.size := ⟨_, rfl⟩
  rw [← g9] at A9 st9
  have f10_E_a := (f6_E_a.wr W8)
  have ne_a_b9 : a ≠ b9 := Nat.ne_of_lt (Nat.lt_of_lt_of_le f10_E_a.lt (Nat.le_of_eq g9.symm))
  have sz11 : n0 ≤ h8.size := (Nat.le_trans (Nat.le_trans (Nat.le_trans Z0 (Keep.of_wr W2).1) (Keep.of_wr W5).1) (Keep.of_wr W8).1)
  have g_b9 : n0 ≤ b9 := Nat.le_trans sz11 (Nat.le_of_eq g9.symm)
  have kp12 : Keep h0 h8 [a] := ((((Keep.refl h0 [a]).wr W2 (Or.inl (List.mem_of_getElem? (i := 0) rfl))).wr W5 (Or.inl (List.mem_of_getElem? (i := 0) rfl))).wr W8 (Or.inl (List.mem_of_getElem? (i := 0) rfl)))
  have sz_b9 : h0.size ≤ b9 := Nat.le_trans kp12.1 (Nat.le_of_eq g9.symm)
  have A_b9 : Av Z h9 b9 .long 4 (fun _ => (.long (0 : Int64))) := Av.new A9 (by decide) (by decide)
  have rc13 : Av Z h9 b9 .long 4 (own_l (fun _ => (0 : Int64))) := A_b9
  have f14_E_a := (f10_E_a.ext E9)
  have f15_F_a_told := ((((F_told_a.other W2 (Or.inr (slot_ne (Or.inr (hw _ (List.mem_of_getElem? (i := 19) rfl))) (Or.inr (hw _ (List.mem_of_getElem? (i := 12) rfl))) (by decide) (t := (.array .long)) (t' := .int) (by decide) (by decide)))).other W5 (Or.inr (slot_ne (Or.inr (hw _ (List.mem_of_getElem? (i := 19) rfl))) (Or.inr (hw _ (List.mem_of_getElem? (i := 14) rfl))) (by decide) (t := (.array .long)) (t' := .int) (by decide) (by decide)))).other W8 (Or.inr (slot_ne (Or.inr (hw _ (List.mem_of_getElem? (i := 19) rfl))) (Or.inr (hw _ (List.mem_of_getElem? (i := 16) rfl))) (by decide) (t := (.array .long)) (t' := .long) (by decide) (by decide)))).ext E9)
  obtain ⟨T16, h16, X16, e16, W16, st16⟩ := putF X9 hx hZ hown (host := "") (Or.inl (hw _ (List.mem_of_getElem? (i := 18) rfl))) Via.refl e9 f15_F_a_told f14_E_a (Or.inr ⟨(hw _ (List.mem_of_getElem? (i := 19) rfl)), rfl, hnm⟩) (hw _ (List.mem_of_getElem? (i := 3) rfl)) (ty := (.array .long)) (by decide) rfl rfl (g := (mkF m 24 #[.val (.ref a), .val (.int (0 : Int32)), .val (.int (4 : Int32)), .val (.int (3 : Int32)), .val (.long sl), .second, .val (.long y), .second] [(.ref b9), (.ref a)])) rfl rfl (hb hby d1_24)
  have N16 := Fr.snoc X16 N8 g_a
  have Fw16 := f15_F_a_told.same W16
  obtain ⟨T17, h17, k17, X17, e17, E17, A17, st17⟩ := newP X16 hx hZ (hw _ (List.mem_of_getElem? (i := 17) rfl)) e16 (g := (mkF m 29 #[.val (.ref a), .val (.int (0 : Int32)), .val (.int (4 : Int32)), .val (.int (3 : Int32)), .val (.long sl), .second, .val (.long y), .second] [(.int (4 : Int32)), (.ref a)])) rfl (hb hby d1_29) rfl (by decide) (cap := 4) (by decide) (by decide) (by decide) (by decide)
  obtain ⟨b17, g17⟩ : ∃ zz_, zz_ = h16.size := ⟨_, rfl⟩
  rw [← g17] at A17 st17
  have f18_E_a := (f14_E_a.wr W16)
  have ne_a_b17 : a ≠ b17 := Nat.ne_of_lt (Nat.lt_of_lt_of_le f18_E_a.lt (Nat.le_of_eq g17.symm))
  have f19_A_b9 := (rc13.other W16 (Ne.symm ne_a_b9))
  have ne_b9_b17 : b9 ≠ b17 := Nat.ne_of_lt (Nat.lt_of_lt_of_le f19_A_b9.lt (Nat.le_of_eq g17.symm))
  have sz20 : n0 ≤ h16.size := (Nat.le_trans (Nat.le_trans sz11 E9.1) (Keep.of_wr W16).1)
  have g_b17 : n0 ≤ b17 := Nat.le_trans sz20 (Nat.le_of_eq g17.symm)
  have kp21 : Keep h0 h16 [a] := ((kp12.ext E9).wr W16 (Or.inl (List.mem_of_getElem? (i := 0) rfl)))
  have sz_b17 : h0.size ≤ b17 := Nat.le_trans kp21.1 (Nat.le_of_eq g17.symm)
  have A_b17 : Av Z h17 b17 .long 4 (fun _ => (.long (0 : Int64))) := Av.new A17 (by decide) (by decide)
  have rc22 : Av Z h17 b17 .long 4 (own_l (fun _ => (0 : Int64))) := A_b17
  have f23_E_a := (f18_E_a.ext E17)
  have f24_F_a_heard := ((((((F_heard_a.other W2 (Or.inr (slot_ne (Or.inr (hw _ (List.mem_of_getElem? (i := 21) rfl))) (Or.inr (hw _ (List.mem_of_getElem? (i := 12) rfl))) (by decide) (t := (.array .long)) (t' := .int) (by decide) (by decide)))).other W5 (Or.inr (slot_ne (Or.inr (hw _ (List.mem_of_getElem? (i := 21) rfl))) (Or.inr (hw _ (List.mem_of_getElem? (i := 14) rfl))) (by decide) (t := (.array .long)) (t' := .int) (by decide) (by decide)))).other W8 (Or.inr (slot_ne (Or.inr (hw _ (List.mem_of_getElem? (i := 21) rfl))) (Or.inr (hw _ (List.mem_of_getElem? (i := 16) rfl))) (by decide) (t := (.array .long)) (t' := .long) (by decide) (by decide)))).ext E9).other W16 (Or.inr (slot_ne (Or.inr (hw _ (List.mem_of_getElem? (i := 21) rfl))) (Or.inr (hw _ (List.mem_of_getElem? (i := 19) rfl))) (by decide) (t := (.array .long)) (t' := (.array .long)) (by decide) (by decide)))).ext E17)
  obtain ⟨T25, h25, X25, e25, W25, st25⟩ := putF X17 hx hZ hown (host := "") (Or.inl (hw _ (List.mem_of_getElem? (i := 20) rfl))) Via.refl e17 f24_F_a_heard f23_E_a (Or.inr ⟨(hw _ (List.mem_of_getElem? (i := 21) rfl)), rfl, hnm⟩) (hw _ (List.mem_of_getElem? (i := 3) rfl)) (ty := (.array .long)) (by decide) rfl rfl (g := (mkF m 31 #[.val (.ref a), .val (.int (0 : Int32)), .val (.int (4 : Int32)), .val (.int (3 : Int32)), .val (.long sl), .second, .val (.long y), .second] [(.ref b17), (.ref a)])) rfl rfl (hb hby d1_31)
  have N25 := Fr.snoc X25 N16 g_a
  have Fw25 := f24_F_a_heard.same W25
  have f27_E_a := (f23_E_a.wr W25)
  have f28_F_a_told := ((Fw16.ext E17).other W25 (Or.inr (slot_ne (Or.inr (hw _ (List.mem_of_getElem? (i := 19) rfl))) (Or.inr (hw _ (List.mem_of_getElem? (i := 21) rfl))) (by decide) (t := (.array .long)) (t' := (.array .long)) (by decide) (by decide))))
  have f29_A_b9 := ((f19_A_b9.ext E17).other W25 (Ne.symm ne_a_b9))
  have f30_A_b17 := (rc22.other W25 (Ne.symm ne_a_b17))
  have sz31 : n0 ≤ h25.size := (Nat.le_trans (Nat.le_trans sz20 E17.1) (Keep.of_wr W25).1)
  obtain ⟨cq26, kq26, q26a, q26b, q26c⟩ := isOf hZ e25 f27_E_a
  obtain ⟨_, _, ⟨T26, L26, k26, n26⟩, -, X26, ⟨Lc26, hQ26, l26, y26, z26⟩, st26⟩ := X25.virtualBack hx (y := (⟨"stillmark/StableTimes", "begin", "(J)V"⟩ : MethodName)) (z := (⟨"stillmark/StableTimes", "begin", "(J)V"⟩ : MethodName)) hown (mvT hZ (hw _ (List.mem_of_getElem? (i := 22) rfl))) (mvT hZ (hw _ (List.mem_of_getElem? (i := 23) rfl))) (notFace_of_selects (args := #[]) (mvT hZ (hw _ (List.mem_of_getElem? (i := 25) rfl)))) (mvT hZ (hw _ (List.mem_of_getElem? (i := 25) rfl))) (mvT hZ (hw _ (List.mem_of_getElem? (i := 24) rfl))) (by decide) (backOf (W := 0) (rm3 l Z a0 hw [] a y b9 b17 (fun _ => (0 : Int64)) (fun _ => (0 : Int64)) h25 n0 sz31 f27_E_a f28_F_a_told Fw25 f29_A_b9 f30_A_b17 g_b9 g_b17 ne_a_b9 ne_a_b17 ne_b9_b17) hZ (hw _ (List.mem_of_getElem? (i := 26) rfl)) (hw _ (List.mem_of_getElem? (i := 4) rfl)) (by decide) (by decide)) q26a q26c (g := (mkF m 37 #[.val (.ref a), .val (.int (0 : Int32)), .val (.int (4 : Int32)), .val (.int (3 : Int32)), .val (.long sl), .second, .val (.long y), .second] [(.long y), (.ref a)])) rfl (by rw [hml]; rfl) (Steps.refl _) (argsL := [(.long y)]) (rest := []) (lenOf pd_1 rfl) rfl (by show 2 * 0 + _ ≤ _; exact Nat.le_of_eq rfl) (hb hby d1_37) (fun _ _ => ⟨rfl, e25, (by decide : 2 + 0 ≤ _), (by decide : 8 + 0 ≤ _)⟩)
  dsimp only [Pt.U, Pt.locs, Pt.cells, Pt.slots] at X26 l26 y26 z26 st26 hQ26
  subst l26 y26 z26
  obtain ⟨rfl, N26q, K26, p26_1, p26_2⟩ := hQ26
  have N26 := Fr.app N25 N26q
  have kp32 : Keep h0 T26.heap [a] := (((kp21.ext E17).wr W25 (Or.inl (List.mem_of_getElem? (i := 0) rfl))).trans K26 (allS (Or.inr sz_b9) (allS (Or.inr sz_b17) all0)))
  have f33_E_a := (f27_E_a.keep K26)
  have f34_F_a_own := (((((((Fw2.other W5 (Or.inr (slot_ne (Or.inr (hw _ (List.mem_of_getElem? (i := 12) rfl))) (Or.inr (hw _ (List.mem_of_getElem? (i := 14) rfl))) (by decide) (t := .int) (t' := .int) (by decide) (by decide)))).other W8 (Or.inr (slot_ne (Or.inr (hw _ (List.mem_of_getElem? (i := 12) rfl))) (Or.inr (hw _ (List.mem_of_getElem? (i := 16) rfl))) (by decide) (t := .int) (t' := .long) (by decide) (by decide)))).ext E9).other W16 (Or.inr (slot_ne (Or.inr (hw _ (List.mem_of_getElem? (i := 12) rfl))) (Or.inr (hw _ (List.mem_of_getElem? (i := 19) rfl))) (by decide) (t := .int) (t' := (.array .long)) (by decide) (by decide)))).ext E17).other W25 (Or.inr (slot_ne (Or.inr (hw _ (List.mem_of_getElem? (i := 12) rfl))) (Or.inr (hw _ (List.mem_of_getElem? (i := 21) rfl))) (by decide) (t := .int) (t' := (.array .long)) (by decide) (by decide)))).keep K26 (ninS ne_a_b9 (ninS ne_a_b17 nin0)))
  have f35_F_a_majority := ((((((Fw5.other W8 (Or.inr (slot_ne (Or.inr (hw _ (List.mem_of_getElem? (i := 14) rfl))) (Or.inr (hw _ (List.mem_of_getElem? (i := 16) rfl))) (by decide) (t := .int) (t' := .long) (by decide) (by decide)))).ext E9).other W16 (Or.inr (slot_ne (Or.inr (hw _ (List.mem_of_getElem? (i := 14) rfl))) (Or.inr (hw _ (List.mem_of_getElem? (i := 19) rfl))) (by decide) (t := .int) (t' := (.array .long)) (by decide) (by decide)))).ext E17).other W25 (Or.inr (slot_ne (Or.inr (hw _ (List.mem_of_getElem? (i := 14) rfl))) (Or.inr (hw _ (List.mem_of_getElem? (i := 21) rfl))) (by decide) (t := .int) (t' := (.array .long)) (by decide) (by decide)))).keep K26 (ninS ne_a_b9 (ninS ne_a_b17 nin0)))
  have f36_F_a_silence := (((((Fw8.ext E9).other W16 (Or.inr (slot_ne (Or.inr (hw _ (List.mem_of_getElem? (i := 16) rfl))) (Or.inr (hw _ (List.mem_of_getElem? (i := 19) rfl))) (by decide) (t := .long) (t' := (.array .long)) (by decide) (by decide)))).ext E17).other W25 (Or.inr (slot_ne (Or.inr (hw _ (List.mem_of_getElem? (i := 16) rfl))) (Or.inr (hw _ (List.mem_of_getElem? (i := 21) rfl))) (by decide) (t := .long) (t' := (.array .long)) (by decide) (by decide)))).keep K26 (ninS ne_a_b9 (ninS ne_a_b17 nin0)))
  have f37_F_a_told := (f28_F_a_told.keep K26 (ninS ne_a_b9 (ninS ne_a_b17 nin0)))
  have f38_F_a_heard := (Fw25.keep K26 (ninS ne_a_b9 (ninS ne_a_b17 nin0)))
  obtain ⟨fs, hr, hrun, hended, hW, hsame⟩ := X26.leave (v := none) (fun _ => rfl)
  refine ⟨_, _, pre0 _ ?_, hrun, hended, _, _, rfl, ?_, ⟨_, rfl⟩, hW, hsame.mono (by decide) (by decide)⟩
  · show Steps p.tables e below (s₁.setTop (mkF m 0 #[.val (.ref a), .val (.int (0 : Int32)), .val (.int (4 : Int32)), .val (.int (3 : Int32)), .val (.long sl), .second, .val (.long y), .second] [])) _
    refine XS.aloadN X0.here hx rfl (hb hby d1_0) rfl rfl ?_
    show Steps p.tables e below (s₁.setTop (mkF m 1 #[.val (.ref a), .val (.int (0 : Int32)), .val (.int (4 : Int32)), .val (.int (3 : Int32)), .val (.long sl), .second, .val (.long y), .second] [(.ref a)])) _
    refine st1 _ ?_
    show Steps p.tables e below (T1.setTop (mkF m 4 #[.val (.ref a), .val (.int (0 : Int32)), .val (.int (4 : Int32)), .val (.int (3 : Int32)), .val (.long sl), .second, .val (.long y), .second] [])) _
    refine XS.aloadN X1.here hx rfl (hb hby d1_4) rfl rfl ?_
    show Steps p.tables e below (T1.setTop (mkF m 5 #[.val (.ref a), .val (.int (0 : Int32)), .val (.int (4 : Int32)), .val (.int (3 : Int32)), .val (.long sl), .second, .val (.long y), .second] [(.ref a)])) _
    refine XS.iloadN X1.here hx rfl (hb hby d1_5) rfl ?_
    show Steps p.tables e below (T1.setTop (mkF m 6 #[.val (.ref a), .val (.int (0 : Int32)), .val (.int (4 : Int32)), .val (.int (3 : Int32)), .val (.long sl), .second, .val (.long y), .second] [(.int (0 : Int32)), (.ref a)])) _
    refine st2 _ ?_
    show Steps p.tables e below (T2.setTop (mkF m 9 #[.val (.ref a), .val (.int (0 : Int32)), .val (.int (4 : Int32)), .val (.int (3 : Int32)), .val (.long sl), .second, .val (.long y), .second] [])) _
    refine XS.aloadN X2.here hx rfl (hb hby d1_9) rfl rfl ?_
    show Steps p.tables e below (T2.setTop (mkF m 10 #[.val (.ref a), .val (.int (0 : Int32)), .val (.int (4 : Int32)), .val (.int (3 : Int32)), .val (.long sl), .second, .val (.long y), .second] [(.ref a)])) _
    refine XS.iloadN X2.here hx rfl (hb hby d1_10) rfl ?_
    show Steps p.tables e below (T2.setTop (mkF m 11 #[.val (.ref a), .val (.int (0 : Int32)), .val (.int (4 : Int32)), .val (.int (3 : Int32)), .val (.long sl), .second, .val (.long y), .second] [(.int (3 : Int32)), (.ref a)])) _
    refine st5 _ ?_
    show Steps p.tables e below (T5.setTop (mkF m 14 #[.val (.ref a), .val (.int (0 : Int32)), .val (.int (4 : Int32)), .val (.int (3 : Int32)), .val (.long sl), .second, .val (.long y), .second] [])) _
    refine XS.aloadN X5.here hx rfl (hb hby d1_14) rfl rfl ?_
    show Steps p.tables e below (T5.setTop (mkF m 15 #[.val (.ref a), .val (.int (0 : Int32)), .val (.int (4 : Int32)), .val (.int (3 : Int32)), .val (.long sl), .second, .val (.long y), .second] [(.ref a)])) _
    refine XS.lload X5.here hx rfl (hb hby d1_15) rfl ?_
    show Steps p.tables e below (T5.setTop (mkF m 17 #[.val (.ref a), .val (.int (0 : Int32)), .val (.int (4 : Int32)), .val (.int (3 : Int32)), .val (.long sl), .second, .val (.long y), .second] [(.long sl), (.ref a)])) _
    refine st8 _ ?_
    show Steps p.tables e below (T8.setTop (mkF m 20 #[.val (.ref a), .val (.int (0 : Int32)), .val (.int (4 : Int32)), .val (.int (3 : Int32)), .val (.long sl), .second, .val (.long y), .second] [])) _
    refine XS.aloadN X8.here hx rfl (hb hby d1_20) rfl rfl ?_
    show Steps p.tables e below (T8.setTop (mkF m 21 #[.val (.ref a), .val (.int (0 : Int32)), .val (.int (4 : Int32)), .val (.int (3 : Int32)), .val (.long sl), .second, .val (.long y), .second] [(.ref a)])) _
    refine XS.iloadN X8.here hx rfl (hb hby d1_21) rfl ?_
    show Steps p.tables e below (T8.setTop (mkF m 22 #[.val (.ref a), .val (.int (0 : Int32)), .val (.int (4 : Int32)), .val (.int (3 : Int32)), .val (.long sl), .second, .val (.long y), .second] [(.int (4 : Int32)), (.ref a)])) _
    refine st9 _ ?_
    show Steps p.tables e below (T9.setTop (mkF m 24 #[.val (.ref a), .val (.int (0 : Int32)), .val (.int (4 : Int32)), .val (.int (3 : Int32)), .val (.long sl), .second, .val (.long y), .second] [(.ref b9), (.ref a)])) _
    refine st16 _ ?_
    show Steps p.tables e below (T16.setTop (mkF m 27 #[.val (.ref a), .val (.int (0 : Int32)), .val (.int (4 : Int32)), .val (.int (3 : Int32)), .val (.long sl), .second, .val (.long y), .second] [])) _
    refine XS.aloadN X16.here hx rfl (hb hby d1_27) rfl rfl ?_
    show Steps p.tables e below (T16.setTop (mkF m 28 #[.val (.ref a), .val (.int (0 : Int32)), .val (.int (4 : Int32)), .val (.int (3 : Int32)), .val (.long sl), .second, .val (.long y), .second] [(.ref a)])) _
    refine XS.iloadN X16.here hx rfl (hb hby d1_28) rfl ?_
    show Steps p.tables e below (T16.setTop (mkF m 29 #[.val (.ref a), .val (.int (0 : Int32)), .val (.int (4 : Int32)), .val (.int (3 : Int32)), .val (.long sl), .second, .val (.long y), .second] [(.int (4 : Int32)), (.ref a)])) _
    refine st17 _ ?_
    show Steps p.tables e below (T17.setTop (mkF m 31 #[.val (.ref a), .val (.int (0 : Int32)), .val (.int (4 : Int32)), .val (.int (3 : Int32)), .val (.long sl), .second, .val (.long y), .second] [(.ref b17), (.ref a)])) _
    refine st25 _ ?_
    show Steps p.tables e below (T25.setTop (mkF m 34 #[.val (.ref a), .val (.int (0 : Int32)), .val (.int (4 : Int32)), .val (.int (3 : Int32)), .val (.long sl), .second, .val (.long y), .second] [])) _
    refine XS.aloadN X25.here hx rfl (hb hby d1_34) rfl rfl ?_
    show Steps p.tables e below (T25.setTop (mkF m 35 #[.val (.ref a), .val (.int (0 : Int32)), .val (.int (4 : Int32)), .val (.int (3 : Int32)), .val (.long sl), .second, .val (.long y), .second] [(.ref a)])) _
    refine XS.lload X25.here hx rfl (hb hby d1_35) rfl ?_
    show Steps p.tables e below (T25.setTop (mkF m 37 #[.val (.ref a), .val (.int (0 : Int32)), .val (.int (4 : Int32)), .val (.int (3 : Int32)), .val (.long sl), .second, .val (.long y), .second] [(.long y), (.ref a)])) _
    refine st26.trans ?_
    show Steps p.tables e below (T26.setTop (mkF m 40 #[.val (.ref a), .val (.int (0 : Int32)), .val (.int (4 : Int32)), .val (.int (3 : Int32)), .val (.long sl), .second, .val (.long y), .second] [])) _
    exact X26.returnOut hx Bd.returns (hb hby d1_40) hr
  · show Qrm1 Z a sl y h0 n0 _ T26.heap _
    exact ⟨b9, b17, rfl, N26, kp32, f33_E_a, f34_F_a_own, f35_F_a_majority, f36_F_a_silence, f37_F_a_told, f38_F_a_heard, p26_1, p26_2, g_b9, g_b17, ne_a_b9, ne_a_b17, ne_b9_b17⟩
theorem d5_0 : decode prog_146_method_3_code 0 = .ok (.aload_n 0, 1) := by decide +kernel
theorem d5_1 : decode prog_146_method_3_code 1 = .ok (.getfield 20, 3) := by decide +kernel
theorem d5_4 : decode prog_146_method_3_code 4 = .ok (.iload_n 1, 1) := by decide +kernel
theorem d5_5 : decode prog_146_method_3_code 5 = .ok (.lload_n 2, 1) := by decide +kernel
theorem d5_6 : decode prog_146_method_3_code 6 = .ok (.lastore, 1) := by decide +kernel
theorem d5_7 : decode prog_146_method_3_code 7 = .ok (.aload_n 0, 1) := by decide +kernel
theorem d5_8 : decode prog_146_method_3_code 8 = .ok (.getfield 24, 3) := by decide +kernel
theorem d5_11 : decode prog_146_method_3_code 11 = .ok (.iload_n 1, 1) := by decide +kernel
theorem d5_12 : decode prog_146_method_3_code 12 = .ok (.lload 4, 2) := by decide +kernel
theorem d5_14 : decode prog_146_method_3_code 14 = .ok (.lastore, 1) := by decide +kernel
theorem d5_15 : decode prog_146_method_3_code 15 = .ok (.return_, 1) := by decide +kernel
theorem ef_5 (m : MethodId) (x0 : Addr) (x1 : Int32) (x2 : Int64) (x3 : Int64) : entryFrame m #[(.ref x0), (.int x1), (.long x2), (.long x3)] 6 = mkF m 0 #[.val (.ref x0), .val (.int x1), .val (.long x2), .second, .val (.long x3), .second] [] := by first | (simp [entryFrame, mkF, argsToLocals, Value.category]; done) | rfl
def Qrm5 (Z : State) (a : Addr) (i : Int32) (x : Int64) (y : Int64) (t : Addr) (u : Addr) (f : Nat → Int64) (g : Nat → Int64) (k : Nat) (h0 : Heap) (n0 : Nat) (v : Option Value) (h : Heap) (L : List Loc) : Prop := v = none ∧ Fr n0 L ∧ Keep h0 h [t, u] ∧ Av Z h t .long 4 (own_l (own_set f k x)) ∧ Av Z h u .long 4 (own_l (own_set g k y))
set_option maxRecDepth 65536 in
set_option maxHeartbeats 40000000 in
theorem rm5 (l : Launch) (Z : State) (a0 : Array Value) (hw : ∀ d ∈ tables_1, d.before a0 Z = true) (ws : List Jvm.Cond) (a : Addr) (i : Int32) (x : Int64) (y : Int64) (t : Addr) (u : Addr) (f : Nat → Int64) (g : Nat → Int64) (k : Nat) (h0 : Heap) (n0 : Nat) (Z0 : n0 ≤ h0.size) (E_a : Exa Z h0 a "stillmark/StableTimes") (F_told_a : Fld Z h0 a "stillmark/StableTimes" "told" "[J" (.ref t)) (F_heard_a : Fld Z h0 a "stillmark/StableTimes" "heard" "[J" (.ref u)) (A_t : Av Z h0 t .long 4 (own_l f)) (A_u : Av Z h0 u .long 4 (own_l g)) (g_t : n0 ≤ t) (g_u : n0 ≤ u) (ne_a_t : a ≠ t) (ne_a_u : a ≠ u) (ne_t_u : t ≠ u) (hk : i.toNatClampNeg = k) (hlt : k < 4) (hneg : ¬ i < 0) :
    MetFree l (⟨"stillmark/StableTimes", "told", "(IJJ)V"⟩ : MethodName) (head1 (Jvm.Cond.code (⟨"stillmark/StableTimes", "told", "(IJJ)V"⟩ : MethodName) prog_146_method_3_code 6 none :: ws) ({ frames := 0, cells := 0, slots := 0, locals := 0 } : Room)) (fun aa_ U => aa_ = #[(.ref a), (.int i), (.long x), (.long y)] ∧ Z.Warmed39 U.vm ∧ U.heap = h0) (fun _ _ _ _ _ => True) (fun _ U o U' => ∃ v L, o = .returned v ∧ Qrm5 Z a i x y t u f g k h0 n0 v U'.heap L ∧ FrameEnd U o U' L ({ frames := 0, cells := 0, slots := 0, locals := 0 } : Room).cells ({ frames := 0, cells := 0, slots := 0, locals := 0 } : Room).slots) := by
  refine MetFree.of_bodySF (plainFor_of_name pn_1) hisR ?_
  intro p e s m args below meth c s₁ Bd hml0 hP hK
  obtain ⟨rfl, hZ, hh⟩ := hP
  have hx := Bd.exec
  have hby := Bd.bytes
  have hml : c.maxLocals = 6 := hml0
  have hown : s.vm.findClass "stillmark/StableTimes" = some m.cls := findClass_of_methodNamed Bd.named
  have hnm := (name_of_methodNamed Bd.named Bd.method).1
  have X0 : Stand p l e ({ frames := 0, cells := 0, slots := 0, locals := 0 } : Room) s m #[(.ref a), (.int i), (.long x), (.long y)] below meth c s₁ [] 0 0 := Stand.of_body Bd
  have e0 : s₁.heap = h0 := by rw [← hh, Bd.state]; rfl
  have N0 := Fr.nil n0
  have pre0 : ∀ tt_, Steps p.tables e below (s₁.setTop (mkF m 0 #[.val (.ref a), .val (.int i), .val (.long x), .second, .val (.long y), .second] [])) tt_ → Steps p.tables e below (s₁.setTop (entryFrame m #[(.ref a), (.int i), (.long x), (.long y)] 6)) tt_ := fun tt_ kk_ => castTop (ef_5 m a i x y) kk_
  obtain ⟨T1, X1, e1, st1⟩ := getF X0 hx hZ hown (host := "") (Or.inl (hw _ (List.mem_of_getElem? (i := 18) rfl))) Via.refl e0 F_told_a (g := (mkF m 1 #[.val (.ref a), .val (.int i), .val (.long x), .second, .val (.long y), .second] [(.ref a)])) rfl rfl (hb hby d5_1)
  obtain ⟨cl2, Ar2, S2, H2⟩ := id A_t
  have hj2 : i.toNatClampNeg = k := hk
  have hin2 : ¬ (i < 0 ∨ cl2.slots.size ≤ (i).toNatClampNeg) := by rw [S2, hj2]; exact fun q => q.elim hneg (Nat.not_le.mpr hlt)
  obtain ⟨T3, h3, X3, e3, W3, st3⟩ := stJ X1 hx hZ e1 Ar2 (j := i) hin2 (g := (mkF m 6 #[.val (.ref a), .val (.int i), .val (.long x), .second, .val (.long y), .second] [(.long x), (.int i), (.ref t)])) rfl rfl (hb hby d5_6)
  have N3 := Fr.snoc X3 N0 g_t
  have Aw3 : Av Z h3 t .long 4 (fun jj_ => if jj_ = k then (.long x) else (own_l f) jj_) := Av.set Ar2 S2 H2 W3 hj2 rfl
  have f4_F_a_heard := (F_heard_a.other W3 (Or.inl ne_a_t))
  obtain ⟨T5, X5, e5, st5⟩ := getF X3 hx hZ hown (host := "") (Or.inl (hw _ (List.mem_of_getElem? (i := 20) rfl))) Via.refl e3 f4_F_a_heard (g := (mkF m 8 #[.val (.ref a), .val (.int i), .val (.long x), .second, .val (.long y), .second] [(.ref a)])) rfl rfl (hb hby d5_8)
  have f6_A_u := (A_u.other W3 (Ne.symm ne_t_u))
  obtain ⟨cl7, Ar7, S7, H7⟩ := id f6_A_u
  have hj7 : i.toNatClampNeg = k := hk
  have hin7 : ¬ (i < 0 ∨ cl7.slots.size ≤ (i).toNatClampNeg) := by rw [S7, hj7]; exact fun q => q.elim hneg (Nat.not_le.mpr hlt)
  obtain ⟨T8, h8, X8, e8, W8, st8⟩ := stJ X5 hx hZ e5 Ar7 (j := i) hin7 (g := (mkF m 14 #[.val (.ref a), .val (.int i), .val (.long x), .second, .val (.long y), .second] [(.long y), (.int i), (.ref u)])) rfl rfl (hb hby d5_14)
  have N8 := Fr.snoc X8 N3 g_u
  have Aw8 : Av Z h8 u .long 4 (fun jj_ => if jj_ = k then (.long y) else (own_l g) jj_) := Av.set Ar7 S7 H7 W8 hj7 rfl
  have f9_A_t := (Aw3.other W8 ne_t_u)
  have rc10 : Av Z h8 t .long 4 (own_l (own_set f k x)) := Av.congr (fun j _ => own_set_l f k x j) f9_A_t
  have rc11 : Av Z h8 u .long 4 (own_l (own_set g k y)) := Av.congr (fun j _ => own_set_l g k y j) Aw8
  have kp12 : Keep h0 h8 [t, u] := (((Keep.refl h0 [t, u]).wr W3 (Or.inl (List.mem_of_getElem? (i := 0) rfl))).wr W8 (Or.inl (List.mem_of_getElem? (i := 1) rfl)))
  obtain ⟨fs, hr, hrun, hended, hW, hsame⟩ := X8.leave (v := none) (fun _ => rfl)
  refine ⟨_, _, pre0 _ ?_, hrun, hended, _, _, rfl, ?_, ⟨_, rfl⟩, hW, hsame.mono (by decide) (by decide)⟩
  · show Steps p.tables e below (s₁.setTop (mkF m 0 #[.val (.ref a), .val (.int i), .val (.long x), .second, .val (.long y), .second] [])) _
    refine XS.aloadN X0.here hx rfl (hb hby d5_0) rfl rfl ?_
    show Steps p.tables e below (s₁.setTop (mkF m 1 #[.val (.ref a), .val (.int i), .val (.long x), .second, .val (.long y), .second] [(.ref a)])) _
    refine st1 _ ?_
    show Steps p.tables e below (T1.setTop (mkF m 4 #[.val (.ref a), .val (.int i), .val (.long x), .second, .val (.long y), .second] [(.ref t)])) _
    refine XS.iloadN X1.here hx rfl (hb hby d5_4) rfl ?_
    show Steps p.tables e below (T1.setTop (mkF m 5 #[.val (.ref a), .val (.int i), .val (.long x), .second, .val (.long y), .second] [(.int i), (.ref t)])) _
    refine XS.lloadN X1.here hx rfl (hb hby d5_5) rfl ?_
    show Steps p.tables e below (T1.setTop (mkF m 6 #[.val (.ref a), .val (.int i), .val (.long x), .second, .val (.long y), .second] [(.long x), (.int i), (.ref t)])) _
    refine st3 _ ?_
    show Steps p.tables e below (T3.setTop (mkF m 7 #[.val (.ref a), .val (.int i), .val (.long x), .second, .val (.long y), .second] [])) _
    refine XS.aloadN X3.here hx rfl (hb hby d5_7) rfl rfl ?_
    show Steps p.tables e below (T3.setTop (mkF m 8 #[.val (.ref a), .val (.int i), .val (.long x), .second, .val (.long y), .second] [(.ref a)])) _
    refine st5 _ ?_
    show Steps p.tables e below (T5.setTop (mkF m 11 #[.val (.ref a), .val (.int i), .val (.long x), .second, .val (.long y), .second] [(.ref u)])) _
    refine XS.iloadN X5.here hx rfl (hb hby d5_11) rfl ?_
    show Steps p.tables e below (T5.setTop (mkF m 12 #[.val (.ref a), .val (.int i), .val (.long x), .second, .val (.long y), .second] [(.int i), (.ref u)])) _
    refine XS.lload X5.here hx rfl (hb hby d5_12) rfl ?_
    show Steps p.tables e below (T5.setTop (mkF m 14 #[.val (.ref a), .val (.int i), .val (.long x), .second, .val (.long y), .second] [(.long y), (.int i), (.ref u)])) _
    refine st8 _ ?_
    show Steps p.tables e below (T8.setTop (mkF m 15 #[.val (.ref a), .val (.int i), .val (.long x), .second, .val (.long y), .second] [])) _
    exact X8.returnOut hx Bd.returns (hb hby d5_15) hr
  · show Qrm5 Z a i x y t u f g k h0 n0 _ T8.heap _
    rw [e8]
    exact ⟨rfl, N8, kp12, rc10, rc11⟩
theorem d6_0 : decode prog_146_method_4_code 0 = .ok (.aload_n 0, 1) := by decide +kernel
theorem d6_1 : decode prog_146_method_4_code 1 = .ok (.getfield 20, 3) := by decide +kernel
theorem d6_4 : decode prog_146_method_4_code 4 = .ok (.iload_n 1, 1) := by decide +kernel
theorem d6_5 : decode prog_146_method_4_code 5 = .ok (.ldc2_w 33, 3) := by decide +kernel
theorem d6_8 : decode prog_146_method_4_code 8 = .ok (.lastore, 1) := by decide +kernel
theorem d6_9 : decode prog_146_method_4_code 9 = .ok (.aload_n 0, 1) := by decide +kernel
theorem d6_10 : decode prog_146_method_4_code 10 = .ok (.getfield 24, 3) := by decide +kernel
theorem d6_13 : decode prog_146_method_4_code 13 = .ok (.iload_n 1, 1) := by decide +kernel
theorem d6_14 : decode prog_146_method_4_code 14 = .ok (.lload_n 2, 1) := by decide +kernel
theorem d6_15 : decode prog_146_method_4_code 15 = .ok (.lastore, 1) := by decide +kernel
theorem d6_16 : decode prog_146_method_4_code 16 = .ok (.return_, 1) := by decide +kernel
theorem ef_6 (m : MethodId) (x0 : Addr) (x1 : Int32) (x2 : Int64) : entryFrame m #[(.ref x0), (.int x1), (.long x2)] 4 = mkF m 0 #[.val (.ref x0), .val (.int x1), .val (.long x2), .second] [] := by first | (simp [entryFrame, mkF, argsToLocals, Value.category]; done) | rfl
def Qrm6 (Z : State) (a : Addr) (i : Int32) (y : Int64) (t : Addr) (u : Addr) (f : Nat → Int64) (g : Nat → Int64) (k : Nat) (h0 : Heap) (n0 : Nat) (v : Option Value) (h : Heap) (L : List Loc) : Prop := v = none ∧ Fr n0 L ∧ Keep h0 h [t, u] ∧ Av Z h t .long 4 (own_l (own_set f k (-9223372036854775808 : Int64))) ∧ Av Z h u .long 4 (own_l (own_set g k y))
set_option maxRecDepth 65536 in
set_option maxHeartbeats 40000000 in
theorem rm6 (l : Launch) (Z : State) (a0 : Array Value) (hw : ∀ d ∈ tables_1, d.before a0 Z = true) (ws : List Jvm.Cond) (a : Addr) (i : Int32) (y : Int64) (t : Addr) (u : Addr) (f : Nat → Int64) (g : Nat → Int64) (k : Nat) (h0 : Heap) (n0 : Nat) (Z0 : n0 ≤ h0.size) (E_a : Exa Z h0 a "stillmark/StableTimes") (F_told_a : Fld Z h0 a "stillmark/StableTimes" "told" "[J" (.ref t)) (F_heard_a : Fld Z h0 a "stillmark/StableTimes" "heard" "[J" (.ref u)) (A_t : Av Z h0 t .long 4 (own_l f)) (A_u : Av Z h0 u .long 4 (own_l g)) (g_t : n0 ≤ t) (g_u : n0 ≤ u) (ne_a_t : a ≠ t) (ne_a_u : a ≠ u) (ne_t_u : t ≠ u) (hk : i.toNatClampNeg = k) (hlt : k < 4) (hneg : ¬ i < 0) :
    MetFree l (⟨"stillmark/StableTimes", "restarted", "(IJ)V"⟩ : MethodName) (head1 (Jvm.Cond.code (⟨"stillmark/StableTimes", "restarted", "(IJ)V"⟩ : MethodName) prog_146_method_4_code 4 none :: ws) ({ frames := 0, cells := 0, slots := 0, locals := 0 } : Room)) (fun aa_ U => aa_ = #[(.ref a), (.int i), (.long y)] ∧ Z.Warmed39 U.vm ∧ U.heap = h0) (fun _ _ _ _ _ => True) (fun _ U o U' => ∃ v L, o = .returned v ∧ Qrm6 Z a i y t u f g k h0 n0 v U'.heap L ∧ FrameEnd U o U' L ({ frames := 0, cells := 0, slots := 0, locals := 0 } : Room).cells ({ frames := 0, cells := 0, slots := 0, locals := 0 } : Room).slots) := by
  refine MetFree.of_bodySF (plainFor_of_name pn_1) hisR ?_
  intro p e s m args below meth c s₁ Bd hml0 hP hK
  obtain ⟨rfl, hZ, hh⟩ := hP
  have hx := Bd.exec
  have hby := Bd.bytes
  have hml : c.maxLocals = 4 := hml0
  have hown : s.vm.findClass "stillmark/StableTimes" = some m.cls := findClass_of_methodNamed Bd.named
  have hnm := (name_of_methodNamed Bd.named Bd.method).1
  have X0 : Stand p l e ({ frames := 0, cells := 0, slots := 0, locals := 0 } : Room) s m #[(.ref a), (.int i), (.long y)] below meth c s₁ [] 0 0 := Stand.of_body Bd
  have e0 : s₁.heap = h0 := by rw [← hh, Bd.state]; rfl
  have N0 := Fr.nil n0
  have pre0 : ∀ tt_, Steps p.tables e below (s₁.setTop (mkF m 0 #[.val (.ref a), .val (.int i), .val (.long y), .second] [])) tt_ → Steps p.tables e below (s₁.setTop (entryFrame m #[(.ref a), (.int i), (.long y)] 4)) tt_ := fun tt_ kk_ => castTop (ef_6 m a i y) kk_
  obtain ⟨T1, X1, e1, st1⟩ := getF X0 hx hZ hown (host := "") (Or.inl (hw _ (List.mem_of_getElem? (i := 18) rfl))) Via.refl e0 F_told_a (g := (mkF m 1 #[.val (.ref a), .val (.int i), .val (.long y), .second] [(.ref a)])) rfl rfl (hb hby d6_1)
  obtain ⟨cl2, Ar2, S2, H2⟩ := id A_t
  have hj2 : i.toNatClampNeg = k := hk
  have hin2 : ¬ (i < 0 ∨ cl2.slots.size ≤ (i).toNatClampNeg) := by rw [S2, hj2]; exact fun q => q.elim hneg (Nat.not_le.mpr hlt)
  obtain ⟨T3, h3, X3, e3, W3, st3⟩ := stJ X1 hx hZ e1 Ar2 (j := i) hin2 (g := (mkF m 8 #[.val (.ref a), .val (.int i), .val (.long y), .second] [(.long (-9223372036854775808 : Int64)), (.int i), (.ref t)])) rfl rfl (hb hby d6_8)
  have N3 := Fr.snoc X3 N0 g_t
  have Aw3 : Av Z h3 t .long 4 (fun jj_ => if jj_ = k then (.long (-9223372036854775808 : Int64)) else (own_l f) jj_) := Av.set Ar2 S2 H2 W3 hj2 rfl
  have f4_F_a_heard := (F_heard_a.other W3 (Or.inl ne_a_t))
  obtain ⟨T5, X5, e5, st5⟩ := getF X3 hx hZ hown (host := "") (Or.inl (hw _ (List.mem_of_getElem? (i := 20) rfl))) Via.refl e3 f4_F_a_heard (g := (mkF m 10 #[.val (.ref a), .val (.int i), .val (.long y), .second] [(.ref a)])) rfl rfl (hb hby d6_10)
  have f6_A_u := (A_u.other W3 (Ne.symm ne_t_u))
  obtain ⟨cl7, Ar7, S7, H7⟩ := id f6_A_u
  have hj7 : i.toNatClampNeg = k := hk
  have hin7 : ¬ (i < 0 ∨ cl7.slots.size ≤ (i).toNatClampNeg) := by rw [S7, hj7]; exact fun q => q.elim hneg (Nat.not_le.mpr hlt)
  obtain ⟨T8, h8, X8, e8, W8, st8⟩ := stJ X5 hx hZ e5 Ar7 (j := i) hin7 (g := (mkF m 15 #[.val (.ref a), .val (.int i), .val (.long y), .second] [(.long y), (.int i), (.ref u)])) rfl rfl (hb hby d6_15)
  have N8 := Fr.snoc X8 N3 g_u
  have Aw8 : Av Z h8 u .long 4 (fun jj_ => if jj_ = k then (.long y) else (own_l g) jj_) := Av.set Ar7 S7 H7 W8 hj7 rfl
  have f9_A_t := (Aw3.other W8 ne_t_u)
  have rc10 : Av Z h8 t .long 4 (own_l (own_set f k (-9223372036854775808 : Int64))) := Av.congr (fun j _ => own_set_l f k (-9223372036854775808 : Int64) j) f9_A_t
  have rc11 : Av Z h8 u .long 4 (own_l (own_set g k y)) := Av.congr (fun j _ => own_set_l g k y j) Aw8
  have kp12 : Keep h0 h8 [t, u] := (((Keep.refl h0 [t, u]).wr W3 (Or.inl (List.mem_of_getElem? (i := 0) rfl))).wr W8 (Or.inl (List.mem_of_getElem? (i := 1) rfl)))
  obtain ⟨fs, hr, hrun, hended, hW, hsame⟩ := X8.leave (v := none) (fun _ => rfl)
  refine ⟨_, _, pre0 _ ?_, hrun, hended, _, _, rfl, ?_, ⟨_, rfl⟩, hW, hsame.mono (by decide) (by decide)⟩
  · show Steps p.tables e below (s₁.setTop (mkF m 0 #[.val (.ref a), .val (.int i), .val (.long y), .second] [])) _
    refine XS.aloadN X0.here hx rfl (hb hby d6_0) rfl rfl ?_
    show Steps p.tables e below (s₁.setTop (mkF m 1 #[.val (.ref a), .val (.int i), .val (.long y), .second] [(.ref a)])) _
    refine st1 _ ?_
    show Steps p.tables e below (T1.setTop (mkF m 4 #[.val (.ref a), .val (.int i), .val (.long y), .second] [(.ref t)])) _
    refine XS.iloadN X1.here hx rfl (hb hby d6_4) rfl ?_
    show Steps p.tables e below (T1.setTop (mkF m 5 #[.val (.ref a), .val (.int i), .val (.long y), .second] [(.int i), (.ref t)])) _
    refine X1.ldc2Long hx hown (mvT hZ (hw _ (List.mem_of_getElem? (i := 27) rfl))) (g := (mkF m 5 #[.val (.ref a), .val (.int i), .val (.long y), .second] [(.int i), (.ref t)])) rfl (hb hby d6_5) _ ?_
    show Steps p.tables e below (T1.setTop (mkF m 8 #[.val (.ref a), .val (.int i), .val (.long y), .second] [(.long (-9223372036854775808 : Int64)), (.int i), (.ref t)])) _
    refine st3 _ ?_
    show Steps p.tables e below (T3.setTop (mkF m 9 #[.val (.ref a), .val (.int i), .val (.long y), .second] [])) _
    refine XS.aloadN X3.here hx rfl (hb hby d6_9) rfl rfl ?_
    show Steps p.tables e below (T3.setTop (mkF m 10 #[.val (.ref a), .val (.int i), .val (.long y), .second] [(.ref a)])) _
    refine st5 _ ?_
    show Steps p.tables e below (T5.setTop (mkF m 13 #[.val (.ref a), .val (.int i), .val (.long y), .second] [(.ref u)])) _
    refine XS.iloadN X5.here hx rfl (hb hby d6_13) rfl ?_
    show Steps p.tables e below (T5.setTop (mkF m 14 #[.val (.ref a), .val (.int i), .val (.long y), .second] [(.int i), (.ref u)])) _
    refine XS.lloadN X5.here hx rfl (hb hby d6_14) rfl ?_
    show Steps p.tables e below (T5.setTop (mkF m 15 #[.val (.ref a), .val (.int i), .val (.long y), .second] [(.long y), (.int i), (.ref u)])) _
    refine st8 _ ?_
    show Steps p.tables e below (T8.setTop (mkF m 16 #[.val (.ref a), .val (.int i), .val (.long y), .second] [])) _
    exact X8.returnOut hx Bd.returns (hb hby d6_16) hr
  · show Qrm6 Z a i y t u f g k h0 n0 _ T8.heap _
    rw [e8]
    exact ⟨rfl, N8, kp12, rc10, rc11⟩
theorem d9_0 : decode jdk_29_method_70_code 0 = .ok (.lload_n 0, 1) := by decide +kernel
theorem d9_1 : decode jdk_29_method_70_code 1 = .ok (.lload_n 2, 1) := by decide +kernel
theorem d9_2 : decode jdk_29_method_70_code 2 = .ok (.lcmp, 1) := by decide +kernel
theorem d9_3 : decode jdk_29_method_70_code 3 = .ok (.ifCond .gt 7, 3) := by decide +kernel
theorem d9_10 : decode jdk_29_method_70_code 10 = .ok (.lload_n 2, 1) := by decide +kernel
theorem d9_11 : decode jdk_29_method_70_code 11 = .ok (.lreturn, 1) := by decide +kernel
theorem ef_9 (m : MethodId) (x0 : Int64) (x1 : Int64) : entryFrame m #[(.long x0), (.long x1)] 4 = mkF m 0 #[.val (.long x0), .second, .val (.long x1), .second] [] := by first | (simp [entryFrame, mkF, argsToLocals, Value.category]; done) | rfl
def Qrm9 (Z : State) (x : Int64) (y : Int64) (h0 : Heap) (n0 : Nat) (v : Option Value) (h : Heap) (L : List Loc) : Prop := v = some (.long (own_min x y)) ∧ Fr n0 L ∧ h = h0
set_option maxRecDepth 65536 in
set_option maxHeartbeats 40000000 in
theorem rm9a (l : Launch) (Z : State) (a0 : Array Value) (hw : ∀ d ∈ tables_1, d.before a0 Z = true) (ws : List Jvm.Cond) (x : Int64) (y : Int64) (h0 : Heap) (n0 : Nat) (Z0 : n0 ≤ h0.size) (h1 : y < x) :
    MetFree l (⟨"java/lang/Math", "min", "(JJ)J"⟩ : MethodName) (head1 (Jvm.Cond.code (⟨"java/lang/Math", "min", "(JJ)J"⟩ : MethodName) jdk_29_method_70_code 4 (some .long) :: ws) ({ frames := 0, cells := 0, slots := 0, locals := 0 } : Room)) (fun aa_ U => aa_ = #[(.long x), (.long y)] ∧ Z.Warmed39 U.vm ∧ U.heap = h0) (fun _ _ _ _ _ => True) (fun _ U o U' => ∃ v L, o = .returned v ∧ Qrm9 Z x y h0 n0 v U'.heap L ∧ FrameEnd U o U' L ({ frames := 0, cells := 0, slots := 0, locals := 0 } : Room).cells ({ frames := 0, cells := 0, slots := 0, locals := 0 } : Room).slots) := by
  refine MetFree.of_bodySF (Jvm.Free.JP.mathPlain rfl (by decide +kernel)) hisR ?_
  intro p e s m args below meth c s₁ Bd hml0 hP hK
  obtain ⟨rfl, hZ, hh⟩ := hP
  have hx := Bd.exec
  have hby := Bd.bytes
  have hml : c.maxLocals = 4 := hml0
  have hown : s.vm.findClass "java/lang/Math" = some m.cls := findClass_of_methodNamed Bd.named
  have hnm := (name_of_methodNamed Bd.named Bd.method).1
  have X0 : Stand p l e ({ frames := 0, cells := 0, slots := 0, locals := 0 } : Room) s m #[(.long x), (.long y)] below meth c s₁ [] 0 0 := Stand.of_body Bd
  have e0 : s₁.heap = h0 := by rw [← hh, Bd.state]; rfl
  have N0 := Fr.nil n0
  have pre0 : ∀ tt_, Steps p.tables e below (s₁.setTop (mkF m 0 #[.val (.long x), .second, .val (.long y), .second] [])) tt_ → Steps p.tables e below (s₁.setTop (entryFrame m #[(.long x), (.long y)] 4)) tt_ := fun tt_ kk_ => castTop (ef_9 m x y) kk_
  obtain ⟨fs, hr, hrun, hended, hW, hsame⟩ := X0.leave (v := some (.long y)) (fun h => by rw [Bd.returns] at h; cases h)
  refine ⟨_, _, pre0 _ ?_, hrun, hended, _, _, rfl, ?_, ⟨_, rfl⟩, hW, hsame.mono (by decide) (by decide)⟩
  · show Steps p.tables e below (s₁.setTop (mkF m 0 #[.val (.long x), .second, .val (.long y), .second] [])) _
    refine XS.lloadN X0.here hx rfl (hb hby d9_0) rfl ?_
    show Steps p.tables e below (s₁.setTop (mkF m 1 #[.val (.long x), .second, .val (.long y), .second] [(.long x)])) _
    refine XS.lloadN X0.here hx rfl (hb hby d9_1) rfl ?_
    show Steps p.tables e below (s₁.setTop (mkF m 2 #[.val (.long x), .second, .val (.long y), .second] [(.long y), (.long x)])) _
    refine XS.lcmp X0.here hx rfl (hb hby d9_2) rfl ?_
    show Steps p.tables e below (s₁.setTop (mkF m 3 #[.val (.long x), .second, .val (.long y), .second] [(.int (lcmpW x y))])) _
    refine XS.ifYes X0.here hx rfl (pc0 := 3) (pc' := 10) rfl (hb hby d9_3) rfl ((if0 _ _).trans (tlt (show (0 : Int32) < (lcmpW x y) from ((lw_gt _ _).mpr h1))).2.2.1) (by decide) (by decide) ?_
    show Steps p.tables e below (s₁.setTop (mkF m 10 #[.val (.long x), .second, .val (.long y), .second] [])) _
    refine XS.lloadN X0.here hx rfl (hb hby d9_10) rfl ?_
    show Steps p.tables e below (s₁.setTop (mkF m 11 #[.val (.long x), .second, .val (.long y), .second] [(.long y)])) _
    exact X0.lreturnOut hx Bd.returns (hb hby d9_11) hr
  · show Qrm9 Z x y h0 n0 _ s₁.heap _
    rw [e0]
    exact ⟨by rw [own_min, if_pos h1], N0, rfl⟩
theorem d9_6 : decode jdk_29_method_70_code 6 = .ok (.lload_n 0, 1) := by decide +kernel
theorem d9_7 : decode jdk_29_method_70_code 7 = .ok (.goto 4, 3) := by decide +kernel
set_option maxRecDepth 65536 in
set_option maxHeartbeats 40000000 in
theorem rm9b (l : Launch) (Z : State) (a0 : Array Value) (hw : ∀ d ∈ tables_1, d.before a0 Z = true) (ws : List Jvm.Cond) (x : Int64) (y : Int64) (h0 : Heap) (n0 : Nat) (Z0 : n0 ≤ h0.size) (h1 : ¬ y < x) :
    MetFree l (⟨"java/lang/Math", "min", "(JJ)J"⟩ : MethodName) (head1 (Jvm.Cond.code (⟨"java/lang/Math", "min", "(JJ)J"⟩ : MethodName) jdk_29_method_70_code 4 (some .long) :: ws) ({ frames := 0, cells := 0, slots := 0, locals := 0 } : Room)) (fun aa_ U => aa_ = #[(.long x), (.long y)] ∧ Z.Warmed39 U.vm ∧ U.heap = h0) (fun _ _ _ _ _ => True) (fun _ U o U' => ∃ v L, o = .returned v ∧ Qrm9 Z x y h0 n0 v U'.heap L ∧ FrameEnd U o U' L ({ frames := 0, cells := 0, slots := 0, locals := 0 } : Room).cells ({ frames := 0, cells := 0, slots := 0, locals := 0 } : Room).slots) := by
  refine MetFree.of_bodySF (Jvm.Free.JP.mathPlain rfl (by decide +kernel)) hisR ?_
  intro p e s m args below meth c s₁ Bd hml0 hP hK
  obtain ⟨rfl, hZ, hh⟩ := hP
  have hx := Bd.exec
  have hby := Bd.bytes
  have hml : c.maxLocals = 4 := hml0
  have hown : s.vm.findClass "java/lang/Math" = some m.cls := findClass_of_methodNamed Bd.named
  have hnm := (name_of_methodNamed Bd.named Bd.method).1
  have X0 : Stand p l e ({ frames := 0, cells := 0, slots := 0, locals := 0 } : Room) s m #[(.long x), (.long y)] below meth c s₁ [] 0 0 := Stand.of_body Bd
  have e0 : s₁.heap = h0 := by rw [← hh, Bd.state]; rfl
  have N0 := Fr.nil n0
  have pre0 : ∀ tt_, Steps p.tables e below (s₁.setTop (mkF m 0 #[.val (.long x), .second, .val (.long y), .second] [])) tt_ → Steps p.tables e below (s₁.setTop (entryFrame m #[(.long x), (.long y)] 4)) tt_ := fun tt_ kk_ => castTop (ef_9 m x y) kk_
  obtain ⟨fs, hr, hrun, hended, hW, hsame⟩ := X0.leave (v := some (.long x)) (fun h => by rw [Bd.returns] at h; cases h)
  refine ⟨_, _, pre0 _ ?_, hrun, hended, _, _, rfl, ?_, ⟨_, rfl⟩, hW, hsame.mono (by decide) (by decide)⟩
  · show Steps p.tables e below (s₁.setTop (mkF m 0 #[.val (.long x), .second, .val (.long y), .second] [])) _
    refine XS.lloadN X0.here hx rfl (hb hby d9_0) rfl ?_
    show Steps p.tables e below (s₁.setTop (mkF m 1 #[.val (.long x), .second, .val (.long y), .second] [(.long x)])) _
    refine XS.lloadN X0.here hx rfl (hb hby d9_1) rfl ?_
    show Steps p.tables e below (s₁.setTop (mkF m 2 #[.val (.long x), .second, .val (.long y), .second] [(.long y), (.long x)])) _
    refine XS.lcmp X0.here hx rfl (hb hby d9_2) rfl ?_
    show Steps p.tables e below (s₁.setTop (mkF m 3 #[.val (.long x), .second, .val (.long y), .second] [(.int (lcmpW x y))])) _
    refine XS.ifNo X0.here hx rfl (hb hby d9_3) rfl ((if0 _ _).trans (flt (show ¬ ((0 : Int32) < (lcmpW x y)) from (fun q => h1 ((lw_gt _ _).mp q)))).2.2.1) ?_
    show Steps p.tables e below (s₁.setTop (mkF m 6 #[.val (.long x), .second, .val (.long y), .second] [])) _
    refine XS.lloadN X0.here hx rfl (hb hby d9_6) rfl ?_
    show Steps p.tables e below (s₁.setTop (mkF m 7 #[.val (.long x), .second, .val (.long y), .second] [(.long x)])) _
    refine XS.goto X0.here hx rfl (pc0 := 7) (pc' := 11) rfl (hb hby d9_7) (by decide) (by decide) ?_
    show Steps p.tables e below (s₁.setTop (mkF m 11 #[.val (.long x), .second, .val (.long y), .second] [(.long x)])) _
    exact X0.lreturnOut hx Bd.returns (hb hby d9_11) hr
  · show Qrm9 Z x y h0 n0 _ s₁.heap _
    rw [e0]
    exact ⟨by rw [own_min, if_neg h1], N0, rfl⟩
theorem rm9 (l : Launch) (Z : State) (a0 : Array Value) (hw : ∀ d ∈ tables_1, d.before a0 Z = true) (ws : List Jvm.Cond) (x : Int64) (y : Int64) (h0 : Heap) (n0 : Nat) (Z0 : n0 ≤ h0.size) :
    MetFree l (⟨"java/lang/Math", "min", "(JJ)J"⟩ : MethodName) (head1 (Jvm.Cond.code (⟨"java/lang/Math", "min", "(JJ)J"⟩ : MethodName) jdk_29_method_70_code 4 (some .long) :: ws) ({ frames := 0, cells := 0, slots := 0, locals := 0 } : Room)) (fun aa_ U => aa_ = #[(.long x), (.long y)] ∧ Z.Warmed39 U.vm ∧ U.heap = h0) (fun _ _ _ _ _ => True) (fun _ U o U' => ∃ v L, o = .returned v ∧ Qrm9 Z x y h0 n0 v U'.heap L ∧ FrameEnd U o U' L ({ frames := 0, cells := 0, slots := 0, locals := 0 } : Room).cells ({ frames := 0, cells := 0, slots := 0, locals := 0 } : Room).slots) := by
  by_cases h1 : y < x
  · exact rm9a l Z a0 hw ws x y h0 n0 Z0  h1
  · exact rm9b l Z a0 hw ws x y h0 n0 Z0  h1
theorem d8_0 : decode prog_146_method_6_code 0 = .ok (.iconst (-1), 1) := by decide +kernel
theorem d8_1 : decode prog_146_method_6_code 1 = .ok (.istore_n 3, 1) := by decide +kernel
theorem d8_2 : decode prog_146_method_6_code 2 = .ok (.iconst 0, 1) := by decide +kernel
theorem d8_3 : decode prog_146_method_6_code 3 = .ok (.istore 4, 2) := by decide +kernel
theorem d8_5 : decode prog_146_method_6_code 5 = .ok (.iload 4, 2) := by decide +kernel
theorem d8_7 : decode prog_146_method_6_code 7 = .ok (.aload_n 0, 1) := by decide +kernel
theorem d8_8 : decode prog_146_method_6_code 8 = .ok (.getfield 24, 3) := by decide +kernel
theorem d8_11 : decode prog_146_method_6_code 11 = .ok (.arraylength, 1) := by decide +kernel
theorem d8_12 : decode prog_146_method_6_code 12 = .ok (.if_icmp .ge 48, 3) := by decide +kernel
theorem d8_15 : decode prog_146_method_6_code 15 = .ok (.iload 4, 2) := by decide +kernel
theorem d8_17 : decode prog_146_method_6_code 17 = .ok (.aload_n 0, 1) := by decide +kernel
theorem d8_18 : decode prog_146_method_6_code 18 = .ok (.getfield 7, 3) := by decide +kernel
theorem d8_21 : decode prog_146_method_6_code 21 = .ok (.if_icmp .eq 33, 3) := by decide +kernel
theorem d8_24 : decode prog_146_method_6_code 24 = .ok (.aload_n 0, 1) := by decide +kernel
theorem d8_25 : decode prog_146_method_6_code 25 = .ok (.getfield 24, 3) := by decide +kernel
theorem d8_28 : decode prog_146_method_6_code 28 = .ok (.iload 4, 2) := by decide +kernel
theorem d8_30 : decode prog_146_method_6_code 30 = .ok (.laload, 1) := by decide +kernel
theorem d8_31 : decode prog_146_method_6_code 31 = .ok (.lload_n 1, 1) := by decide +kernel
theorem d8_32 : decode prog_146_method_6_code 32 = .ok (.aload_n 0, 1) := by decide +kernel
theorem d8_33 : decode prog_146_method_6_code 33 = .ok (.getfield 16, 3) := by decide +kernel
theorem d8_36 : decode prog_146_method_6_code 36 = .ok (.lsub, 1) := by decide +kernel
theorem d8_37 : decode prog_146_method_6_code 37 = .ok (.lcmp, 1) := by decide +kernel
theorem d8_38 : decode prog_146_method_6_code 38 = .ok (.ifCond .lt 6, 3) := by decide +kernel
theorem d8_41 : decode prog_146_method_6_code 41 = .ok (.goto 13, 3) := by decide +kernel
theorem d8_54 : decode prog_146_method_6_code 54 = .ok (.iinc 4 1, 3) := by decide +kernel
theorem d8_57 : decode prog_146_method_6_code 57 = .ok (.goto (-52), 3) := by decide +kernel
theorem d8_60 : decode prog_146_method_6_code 60 = .ok (.iload_n 3, 1) := by decide +kernel
theorem d8_61 : decode prog_146_method_6_code 61 = .ok (.ireturn, 1) := by decide +kernel
theorem ef_8 (m : MethodId) (x0 : Addr) (x1 : Int64) : entryFrame m #[(.ref x0), (.long x1)] 5 = mkF m 0 #[.val (.ref x0), .val (.long x1), .second, .unset, .unset] [] := by first | (simp [entryFrame, mkF, argsToLocals, Value.category]; done) | rfl
def Qrm8_0 (Z : State) (a : Addr) (n' : Int64) (sl : Int64) (u : Addr) (g : Nat → Int64) (h0 : Heap) (n0 : Nat) (v : Option Value) (h : Heap) (L : List Loc) : Prop := v = some (.int (-1 : Int32)) ∧ Fr n0 L ∧ h = h0
set_option maxRecDepth 65536 in
set_option maxHeartbeats 40000000 in
theorem rm8_0 (l : Launch) (Z : State) (a0 : Array Value) (hw : ∀ d ∈ tables_1, d.before a0 Z = true) (ws : List Jvm.Cond) (a : Addr) (n' : Int64) (sl : Int64) (u : Addr) (g : Nat → Int64) (h0 : Heap) (n0 : Nat) (Z0 : n0 ≤ h0.size) (E_a : Exa Z h0 a "stillmark/StableTimes") (F_own_a : Fld Z h0 a "stillmark/StableTimes" "own" "I" (.int (0 : Int32))) (F_silence_a : Fld Z h0 a "stillmark/StableTimes" "silence" "J" (.long sl)) (F_heard_a : Fld Z h0 a "stillmark/StableTimes" "heard" "[J" (.ref u)) (A_u : Av Z h0 u .long 4 (own_l g)) (hs1 : ¬ ((g 1) < (n' - sl))) (hs2 : ¬ ((g 2) < (n' - sl))) (hs3 : ¬ ((g 3) < (n' - sl))) :
    MetFree l (⟨"stillmark/StableTimes", "leftOut", "(J)I"⟩ : MethodName) (head1 (Jvm.Cond.code (⟨"stillmark/StableTimes", "leftOut", "(J)I"⟩ : MethodName) prog_146_method_6_code 5 (some .int) :: ws) ({ frames := 0, cells := 0, slots := 0, locals := 0 } : Room)) (fun aa_ U => aa_ = #[(.ref a), (.long n')] ∧ Z.Warmed39 U.vm ∧ U.heap = h0) (fun _ _ _ _ _ => True) (fun _ U o U' => ∃ v L, o = .returned v ∧ Qrm8_0 Z a n' sl u g h0 n0 v U'.heap L ∧ FrameEnd U o U' L ({ frames := 0, cells := 0, slots := 0, locals := 0 } : Room).cells ({ frames := 0, cells := 0, slots := 0, locals := 0 } : Room).slots) := by
  refine MetFree.of_bodySF (plainFor_of_name pn_1) hisR ?_
  intro p e s m args below meth c s₁ Bd hml0 hP hK
  obtain ⟨rfl, hZ, hh⟩ := hP
  have hx := Bd.exec
  have hby := Bd.bytes
  have hml : c.maxLocals = 5 := hml0
  have hown : s.vm.findClass "stillmark/StableTimes" = some m.cls := findClass_of_methodNamed Bd.named
  have hnm := (name_of_methodNamed Bd.named Bd.method).1
  have X0 : Stand p l e ({ frames := 0, cells := 0, slots := 0, locals := 0 } : Room) s m #[(.ref a), (.long n')] below meth c s₁ [] 0 0 := Stand.of_body Bd
  have e0 : s₁.heap = h0 := by rw [← hh, Bd.state]; rfl
  have N0 := Fr.nil n0
  have pre0 : ∀ tt_, Steps p.tables e below (s₁.setTop (mkF m 0 #[.val (.ref a), .val (.long n'), .second, .unset, .unset] [])) tt_ → Steps p.tables e below (s₁.setTop (entryFrame m #[(.ref a), (.long n')] 5)) tt_ := fun tt_ kk_ => castTop (ef_8 m a n') kk_
  obtain ⟨T1, X1, e1, st1⟩ := getF X0 hx hZ hown (host := "") (Or.inl (hw _ (List.mem_of_getElem? (i := 20) rfl))) Via.refl e0 F_heard_a (g := (mkF m 8 #[.val (.ref a), .val (.long n'), .second, .val (.int (-1 : Int32)), .val (.int (0 : Int32))] [(.ref a), (.int (0 : Int32))])) rfl rfl (hb hby d8_8)
  obtain ⟨cl2, Ar2, S2, -⟩ := id A_u
  obtain ⟨T3, X3, e3, st3⟩ := getF X1 hx hZ hown (host := "") (Or.inl (hw _ (List.mem_of_getElem? (i := 11) rfl))) Via.refl e1 F_own_a (g := (mkF m 18 #[.val (.ref a), .val (.long n'), .second, .val (.int (-1 : Int32)), .val (.int (0 : Int32))] [(.ref a), (.int (0 : Int32))])) rfl rfl (hb hby d8_18)
  obtain ⟨T4, X4, e4, st4⟩ := getF X3 hx hZ hown (host := "") (Or.inl (hw _ (List.mem_of_getElem? (i := 20) rfl))) Via.refl e3 F_heard_a (g := (mkF m 8 #[.val (.ref a), .val (.long n'), .second, .val (.int (-1 : Int32)), .val (.int (1 : Int32))] [(.ref a), (.int (1 : Int32))])) rfl rfl (hb hby d8_8)
  obtain ⟨cl5, Ar5, S5, -⟩ := id A_u
  obtain ⟨T6, X6, e6, st6⟩ := getF X4 hx hZ hown (host := "") (Or.inl (hw _ (List.mem_of_getElem? (i := 11) rfl))) Via.refl e4 F_own_a (g := (mkF m 18 #[.val (.ref a), .val (.long n'), .second, .val (.int (-1 : Int32)), .val (.int (1 : Int32))] [(.ref a), (.int (1 : Int32))])) rfl rfl (hb hby d8_18)
  obtain ⟨T7, X7, e7, st7⟩ := getF X6 hx hZ hown (host := "") (Or.inl (hw _ (List.mem_of_getElem? (i := 20) rfl))) Via.refl e6 F_heard_a (g := (mkF m 25 #[.val (.ref a), .val (.long n'), .second, .val (.int (-1 : Int32)), .val (.int (1 : Int32))] [(.ref a)])) rfl rfl (hb hby d8_25)
  obtain ⟨cl8, Ar8, S8, H8⟩ := id A_u
  have hj8 : (1 : Int32).toNatClampNeg = 1 := (by decide)
  have hin8 : ¬ ((1 : Int32) < 0 ∨ cl8.slots.size ≤ ((1 : Int32)).toNatClampNeg) := by rw [S8, hj8]; exact fun q => q.elim (by decide) (Nat.not_le.mpr (by decide : 1 < 4))
  have hat8 : cl8.slots[((1 : Int32)).toNatClampNeg]? = some (.long (g 1)) := by rw [hj8, H8 _ (by decide : 1 < 4)]; exact congrArg some (rfl)
  obtain ⟨T9, X9, e9, st9⟩ := getF X7 hx hZ hown (host := "") (Or.inl (hw _ (List.mem_of_getElem? (i := 15) rfl))) Via.refl e7 F_silence_a (g := (mkF m 33 #[.val (.ref a), .val (.long n'), .second, .val (.int (-1 : Int32)), .val (.int (1 : Int32))] [(.ref a), (.long n'), (.long (g 1))])) rfl rfl (hb hby d8_33)
  obtain ⟨T10, X10, e10, st10⟩ := getF X9 hx hZ hown (host := "") (Or.inl (hw _ (List.mem_of_getElem? (i := 20) rfl))) Via.refl e9 F_heard_a (g := (mkF m 8 #[.val (.ref a), .val (.long n'), .second, .val (.int (-1 : Int32)), .val (.int (2 : Int32))] [(.ref a), (.int (2 : Int32))])) rfl rfl (hb hby d8_8)
  obtain ⟨cl11, Ar11, S11, -⟩ := id A_u
  obtain ⟨T12, X12, e12, st12⟩ := getF X10 hx hZ hown (host := "") (Or.inl (hw _ (List.mem_of_getElem? (i := 11) rfl))) Via.refl e10 F_own_a (g := (mkF m 18 #[.val (.ref a), .val (.long n'), .second, .val (.int (-1 : Int32)), .val (.int (2 : Int32))] [(.ref a), (.int (2 : Int32))])) rfl rfl (hb hby d8_18)
  obtain ⟨T13, X13, e13, st13⟩ := getF X12 hx hZ hown (host := "") (Or.inl (hw _ (List.mem_of_getElem? (i := 20) rfl))) Via.refl e12 F_heard_a (g := (mkF m 25 #[.val (.ref a), .val (.long n'), .second, .val (.int (-1 : Int32)), .val (.int (2 : Int32))] [(.ref a)])) rfl rfl (hb hby d8_25)
  obtain ⟨cl14, Ar14, S14, H14⟩ := id A_u
  have hj14 : (2 : Int32).toNatClampNeg = 2 := (by decide)
  have hin14 : ¬ ((2 : Int32) < 0 ∨ cl14.slots.size ≤ ((2 : Int32)).toNatClampNeg) := by rw [S14, hj14]; exact fun q => q.elim (by decide) (Nat.not_le.mpr (by decide : 2 < 4))
  have hat14 : cl14.slots[((2 : Int32)).toNatClampNeg]? = some (.long (g 2)) := by rw [hj14, H14 _ (by decide : 2 < 4)]; exact congrArg some (rfl)
  obtain ⟨T15, X15, e15, st15⟩ := getF X13 hx hZ hown (host := "") (Or.inl (hw _ (List.mem_of_getElem? (i := 15) rfl))) Via.refl e13 F_silence_a (g := (mkF m 33 #[.val (.ref a), .val (.long n'), .second, .val (.int (-1 : Int32)), .val (.int (2 : Int32))] [(.ref a), (.long n'), (.long (g 2))])) rfl rfl (hb hby d8_33)
  obtain ⟨T16, X16, e16, st16⟩ := getF X15 hx hZ hown (host := "") (Or.inl (hw _ (List.mem_of_getElem? (i := 20) rfl))) Via.refl e15 F_heard_a (g := (mkF m 8 #[.val (.ref a), .val (.long n'), .second, .val (.int (-1 : Int32)), .val (.int (3 : Int32))] [(.ref a), (.int (3 : Int32))])) rfl rfl (hb hby d8_8)
  obtain ⟨cl17, Ar17, S17, -⟩ := id A_u
  obtain ⟨T18, X18, e18, st18⟩ := getF X16 hx hZ hown (host := "") (Or.inl (hw _ (List.mem_of_getElem? (i := 11) rfl))) Via.refl e16 F_own_a (g := (mkF m 18 #[.val (.ref a), .val (.long n'), .second, .val (.int (-1 : Int32)), .val (.int (3 : Int32))] [(.ref a), (.int (3 : Int32))])) rfl rfl (hb hby d8_18)
  obtain ⟨T19, X19, e19, st19⟩ := getF X18 hx hZ hown (host := "") (Or.inl (hw _ (List.mem_of_getElem? (i := 20) rfl))) Via.refl e18 F_heard_a (g := (mkF m 25 #[.val (.ref a), .val (.long n'), .second, .val (.int (-1 : Int32)), .val (.int (3 : Int32))] [(.ref a)])) rfl rfl (hb hby d8_25)
  obtain ⟨cl20, Ar20, S20, H20⟩ := id A_u
  have hj20 : (3 : Int32).toNatClampNeg = 3 := (by decide)
  have hin20 : ¬ ((3 : Int32) < 0 ∨ cl20.slots.size ≤ ((3 : Int32)).toNatClampNeg) := by rw [S20, hj20]; exact fun q => q.elim (by decide) (Nat.not_le.mpr (by decide : 3 < 4))
  have hat20 : cl20.slots[((3 : Int32)).toNatClampNeg]? = some (.long (g 3)) := by rw [hj20, H20 _ (by decide : 3 < 4)]; exact congrArg some (rfl)
  obtain ⟨T21, X21, e21, st21⟩ := getF X19 hx hZ hown (host := "") (Or.inl (hw _ (List.mem_of_getElem? (i := 15) rfl))) Via.refl e19 F_silence_a (g := (mkF m 33 #[.val (.ref a), .val (.long n'), .second, .val (.int (-1 : Int32)), .val (.int (3 : Int32))] [(.ref a), (.long n'), (.long (g 3))])) rfl rfl (hb hby d8_33)
  obtain ⟨T22, X22, e22, st22⟩ := getF X21 hx hZ hown (host := "") (Or.inl (hw _ (List.mem_of_getElem? (i := 20) rfl))) Via.refl e21 F_heard_a (g := (mkF m 8 #[.val (.ref a), .val (.long n'), .second, .val (.int (-1 : Int32)), .val (.int (4 : Int32))] [(.ref a), (.int (4 : Int32))])) rfl rfl (hb hby d8_8)
  obtain ⟨cl23, Ar23, S23, -⟩ := id A_u
  obtain ⟨fs, hr, hrun, hended, hW, hsame⟩ := X22.leave (v := some (.int (-1 : Int32))) (fun h => by rw [Bd.returns] at h; cases h)
  refine ⟨_, _, pre0 _ ?_, hrun, hended, _, _, rfl, ?_, ⟨_, rfl⟩, hW, hsame.mono (by decide) (by decide)⟩
  · show Steps p.tables e below (s₁.setTop (mkF m 0 #[.val (.ref a), .val (.long n'), .second, .unset, .unset] [])) _
    refine XS.iconst X0.here hx rfl (hb hby d8_0) ?_
    show Steps p.tables e below (s₁.setTop (mkF m 1 #[.val (.ref a), .val (.long n'), .second, .unset, .unset] [(.int (-1 : Int32))])) _
    refine XS.istoreN X0.here hx rfl (hb hby d8_1) rfl (l' := #[.val (.ref a), .val (.long n'), .second, .val (.int (-1 : Int32)), .unset]) rfl ?_
    show Steps p.tables e below (s₁.setTop (mkF m 2 #[.val (.ref a), .val (.long n'), .second, .val (.int (-1 : Int32)), .unset] [])) _
    refine XS.iconst X0.here hx rfl (hb hby d8_2) ?_
    show Steps p.tables e below (s₁.setTop (mkF m 3 #[.val (.ref a), .val (.long n'), .second, .val (.int (-1 : Int32)), .unset] [(.int (0 : Int32))])) _
    refine XS.istore X0.here hx rfl (hb hby d8_3) rfl (l' := #[.val (.ref a), .val (.long n'), .second, .val (.int (-1 : Int32)), .val (.int (0 : Int32))]) rfl ?_
    show Steps p.tables e below (s₁.setTop (mkF m 5 #[.val (.ref a), .val (.long n'), .second, .val (.int (-1 : Int32)), .val (.int (0 : Int32))] [])) _
    refine XS.iload X0.here hx rfl (hb hby d8_5) rfl ?_
    show Steps p.tables e below (s₁.setTop (mkF m 7 #[.val (.ref a), .val (.long n'), .second, .val (.int (-1 : Int32)), .val (.int (0 : Int32))] [(.int (0 : Int32))])) _
    refine XS.aloadN X0.here hx rfl (hb hby d8_7) rfl rfl ?_
    show Steps p.tables e below (s₁.setTop (mkF m 8 #[.val (.ref a), .val (.long n'), .second, .val (.int (-1 : Int32)), .val (.int (0 : Int32))] [(.ref a), (.int (0 : Int32))])) _
    refine st1 _ ?_
    show Steps p.tables e below (T1.setTop (mkF m 11 #[.val (.ref a), .val (.long n'), .second, .val (.int (-1 : Int32)), .val (.int (0 : Int32))] [(.ref u), (.int (0 : Int32))])) _
    refine X1.arraylength hx (by rw [e1]; exact Ar2.1) (State.isArrayOf_alike hZ.alike Ar2.2.1) (g := (mkF m 11 #[.val (.ref a), .val (.long n'), .second, .val (.int (-1 : Int32)), .val (.int (0 : Int32))] [(.ref u), (.int (0 : Int32))])) rfl rfl (hb hby d8_11) _ ?_
    rw [S2]
    show Steps p.tables e below (T1.setTop (mkF m 12 #[.val (.ref a), .val (.long n'), .second, .val (.int (-1 : Int32)), .val (.int (0 : Int32))] [(.int (Nat.toInt32 4)), (.int (0 : Int32))])) _
    rw [show ((Nat.toInt32 4) : Int32) = (4 : Int32) from by decide]
    show Steps p.tables e below (T1.setTop (mkF m 12 #[.val (.ref a), .val (.long n'), .second, .val (.int (-1 : Int32)), .val (.int (0 : Int32))] [(.int (4 : Int32)), (.int (0 : Int32))])) _
    refine XS.icmpNo X1.here hx rfl (hb hby d8_12) rfl (tlt (show (0 : Int32) < (4 : Int32) from (by decide))).2.1 ?_
    show Steps p.tables e below (T1.setTop (mkF m 15 #[.val (.ref a), .val (.long n'), .second, .val (.int (-1 : Int32)), .val (.int (0 : Int32))] [])) _
    refine XS.iload X1.here hx rfl (hb hby d8_15) rfl ?_
    show Steps p.tables e below (T1.setTop (mkF m 17 #[.val (.ref a), .val (.long n'), .second, .val (.int (-1 : Int32)), .val (.int (0 : Int32))] [(.int (0 : Int32))])) _
    refine XS.aloadN X1.here hx rfl (hb hby d8_17) rfl rfl ?_
    show Steps p.tables e below (T1.setTop (mkF m 18 #[.val (.ref a), .val (.long n'), .second, .val (.int (-1 : Int32)), .val (.int (0 : Int32))] [(.ref a), (.int (0 : Int32))])) _
    refine st3 _ ?_
    show Steps p.tables e below (T3.setTop (mkF m 21 #[.val (.ref a), .val (.long n'), .second, .val (.int (-1 : Int32)), .val (.int (0 : Int32))] [(.int (0 : Int32)), (.int (0 : Int32))])) _
    refine XS.icmpYes X3.here hx rfl (pc0 := 21) (pc' := 54) rfl (hb hby d8_21) rfl (teq (show (0 : Int32) = (0 : Int32) from rfl)).1 (by decide) (by decide) ?_
    show Steps p.tables e below (T3.setTop (mkF m 54 #[.val (.ref a), .val (.long n'), .second, .val (.int (-1 : Int32)), .val (.int (0 : Int32))] [])) _
    refine XS.iinc X3.here hx rfl (hb hby d8_54) rfl (l' := #[.val (.ref a), .val (.long n'), .second, .val (.int (-1 : Int32)), .val (.int ((0 : Int32) + (1 : Int32)))]) rfl ?_
    show Steps p.tables e below (T3.setTop (mkF m 57 #[.val (.ref a), .val (.long n'), .second, .val (.int (-1 : Int32)), .val (.int ((0 : Int32) + (1 : Int32)))] [])) _
    rw [show (((0 : Int32) + (1 : Int32)) : Int32) = (1 : Int32) from by decide]
    show Steps p.tables e below (T3.setTop (mkF m 57 #[.val (.ref a), .val (.long n'), .second, .val (.int (-1 : Int32)), .val (.int (1 : Int32))] [])) _
    refine XS.goto X3.here hx rfl (pc0 := 57) (pc' := 5) rfl (hb hby d8_57) (by decide) (by decide) ?_
    show Steps p.tables e below (T3.setTop (mkF m 5 #[.val (.ref a), .val (.long n'), .second, .val (.int (-1 : Int32)), .val (.int (1 : Int32))] [])) _
    refine XS.iload X3.here hx rfl (hb hby d8_5) rfl ?_
    show Steps p.tables e below (T3.setTop (mkF m 7 #[.val (.ref a), .val (.long n'), .second, .val (.int (-1 : Int32)), .val (.int (1 : Int32))] [(.int (1 : Int32))])) _
    refine XS.aloadN X3.here hx rfl (hb hby d8_7) rfl rfl ?_
    show Steps p.tables e below (T3.setTop (mkF m 8 #[.val (.ref a), .val (.long n'), .second, .val (.int (-1 : Int32)), .val (.int (1 : Int32))] [(.ref a), (.int (1 : Int32))])) _
    refine st4 _ ?_
    show Steps p.tables e below (T4.setTop (mkF m 11 #[.val (.ref a), .val (.long n'), .second, .val (.int (-1 : Int32)), .val (.int (1 : Int32))] [(.ref u), (.int (1 : Int32))])) _
    refine X4.arraylength hx (by rw [e4]; exact Ar5.1) (State.isArrayOf_alike hZ.alike Ar5.2.1) (g := (mkF m 11 #[.val (.ref a), .val (.long n'), .second, .val (.int (-1 : Int32)), .val (.int (1 : Int32))] [(.ref u), (.int (1 : Int32))])) rfl rfl (hb hby d8_11) _ ?_
    rw [S5]
    show Steps p.tables e below (T4.setTop (mkF m 12 #[.val (.ref a), .val (.long n'), .second, .val (.int (-1 : Int32)), .val (.int (1 : Int32))] [(.int (Nat.toInt32 4)), (.int (1 : Int32))])) _
    rw [show ((Nat.toInt32 4) : Int32) = (4 : Int32) from by decide]
    show Steps p.tables e below (T4.setTop (mkF m 12 #[.val (.ref a), .val (.long n'), .second, .val (.int (-1 : Int32)), .val (.int (1 : Int32))] [(.int (4 : Int32)), (.int (1 : Int32))])) _
    refine XS.icmpNo X4.here hx rfl (hb hby d8_12) rfl (tlt (show (1 : Int32) < (4 : Int32) from (by decide))).2.1 ?_
    show Steps p.tables e below (T4.setTop (mkF m 15 #[.val (.ref a), .val (.long n'), .second, .val (.int (-1 : Int32)), .val (.int (1 : Int32))] [])) _
    refine XS.iload X4.here hx rfl (hb hby d8_15) rfl ?_
    show Steps p.tables e below (T4.setTop (mkF m 17 #[.val (.ref a), .val (.long n'), .second, .val (.int (-1 : Int32)), .val (.int (1 : Int32))] [(.int (1 : Int32))])) _
    refine XS.aloadN X4.here hx rfl (hb hby d8_17) rfl rfl ?_
    show Steps p.tables e below (T4.setTop (mkF m 18 #[.val (.ref a), .val (.long n'), .second, .val (.int (-1 : Int32)), .val (.int (1 : Int32))] [(.ref a), (.int (1 : Int32))])) _
    refine st6 _ ?_
    show Steps p.tables e below (T6.setTop (mkF m 21 #[.val (.ref a), .val (.long n'), .second, .val (.int (-1 : Int32)), .val (.int (1 : Int32))] [(.int (0 : Int32)), (.int (1 : Int32))])) _
    refine XS.icmpNo X6.here hx rfl (hb hby d8_21) rfl (feq (show ¬ ((1 : Int32) = (0 : Int32)) from (by decide))).1 ?_
    show Steps p.tables e below (T6.setTop (mkF m 24 #[.val (.ref a), .val (.long n'), .second, .val (.int (-1 : Int32)), .val (.int (1 : Int32))] [])) _
    refine XS.aloadN X6.here hx rfl (hb hby d8_24) rfl rfl ?_
    show Steps p.tables e below (T6.setTop (mkF m 25 #[.val (.ref a), .val (.long n'), .second, .val (.int (-1 : Int32)), .val (.int (1 : Int32))] [(.ref a)])) _
    refine st7 _ ?_
    show Steps p.tables e below (T7.setTop (mkF m 28 #[.val (.ref a), .val (.long n'), .second, .val (.int (-1 : Int32)), .val (.int (1 : Int32))] [(.ref u)])) _
    refine XS.iload X7.here hx rfl (hb hby d8_28) rfl ?_
    show Steps p.tables e below (T7.setTop (mkF m 30 #[.val (.ref a), .val (.long n'), .second, .val (.int (-1 : Int32)), .val (.int (1 : Int32))] [(.int (1 : Int32)), (.ref u)])) _
    refine X7.laload hx (j := (1 : Int32)) (v := (.long (g 1))) (by rw [e7]; exact Ar8.1) (State.isArrayOf_alike hZ.alike Ar8.2.1) Ar8.2.2 hin8 hat8 (g := (mkF m 30 #[.val (.ref a), .val (.long n'), .second, .val (.int (-1 : Int32)), .val (.int (1 : Int32))] [(.int (1 : Int32)), (.ref u)])) rfl rfl (hb hby d8_30) _ ?_
    show Steps p.tables e below (T7.setTop (mkF m 31 #[.val (.ref a), .val (.long n'), .second, .val (.int (-1 : Int32)), .val (.int (1 : Int32))] [(.long (g 1))])) _
    refine XS.lloadN X7.here hx rfl (hb hby d8_31) rfl ?_
    show Steps p.tables e below (T7.setTop (mkF m 32 #[.val (.ref a), .val (.long n'), .second, .val (.int (-1 : Int32)), .val (.int (1 : Int32))] [(.long n'), (.long (g 1))])) _
    refine XS.aloadN X7.here hx rfl (hb hby d8_32) rfl rfl ?_
    show Steps p.tables e below (T7.setTop (mkF m 33 #[.val (.ref a), .val (.long n'), .second, .val (.int (-1 : Int32)), .val (.int (1 : Int32))] [(.ref a), (.long n'), (.long (g 1))])) _
    refine st9 _ ?_
    show Steps p.tables e below (T9.setTop (mkF m 36 #[.val (.ref a), .val (.long n'), .second, .val (.int (-1 : Int32)), .val (.int (1 : Int32))] [(.long sl), (.long n'), (.long (g 1))])) _
    refine XS.lsub X9.here hx rfl (hb hby d8_36) rfl ?_
    show Steps p.tables e below (T9.setTop (mkF m 37 #[.val (.ref a), .val (.long n'), .second, .val (.int (-1 : Int32)), .val (.int (1 : Int32))] [(.long (n' - sl)), (.long (g 1))])) _
    refine XS.lcmp X9.here hx rfl (hb hby d8_37) rfl ?_
    show Steps p.tables e below (T9.setTop (mkF m 38 #[.val (.ref a), .val (.long n'), .second, .val (.int (-1 : Int32)), .val (.int (1 : Int32))] [(.int (lcmpW (g 1) (n' - sl)))])) _
    refine XS.ifNo X9.here hx rfl (hb hby d8_38) rfl ((if0 _ _).trans (flt (show ¬ ((lcmpW (g 1) (n' - sl)) < (0 : Int32)) from (fun z => hs1 ((lw_lt _ _).mp z)))).1) ?_
    show Steps p.tables e below (T9.setTop (mkF m 41 #[.val (.ref a), .val (.long n'), .second, .val (.int (-1 : Int32)), .val (.int (1 : Int32))] [])) _
    refine XS.goto X9.here hx rfl (pc0 := 41) (pc' := 54) rfl (hb hby d8_41) (by decide) (by decide) ?_
    show Steps p.tables e below (T9.setTop (mkF m 54 #[.val (.ref a), .val (.long n'), .second, .val (.int (-1 : Int32)), .val (.int (1 : Int32))] [])) _
    refine XS.iinc X9.here hx rfl (hb hby d8_54) rfl (l' := #[.val (.ref a), .val (.long n'), .second, .val (.int (-1 : Int32)), .val (.int ((1 : Int32) + (1 : Int32)))]) rfl ?_
    show Steps p.tables e below (T9.setTop (mkF m 57 #[.val (.ref a), .val (.long n'), .second, .val (.int (-1 : Int32)), .val (.int ((1 : Int32) + (1 : Int32)))] [])) _
    rw [show (((1 : Int32) + (1 : Int32)) : Int32) = (2 : Int32) from by decide]
    show Steps p.tables e below (T9.setTop (mkF m 57 #[.val (.ref a), .val (.long n'), .second, .val (.int (-1 : Int32)), .val (.int (2 : Int32))] [])) _
    refine XS.goto X9.here hx rfl (pc0 := 57) (pc' := 5) rfl (hb hby d8_57) (by decide) (by decide) ?_
    show Steps p.tables e below (T9.setTop (mkF m 5 #[.val (.ref a), .val (.long n'), .second, .val (.int (-1 : Int32)), .val (.int (2 : Int32))] [])) _
    refine XS.iload X9.here hx rfl (hb hby d8_5) rfl ?_
    show Steps p.tables e below (T9.setTop (mkF m 7 #[.val (.ref a), .val (.long n'), .second, .val (.int (-1 : Int32)), .val (.int (2 : Int32))] [(.int (2 : Int32))])) _
    refine XS.aloadN X9.here hx rfl (hb hby d8_7) rfl rfl ?_
    show Steps p.tables e below (T9.setTop (mkF m 8 #[.val (.ref a), .val (.long n'), .second, .val (.int (-1 : Int32)), .val (.int (2 : Int32))] [(.ref a), (.int (2 : Int32))])) _
    refine st10 _ ?_
    show Steps p.tables e below (T10.setTop (mkF m 11 #[.val (.ref a), .val (.long n'), .second, .val (.int (-1 : Int32)), .val (.int (2 : Int32))] [(.ref u), (.int (2 : Int32))])) _
    refine X10.arraylength hx (by rw [e10]; exact Ar11.1) (State.isArrayOf_alike hZ.alike Ar11.2.1) (g := (mkF m 11 #[.val (.ref a), .val (.long n'), .second, .val (.int (-1 : Int32)), .val (.int (2 : Int32))] [(.ref u), (.int (2 : Int32))])) rfl rfl (hb hby d8_11) _ ?_
    rw [S11]
    show Steps p.tables e below (T10.setTop (mkF m 12 #[.val (.ref a), .val (.long n'), .second, .val (.int (-1 : Int32)), .val (.int (2 : Int32))] [(.int (Nat.toInt32 4)), (.int (2 : Int32))])) _
    rw [show ((Nat.toInt32 4) : Int32) = (4 : Int32) from by decide]
    show Steps p.tables e below (T10.setTop (mkF m 12 #[.val (.ref a), .val (.long n'), .second, .val (.int (-1 : Int32)), .val (.int (2 : Int32))] [(.int (4 : Int32)), (.int (2 : Int32))])) _
    refine XS.icmpNo X10.here hx rfl (hb hby d8_12) rfl (tlt (show (2 : Int32) < (4 : Int32) from (by decide))).2.1 ?_
    show Steps p.tables e below (T10.setTop (mkF m 15 #[.val (.ref a), .val (.long n'), .second, .val (.int (-1 : Int32)), .val (.int (2 : Int32))] [])) _
    refine XS.iload X10.here hx rfl (hb hby d8_15) rfl ?_
    show Steps p.tables e below (T10.setTop (mkF m 17 #[.val (.ref a), .val (.long n'), .second, .val (.int (-1 : Int32)), .val (.int (2 : Int32))] [(.int (2 : Int32))])) _
    refine XS.aloadN X10.here hx rfl (hb hby d8_17) rfl rfl ?_
    show Steps p.tables e below (T10.setTop (mkF m 18 #[.val (.ref a), .val (.long n'), .second, .val (.int (-1 : Int32)), .val (.int (2 : Int32))] [(.ref a), (.int (2 : Int32))])) _
    refine st12 _ ?_
    show Steps p.tables e below (T12.setTop (mkF m 21 #[.val (.ref a), .val (.long n'), .second, .val (.int (-1 : Int32)), .val (.int (2 : Int32))] [(.int (0 : Int32)), (.int (2 : Int32))])) _
    refine XS.icmpNo X12.here hx rfl (hb hby d8_21) rfl (feq (show ¬ ((2 : Int32) = (0 : Int32)) from (by decide))).1 ?_
    show Steps p.tables e below (T12.setTop (mkF m 24 #[.val (.ref a), .val (.long n'), .second, .val (.int (-1 : Int32)), .val (.int (2 : Int32))] [])) _
    refine XS.aloadN X12.here hx rfl (hb hby d8_24) rfl rfl ?_
    show Steps p.tables e below (T12.setTop (mkF m 25 #[.val (.ref a), .val (.long n'), .second, .val (.int (-1 : Int32)), .val (.int (2 : Int32))] [(.ref a)])) _
    refine st13 _ ?_
    show Steps p.tables e below (T13.setTop (mkF m 28 #[.val (.ref a), .val (.long n'), .second, .val (.int (-1 : Int32)), .val (.int (2 : Int32))] [(.ref u)])) _
    refine XS.iload X13.here hx rfl (hb hby d8_28) rfl ?_
    show Steps p.tables e below (T13.setTop (mkF m 30 #[.val (.ref a), .val (.long n'), .second, .val (.int (-1 : Int32)), .val (.int (2 : Int32))] [(.int (2 : Int32)), (.ref u)])) _
    refine X13.laload hx (j := (2 : Int32)) (v := (.long (g 2))) (by rw [e13]; exact Ar14.1) (State.isArrayOf_alike hZ.alike Ar14.2.1) Ar14.2.2 hin14 hat14 (g := (mkF m 30 #[.val (.ref a), .val (.long n'), .second, .val (.int (-1 : Int32)), .val (.int (2 : Int32))] [(.int (2 : Int32)), (.ref u)])) rfl rfl (hb hby d8_30) _ ?_
    show Steps p.tables e below (T13.setTop (mkF m 31 #[.val (.ref a), .val (.long n'), .second, .val (.int (-1 : Int32)), .val (.int (2 : Int32))] [(.long (g 2))])) _
    refine XS.lloadN X13.here hx rfl (hb hby d8_31) rfl ?_
    show Steps p.tables e below (T13.setTop (mkF m 32 #[.val (.ref a), .val (.long n'), .second, .val (.int (-1 : Int32)), .val (.int (2 : Int32))] [(.long n'), (.long (g 2))])) _
    refine XS.aloadN X13.here hx rfl (hb hby d8_32) rfl rfl ?_
    show Steps p.tables e below (T13.setTop (mkF m 33 #[.val (.ref a), .val (.long n'), .second, .val (.int (-1 : Int32)), .val (.int (2 : Int32))] [(.ref a), (.long n'), (.long (g 2))])) _
    refine st15 _ ?_
    show Steps p.tables e below (T15.setTop (mkF m 36 #[.val (.ref a), .val (.long n'), .second, .val (.int (-1 : Int32)), .val (.int (2 : Int32))] [(.long sl), (.long n'), (.long (g 2))])) _
    refine XS.lsub X15.here hx rfl (hb hby d8_36) rfl ?_
    show Steps p.tables e below (T15.setTop (mkF m 37 #[.val (.ref a), .val (.long n'), .second, .val (.int (-1 : Int32)), .val (.int (2 : Int32))] [(.long (n' - sl)), (.long (g 2))])) _
    refine XS.lcmp X15.here hx rfl (hb hby d8_37) rfl ?_
    show Steps p.tables e below (T15.setTop (mkF m 38 #[.val (.ref a), .val (.long n'), .second, .val (.int (-1 : Int32)), .val (.int (2 : Int32))] [(.int (lcmpW (g 2) (n' - sl)))])) _
    refine XS.ifNo X15.here hx rfl (hb hby d8_38) rfl ((if0 _ _).trans (flt (show ¬ ((lcmpW (g 2) (n' - sl)) < (0 : Int32)) from (fun z => hs2 ((lw_lt _ _).mp z)))).1) ?_
    show Steps p.tables e below (T15.setTop (mkF m 41 #[.val (.ref a), .val (.long n'), .second, .val (.int (-1 : Int32)), .val (.int (2 : Int32))] [])) _
    refine XS.goto X15.here hx rfl (pc0 := 41) (pc' := 54) rfl (hb hby d8_41) (by decide) (by decide) ?_
    show Steps p.tables e below (T15.setTop (mkF m 54 #[.val (.ref a), .val (.long n'), .second, .val (.int (-1 : Int32)), .val (.int (2 : Int32))] [])) _
    refine XS.iinc X15.here hx rfl (hb hby d8_54) rfl (l' := #[.val (.ref a), .val (.long n'), .second, .val (.int (-1 : Int32)), .val (.int ((2 : Int32) + (1 : Int32)))]) rfl ?_
    show Steps p.tables e below (T15.setTop (mkF m 57 #[.val (.ref a), .val (.long n'), .second, .val (.int (-1 : Int32)), .val (.int ((2 : Int32) + (1 : Int32)))] [])) _
    rw [show (((2 : Int32) + (1 : Int32)) : Int32) = (3 : Int32) from by decide]
    show Steps p.tables e below (T15.setTop (mkF m 57 #[.val (.ref a), .val (.long n'), .second, .val (.int (-1 : Int32)), .val (.int (3 : Int32))] [])) _
    refine XS.goto X15.here hx rfl (pc0 := 57) (pc' := 5) rfl (hb hby d8_57) (by decide) (by decide) ?_
    show Steps p.tables e below (T15.setTop (mkF m 5 #[.val (.ref a), .val (.long n'), .second, .val (.int (-1 : Int32)), .val (.int (3 : Int32))] [])) _
    refine XS.iload X15.here hx rfl (hb hby d8_5) rfl ?_
    show Steps p.tables e below (T15.setTop (mkF m 7 #[.val (.ref a), .val (.long n'), .second, .val (.int (-1 : Int32)), .val (.int (3 : Int32))] [(.int (3 : Int32))])) _
    refine XS.aloadN X15.here hx rfl (hb hby d8_7) rfl rfl ?_
    show Steps p.tables e below (T15.setTop (mkF m 8 #[.val (.ref a), .val (.long n'), .second, .val (.int (-1 : Int32)), .val (.int (3 : Int32))] [(.ref a), (.int (3 : Int32))])) _
    refine st16 _ ?_
    show Steps p.tables e below (T16.setTop (mkF m 11 #[.val (.ref a), .val (.long n'), .second, .val (.int (-1 : Int32)), .val (.int (3 : Int32))] [(.ref u), (.int (3 : Int32))])) _
    refine X16.arraylength hx (by rw [e16]; exact Ar17.1) (State.isArrayOf_alike hZ.alike Ar17.2.1) (g := (mkF m 11 #[.val (.ref a), .val (.long n'), .second, .val (.int (-1 : Int32)), .val (.int (3 : Int32))] [(.ref u), (.int (3 : Int32))])) rfl rfl (hb hby d8_11) _ ?_
    rw [S17]
    show Steps p.tables e below (T16.setTop (mkF m 12 #[.val (.ref a), .val (.long n'), .second, .val (.int (-1 : Int32)), .val (.int (3 : Int32))] [(.int (Nat.toInt32 4)), (.int (3 : Int32))])) _
    rw [show ((Nat.toInt32 4) : Int32) = (4 : Int32) from by decide]
    show Steps p.tables e below (T16.setTop (mkF m 12 #[.val (.ref a), .val (.long n'), .second, .val (.int (-1 : Int32)), .val (.int (3 : Int32))] [(.int (4 : Int32)), (.int (3 : Int32))])) _
    refine XS.icmpNo X16.here hx rfl (hb hby d8_12) rfl (tlt (show (3 : Int32) < (4 : Int32) from (by decide))).2.1 ?_
    show Steps p.tables e below (T16.setTop (mkF m 15 #[.val (.ref a), .val (.long n'), .second, .val (.int (-1 : Int32)), .val (.int (3 : Int32))] [])) _
    refine XS.iload X16.here hx rfl (hb hby d8_15) rfl ?_
    show Steps p.tables e below (T16.setTop (mkF m 17 #[.val (.ref a), .val (.long n'), .second, .val (.int (-1 : Int32)), .val (.int (3 : Int32))] [(.int (3 : Int32))])) _
    refine XS.aloadN X16.here hx rfl (hb hby d8_17) rfl rfl ?_
    show Steps p.tables e below (T16.setTop (mkF m 18 #[.val (.ref a), .val (.long n'), .second, .val (.int (-1 : Int32)), .val (.int (3 : Int32))] [(.ref a), (.int (3 : Int32))])) _
    refine st18 _ ?_
    show Steps p.tables e below (T18.setTop (mkF m 21 #[.val (.ref a), .val (.long n'), .second, .val (.int (-1 : Int32)), .val (.int (3 : Int32))] [(.int (0 : Int32)), (.int (3 : Int32))])) _
    refine XS.icmpNo X18.here hx rfl (hb hby d8_21) rfl (feq (show ¬ ((3 : Int32) = (0 : Int32)) from (by decide))).1 ?_
    show Steps p.tables e below (T18.setTop (mkF m 24 #[.val (.ref a), .val (.long n'), .second, .val (.int (-1 : Int32)), .val (.int (3 : Int32))] [])) _
    refine XS.aloadN X18.here hx rfl (hb hby d8_24) rfl rfl ?_
    show Steps p.tables e below (T18.setTop (mkF m 25 #[.val (.ref a), .val (.long n'), .second, .val (.int (-1 : Int32)), .val (.int (3 : Int32))] [(.ref a)])) _
    refine st19 _ ?_
    show Steps p.tables e below (T19.setTop (mkF m 28 #[.val (.ref a), .val (.long n'), .second, .val (.int (-1 : Int32)), .val (.int (3 : Int32))] [(.ref u)])) _
    refine XS.iload X19.here hx rfl (hb hby d8_28) rfl ?_
    show Steps p.tables e below (T19.setTop (mkF m 30 #[.val (.ref a), .val (.long n'), .second, .val (.int (-1 : Int32)), .val (.int (3 : Int32))] [(.int (3 : Int32)), (.ref u)])) _
    refine X19.laload hx (j := (3 : Int32)) (v := (.long (g 3))) (by rw [e19]; exact Ar20.1) (State.isArrayOf_alike hZ.alike Ar20.2.1) Ar20.2.2 hin20 hat20 (g := (mkF m 30 #[.val (.ref a), .val (.long n'), .second, .val (.int (-1 : Int32)), .val (.int (3 : Int32))] [(.int (3 : Int32)), (.ref u)])) rfl rfl (hb hby d8_30) _ ?_
    show Steps p.tables e below (T19.setTop (mkF m 31 #[.val (.ref a), .val (.long n'), .second, .val (.int (-1 : Int32)), .val (.int (3 : Int32))] [(.long (g 3))])) _
    refine XS.lloadN X19.here hx rfl (hb hby d8_31) rfl ?_
    show Steps p.tables e below (T19.setTop (mkF m 32 #[.val (.ref a), .val (.long n'), .second, .val (.int (-1 : Int32)), .val (.int (3 : Int32))] [(.long n'), (.long (g 3))])) _
    refine XS.aloadN X19.here hx rfl (hb hby d8_32) rfl rfl ?_
    show Steps p.tables e below (T19.setTop (mkF m 33 #[.val (.ref a), .val (.long n'), .second, .val (.int (-1 : Int32)), .val (.int (3 : Int32))] [(.ref a), (.long n'), (.long (g 3))])) _
    refine st21 _ ?_
    show Steps p.tables e below (T21.setTop (mkF m 36 #[.val (.ref a), .val (.long n'), .second, .val (.int (-1 : Int32)), .val (.int (3 : Int32))] [(.long sl), (.long n'), (.long (g 3))])) _
    refine XS.lsub X21.here hx rfl (hb hby d8_36) rfl ?_
    show Steps p.tables e below (T21.setTop (mkF m 37 #[.val (.ref a), .val (.long n'), .second, .val (.int (-1 : Int32)), .val (.int (3 : Int32))] [(.long (n' - sl)), (.long (g 3))])) _
    refine XS.lcmp X21.here hx rfl (hb hby d8_37) rfl ?_
    show Steps p.tables e below (T21.setTop (mkF m 38 #[.val (.ref a), .val (.long n'), .second, .val (.int (-1 : Int32)), .val (.int (3 : Int32))] [(.int (lcmpW (g 3) (n' - sl)))])) _
    refine XS.ifNo X21.here hx rfl (hb hby d8_38) rfl ((if0 _ _).trans (flt (show ¬ ((lcmpW (g 3) (n' - sl)) < (0 : Int32)) from (fun z => hs3 ((lw_lt _ _).mp z)))).1) ?_
    show Steps p.tables e below (T21.setTop (mkF m 41 #[.val (.ref a), .val (.long n'), .second, .val (.int (-1 : Int32)), .val (.int (3 : Int32))] [])) _
    refine XS.goto X21.here hx rfl (pc0 := 41) (pc' := 54) rfl (hb hby d8_41) (by decide) (by decide) ?_
    show Steps p.tables e below (T21.setTop (mkF m 54 #[.val (.ref a), .val (.long n'), .second, .val (.int (-1 : Int32)), .val (.int (3 : Int32))] [])) _
    refine XS.iinc X21.here hx rfl (hb hby d8_54) rfl (l' := #[.val (.ref a), .val (.long n'), .second, .val (.int (-1 : Int32)), .val (.int ((3 : Int32) + (1 : Int32)))]) rfl ?_
    show Steps p.tables e below (T21.setTop (mkF m 57 #[.val (.ref a), .val (.long n'), .second, .val (.int (-1 : Int32)), .val (.int ((3 : Int32) + (1 : Int32)))] [])) _
    rw [show (((3 : Int32) + (1 : Int32)) : Int32) = (4 : Int32) from by decide]
    show Steps p.tables e below (T21.setTop (mkF m 57 #[.val (.ref a), .val (.long n'), .second, .val (.int (-1 : Int32)), .val (.int (4 : Int32))] [])) _
    refine XS.goto X21.here hx rfl (pc0 := 57) (pc' := 5) rfl (hb hby d8_57) (by decide) (by decide) ?_
    show Steps p.tables e below (T21.setTop (mkF m 5 #[.val (.ref a), .val (.long n'), .second, .val (.int (-1 : Int32)), .val (.int (4 : Int32))] [])) _
    refine XS.iload X21.here hx rfl (hb hby d8_5) rfl ?_
    show Steps p.tables e below (T21.setTop (mkF m 7 #[.val (.ref a), .val (.long n'), .second, .val (.int (-1 : Int32)), .val (.int (4 : Int32))] [(.int (4 : Int32))])) _
    refine XS.aloadN X21.here hx rfl (hb hby d8_7) rfl rfl ?_
    show Steps p.tables e below (T21.setTop (mkF m 8 #[.val (.ref a), .val (.long n'), .second, .val (.int (-1 : Int32)), .val (.int (4 : Int32))] [(.ref a), (.int (4 : Int32))])) _
    refine st22 _ ?_
    show Steps p.tables e below (T22.setTop (mkF m 11 #[.val (.ref a), .val (.long n'), .second, .val (.int (-1 : Int32)), .val (.int (4 : Int32))] [(.ref u), (.int (4 : Int32))])) _
    refine X22.arraylength hx (by rw [e22]; exact Ar23.1) (State.isArrayOf_alike hZ.alike Ar23.2.1) (g := (mkF m 11 #[.val (.ref a), .val (.long n'), .second, .val (.int (-1 : Int32)), .val (.int (4 : Int32))] [(.ref u), (.int (4 : Int32))])) rfl rfl (hb hby d8_11) _ ?_
    rw [S23]
    show Steps p.tables e below (T22.setTop (mkF m 12 #[.val (.ref a), .val (.long n'), .second, .val (.int (-1 : Int32)), .val (.int (4 : Int32))] [(.int (Nat.toInt32 4)), (.int (4 : Int32))])) _
    rw [show ((Nat.toInt32 4) : Int32) = (4 : Int32) from by decide]
    show Steps p.tables e below (T22.setTop (mkF m 12 #[.val (.ref a), .val (.long n'), .second, .val (.int (-1 : Int32)), .val (.int (4 : Int32))] [(.int (4 : Int32)), (.int (4 : Int32))])) _
    refine XS.icmpYes X22.here hx rfl (pc0 := 12) (pc' := 60) rfl (hb hby d8_12) rfl (flt (show ¬ ((4 : Int32) < (4 : Int32)) from (by decide))).2.1 (by decide) (by decide) ?_
    show Steps p.tables e below (T22.setTop (mkF m 60 #[.val (.ref a), .val (.long n'), .second, .val (.int (-1 : Int32)), .val (.int (4 : Int32))] [])) _
    refine XS.iloadN X22.here hx rfl (hb hby d8_60) rfl ?_
    show Steps p.tables e below (T22.setTop (mkF m 61 #[.val (.ref a), .val (.long n'), .second, .val (.int (-1 : Int32)), .val (.int (4 : Int32))] [(.int (-1 : Int32))])) _
    exact retI X22 hx Bd.returns (hb hby d8_61) hr
  · show Qrm8_0 Z a n' sl u g h0 n0 _ T22.heap _
    rw [e22]
    exact ⟨rfl, N0, rfl⟩
theorem pd_2 : parseMethodDescriptor "(J)I" = some ⟨[.long], some .int⟩ := by decide +kernel
theorem own_selp {s : State} {args : Array Value} {y : MethodName} {n : Nat} (wi : (Cond.instantiable y.cls n).before args s = true) (hpriv : s.PrivateAt y) (hinst : (Cond.instanceMethod y).before args s = true) (hy : y.cls ≠ "java/lang/invoke/MethodHandle" ∧ y.cls ≠ "java/lang/invoke/VarHandle") : (Cond.selects y.cls y y).before args s = true := by
  obtain ⟨c, k, hc, hk, -, hni, -, -⟩ := Cond.instantiable_spec wi
  exact selects_self_of_private hc hk (Bool.or_eq_false_iff.mp hni).1 hpriv hinst hy
theorem pd_3 : parseMethodDescriptor "(JJ)J" = some ⟨[.long, .long], some .long⟩ := by decide +kernel
theorem d7_0 : decode prog_146_method_5_code 0 = .ok (.aload_n 0, 1) := by decide +kernel
theorem d7_1 : decode prog_146_method_5_code 1 = .ok (.lload_n 3, 1) := by decide +kernel
theorem d7_2 : decode prog_146_method_5_code 2 = .ok (.invokevirtual 41, 3) := by decide +kernel
theorem d7_5 : decode prog_146_method_5_code 5 = .ok (.istore 5, 2) := by decide +kernel
theorem d7_7 : decode prog_146_method_5_code 7 = .ok (.lload_n 1, 1) := by decide +kernel
theorem d7_8 : decode prog_146_method_5_code 8 = .ok (.lstore 6, 2) := by decide +kernel
theorem d7_10 : decode prog_146_method_5_code 10 = .ok (.iconst 1, 1) := by decide +kernel
theorem d7_11 : decode prog_146_method_5_code 11 = .ok (.istore 8, 2) := by decide +kernel
theorem d7_13 : decode prog_146_method_5_code 13 = .ok (.iconst 0, 1) := by decide +kernel
theorem d7_14 : decode prog_146_method_5_code 14 = .ok (.istore 9, 2) := by decide +kernel
theorem d7_16 : decode prog_146_method_5_code 16 = .ok (.iload 9, 2) := by decide +kernel
theorem d7_18 : decode prog_146_method_5_code 18 = .ok (.aload_n 0, 1) := by decide +kernel
theorem d7_19 : decode prog_146_method_5_code 19 = .ok (.getfield 20, 3) := by decide +kernel
theorem d7_22 : decode prog_146_method_5_code 22 = .ok (.arraylength, 1) := by decide +kernel
theorem d7_23 : decode prog_146_method_5_code 23 = .ok (.if_icmp .ge 42, 3) := by decide +kernel
theorem d7_26 : decode prog_146_method_5_code 26 = .ok (.iload 9, 2) := by decide +kernel
theorem d7_28 : decode prog_146_method_5_code 28 = .ok (.aload_n 0, 1) := by decide +kernel
theorem d7_29 : decode prog_146_method_5_code 29 = .ok (.getfield 7, 3) := by decide +kernel
theorem d7_32 : decode prog_146_method_5_code 32 = .ok (.if_icmp .eq 27, 3) := by decide +kernel
theorem d7_35 : decode prog_146_method_5_code 35 = .ok (.iload 9, 2) := by decide +kernel
theorem d7_37 : decode prog_146_method_5_code 37 = .ok (.iload 5, 2) := by decide +kernel
theorem d7_39 : decode prog_146_method_5_code 39 = .ok (.if_icmp .eq 20, 3) := by decide +kernel
theorem d7_42 : decode prog_146_method_5_code 42 = .ok (.lload 6, 2) := by decide +kernel
theorem d7_44 : decode prog_146_method_5_code 44 = .ok (.aload_n 0, 1) := by decide +kernel
theorem d7_45 : decode prog_146_method_5_code 45 = .ok (.getfield 20, 3) := by decide +kernel
theorem d7_48 : decode prog_146_method_5_code 48 = .ok (.iload 9, 2) := by decide +kernel
theorem d7_50 : decode prog_146_method_5_code 50 = .ok (.laload, 1) := by decide +kernel
theorem d7_51 : decode prog_146_method_5_code 51 = .ok (.invokestatic 45, 3) := by decide +kernel
theorem d7_54 : decode prog_146_method_5_code 54 = .ok (.lstore 6, 2) := by decide +kernel
theorem d7_56 : decode prog_146_method_5_code 56 = .ok (.iinc 8 1, 3) := by decide +kernel
theorem d7_59 : decode prog_146_method_5_code 59 = .ok (.iinc 9 1, 3) := by decide +kernel
theorem d7_62 : decode prog_146_method_5_code 62 = .ok (.goto (-46), 3) := by decide +kernel
theorem d7_65 : decode prog_146_method_5_code 65 = .ok (.iload 8, 2) := by decide +kernel
theorem d7_67 : decode prog_146_method_5_code 67 = .ok (.aload_n 0, 1) := by decide +kernel
theorem d7_68 : decode prog_146_method_5_code 68 = .ok (.getfield 13, 3) := by decide +kernel
theorem d7_71 : decode prog_146_method_5_code 71 = .ok (.if_icmp .lt 8, 3) := by decide +kernel
theorem d7_74 : decode prog_146_method_5_code 74 = .ok (.lload 6, 2) := by decide +kernel
theorem d7_76 : decode prog_146_method_5_code 76 = .ok (.goto 6, 3) := by decide +kernel
theorem d7_82 : decode prog_146_method_5_code 82 = .ok (.lreturn, 1) := by decide +kernel
theorem ef_7 (m : MethodId) (x0 : Addr) (x1 : Int64) (x2 : Int64) : entryFrame m #[(.ref x0), (.long x1), (.long x2)] 10 = mkF m 0 #[.val (.ref x0), .val (.long x1), .second, .val (.long x2), .second, .unset, .unset, .unset, .unset, .unset] [] := by first | (simp [entryFrame, mkF, argsToLocals, Value.category]; done) | rfl
def Qrm7_0 (Z : State) (a : Addr) (x : Int64) (n' : Int64) (sl : Int64) (t : Addr) (u : Addr) (f : Nat → Int64) (g : Nat → Int64) (h0 : Heap) (n0 : Nat) (v : Option Value) (h : Heap) (L : List Loc) : Prop := v = some (.long (own_min (own_min (own_min x (f 1)) (f 2)) (f 3))) ∧ Fr n0 L ∧ h = h0
set_option maxRecDepth 65536 in
set_option maxHeartbeats 40000000 in
theorem rm7_0 (l : Launch) (Z : State) (a0 : Array Value) (hw : ∀ d ∈ tables_1, d.before a0 Z = true) (ws : List Jvm.Cond) (a : Addr) (x : Int64) (n' : Int64) (sl : Int64) (t : Addr) (u : Addr) (f : Nat → Int64) (g : Nat → Int64) (h0 : Heap) (n0 : Nat) (Z0 : n0 ≤ h0.size) (E_a : Exa Z h0 a "stillmark/StableTimes") (F_own_a : Fld Z h0 a "stillmark/StableTimes" "own" "I" (.int (0 : Int32))) (F_silence_a : Fld Z h0 a "stillmark/StableTimes" "silence" "J" (.long sl)) (F_heard_a : Fld Z h0 a "stillmark/StableTimes" "heard" "[J" (.ref u)) (A_u : Av Z h0 u .long 4 (own_l g)) (F_majority_a : Fld Z h0 a "stillmark/StableTimes" "majority" "I" (.int (3 : Int32))) (F_told_a : Fld Z h0 a "stillmark/StableTimes" "told" "[J" (.ref t)) (A_t : Av Z h0 t .long 4 (own_l f)) (hs1 : ¬ ((g 1) < (n' - sl))) (hs2 : ¬ ((g 2) < (n' - sl))) (hs3 : ¬ ((g 3) < (n' - sl))) :
    MetFree l (⟨"stillmark/StableTimes", "raise", "(JJ)J"⟩ : MethodName) (head1 (Jvm.Cond.code (⟨"stillmark/StableTimes", "raise", "(JJ)J"⟩ : MethodName) prog_146_method_5_code 10 (some .long) :: ws) ({ frames := 1, cells := 0, slots := 0, locals := 16 } : Room)) (fun aa_ U => aa_ = #[(.ref a), (.long x), (.long n')] ∧ Z.Warmed39 U.vm ∧ U.heap = h0) (fun _ _ _ _ _ => True) (fun _ U o U' => ∃ v L, o = .returned v ∧ Qrm7_0 Z a x n' sl t u f g h0 n0 v U'.heap L ∧ FrameEnd U o U' L ({ frames := 1, cells := 0, slots := 0, locals := 16 } : Room).cells ({ frames := 1, cells := 0, slots := 0, locals := 16 } : Room).slots) := by
  refine MetFree.of_bodySF (plainFor_of_name pn_1) hisR ?_
  intro p e s m args below meth c s₁ Bd hml0 hP hK
  obtain ⟨rfl, hZ, hh⟩ := hP
  have hx := Bd.exec
  have hby := Bd.bytes
  have hml : c.maxLocals = 10 := hml0
  have hown : s.vm.findClass "stillmark/StableTimes" = some m.cls := findClass_of_methodNamed Bd.named
  have hnm := (name_of_methodNamed Bd.named Bd.method).1
  have X0 : Stand p l e ({ frames := 1, cells := 0, slots := 0, locals := 16 } : Room) s m #[(.ref a), (.long x), (.long n')] below meth c s₁ [] 0 0 := Stand.of_body Bd
  have e0 : s₁.heap = h0 := by rw [← hh, Bd.state]; rfl
  have N0 := Fr.nil n0
  have pre0 : ∀ tt_, Steps p.tables e below (s₁.setTop (mkF m 0 #[.val (.ref a), .val (.long x), .second, .val (.long n'), .second, .unset, .unset, .unset, .unset, .unset] [])) tt_ → Steps p.tables e below (s₁.setTop (entryFrame m #[(.ref a), (.long x), (.long n')] 10)) tt_ := fun tt_ kk_ => castTop (ef_7 m a x n') kk_
  obtain ⟨cq1, q1, q1'⟩ := E_a.cell
  obtain ⟨_, _, ⟨T1, L1, k1, n1⟩, -, X1, ⟨Lc1, hQ1, l1, y1, z1⟩, st1⟩ := X0.privateBack hx (y := (⟨"stillmark/StableTimes", "leftOut", "(J)I"⟩ : MethodName)) hown (mvT hZ (hw _ (List.mem_of_getElem? (i := 47) rfl))) (mvT hZ (hw _ (List.mem_of_getElem? (i := 48) rfl))) (own_selp (y := (⟨"stillmark/StableTimes", "leftOut", "(J)I"⟩ : MethodName)) (mvT hZ (hw _ (List.mem_of_getElem? (i := 3) rfl))) (Cond.privateMethod_at (mvP hZ (hw _ (List.mem_of_getElem? (i := 49) rfl)) (args := #[]))) (mvT hZ (hw _ (List.mem_of_getElem? (i := 48) rfl))) (by decide)) (Cond.privateMethod_at (mvP hZ (hw _ (List.mem_of_getElem? (i := 49) rfl)) (args := #[]))) (mvT hZ (hw _ (List.mem_of_getElem? (i := 50) rfl))) (by decide) (backOf (W := 0) (rm8_0 l Z a0 hw [] a n' sl u g h0 n0 Z0 E_a F_own_a F_silence_a F_heard_a A_u hs1 hs2 hs3) hZ (hw _ (List.mem_of_getElem? (i := 50) rfl)) (hw _ (List.mem_of_getElem? (i := 4) rfl)) (by decide) (by decide)) (g := (mkF m 2 #[.val (.ref a), .val (.long x), .second, .val (.long n'), .second, .unset, .unset, .unset, .unset, .unset] [(.long n'), (.ref a)])) rfl (by rw [hml]; rfl) (Steps.refl _) (a := a) (by rw [e0]; exact q1) q1' (argsL := [(.long n')]) (rest := []) (lenOf pd_2 rfl) rfl (by show 2 * 0 + _ ≤ _; exact Nat.le_of_eq rfl) (hb hby d7_2) (fun _ _ => ⟨rfl, e0, (by decide : 0 + 0 ≤ _), (by decide : 0 + 0 ≤ _)⟩)
  dsimp only [Pt.U, Pt.locs, Pt.cells, Pt.slots] at X1 l1 y1 z1 st1 hQ1
  subst l1 y1 z1
  obtain ⟨rfl, N1q, e1q⟩ := hQ1
  have N1 := Fr.app N0 N1q
  obtain ⟨T2, X2, e2, st2⟩ := getF X1 hx hZ hown (host := "") (Or.inl (hw _ (List.mem_of_getElem? (i := 18) rfl))) Via.refl e1q F_told_a (g := (mkF m 19 #[.val (.ref a), .val (.long x), .second, .val (.long n'), .second, .val (.int (-1 : Int32)), .val (.long x), .second, .val (.int (1 : Int32)), .val (.int (0 : Int32))] [(.ref a), (.int (0 : Int32))])) rfl rfl (hb hby d7_19)
  obtain ⟨cl3, Ar3, S3, -⟩ := id A_t
  obtain ⟨T4, X4, e4, st4⟩ := getF X2 hx hZ hown (host := "") (Or.inl (hw _ (List.mem_of_getElem? (i := 11) rfl))) Via.refl e2 F_own_a (g := (mkF m 29 #[.val (.ref a), .val (.long x), .second, .val (.long n'), .second, .val (.int (-1 : Int32)), .val (.long x), .second, .val (.int (1 : Int32)), .val (.int (0 : Int32))] [(.ref a), (.int (0 : Int32))])) rfl rfl (hb hby d7_29)
  obtain ⟨T5, X5, e5, st5⟩ := getF X4 hx hZ hown (host := "") (Or.inl (hw _ (List.mem_of_getElem? (i := 18) rfl))) Via.refl e4 F_told_a (g := (mkF m 19 #[.val (.ref a), .val (.long x), .second, .val (.long n'), .second, .val (.int (-1 : Int32)), .val (.long x), .second, .val (.int (1 : Int32)), .val (.int (1 : Int32))] [(.ref a), (.int (1 : Int32))])) rfl rfl (hb hby d7_19)
  obtain ⟨cl6, Ar6, S6, -⟩ := id A_t
  obtain ⟨T7, X7, e7, st7⟩ := getF X5 hx hZ hown (host := "") (Or.inl (hw _ (List.mem_of_getElem? (i := 11) rfl))) Via.refl e5 F_own_a (g := (mkF m 29 #[.val (.ref a), .val (.long x), .second, .val (.long n'), .second, .val (.int (-1 : Int32)), .val (.long x), .second, .val (.int (1 : Int32)), .val (.int (1 : Int32))] [(.ref a), (.int (1 : Int32))])) rfl rfl (hb hby d7_29)
  obtain ⟨T8, X8, e8, st8⟩ := getF X7 hx hZ hown (host := "") (Or.inl (hw _ (List.mem_of_getElem? (i := 18) rfl))) Via.refl e7 F_told_a (g := (mkF m 45 #[.val (.ref a), .val (.long x), .second, .val (.long n'), .second, .val (.int (-1 : Int32)), .val (.long x), .second, .val (.int (1 : Int32)), .val (.int (1 : Int32))] [(.ref a), (.long x)])) rfl rfl (hb hby d7_45)
  obtain ⟨cl9, Ar9, S9, H9⟩ := id A_t
  have hj9 : (1 : Int32).toNatClampNeg = 1 := (by decide)
  have hin9 : ¬ ((1 : Int32) < 0 ∨ cl9.slots.size ≤ ((1 : Int32)).toNatClampNeg) := by rw [S9, hj9]; exact fun q => q.elim (by decide) (Nat.not_le.mpr (by decide : 1 < 4))
  have hat9 : cl9.slots[((1 : Int32)).toNatClampNeg]? = some (.long (f 1)) := by rw [hj9, H9 _ (by decide : 1 < 4)]; exact congrArg some (rfl)
  obtain ⟨_, _, ⟨T10, L10, k10, n10⟩, -, X10, ⟨Lc10, hQ10, l10, y10, z10⟩, st10⟩ := Jvm.LawKit.callS X8 hx (y := (⟨"java/lang/Math", "min", "(JJ)J"⟩ : MethodName)) hown (mvT hZ (hw _ (List.mem_of_getElem? (i := 51) rfl))) (mvT hZ (hw _ (List.mem_of_getElem? (i := 52) rfl))) (mvT hZ (hw _ (List.mem_of_getElem? (i := 53) rfl))) (mvT hZ (hw _ (List.mem_of_getElem? (i := 54) rfl))) (by decide) (backOf (W := 0) (rm9 l Z a0 hw [] x (f 1) h0 n0 Z0 ) hZ (hw _ (List.mem_of_getElem? (i := 54) rfl)) (hw _ (List.mem_of_getElem? (i := 53) rfl)) (by decide) (by decide)) (g := (mkF m 51 #[.val (.ref a), .val (.long x), .second, .val (.long n'), .second, .val (.int (-1 : Int32)), .val (.long x), .second, .val (.int (1 : Int32)), .val (.int (1 : Int32))] [(.long (f 1)), (.long x)])) rfl (by rw [hml]; rfl) (argsL := [(.long x), (.long (f 1))]) (rest := []) (lenOf pd_3 rfl) rfl (by show 2 * 0 + _ ≤ _; exact Nat.le_of_eq rfl) (hb hby d7_51) (fun _ _ => ⟨rfl, e8, (by decide : 0 + 0 ≤ _), (by decide : 0 + 0 ≤ _)⟩)
  dsimp only [Pt.U, Pt.locs, Pt.cells, Pt.slots] at X10 l10 y10 z10 st10 hQ10
  subst l10 y10 z10
  obtain ⟨rfl, N10q, e10q⟩ := hQ10
  have N10 := Fr.app N1 N10q
  obtain ⟨T11, X11, e11, st11⟩ := getF X10 hx hZ hown (host := "") (Or.inl (hw _ (List.mem_of_getElem? (i := 18) rfl))) Via.refl e10q F_told_a (g := (mkF m 19 #[.val (.ref a), .val (.long x), .second, .val (.long n'), .second, .val (.int (-1 : Int32)), .val (.long (own_min x (f 1))), .second, .val (.int (2 : Int32)), .val (.int (2 : Int32))] [(.ref a), (.int (2 : Int32))])) rfl rfl (hb hby d7_19)
  obtain ⟨cl12, Ar12, S12, -⟩ := id A_t
  obtain ⟨T13, X13, e13, st13⟩ := getF X11 hx hZ hown (host := "") (Or.inl (hw _ (List.mem_of_getElem? (i := 11) rfl))) Via.refl e11 F_own_a (g := (mkF m 29 #[.val (.ref a), .val (.long x), .second, .val (.long n'), .second, .val (.int (-1 : Int32)), .val (.long (own_min x (f 1))), .second, .val (.int (2 : Int32)), .val (.int (2 : Int32))] [(.ref a), (.int (2 : Int32))])) rfl rfl (hb hby d7_29)
  obtain ⟨T14, X14, e14, st14⟩ := getF X13 hx hZ hown (host := "") (Or.inl (hw _ (List.mem_of_getElem? (i := 18) rfl))) Via.refl e13 F_told_a (g := (mkF m 45 #[.val (.ref a), .val (.long x), .second, .val (.long n'), .second, .val (.int (-1 : Int32)), .val (.long (own_min x (f 1))), .second, .val (.int (2 : Int32)), .val (.int (2 : Int32))] [(.ref a), (.long (own_min x (f 1)))])) rfl rfl (hb hby d7_45)
  obtain ⟨cl15, Ar15, S15, H15⟩ := id A_t
  have hj15 : (2 : Int32).toNatClampNeg = 2 := (by decide)
  have hin15 : ¬ ((2 : Int32) < 0 ∨ cl15.slots.size ≤ ((2 : Int32)).toNatClampNeg) := by rw [S15, hj15]; exact fun q => q.elim (by decide) (Nat.not_le.mpr (by decide : 2 < 4))
  have hat15 : cl15.slots[((2 : Int32)).toNatClampNeg]? = some (.long (f 2)) := by rw [hj15, H15 _ (by decide : 2 < 4)]; exact congrArg some (rfl)
  obtain ⟨_, _, ⟨T16, L16, k16, n16⟩, -, X16, ⟨Lc16, hQ16, l16, y16, z16⟩, st16⟩ := Jvm.LawKit.callS X14 hx (y := (⟨"java/lang/Math", "min", "(JJ)J"⟩ : MethodName)) hown (mvT hZ (hw _ (List.mem_of_getElem? (i := 51) rfl))) (mvT hZ (hw _ (List.mem_of_getElem? (i := 52) rfl))) (mvT hZ (hw _ (List.mem_of_getElem? (i := 53) rfl))) (mvT hZ (hw _ (List.mem_of_getElem? (i := 54) rfl))) (by decide) (backOf (W := 0) (rm9 l Z a0 hw [] (own_min x (f 1)) (f 2) h0 n0 Z0 ) hZ (hw _ (List.mem_of_getElem? (i := 54) rfl)) (hw _ (List.mem_of_getElem? (i := 53) rfl)) (by decide) (by decide)) (g := (mkF m 51 #[.val (.ref a), .val (.long x), .second, .val (.long n'), .second, .val (.int (-1 : Int32)), .val (.long (own_min x (f 1))), .second, .val (.int (2 : Int32)), .val (.int (2 : Int32))] [(.long (f 2)), (.long (own_min x (f 1)))])) rfl (by rw [hml]; rfl) (argsL := [(.long (own_min x (f 1))), (.long (f 2))]) (rest := []) (lenOf pd_3 rfl) rfl (by show 2 * 0 + _ ≤ _; exact Nat.le_of_eq rfl) (hb hby d7_51) (fun _ _ => ⟨rfl, e14, (by decide : 0 + 0 ≤ _), (by decide : 0 + 0 ≤ _)⟩)
  dsimp only [Pt.U, Pt.locs, Pt.cells, Pt.slots] at X16 l16 y16 z16 st16 hQ16
  subst l16 y16 z16
  obtain ⟨rfl, N16q, e16q⟩ := hQ16
  have N16 := Fr.app N10 N16q
  obtain ⟨T17, X17, e17, st17⟩ := getF X16 hx hZ hown (host := "") (Or.inl (hw _ (List.mem_of_getElem? (i := 18) rfl))) Via.refl e16q F_told_a (g := (mkF m 19 #[.val (.ref a), .val (.long x), .second, .val (.long n'), .second, .val (.int (-1 : Int32)), .val (.long (own_min (own_min x (f 1)) (f 2))), .second, .val (.int (3 : Int32)), .val (.int (3 : Int32))] [(.ref a), (.int (3 : Int32))])) rfl rfl (hb hby d7_19)
  obtain ⟨cl18, Ar18, S18, -⟩ := id A_t
  obtain ⟨T19, X19, e19, st19⟩ := getF X17 hx hZ hown (host := "") (Or.inl (hw _ (List.mem_of_getElem? (i := 11) rfl))) Via.refl e17 F_own_a (g := (mkF m 29 #[.val (.ref a), .val (.long x), .second, .val (.long n'), .second, .val (.int (-1 : Int32)), .val (.long (own_min (own_min x (f 1)) (f 2))), .second, .val (.int (3 : Int32)), .val (.int (3 : Int32))] [(.ref a), (.int (3 : Int32))])) rfl rfl (hb hby d7_29)
  obtain ⟨T20, X20, e20, st20⟩ := getF X19 hx hZ hown (host := "") (Or.inl (hw _ (List.mem_of_getElem? (i := 18) rfl))) Via.refl e19 F_told_a (g := (mkF m 45 #[.val (.ref a), .val (.long x), .second, .val (.long n'), .second, .val (.int (-1 : Int32)), .val (.long (own_min (own_min x (f 1)) (f 2))), .second, .val (.int (3 : Int32)), .val (.int (3 : Int32))] [(.ref a), (.long (own_min (own_min x (f 1)) (f 2)))])) rfl rfl (hb hby d7_45)
  obtain ⟨cl21, Ar21, S21, H21⟩ := id A_t
  have hj21 : (3 : Int32).toNatClampNeg = 3 := (by decide)
  have hin21 : ¬ ((3 : Int32) < 0 ∨ cl21.slots.size ≤ ((3 : Int32)).toNatClampNeg) := by rw [S21, hj21]; exact fun q => q.elim (by decide) (Nat.not_le.mpr (by decide : 3 < 4))
  have hat21 : cl21.slots[((3 : Int32)).toNatClampNeg]? = some (.long (f 3)) := by rw [hj21, H21 _ (by decide : 3 < 4)]; exact congrArg some (rfl)
  obtain ⟨_, _, ⟨T22, L22, k22, n22⟩, -, X22, ⟨Lc22, hQ22, l22, y22, z22⟩, st22⟩ := Jvm.LawKit.callS X20 hx (y := (⟨"java/lang/Math", "min", "(JJ)J"⟩ : MethodName)) hown (mvT hZ (hw _ (List.mem_of_getElem? (i := 51) rfl))) (mvT hZ (hw _ (List.mem_of_getElem? (i := 52) rfl))) (mvT hZ (hw _ (List.mem_of_getElem? (i := 53) rfl))) (mvT hZ (hw _ (List.mem_of_getElem? (i := 54) rfl))) (by decide) (backOf (W := 0) (rm9 l Z a0 hw [] (own_min (own_min x (f 1)) (f 2)) (f 3) h0 n0 Z0 ) hZ (hw _ (List.mem_of_getElem? (i := 54) rfl)) (hw _ (List.mem_of_getElem? (i := 53) rfl)) (by decide) (by decide)) (g := (mkF m 51 #[.val (.ref a), .val (.long x), .second, .val (.long n'), .second, .val (.int (-1 : Int32)), .val (.long (own_min (own_min x (f 1)) (f 2))), .second, .val (.int (3 : Int32)), .val (.int (3 : Int32))] [(.long (f 3)), (.long (own_min (own_min x (f 1)) (f 2)))])) rfl (by rw [hml]; rfl) (argsL := [(.long (own_min (own_min x (f 1)) (f 2))), (.long (f 3))]) (rest := []) (lenOf pd_3 rfl) rfl (by show 2 * 0 + _ ≤ _; exact Nat.le_of_eq rfl) (hb hby d7_51) (fun _ _ => ⟨rfl, e20, (by decide : 0 + 0 ≤ _), (by decide : 0 + 0 ≤ _)⟩)
  dsimp only [Pt.U, Pt.locs, Pt.cells, Pt.slots] at X22 l22 y22 z22 st22 hQ22
  subst l22 y22 z22
  obtain ⟨rfl, N22q, e22q⟩ := hQ22
  have N22 := Fr.app N16 N22q
  obtain ⟨T23, X23, e23, st23⟩ := getF X22 hx hZ hown (host := "") (Or.inl (hw _ (List.mem_of_getElem? (i := 18) rfl))) Via.refl e22q F_told_a (g := (mkF m 19 #[.val (.ref a), .val (.long x), .second, .val (.long n'), .second, .val (.int (-1 : Int32)), .val (.long (own_min (own_min (own_min x (f 1)) (f 2)) (f 3))), .second, .val (.int (4 : Int32)), .val (.int (4 : Int32))] [(.ref a), (.int (4 : Int32))])) rfl rfl (hb hby d7_19)
  obtain ⟨cl24, Ar24, S24, -⟩ := id A_t
  obtain ⟨T25, X25, e25, st25⟩ := getF X23 hx hZ hown (host := "") (Or.inl (hw _ (List.mem_of_getElem? (i := 13) rfl))) Via.refl e23 F_majority_a (g := (mkF m 68 #[.val (.ref a), .val (.long x), .second, .val (.long n'), .second, .val (.int (-1 : Int32)), .val (.long (own_min (own_min (own_min x (f 1)) (f 2)) (f 3))), .second, .val (.int (4 : Int32)), .val (.int (4 : Int32))] [(.ref a), (.int (4 : Int32))])) rfl rfl (hb hby d7_68)
  obtain ⟨fs, hr, hrun, hended, hW, hsame⟩ := X25.leave (v := some (.long (own_min (own_min (own_min x (f 1)) (f 2)) (f 3)))) (fun h => by rw [Bd.returns] at h; cases h)
  refine ⟨_, _, pre0 _ ?_, hrun, hended, _, _, rfl, ?_, ⟨_, rfl⟩, hW, hsame.mono (by decide) (by decide)⟩
  · show Steps p.tables e below (s₁.setTop (mkF m 0 #[.val (.ref a), .val (.long x), .second, .val (.long n'), .second, .unset, .unset, .unset, .unset, .unset] [])) _
    refine XS.aloadN X0.here hx rfl (hb hby d7_0) rfl rfl ?_
    show Steps p.tables e below (s₁.setTop (mkF m 1 #[.val (.ref a), .val (.long x), .second, .val (.long n'), .second, .unset, .unset, .unset, .unset, .unset] [(.ref a)])) _
    refine XS.lloadN X0.here hx rfl (hb hby d7_1) rfl ?_
    show Steps p.tables e below (s₁.setTop (mkF m 2 #[.val (.ref a), .val (.long x), .second, .val (.long n'), .second, .unset, .unset, .unset, .unset, .unset] [(.long n'), (.ref a)])) _
    refine st1.trans ?_
    show Steps p.tables e below (T1.setTop (mkF m 5 #[.val (.ref a), .val (.long x), .second, .val (.long n'), .second, .unset, .unset, .unset, .unset, .unset] [(.int (-1 : Int32))])) _
    refine XS.istore X1.here hx rfl (hb hby d7_5) rfl (l' := #[.val (.ref a), .val (.long x), .second, .val (.long n'), .second, .val (.int (-1 : Int32)), .unset, .unset, .unset, .unset]) rfl ?_
    show Steps p.tables e below (T1.setTop (mkF m 7 #[.val (.ref a), .val (.long x), .second, .val (.long n'), .second, .val (.int (-1 : Int32)), .unset, .unset, .unset, .unset] [])) _
    refine XS.lloadN X1.here hx rfl (hb hby d7_7) rfl ?_
    show Steps p.tables e below (T1.setTop (mkF m 8 #[.val (.ref a), .val (.long x), .second, .val (.long n'), .second, .val (.int (-1 : Int32)), .unset, .unset, .unset, .unset] [(.long x)])) _
    refine XS.lstore X1.here hx rfl (hb hby d7_8) rfl (l' := #[.val (.ref a), .val (.long x), .second, .val (.long n'), .second, .val (.int (-1 : Int32)), .val (.long x), .second, .unset, .unset]) rfl ?_
    show Steps p.tables e below (T1.setTop (mkF m 10 #[.val (.ref a), .val (.long x), .second, .val (.long n'), .second, .val (.int (-1 : Int32)), .val (.long x), .second, .unset, .unset] [])) _
    refine XS.iconst X1.here hx rfl (hb hby d7_10) ?_
    show Steps p.tables e below (T1.setTop (mkF m 11 #[.val (.ref a), .val (.long x), .second, .val (.long n'), .second, .val (.int (-1 : Int32)), .val (.long x), .second, .unset, .unset] [(.int (1 : Int32))])) _
    refine XS.istore X1.here hx rfl (hb hby d7_11) rfl (l' := #[.val (.ref a), .val (.long x), .second, .val (.long n'), .second, .val (.int (-1 : Int32)), .val (.long x), .second, .val (.int (1 : Int32)), .unset]) rfl ?_
    show Steps p.tables e below (T1.setTop (mkF m 13 #[.val (.ref a), .val (.long x), .second, .val (.long n'), .second, .val (.int (-1 : Int32)), .val (.long x), .second, .val (.int (1 : Int32)), .unset] [])) _
    refine XS.iconst X1.here hx rfl (hb hby d7_13) ?_
    show Steps p.tables e below (T1.setTop (mkF m 14 #[.val (.ref a), .val (.long x), .second, .val (.long n'), .second, .val (.int (-1 : Int32)), .val (.long x), .second, .val (.int (1 : Int32)), .unset] [(.int (0 : Int32))])) _
    refine XS.istore X1.here hx rfl (hb hby d7_14) rfl (l' := #[.val (.ref a), .val (.long x), .second, .val (.long n'), .second, .val (.int (-1 : Int32)), .val (.long x), .second, .val (.int (1 : Int32)), .val (.int (0 : Int32))]) rfl ?_
    show Steps p.tables e below (T1.setTop (mkF m 16 #[.val (.ref a), .val (.long x), .second, .val (.long n'), .second, .val (.int (-1 : Int32)), .val (.long x), .second, .val (.int (1 : Int32)), .val (.int (0 : Int32))] [])) _
    refine XS.iload X1.here hx rfl (hb hby d7_16) rfl ?_
    show Steps p.tables e below (T1.setTop (mkF m 18 #[.val (.ref a), .val (.long x), .second, .val (.long n'), .second, .val (.int (-1 : Int32)), .val (.long x), .second, .val (.int (1 : Int32)), .val (.int (0 : Int32))] [(.int (0 : Int32))])) _
    refine XS.aloadN X1.here hx rfl (hb hby d7_18) rfl rfl ?_
    show Steps p.tables e below (T1.setTop (mkF m 19 #[.val (.ref a), .val (.long x), .second, .val (.long n'), .second, .val (.int (-1 : Int32)), .val (.long x), .second, .val (.int (1 : Int32)), .val (.int (0 : Int32))] [(.ref a), (.int (0 : Int32))])) _
    refine st2 _ ?_
    show Steps p.tables e below (T2.setTop (mkF m 22 #[.val (.ref a), .val (.long x), .second, .val (.long n'), .second, .val (.int (-1 : Int32)), .val (.long x), .second, .val (.int (1 : Int32)), .val (.int (0 : Int32))] [(.ref t), (.int (0 : Int32))])) _
    refine X2.arraylength hx (by rw [e2]; exact Ar3.1) (State.isArrayOf_alike hZ.alike Ar3.2.1) (g := (mkF m 22 #[.val (.ref a), .val (.long x), .second, .val (.long n'), .second, .val (.int (-1 : Int32)), .val (.long x), .second, .val (.int (1 : Int32)), .val (.int (0 : Int32))] [(.ref t), (.int (0 : Int32))])) rfl rfl (hb hby d7_22) _ ?_
    rw [S3]
    show Steps p.tables e below (T2.setTop (mkF m 23 #[.val (.ref a), .val (.long x), .second, .val (.long n'), .second, .val (.int (-1 : Int32)), .val (.long x), .second, .val (.int (1 : Int32)), .val (.int (0 : Int32))] [(.int (Nat.toInt32 4)), (.int (0 : Int32))])) _
    rw [show ((Nat.toInt32 4) : Int32) = (4 : Int32) from by decide]
    show Steps p.tables e below (T2.setTop (mkF m 23 #[.val (.ref a), .val (.long x), .second, .val (.long n'), .second, .val (.int (-1 : Int32)), .val (.long x), .second, .val (.int (1 : Int32)), .val (.int (0 : Int32))] [(.int (4 : Int32)), (.int (0 : Int32))])) _
    refine XS.icmpNo X2.here hx rfl (hb hby d7_23) rfl (tlt (show (0 : Int32) < (4 : Int32) from (by decide))).2.1 ?_
    show Steps p.tables e below (T2.setTop (mkF m 26 #[.val (.ref a), .val (.long x), .second, .val (.long n'), .second, .val (.int (-1 : Int32)), .val (.long x), .second, .val (.int (1 : Int32)), .val (.int (0 : Int32))] [])) _
    refine XS.iload X2.here hx rfl (hb hby d7_26) rfl ?_
    show Steps p.tables e below (T2.setTop (mkF m 28 #[.val (.ref a), .val (.long x), .second, .val (.long n'), .second, .val (.int (-1 : Int32)), .val (.long x), .second, .val (.int (1 : Int32)), .val (.int (0 : Int32))] [(.int (0 : Int32))])) _
    refine XS.aloadN X2.here hx rfl (hb hby d7_28) rfl rfl ?_
    show Steps p.tables e below (T2.setTop (mkF m 29 #[.val (.ref a), .val (.long x), .second, .val (.long n'), .second, .val (.int (-1 : Int32)), .val (.long x), .second, .val (.int (1 : Int32)), .val (.int (0 : Int32))] [(.ref a), (.int (0 : Int32))])) _
    refine st4 _ ?_
    show Steps p.tables e below (T4.setTop (mkF m 32 #[.val (.ref a), .val (.long x), .second, .val (.long n'), .second, .val (.int (-1 : Int32)), .val (.long x), .second, .val (.int (1 : Int32)), .val (.int (0 : Int32))] [(.int (0 : Int32)), (.int (0 : Int32))])) _
    refine XS.icmpYes X4.here hx rfl (pc0 := 32) (pc' := 59) rfl (hb hby d7_32) rfl (teq (show (0 : Int32) = (0 : Int32) from rfl)).1 (by decide) (by decide) ?_
    show Steps p.tables e below (T4.setTop (mkF m 59 #[.val (.ref a), .val (.long x), .second, .val (.long n'), .second, .val (.int (-1 : Int32)), .val (.long x), .second, .val (.int (1 : Int32)), .val (.int (0 : Int32))] [])) _
    refine XS.iinc X4.here hx rfl (hb hby d7_59) rfl (l' := #[.val (.ref a), .val (.long x), .second, .val (.long n'), .second, .val (.int (-1 : Int32)), .val (.long x), .second, .val (.int (1 : Int32)), .val (.int ((0 : Int32) + (1 : Int32)))]) rfl ?_
    show Steps p.tables e below (T4.setTop (mkF m 62 #[.val (.ref a), .val (.long x), .second, .val (.long n'), .second, .val (.int (-1 : Int32)), .val (.long x), .second, .val (.int (1 : Int32)), .val (.int ((0 : Int32) + (1 : Int32)))] [])) _
    rw [show (((0 : Int32) + (1 : Int32)) : Int32) = (1 : Int32) from by decide]
    show Steps p.tables e below (T4.setTop (mkF m 62 #[.val (.ref a), .val (.long x), .second, .val (.long n'), .second, .val (.int (-1 : Int32)), .val (.long x), .second, .val (.int (1 : Int32)), .val (.int (1 : Int32))] [])) _
    refine XS.goto X4.here hx rfl (pc0 := 62) (pc' := 16) rfl (hb hby d7_62) (by decide) (by decide) ?_
    show Steps p.tables e below (T4.setTop (mkF m 16 #[.val (.ref a), .val (.long x), .second, .val (.long n'), .second, .val (.int (-1 : Int32)), .val (.long x), .second, .val (.int (1 : Int32)), .val (.int (1 : Int32))] [])) _
    refine XS.iload X4.here hx rfl (hb hby d7_16) rfl ?_
    show Steps p.tables e below (T4.setTop (mkF m 18 #[.val (.ref a), .val (.long x), .second, .val (.long n'), .second, .val (.int (-1 : Int32)), .val (.long x), .second, .val (.int (1 : Int32)), .val (.int (1 : Int32))] [(.int (1 : Int32))])) _
    refine XS.aloadN X4.here hx rfl (hb hby d7_18) rfl rfl ?_
    show Steps p.tables e below (T4.setTop (mkF m 19 #[.val (.ref a), .val (.long x), .second, .val (.long n'), .second, .val (.int (-1 : Int32)), .val (.long x), .second, .val (.int (1 : Int32)), .val (.int (1 : Int32))] [(.ref a), (.int (1 : Int32))])) _
    refine st5 _ ?_
    show Steps p.tables e below (T5.setTop (mkF m 22 #[.val (.ref a), .val (.long x), .second, .val (.long n'), .second, .val (.int (-1 : Int32)), .val (.long x), .second, .val (.int (1 : Int32)), .val (.int (1 : Int32))] [(.ref t), (.int (1 : Int32))])) _
    refine X5.arraylength hx (by rw [e5]; exact Ar6.1) (State.isArrayOf_alike hZ.alike Ar6.2.1) (g := (mkF m 22 #[.val (.ref a), .val (.long x), .second, .val (.long n'), .second, .val (.int (-1 : Int32)), .val (.long x), .second, .val (.int (1 : Int32)), .val (.int (1 : Int32))] [(.ref t), (.int (1 : Int32))])) rfl rfl (hb hby d7_22) _ ?_
    rw [S6]
    show Steps p.tables e below (T5.setTop (mkF m 23 #[.val (.ref a), .val (.long x), .second, .val (.long n'), .second, .val (.int (-1 : Int32)), .val (.long x), .second, .val (.int (1 : Int32)), .val (.int (1 : Int32))] [(.int (Nat.toInt32 4)), (.int (1 : Int32))])) _
    rw [show ((Nat.toInt32 4) : Int32) = (4 : Int32) from by decide]
    show Steps p.tables e below (T5.setTop (mkF m 23 #[.val (.ref a), .val (.long x), .second, .val (.long n'), .second, .val (.int (-1 : Int32)), .val (.long x), .second, .val (.int (1 : Int32)), .val (.int (1 : Int32))] [(.int (4 : Int32)), (.int (1 : Int32))])) _
    refine XS.icmpNo X5.here hx rfl (hb hby d7_23) rfl (tlt (show (1 : Int32) < (4 : Int32) from (by decide))).2.1 ?_
    show Steps p.tables e below (T5.setTop (mkF m 26 #[.val (.ref a), .val (.long x), .second, .val (.long n'), .second, .val (.int (-1 : Int32)), .val (.long x), .second, .val (.int (1 : Int32)), .val (.int (1 : Int32))] [])) _
    refine XS.iload X5.here hx rfl (hb hby d7_26) rfl ?_
    show Steps p.tables e below (T5.setTop (mkF m 28 #[.val (.ref a), .val (.long x), .second, .val (.long n'), .second, .val (.int (-1 : Int32)), .val (.long x), .second, .val (.int (1 : Int32)), .val (.int (1 : Int32))] [(.int (1 : Int32))])) _
    refine XS.aloadN X5.here hx rfl (hb hby d7_28) rfl rfl ?_
    show Steps p.tables e below (T5.setTop (mkF m 29 #[.val (.ref a), .val (.long x), .second, .val (.long n'), .second, .val (.int (-1 : Int32)), .val (.long x), .second, .val (.int (1 : Int32)), .val (.int (1 : Int32))] [(.ref a), (.int (1 : Int32))])) _
    refine st7 _ ?_
    show Steps p.tables e below (T7.setTop (mkF m 32 #[.val (.ref a), .val (.long x), .second, .val (.long n'), .second, .val (.int (-1 : Int32)), .val (.long x), .second, .val (.int (1 : Int32)), .val (.int (1 : Int32))] [(.int (0 : Int32)), (.int (1 : Int32))])) _
    refine XS.icmpNo X7.here hx rfl (hb hby d7_32) rfl (feq (show ¬ ((1 : Int32) = (0 : Int32)) from (by decide))).1 ?_
    show Steps p.tables e below (T7.setTop (mkF m 35 #[.val (.ref a), .val (.long x), .second, .val (.long n'), .second, .val (.int (-1 : Int32)), .val (.long x), .second, .val (.int (1 : Int32)), .val (.int (1 : Int32))] [])) _
    refine XS.iload X7.here hx rfl (hb hby d7_35) rfl ?_
    show Steps p.tables e below (T7.setTop (mkF m 37 #[.val (.ref a), .val (.long x), .second, .val (.long n'), .second, .val (.int (-1 : Int32)), .val (.long x), .second, .val (.int (1 : Int32)), .val (.int (1 : Int32))] [(.int (1 : Int32))])) _
    refine XS.iload X7.here hx rfl (hb hby d7_37) rfl ?_
    show Steps p.tables e below (T7.setTop (mkF m 39 #[.val (.ref a), .val (.long x), .second, .val (.long n'), .second, .val (.int (-1 : Int32)), .val (.long x), .second, .val (.int (1 : Int32)), .val (.int (1 : Int32))] [(.int (-1 : Int32)), (.int (1 : Int32))])) _
    refine XS.icmpNo X7.here hx rfl (hb hby d7_39) rfl (feq (show ¬ ((1 : Int32) = (-1 : Int32)) from (by decide))).1 ?_
    show Steps p.tables e below (T7.setTop (mkF m 42 #[.val (.ref a), .val (.long x), .second, .val (.long n'), .second, .val (.int (-1 : Int32)), .val (.long x), .second, .val (.int (1 : Int32)), .val (.int (1 : Int32))] [])) _
    refine XS.lload X7.here hx rfl (hb hby d7_42) rfl ?_
    show Steps p.tables e below (T7.setTop (mkF m 44 #[.val (.ref a), .val (.long x), .second, .val (.long n'), .second, .val (.int (-1 : Int32)), .val (.long x), .second, .val (.int (1 : Int32)), .val (.int (1 : Int32))] [(.long x)])) _
    refine XS.aloadN X7.here hx rfl (hb hby d7_44) rfl rfl ?_
    show Steps p.tables e below (T7.setTop (mkF m 45 #[.val (.ref a), .val (.long x), .second, .val (.long n'), .second, .val (.int (-1 : Int32)), .val (.long x), .second, .val (.int (1 : Int32)), .val (.int (1 : Int32))] [(.ref a), (.long x)])) _
    refine st8 _ ?_
    show Steps p.tables e below (T8.setTop (mkF m 48 #[.val (.ref a), .val (.long x), .second, .val (.long n'), .second, .val (.int (-1 : Int32)), .val (.long x), .second, .val (.int (1 : Int32)), .val (.int (1 : Int32))] [(.ref t), (.long x)])) _
    refine XS.iload X8.here hx rfl (hb hby d7_48) rfl ?_
    show Steps p.tables e below (T8.setTop (mkF m 50 #[.val (.ref a), .val (.long x), .second, .val (.long n'), .second, .val (.int (-1 : Int32)), .val (.long x), .second, .val (.int (1 : Int32)), .val (.int (1 : Int32))] [(.int (1 : Int32)), (.ref t), (.long x)])) _
    refine X8.laload hx (j := (1 : Int32)) (v := (.long (f 1))) (by rw [e8]; exact Ar9.1) (State.isArrayOf_alike hZ.alike Ar9.2.1) Ar9.2.2 hin9 hat9 (g := (mkF m 50 #[.val (.ref a), .val (.long x), .second, .val (.long n'), .second, .val (.int (-1 : Int32)), .val (.long x), .second, .val (.int (1 : Int32)), .val (.int (1 : Int32))] [(.int (1 : Int32)), (.ref t), (.long x)])) rfl rfl (hb hby d7_50) _ ?_
    show Steps p.tables e below (T8.setTop (mkF m 51 #[.val (.ref a), .val (.long x), .second, .val (.long n'), .second, .val (.int (-1 : Int32)), .val (.long x), .second, .val (.int (1 : Int32)), .val (.int (1 : Int32))] [(.long (f 1)), (.long x)])) _
    refine st10 _ ?_
    show Steps p.tables e below (T10.setTop (mkF m 54 #[.val (.ref a), .val (.long x), .second, .val (.long n'), .second, .val (.int (-1 : Int32)), .val (.long x), .second, .val (.int (1 : Int32)), .val (.int (1 : Int32))] [(.long (own_min x (f 1)))])) _
    refine XS.lstore X10.here hx rfl (hb hby d7_54) rfl (l' := #[.val (.ref a), .val (.long x), .second, .val (.long n'), .second, .val (.int (-1 : Int32)), .val (.long (own_min x (f 1))), .second, .val (.int (1 : Int32)), .val (.int (1 : Int32))]) rfl ?_
    show Steps p.tables e below (T10.setTop (mkF m 56 #[.val (.ref a), .val (.long x), .second, .val (.long n'), .second, .val (.int (-1 : Int32)), .val (.long (own_min x (f 1))), .second, .val (.int (1 : Int32)), .val (.int (1 : Int32))] [])) _
    refine XS.iinc X10.here hx rfl (hb hby d7_56) rfl (l' := #[.val (.ref a), .val (.long x), .second, .val (.long n'), .second, .val (.int (-1 : Int32)), .val (.long (own_min x (f 1))), .second, .val (.int ((1 : Int32) + (1 : Int32))), .val (.int (1 : Int32))]) rfl ?_
    show Steps p.tables e below (T10.setTop (mkF m 59 #[.val (.ref a), .val (.long x), .second, .val (.long n'), .second, .val (.int (-1 : Int32)), .val (.long (own_min x (f 1))), .second, .val (.int ((1 : Int32) + (1 : Int32))), .val (.int (1 : Int32))] [])) _
    rw [show (((1 : Int32) + (1 : Int32)) : Int32) = (2 : Int32) from by decide]
    show Steps p.tables e below (T10.setTop (mkF m 59 #[.val (.ref a), .val (.long x), .second, .val (.long n'), .second, .val (.int (-1 : Int32)), .val (.long (own_min x (f 1))), .second, .val (.int (2 : Int32)), .val (.int (1 : Int32))] [])) _
    refine XS.iinc X10.here hx rfl (hb hby d7_59) rfl (l' := #[.val (.ref a), .val (.long x), .second, .val (.long n'), .second, .val (.int (-1 : Int32)), .val (.long (own_min x (f 1))), .second, .val (.int (2 : Int32)), .val (.int ((1 : Int32) + (1 : Int32)))]) rfl ?_
    show Steps p.tables e below (T10.setTop (mkF m 62 #[.val (.ref a), .val (.long x), .second, .val (.long n'), .second, .val (.int (-1 : Int32)), .val (.long (own_min x (f 1))), .second, .val (.int (2 : Int32)), .val (.int ((1 : Int32) + (1 : Int32)))] [])) _
    rw [show (((1 : Int32) + (1 : Int32)) : Int32) = (2 : Int32) from by decide]
    show Steps p.tables e below (T10.setTop (mkF m 62 #[.val (.ref a), .val (.long x), .second, .val (.long n'), .second, .val (.int (-1 : Int32)), .val (.long (own_min x (f 1))), .second, .val (.int (2 : Int32)), .val (.int (2 : Int32))] [])) _
    refine XS.goto X10.here hx rfl (pc0 := 62) (pc' := 16) rfl (hb hby d7_62) (by decide) (by decide) ?_
    show Steps p.tables e below (T10.setTop (mkF m 16 #[.val (.ref a), .val (.long x), .second, .val (.long n'), .second, .val (.int (-1 : Int32)), .val (.long (own_min x (f 1))), .second, .val (.int (2 : Int32)), .val (.int (2 : Int32))] [])) _
    refine XS.iload X10.here hx rfl (hb hby d7_16) rfl ?_
    show Steps p.tables e below (T10.setTop (mkF m 18 #[.val (.ref a), .val (.long x), .second, .val (.long n'), .second, .val (.int (-1 : Int32)), .val (.long (own_min x (f 1))), .second, .val (.int (2 : Int32)), .val (.int (2 : Int32))] [(.int (2 : Int32))])) _
    refine XS.aloadN X10.here hx rfl (hb hby d7_18) rfl rfl ?_
    show Steps p.tables e below (T10.setTop (mkF m 19 #[.val (.ref a), .val (.long x), .second, .val (.long n'), .second, .val (.int (-1 : Int32)), .val (.long (own_min x (f 1))), .second, .val (.int (2 : Int32)), .val (.int (2 : Int32))] [(.ref a), (.int (2 : Int32))])) _
    refine st11 _ ?_
    show Steps p.tables e below (T11.setTop (mkF m 22 #[.val (.ref a), .val (.long x), .second, .val (.long n'), .second, .val (.int (-1 : Int32)), .val (.long (own_min x (f 1))), .second, .val (.int (2 : Int32)), .val (.int (2 : Int32))] [(.ref t), (.int (2 : Int32))])) _
    refine X11.arraylength hx (by rw [e11]; exact Ar12.1) (State.isArrayOf_alike hZ.alike Ar12.2.1) (g := (mkF m 22 #[.val (.ref a), .val (.long x), .second, .val (.long n'), .second, .val (.int (-1 : Int32)), .val (.long (own_min x (f 1))), .second, .val (.int (2 : Int32)), .val (.int (2 : Int32))] [(.ref t), (.int (2 : Int32))])) rfl rfl (hb hby d7_22) _ ?_
    rw [S12]
    show Steps p.tables e below (T11.setTop (mkF m 23 #[.val (.ref a), .val (.long x), .second, .val (.long n'), .second, .val (.int (-1 : Int32)), .val (.long (own_min x (f 1))), .second, .val (.int (2 : Int32)), .val (.int (2 : Int32))] [(.int (Nat.toInt32 4)), (.int (2 : Int32))])) _
    rw [show ((Nat.toInt32 4) : Int32) = (4 : Int32) from by decide]
    show Steps p.tables e below (T11.setTop (mkF m 23 #[.val (.ref a), .val (.long x), .second, .val (.long n'), .second, .val (.int (-1 : Int32)), .val (.long (own_min x (f 1))), .second, .val (.int (2 : Int32)), .val (.int (2 : Int32))] [(.int (4 : Int32)), (.int (2 : Int32))])) _
    refine XS.icmpNo X11.here hx rfl (hb hby d7_23) rfl (tlt (show (2 : Int32) < (4 : Int32) from (by decide))).2.1 ?_
    show Steps p.tables e below (T11.setTop (mkF m 26 #[.val (.ref a), .val (.long x), .second, .val (.long n'), .second, .val (.int (-1 : Int32)), .val (.long (own_min x (f 1))), .second, .val (.int (2 : Int32)), .val (.int (2 : Int32))] [])) _
    refine XS.iload X11.here hx rfl (hb hby d7_26) rfl ?_
    show Steps p.tables e below (T11.setTop (mkF m 28 #[.val (.ref a), .val (.long x), .second, .val (.long n'), .second, .val (.int (-1 : Int32)), .val (.long (own_min x (f 1))), .second, .val (.int (2 : Int32)), .val (.int (2 : Int32))] [(.int (2 : Int32))])) _
    refine XS.aloadN X11.here hx rfl (hb hby d7_28) rfl rfl ?_
    show Steps p.tables e below (T11.setTop (mkF m 29 #[.val (.ref a), .val (.long x), .second, .val (.long n'), .second, .val (.int (-1 : Int32)), .val (.long (own_min x (f 1))), .second, .val (.int (2 : Int32)), .val (.int (2 : Int32))] [(.ref a), (.int (2 : Int32))])) _
    refine st13 _ ?_
    show Steps p.tables e below (T13.setTop (mkF m 32 #[.val (.ref a), .val (.long x), .second, .val (.long n'), .second, .val (.int (-1 : Int32)), .val (.long (own_min x (f 1))), .second, .val (.int (2 : Int32)), .val (.int (2 : Int32))] [(.int (0 : Int32)), (.int (2 : Int32))])) _
    refine XS.icmpNo X13.here hx rfl (hb hby d7_32) rfl (feq (show ¬ ((2 : Int32) = (0 : Int32)) from (by decide))).1 ?_
    show Steps p.tables e below (T13.setTop (mkF m 35 #[.val (.ref a), .val (.long x), .second, .val (.long n'), .second, .val (.int (-1 : Int32)), .val (.long (own_min x (f 1))), .second, .val (.int (2 : Int32)), .val (.int (2 : Int32))] [])) _
    refine XS.iload X13.here hx rfl (hb hby d7_35) rfl ?_
    show Steps p.tables e below (T13.setTop (mkF m 37 #[.val (.ref a), .val (.long x), .second, .val (.long n'), .second, .val (.int (-1 : Int32)), .val (.long (own_min x (f 1))), .second, .val (.int (2 : Int32)), .val (.int (2 : Int32))] [(.int (2 : Int32))])) _
    refine XS.iload X13.here hx rfl (hb hby d7_37) rfl ?_
    show Steps p.tables e below (T13.setTop (mkF m 39 #[.val (.ref a), .val (.long x), .second, .val (.long n'), .second, .val (.int (-1 : Int32)), .val (.long (own_min x (f 1))), .second, .val (.int (2 : Int32)), .val (.int (2 : Int32))] [(.int (-1 : Int32)), (.int (2 : Int32))])) _
    refine XS.icmpNo X13.here hx rfl (hb hby d7_39) rfl (feq (show ¬ ((2 : Int32) = (-1 : Int32)) from (by decide))).1 ?_
    show Steps p.tables e below (T13.setTop (mkF m 42 #[.val (.ref a), .val (.long x), .second, .val (.long n'), .second, .val (.int (-1 : Int32)), .val (.long (own_min x (f 1))), .second, .val (.int (2 : Int32)), .val (.int (2 : Int32))] [])) _
    refine XS.lload X13.here hx rfl (hb hby d7_42) rfl ?_
    show Steps p.tables e below (T13.setTop (mkF m 44 #[.val (.ref a), .val (.long x), .second, .val (.long n'), .second, .val (.int (-1 : Int32)), .val (.long (own_min x (f 1))), .second, .val (.int (2 : Int32)), .val (.int (2 : Int32))] [(.long (own_min x (f 1)))])) _
    refine XS.aloadN X13.here hx rfl (hb hby d7_44) rfl rfl ?_
    show Steps p.tables e below (T13.setTop (mkF m 45 #[.val (.ref a), .val (.long x), .second, .val (.long n'), .second, .val (.int (-1 : Int32)), .val (.long (own_min x (f 1))), .second, .val (.int (2 : Int32)), .val (.int (2 : Int32))] [(.ref a), (.long (own_min x (f 1)))])) _
    refine st14 _ ?_
    show Steps p.tables e below (T14.setTop (mkF m 48 #[.val (.ref a), .val (.long x), .second, .val (.long n'), .second, .val (.int (-1 : Int32)), .val (.long (own_min x (f 1))), .second, .val (.int (2 : Int32)), .val (.int (2 : Int32))] [(.ref t), (.long (own_min x (f 1)))])) _
    refine XS.iload X14.here hx rfl (hb hby d7_48) rfl ?_
    show Steps p.tables e below (T14.setTop (mkF m 50 #[.val (.ref a), .val (.long x), .second, .val (.long n'), .second, .val (.int (-1 : Int32)), .val (.long (own_min x (f 1))), .second, .val (.int (2 : Int32)), .val (.int (2 : Int32))] [(.int (2 : Int32)), (.ref t), (.long (own_min x (f 1)))])) _
    refine X14.laload hx (j := (2 : Int32)) (v := (.long (f 2))) (by rw [e14]; exact Ar15.1) (State.isArrayOf_alike hZ.alike Ar15.2.1) Ar15.2.2 hin15 hat15 (g := (mkF m 50 #[.val (.ref a), .val (.long x), .second, .val (.long n'), .second, .val (.int (-1 : Int32)), .val (.long (own_min x (f 1))), .second, .val (.int (2 : Int32)), .val (.int (2 : Int32))] [(.int (2 : Int32)), (.ref t), (.long (own_min x (f 1)))])) rfl rfl (hb hby d7_50) _ ?_
    show Steps p.tables e below (T14.setTop (mkF m 51 #[.val (.ref a), .val (.long x), .second, .val (.long n'), .second, .val (.int (-1 : Int32)), .val (.long (own_min x (f 1))), .second, .val (.int (2 : Int32)), .val (.int (2 : Int32))] [(.long (f 2)), (.long (own_min x (f 1)))])) _
    refine st16 _ ?_
    show Steps p.tables e below (T16.setTop (mkF m 54 #[.val (.ref a), .val (.long x), .second, .val (.long n'), .second, .val (.int (-1 : Int32)), .val (.long (own_min x (f 1))), .second, .val (.int (2 : Int32)), .val (.int (2 : Int32))] [(.long (own_min (own_min x (f 1)) (f 2)))])) _
    refine XS.lstore X16.here hx rfl (hb hby d7_54) rfl (l' := #[.val (.ref a), .val (.long x), .second, .val (.long n'), .second, .val (.int (-1 : Int32)), .val (.long (own_min (own_min x (f 1)) (f 2))), .second, .val (.int (2 : Int32)), .val (.int (2 : Int32))]) rfl ?_
    show Steps p.tables e below (T16.setTop (mkF m 56 #[.val (.ref a), .val (.long x), .second, .val (.long n'), .second, .val (.int (-1 : Int32)), .val (.long (own_min (own_min x (f 1)) (f 2))), .second, .val (.int (2 : Int32)), .val (.int (2 : Int32))] [])) _
    refine XS.iinc X16.here hx rfl (hb hby d7_56) rfl (l' := #[.val (.ref a), .val (.long x), .second, .val (.long n'), .second, .val (.int (-1 : Int32)), .val (.long (own_min (own_min x (f 1)) (f 2))), .second, .val (.int ((2 : Int32) + (1 : Int32))), .val (.int (2 : Int32))]) rfl ?_
    show Steps p.tables e below (T16.setTop (mkF m 59 #[.val (.ref a), .val (.long x), .second, .val (.long n'), .second, .val (.int (-1 : Int32)), .val (.long (own_min (own_min x (f 1)) (f 2))), .second, .val (.int ((2 : Int32) + (1 : Int32))), .val (.int (2 : Int32))] [])) _
    rw [show (((2 : Int32) + (1 : Int32)) : Int32) = (3 : Int32) from by decide]
    show Steps p.tables e below (T16.setTop (mkF m 59 #[.val (.ref a), .val (.long x), .second, .val (.long n'), .second, .val (.int (-1 : Int32)), .val (.long (own_min (own_min x (f 1)) (f 2))), .second, .val (.int (3 : Int32)), .val (.int (2 : Int32))] [])) _
    refine XS.iinc X16.here hx rfl (hb hby d7_59) rfl (l' := #[.val (.ref a), .val (.long x), .second, .val (.long n'), .second, .val (.int (-1 : Int32)), .val (.long (own_min (own_min x (f 1)) (f 2))), .second, .val (.int (3 : Int32)), .val (.int ((2 : Int32) + (1 : Int32)))]) rfl ?_
    show Steps p.tables e below (T16.setTop (mkF m 62 #[.val (.ref a), .val (.long x), .second, .val (.long n'), .second, .val (.int (-1 : Int32)), .val (.long (own_min (own_min x (f 1)) (f 2))), .second, .val (.int (3 : Int32)), .val (.int ((2 : Int32) + (1 : Int32)))] [])) _
    rw [show (((2 : Int32) + (1 : Int32)) : Int32) = (3 : Int32) from by decide]
    show Steps p.tables e below (T16.setTop (mkF m 62 #[.val (.ref a), .val (.long x), .second, .val (.long n'), .second, .val (.int (-1 : Int32)), .val (.long (own_min (own_min x (f 1)) (f 2))), .second, .val (.int (3 : Int32)), .val (.int (3 : Int32))] [])) _
    refine XS.goto X16.here hx rfl (pc0 := 62) (pc' := 16) rfl (hb hby d7_62) (by decide) (by decide) ?_
    show Steps p.tables e below (T16.setTop (mkF m 16 #[.val (.ref a), .val (.long x), .second, .val (.long n'), .second, .val (.int (-1 : Int32)), .val (.long (own_min (own_min x (f 1)) (f 2))), .second, .val (.int (3 : Int32)), .val (.int (3 : Int32))] [])) _
    refine XS.iload X16.here hx rfl (hb hby d7_16) rfl ?_
    show Steps p.tables e below (T16.setTop (mkF m 18 #[.val (.ref a), .val (.long x), .second, .val (.long n'), .second, .val (.int (-1 : Int32)), .val (.long (own_min (own_min x (f 1)) (f 2))), .second, .val (.int (3 : Int32)), .val (.int (3 : Int32))] [(.int (3 : Int32))])) _
    refine XS.aloadN X16.here hx rfl (hb hby d7_18) rfl rfl ?_
    show Steps p.tables e below (T16.setTop (mkF m 19 #[.val (.ref a), .val (.long x), .second, .val (.long n'), .second, .val (.int (-1 : Int32)), .val (.long (own_min (own_min x (f 1)) (f 2))), .second, .val (.int (3 : Int32)), .val (.int (3 : Int32))] [(.ref a), (.int (3 : Int32))])) _
    refine st17 _ ?_
    show Steps p.tables e below (T17.setTop (mkF m 22 #[.val (.ref a), .val (.long x), .second, .val (.long n'), .second, .val (.int (-1 : Int32)), .val (.long (own_min (own_min x (f 1)) (f 2))), .second, .val (.int (3 : Int32)), .val (.int (3 : Int32))] [(.ref t), (.int (3 : Int32))])) _
    refine X17.arraylength hx (by rw [e17]; exact Ar18.1) (State.isArrayOf_alike hZ.alike Ar18.2.1) (g := (mkF m 22 #[.val (.ref a), .val (.long x), .second, .val (.long n'), .second, .val (.int (-1 : Int32)), .val (.long (own_min (own_min x (f 1)) (f 2))), .second, .val (.int (3 : Int32)), .val (.int (3 : Int32))] [(.ref t), (.int (3 : Int32))])) rfl rfl (hb hby d7_22) _ ?_
    rw [S18]
    show Steps p.tables e below (T17.setTop (mkF m 23 #[.val (.ref a), .val (.long x), .second, .val (.long n'), .second, .val (.int (-1 : Int32)), .val (.long (own_min (own_min x (f 1)) (f 2))), .second, .val (.int (3 : Int32)), .val (.int (3 : Int32))] [(.int (Nat.toInt32 4)), (.int (3 : Int32))])) _
    rw [show ((Nat.toInt32 4) : Int32) = (4 : Int32) from by decide]
    show Steps p.tables e below (T17.setTop (mkF m 23 #[.val (.ref a), .val (.long x), .second, .val (.long n'), .second, .val (.int (-1 : Int32)), .val (.long (own_min (own_min x (f 1)) (f 2))), .second, .val (.int (3 : Int32)), .val (.int (3 : Int32))] [(.int (4 : Int32)), (.int (3 : Int32))])) _
    refine XS.icmpNo X17.here hx rfl (hb hby d7_23) rfl (tlt (show (3 : Int32) < (4 : Int32) from (by decide))).2.1 ?_
    show Steps p.tables e below (T17.setTop (mkF m 26 #[.val (.ref a), .val (.long x), .second, .val (.long n'), .second, .val (.int (-1 : Int32)), .val (.long (own_min (own_min x (f 1)) (f 2))), .second, .val (.int (3 : Int32)), .val (.int (3 : Int32))] [])) _
    refine XS.iload X17.here hx rfl (hb hby d7_26) rfl ?_
    show Steps p.tables e below (T17.setTop (mkF m 28 #[.val (.ref a), .val (.long x), .second, .val (.long n'), .second, .val (.int (-1 : Int32)), .val (.long (own_min (own_min x (f 1)) (f 2))), .second, .val (.int (3 : Int32)), .val (.int (3 : Int32))] [(.int (3 : Int32))])) _
    refine XS.aloadN X17.here hx rfl (hb hby d7_28) rfl rfl ?_
    show Steps p.tables e below (T17.setTop (mkF m 29 #[.val (.ref a), .val (.long x), .second, .val (.long n'), .second, .val (.int (-1 : Int32)), .val (.long (own_min (own_min x (f 1)) (f 2))), .second, .val (.int (3 : Int32)), .val (.int (3 : Int32))] [(.ref a), (.int (3 : Int32))])) _
    refine st19 _ ?_
    show Steps p.tables e below (T19.setTop (mkF m 32 #[.val (.ref a), .val (.long x), .second, .val (.long n'), .second, .val (.int (-1 : Int32)), .val (.long (own_min (own_min x (f 1)) (f 2))), .second, .val (.int (3 : Int32)), .val (.int (3 : Int32))] [(.int (0 : Int32)), (.int (3 : Int32))])) _
    refine XS.icmpNo X19.here hx rfl (hb hby d7_32) rfl (feq (show ¬ ((3 : Int32) = (0 : Int32)) from (by decide))).1 ?_
    show Steps p.tables e below (T19.setTop (mkF m 35 #[.val (.ref a), .val (.long x), .second, .val (.long n'), .second, .val (.int (-1 : Int32)), .val (.long (own_min (own_min x (f 1)) (f 2))), .second, .val (.int (3 : Int32)), .val (.int (3 : Int32))] [])) _
    refine XS.iload X19.here hx rfl (hb hby d7_35) rfl ?_
    show Steps p.tables e below (T19.setTop (mkF m 37 #[.val (.ref a), .val (.long x), .second, .val (.long n'), .second, .val (.int (-1 : Int32)), .val (.long (own_min (own_min x (f 1)) (f 2))), .second, .val (.int (3 : Int32)), .val (.int (3 : Int32))] [(.int (3 : Int32))])) _
    refine XS.iload X19.here hx rfl (hb hby d7_37) rfl ?_
    show Steps p.tables e below (T19.setTop (mkF m 39 #[.val (.ref a), .val (.long x), .second, .val (.long n'), .second, .val (.int (-1 : Int32)), .val (.long (own_min (own_min x (f 1)) (f 2))), .second, .val (.int (3 : Int32)), .val (.int (3 : Int32))] [(.int (-1 : Int32)), (.int (3 : Int32))])) _
    refine XS.icmpNo X19.here hx rfl (hb hby d7_39) rfl (feq (show ¬ ((3 : Int32) = (-1 : Int32)) from (by decide))).1 ?_
    show Steps p.tables e below (T19.setTop (mkF m 42 #[.val (.ref a), .val (.long x), .second, .val (.long n'), .second, .val (.int (-1 : Int32)), .val (.long (own_min (own_min x (f 1)) (f 2))), .second, .val (.int (3 : Int32)), .val (.int (3 : Int32))] [])) _
    refine XS.lload X19.here hx rfl (hb hby d7_42) rfl ?_
    show Steps p.tables e below (T19.setTop (mkF m 44 #[.val (.ref a), .val (.long x), .second, .val (.long n'), .second, .val (.int (-1 : Int32)), .val (.long (own_min (own_min x (f 1)) (f 2))), .second, .val (.int (3 : Int32)), .val (.int (3 : Int32))] [(.long (own_min (own_min x (f 1)) (f 2)))])) _
    refine XS.aloadN X19.here hx rfl (hb hby d7_44) rfl rfl ?_
    show Steps p.tables e below (T19.setTop (mkF m 45 #[.val (.ref a), .val (.long x), .second, .val (.long n'), .second, .val (.int (-1 : Int32)), .val (.long (own_min (own_min x (f 1)) (f 2))), .second, .val (.int (3 : Int32)), .val (.int (3 : Int32))] [(.ref a), (.long (own_min (own_min x (f 1)) (f 2)))])) _
    refine st20 _ ?_
    show Steps p.tables e below (T20.setTop (mkF m 48 #[.val (.ref a), .val (.long x), .second, .val (.long n'), .second, .val (.int (-1 : Int32)), .val (.long (own_min (own_min x (f 1)) (f 2))), .second, .val (.int (3 : Int32)), .val (.int (3 : Int32))] [(.ref t), (.long (own_min (own_min x (f 1)) (f 2)))])) _
    refine XS.iload X20.here hx rfl (hb hby d7_48) rfl ?_
    show Steps p.tables e below (T20.setTop (mkF m 50 #[.val (.ref a), .val (.long x), .second, .val (.long n'), .second, .val (.int (-1 : Int32)), .val (.long (own_min (own_min x (f 1)) (f 2))), .second, .val (.int (3 : Int32)), .val (.int (3 : Int32))] [(.int (3 : Int32)), (.ref t), (.long (own_min (own_min x (f 1)) (f 2)))])) _
    refine X20.laload hx (j := (3 : Int32)) (v := (.long (f 3))) (by rw [e20]; exact Ar21.1) (State.isArrayOf_alike hZ.alike Ar21.2.1) Ar21.2.2 hin21 hat21 (g := (mkF m 50 #[.val (.ref a), .val (.long x), .second, .val (.long n'), .second, .val (.int (-1 : Int32)), .val (.long (own_min (own_min x (f 1)) (f 2))), .second, .val (.int (3 : Int32)), .val (.int (3 : Int32))] [(.int (3 : Int32)), (.ref t), (.long (own_min (own_min x (f 1)) (f 2)))])) rfl rfl (hb hby d7_50) _ ?_
    show Steps p.tables e below (T20.setTop (mkF m 51 #[.val (.ref a), .val (.long x), .second, .val (.long n'), .second, .val (.int (-1 : Int32)), .val (.long (own_min (own_min x (f 1)) (f 2))), .second, .val (.int (3 : Int32)), .val (.int (3 : Int32))] [(.long (f 3)), (.long (own_min (own_min x (f 1)) (f 2)))])) _
    refine st22 _ ?_
    show Steps p.tables e below (T22.setTop (mkF m 54 #[.val (.ref a), .val (.long x), .second, .val (.long n'), .second, .val (.int (-1 : Int32)), .val (.long (own_min (own_min x (f 1)) (f 2))), .second, .val (.int (3 : Int32)), .val (.int (3 : Int32))] [(.long (own_min (own_min (own_min x (f 1)) (f 2)) (f 3)))])) _
    refine XS.lstore X22.here hx rfl (hb hby d7_54) rfl (l' := #[.val (.ref a), .val (.long x), .second, .val (.long n'), .second, .val (.int (-1 : Int32)), .val (.long (own_min (own_min (own_min x (f 1)) (f 2)) (f 3))), .second, .val (.int (3 : Int32)), .val (.int (3 : Int32))]) rfl ?_
    show Steps p.tables e below (T22.setTop (mkF m 56 #[.val (.ref a), .val (.long x), .second, .val (.long n'), .second, .val (.int (-1 : Int32)), .val (.long (own_min (own_min (own_min x (f 1)) (f 2)) (f 3))), .second, .val (.int (3 : Int32)), .val (.int (3 : Int32))] [])) _
    refine XS.iinc X22.here hx rfl (hb hby d7_56) rfl (l' := #[.val (.ref a), .val (.long x), .second, .val (.long n'), .second, .val (.int (-1 : Int32)), .val (.long (own_min (own_min (own_min x (f 1)) (f 2)) (f 3))), .second, .val (.int ((3 : Int32) + (1 : Int32))), .val (.int (3 : Int32))]) rfl ?_
    show Steps p.tables e below (T22.setTop (mkF m 59 #[.val (.ref a), .val (.long x), .second, .val (.long n'), .second, .val (.int (-1 : Int32)), .val (.long (own_min (own_min (own_min x (f 1)) (f 2)) (f 3))), .second, .val (.int ((3 : Int32) + (1 : Int32))), .val (.int (3 : Int32))] [])) _
    rw [show (((3 : Int32) + (1 : Int32)) : Int32) = (4 : Int32) from by decide]
    show Steps p.tables e below (T22.setTop (mkF m 59 #[.val (.ref a), .val (.long x), .second, .val (.long n'), .second, .val (.int (-1 : Int32)), .val (.long (own_min (own_min (own_min x (f 1)) (f 2)) (f 3))), .second, .val (.int (4 : Int32)), .val (.int (3 : Int32))] [])) _
    refine XS.iinc X22.here hx rfl (hb hby d7_59) rfl (l' := #[.val (.ref a), .val (.long x), .second, .val (.long n'), .second, .val (.int (-1 : Int32)), .val (.long (own_min (own_min (own_min x (f 1)) (f 2)) (f 3))), .second, .val (.int (4 : Int32)), .val (.int ((3 : Int32) + (1 : Int32)))]) rfl ?_
    show Steps p.tables e below (T22.setTop (mkF m 62 #[.val (.ref a), .val (.long x), .second, .val (.long n'), .second, .val (.int (-1 : Int32)), .val (.long (own_min (own_min (own_min x (f 1)) (f 2)) (f 3))), .second, .val (.int (4 : Int32)), .val (.int ((3 : Int32) + (1 : Int32)))] [])) _
    rw [show (((3 : Int32) + (1 : Int32)) : Int32) = (4 : Int32) from by decide]
    show Steps p.tables e below (T22.setTop (mkF m 62 #[.val (.ref a), .val (.long x), .second, .val (.long n'), .second, .val (.int (-1 : Int32)), .val (.long (own_min (own_min (own_min x (f 1)) (f 2)) (f 3))), .second, .val (.int (4 : Int32)), .val (.int (4 : Int32))] [])) _
    refine XS.goto X22.here hx rfl (pc0 := 62) (pc' := 16) rfl (hb hby d7_62) (by decide) (by decide) ?_
    show Steps p.tables e below (T22.setTop (mkF m 16 #[.val (.ref a), .val (.long x), .second, .val (.long n'), .second, .val (.int (-1 : Int32)), .val (.long (own_min (own_min (own_min x (f 1)) (f 2)) (f 3))), .second, .val (.int (4 : Int32)), .val (.int (4 : Int32))] [])) _
    refine XS.iload X22.here hx rfl (hb hby d7_16) rfl ?_
    show Steps p.tables e below (T22.setTop (mkF m 18 #[.val (.ref a), .val (.long x), .second, .val (.long n'), .second, .val (.int (-1 : Int32)), .val (.long (own_min (own_min (own_min x (f 1)) (f 2)) (f 3))), .second, .val (.int (4 : Int32)), .val (.int (4 : Int32))] [(.int (4 : Int32))])) _
    refine XS.aloadN X22.here hx rfl (hb hby d7_18) rfl rfl ?_
    show Steps p.tables e below (T22.setTop (mkF m 19 #[.val (.ref a), .val (.long x), .second, .val (.long n'), .second, .val (.int (-1 : Int32)), .val (.long (own_min (own_min (own_min x (f 1)) (f 2)) (f 3))), .second, .val (.int (4 : Int32)), .val (.int (4 : Int32))] [(.ref a), (.int (4 : Int32))])) _
    refine st23 _ ?_
    show Steps p.tables e below (T23.setTop (mkF m 22 #[.val (.ref a), .val (.long x), .second, .val (.long n'), .second, .val (.int (-1 : Int32)), .val (.long (own_min (own_min (own_min x (f 1)) (f 2)) (f 3))), .second, .val (.int (4 : Int32)), .val (.int (4 : Int32))] [(.ref t), (.int (4 : Int32))])) _
    refine X23.arraylength hx (by rw [e23]; exact Ar24.1) (State.isArrayOf_alike hZ.alike Ar24.2.1) (g := (mkF m 22 #[.val (.ref a), .val (.long x), .second, .val (.long n'), .second, .val (.int (-1 : Int32)), .val (.long (own_min (own_min (own_min x (f 1)) (f 2)) (f 3))), .second, .val (.int (4 : Int32)), .val (.int (4 : Int32))] [(.ref t), (.int (4 : Int32))])) rfl rfl (hb hby d7_22) _ ?_
    rw [S24]
    show Steps p.tables e below (T23.setTop (mkF m 23 #[.val (.ref a), .val (.long x), .second, .val (.long n'), .second, .val (.int (-1 : Int32)), .val (.long (own_min (own_min (own_min x (f 1)) (f 2)) (f 3))), .second, .val (.int (4 : Int32)), .val (.int (4 : Int32))] [(.int (Nat.toInt32 4)), (.int (4 : Int32))])) _
    rw [show ((Nat.toInt32 4) : Int32) = (4 : Int32) from by decide]
    show Steps p.tables e below (T23.setTop (mkF m 23 #[.val (.ref a), .val (.long x), .second, .val (.long n'), .second, .val (.int (-1 : Int32)), .val (.long (own_min (own_min (own_min x (f 1)) (f 2)) (f 3))), .second, .val (.int (4 : Int32)), .val (.int (4 : Int32))] [(.int (4 : Int32)), (.int (4 : Int32))])) _
    refine XS.icmpYes X23.here hx rfl (pc0 := 23) (pc' := 65) rfl (hb hby d7_23) rfl (flt (show ¬ ((4 : Int32) < (4 : Int32)) from (by decide))).2.1 (by decide) (by decide) ?_
    show Steps p.tables e below (T23.setTop (mkF m 65 #[.val (.ref a), .val (.long x), .second, .val (.long n'), .second, .val (.int (-1 : Int32)), .val (.long (own_min (own_min (own_min x (f 1)) (f 2)) (f 3))), .second, .val (.int (4 : Int32)), .val (.int (4 : Int32))] [])) _
    refine XS.iload X23.here hx rfl (hb hby d7_65) rfl ?_
    show Steps p.tables e below (T23.setTop (mkF m 67 #[.val (.ref a), .val (.long x), .second, .val (.long n'), .second, .val (.int (-1 : Int32)), .val (.long (own_min (own_min (own_min x (f 1)) (f 2)) (f 3))), .second, .val (.int (4 : Int32)), .val (.int (4 : Int32))] [(.int (4 : Int32))])) _
    refine XS.aloadN X23.here hx rfl (hb hby d7_67) rfl rfl ?_
    show Steps p.tables e below (T23.setTop (mkF m 68 #[.val (.ref a), .val (.long x), .second, .val (.long n'), .second, .val (.int (-1 : Int32)), .val (.long (own_min (own_min (own_min x (f 1)) (f 2)) (f 3))), .second, .val (.int (4 : Int32)), .val (.int (4 : Int32))] [(.ref a), (.int (4 : Int32))])) _
    refine st25 _ ?_
    show Steps p.tables e below (T25.setTop (mkF m 71 #[.val (.ref a), .val (.long x), .second, .val (.long n'), .second, .val (.int (-1 : Int32)), .val (.long (own_min (own_min (own_min x (f 1)) (f 2)) (f 3))), .second, .val (.int (4 : Int32)), .val (.int (4 : Int32))] [(.int (3 : Int32)), (.int (4 : Int32))])) _
    refine XS.icmpNo X25.here hx rfl (hb hby d7_71) rfl (flt (show ¬ ((4 : Int32) < (3 : Int32)) from (by decide))).1 ?_
    show Steps p.tables e below (T25.setTop (mkF m 74 #[.val (.ref a), .val (.long x), .second, .val (.long n'), .second, .val (.int (-1 : Int32)), .val (.long (own_min (own_min (own_min x (f 1)) (f 2)) (f 3))), .second, .val (.int (4 : Int32)), .val (.int (4 : Int32))] [])) _
    refine XS.lload X25.here hx rfl (hb hby d7_74) rfl ?_
    show Steps p.tables e below (T25.setTop (mkF m 76 #[.val (.ref a), .val (.long x), .second, .val (.long n'), .second, .val (.int (-1 : Int32)), .val (.long (own_min (own_min (own_min x (f 1)) (f 2)) (f 3))), .second, .val (.int (4 : Int32)), .val (.int (4 : Int32))] [(.long (own_min (own_min (own_min x (f 1)) (f 2)) (f 3)))])) _
    refine XS.goto X25.here hx rfl (pc0 := 76) (pc' := 82) rfl (hb hby d7_76) (by decide) (by decide) ?_
    show Steps p.tables e below (T25.setTop (mkF m 82 #[.val (.ref a), .val (.long x), .second, .val (.long n'), .second, .val (.int (-1 : Int32)), .val (.long (own_min (own_min (own_min x (f 1)) (f 2)) (f 3))), .second, .val (.int (4 : Int32)), .val (.int (4 : Int32))] [(.long (own_min (own_min (own_min x (f 1)) (f 2)) (f 3)))])) _
    exact X25.lreturnOut hx Bd.returns (hb hby d7_82) hr
  · show Qrm7_0 Z a x n' sl t u f g h0 n0 _ T25.heap _
    rw [e25]
    exact ⟨rfl, N22, rfl⟩
theorem d8_44 : decode prog_146_method_6_code 44 = .ok (.iload_n 3, 1) := by decide +kernel
theorem d8_45 : decode prog_146_method_6_code 45 = .ok (.iconst (-1), 1) := by decide +kernel
theorem d8_46 : decode prog_146_method_6_code 46 = .ok (.if_icmp .eq 5, 3) := by decide +kernel
theorem d8_51 : decode prog_146_method_6_code 51 = .ok (.iload 4, 2) := by decide +kernel
theorem d8_53 : decode prog_146_method_6_code 53 = .ok (.istore_n 3, 1) := by decide +kernel
def Qrm8_1 (Z : State) (a : Addr) (n' : Int64) (sl : Int64) (u : Addr) (g : Nat → Int64) (h0 : Heap) (n0 : Nat) (v : Option Value) (h : Heap) (L : List Loc) : Prop := v = some (.int (1 : Int32)) ∧ Fr n0 L ∧ h = h0
set_option maxRecDepth 65536 in
set_option maxHeartbeats 40000000 in
theorem rm8_1 (l : Launch) (Z : State) (a0 : Array Value) (hw : ∀ d ∈ tables_1, d.before a0 Z = true) (ws : List Jvm.Cond) (a : Addr) (n' : Int64) (sl : Int64) (u : Addr) (g : Nat → Int64) (h0 : Heap) (n0 : Nat) (Z0 : n0 ≤ h0.size) (E_a : Exa Z h0 a "stillmark/StableTimes") (F_own_a : Fld Z h0 a "stillmark/StableTimes" "own" "I" (.int (0 : Int32))) (F_silence_a : Fld Z h0 a "stillmark/StableTimes" "silence" "J" (.long sl)) (F_heard_a : Fld Z h0 a "stillmark/StableTimes" "heard" "[J" (.ref u)) (A_u : Av Z h0 u .long 4 (own_l g)) (hs1 : (g 1) < (n' - sl)) (hs2 : ¬ ((g 2) < (n' - sl))) (hs3 : ¬ ((g 3) < (n' - sl))) :
    MetFree l (⟨"stillmark/StableTimes", "leftOut", "(J)I"⟩ : MethodName) (head1 (Jvm.Cond.code (⟨"stillmark/StableTimes", "leftOut", "(J)I"⟩ : MethodName) prog_146_method_6_code 5 (some .int) :: ws) ({ frames := 0, cells := 0, slots := 0, locals := 0 } : Room)) (fun aa_ U => aa_ = #[(.ref a), (.long n')] ∧ Z.Warmed39 U.vm ∧ U.heap = h0) (fun _ _ _ _ _ => True) (fun _ U o U' => ∃ v L, o = .returned v ∧ Qrm8_1 Z a n' sl u g h0 n0 v U'.heap L ∧ FrameEnd U o U' L ({ frames := 0, cells := 0, slots := 0, locals := 0 } : Room).cells ({ frames := 0, cells := 0, slots := 0, locals := 0 } : Room).slots) := by
  refine MetFree.of_bodySF (plainFor_of_name pn_1) hisR ?_
  intro p e s m args below meth c s₁ Bd hml0 hP hK
  obtain ⟨rfl, hZ, hh⟩ := hP
  have hx := Bd.exec
  have hby := Bd.bytes
  have hml : c.maxLocals = 5 := hml0
  have hown : s.vm.findClass "stillmark/StableTimes" = some m.cls := findClass_of_methodNamed Bd.named
  have hnm := (name_of_methodNamed Bd.named Bd.method).1
  have X0 : Stand p l e ({ frames := 0, cells := 0, slots := 0, locals := 0 } : Room) s m #[(.ref a), (.long n')] below meth c s₁ [] 0 0 := Stand.of_body Bd
  have e0 : s₁.heap = h0 := by rw [← hh, Bd.state]; rfl
  have N0 := Fr.nil n0
  have pre0 : ∀ tt_, Steps p.tables e below (s₁.setTop (mkF m 0 #[.val (.ref a), .val (.long n'), .second, .unset, .unset] [])) tt_ → Steps p.tables e below (s₁.setTop (entryFrame m #[(.ref a), (.long n')] 5)) tt_ := fun tt_ kk_ => castTop (ef_8 m a n') kk_
  obtain ⟨T1, X1, e1, st1⟩ := getF X0 hx hZ hown (host := "") (Or.inl (hw _ (List.mem_of_getElem? (i := 20) rfl))) Via.refl e0 F_heard_a (g := (mkF m 8 #[.val (.ref a), .val (.long n'), .second, .val (.int (-1 : Int32)), .val (.int (0 : Int32))] [(.ref a), (.int (0 : Int32))])) rfl rfl (hb hby d8_8)
  obtain ⟨cl2, Ar2, S2, -⟩ := id A_u
  obtain ⟨T3, X3, e3, st3⟩ := getF X1 hx hZ hown (host := "") (Or.inl (hw _ (List.mem_of_getElem? (i := 11) rfl))) Via.refl e1 F_own_a (g := (mkF m 18 #[.val (.ref a), .val (.long n'), .second, .val (.int (-1 : Int32)), .val (.int (0 : Int32))] [(.ref a), (.int (0 : Int32))])) rfl rfl (hb hby d8_18)
  obtain ⟨T4, X4, e4, st4⟩ := getF X3 hx hZ hown (host := "") (Or.inl (hw _ (List.mem_of_getElem? (i := 20) rfl))) Via.refl e3 F_heard_a (g := (mkF m 8 #[.val (.ref a), .val (.long n'), .second, .val (.int (-1 : Int32)), .val (.int (1 : Int32))] [(.ref a), (.int (1 : Int32))])) rfl rfl (hb hby d8_8)
  obtain ⟨cl5, Ar5, S5, -⟩ := id A_u
  obtain ⟨T6, X6, e6, st6⟩ := getF X4 hx hZ hown (host := "") (Or.inl (hw _ (List.mem_of_getElem? (i := 11) rfl))) Via.refl e4 F_own_a (g := (mkF m 18 #[.val (.ref a), .val (.long n'), .second, .val (.int (-1 : Int32)), .val (.int (1 : Int32))] [(.ref a), (.int (1 : Int32))])) rfl rfl (hb hby d8_18)
  obtain ⟨T7, X7, e7, st7⟩ := getF X6 hx hZ hown (host := "") (Or.inl (hw _ (List.mem_of_getElem? (i := 20) rfl))) Via.refl e6 F_heard_a (g := (mkF m 25 #[.val (.ref a), .val (.long n'), .second, .val (.int (-1 : Int32)), .val (.int (1 : Int32))] [(.ref a)])) rfl rfl (hb hby d8_25)
  obtain ⟨cl8, Ar8, S8, H8⟩ := id A_u
  have hj8 : (1 : Int32).toNatClampNeg = 1 := (by decide)
  have hin8 : ¬ ((1 : Int32) < 0 ∨ cl8.slots.size ≤ ((1 : Int32)).toNatClampNeg) := by rw [S8, hj8]; exact fun q => q.elim (by decide) (Nat.not_le.mpr (by decide : 1 < 4))
  have hat8 : cl8.slots[((1 : Int32)).toNatClampNeg]? = some (.long (g 1)) := by rw [hj8, H8 _ (by decide : 1 < 4)]; exact congrArg some (rfl)
  obtain ⟨T9, X9, e9, st9⟩ := getF X7 hx hZ hown (host := "") (Or.inl (hw _ (List.mem_of_getElem? (i := 15) rfl))) Via.refl e7 F_silence_a (g := (mkF m 33 #[.val (.ref a), .val (.long n'), .second, .val (.int (-1 : Int32)), .val (.int (1 : Int32))] [(.ref a), (.long n'), (.long (g 1))])) rfl rfl (hb hby d8_33)
  obtain ⟨T10, X10, e10, st10⟩ := getF X9 hx hZ hown (host := "") (Or.inl (hw _ (List.mem_of_getElem? (i := 20) rfl))) Via.refl e9 F_heard_a (g := (mkF m 8 #[.val (.ref a), .val (.long n'), .second, .val (.int (1 : Int32)), .val (.int (2 : Int32))] [(.ref a), (.int (2 : Int32))])) rfl rfl (hb hby d8_8)
  obtain ⟨cl11, Ar11, S11, -⟩ := id A_u
  obtain ⟨T12, X12, e12, st12⟩ := getF X10 hx hZ hown (host := "") (Or.inl (hw _ (List.mem_of_getElem? (i := 11) rfl))) Via.refl e10 F_own_a (g := (mkF m 18 #[.val (.ref a), .val (.long n'), .second, .val (.int (1 : Int32)), .val (.int (2 : Int32))] [(.ref a), (.int (2 : Int32))])) rfl rfl (hb hby d8_18)
  obtain ⟨T13, X13, e13, st13⟩ := getF X12 hx hZ hown (host := "") (Or.inl (hw _ (List.mem_of_getElem? (i := 20) rfl))) Via.refl e12 F_heard_a (g := (mkF m 25 #[.val (.ref a), .val (.long n'), .second, .val (.int (1 : Int32)), .val (.int (2 : Int32))] [(.ref a)])) rfl rfl (hb hby d8_25)
  obtain ⟨cl14, Ar14, S14, H14⟩ := id A_u
  have hj14 : (2 : Int32).toNatClampNeg = 2 := (by decide)
  have hin14 : ¬ ((2 : Int32) < 0 ∨ cl14.slots.size ≤ ((2 : Int32)).toNatClampNeg) := by rw [S14, hj14]; exact fun q => q.elim (by decide) (Nat.not_le.mpr (by decide : 2 < 4))
  have hat14 : cl14.slots[((2 : Int32)).toNatClampNeg]? = some (.long (g 2)) := by rw [hj14, H14 _ (by decide : 2 < 4)]; exact congrArg some (rfl)
  obtain ⟨T15, X15, e15, st15⟩ := getF X13 hx hZ hown (host := "") (Or.inl (hw _ (List.mem_of_getElem? (i := 15) rfl))) Via.refl e13 F_silence_a (g := (mkF m 33 #[.val (.ref a), .val (.long n'), .second, .val (.int (1 : Int32)), .val (.int (2 : Int32))] [(.ref a), (.long n'), (.long (g 2))])) rfl rfl (hb hby d8_33)
  obtain ⟨T16, X16, e16, st16⟩ := getF X15 hx hZ hown (host := "") (Or.inl (hw _ (List.mem_of_getElem? (i := 20) rfl))) Via.refl e15 F_heard_a (g := (mkF m 8 #[.val (.ref a), .val (.long n'), .second, .val (.int (1 : Int32)), .val (.int (3 : Int32))] [(.ref a), (.int (3 : Int32))])) rfl rfl (hb hby d8_8)
  obtain ⟨cl17, Ar17, S17, -⟩ := id A_u
  obtain ⟨T18, X18, e18, st18⟩ := getF X16 hx hZ hown (host := "") (Or.inl (hw _ (List.mem_of_getElem? (i := 11) rfl))) Via.refl e16 F_own_a (g := (mkF m 18 #[.val (.ref a), .val (.long n'), .second, .val (.int (1 : Int32)), .val (.int (3 : Int32))] [(.ref a), (.int (3 : Int32))])) rfl rfl (hb hby d8_18)
  obtain ⟨T19, X19, e19, st19⟩ := getF X18 hx hZ hown (host := "") (Or.inl (hw _ (List.mem_of_getElem? (i := 20) rfl))) Via.refl e18 F_heard_a (g := (mkF m 25 #[.val (.ref a), .val (.long n'), .second, .val (.int (1 : Int32)), .val (.int (3 : Int32))] [(.ref a)])) rfl rfl (hb hby d8_25)
  obtain ⟨cl20, Ar20, S20, H20⟩ := id A_u
  have hj20 : (3 : Int32).toNatClampNeg = 3 := (by decide)
  have hin20 : ¬ ((3 : Int32) < 0 ∨ cl20.slots.size ≤ ((3 : Int32)).toNatClampNeg) := by rw [S20, hj20]; exact fun q => q.elim (by decide) (Nat.not_le.mpr (by decide : 3 < 4))
  have hat20 : cl20.slots[((3 : Int32)).toNatClampNeg]? = some (.long (g 3)) := by rw [hj20, H20 _ (by decide : 3 < 4)]; exact congrArg some (rfl)
  obtain ⟨T21, X21, e21, st21⟩ := getF X19 hx hZ hown (host := "") (Or.inl (hw _ (List.mem_of_getElem? (i := 15) rfl))) Via.refl e19 F_silence_a (g := (mkF m 33 #[.val (.ref a), .val (.long n'), .second, .val (.int (1 : Int32)), .val (.int (3 : Int32))] [(.ref a), (.long n'), (.long (g 3))])) rfl rfl (hb hby d8_33)
  obtain ⟨T22, X22, e22, st22⟩ := getF X21 hx hZ hown (host := "") (Or.inl (hw _ (List.mem_of_getElem? (i := 20) rfl))) Via.refl e21 F_heard_a (g := (mkF m 8 #[.val (.ref a), .val (.long n'), .second, .val (.int (1 : Int32)), .val (.int (4 : Int32))] [(.ref a), (.int (4 : Int32))])) rfl rfl (hb hby d8_8)
  obtain ⟨cl23, Ar23, S23, -⟩ := id A_u
  obtain ⟨fs, hr, hrun, hended, hW, hsame⟩ := X22.leave (v := some (.int (1 : Int32))) (fun h => by rw [Bd.returns] at h; cases h)
  refine ⟨_, _, pre0 _ ?_, hrun, hended, _, _, rfl, ?_, ⟨_, rfl⟩, hW, hsame.mono (by decide) (by decide)⟩
  · show Steps p.tables e below (s₁.setTop (mkF m 0 #[.val (.ref a), .val (.long n'), .second, .unset, .unset] [])) _
    refine XS.iconst X0.here hx rfl (hb hby d8_0) ?_
    show Steps p.tables e below (s₁.setTop (mkF m 1 #[.val (.ref a), .val (.long n'), .second, .unset, .unset] [(.int (-1 : Int32))])) _
    refine XS.istoreN X0.here hx rfl (hb hby d8_1) rfl (l' := #[.val (.ref a), .val (.long n'), .second, .val (.int (-1 : Int32)), .unset]) rfl ?_
    show Steps p.tables e below (s₁.setTop (mkF m 2 #[.val (.ref a), .val (.long n'), .second, .val (.int (-1 : Int32)), .unset] [])) _
    refine XS.iconst X0.here hx rfl (hb hby d8_2) ?_
    show Steps p.tables e below (s₁.setTop (mkF m 3 #[.val (.ref a), .val (.long n'), .second, .val (.int (-1 : Int32)), .unset] [(.int (0 : Int32))])) _
    refine XS.istore X0.here hx rfl (hb hby d8_3) rfl (l' := #[.val (.ref a), .val (.long n'), .second, .val (.int (-1 : Int32)), .val (.int (0 : Int32))]) rfl ?_
    show Steps p.tables e below (s₁.setTop (mkF m 5 #[.val (.ref a), .val (.long n'), .second, .val (.int (-1 : Int32)), .val (.int (0 : Int32))] [])) _
    refine XS.iload X0.here hx rfl (hb hby d8_5) rfl ?_
    show Steps p.tables e below (s₁.setTop (mkF m 7 #[.val (.ref a), .val (.long n'), .second, .val (.int (-1 : Int32)), .val (.int (0 : Int32))] [(.int (0 : Int32))])) _
    refine XS.aloadN X0.here hx rfl (hb hby d8_7) rfl rfl ?_
    show Steps p.tables e below (s₁.setTop (mkF m 8 #[.val (.ref a), .val (.long n'), .second, .val (.int (-1 : Int32)), .val (.int (0 : Int32))] [(.ref a), (.int (0 : Int32))])) _
    refine st1 _ ?_
    show Steps p.tables e below (T1.setTop (mkF m 11 #[.val (.ref a), .val (.long n'), .second, .val (.int (-1 : Int32)), .val (.int (0 : Int32))] [(.ref u), (.int (0 : Int32))])) _
    refine X1.arraylength hx (by rw [e1]; exact Ar2.1) (State.isArrayOf_alike hZ.alike Ar2.2.1) (g := (mkF m 11 #[.val (.ref a), .val (.long n'), .second, .val (.int (-1 : Int32)), .val (.int (0 : Int32))] [(.ref u), (.int (0 : Int32))])) rfl rfl (hb hby d8_11) _ ?_
    rw [S2]
    show Steps p.tables e below (T1.setTop (mkF m 12 #[.val (.ref a), .val (.long n'), .second, .val (.int (-1 : Int32)), .val (.int (0 : Int32))] [(.int (Nat.toInt32 4)), (.int (0 : Int32))])) _
    rw [show ((Nat.toInt32 4) : Int32) = (4 : Int32) from by decide]
    show Steps p.tables e below (T1.setTop (mkF m 12 #[.val (.ref a), .val (.long n'), .second, .val (.int (-1 : Int32)), .val (.int (0 : Int32))] [(.int (4 : Int32)), (.int (0 : Int32))])) _
    refine XS.icmpNo X1.here hx rfl (hb hby d8_12) rfl (tlt (show (0 : Int32) < (4 : Int32) from (by decide))).2.1 ?_
    show Steps p.tables e below (T1.setTop (mkF m 15 #[.val (.ref a), .val (.long n'), .second, .val (.int (-1 : Int32)), .val (.int (0 : Int32))] [])) _
    refine XS.iload X1.here hx rfl (hb hby d8_15) rfl ?_
    show Steps p.tables e below (T1.setTop (mkF m 17 #[.val (.ref a), .val (.long n'), .second, .val (.int (-1 : Int32)), .val (.int (0 : Int32))] [(.int (0 : Int32))])) _
    refine XS.aloadN X1.here hx rfl (hb hby d8_17) rfl rfl ?_
    show Steps p.tables e below (T1.setTop (mkF m 18 #[.val (.ref a), .val (.long n'), .second, .val (.int (-1 : Int32)), .val (.int (0 : Int32))] [(.ref a), (.int (0 : Int32))])) _
    refine st3 _ ?_
    show Steps p.tables e below (T3.setTop (mkF m 21 #[.val (.ref a), .val (.long n'), .second, .val (.int (-1 : Int32)), .val (.int (0 : Int32))] [(.int (0 : Int32)), (.int (0 : Int32))])) _
    refine XS.icmpYes X3.here hx rfl (pc0 := 21) (pc' := 54) rfl (hb hby d8_21) rfl (teq (show (0 : Int32) = (0 : Int32) from rfl)).1 (by decide) (by decide) ?_
    show Steps p.tables e below (T3.setTop (mkF m 54 #[.val (.ref a), .val (.long n'), .second, .val (.int (-1 : Int32)), .val (.int (0 : Int32))] [])) _
    refine XS.iinc X3.here hx rfl (hb hby d8_54) rfl (l' := #[.val (.ref a), .val (.long n'), .second, .val (.int (-1 : Int32)), .val (.int ((0 : Int32) + (1 : Int32)))]) rfl ?_
    show Steps p.tables e below (T3.setTop (mkF m 57 #[.val (.ref a), .val (.long n'), .second, .val (.int (-1 : Int32)), .val (.int ((0 : Int32) + (1 : Int32)))] [])) _
    rw [show (((0 : Int32) + (1 : Int32)) : Int32) = (1 : Int32) from by decide]
    show Steps p.tables e below (T3.setTop (mkF m 57 #[.val (.ref a), .val (.long n'), .second, .val (.int (-1 : Int32)), .val (.int (1 : Int32))] [])) _
    refine XS.goto X3.here hx rfl (pc0 := 57) (pc' := 5) rfl (hb hby d8_57) (by decide) (by decide) ?_
    show Steps p.tables e below (T3.setTop (mkF m 5 #[.val (.ref a), .val (.long n'), .second, .val (.int (-1 : Int32)), .val (.int (1 : Int32))] [])) _
    refine XS.iload X3.here hx rfl (hb hby d8_5) rfl ?_
    show Steps p.tables e below (T3.setTop (mkF m 7 #[.val (.ref a), .val (.long n'), .second, .val (.int (-1 : Int32)), .val (.int (1 : Int32))] [(.int (1 : Int32))])) _
    refine XS.aloadN X3.here hx rfl (hb hby d8_7) rfl rfl ?_
    show Steps p.tables e below (T3.setTop (mkF m 8 #[.val (.ref a), .val (.long n'), .second, .val (.int (-1 : Int32)), .val (.int (1 : Int32))] [(.ref a), (.int (1 : Int32))])) _
    refine st4 _ ?_
    show Steps p.tables e below (T4.setTop (mkF m 11 #[.val (.ref a), .val (.long n'), .second, .val (.int (-1 : Int32)), .val (.int (1 : Int32))] [(.ref u), (.int (1 : Int32))])) _
    refine X4.arraylength hx (by rw [e4]; exact Ar5.1) (State.isArrayOf_alike hZ.alike Ar5.2.1) (g := (mkF m 11 #[.val (.ref a), .val (.long n'), .second, .val (.int (-1 : Int32)), .val (.int (1 : Int32))] [(.ref u), (.int (1 : Int32))])) rfl rfl (hb hby d8_11) _ ?_
    rw [S5]
    show Steps p.tables e below (T4.setTop (mkF m 12 #[.val (.ref a), .val (.long n'), .second, .val (.int (-1 : Int32)), .val (.int (1 : Int32))] [(.int (Nat.toInt32 4)), (.int (1 : Int32))])) _
    rw [show ((Nat.toInt32 4) : Int32) = (4 : Int32) from by decide]
    show Steps p.tables e below (T4.setTop (mkF m 12 #[.val (.ref a), .val (.long n'), .second, .val (.int (-1 : Int32)), .val (.int (1 : Int32))] [(.int (4 : Int32)), (.int (1 : Int32))])) _
    refine XS.icmpNo X4.here hx rfl (hb hby d8_12) rfl (tlt (show (1 : Int32) < (4 : Int32) from (by decide))).2.1 ?_
    show Steps p.tables e below (T4.setTop (mkF m 15 #[.val (.ref a), .val (.long n'), .second, .val (.int (-1 : Int32)), .val (.int (1 : Int32))] [])) _
    refine XS.iload X4.here hx rfl (hb hby d8_15) rfl ?_
    show Steps p.tables e below (T4.setTop (mkF m 17 #[.val (.ref a), .val (.long n'), .second, .val (.int (-1 : Int32)), .val (.int (1 : Int32))] [(.int (1 : Int32))])) _
    refine XS.aloadN X4.here hx rfl (hb hby d8_17) rfl rfl ?_
    show Steps p.tables e below (T4.setTop (mkF m 18 #[.val (.ref a), .val (.long n'), .second, .val (.int (-1 : Int32)), .val (.int (1 : Int32))] [(.ref a), (.int (1 : Int32))])) _
    refine st6 _ ?_
    show Steps p.tables e below (T6.setTop (mkF m 21 #[.val (.ref a), .val (.long n'), .second, .val (.int (-1 : Int32)), .val (.int (1 : Int32))] [(.int (0 : Int32)), (.int (1 : Int32))])) _
    refine XS.icmpNo X6.here hx rfl (hb hby d8_21) rfl (feq (show ¬ ((1 : Int32) = (0 : Int32)) from (by decide))).1 ?_
    show Steps p.tables e below (T6.setTop (mkF m 24 #[.val (.ref a), .val (.long n'), .second, .val (.int (-1 : Int32)), .val (.int (1 : Int32))] [])) _
    refine XS.aloadN X6.here hx rfl (hb hby d8_24) rfl rfl ?_
    show Steps p.tables e below (T6.setTop (mkF m 25 #[.val (.ref a), .val (.long n'), .second, .val (.int (-1 : Int32)), .val (.int (1 : Int32))] [(.ref a)])) _
    refine st7 _ ?_
    show Steps p.tables e below (T7.setTop (mkF m 28 #[.val (.ref a), .val (.long n'), .second, .val (.int (-1 : Int32)), .val (.int (1 : Int32))] [(.ref u)])) _
    refine XS.iload X7.here hx rfl (hb hby d8_28) rfl ?_
    show Steps p.tables e below (T7.setTop (mkF m 30 #[.val (.ref a), .val (.long n'), .second, .val (.int (-1 : Int32)), .val (.int (1 : Int32))] [(.int (1 : Int32)), (.ref u)])) _
    refine X7.laload hx (j := (1 : Int32)) (v := (.long (g 1))) (by rw [e7]; exact Ar8.1) (State.isArrayOf_alike hZ.alike Ar8.2.1) Ar8.2.2 hin8 hat8 (g := (mkF m 30 #[.val (.ref a), .val (.long n'), .second, .val (.int (-1 : Int32)), .val (.int (1 : Int32))] [(.int (1 : Int32)), (.ref u)])) rfl rfl (hb hby d8_30) _ ?_
    show Steps p.tables e below (T7.setTop (mkF m 31 #[.val (.ref a), .val (.long n'), .second, .val (.int (-1 : Int32)), .val (.int (1 : Int32))] [(.long (g 1))])) _
    refine XS.lloadN X7.here hx rfl (hb hby d8_31) rfl ?_
    show Steps p.tables e below (T7.setTop (mkF m 32 #[.val (.ref a), .val (.long n'), .second, .val (.int (-1 : Int32)), .val (.int (1 : Int32))] [(.long n'), (.long (g 1))])) _
    refine XS.aloadN X7.here hx rfl (hb hby d8_32) rfl rfl ?_
    show Steps p.tables e below (T7.setTop (mkF m 33 #[.val (.ref a), .val (.long n'), .second, .val (.int (-1 : Int32)), .val (.int (1 : Int32))] [(.ref a), (.long n'), (.long (g 1))])) _
    refine st9 _ ?_
    show Steps p.tables e below (T9.setTop (mkF m 36 #[.val (.ref a), .val (.long n'), .second, .val (.int (-1 : Int32)), .val (.int (1 : Int32))] [(.long sl), (.long n'), (.long (g 1))])) _
    refine XS.lsub X9.here hx rfl (hb hby d8_36) rfl ?_
    show Steps p.tables e below (T9.setTop (mkF m 37 #[.val (.ref a), .val (.long n'), .second, .val (.int (-1 : Int32)), .val (.int (1 : Int32))] [(.long (n' - sl)), (.long (g 1))])) _
    refine XS.lcmp X9.here hx rfl (hb hby d8_37) rfl ?_
    show Steps p.tables e below (T9.setTop (mkF m 38 #[.val (.ref a), .val (.long n'), .second, .val (.int (-1 : Int32)), .val (.int (1 : Int32))] [(.int (lcmpW (g 1) (n' - sl)))])) _
    refine XS.ifYes X9.here hx rfl (pc0 := 38) (pc' := 44) rfl (hb hby d8_38) rfl ((if0 _ _).trans (tlt (show (lcmpW (g 1) (n' - sl)) < (0 : Int32) from ((lw_lt _ _).mpr hs1))).1) (by decide) (by decide) ?_
    show Steps p.tables e below (T9.setTop (mkF m 44 #[.val (.ref a), .val (.long n'), .second, .val (.int (-1 : Int32)), .val (.int (1 : Int32))] [])) _
    refine XS.iloadN X9.here hx rfl (hb hby d8_44) rfl ?_
    show Steps p.tables e below (T9.setTop (mkF m 45 #[.val (.ref a), .val (.long n'), .second, .val (.int (-1 : Int32)), .val (.int (1 : Int32))] [(.int (-1 : Int32))])) _
    refine XS.iconst X9.here hx rfl (hb hby d8_45) ?_
    show Steps p.tables e below (T9.setTop (mkF m 46 #[.val (.ref a), .val (.long n'), .second, .val (.int (-1 : Int32)), .val (.int (1 : Int32))] [(.int (-1 : Int32)), (.int (-1 : Int32))])) _
    refine XS.icmpYes X9.here hx rfl (pc0 := 46) (pc' := 51) rfl (hb hby d8_46) rfl (teq (show (-1 : Int32) = (-1 : Int32) from rfl)).1 (by decide) (by decide) ?_
    show Steps p.tables e below (T9.setTop (mkF m 51 #[.val (.ref a), .val (.long n'), .second, .val (.int (-1 : Int32)), .val (.int (1 : Int32))] [])) _
    refine XS.iload X9.here hx rfl (hb hby d8_51) rfl ?_
    show Steps p.tables e below (T9.setTop (mkF m 53 #[.val (.ref a), .val (.long n'), .second, .val (.int (-1 : Int32)), .val (.int (1 : Int32))] [(.int (1 : Int32))])) _
    refine XS.istoreN X9.here hx rfl (hb hby d8_53) rfl (l' := #[.val (.ref a), .val (.long n'), .second, .val (.int (1 : Int32)), .val (.int (1 : Int32))]) rfl ?_
    show Steps p.tables e below (T9.setTop (mkF m 54 #[.val (.ref a), .val (.long n'), .second, .val (.int (1 : Int32)), .val (.int (1 : Int32))] [])) _
    refine XS.iinc X9.here hx rfl (hb hby d8_54) rfl (l' := #[.val (.ref a), .val (.long n'), .second, .val (.int (1 : Int32)), .val (.int ((1 : Int32) + (1 : Int32)))]) rfl ?_
    show Steps p.tables e below (T9.setTop (mkF m 57 #[.val (.ref a), .val (.long n'), .second, .val (.int (1 : Int32)), .val (.int ((1 : Int32) + (1 : Int32)))] [])) _
    rw [show (((1 : Int32) + (1 : Int32)) : Int32) = (2 : Int32) from by decide]
    show Steps p.tables e below (T9.setTop (mkF m 57 #[.val (.ref a), .val (.long n'), .second, .val (.int (1 : Int32)), .val (.int (2 : Int32))] [])) _
    refine XS.goto X9.here hx rfl (pc0 := 57) (pc' := 5) rfl (hb hby d8_57) (by decide) (by decide) ?_
    show Steps p.tables e below (T9.setTop (mkF m 5 #[.val (.ref a), .val (.long n'), .second, .val (.int (1 : Int32)), .val (.int (2 : Int32))] [])) _
    refine XS.iload X9.here hx rfl (hb hby d8_5) rfl ?_
    show Steps p.tables e below (T9.setTop (mkF m 7 #[.val (.ref a), .val (.long n'), .second, .val (.int (1 : Int32)), .val (.int (2 : Int32))] [(.int (2 : Int32))])) _
    refine XS.aloadN X9.here hx rfl (hb hby d8_7) rfl rfl ?_
    show Steps p.tables e below (T9.setTop (mkF m 8 #[.val (.ref a), .val (.long n'), .second, .val (.int (1 : Int32)), .val (.int (2 : Int32))] [(.ref a), (.int (2 : Int32))])) _
    refine st10 _ ?_
    show Steps p.tables e below (T10.setTop (mkF m 11 #[.val (.ref a), .val (.long n'), .second, .val (.int (1 : Int32)), .val (.int (2 : Int32))] [(.ref u), (.int (2 : Int32))])) _
    refine X10.arraylength hx (by rw [e10]; exact Ar11.1) (State.isArrayOf_alike hZ.alike Ar11.2.1) (g := (mkF m 11 #[.val (.ref a), .val (.long n'), .second, .val (.int (1 : Int32)), .val (.int (2 : Int32))] [(.ref u), (.int (2 : Int32))])) rfl rfl (hb hby d8_11) _ ?_
    rw [S11]
    show Steps p.tables e below (T10.setTop (mkF m 12 #[.val (.ref a), .val (.long n'), .second, .val (.int (1 : Int32)), .val (.int (2 : Int32))] [(.int (Nat.toInt32 4)), (.int (2 : Int32))])) _
    rw [show ((Nat.toInt32 4) : Int32) = (4 : Int32) from by decide]
    show Steps p.tables e below (T10.setTop (mkF m 12 #[.val (.ref a), .val (.long n'), .second, .val (.int (1 : Int32)), .val (.int (2 : Int32))] [(.int (4 : Int32)), (.int (2 : Int32))])) _
    refine XS.icmpNo X10.here hx rfl (hb hby d8_12) rfl (tlt (show (2 : Int32) < (4 : Int32) from (by decide))).2.1 ?_
    show Steps p.tables e below (T10.setTop (mkF m 15 #[.val (.ref a), .val (.long n'), .second, .val (.int (1 : Int32)), .val (.int (2 : Int32))] [])) _
    refine XS.iload X10.here hx rfl (hb hby d8_15) rfl ?_
    show Steps p.tables e below (T10.setTop (mkF m 17 #[.val (.ref a), .val (.long n'), .second, .val (.int (1 : Int32)), .val (.int (2 : Int32))] [(.int (2 : Int32))])) _
    refine XS.aloadN X10.here hx rfl (hb hby d8_17) rfl rfl ?_
    show Steps p.tables e below (T10.setTop (mkF m 18 #[.val (.ref a), .val (.long n'), .second, .val (.int (1 : Int32)), .val (.int (2 : Int32))] [(.ref a), (.int (2 : Int32))])) _
    refine st12 _ ?_
    show Steps p.tables e below (T12.setTop (mkF m 21 #[.val (.ref a), .val (.long n'), .second, .val (.int (1 : Int32)), .val (.int (2 : Int32))] [(.int (0 : Int32)), (.int (2 : Int32))])) _
    refine XS.icmpNo X12.here hx rfl (hb hby d8_21) rfl (feq (show ¬ ((2 : Int32) = (0 : Int32)) from (by decide))).1 ?_
    show Steps p.tables e below (T12.setTop (mkF m 24 #[.val (.ref a), .val (.long n'), .second, .val (.int (1 : Int32)), .val (.int (2 : Int32))] [])) _
    refine XS.aloadN X12.here hx rfl (hb hby d8_24) rfl rfl ?_
    show Steps p.tables e below (T12.setTop (mkF m 25 #[.val (.ref a), .val (.long n'), .second, .val (.int (1 : Int32)), .val (.int (2 : Int32))] [(.ref a)])) _
    refine st13 _ ?_
    show Steps p.tables e below (T13.setTop (mkF m 28 #[.val (.ref a), .val (.long n'), .second, .val (.int (1 : Int32)), .val (.int (2 : Int32))] [(.ref u)])) _
    refine XS.iload X13.here hx rfl (hb hby d8_28) rfl ?_
    show Steps p.tables e below (T13.setTop (mkF m 30 #[.val (.ref a), .val (.long n'), .second, .val (.int (1 : Int32)), .val (.int (2 : Int32))] [(.int (2 : Int32)), (.ref u)])) _
    refine X13.laload hx (j := (2 : Int32)) (v := (.long (g 2))) (by rw [e13]; exact Ar14.1) (State.isArrayOf_alike hZ.alike Ar14.2.1) Ar14.2.2 hin14 hat14 (g := (mkF m 30 #[.val (.ref a), .val (.long n'), .second, .val (.int (1 : Int32)), .val (.int (2 : Int32))] [(.int (2 : Int32)), (.ref u)])) rfl rfl (hb hby d8_30) _ ?_
    show Steps p.tables e below (T13.setTop (mkF m 31 #[.val (.ref a), .val (.long n'), .second, .val (.int (1 : Int32)), .val (.int (2 : Int32))] [(.long (g 2))])) _
    refine XS.lloadN X13.here hx rfl (hb hby d8_31) rfl ?_
    show Steps p.tables e below (T13.setTop (mkF m 32 #[.val (.ref a), .val (.long n'), .second, .val (.int (1 : Int32)), .val (.int (2 : Int32))] [(.long n'), (.long (g 2))])) _
    refine XS.aloadN X13.here hx rfl (hb hby d8_32) rfl rfl ?_
    show Steps p.tables e below (T13.setTop (mkF m 33 #[.val (.ref a), .val (.long n'), .second, .val (.int (1 : Int32)), .val (.int (2 : Int32))] [(.ref a), (.long n'), (.long (g 2))])) _
    refine st15 _ ?_
    show Steps p.tables e below (T15.setTop (mkF m 36 #[.val (.ref a), .val (.long n'), .second, .val (.int (1 : Int32)), .val (.int (2 : Int32))] [(.long sl), (.long n'), (.long (g 2))])) _
    refine XS.lsub X15.here hx rfl (hb hby d8_36) rfl ?_
    show Steps p.tables e below (T15.setTop (mkF m 37 #[.val (.ref a), .val (.long n'), .second, .val (.int (1 : Int32)), .val (.int (2 : Int32))] [(.long (n' - sl)), (.long (g 2))])) _
    refine XS.lcmp X15.here hx rfl (hb hby d8_37) rfl ?_
    show Steps p.tables e below (T15.setTop (mkF m 38 #[.val (.ref a), .val (.long n'), .second, .val (.int (1 : Int32)), .val (.int (2 : Int32))] [(.int (lcmpW (g 2) (n' - sl)))])) _
    refine XS.ifNo X15.here hx rfl (hb hby d8_38) rfl ((if0 _ _).trans (flt (show ¬ ((lcmpW (g 2) (n' - sl)) < (0 : Int32)) from (fun z => hs2 ((lw_lt _ _).mp z)))).1) ?_
    show Steps p.tables e below (T15.setTop (mkF m 41 #[.val (.ref a), .val (.long n'), .second, .val (.int (1 : Int32)), .val (.int (2 : Int32))] [])) _
    refine XS.goto X15.here hx rfl (pc0 := 41) (pc' := 54) rfl (hb hby d8_41) (by decide) (by decide) ?_
    show Steps p.tables e below (T15.setTop (mkF m 54 #[.val (.ref a), .val (.long n'), .second, .val (.int (1 : Int32)), .val (.int (2 : Int32))] [])) _
    refine XS.iinc X15.here hx rfl (hb hby d8_54) rfl (l' := #[.val (.ref a), .val (.long n'), .second, .val (.int (1 : Int32)), .val (.int ((2 : Int32) + (1 : Int32)))]) rfl ?_
    show Steps p.tables e below (T15.setTop (mkF m 57 #[.val (.ref a), .val (.long n'), .second, .val (.int (1 : Int32)), .val (.int ((2 : Int32) + (1 : Int32)))] [])) _
    rw [show (((2 : Int32) + (1 : Int32)) : Int32) = (3 : Int32) from by decide]
    show Steps p.tables e below (T15.setTop (mkF m 57 #[.val (.ref a), .val (.long n'), .second, .val (.int (1 : Int32)), .val (.int (3 : Int32))] [])) _
    refine XS.goto X15.here hx rfl (pc0 := 57) (pc' := 5) rfl (hb hby d8_57) (by decide) (by decide) ?_
    show Steps p.tables e below (T15.setTop (mkF m 5 #[.val (.ref a), .val (.long n'), .second, .val (.int (1 : Int32)), .val (.int (3 : Int32))] [])) _
    refine XS.iload X15.here hx rfl (hb hby d8_5) rfl ?_
    show Steps p.tables e below (T15.setTop (mkF m 7 #[.val (.ref a), .val (.long n'), .second, .val (.int (1 : Int32)), .val (.int (3 : Int32))] [(.int (3 : Int32))])) _
    refine XS.aloadN X15.here hx rfl (hb hby d8_7) rfl rfl ?_
    show Steps p.tables e below (T15.setTop (mkF m 8 #[.val (.ref a), .val (.long n'), .second, .val (.int (1 : Int32)), .val (.int (3 : Int32))] [(.ref a), (.int (3 : Int32))])) _
    refine st16 _ ?_
    show Steps p.tables e below (T16.setTop (mkF m 11 #[.val (.ref a), .val (.long n'), .second, .val (.int (1 : Int32)), .val (.int (3 : Int32))] [(.ref u), (.int (3 : Int32))])) _
    refine X16.arraylength hx (by rw [e16]; exact Ar17.1) (State.isArrayOf_alike hZ.alike Ar17.2.1) (g := (mkF m 11 #[.val (.ref a), .val (.long n'), .second, .val (.int (1 : Int32)), .val (.int (3 : Int32))] [(.ref u), (.int (3 : Int32))])) rfl rfl (hb hby d8_11) _ ?_
    rw [S17]
    show Steps p.tables e below (T16.setTop (mkF m 12 #[.val (.ref a), .val (.long n'), .second, .val (.int (1 : Int32)), .val (.int (3 : Int32))] [(.int (Nat.toInt32 4)), (.int (3 : Int32))])) _
    rw [show ((Nat.toInt32 4) : Int32) = (4 : Int32) from by decide]
    show Steps p.tables e below (T16.setTop (mkF m 12 #[.val (.ref a), .val (.long n'), .second, .val (.int (1 : Int32)), .val (.int (3 : Int32))] [(.int (4 : Int32)), (.int (3 : Int32))])) _
    refine XS.icmpNo X16.here hx rfl (hb hby d8_12) rfl (tlt (show (3 : Int32) < (4 : Int32) from (by decide))).2.1 ?_
    show Steps p.tables e below (T16.setTop (mkF m 15 #[.val (.ref a), .val (.long n'), .second, .val (.int (1 : Int32)), .val (.int (3 : Int32))] [])) _
    refine XS.iload X16.here hx rfl (hb hby d8_15) rfl ?_
    show Steps p.tables e below (T16.setTop (mkF m 17 #[.val (.ref a), .val (.long n'), .second, .val (.int (1 : Int32)), .val (.int (3 : Int32))] [(.int (3 : Int32))])) _
    refine XS.aloadN X16.here hx rfl (hb hby d8_17) rfl rfl ?_
    show Steps p.tables e below (T16.setTop (mkF m 18 #[.val (.ref a), .val (.long n'), .second, .val (.int (1 : Int32)), .val (.int (3 : Int32))] [(.ref a), (.int (3 : Int32))])) _
    refine st18 _ ?_
    show Steps p.tables e below (T18.setTop (mkF m 21 #[.val (.ref a), .val (.long n'), .second, .val (.int (1 : Int32)), .val (.int (3 : Int32))] [(.int (0 : Int32)), (.int (3 : Int32))])) _
    refine XS.icmpNo X18.here hx rfl (hb hby d8_21) rfl (feq (show ¬ ((3 : Int32) = (0 : Int32)) from (by decide))).1 ?_
    show Steps p.tables e below (T18.setTop (mkF m 24 #[.val (.ref a), .val (.long n'), .second, .val (.int (1 : Int32)), .val (.int (3 : Int32))] [])) _
    refine XS.aloadN X18.here hx rfl (hb hby d8_24) rfl rfl ?_
    show Steps p.tables e below (T18.setTop (mkF m 25 #[.val (.ref a), .val (.long n'), .second, .val (.int (1 : Int32)), .val (.int (3 : Int32))] [(.ref a)])) _
    refine st19 _ ?_
    show Steps p.tables e below (T19.setTop (mkF m 28 #[.val (.ref a), .val (.long n'), .second, .val (.int (1 : Int32)), .val (.int (3 : Int32))] [(.ref u)])) _
    refine XS.iload X19.here hx rfl (hb hby d8_28) rfl ?_
    show Steps p.tables e below (T19.setTop (mkF m 30 #[.val (.ref a), .val (.long n'), .second, .val (.int (1 : Int32)), .val (.int (3 : Int32))] [(.int (3 : Int32)), (.ref u)])) _
    refine X19.laload hx (j := (3 : Int32)) (v := (.long (g 3))) (by rw [e19]; exact Ar20.1) (State.isArrayOf_alike hZ.alike Ar20.2.1) Ar20.2.2 hin20 hat20 (g := (mkF m 30 #[.val (.ref a), .val (.long n'), .second, .val (.int (1 : Int32)), .val (.int (3 : Int32))] [(.int (3 : Int32)), (.ref u)])) rfl rfl (hb hby d8_30) _ ?_
    show Steps p.tables e below (T19.setTop (mkF m 31 #[.val (.ref a), .val (.long n'), .second, .val (.int (1 : Int32)), .val (.int (3 : Int32))] [(.long (g 3))])) _
    refine XS.lloadN X19.here hx rfl (hb hby d8_31) rfl ?_
    show Steps p.tables e below (T19.setTop (mkF m 32 #[.val (.ref a), .val (.long n'), .second, .val (.int (1 : Int32)), .val (.int (3 : Int32))] [(.long n'), (.long (g 3))])) _
    refine XS.aloadN X19.here hx rfl (hb hby d8_32) rfl rfl ?_
    show Steps p.tables e below (T19.setTop (mkF m 33 #[.val (.ref a), .val (.long n'), .second, .val (.int (1 : Int32)), .val (.int (3 : Int32))] [(.ref a), (.long n'), (.long (g 3))])) _
    refine st21 _ ?_
    show Steps p.tables e below (T21.setTop (mkF m 36 #[.val (.ref a), .val (.long n'), .second, .val (.int (1 : Int32)), .val (.int (3 : Int32))] [(.long sl), (.long n'), (.long (g 3))])) _
    refine XS.lsub X21.here hx rfl (hb hby d8_36) rfl ?_
    show Steps p.tables e below (T21.setTop (mkF m 37 #[.val (.ref a), .val (.long n'), .second, .val (.int (1 : Int32)), .val (.int (3 : Int32))] [(.long (n' - sl)), (.long (g 3))])) _
    refine XS.lcmp X21.here hx rfl (hb hby d8_37) rfl ?_
    show Steps p.tables e below (T21.setTop (mkF m 38 #[.val (.ref a), .val (.long n'), .second, .val (.int (1 : Int32)), .val (.int (3 : Int32))] [(.int (lcmpW (g 3) (n' - sl)))])) _
    refine XS.ifNo X21.here hx rfl (hb hby d8_38) rfl ((if0 _ _).trans (flt (show ¬ ((lcmpW (g 3) (n' - sl)) < (0 : Int32)) from (fun z => hs3 ((lw_lt _ _).mp z)))).1) ?_
    show Steps p.tables e below (T21.setTop (mkF m 41 #[.val (.ref a), .val (.long n'), .second, .val (.int (1 : Int32)), .val (.int (3 : Int32))] [])) _
    refine XS.goto X21.here hx rfl (pc0 := 41) (pc' := 54) rfl (hb hby d8_41) (by decide) (by decide) ?_
    show Steps p.tables e below (T21.setTop (mkF m 54 #[.val (.ref a), .val (.long n'), .second, .val (.int (1 : Int32)), .val (.int (3 : Int32))] [])) _
    refine XS.iinc X21.here hx rfl (hb hby d8_54) rfl (l' := #[.val (.ref a), .val (.long n'), .second, .val (.int (1 : Int32)), .val (.int ((3 : Int32) + (1 : Int32)))]) rfl ?_
    show Steps p.tables e below (T21.setTop (mkF m 57 #[.val (.ref a), .val (.long n'), .second, .val (.int (1 : Int32)), .val (.int ((3 : Int32) + (1 : Int32)))] [])) _
    rw [show (((3 : Int32) + (1 : Int32)) : Int32) = (4 : Int32) from by decide]
    show Steps p.tables e below (T21.setTop (mkF m 57 #[.val (.ref a), .val (.long n'), .second, .val (.int (1 : Int32)), .val (.int (4 : Int32))] [])) _
    refine XS.goto X21.here hx rfl (pc0 := 57) (pc' := 5) rfl (hb hby d8_57) (by decide) (by decide) ?_
    show Steps p.tables e below (T21.setTop (mkF m 5 #[.val (.ref a), .val (.long n'), .second, .val (.int (1 : Int32)), .val (.int (4 : Int32))] [])) _
    refine XS.iload X21.here hx rfl (hb hby d8_5) rfl ?_
    show Steps p.tables e below (T21.setTop (mkF m 7 #[.val (.ref a), .val (.long n'), .second, .val (.int (1 : Int32)), .val (.int (4 : Int32))] [(.int (4 : Int32))])) _
    refine XS.aloadN X21.here hx rfl (hb hby d8_7) rfl rfl ?_
    show Steps p.tables e below (T21.setTop (mkF m 8 #[.val (.ref a), .val (.long n'), .second, .val (.int (1 : Int32)), .val (.int (4 : Int32))] [(.ref a), (.int (4 : Int32))])) _
    refine st22 _ ?_
    show Steps p.tables e below (T22.setTop (mkF m 11 #[.val (.ref a), .val (.long n'), .second, .val (.int (1 : Int32)), .val (.int (4 : Int32))] [(.ref u), (.int (4 : Int32))])) _
    refine X22.arraylength hx (by rw [e22]; exact Ar23.1) (State.isArrayOf_alike hZ.alike Ar23.2.1) (g := (mkF m 11 #[.val (.ref a), .val (.long n'), .second, .val (.int (1 : Int32)), .val (.int (4 : Int32))] [(.ref u), (.int (4 : Int32))])) rfl rfl (hb hby d8_11) _ ?_
    rw [S23]
    show Steps p.tables e below (T22.setTop (mkF m 12 #[.val (.ref a), .val (.long n'), .second, .val (.int (1 : Int32)), .val (.int (4 : Int32))] [(.int (Nat.toInt32 4)), (.int (4 : Int32))])) _
    rw [show ((Nat.toInt32 4) : Int32) = (4 : Int32) from by decide]
    show Steps p.tables e below (T22.setTop (mkF m 12 #[.val (.ref a), .val (.long n'), .second, .val (.int (1 : Int32)), .val (.int (4 : Int32))] [(.int (4 : Int32)), (.int (4 : Int32))])) _
    refine XS.icmpYes X22.here hx rfl (pc0 := 12) (pc' := 60) rfl (hb hby d8_12) rfl (flt (show ¬ ((4 : Int32) < (4 : Int32)) from (by decide))).2.1 (by decide) (by decide) ?_
    show Steps p.tables e below (T22.setTop (mkF m 60 #[.val (.ref a), .val (.long n'), .second, .val (.int (1 : Int32)), .val (.int (4 : Int32))] [])) _
    refine XS.iloadN X22.here hx rfl (hb hby d8_60) rfl ?_
    show Steps p.tables e below (T22.setTop (mkF m 61 #[.val (.ref a), .val (.long n'), .second, .val (.int (1 : Int32)), .val (.int (4 : Int32))] [(.int (1 : Int32))])) _
    exact retI X22 hx Bd.returns (hb hby d8_61) hr
  · show Qrm8_1 Z a n' sl u g h0 n0 _ T22.heap _
    rw [e22]
    exact ⟨rfl, N0, rfl⟩
def Qrm7_1 (Z : State) (a : Addr) (x : Int64) (n' : Int64) (sl : Int64) (t : Addr) (u : Addr) (f : Nat → Int64) (g : Nat → Int64) (h0 : Heap) (n0 : Nat) (v : Option Value) (h : Heap) (L : List Loc) : Prop := v = some (.long (own_min (own_min x (f 2)) (f 3))) ∧ Fr n0 L ∧ h = h0
set_option maxRecDepth 65536 in
set_option maxHeartbeats 40000000 in
theorem rm7_1 (l : Launch) (Z : State) (a0 : Array Value) (hw : ∀ d ∈ tables_1, d.before a0 Z = true) (ws : List Jvm.Cond) (a : Addr) (x : Int64) (n' : Int64) (sl : Int64) (t : Addr) (u : Addr) (f : Nat → Int64) (g : Nat → Int64) (h0 : Heap) (n0 : Nat) (Z0 : n0 ≤ h0.size) (E_a : Exa Z h0 a "stillmark/StableTimes") (F_own_a : Fld Z h0 a "stillmark/StableTimes" "own" "I" (.int (0 : Int32))) (F_silence_a : Fld Z h0 a "stillmark/StableTimes" "silence" "J" (.long sl)) (F_heard_a : Fld Z h0 a "stillmark/StableTimes" "heard" "[J" (.ref u)) (A_u : Av Z h0 u .long 4 (own_l g)) (F_majority_a : Fld Z h0 a "stillmark/StableTimes" "majority" "I" (.int (3 : Int32))) (F_told_a : Fld Z h0 a "stillmark/StableTimes" "told" "[J" (.ref t)) (A_t : Av Z h0 t .long 4 (own_l f)) (hs1 : (g 1) < (n' - sl)) (hs2 : ¬ ((g 2) < (n' - sl))) (hs3 : ¬ ((g 3) < (n' - sl))) :
    MetFree l (⟨"stillmark/StableTimes", "raise", "(JJ)J"⟩ : MethodName) (head1 (Jvm.Cond.code (⟨"stillmark/StableTimes", "raise", "(JJ)J"⟩ : MethodName) prog_146_method_5_code 10 (some .long) :: ws) ({ frames := 1, cells := 0, slots := 0, locals := 16 } : Room)) (fun aa_ U => aa_ = #[(.ref a), (.long x), (.long n')] ∧ Z.Warmed39 U.vm ∧ U.heap = h0) (fun _ _ _ _ _ => True) (fun _ U o U' => ∃ v L, o = .returned v ∧ Qrm7_1 Z a x n' sl t u f g h0 n0 v U'.heap L ∧ FrameEnd U o U' L ({ frames := 1, cells := 0, slots := 0, locals := 16 } : Room).cells ({ frames := 1, cells := 0, slots := 0, locals := 16 } : Room).slots) := by
  refine MetFree.of_bodySF (plainFor_of_name pn_1) hisR ?_
  intro p e s m args below meth c s₁ Bd hml0 hP hK
  obtain ⟨rfl, hZ, hh⟩ := hP
  have hx := Bd.exec
  have hby := Bd.bytes
  have hml : c.maxLocals = 10 := hml0
  have hown : s.vm.findClass "stillmark/StableTimes" = some m.cls := findClass_of_methodNamed Bd.named
  have hnm := (name_of_methodNamed Bd.named Bd.method).1
  have X0 : Stand p l e ({ frames := 1, cells := 0, slots := 0, locals := 16 } : Room) s m #[(.ref a), (.long x), (.long n')] below meth c s₁ [] 0 0 := Stand.of_body Bd
  have e0 : s₁.heap = h0 := by rw [← hh, Bd.state]; rfl
  have N0 := Fr.nil n0
  have pre0 : ∀ tt_, Steps p.tables e below (s₁.setTop (mkF m 0 #[.val (.ref a), .val (.long x), .second, .val (.long n'), .second, .unset, .unset, .unset, .unset, .unset] [])) tt_ → Steps p.tables e below (s₁.setTop (entryFrame m #[(.ref a), (.long x), (.long n')] 10)) tt_ := fun tt_ kk_ => castTop (ef_7 m a x n') kk_
  obtain ⟨cq1, q1, q1'⟩ := E_a.cell
  obtain ⟨_, _, ⟨T1, L1, k1, n1⟩, -, X1, ⟨Lc1, hQ1, l1, y1, z1⟩, st1⟩ := X0.privateBack hx (y := (⟨"stillmark/StableTimes", "leftOut", "(J)I"⟩ : MethodName)) hown (mvT hZ (hw _ (List.mem_of_getElem? (i := 47) rfl))) (mvT hZ (hw _ (List.mem_of_getElem? (i := 48) rfl))) (own_selp (y := (⟨"stillmark/StableTimes", "leftOut", "(J)I"⟩ : MethodName)) (mvT hZ (hw _ (List.mem_of_getElem? (i := 3) rfl))) (Cond.privateMethod_at (mvP hZ (hw _ (List.mem_of_getElem? (i := 49) rfl)) (args := #[]))) (mvT hZ (hw _ (List.mem_of_getElem? (i := 48) rfl))) (by decide)) (Cond.privateMethod_at (mvP hZ (hw _ (List.mem_of_getElem? (i := 49) rfl)) (args := #[]))) (mvT hZ (hw _ (List.mem_of_getElem? (i := 50) rfl))) (by decide) (backOf (W := 0) (rm8_1 l Z a0 hw [] a n' sl u g h0 n0 Z0 E_a F_own_a F_silence_a F_heard_a A_u hs1 hs2 hs3) hZ (hw _ (List.mem_of_getElem? (i := 50) rfl)) (hw _ (List.mem_of_getElem? (i := 4) rfl)) (by decide) (by decide)) (g := (mkF m 2 #[.val (.ref a), .val (.long x), .second, .val (.long n'), .second, .unset, .unset, .unset, .unset, .unset] [(.long n'), (.ref a)])) rfl (by rw [hml]; rfl) (Steps.refl _) (a := a) (by rw [e0]; exact q1) q1' (argsL := [(.long n')]) (rest := []) (lenOf pd_2 rfl) rfl (by show 2 * 0 + _ ≤ _; exact Nat.le_of_eq rfl) (hb hby d7_2) (fun _ _ => ⟨rfl, e0, (by decide : 0 + 0 ≤ _), (by decide : 0 + 0 ≤ _)⟩)
  dsimp only [Pt.U, Pt.locs, Pt.cells, Pt.slots] at X1 l1 y1 z1 st1 hQ1
  subst l1 y1 z1
  obtain ⟨rfl, N1q, e1q⟩ := hQ1
  have N1 := Fr.app N0 N1q
  obtain ⟨T2, X2, e2, st2⟩ := getF X1 hx hZ hown (host := "") (Or.inl (hw _ (List.mem_of_getElem? (i := 18) rfl))) Via.refl e1q F_told_a (g := (mkF m 19 #[.val (.ref a), .val (.long x), .second, .val (.long n'), .second, .val (.int (1 : Int32)), .val (.long x), .second, .val (.int (1 : Int32)), .val (.int (0 : Int32))] [(.ref a), (.int (0 : Int32))])) rfl rfl (hb hby d7_19)
  obtain ⟨cl3, Ar3, S3, -⟩ := id A_t
  obtain ⟨T4, X4, e4, st4⟩ := getF X2 hx hZ hown (host := "") (Or.inl (hw _ (List.mem_of_getElem? (i := 11) rfl))) Via.refl e2 F_own_a (g := (mkF m 29 #[.val (.ref a), .val (.long x), .second, .val (.long n'), .second, .val (.int (1 : Int32)), .val (.long x), .second, .val (.int (1 : Int32)), .val (.int (0 : Int32))] [(.ref a), (.int (0 : Int32))])) rfl rfl (hb hby d7_29)
  obtain ⟨T5, X5, e5, st5⟩ := getF X4 hx hZ hown (host := "") (Or.inl (hw _ (List.mem_of_getElem? (i := 18) rfl))) Via.refl e4 F_told_a (g := (mkF m 19 #[.val (.ref a), .val (.long x), .second, .val (.long n'), .second, .val (.int (1 : Int32)), .val (.long x), .second, .val (.int (1 : Int32)), .val (.int (1 : Int32))] [(.ref a), (.int (1 : Int32))])) rfl rfl (hb hby d7_19)
  obtain ⟨cl6, Ar6, S6, -⟩ := id A_t
  obtain ⟨T7, X7, e7, st7⟩ := getF X5 hx hZ hown (host := "") (Or.inl (hw _ (List.mem_of_getElem? (i := 11) rfl))) Via.refl e5 F_own_a (g := (mkF m 29 #[.val (.ref a), .val (.long x), .second, .val (.long n'), .second, .val (.int (1 : Int32)), .val (.long x), .second, .val (.int (1 : Int32)), .val (.int (1 : Int32))] [(.ref a), (.int (1 : Int32))])) rfl rfl (hb hby d7_29)
  obtain ⟨T8, X8, e8, st8⟩ := getF X7 hx hZ hown (host := "") (Or.inl (hw _ (List.mem_of_getElem? (i := 18) rfl))) Via.refl e7 F_told_a (g := (mkF m 19 #[.val (.ref a), .val (.long x), .second, .val (.long n'), .second, .val (.int (1 : Int32)), .val (.long x), .second, .val (.int (1 : Int32)), .val (.int (2 : Int32))] [(.ref a), (.int (2 : Int32))])) rfl rfl (hb hby d7_19)
  obtain ⟨cl9, Ar9, S9, -⟩ := id A_t
  obtain ⟨T10, X10, e10, st10⟩ := getF X8 hx hZ hown (host := "") (Or.inl (hw _ (List.mem_of_getElem? (i := 11) rfl))) Via.refl e8 F_own_a (g := (mkF m 29 #[.val (.ref a), .val (.long x), .second, .val (.long n'), .second, .val (.int (1 : Int32)), .val (.long x), .second, .val (.int (1 : Int32)), .val (.int (2 : Int32))] [(.ref a), (.int (2 : Int32))])) rfl rfl (hb hby d7_29)
  obtain ⟨T11, X11, e11, st11⟩ := getF X10 hx hZ hown (host := "") (Or.inl (hw _ (List.mem_of_getElem? (i := 18) rfl))) Via.refl e10 F_told_a (g := (mkF m 45 #[.val (.ref a), .val (.long x), .second, .val (.long n'), .second, .val (.int (1 : Int32)), .val (.long x), .second, .val (.int (1 : Int32)), .val (.int (2 : Int32))] [(.ref a), (.long x)])) rfl rfl (hb hby d7_45)
  obtain ⟨cl12, Ar12, S12, H12⟩ := id A_t
  have hj12 : (2 : Int32).toNatClampNeg = 2 := (by decide)
  have hin12 : ¬ ((2 : Int32) < 0 ∨ cl12.slots.size ≤ ((2 : Int32)).toNatClampNeg) := by rw [S12, hj12]; exact fun q => q.elim (by decide) (Nat.not_le.mpr (by decide : 2 < 4))
  have hat12 : cl12.slots[((2 : Int32)).toNatClampNeg]? = some (.long (f 2)) := by rw [hj12, H12 _ (by decide : 2 < 4)]; exact congrArg some (rfl)
  obtain ⟨_, _, ⟨T13, L13, k13, n13⟩, -, X13, ⟨Lc13, hQ13, l13, y13, z13⟩, st13⟩ := Jvm.LawKit.callS X11 hx (y := (⟨"java/lang/Math", "min", "(JJ)J"⟩ : MethodName)) hown (mvT hZ (hw _ (List.mem_of_getElem? (i := 51) rfl))) (mvT hZ (hw _ (List.mem_of_getElem? (i := 52) rfl))) (mvT hZ (hw _ (List.mem_of_getElem? (i := 53) rfl))) (mvT hZ (hw _ (List.mem_of_getElem? (i := 54) rfl))) (by decide) (backOf (W := 0) (rm9 l Z a0 hw [] x (f 2) h0 n0 Z0 ) hZ (hw _ (List.mem_of_getElem? (i := 54) rfl)) (hw _ (List.mem_of_getElem? (i := 53) rfl)) (by decide) (by decide)) (g := (mkF m 51 #[.val (.ref a), .val (.long x), .second, .val (.long n'), .second, .val (.int (1 : Int32)), .val (.long x), .second, .val (.int (1 : Int32)), .val (.int (2 : Int32))] [(.long (f 2)), (.long x)])) rfl (by rw [hml]; rfl) (argsL := [(.long x), (.long (f 2))]) (rest := []) (lenOf pd_3 rfl) rfl (by show 2 * 0 + _ ≤ _; exact Nat.le_of_eq rfl) (hb hby d7_51) (fun _ _ => ⟨rfl, e11, (by decide : 0 + 0 ≤ _), (by decide : 0 + 0 ≤ _)⟩)
  dsimp only [Pt.U, Pt.locs, Pt.cells, Pt.slots] at X13 l13 y13 z13 st13 hQ13
  subst l13 y13 z13
  obtain ⟨rfl, N13q, e13q⟩ := hQ13
  have N13 := Fr.app N1 N13q
  obtain ⟨T14, X14, e14, st14⟩ := getF X13 hx hZ hown (host := "") (Or.inl (hw _ (List.mem_of_getElem? (i := 18) rfl))) Via.refl e13q F_told_a (g := (mkF m 19 #[.val (.ref a), .val (.long x), .second, .val (.long n'), .second, .val (.int (1 : Int32)), .val (.long (own_min x (f 2))), .second, .val (.int (2 : Int32)), .val (.int (3 : Int32))] [(.ref a), (.int (3 : Int32))])) rfl rfl (hb hby d7_19)
  obtain ⟨cl15, Ar15, S15, -⟩ := id A_t
  obtain ⟨T16, X16, e16, st16⟩ := getF X14 hx hZ hown (host := "") (Or.inl (hw _ (List.mem_of_getElem? (i := 11) rfl))) Via.refl e14 F_own_a (g := (mkF m 29 #[.val (.ref a), .val (.long x), .second, .val (.long n'), .second, .val (.int (1 : Int32)), .val (.long (own_min x (f 2))), .second, .val (.int (2 : Int32)), .val (.int (3 : Int32))] [(.ref a), (.int (3 : Int32))])) rfl rfl (hb hby d7_29)
  obtain ⟨T17, X17, e17, st17⟩ := getF X16 hx hZ hown (host := "") (Or.inl (hw _ (List.mem_of_getElem? (i := 18) rfl))) Via.refl e16 F_told_a (g := (mkF m 45 #[.val (.ref a), .val (.long x), .second, .val (.long n'), .second, .val (.int (1 : Int32)), .val (.long (own_min x (f 2))), .second, .val (.int (2 : Int32)), .val (.int (3 : Int32))] [(.ref a), (.long (own_min x (f 2)))])) rfl rfl (hb hby d7_45)
  obtain ⟨cl18, Ar18, S18, H18⟩ := id A_t
  have hj18 : (3 : Int32).toNatClampNeg = 3 := (by decide)
  have hin18 : ¬ ((3 : Int32) < 0 ∨ cl18.slots.size ≤ ((3 : Int32)).toNatClampNeg) := by rw [S18, hj18]; exact fun q => q.elim (by decide) (Nat.not_le.mpr (by decide : 3 < 4))
  have hat18 : cl18.slots[((3 : Int32)).toNatClampNeg]? = some (.long (f 3)) := by rw [hj18, H18 _ (by decide : 3 < 4)]; exact congrArg some (rfl)
  obtain ⟨_, _, ⟨T19, L19, k19, n19⟩, -, X19, ⟨Lc19, hQ19, l19, y19, z19⟩, st19⟩ := Jvm.LawKit.callS X17 hx (y := (⟨"java/lang/Math", "min", "(JJ)J"⟩ : MethodName)) hown (mvT hZ (hw _ (List.mem_of_getElem? (i := 51) rfl))) (mvT hZ (hw _ (List.mem_of_getElem? (i := 52) rfl))) (mvT hZ (hw _ (List.mem_of_getElem? (i := 53) rfl))) (mvT hZ (hw _ (List.mem_of_getElem? (i := 54) rfl))) (by decide) (backOf (W := 0) (rm9 l Z a0 hw [] (own_min x (f 2)) (f 3) h0 n0 Z0 ) hZ (hw _ (List.mem_of_getElem? (i := 54) rfl)) (hw _ (List.mem_of_getElem? (i := 53) rfl)) (by decide) (by decide)) (g := (mkF m 51 #[.val (.ref a), .val (.long x), .second, .val (.long n'), .second, .val (.int (1 : Int32)), .val (.long (own_min x (f 2))), .second, .val (.int (2 : Int32)), .val (.int (3 : Int32))] [(.long (f 3)), (.long (own_min x (f 2)))])) rfl (by rw [hml]; rfl) (argsL := [(.long (own_min x (f 2))), (.long (f 3))]) (rest := []) (lenOf pd_3 rfl) rfl (by show 2 * 0 + _ ≤ _; exact Nat.le_of_eq rfl) (hb hby d7_51) (fun _ _ => ⟨rfl, e17, (by decide : 0 + 0 ≤ _), (by decide : 0 + 0 ≤ _)⟩)
  dsimp only [Pt.U, Pt.locs, Pt.cells, Pt.slots] at X19 l19 y19 z19 st19 hQ19
  subst l19 y19 z19
  obtain ⟨rfl, N19q, e19q⟩ := hQ19
  have N19 := Fr.app N13 N19q
  obtain ⟨T20, X20, e20, st20⟩ := getF X19 hx hZ hown (host := "") (Or.inl (hw _ (List.mem_of_getElem? (i := 18) rfl))) Via.refl e19q F_told_a (g := (mkF m 19 #[.val (.ref a), .val (.long x), .second, .val (.long n'), .second, .val (.int (1 : Int32)), .val (.long (own_min (own_min x (f 2)) (f 3))), .second, .val (.int (3 : Int32)), .val (.int (4 : Int32))] [(.ref a), (.int (4 : Int32))])) rfl rfl (hb hby d7_19)
  obtain ⟨cl21, Ar21, S21, -⟩ := id A_t
  obtain ⟨T22, X22, e22, st22⟩ := getF X20 hx hZ hown (host := "") (Or.inl (hw _ (List.mem_of_getElem? (i := 13) rfl))) Via.refl e20 F_majority_a (g := (mkF m 68 #[.val (.ref a), .val (.long x), .second, .val (.long n'), .second, .val (.int (1 : Int32)), .val (.long (own_min (own_min x (f 2)) (f 3))), .second, .val (.int (3 : Int32)), .val (.int (4 : Int32))] [(.ref a), (.int (3 : Int32))])) rfl rfl (hb hby d7_68)
  obtain ⟨fs, hr, hrun, hended, hW, hsame⟩ := X22.leave (v := some (.long (own_min (own_min x (f 2)) (f 3)))) (fun h => by rw [Bd.returns] at h; cases h)
  refine ⟨_, _, pre0 _ ?_, hrun, hended, _, _, rfl, ?_, ⟨_, rfl⟩, hW, hsame.mono (by decide) (by decide)⟩
  · show Steps p.tables e below (s₁.setTop (mkF m 0 #[.val (.ref a), .val (.long x), .second, .val (.long n'), .second, .unset, .unset, .unset, .unset, .unset] [])) _
    refine XS.aloadN X0.here hx rfl (hb hby d7_0) rfl rfl ?_
    show Steps p.tables e below (s₁.setTop (mkF m 1 #[.val (.ref a), .val (.long x), .second, .val (.long n'), .second, .unset, .unset, .unset, .unset, .unset] [(.ref a)])) _
    refine XS.lloadN X0.here hx rfl (hb hby d7_1) rfl ?_
    show Steps p.tables e below (s₁.setTop (mkF m 2 #[.val (.ref a), .val (.long x), .second, .val (.long n'), .second, .unset, .unset, .unset, .unset, .unset] [(.long n'), (.ref a)])) _
    refine st1.trans ?_
    show Steps p.tables e below (T1.setTop (mkF m 5 #[.val (.ref a), .val (.long x), .second, .val (.long n'), .second, .unset, .unset, .unset, .unset, .unset] [(.int (1 : Int32))])) _
    refine XS.istore X1.here hx rfl (hb hby d7_5) rfl (l' := #[.val (.ref a), .val (.long x), .second, .val (.long n'), .second, .val (.int (1 : Int32)), .unset, .unset, .unset, .unset]) rfl ?_
    show Steps p.tables e below (T1.setTop (mkF m 7 #[.val (.ref a), .val (.long x), .second, .val (.long n'), .second, .val (.int (1 : Int32)), .unset, .unset, .unset, .unset] [])) _
    refine XS.lloadN X1.here hx rfl (hb hby d7_7) rfl ?_
    show Steps p.tables e below (T1.setTop (mkF m 8 #[.val (.ref a), .val (.long x), .second, .val (.long n'), .second, .val (.int (1 : Int32)), .unset, .unset, .unset, .unset] [(.long x)])) _
    refine XS.lstore X1.here hx rfl (hb hby d7_8) rfl (l' := #[.val (.ref a), .val (.long x), .second, .val (.long n'), .second, .val (.int (1 : Int32)), .val (.long x), .second, .unset, .unset]) rfl ?_
    show Steps p.tables e below (T1.setTop (mkF m 10 #[.val (.ref a), .val (.long x), .second, .val (.long n'), .second, .val (.int (1 : Int32)), .val (.long x), .second, .unset, .unset] [])) _
    refine XS.iconst X1.here hx rfl (hb hby d7_10) ?_
    show Steps p.tables e below (T1.setTop (mkF m 11 #[.val (.ref a), .val (.long x), .second, .val (.long n'), .second, .val (.int (1 : Int32)), .val (.long x), .second, .unset, .unset] [(.int (1 : Int32))])) _
    refine XS.istore X1.here hx rfl (hb hby d7_11) rfl (l' := #[.val (.ref a), .val (.long x), .second, .val (.long n'), .second, .val (.int (1 : Int32)), .val (.long x), .second, .val (.int (1 : Int32)), .unset]) rfl ?_
    show Steps p.tables e below (T1.setTop (mkF m 13 #[.val (.ref a), .val (.long x), .second, .val (.long n'), .second, .val (.int (1 : Int32)), .val (.long x), .second, .val (.int (1 : Int32)), .unset] [])) _
    refine XS.iconst X1.here hx rfl (hb hby d7_13) ?_
    show Steps p.tables e below (T1.setTop (mkF m 14 #[.val (.ref a), .val (.long x), .second, .val (.long n'), .second, .val (.int (1 : Int32)), .val (.long x), .second, .val (.int (1 : Int32)), .unset] [(.int (0 : Int32))])) _
    refine XS.istore X1.here hx rfl (hb hby d7_14) rfl (l' := #[.val (.ref a), .val (.long x), .second, .val (.long n'), .second, .val (.int (1 : Int32)), .val (.long x), .second, .val (.int (1 : Int32)), .val (.int (0 : Int32))]) rfl ?_
    show Steps p.tables e below (T1.setTop (mkF m 16 #[.val (.ref a), .val (.long x), .second, .val (.long n'), .second, .val (.int (1 : Int32)), .val (.long x), .second, .val (.int (1 : Int32)), .val (.int (0 : Int32))] [])) _
    refine XS.iload X1.here hx rfl (hb hby d7_16) rfl ?_
    show Steps p.tables e below (T1.setTop (mkF m 18 #[.val (.ref a), .val (.long x), .second, .val (.long n'), .second, .val (.int (1 : Int32)), .val (.long x), .second, .val (.int (1 : Int32)), .val (.int (0 : Int32))] [(.int (0 : Int32))])) _
    refine XS.aloadN X1.here hx rfl (hb hby d7_18) rfl rfl ?_
    show Steps p.tables e below (T1.setTop (mkF m 19 #[.val (.ref a), .val (.long x), .second, .val (.long n'), .second, .val (.int (1 : Int32)), .val (.long x), .second, .val (.int (1 : Int32)), .val (.int (0 : Int32))] [(.ref a), (.int (0 : Int32))])) _
    refine st2 _ ?_
    show Steps p.tables e below (T2.setTop (mkF m 22 #[.val (.ref a), .val (.long x), .second, .val (.long n'), .second, .val (.int (1 : Int32)), .val (.long x), .second, .val (.int (1 : Int32)), .val (.int (0 : Int32))] [(.ref t), (.int (0 : Int32))])) _
    refine X2.arraylength hx (by rw [e2]; exact Ar3.1) (State.isArrayOf_alike hZ.alike Ar3.2.1) (g := (mkF m 22 #[.val (.ref a), .val (.long x), .second, .val (.long n'), .second, .val (.int (1 : Int32)), .val (.long x), .second, .val (.int (1 : Int32)), .val (.int (0 : Int32))] [(.ref t), (.int (0 : Int32))])) rfl rfl (hb hby d7_22) _ ?_
    rw [S3]
    show Steps p.tables e below (T2.setTop (mkF m 23 #[.val (.ref a), .val (.long x), .second, .val (.long n'), .second, .val (.int (1 : Int32)), .val (.long x), .second, .val (.int (1 : Int32)), .val (.int (0 : Int32))] [(.int (Nat.toInt32 4)), (.int (0 : Int32))])) _
    rw [show ((Nat.toInt32 4) : Int32) = (4 : Int32) from by decide]
    show Steps p.tables e below (T2.setTop (mkF m 23 #[.val (.ref a), .val (.long x), .second, .val (.long n'), .second, .val (.int (1 : Int32)), .val (.long x), .second, .val (.int (1 : Int32)), .val (.int (0 : Int32))] [(.int (4 : Int32)), (.int (0 : Int32))])) _
    refine XS.icmpNo X2.here hx rfl (hb hby d7_23) rfl (tlt (show (0 : Int32) < (4 : Int32) from (by decide))).2.1 ?_
    show Steps p.tables e below (T2.setTop (mkF m 26 #[.val (.ref a), .val (.long x), .second, .val (.long n'), .second, .val (.int (1 : Int32)), .val (.long x), .second, .val (.int (1 : Int32)), .val (.int (0 : Int32))] [])) _
    refine XS.iload X2.here hx rfl (hb hby d7_26) rfl ?_
    show Steps p.tables e below (T2.setTop (mkF m 28 #[.val (.ref a), .val (.long x), .second, .val (.long n'), .second, .val (.int (1 : Int32)), .val (.long x), .second, .val (.int (1 : Int32)), .val (.int (0 : Int32))] [(.int (0 : Int32))])) _
    refine XS.aloadN X2.here hx rfl (hb hby d7_28) rfl rfl ?_
    show Steps p.tables e below (T2.setTop (mkF m 29 #[.val (.ref a), .val (.long x), .second, .val (.long n'), .second, .val (.int (1 : Int32)), .val (.long x), .second, .val (.int (1 : Int32)), .val (.int (0 : Int32))] [(.ref a), (.int (0 : Int32))])) _
    refine st4 _ ?_
    show Steps p.tables e below (T4.setTop (mkF m 32 #[.val (.ref a), .val (.long x), .second, .val (.long n'), .second, .val (.int (1 : Int32)), .val (.long x), .second, .val (.int (1 : Int32)), .val (.int (0 : Int32))] [(.int (0 : Int32)), (.int (0 : Int32))])) _
    refine XS.icmpYes X4.here hx rfl (pc0 := 32) (pc' := 59) rfl (hb hby d7_32) rfl (teq (show (0 : Int32) = (0 : Int32) from rfl)).1 (by decide) (by decide) ?_
    show Steps p.tables e below (T4.setTop (mkF m 59 #[.val (.ref a), .val (.long x), .second, .val (.long n'), .second, .val (.int (1 : Int32)), .val (.long x), .second, .val (.int (1 : Int32)), .val (.int (0 : Int32))] [])) _
    refine XS.iinc X4.here hx rfl (hb hby d7_59) rfl (l' := #[.val (.ref a), .val (.long x), .second, .val (.long n'), .second, .val (.int (1 : Int32)), .val (.long x), .second, .val (.int (1 : Int32)), .val (.int ((0 : Int32) + (1 : Int32)))]) rfl ?_
    show Steps p.tables e below (T4.setTop (mkF m 62 #[.val (.ref a), .val (.long x), .second, .val (.long n'), .second, .val (.int (1 : Int32)), .val (.long x), .second, .val (.int (1 : Int32)), .val (.int ((0 : Int32) + (1 : Int32)))] [])) _
    rw [show (((0 : Int32) + (1 : Int32)) : Int32) = (1 : Int32) from by decide]
    show Steps p.tables e below (T4.setTop (mkF m 62 #[.val (.ref a), .val (.long x), .second, .val (.long n'), .second, .val (.int (1 : Int32)), .val (.long x), .second, .val (.int (1 : Int32)), .val (.int (1 : Int32))] [])) _
    refine XS.goto X4.here hx rfl (pc0 := 62) (pc' := 16) rfl (hb hby d7_62) (by decide) (by decide) ?_
    show Steps p.tables e below (T4.setTop (mkF m 16 #[.val (.ref a), .val (.long x), .second, .val (.long n'), .second, .val (.int (1 : Int32)), .val (.long x), .second, .val (.int (1 : Int32)), .val (.int (1 : Int32))] [])) _
    refine XS.iload X4.here hx rfl (hb hby d7_16) rfl ?_
    show Steps p.tables e below (T4.setTop (mkF m 18 #[.val (.ref a), .val (.long x), .second, .val (.long n'), .second, .val (.int (1 : Int32)), .val (.long x), .second, .val (.int (1 : Int32)), .val (.int (1 : Int32))] [(.int (1 : Int32))])) _
    refine XS.aloadN X4.here hx rfl (hb hby d7_18) rfl rfl ?_
    show Steps p.tables e below (T4.setTop (mkF m 19 #[.val (.ref a), .val (.long x), .second, .val (.long n'), .second, .val (.int (1 : Int32)), .val (.long x), .second, .val (.int (1 : Int32)), .val (.int (1 : Int32))] [(.ref a), (.int (1 : Int32))])) _
    refine st5 _ ?_
    show Steps p.tables e below (T5.setTop (mkF m 22 #[.val (.ref a), .val (.long x), .second, .val (.long n'), .second, .val (.int (1 : Int32)), .val (.long x), .second, .val (.int (1 : Int32)), .val (.int (1 : Int32))] [(.ref t), (.int (1 : Int32))])) _
    refine X5.arraylength hx (by rw [e5]; exact Ar6.1) (State.isArrayOf_alike hZ.alike Ar6.2.1) (g := (mkF m 22 #[.val (.ref a), .val (.long x), .second, .val (.long n'), .second, .val (.int (1 : Int32)), .val (.long x), .second, .val (.int (1 : Int32)), .val (.int (1 : Int32))] [(.ref t), (.int (1 : Int32))])) rfl rfl (hb hby d7_22) _ ?_
    rw [S6]
    show Steps p.tables e below (T5.setTop (mkF m 23 #[.val (.ref a), .val (.long x), .second, .val (.long n'), .second, .val (.int (1 : Int32)), .val (.long x), .second, .val (.int (1 : Int32)), .val (.int (1 : Int32))] [(.int (Nat.toInt32 4)), (.int (1 : Int32))])) _
    rw [show ((Nat.toInt32 4) : Int32) = (4 : Int32) from by decide]
    show Steps p.tables e below (T5.setTop (mkF m 23 #[.val (.ref a), .val (.long x), .second, .val (.long n'), .second, .val (.int (1 : Int32)), .val (.long x), .second, .val (.int (1 : Int32)), .val (.int (1 : Int32))] [(.int (4 : Int32)), (.int (1 : Int32))])) _
    refine XS.icmpNo X5.here hx rfl (hb hby d7_23) rfl (tlt (show (1 : Int32) < (4 : Int32) from (by decide))).2.1 ?_
    show Steps p.tables e below (T5.setTop (mkF m 26 #[.val (.ref a), .val (.long x), .second, .val (.long n'), .second, .val (.int (1 : Int32)), .val (.long x), .second, .val (.int (1 : Int32)), .val (.int (1 : Int32))] [])) _
    refine XS.iload X5.here hx rfl (hb hby d7_26) rfl ?_
    show Steps p.tables e below (T5.setTop (mkF m 28 #[.val (.ref a), .val (.long x), .second, .val (.long n'), .second, .val (.int (1 : Int32)), .val (.long x), .second, .val (.int (1 : Int32)), .val (.int (1 : Int32))] [(.int (1 : Int32))])) _
    refine XS.aloadN X5.here hx rfl (hb hby d7_28) rfl rfl ?_
    show Steps p.tables e below (T5.setTop (mkF m 29 #[.val (.ref a), .val (.long x), .second, .val (.long n'), .second, .val (.int (1 : Int32)), .val (.long x), .second, .val (.int (1 : Int32)), .val (.int (1 : Int32))] [(.ref a), (.int (1 : Int32))])) _
    refine st7 _ ?_
    show Steps p.tables e below (T7.setTop (mkF m 32 #[.val (.ref a), .val (.long x), .second, .val (.long n'), .second, .val (.int (1 : Int32)), .val (.long x), .second, .val (.int (1 : Int32)), .val (.int (1 : Int32))] [(.int (0 : Int32)), (.int (1 : Int32))])) _
    refine XS.icmpNo X7.here hx rfl (hb hby d7_32) rfl (feq (show ¬ ((1 : Int32) = (0 : Int32)) from (by decide))).1 ?_
    show Steps p.tables e below (T7.setTop (mkF m 35 #[.val (.ref a), .val (.long x), .second, .val (.long n'), .second, .val (.int (1 : Int32)), .val (.long x), .second, .val (.int (1 : Int32)), .val (.int (1 : Int32))] [])) _
    refine XS.iload X7.here hx rfl (hb hby d7_35) rfl ?_
    show Steps p.tables e below (T7.setTop (mkF m 37 #[.val (.ref a), .val (.long x), .second, .val (.long n'), .second, .val (.int (1 : Int32)), .val (.long x), .second, .val (.int (1 : Int32)), .val (.int (1 : Int32))] [(.int (1 : Int32))])) _
    refine XS.iload X7.here hx rfl (hb hby d7_37) rfl ?_
    show Steps p.tables e below (T7.setTop (mkF m 39 #[.val (.ref a), .val (.long x), .second, .val (.long n'), .second, .val (.int (1 : Int32)), .val (.long x), .second, .val (.int (1 : Int32)), .val (.int (1 : Int32))] [(.int (1 : Int32)), (.int (1 : Int32))])) _
    refine XS.icmpYes X7.here hx rfl (pc0 := 39) (pc' := 59) rfl (hb hby d7_39) rfl (teq (show (1 : Int32) = (1 : Int32) from rfl)).1 (by decide) (by decide) ?_
    show Steps p.tables e below (T7.setTop (mkF m 59 #[.val (.ref a), .val (.long x), .second, .val (.long n'), .second, .val (.int (1 : Int32)), .val (.long x), .second, .val (.int (1 : Int32)), .val (.int (1 : Int32))] [])) _
    refine XS.iinc X7.here hx rfl (hb hby d7_59) rfl (l' := #[.val (.ref a), .val (.long x), .second, .val (.long n'), .second, .val (.int (1 : Int32)), .val (.long x), .second, .val (.int (1 : Int32)), .val (.int ((1 : Int32) + (1 : Int32)))]) rfl ?_
    show Steps p.tables e below (T7.setTop (mkF m 62 #[.val (.ref a), .val (.long x), .second, .val (.long n'), .second, .val (.int (1 : Int32)), .val (.long x), .second, .val (.int (1 : Int32)), .val (.int ((1 : Int32) + (1 : Int32)))] [])) _
    rw [show (((1 : Int32) + (1 : Int32)) : Int32) = (2 : Int32) from by decide]
    show Steps p.tables e below (T7.setTop (mkF m 62 #[.val (.ref a), .val (.long x), .second, .val (.long n'), .second, .val (.int (1 : Int32)), .val (.long x), .second, .val (.int (1 : Int32)), .val (.int (2 : Int32))] [])) _
    refine XS.goto X7.here hx rfl (pc0 := 62) (pc' := 16) rfl (hb hby d7_62) (by decide) (by decide) ?_
    show Steps p.tables e below (T7.setTop (mkF m 16 #[.val (.ref a), .val (.long x), .second, .val (.long n'), .second, .val (.int (1 : Int32)), .val (.long x), .second, .val (.int (1 : Int32)), .val (.int (2 : Int32))] [])) _
    refine XS.iload X7.here hx rfl (hb hby d7_16) rfl ?_
    show Steps p.tables e below (T7.setTop (mkF m 18 #[.val (.ref a), .val (.long x), .second, .val (.long n'), .second, .val (.int (1 : Int32)), .val (.long x), .second, .val (.int (1 : Int32)), .val (.int (2 : Int32))] [(.int (2 : Int32))])) _
    refine XS.aloadN X7.here hx rfl (hb hby d7_18) rfl rfl ?_
    show Steps p.tables e below (T7.setTop (mkF m 19 #[.val (.ref a), .val (.long x), .second, .val (.long n'), .second, .val (.int (1 : Int32)), .val (.long x), .second, .val (.int (1 : Int32)), .val (.int (2 : Int32))] [(.ref a), (.int (2 : Int32))])) _
    refine st8 _ ?_
    show Steps p.tables e below (T8.setTop (mkF m 22 #[.val (.ref a), .val (.long x), .second, .val (.long n'), .second, .val (.int (1 : Int32)), .val (.long x), .second, .val (.int (1 : Int32)), .val (.int (2 : Int32))] [(.ref t), (.int (2 : Int32))])) _
    refine X8.arraylength hx (by rw [e8]; exact Ar9.1) (State.isArrayOf_alike hZ.alike Ar9.2.1) (g := (mkF m 22 #[.val (.ref a), .val (.long x), .second, .val (.long n'), .second, .val (.int (1 : Int32)), .val (.long x), .second, .val (.int (1 : Int32)), .val (.int (2 : Int32))] [(.ref t), (.int (2 : Int32))])) rfl rfl (hb hby d7_22) _ ?_
    rw [S9]
    show Steps p.tables e below (T8.setTop (mkF m 23 #[.val (.ref a), .val (.long x), .second, .val (.long n'), .second, .val (.int (1 : Int32)), .val (.long x), .second, .val (.int (1 : Int32)), .val (.int (2 : Int32))] [(.int (Nat.toInt32 4)), (.int (2 : Int32))])) _
    rw [show ((Nat.toInt32 4) : Int32) = (4 : Int32) from by decide]
    show Steps p.tables e below (T8.setTop (mkF m 23 #[.val (.ref a), .val (.long x), .second, .val (.long n'), .second, .val (.int (1 : Int32)), .val (.long x), .second, .val (.int (1 : Int32)), .val (.int (2 : Int32))] [(.int (4 : Int32)), (.int (2 : Int32))])) _
    refine XS.icmpNo X8.here hx rfl (hb hby d7_23) rfl (tlt (show (2 : Int32) < (4 : Int32) from (by decide))).2.1 ?_
    show Steps p.tables e below (T8.setTop (mkF m 26 #[.val (.ref a), .val (.long x), .second, .val (.long n'), .second, .val (.int (1 : Int32)), .val (.long x), .second, .val (.int (1 : Int32)), .val (.int (2 : Int32))] [])) _
    refine XS.iload X8.here hx rfl (hb hby d7_26) rfl ?_
    show Steps p.tables e below (T8.setTop (mkF m 28 #[.val (.ref a), .val (.long x), .second, .val (.long n'), .second, .val (.int (1 : Int32)), .val (.long x), .second, .val (.int (1 : Int32)), .val (.int (2 : Int32))] [(.int (2 : Int32))])) _
    refine XS.aloadN X8.here hx rfl (hb hby d7_28) rfl rfl ?_
    show Steps p.tables e below (T8.setTop (mkF m 29 #[.val (.ref a), .val (.long x), .second, .val (.long n'), .second, .val (.int (1 : Int32)), .val (.long x), .second, .val (.int (1 : Int32)), .val (.int (2 : Int32))] [(.ref a), (.int (2 : Int32))])) _
    refine st10 _ ?_
    show Steps p.tables e below (T10.setTop (mkF m 32 #[.val (.ref a), .val (.long x), .second, .val (.long n'), .second, .val (.int (1 : Int32)), .val (.long x), .second, .val (.int (1 : Int32)), .val (.int (2 : Int32))] [(.int (0 : Int32)), (.int (2 : Int32))])) _
    refine XS.icmpNo X10.here hx rfl (hb hby d7_32) rfl (feq (show ¬ ((2 : Int32) = (0 : Int32)) from (by decide))).1 ?_
    show Steps p.tables e below (T10.setTop (mkF m 35 #[.val (.ref a), .val (.long x), .second, .val (.long n'), .second, .val (.int (1 : Int32)), .val (.long x), .second, .val (.int (1 : Int32)), .val (.int (2 : Int32))] [])) _
    refine XS.iload X10.here hx rfl (hb hby d7_35) rfl ?_
    show Steps p.tables e below (T10.setTop (mkF m 37 #[.val (.ref a), .val (.long x), .second, .val (.long n'), .second, .val (.int (1 : Int32)), .val (.long x), .second, .val (.int (1 : Int32)), .val (.int (2 : Int32))] [(.int (2 : Int32))])) _
    refine XS.iload X10.here hx rfl (hb hby d7_37) rfl ?_
    show Steps p.tables e below (T10.setTop (mkF m 39 #[.val (.ref a), .val (.long x), .second, .val (.long n'), .second, .val (.int (1 : Int32)), .val (.long x), .second, .val (.int (1 : Int32)), .val (.int (2 : Int32))] [(.int (1 : Int32)), (.int (2 : Int32))])) _
    refine XS.icmpNo X10.here hx rfl (hb hby d7_39) rfl (feq (show ¬ ((2 : Int32) = (1 : Int32)) from (by decide))).1 ?_
    show Steps p.tables e below (T10.setTop (mkF m 42 #[.val (.ref a), .val (.long x), .second, .val (.long n'), .second, .val (.int (1 : Int32)), .val (.long x), .second, .val (.int (1 : Int32)), .val (.int (2 : Int32))] [])) _
    refine XS.lload X10.here hx rfl (hb hby d7_42) rfl ?_
    show Steps p.tables e below (T10.setTop (mkF m 44 #[.val (.ref a), .val (.long x), .second, .val (.long n'), .second, .val (.int (1 : Int32)), .val (.long x), .second, .val (.int (1 : Int32)), .val (.int (2 : Int32))] [(.long x)])) _
    refine XS.aloadN X10.here hx rfl (hb hby d7_44) rfl rfl ?_
    show Steps p.tables e below (T10.setTop (mkF m 45 #[.val (.ref a), .val (.long x), .second, .val (.long n'), .second, .val (.int (1 : Int32)), .val (.long x), .second, .val (.int (1 : Int32)), .val (.int (2 : Int32))] [(.ref a), (.long x)])) _
    refine st11 _ ?_
    show Steps p.tables e below (T11.setTop (mkF m 48 #[.val (.ref a), .val (.long x), .second, .val (.long n'), .second, .val (.int (1 : Int32)), .val (.long x), .second, .val (.int (1 : Int32)), .val (.int (2 : Int32))] [(.ref t), (.long x)])) _
    refine XS.iload X11.here hx rfl (hb hby d7_48) rfl ?_
    show Steps p.tables e below (T11.setTop (mkF m 50 #[.val (.ref a), .val (.long x), .second, .val (.long n'), .second, .val (.int (1 : Int32)), .val (.long x), .second, .val (.int (1 : Int32)), .val (.int (2 : Int32))] [(.int (2 : Int32)), (.ref t), (.long x)])) _
    refine X11.laload hx (j := (2 : Int32)) (v := (.long (f 2))) (by rw [e11]; exact Ar12.1) (State.isArrayOf_alike hZ.alike Ar12.2.1) Ar12.2.2 hin12 hat12 (g := (mkF m 50 #[.val (.ref a), .val (.long x), .second, .val (.long n'), .second, .val (.int (1 : Int32)), .val (.long x), .second, .val (.int (1 : Int32)), .val (.int (2 : Int32))] [(.int (2 : Int32)), (.ref t), (.long x)])) rfl rfl (hb hby d7_50) _ ?_
    show Steps p.tables e below (T11.setTop (mkF m 51 #[.val (.ref a), .val (.long x), .second, .val (.long n'), .second, .val (.int (1 : Int32)), .val (.long x), .second, .val (.int (1 : Int32)), .val (.int (2 : Int32))] [(.long (f 2)), (.long x)])) _
    refine st13 _ ?_
    show Steps p.tables e below (T13.setTop (mkF m 54 #[.val (.ref a), .val (.long x), .second, .val (.long n'), .second, .val (.int (1 : Int32)), .val (.long x), .second, .val (.int (1 : Int32)), .val (.int (2 : Int32))] [(.long (own_min x (f 2)))])) _
    refine XS.lstore X13.here hx rfl (hb hby d7_54) rfl (l' := #[.val (.ref a), .val (.long x), .second, .val (.long n'), .second, .val (.int (1 : Int32)), .val (.long (own_min x (f 2))), .second, .val (.int (1 : Int32)), .val (.int (2 : Int32))]) rfl ?_
    show Steps p.tables e below (T13.setTop (mkF m 56 #[.val (.ref a), .val (.long x), .second, .val (.long n'), .second, .val (.int (1 : Int32)), .val (.long (own_min x (f 2))), .second, .val (.int (1 : Int32)), .val (.int (2 : Int32))] [])) _
    refine XS.iinc X13.here hx rfl (hb hby d7_56) rfl (l' := #[.val (.ref a), .val (.long x), .second, .val (.long n'), .second, .val (.int (1 : Int32)), .val (.long (own_min x (f 2))), .second, .val (.int ((1 : Int32) + (1 : Int32))), .val (.int (2 : Int32))]) rfl ?_
    show Steps p.tables e below (T13.setTop (mkF m 59 #[.val (.ref a), .val (.long x), .second, .val (.long n'), .second, .val (.int (1 : Int32)), .val (.long (own_min x (f 2))), .second, .val (.int ((1 : Int32) + (1 : Int32))), .val (.int (2 : Int32))] [])) _
    rw [show (((1 : Int32) + (1 : Int32)) : Int32) = (2 : Int32) from by decide]
    show Steps p.tables e below (T13.setTop (mkF m 59 #[.val (.ref a), .val (.long x), .second, .val (.long n'), .second, .val (.int (1 : Int32)), .val (.long (own_min x (f 2))), .second, .val (.int (2 : Int32)), .val (.int (2 : Int32))] [])) _
    refine XS.iinc X13.here hx rfl (hb hby d7_59) rfl (l' := #[.val (.ref a), .val (.long x), .second, .val (.long n'), .second, .val (.int (1 : Int32)), .val (.long (own_min x (f 2))), .second, .val (.int (2 : Int32)), .val (.int ((2 : Int32) + (1 : Int32)))]) rfl ?_
    show Steps p.tables e below (T13.setTop (mkF m 62 #[.val (.ref a), .val (.long x), .second, .val (.long n'), .second, .val (.int (1 : Int32)), .val (.long (own_min x (f 2))), .second, .val (.int (2 : Int32)), .val (.int ((2 : Int32) + (1 : Int32)))] [])) _
    rw [show (((2 : Int32) + (1 : Int32)) : Int32) = (3 : Int32) from by decide]
    show Steps p.tables e below (T13.setTop (mkF m 62 #[.val (.ref a), .val (.long x), .second, .val (.long n'), .second, .val (.int (1 : Int32)), .val (.long (own_min x (f 2))), .second, .val (.int (2 : Int32)), .val (.int (3 : Int32))] [])) _
    refine XS.goto X13.here hx rfl (pc0 := 62) (pc' := 16) rfl (hb hby d7_62) (by decide) (by decide) ?_
    show Steps p.tables e below (T13.setTop (mkF m 16 #[.val (.ref a), .val (.long x), .second, .val (.long n'), .second, .val (.int (1 : Int32)), .val (.long (own_min x (f 2))), .second, .val (.int (2 : Int32)), .val (.int (3 : Int32))] [])) _
    refine XS.iload X13.here hx rfl (hb hby d7_16) rfl ?_
    show Steps p.tables e below (T13.setTop (mkF m 18 #[.val (.ref a), .val (.long x), .second, .val (.long n'), .second, .val (.int (1 : Int32)), .val (.long (own_min x (f 2))), .second, .val (.int (2 : Int32)), .val (.int (3 : Int32))] [(.int (3 : Int32))])) _
    refine XS.aloadN X13.here hx rfl (hb hby d7_18) rfl rfl ?_
    show Steps p.tables e below (T13.setTop (mkF m 19 #[.val (.ref a), .val (.long x), .second, .val (.long n'), .second, .val (.int (1 : Int32)), .val (.long (own_min x (f 2))), .second, .val (.int (2 : Int32)), .val (.int (3 : Int32))] [(.ref a), (.int (3 : Int32))])) _
    refine st14 _ ?_
    show Steps p.tables e below (T14.setTop (mkF m 22 #[.val (.ref a), .val (.long x), .second, .val (.long n'), .second, .val (.int (1 : Int32)), .val (.long (own_min x (f 2))), .second, .val (.int (2 : Int32)), .val (.int (3 : Int32))] [(.ref t), (.int (3 : Int32))])) _
    refine X14.arraylength hx (by rw [e14]; exact Ar15.1) (State.isArrayOf_alike hZ.alike Ar15.2.1) (g := (mkF m 22 #[.val (.ref a), .val (.long x), .second, .val (.long n'), .second, .val (.int (1 : Int32)), .val (.long (own_min x (f 2))), .second, .val (.int (2 : Int32)), .val (.int (3 : Int32))] [(.ref t), (.int (3 : Int32))])) rfl rfl (hb hby d7_22) _ ?_
    rw [S15]
    show Steps p.tables e below (T14.setTop (mkF m 23 #[.val (.ref a), .val (.long x), .second, .val (.long n'), .second, .val (.int (1 : Int32)), .val (.long (own_min x (f 2))), .second, .val (.int (2 : Int32)), .val (.int (3 : Int32))] [(.int (Nat.toInt32 4)), (.int (3 : Int32))])) _
    rw [show ((Nat.toInt32 4) : Int32) = (4 : Int32) from by decide]
    show Steps p.tables e below (T14.setTop (mkF m 23 #[.val (.ref a), .val (.long x), .second, .val (.long n'), .second, .val (.int (1 : Int32)), .val (.long (own_min x (f 2))), .second, .val (.int (2 : Int32)), .val (.int (3 : Int32))] [(.int (4 : Int32)), (.int (3 : Int32))])) _
    refine XS.icmpNo X14.here hx rfl (hb hby d7_23) rfl (tlt (show (3 : Int32) < (4 : Int32) from (by decide))).2.1 ?_
    show Steps p.tables e below (T14.setTop (mkF m 26 #[.val (.ref a), .val (.long x), .second, .val (.long n'), .second, .val (.int (1 : Int32)), .val (.long (own_min x (f 2))), .second, .val (.int (2 : Int32)), .val (.int (3 : Int32))] [])) _
    refine XS.iload X14.here hx rfl (hb hby d7_26) rfl ?_
    show Steps p.tables e below (T14.setTop (mkF m 28 #[.val (.ref a), .val (.long x), .second, .val (.long n'), .second, .val (.int (1 : Int32)), .val (.long (own_min x (f 2))), .second, .val (.int (2 : Int32)), .val (.int (3 : Int32))] [(.int (3 : Int32))])) _
    refine XS.aloadN X14.here hx rfl (hb hby d7_28) rfl rfl ?_
    show Steps p.tables e below (T14.setTop (mkF m 29 #[.val (.ref a), .val (.long x), .second, .val (.long n'), .second, .val (.int (1 : Int32)), .val (.long (own_min x (f 2))), .second, .val (.int (2 : Int32)), .val (.int (3 : Int32))] [(.ref a), (.int (3 : Int32))])) _
    refine st16 _ ?_
    show Steps p.tables e below (T16.setTop (mkF m 32 #[.val (.ref a), .val (.long x), .second, .val (.long n'), .second, .val (.int (1 : Int32)), .val (.long (own_min x (f 2))), .second, .val (.int (2 : Int32)), .val (.int (3 : Int32))] [(.int (0 : Int32)), (.int (3 : Int32))])) _
    refine XS.icmpNo X16.here hx rfl (hb hby d7_32) rfl (feq (show ¬ ((3 : Int32) = (0 : Int32)) from (by decide))).1 ?_
    show Steps p.tables e below (T16.setTop (mkF m 35 #[.val (.ref a), .val (.long x), .second, .val (.long n'), .second, .val (.int (1 : Int32)), .val (.long (own_min x (f 2))), .second, .val (.int (2 : Int32)), .val (.int (3 : Int32))] [])) _
    refine XS.iload X16.here hx rfl (hb hby d7_35) rfl ?_
    show Steps p.tables e below (T16.setTop (mkF m 37 #[.val (.ref a), .val (.long x), .second, .val (.long n'), .second, .val (.int (1 : Int32)), .val (.long (own_min x (f 2))), .second, .val (.int (2 : Int32)), .val (.int (3 : Int32))] [(.int (3 : Int32))])) _
    refine XS.iload X16.here hx rfl (hb hby d7_37) rfl ?_
    show Steps p.tables e below (T16.setTop (mkF m 39 #[.val (.ref a), .val (.long x), .second, .val (.long n'), .second, .val (.int (1 : Int32)), .val (.long (own_min x (f 2))), .second, .val (.int (2 : Int32)), .val (.int (3 : Int32))] [(.int (1 : Int32)), (.int (3 : Int32))])) _
    refine XS.icmpNo X16.here hx rfl (hb hby d7_39) rfl (feq (show ¬ ((3 : Int32) = (1 : Int32)) from (by decide))).1 ?_
    show Steps p.tables e below (T16.setTop (mkF m 42 #[.val (.ref a), .val (.long x), .second, .val (.long n'), .second, .val (.int (1 : Int32)), .val (.long (own_min x (f 2))), .second, .val (.int (2 : Int32)), .val (.int (3 : Int32))] [])) _
    refine XS.lload X16.here hx rfl (hb hby d7_42) rfl ?_
    show Steps p.tables e below (T16.setTop (mkF m 44 #[.val (.ref a), .val (.long x), .second, .val (.long n'), .second, .val (.int (1 : Int32)), .val (.long (own_min x (f 2))), .second, .val (.int (2 : Int32)), .val (.int (3 : Int32))] [(.long (own_min x (f 2)))])) _
    refine XS.aloadN X16.here hx rfl (hb hby d7_44) rfl rfl ?_
    show Steps p.tables e below (T16.setTop (mkF m 45 #[.val (.ref a), .val (.long x), .second, .val (.long n'), .second, .val (.int (1 : Int32)), .val (.long (own_min x (f 2))), .second, .val (.int (2 : Int32)), .val (.int (3 : Int32))] [(.ref a), (.long (own_min x (f 2)))])) _
    refine st17 _ ?_
    show Steps p.tables e below (T17.setTop (mkF m 48 #[.val (.ref a), .val (.long x), .second, .val (.long n'), .second, .val (.int (1 : Int32)), .val (.long (own_min x (f 2))), .second, .val (.int (2 : Int32)), .val (.int (3 : Int32))] [(.ref t), (.long (own_min x (f 2)))])) _
    refine XS.iload X17.here hx rfl (hb hby d7_48) rfl ?_
    show Steps p.tables e below (T17.setTop (mkF m 50 #[.val (.ref a), .val (.long x), .second, .val (.long n'), .second, .val (.int (1 : Int32)), .val (.long (own_min x (f 2))), .second, .val (.int (2 : Int32)), .val (.int (3 : Int32))] [(.int (3 : Int32)), (.ref t), (.long (own_min x (f 2)))])) _
    refine X17.laload hx (j := (3 : Int32)) (v := (.long (f 3))) (by rw [e17]; exact Ar18.1) (State.isArrayOf_alike hZ.alike Ar18.2.1) Ar18.2.2 hin18 hat18 (g := (mkF m 50 #[.val (.ref a), .val (.long x), .second, .val (.long n'), .second, .val (.int (1 : Int32)), .val (.long (own_min x (f 2))), .second, .val (.int (2 : Int32)), .val (.int (3 : Int32))] [(.int (3 : Int32)), (.ref t), (.long (own_min x (f 2)))])) rfl rfl (hb hby d7_50) _ ?_
    show Steps p.tables e below (T17.setTop (mkF m 51 #[.val (.ref a), .val (.long x), .second, .val (.long n'), .second, .val (.int (1 : Int32)), .val (.long (own_min x (f 2))), .second, .val (.int (2 : Int32)), .val (.int (3 : Int32))] [(.long (f 3)), (.long (own_min x (f 2)))])) _
    refine st19 _ ?_
    show Steps p.tables e below (T19.setTop (mkF m 54 #[.val (.ref a), .val (.long x), .second, .val (.long n'), .second, .val (.int (1 : Int32)), .val (.long (own_min x (f 2))), .second, .val (.int (2 : Int32)), .val (.int (3 : Int32))] [(.long (own_min (own_min x (f 2)) (f 3)))])) _
    refine XS.lstore X19.here hx rfl (hb hby d7_54) rfl (l' := #[.val (.ref a), .val (.long x), .second, .val (.long n'), .second, .val (.int (1 : Int32)), .val (.long (own_min (own_min x (f 2)) (f 3))), .second, .val (.int (2 : Int32)), .val (.int (3 : Int32))]) rfl ?_
    show Steps p.tables e below (T19.setTop (mkF m 56 #[.val (.ref a), .val (.long x), .second, .val (.long n'), .second, .val (.int (1 : Int32)), .val (.long (own_min (own_min x (f 2)) (f 3))), .second, .val (.int (2 : Int32)), .val (.int (3 : Int32))] [])) _
    refine XS.iinc X19.here hx rfl (hb hby d7_56) rfl (l' := #[.val (.ref a), .val (.long x), .second, .val (.long n'), .second, .val (.int (1 : Int32)), .val (.long (own_min (own_min x (f 2)) (f 3))), .second, .val (.int ((2 : Int32) + (1 : Int32))), .val (.int (3 : Int32))]) rfl ?_
    show Steps p.tables e below (T19.setTop (mkF m 59 #[.val (.ref a), .val (.long x), .second, .val (.long n'), .second, .val (.int (1 : Int32)), .val (.long (own_min (own_min x (f 2)) (f 3))), .second, .val (.int ((2 : Int32) + (1 : Int32))), .val (.int (3 : Int32))] [])) _
    rw [show (((2 : Int32) + (1 : Int32)) : Int32) = (3 : Int32) from by decide]
    show Steps p.tables e below (T19.setTop (mkF m 59 #[.val (.ref a), .val (.long x), .second, .val (.long n'), .second, .val (.int (1 : Int32)), .val (.long (own_min (own_min x (f 2)) (f 3))), .second, .val (.int (3 : Int32)), .val (.int (3 : Int32))] [])) _
    refine XS.iinc X19.here hx rfl (hb hby d7_59) rfl (l' := #[.val (.ref a), .val (.long x), .second, .val (.long n'), .second, .val (.int (1 : Int32)), .val (.long (own_min (own_min x (f 2)) (f 3))), .second, .val (.int (3 : Int32)), .val (.int ((3 : Int32) + (1 : Int32)))]) rfl ?_
    show Steps p.tables e below (T19.setTop (mkF m 62 #[.val (.ref a), .val (.long x), .second, .val (.long n'), .second, .val (.int (1 : Int32)), .val (.long (own_min (own_min x (f 2)) (f 3))), .second, .val (.int (3 : Int32)), .val (.int ((3 : Int32) + (1 : Int32)))] [])) _
    rw [show (((3 : Int32) + (1 : Int32)) : Int32) = (4 : Int32) from by decide]
    show Steps p.tables e below (T19.setTop (mkF m 62 #[.val (.ref a), .val (.long x), .second, .val (.long n'), .second, .val (.int (1 : Int32)), .val (.long (own_min (own_min x (f 2)) (f 3))), .second, .val (.int (3 : Int32)), .val (.int (4 : Int32))] [])) _
    refine XS.goto X19.here hx rfl (pc0 := 62) (pc' := 16) rfl (hb hby d7_62) (by decide) (by decide) ?_
    show Steps p.tables e below (T19.setTop (mkF m 16 #[.val (.ref a), .val (.long x), .second, .val (.long n'), .second, .val (.int (1 : Int32)), .val (.long (own_min (own_min x (f 2)) (f 3))), .second, .val (.int (3 : Int32)), .val (.int (4 : Int32))] [])) _
    refine XS.iload X19.here hx rfl (hb hby d7_16) rfl ?_
    show Steps p.tables e below (T19.setTop (mkF m 18 #[.val (.ref a), .val (.long x), .second, .val (.long n'), .second, .val (.int (1 : Int32)), .val (.long (own_min (own_min x (f 2)) (f 3))), .second, .val (.int (3 : Int32)), .val (.int (4 : Int32))] [(.int (4 : Int32))])) _
    refine XS.aloadN X19.here hx rfl (hb hby d7_18) rfl rfl ?_
    show Steps p.tables e below (T19.setTop (mkF m 19 #[.val (.ref a), .val (.long x), .second, .val (.long n'), .second, .val (.int (1 : Int32)), .val (.long (own_min (own_min x (f 2)) (f 3))), .second, .val (.int (3 : Int32)), .val (.int (4 : Int32))] [(.ref a), (.int (4 : Int32))])) _
    refine st20 _ ?_
    show Steps p.tables e below (T20.setTop (mkF m 22 #[.val (.ref a), .val (.long x), .second, .val (.long n'), .second, .val (.int (1 : Int32)), .val (.long (own_min (own_min x (f 2)) (f 3))), .second, .val (.int (3 : Int32)), .val (.int (4 : Int32))] [(.ref t), (.int (4 : Int32))])) _
    refine X20.arraylength hx (by rw [e20]; exact Ar21.1) (State.isArrayOf_alike hZ.alike Ar21.2.1) (g := (mkF m 22 #[.val (.ref a), .val (.long x), .second, .val (.long n'), .second, .val (.int (1 : Int32)), .val (.long (own_min (own_min x (f 2)) (f 3))), .second, .val (.int (3 : Int32)), .val (.int (4 : Int32))] [(.ref t), (.int (4 : Int32))])) rfl rfl (hb hby d7_22) _ ?_
    rw [S21]
    show Steps p.tables e below (T20.setTop (mkF m 23 #[.val (.ref a), .val (.long x), .second, .val (.long n'), .second, .val (.int (1 : Int32)), .val (.long (own_min (own_min x (f 2)) (f 3))), .second, .val (.int (3 : Int32)), .val (.int (4 : Int32))] [(.int (Nat.toInt32 4)), (.int (4 : Int32))])) _
    rw [show ((Nat.toInt32 4) : Int32) = (4 : Int32) from by decide]
    show Steps p.tables e below (T20.setTop (mkF m 23 #[.val (.ref a), .val (.long x), .second, .val (.long n'), .second, .val (.int (1 : Int32)), .val (.long (own_min (own_min x (f 2)) (f 3))), .second, .val (.int (3 : Int32)), .val (.int (4 : Int32))] [(.int (4 : Int32)), (.int (4 : Int32))])) _
    refine XS.icmpYes X20.here hx rfl (pc0 := 23) (pc' := 65) rfl (hb hby d7_23) rfl (flt (show ¬ ((4 : Int32) < (4 : Int32)) from (by decide))).2.1 (by decide) (by decide) ?_
    show Steps p.tables e below (T20.setTop (mkF m 65 #[.val (.ref a), .val (.long x), .second, .val (.long n'), .second, .val (.int (1 : Int32)), .val (.long (own_min (own_min x (f 2)) (f 3))), .second, .val (.int (3 : Int32)), .val (.int (4 : Int32))] [])) _
    refine XS.iload X20.here hx rfl (hb hby d7_65) rfl ?_
    show Steps p.tables e below (T20.setTop (mkF m 67 #[.val (.ref a), .val (.long x), .second, .val (.long n'), .second, .val (.int (1 : Int32)), .val (.long (own_min (own_min x (f 2)) (f 3))), .second, .val (.int (3 : Int32)), .val (.int (4 : Int32))] [(.int (3 : Int32))])) _
    refine XS.aloadN X20.here hx rfl (hb hby d7_67) rfl rfl ?_
    show Steps p.tables e below (T20.setTop (mkF m 68 #[.val (.ref a), .val (.long x), .second, .val (.long n'), .second, .val (.int (1 : Int32)), .val (.long (own_min (own_min x (f 2)) (f 3))), .second, .val (.int (3 : Int32)), .val (.int (4 : Int32))] [(.ref a), (.int (3 : Int32))])) _
    refine st22 _ ?_
    show Steps p.tables e below (T22.setTop (mkF m 71 #[.val (.ref a), .val (.long x), .second, .val (.long n'), .second, .val (.int (1 : Int32)), .val (.long (own_min (own_min x (f 2)) (f 3))), .second, .val (.int (3 : Int32)), .val (.int (4 : Int32))] [(.int (3 : Int32)), (.int (3 : Int32))])) _
    refine XS.icmpNo X22.here hx rfl (hb hby d7_71) rfl (flt (show ¬ ((3 : Int32) < (3 : Int32)) from (by decide))).1 ?_
    show Steps p.tables e below (T22.setTop (mkF m 74 #[.val (.ref a), .val (.long x), .second, .val (.long n'), .second, .val (.int (1 : Int32)), .val (.long (own_min (own_min x (f 2)) (f 3))), .second, .val (.int (3 : Int32)), .val (.int (4 : Int32))] [])) _
    refine XS.lload X22.here hx rfl (hb hby d7_74) rfl ?_
    show Steps p.tables e below (T22.setTop (mkF m 76 #[.val (.ref a), .val (.long x), .second, .val (.long n'), .second, .val (.int (1 : Int32)), .val (.long (own_min (own_min x (f 2)) (f 3))), .second, .val (.int (3 : Int32)), .val (.int (4 : Int32))] [(.long (own_min (own_min x (f 2)) (f 3)))])) _
    refine XS.goto X22.here hx rfl (pc0 := 76) (pc' := 82) rfl (hb hby d7_76) (by decide) (by decide) ?_
    show Steps p.tables e below (T22.setTop (mkF m 82 #[.val (.ref a), .val (.long x), .second, .val (.long n'), .second, .val (.int (1 : Int32)), .val (.long (own_min (own_min x (f 2)) (f 3))), .second, .val (.int (3 : Int32)), .val (.int (4 : Int32))] [(.long (own_min (own_min x (f 2)) (f 3)))])) _
    exact X22.lreturnOut hx Bd.returns (hb hby d7_82) hr
  · show Qrm7_1 Z a x n' sl t u f g h0 n0 _ T22.heap _
    rw [e22]
    exact ⟨rfl, N19, rfl⟩
def Qrm8_2 (Z : State) (a : Addr) (n' : Int64) (sl : Int64) (u : Addr) (g : Nat → Int64) (h0 : Heap) (n0 : Nat) (v : Option Value) (h : Heap) (L : List Loc) : Prop := v = some (.int (2 : Int32)) ∧ Fr n0 L ∧ h = h0
set_option maxRecDepth 65536 in
set_option maxHeartbeats 40000000 in
theorem rm8_2 (l : Launch) (Z : State) (a0 : Array Value) (hw : ∀ d ∈ tables_1, d.before a0 Z = true) (ws : List Jvm.Cond) (a : Addr) (n' : Int64) (sl : Int64) (u : Addr) (g : Nat → Int64) (h0 : Heap) (n0 : Nat) (Z0 : n0 ≤ h0.size) (E_a : Exa Z h0 a "stillmark/StableTimes") (F_own_a : Fld Z h0 a "stillmark/StableTimes" "own" "I" (.int (0 : Int32))) (F_silence_a : Fld Z h0 a "stillmark/StableTimes" "silence" "J" (.long sl)) (F_heard_a : Fld Z h0 a "stillmark/StableTimes" "heard" "[J" (.ref u)) (A_u : Av Z h0 u .long 4 (own_l g)) (hs1 : ¬ ((g 1) < (n' - sl))) (hs2 : (g 2) < (n' - sl)) (hs3 : ¬ ((g 3) < (n' - sl))) :
    MetFree l (⟨"stillmark/StableTimes", "leftOut", "(J)I"⟩ : MethodName) (head1 (Jvm.Cond.code (⟨"stillmark/StableTimes", "leftOut", "(J)I"⟩ : MethodName) prog_146_method_6_code 5 (some .int) :: ws) ({ frames := 0, cells := 0, slots := 0, locals := 0 } : Room)) (fun aa_ U => aa_ = #[(.ref a), (.long n')] ∧ Z.Warmed39 U.vm ∧ U.heap = h0) (fun _ _ _ _ _ => True) (fun _ U o U' => ∃ v L, o = .returned v ∧ Qrm8_2 Z a n' sl u g h0 n0 v U'.heap L ∧ FrameEnd U o U' L ({ frames := 0, cells := 0, slots := 0, locals := 0 } : Room).cells ({ frames := 0, cells := 0, slots := 0, locals := 0 } : Room).slots) := by
  refine MetFree.of_bodySF (plainFor_of_name pn_1) hisR ?_
  intro p e s m args below meth c s₁ Bd hml0 hP hK
  obtain ⟨rfl, hZ, hh⟩ := hP
  have hx := Bd.exec
  have hby := Bd.bytes
  have hml : c.maxLocals = 5 := hml0
  have hown : s.vm.findClass "stillmark/StableTimes" = some m.cls := findClass_of_methodNamed Bd.named
  have hnm := (name_of_methodNamed Bd.named Bd.method).1
  have X0 : Stand p l e ({ frames := 0, cells := 0, slots := 0, locals := 0 } : Room) s m #[(.ref a), (.long n')] below meth c s₁ [] 0 0 := Stand.of_body Bd
  have e0 : s₁.heap = h0 := by rw [← hh, Bd.state]; rfl
  have N0 := Fr.nil n0
  have pre0 : ∀ tt_, Steps p.tables e below (s₁.setTop (mkF m 0 #[.val (.ref a), .val (.long n'), .second, .unset, .unset] [])) tt_ → Steps p.tables e below (s₁.setTop (entryFrame m #[(.ref a), (.long n')] 5)) tt_ := fun tt_ kk_ => castTop (ef_8 m a n') kk_
  obtain ⟨T1, X1, e1, st1⟩ := getF X0 hx hZ hown (host := "") (Or.inl (hw _ (List.mem_of_getElem? (i := 20) rfl))) Via.refl e0 F_heard_a (g := (mkF m 8 #[.val (.ref a), .val (.long n'), .second, .val (.int (-1 : Int32)), .val (.int (0 : Int32))] [(.ref a), (.int (0 : Int32))])) rfl rfl (hb hby d8_8)
  obtain ⟨cl2, Ar2, S2, -⟩ := id A_u
  obtain ⟨T3, X3, e3, st3⟩ := getF X1 hx hZ hown (host := "") (Or.inl (hw _ (List.mem_of_getElem? (i := 11) rfl))) Via.refl e1 F_own_a (g := (mkF m 18 #[.val (.ref a), .val (.long n'), .second, .val (.int (-1 : Int32)), .val (.int (0 : Int32))] [(.ref a), (.int (0 : Int32))])) rfl rfl (hb hby d8_18)
  obtain ⟨T4, X4, e4, st4⟩ := getF X3 hx hZ hown (host := "") (Or.inl (hw _ (List.mem_of_getElem? (i := 20) rfl))) Via.refl e3 F_heard_a (g := (mkF m 8 #[.val (.ref a), .val (.long n'), .second, .val (.int (-1 : Int32)), .val (.int (1 : Int32))] [(.ref a), (.int (1 : Int32))])) rfl rfl (hb hby d8_8)
  obtain ⟨cl5, Ar5, S5, -⟩ := id A_u
  obtain ⟨T6, X6, e6, st6⟩ := getF X4 hx hZ hown (host := "") (Or.inl (hw _ (List.mem_of_getElem? (i := 11) rfl))) Via.refl e4 F_own_a (g := (mkF m 18 #[.val (.ref a), .val (.long n'), .second, .val (.int (-1 : Int32)), .val (.int (1 : Int32))] [(.ref a), (.int (1 : Int32))])) rfl rfl (hb hby d8_18)
  obtain ⟨T7, X7, e7, st7⟩ := getF X6 hx hZ hown (host := "") (Or.inl (hw _ (List.mem_of_getElem? (i := 20) rfl))) Via.refl e6 F_heard_a (g := (mkF m 25 #[.val (.ref a), .val (.long n'), .second, .val (.int (-1 : Int32)), .val (.int (1 : Int32))] [(.ref a)])) rfl rfl (hb hby d8_25)
  obtain ⟨cl8, Ar8, S8, H8⟩ := id A_u
  have hj8 : (1 : Int32).toNatClampNeg = 1 := (by decide)
  have hin8 : ¬ ((1 : Int32) < 0 ∨ cl8.slots.size ≤ ((1 : Int32)).toNatClampNeg) := by rw [S8, hj8]; exact fun q => q.elim (by decide) (Nat.not_le.mpr (by decide : 1 < 4))
  have hat8 : cl8.slots[((1 : Int32)).toNatClampNeg]? = some (.long (g 1)) := by rw [hj8, H8 _ (by decide : 1 < 4)]; exact congrArg some (rfl)
  obtain ⟨T9, X9, e9, st9⟩ := getF X7 hx hZ hown (host := "") (Or.inl (hw _ (List.mem_of_getElem? (i := 15) rfl))) Via.refl e7 F_silence_a (g := (mkF m 33 #[.val (.ref a), .val (.long n'), .second, .val (.int (-1 : Int32)), .val (.int (1 : Int32))] [(.ref a), (.long n'), (.long (g 1))])) rfl rfl (hb hby d8_33)
  obtain ⟨T10, X10, e10, st10⟩ := getF X9 hx hZ hown (host := "") (Or.inl (hw _ (List.mem_of_getElem? (i := 20) rfl))) Via.refl e9 F_heard_a (g := (mkF m 8 #[.val (.ref a), .val (.long n'), .second, .val (.int (-1 : Int32)), .val (.int (2 : Int32))] [(.ref a), (.int (2 : Int32))])) rfl rfl (hb hby d8_8)
  obtain ⟨cl11, Ar11, S11, -⟩ := id A_u
  obtain ⟨T12, X12, e12, st12⟩ := getF X10 hx hZ hown (host := "") (Or.inl (hw _ (List.mem_of_getElem? (i := 11) rfl))) Via.refl e10 F_own_a (g := (mkF m 18 #[.val (.ref a), .val (.long n'), .second, .val (.int (-1 : Int32)), .val (.int (2 : Int32))] [(.ref a), (.int (2 : Int32))])) rfl rfl (hb hby d8_18)
  obtain ⟨T13, X13, e13, st13⟩ := getF X12 hx hZ hown (host := "") (Or.inl (hw _ (List.mem_of_getElem? (i := 20) rfl))) Via.refl e12 F_heard_a (g := (mkF m 25 #[.val (.ref a), .val (.long n'), .second, .val (.int (-1 : Int32)), .val (.int (2 : Int32))] [(.ref a)])) rfl rfl (hb hby d8_25)
  obtain ⟨cl14, Ar14, S14, H14⟩ := id A_u
  have hj14 : (2 : Int32).toNatClampNeg = 2 := (by decide)
  have hin14 : ¬ ((2 : Int32) < 0 ∨ cl14.slots.size ≤ ((2 : Int32)).toNatClampNeg) := by rw [S14, hj14]; exact fun q => q.elim (by decide) (Nat.not_le.mpr (by decide : 2 < 4))
  have hat14 : cl14.slots[((2 : Int32)).toNatClampNeg]? = some (.long (g 2)) := by rw [hj14, H14 _ (by decide : 2 < 4)]; exact congrArg some (rfl)
  obtain ⟨T15, X15, e15, st15⟩ := getF X13 hx hZ hown (host := "") (Or.inl (hw _ (List.mem_of_getElem? (i := 15) rfl))) Via.refl e13 F_silence_a (g := (mkF m 33 #[.val (.ref a), .val (.long n'), .second, .val (.int (-1 : Int32)), .val (.int (2 : Int32))] [(.ref a), (.long n'), (.long (g 2))])) rfl rfl (hb hby d8_33)
  obtain ⟨T16, X16, e16, st16⟩ := getF X15 hx hZ hown (host := "") (Or.inl (hw _ (List.mem_of_getElem? (i := 20) rfl))) Via.refl e15 F_heard_a (g := (mkF m 8 #[.val (.ref a), .val (.long n'), .second, .val (.int (2 : Int32)), .val (.int (3 : Int32))] [(.ref a), (.int (3 : Int32))])) rfl rfl (hb hby d8_8)
  obtain ⟨cl17, Ar17, S17, -⟩ := id A_u
  obtain ⟨T18, X18, e18, st18⟩ := getF X16 hx hZ hown (host := "") (Or.inl (hw _ (List.mem_of_getElem? (i := 11) rfl))) Via.refl e16 F_own_a (g := (mkF m 18 #[.val (.ref a), .val (.long n'), .second, .val (.int (2 : Int32)), .val (.int (3 : Int32))] [(.ref a), (.int (3 : Int32))])) rfl rfl (hb hby d8_18)
  obtain ⟨T19, X19, e19, st19⟩ := getF X18 hx hZ hown (host := "") (Or.inl (hw _ (List.mem_of_getElem? (i := 20) rfl))) Via.refl e18 F_heard_a (g := (mkF m 25 #[.val (.ref a), .val (.long n'), .second, .val (.int (2 : Int32)), .val (.int (3 : Int32))] [(.ref a)])) rfl rfl (hb hby d8_25)
  obtain ⟨cl20, Ar20, S20, H20⟩ := id A_u
  have hj20 : (3 : Int32).toNatClampNeg = 3 := (by decide)
  have hin20 : ¬ ((3 : Int32) < 0 ∨ cl20.slots.size ≤ ((3 : Int32)).toNatClampNeg) := by rw [S20, hj20]; exact fun q => q.elim (by decide) (Nat.not_le.mpr (by decide : 3 < 4))
  have hat20 : cl20.slots[((3 : Int32)).toNatClampNeg]? = some (.long (g 3)) := by rw [hj20, H20 _ (by decide : 3 < 4)]; exact congrArg some (rfl)
  obtain ⟨T21, X21, e21, st21⟩ := getF X19 hx hZ hown (host := "") (Or.inl (hw _ (List.mem_of_getElem? (i := 15) rfl))) Via.refl e19 F_silence_a (g := (mkF m 33 #[.val (.ref a), .val (.long n'), .second, .val (.int (2 : Int32)), .val (.int (3 : Int32))] [(.ref a), (.long n'), (.long (g 3))])) rfl rfl (hb hby d8_33)
  obtain ⟨T22, X22, e22, st22⟩ := getF X21 hx hZ hown (host := "") (Or.inl (hw _ (List.mem_of_getElem? (i := 20) rfl))) Via.refl e21 F_heard_a (g := (mkF m 8 #[.val (.ref a), .val (.long n'), .second, .val (.int (2 : Int32)), .val (.int (4 : Int32))] [(.ref a), (.int (4 : Int32))])) rfl rfl (hb hby d8_8)
  obtain ⟨cl23, Ar23, S23, -⟩ := id A_u
  obtain ⟨fs, hr, hrun, hended, hW, hsame⟩ := X22.leave (v := some (.int (2 : Int32))) (fun h => by rw [Bd.returns] at h; cases h)
  refine ⟨_, _, pre0 _ ?_, hrun, hended, _, _, rfl, ?_, ⟨_, rfl⟩, hW, hsame.mono (by decide) (by decide)⟩
  · show Steps p.tables e below (s₁.setTop (mkF m 0 #[.val (.ref a), .val (.long n'), .second, .unset, .unset] [])) _
    refine XS.iconst X0.here hx rfl (hb hby d8_0) ?_
    show Steps p.tables e below (s₁.setTop (mkF m 1 #[.val (.ref a), .val (.long n'), .second, .unset, .unset] [(.int (-1 : Int32))])) _
    refine XS.istoreN X0.here hx rfl (hb hby d8_1) rfl (l' := #[.val (.ref a), .val (.long n'), .second, .val (.int (-1 : Int32)), .unset]) rfl ?_
    show Steps p.tables e below (s₁.setTop (mkF m 2 #[.val (.ref a), .val (.long n'), .second, .val (.int (-1 : Int32)), .unset] [])) _
    refine XS.iconst X0.here hx rfl (hb hby d8_2) ?_
    show Steps p.tables e below (s₁.setTop (mkF m 3 #[.val (.ref a), .val (.long n'), .second, .val (.int (-1 : Int32)), .unset] [(.int (0 : Int32))])) _
    refine XS.istore X0.here hx rfl (hb hby d8_3) rfl (l' := #[.val (.ref a), .val (.long n'), .second, .val (.int (-1 : Int32)), .val (.int (0 : Int32))]) rfl ?_
    show Steps p.tables e below (s₁.setTop (mkF m 5 #[.val (.ref a), .val (.long n'), .second, .val (.int (-1 : Int32)), .val (.int (0 : Int32))] [])) _
    refine XS.iload X0.here hx rfl (hb hby d8_5) rfl ?_
    show Steps p.tables e below (s₁.setTop (mkF m 7 #[.val (.ref a), .val (.long n'), .second, .val (.int (-1 : Int32)), .val (.int (0 : Int32))] [(.int (0 : Int32))])) _
    refine XS.aloadN X0.here hx rfl (hb hby d8_7) rfl rfl ?_
    show Steps p.tables e below (s₁.setTop (mkF m 8 #[.val (.ref a), .val (.long n'), .second, .val (.int (-1 : Int32)), .val (.int (0 : Int32))] [(.ref a), (.int (0 : Int32))])) _
    refine st1 _ ?_
    show Steps p.tables e below (T1.setTop (mkF m 11 #[.val (.ref a), .val (.long n'), .second, .val (.int (-1 : Int32)), .val (.int (0 : Int32))] [(.ref u), (.int (0 : Int32))])) _
    refine X1.arraylength hx (by rw [e1]; exact Ar2.1) (State.isArrayOf_alike hZ.alike Ar2.2.1) (g := (mkF m 11 #[.val (.ref a), .val (.long n'), .second, .val (.int (-1 : Int32)), .val (.int (0 : Int32))] [(.ref u), (.int (0 : Int32))])) rfl rfl (hb hby d8_11) _ ?_
    rw [S2]
    show Steps p.tables e below (T1.setTop (mkF m 12 #[.val (.ref a), .val (.long n'), .second, .val (.int (-1 : Int32)), .val (.int (0 : Int32))] [(.int (Nat.toInt32 4)), (.int (0 : Int32))])) _
    rw [show ((Nat.toInt32 4) : Int32) = (4 : Int32) from by decide]
    show Steps p.tables e below (T1.setTop (mkF m 12 #[.val (.ref a), .val (.long n'), .second, .val (.int (-1 : Int32)), .val (.int (0 : Int32))] [(.int (4 : Int32)), (.int (0 : Int32))])) _
    refine XS.icmpNo X1.here hx rfl (hb hby d8_12) rfl (tlt (show (0 : Int32) < (4 : Int32) from (by decide))).2.1 ?_
    show Steps p.tables e below (T1.setTop (mkF m 15 #[.val (.ref a), .val (.long n'), .second, .val (.int (-1 : Int32)), .val (.int (0 : Int32))] [])) _
    refine XS.iload X1.here hx rfl (hb hby d8_15) rfl ?_
    show Steps p.tables e below (T1.setTop (mkF m 17 #[.val (.ref a), .val (.long n'), .second, .val (.int (-1 : Int32)), .val (.int (0 : Int32))] [(.int (0 : Int32))])) _
    refine XS.aloadN X1.here hx rfl (hb hby d8_17) rfl rfl ?_
    show Steps p.tables e below (T1.setTop (mkF m 18 #[.val (.ref a), .val (.long n'), .second, .val (.int (-1 : Int32)), .val (.int (0 : Int32))] [(.ref a), (.int (0 : Int32))])) _
    refine st3 _ ?_
    show Steps p.tables e below (T3.setTop (mkF m 21 #[.val (.ref a), .val (.long n'), .second, .val (.int (-1 : Int32)), .val (.int (0 : Int32))] [(.int (0 : Int32)), (.int (0 : Int32))])) _
    refine XS.icmpYes X3.here hx rfl (pc0 := 21) (pc' := 54) rfl (hb hby d8_21) rfl (teq (show (0 : Int32) = (0 : Int32) from rfl)).1 (by decide) (by decide) ?_
    show Steps p.tables e below (T3.setTop (mkF m 54 #[.val (.ref a), .val (.long n'), .second, .val (.int (-1 : Int32)), .val (.int (0 : Int32))] [])) _
    refine XS.iinc X3.here hx rfl (hb hby d8_54) rfl (l' := #[.val (.ref a), .val (.long n'), .second, .val (.int (-1 : Int32)), .val (.int ((0 : Int32) + (1 : Int32)))]) rfl ?_
    show Steps p.tables e below (T3.setTop (mkF m 57 #[.val (.ref a), .val (.long n'), .second, .val (.int (-1 : Int32)), .val (.int ((0 : Int32) + (1 : Int32)))] [])) _
    rw [show (((0 : Int32) + (1 : Int32)) : Int32) = (1 : Int32) from by decide]
    show Steps p.tables e below (T3.setTop (mkF m 57 #[.val (.ref a), .val (.long n'), .second, .val (.int (-1 : Int32)), .val (.int (1 : Int32))] [])) _
    refine XS.goto X3.here hx rfl (pc0 := 57) (pc' := 5) rfl (hb hby d8_57) (by decide) (by decide) ?_
    show Steps p.tables e below (T3.setTop (mkF m 5 #[.val (.ref a), .val (.long n'), .second, .val (.int (-1 : Int32)), .val (.int (1 : Int32))] [])) _
    refine XS.iload X3.here hx rfl (hb hby d8_5) rfl ?_
    show Steps p.tables e below (T3.setTop (mkF m 7 #[.val (.ref a), .val (.long n'), .second, .val (.int (-1 : Int32)), .val (.int (1 : Int32))] [(.int (1 : Int32))])) _
    refine XS.aloadN X3.here hx rfl (hb hby d8_7) rfl rfl ?_
    show Steps p.tables e below (T3.setTop (mkF m 8 #[.val (.ref a), .val (.long n'), .second, .val (.int (-1 : Int32)), .val (.int (1 : Int32))] [(.ref a), (.int (1 : Int32))])) _
    refine st4 _ ?_
    show Steps p.tables e below (T4.setTop (mkF m 11 #[.val (.ref a), .val (.long n'), .second, .val (.int (-1 : Int32)), .val (.int (1 : Int32))] [(.ref u), (.int (1 : Int32))])) _
    refine X4.arraylength hx (by rw [e4]; exact Ar5.1) (State.isArrayOf_alike hZ.alike Ar5.2.1) (g := (mkF m 11 #[.val (.ref a), .val (.long n'), .second, .val (.int (-1 : Int32)), .val (.int (1 : Int32))] [(.ref u), (.int (1 : Int32))])) rfl rfl (hb hby d8_11) _ ?_
    rw [S5]
    show Steps p.tables e below (T4.setTop (mkF m 12 #[.val (.ref a), .val (.long n'), .second, .val (.int (-1 : Int32)), .val (.int (1 : Int32))] [(.int (Nat.toInt32 4)), (.int (1 : Int32))])) _
    rw [show ((Nat.toInt32 4) : Int32) = (4 : Int32) from by decide]
    show Steps p.tables e below (T4.setTop (mkF m 12 #[.val (.ref a), .val (.long n'), .second, .val (.int (-1 : Int32)), .val (.int (1 : Int32))] [(.int (4 : Int32)), (.int (1 : Int32))])) _
    refine XS.icmpNo X4.here hx rfl (hb hby d8_12) rfl (tlt (show (1 : Int32) < (4 : Int32) from (by decide))).2.1 ?_
    show Steps p.tables e below (T4.setTop (mkF m 15 #[.val (.ref a), .val (.long n'), .second, .val (.int (-1 : Int32)), .val (.int (1 : Int32))] [])) _
    refine XS.iload X4.here hx rfl (hb hby d8_15) rfl ?_
    show Steps p.tables e below (T4.setTop (mkF m 17 #[.val (.ref a), .val (.long n'), .second, .val (.int (-1 : Int32)), .val (.int (1 : Int32))] [(.int (1 : Int32))])) _
    refine XS.aloadN X4.here hx rfl (hb hby d8_17) rfl rfl ?_
    show Steps p.tables e below (T4.setTop (mkF m 18 #[.val (.ref a), .val (.long n'), .second, .val (.int (-1 : Int32)), .val (.int (1 : Int32))] [(.ref a), (.int (1 : Int32))])) _
    refine st6 _ ?_
    show Steps p.tables e below (T6.setTop (mkF m 21 #[.val (.ref a), .val (.long n'), .second, .val (.int (-1 : Int32)), .val (.int (1 : Int32))] [(.int (0 : Int32)), (.int (1 : Int32))])) _
    refine XS.icmpNo X6.here hx rfl (hb hby d8_21) rfl (feq (show ¬ ((1 : Int32) = (0 : Int32)) from (by decide))).1 ?_
    show Steps p.tables e below (T6.setTop (mkF m 24 #[.val (.ref a), .val (.long n'), .second, .val (.int (-1 : Int32)), .val (.int (1 : Int32))] [])) _
    refine XS.aloadN X6.here hx rfl (hb hby d8_24) rfl rfl ?_
    show Steps p.tables e below (T6.setTop (mkF m 25 #[.val (.ref a), .val (.long n'), .second, .val (.int (-1 : Int32)), .val (.int (1 : Int32))] [(.ref a)])) _
    refine st7 _ ?_
    show Steps p.tables e below (T7.setTop (mkF m 28 #[.val (.ref a), .val (.long n'), .second, .val (.int (-1 : Int32)), .val (.int (1 : Int32))] [(.ref u)])) _
    refine XS.iload X7.here hx rfl (hb hby d8_28) rfl ?_
    show Steps p.tables e below (T7.setTop (mkF m 30 #[.val (.ref a), .val (.long n'), .second, .val (.int (-1 : Int32)), .val (.int (1 : Int32))] [(.int (1 : Int32)), (.ref u)])) _
    refine X7.laload hx (j := (1 : Int32)) (v := (.long (g 1))) (by rw [e7]; exact Ar8.1) (State.isArrayOf_alike hZ.alike Ar8.2.1) Ar8.2.2 hin8 hat8 (g := (mkF m 30 #[.val (.ref a), .val (.long n'), .second, .val (.int (-1 : Int32)), .val (.int (1 : Int32))] [(.int (1 : Int32)), (.ref u)])) rfl rfl (hb hby d8_30) _ ?_
    show Steps p.tables e below (T7.setTop (mkF m 31 #[.val (.ref a), .val (.long n'), .second, .val (.int (-1 : Int32)), .val (.int (1 : Int32))] [(.long (g 1))])) _
    refine XS.lloadN X7.here hx rfl (hb hby d8_31) rfl ?_
    show Steps p.tables e below (T7.setTop (mkF m 32 #[.val (.ref a), .val (.long n'), .second, .val (.int (-1 : Int32)), .val (.int (1 : Int32))] [(.long n'), (.long (g 1))])) _
    refine XS.aloadN X7.here hx rfl (hb hby d8_32) rfl rfl ?_
    show Steps p.tables e below (T7.setTop (mkF m 33 #[.val (.ref a), .val (.long n'), .second, .val (.int (-1 : Int32)), .val (.int (1 : Int32))] [(.ref a), (.long n'), (.long (g 1))])) _
    refine st9 _ ?_
    show Steps p.tables e below (T9.setTop (mkF m 36 #[.val (.ref a), .val (.long n'), .second, .val (.int (-1 : Int32)), .val (.int (1 : Int32))] [(.long sl), (.long n'), (.long (g 1))])) _
    refine XS.lsub X9.here hx rfl (hb hby d8_36) rfl ?_
    show Steps p.tables e below (T9.setTop (mkF m 37 #[.val (.ref a), .val (.long n'), .second, .val (.int (-1 : Int32)), .val (.int (1 : Int32))] [(.long (n' - sl)), (.long (g 1))])) _
    refine XS.lcmp X9.here hx rfl (hb hby d8_37) rfl ?_
    show Steps p.tables e below (T9.setTop (mkF m 38 #[.val (.ref a), .val (.long n'), .second, .val (.int (-1 : Int32)), .val (.int (1 : Int32))] [(.int (lcmpW (g 1) (n' - sl)))])) _
    refine XS.ifNo X9.here hx rfl (hb hby d8_38) rfl ((if0 _ _).trans (flt (show ¬ ((lcmpW (g 1) (n' - sl)) < (0 : Int32)) from (fun z => hs1 ((lw_lt _ _).mp z)))).1) ?_
    show Steps p.tables e below (T9.setTop (mkF m 41 #[.val (.ref a), .val (.long n'), .second, .val (.int (-1 : Int32)), .val (.int (1 : Int32))] [])) _
    refine XS.goto X9.here hx rfl (pc0 := 41) (pc' := 54) rfl (hb hby d8_41) (by decide) (by decide) ?_
    show Steps p.tables e below (T9.setTop (mkF m 54 #[.val (.ref a), .val (.long n'), .second, .val (.int (-1 : Int32)), .val (.int (1 : Int32))] [])) _
    refine XS.iinc X9.here hx rfl (hb hby d8_54) rfl (l' := #[.val (.ref a), .val (.long n'), .second, .val (.int (-1 : Int32)), .val (.int ((1 : Int32) + (1 : Int32)))]) rfl ?_
    show Steps p.tables e below (T9.setTop (mkF m 57 #[.val (.ref a), .val (.long n'), .second, .val (.int (-1 : Int32)), .val (.int ((1 : Int32) + (1 : Int32)))] [])) _
    rw [show (((1 : Int32) + (1 : Int32)) : Int32) = (2 : Int32) from by decide]
    show Steps p.tables e below (T9.setTop (mkF m 57 #[.val (.ref a), .val (.long n'), .second, .val (.int (-1 : Int32)), .val (.int (2 : Int32))] [])) _
    refine XS.goto X9.here hx rfl (pc0 := 57) (pc' := 5) rfl (hb hby d8_57) (by decide) (by decide) ?_
    show Steps p.tables e below (T9.setTop (mkF m 5 #[.val (.ref a), .val (.long n'), .second, .val (.int (-1 : Int32)), .val (.int (2 : Int32))] [])) _
    refine XS.iload X9.here hx rfl (hb hby d8_5) rfl ?_
    show Steps p.tables e below (T9.setTop (mkF m 7 #[.val (.ref a), .val (.long n'), .second, .val (.int (-1 : Int32)), .val (.int (2 : Int32))] [(.int (2 : Int32))])) _
    refine XS.aloadN X9.here hx rfl (hb hby d8_7) rfl rfl ?_
    show Steps p.tables e below (T9.setTop (mkF m 8 #[.val (.ref a), .val (.long n'), .second, .val (.int (-1 : Int32)), .val (.int (2 : Int32))] [(.ref a), (.int (2 : Int32))])) _
    refine st10 _ ?_
    show Steps p.tables e below (T10.setTop (mkF m 11 #[.val (.ref a), .val (.long n'), .second, .val (.int (-1 : Int32)), .val (.int (2 : Int32))] [(.ref u), (.int (2 : Int32))])) _
    refine X10.arraylength hx (by rw [e10]; exact Ar11.1) (State.isArrayOf_alike hZ.alike Ar11.2.1) (g := (mkF m 11 #[.val (.ref a), .val (.long n'), .second, .val (.int (-1 : Int32)), .val (.int (2 : Int32))] [(.ref u), (.int (2 : Int32))])) rfl rfl (hb hby d8_11) _ ?_
    rw [S11]
    show Steps p.tables e below (T10.setTop (mkF m 12 #[.val (.ref a), .val (.long n'), .second, .val (.int (-1 : Int32)), .val (.int (2 : Int32))] [(.int (Nat.toInt32 4)), (.int (2 : Int32))])) _
    rw [show ((Nat.toInt32 4) : Int32) = (4 : Int32) from by decide]
    show Steps p.tables e below (T10.setTop (mkF m 12 #[.val (.ref a), .val (.long n'), .second, .val (.int (-1 : Int32)), .val (.int (2 : Int32))] [(.int (4 : Int32)), (.int (2 : Int32))])) _
    refine XS.icmpNo X10.here hx rfl (hb hby d8_12) rfl (tlt (show (2 : Int32) < (4 : Int32) from (by decide))).2.1 ?_
    show Steps p.tables e below (T10.setTop (mkF m 15 #[.val (.ref a), .val (.long n'), .second, .val (.int (-1 : Int32)), .val (.int (2 : Int32))] [])) _
    refine XS.iload X10.here hx rfl (hb hby d8_15) rfl ?_
    show Steps p.tables e below (T10.setTop (mkF m 17 #[.val (.ref a), .val (.long n'), .second, .val (.int (-1 : Int32)), .val (.int (2 : Int32))] [(.int (2 : Int32))])) _
    refine XS.aloadN X10.here hx rfl (hb hby d8_17) rfl rfl ?_
    show Steps p.tables e below (T10.setTop (mkF m 18 #[.val (.ref a), .val (.long n'), .second, .val (.int (-1 : Int32)), .val (.int (2 : Int32))] [(.ref a), (.int (2 : Int32))])) _
    refine st12 _ ?_
    show Steps p.tables e below (T12.setTop (mkF m 21 #[.val (.ref a), .val (.long n'), .second, .val (.int (-1 : Int32)), .val (.int (2 : Int32))] [(.int (0 : Int32)), (.int (2 : Int32))])) _
    refine XS.icmpNo X12.here hx rfl (hb hby d8_21) rfl (feq (show ¬ ((2 : Int32) = (0 : Int32)) from (by decide))).1 ?_
    show Steps p.tables e below (T12.setTop (mkF m 24 #[.val (.ref a), .val (.long n'), .second, .val (.int (-1 : Int32)), .val (.int (2 : Int32))] [])) _
    refine XS.aloadN X12.here hx rfl (hb hby d8_24) rfl rfl ?_
    show Steps p.tables e below (T12.setTop (mkF m 25 #[.val (.ref a), .val (.long n'), .second, .val (.int (-1 : Int32)), .val (.int (2 : Int32))] [(.ref a)])) _
    refine st13 _ ?_
    show Steps p.tables e below (T13.setTop (mkF m 28 #[.val (.ref a), .val (.long n'), .second, .val (.int (-1 : Int32)), .val (.int (2 : Int32))] [(.ref u)])) _
    refine XS.iload X13.here hx rfl (hb hby d8_28) rfl ?_
    show Steps p.tables e below (T13.setTop (mkF m 30 #[.val (.ref a), .val (.long n'), .second, .val (.int (-1 : Int32)), .val (.int (2 : Int32))] [(.int (2 : Int32)), (.ref u)])) _
    refine X13.laload hx (j := (2 : Int32)) (v := (.long (g 2))) (by rw [e13]; exact Ar14.1) (State.isArrayOf_alike hZ.alike Ar14.2.1) Ar14.2.2 hin14 hat14 (g := (mkF m 30 #[.val (.ref a), .val (.long n'), .second, .val (.int (-1 : Int32)), .val (.int (2 : Int32))] [(.int (2 : Int32)), (.ref u)])) rfl rfl (hb hby d8_30) _ ?_
    show Steps p.tables e below (T13.setTop (mkF m 31 #[.val (.ref a), .val (.long n'), .second, .val (.int (-1 : Int32)), .val (.int (2 : Int32))] [(.long (g 2))])) _
    refine XS.lloadN X13.here hx rfl (hb hby d8_31) rfl ?_
    show Steps p.tables e below (T13.setTop (mkF m 32 #[.val (.ref a), .val (.long n'), .second, .val (.int (-1 : Int32)), .val (.int (2 : Int32))] [(.long n'), (.long (g 2))])) _
    refine XS.aloadN X13.here hx rfl (hb hby d8_32) rfl rfl ?_
    show Steps p.tables e below (T13.setTop (mkF m 33 #[.val (.ref a), .val (.long n'), .second, .val (.int (-1 : Int32)), .val (.int (2 : Int32))] [(.ref a), (.long n'), (.long (g 2))])) _
    refine st15 _ ?_
    show Steps p.tables e below (T15.setTop (mkF m 36 #[.val (.ref a), .val (.long n'), .second, .val (.int (-1 : Int32)), .val (.int (2 : Int32))] [(.long sl), (.long n'), (.long (g 2))])) _
    refine XS.lsub X15.here hx rfl (hb hby d8_36) rfl ?_
    show Steps p.tables e below (T15.setTop (mkF m 37 #[.val (.ref a), .val (.long n'), .second, .val (.int (-1 : Int32)), .val (.int (2 : Int32))] [(.long (n' - sl)), (.long (g 2))])) _
    refine XS.lcmp X15.here hx rfl (hb hby d8_37) rfl ?_
    show Steps p.tables e below (T15.setTop (mkF m 38 #[.val (.ref a), .val (.long n'), .second, .val (.int (-1 : Int32)), .val (.int (2 : Int32))] [(.int (lcmpW (g 2) (n' - sl)))])) _
    refine XS.ifYes X15.here hx rfl (pc0 := 38) (pc' := 44) rfl (hb hby d8_38) rfl ((if0 _ _).trans (tlt (show (lcmpW (g 2) (n' - sl)) < (0 : Int32) from ((lw_lt _ _).mpr hs2))).1) (by decide) (by decide) ?_
    show Steps p.tables e below (T15.setTop (mkF m 44 #[.val (.ref a), .val (.long n'), .second, .val (.int (-1 : Int32)), .val (.int (2 : Int32))] [])) _
    refine XS.iloadN X15.here hx rfl (hb hby d8_44) rfl ?_
    show Steps p.tables e below (T15.setTop (mkF m 45 #[.val (.ref a), .val (.long n'), .second, .val (.int (-1 : Int32)), .val (.int (2 : Int32))] [(.int (-1 : Int32))])) _
    refine XS.iconst X15.here hx rfl (hb hby d8_45) ?_
    show Steps p.tables e below (T15.setTop (mkF m 46 #[.val (.ref a), .val (.long n'), .second, .val (.int (-1 : Int32)), .val (.int (2 : Int32))] [(.int (-1 : Int32)), (.int (-1 : Int32))])) _
    refine XS.icmpYes X15.here hx rfl (pc0 := 46) (pc' := 51) rfl (hb hby d8_46) rfl (teq (show (-1 : Int32) = (-1 : Int32) from rfl)).1 (by decide) (by decide) ?_
    show Steps p.tables e below (T15.setTop (mkF m 51 #[.val (.ref a), .val (.long n'), .second, .val (.int (-1 : Int32)), .val (.int (2 : Int32))] [])) _
    refine XS.iload X15.here hx rfl (hb hby d8_51) rfl ?_
    show Steps p.tables e below (T15.setTop (mkF m 53 #[.val (.ref a), .val (.long n'), .second, .val (.int (-1 : Int32)), .val (.int (2 : Int32))] [(.int (2 : Int32))])) _
    refine XS.istoreN X15.here hx rfl (hb hby d8_53) rfl (l' := #[.val (.ref a), .val (.long n'), .second, .val (.int (2 : Int32)), .val (.int (2 : Int32))]) rfl ?_
    show Steps p.tables e below (T15.setTop (mkF m 54 #[.val (.ref a), .val (.long n'), .second, .val (.int (2 : Int32)), .val (.int (2 : Int32))] [])) _
    refine XS.iinc X15.here hx rfl (hb hby d8_54) rfl (l' := #[.val (.ref a), .val (.long n'), .second, .val (.int (2 : Int32)), .val (.int ((2 : Int32) + (1 : Int32)))]) rfl ?_
    show Steps p.tables e below (T15.setTop (mkF m 57 #[.val (.ref a), .val (.long n'), .second, .val (.int (2 : Int32)), .val (.int ((2 : Int32) + (1 : Int32)))] [])) _
    rw [show (((2 : Int32) + (1 : Int32)) : Int32) = (3 : Int32) from by decide]
    show Steps p.tables e below (T15.setTop (mkF m 57 #[.val (.ref a), .val (.long n'), .second, .val (.int (2 : Int32)), .val (.int (3 : Int32))] [])) _
    refine XS.goto X15.here hx rfl (pc0 := 57) (pc' := 5) rfl (hb hby d8_57) (by decide) (by decide) ?_
    show Steps p.tables e below (T15.setTop (mkF m 5 #[.val (.ref a), .val (.long n'), .second, .val (.int (2 : Int32)), .val (.int (3 : Int32))] [])) _
    refine XS.iload X15.here hx rfl (hb hby d8_5) rfl ?_
    show Steps p.tables e below (T15.setTop (mkF m 7 #[.val (.ref a), .val (.long n'), .second, .val (.int (2 : Int32)), .val (.int (3 : Int32))] [(.int (3 : Int32))])) _
    refine XS.aloadN X15.here hx rfl (hb hby d8_7) rfl rfl ?_
    show Steps p.tables e below (T15.setTop (mkF m 8 #[.val (.ref a), .val (.long n'), .second, .val (.int (2 : Int32)), .val (.int (3 : Int32))] [(.ref a), (.int (3 : Int32))])) _
    refine st16 _ ?_
    show Steps p.tables e below (T16.setTop (mkF m 11 #[.val (.ref a), .val (.long n'), .second, .val (.int (2 : Int32)), .val (.int (3 : Int32))] [(.ref u), (.int (3 : Int32))])) _
    refine X16.arraylength hx (by rw [e16]; exact Ar17.1) (State.isArrayOf_alike hZ.alike Ar17.2.1) (g := (mkF m 11 #[.val (.ref a), .val (.long n'), .second, .val (.int (2 : Int32)), .val (.int (3 : Int32))] [(.ref u), (.int (3 : Int32))])) rfl rfl (hb hby d8_11) _ ?_
    rw [S17]
    show Steps p.tables e below (T16.setTop (mkF m 12 #[.val (.ref a), .val (.long n'), .second, .val (.int (2 : Int32)), .val (.int (3 : Int32))] [(.int (Nat.toInt32 4)), (.int (3 : Int32))])) _
    rw [show ((Nat.toInt32 4) : Int32) = (4 : Int32) from by decide]
    show Steps p.tables e below (T16.setTop (mkF m 12 #[.val (.ref a), .val (.long n'), .second, .val (.int (2 : Int32)), .val (.int (3 : Int32))] [(.int (4 : Int32)), (.int (3 : Int32))])) _
    refine XS.icmpNo X16.here hx rfl (hb hby d8_12) rfl (tlt (show (3 : Int32) < (4 : Int32) from (by decide))).2.1 ?_
    show Steps p.tables e below (T16.setTop (mkF m 15 #[.val (.ref a), .val (.long n'), .second, .val (.int (2 : Int32)), .val (.int (3 : Int32))] [])) _
    refine XS.iload X16.here hx rfl (hb hby d8_15) rfl ?_
    show Steps p.tables e below (T16.setTop (mkF m 17 #[.val (.ref a), .val (.long n'), .second, .val (.int (2 : Int32)), .val (.int (3 : Int32))] [(.int (3 : Int32))])) _
    refine XS.aloadN X16.here hx rfl (hb hby d8_17) rfl rfl ?_
    show Steps p.tables e below (T16.setTop (mkF m 18 #[.val (.ref a), .val (.long n'), .second, .val (.int (2 : Int32)), .val (.int (3 : Int32))] [(.ref a), (.int (3 : Int32))])) _
    refine st18 _ ?_
    show Steps p.tables e below (T18.setTop (mkF m 21 #[.val (.ref a), .val (.long n'), .second, .val (.int (2 : Int32)), .val (.int (3 : Int32))] [(.int (0 : Int32)), (.int (3 : Int32))])) _
    refine XS.icmpNo X18.here hx rfl (hb hby d8_21) rfl (feq (show ¬ ((3 : Int32) = (0 : Int32)) from (by decide))).1 ?_
    show Steps p.tables e below (T18.setTop (mkF m 24 #[.val (.ref a), .val (.long n'), .second, .val (.int (2 : Int32)), .val (.int (3 : Int32))] [])) _
    refine XS.aloadN X18.here hx rfl (hb hby d8_24) rfl rfl ?_
    show Steps p.tables e below (T18.setTop (mkF m 25 #[.val (.ref a), .val (.long n'), .second, .val (.int (2 : Int32)), .val (.int (3 : Int32))] [(.ref a)])) _
    refine st19 _ ?_
    show Steps p.tables e below (T19.setTop (mkF m 28 #[.val (.ref a), .val (.long n'), .second, .val (.int (2 : Int32)), .val (.int (3 : Int32))] [(.ref u)])) _
    refine XS.iload X19.here hx rfl (hb hby d8_28) rfl ?_
    show Steps p.tables e below (T19.setTop (mkF m 30 #[.val (.ref a), .val (.long n'), .second, .val (.int (2 : Int32)), .val (.int (3 : Int32))] [(.int (3 : Int32)), (.ref u)])) _
    refine X19.laload hx (j := (3 : Int32)) (v := (.long (g 3))) (by rw [e19]; exact Ar20.1) (State.isArrayOf_alike hZ.alike Ar20.2.1) Ar20.2.2 hin20 hat20 (g := (mkF m 30 #[.val (.ref a), .val (.long n'), .second, .val (.int (2 : Int32)), .val (.int (3 : Int32))] [(.int (3 : Int32)), (.ref u)])) rfl rfl (hb hby d8_30) _ ?_
    show Steps p.tables e below (T19.setTop (mkF m 31 #[.val (.ref a), .val (.long n'), .second, .val (.int (2 : Int32)), .val (.int (3 : Int32))] [(.long (g 3))])) _
    refine XS.lloadN X19.here hx rfl (hb hby d8_31) rfl ?_
    show Steps p.tables e below (T19.setTop (mkF m 32 #[.val (.ref a), .val (.long n'), .second, .val (.int (2 : Int32)), .val (.int (3 : Int32))] [(.long n'), (.long (g 3))])) _
    refine XS.aloadN X19.here hx rfl (hb hby d8_32) rfl rfl ?_
    show Steps p.tables e below (T19.setTop (mkF m 33 #[.val (.ref a), .val (.long n'), .second, .val (.int (2 : Int32)), .val (.int (3 : Int32))] [(.ref a), (.long n'), (.long (g 3))])) _
    refine st21 _ ?_
    show Steps p.tables e below (T21.setTop (mkF m 36 #[.val (.ref a), .val (.long n'), .second, .val (.int (2 : Int32)), .val (.int (3 : Int32))] [(.long sl), (.long n'), (.long (g 3))])) _
    refine XS.lsub X21.here hx rfl (hb hby d8_36) rfl ?_
    show Steps p.tables e below (T21.setTop (mkF m 37 #[.val (.ref a), .val (.long n'), .second, .val (.int (2 : Int32)), .val (.int (3 : Int32))] [(.long (n' - sl)), (.long (g 3))])) _
    refine XS.lcmp X21.here hx rfl (hb hby d8_37) rfl ?_
    show Steps p.tables e below (T21.setTop (mkF m 38 #[.val (.ref a), .val (.long n'), .second, .val (.int (2 : Int32)), .val (.int (3 : Int32))] [(.int (lcmpW (g 3) (n' - sl)))])) _
    refine XS.ifNo X21.here hx rfl (hb hby d8_38) rfl ((if0 _ _).trans (flt (show ¬ ((lcmpW (g 3) (n' - sl)) < (0 : Int32)) from (fun z => hs3 ((lw_lt _ _).mp z)))).1) ?_
    show Steps p.tables e below (T21.setTop (mkF m 41 #[.val (.ref a), .val (.long n'), .second, .val (.int (2 : Int32)), .val (.int (3 : Int32))] [])) _
    refine XS.goto X21.here hx rfl (pc0 := 41) (pc' := 54) rfl (hb hby d8_41) (by decide) (by decide) ?_
    show Steps p.tables e below (T21.setTop (mkF m 54 #[.val (.ref a), .val (.long n'), .second, .val (.int (2 : Int32)), .val (.int (3 : Int32))] [])) _
    refine XS.iinc X21.here hx rfl (hb hby d8_54) rfl (l' := #[.val (.ref a), .val (.long n'), .second, .val (.int (2 : Int32)), .val (.int ((3 : Int32) + (1 : Int32)))]) rfl ?_
    show Steps p.tables e below (T21.setTop (mkF m 57 #[.val (.ref a), .val (.long n'), .second, .val (.int (2 : Int32)), .val (.int ((3 : Int32) + (1 : Int32)))] [])) _
    rw [show (((3 : Int32) + (1 : Int32)) : Int32) = (4 : Int32) from by decide]
    show Steps p.tables e below (T21.setTop (mkF m 57 #[.val (.ref a), .val (.long n'), .second, .val (.int (2 : Int32)), .val (.int (4 : Int32))] [])) _
    refine XS.goto X21.here hx rfl (pc0 := 57) (pc' := 5) rfl (hb hby d8_57) (by decide) (by decide) ?_
    show Steps p.tables e below (T21.setTop (mkF m 5 #[.val (.ref a), .val (.long n'), .second, .val (.int (2 : Int32)), .val (.int (4 : Int32))] [])) _
    refine XS.iload X21.here hx rfl (hb hby d8_5) rfl ?_
    show Steps p.tables e below (T21.setTop (mkF m 7 #[.val (.ref a), .val (.long n'), .second, .val (.int (2 : Int32)), .val (.int (4 : Int32))] [(.int (4 : Int32))])) _
    refine XS.aloadN X21.here hx rfl (hb hby d8_7) rfl rfl ?_
    show Steps p.tables e below (T21.setTop (mkF m 8 #[.val (.ref a), .val (.long n'), .second, .val (.int (2 : Int32)), .val (.int (4 : Int32))] [(.ref a), (.int (4 : Int32))])) _
    refine st22 _ ?_
    show Steps p.tables e below (T22.setTop (mkF m 11 #[.val (.ref a), .val (.long n'), .second, .val (.int (2 : Int32)), .val (.int (4 : Int32))] [(.ref u), (.int (4 : Int32))])) _
    refine X22.arraylength hx (by rw [e22]; exact Ar23.1) (State.isArrayOf_alike hZ.alike Ar23.2.1) (g := (mkF m 11 #[.val (.ref a), .val (.long n'), .second, .val (.int (2 : Int32)), .val (.int (4 : Int32))] [(.ref u), (.int (4 : Int32))])) rfl rfl (hb hby d8_11) _ ?_
    rw [S23]
    show Steps p.tables e below (T22.setTop (mkF m 12 #[.val (.ref a), .val (.long n'), .second, .val (.int (2 : Int32)), .val (.int (4 : Int32))] [(.int (Nat.toInt32 4)), (.int (4 : Int32))])) _
    rw [show ((Nat.toInt32 4) : Int32) = (4 : Int32) from by decide]
    show Steps p.tables e below (T22.setTop (mkF m 12 #[.val (.ref a), .val (.long n'), .second, .val (.int (2 : Int32)), .val (.int (4 : Int32))] [(.int (4 : Int32)), (.int (4 : Int32))])) _
    refine XS.icmpYes X22.here hx rfl (pc0 := 12) (pc' := 60) rfl (hb hby d8_12) rfl (flt (show ¬ ((4 : Int32) < (4 : Int32)) from (by decide))).2.1 (by decide) (by decide) ?_
    show Steps p.tables e below (T22.setTop (mkF m 60 #[.val (.ref a), .val (.long n'), .second, .val (.int (2 : Int32)), .val (.int (4 : Int32))] [])) _
    refine XS.iloadN X22.here hx rfl (hb hby d8_60) rfl ?_
    show Steps p.tables e below (T22.setTop (mkF m 61 #[.val (.ref a), .val (.long n'), .second, .val (.int (2 : Int32)), .val (.int (4 : Int32))] [(.int (2 : Int32))])) _
    exact retI X22 hx Bd.returns (hb hby d8_61) hr
  · show Qrm8_2 Z a n' sl u g h0 n0 _ T22.heap _
    rw [e22]
    exact ⟨rfl, N0, rfl⟩
def Qrm7_2 (Z : State) (a : Addr) (x : Int64) (n' : Int64) (sl : Int64) (t : Addr) (u : Addr) (f : Nat → Int64) (g : Nat → Int64) (h0 : Heap) (n0 : Nat) (v : Option Value) (h : Heap) (L : List Loc) : Prop := v = some (.long (own_min (own_min x (f 1)) (f 3))) ∧ Fr n0 L ∧ h = h0
set_option maxRecDepth 65536 in
set_option maxHeartbeats 40000000 in
theorem rm7_2 (l : Launch) (Z : State) (a0 : Array Value) (hw : ∀ d ∈ tables_1, d.before a0 Z = true) (ws : List Jvm.Cond) (a : Addr) (x : Int64) (n' : Int64) (sl : Int64) (t : Addr) (u : Addr) (f : Nat → Int64) (g : Nat → Int64) (h0 : Heap) (n0 : Nat) (Z0 : n0 ≤ h0.size) (E_a : Exa Z h0 a "stillmark/StableTimes") (F_own_a : Fld Z h0 a "stillmark/StableTimes" "own" "I" (.int (0 : Int32))) (F_silence_a : Fld Z h0 a "stillmark/StableTimes" "silence" "J" (.long sl)) (F_heard_a : Fld Z h0 a "stillmark/StableTimes" "heard" "[J" (.ref u)) (A_u : Av Z h0 u .long 4 (own_l g)) (F_majority_a : Fld Z h0 a "stillmark/StableTimes" "majority" "I" (.int (3 : Int32))) (F_told_a : Fld Z h0 a "stillmark/StableTimes" "told" "[J" (.ref t)) (A_t : Av Z h0 t .long 4 (own_l f)) (hs1 : ¬ ((g 1) < (n' - sl))) (hs2 : (g 2) < (n' - sl)) (hs3 : ¬ ((g 3) < (n' - sl))) :
    MetFree l (⟨"stillmark/StableTimes", "raise", "(JJ)J"⟩ : MethodName) (head1 (Jvm.Cond.code (⟨"stillmark/StableTimes", "raise", "(JJ)J"⟩ : MethodName) prog_146_method_5_code 10 (some .long) :: ws) ({ frames := 1, cells := 0, slots := 0, locals := 16 } : Room)) (fun aa_ U => aa_ = #[(.ref a), (.long x), (.long n')] ∧ Z.Warmed39 U.vm ∧ U.heap = h0) (fun _ _ _ _ _ => True) (fun _ U o U' => ∃ v L, o = .returned v ∧ Qrm7_2 Z a x n' sl t u f g h0 n0 v U'.heap L ∧ FrameEnd U o U' L ({ frames := 1, cells := 0, slots := 0, locals := 16 } : Room).cells ({ frames := 1, cells := 0, slots := 0, locals := 16 } : Room).slots) := by
  refine MetFree.of_bodySF (plainFor_of_name pn_1) hisR ?_
  intro p e s m args below meth c s₁ Bd hml0 hP hK
  obtain ⟨rfl, hZ, hh⟩ := hP
  have hx := Bd.exec
  have hby := Bd.bytes
  have hml : c.maxLocals = 10 := hml0
  have hown : s.vm.findClass "stillmark/StableTimes" = some m.cls := findClass_of_methodNamed Bd.named
  have hnm := (name_of_methodNamed Bd.named Bd.method).1
  have X0 : Stand p l e ({ frames := 1, cells := 0, slots := 0, locals := 16 } : Room) s m #[(.ref a), (.long x), (.long n')] below meth c s₁ [] 0 0 := Stand.of_body Bd
  have e0 : s₁.heap = h0 := by rw [← hh, Bd.state]; rfl
  have N0 := Fr.nil n0
  have pre0 : ∀ tt_, Steps p.tables e below (s₁.setTop (mkF m 0 #[.val (.ref a), .val (.long x), .second, .val (.long n'), .second, .unset, .unset, .unset, .unset, .unset] [])) tt_ → Steps p.tables e below (s₁.setTop (entryFrame m #[(.ref a), (.long x), (.long n')] 10)) tt_ := fun tt_ kk_ => castTop (ef_7 m a x n') kk_
  obtain ⟨cq1, q1, q1'⟩ := E_a.cell
  obtain ⟨_, _, ⟨T1, L1, k1, n1⟩, -, X1, ⟨Lc1, hQ1, l1, y1, z1⟩, st1⟩ := X0.privateBack hx (y := (⟨"stillmark/StableTimes", "leftOut", "(J)I"⟩ : MethodName)) hown (mvT hZ (hw _ (List.mem_of_getElem? (i := 47) rfl))) (mvT hZ (hw _ (List.mem_of_getElem? (i := 48) rfl))) (own_selp (y := (⟨"stillmark/StableTimes", "leftOut", "(J)I"⟩ : MethodName)) (mvT hZ (hw _ (List.mem_of_getElem? (i := 3) rfl))) (Cond.privateMethod_at (mvP hZ (hw _ (List.mem_of_getElem? (i := 49) rfl)) (args := #[]))) (mvT hZ (hw _ (List.mem_of_getElem? (i := 48) rfl))) (by decide)) (Cond.privateMethod_at (mvP hZ (hw _ (List.mem_of_getElem? (i := 49) rfl)) (args := #[]))) (mvT hZ (hw _ (List.mem_of_getElem? (i := 50) rfl))) (by decide) (backOf (W := 0) (rm8_2 l Z a0 hw [] a n' sl u g h0 n0 Z0 E_a F_own_a F_silence_a F_heard_a A_u hs1 hs2 hs3) hZ (hw _ (List.mem_of_getElem? (i := 50) rfl)) (hw _ (List.mem_of_getElem? (i := 4) rfl)) (by decide) (by decide)) (g := (mkF m 2 #[.val (.ref a), .val (.long x), .second, .val (.long n'), .second, .unset, .unset, .unset, .unset, .unset] [(.long n'), (.ref a)])) rfl (by rw [hml]; rfl) (Steps.refl _) (a := a) (by rw [e0]; exact q1) q1' (argsL := [(.long n')]) (rest := []) (lenOf pd_2 rfl) rfl (by show 2 * 0 + _ ≤ _; exact Nat.le_of_eq rfl) (hb hby d7_2) (fun _ _ => ⟨rfl, e0, (by decide : 0 + 0 ≤ _), (by decide : 0 + 0 ≤ _)⟩)
  dsimp only [Pt.U, Pt.locs, Pt.cells, Pt.slots] at X1 l1 y1 z1 st1 hQ1
  subst l1 y1 z1
  obtain ⟨rfl, N1q, e1q⟩ := hQ1
  have N1 := Fr.app N0 N1q
  obtain ⟨T2, X2, e2, st2⟩ := getF X1 hx hZ hown (host := "") (Or.inl (hw _ (List.mem_of_getElem? (i := 18) rfl))) Via.refl e1q F_told_a (g := (mkF m 19 #[.val (.ref a), .val (.long x), .second, .val (.long n'), .second, .val (.int (2 : Int32)), .val (.long x), .second, .val (.int (1 : Int32)), .val (.int (0 : Int32))] [(.ref a), (.int (0 : Int32))])) rfl rfl (hb hby d7_19)
  obtain ⟨cl3, Ar3, S3, -⟩ := id A_t
  obtain ⟨T4, X4, e4, st4⟩ := getF X2 hx hZ hown (host := "") (Or.inl (hw _ (List.mem_of_getElem? (i := 11) rfl))) Via.refl e2 F_own_a (g := (mkF m 29 #[.val (.ref a), .val (.long x), .second, .val (.long n'), .second, .val (.int (2 : Int32)), .val (.long x), .second, .val (.int (1 : Int32)), .val (.int (0 : Int32))] [(.ref a), (.int (0 : Int32))])) rfl rfl (hb hby d7_29)
  obtain ⟨T5, X5, e5, st5⟩ := getF X4 hx hZ hown (host := "") (Or.inl (hw _ (List.mem_of_getElem? (i := 18) rfl))) Via.refl e4 F_told_a (g := (mkF m 19 #[.val (.ref a), .val (.long x), .second, .val (.long n'), .second, .val (.int (2 : Int32)), .val (.long x), .second, .val (.int (1 : Int32)), .val (.int (1 : Int32))] [(.ref a), (.int (1 : Int32))])) rfl rfl (hb hby d7_19)
  obtain ⟨cl6, Ar6, S6, -⟩ := id A_t
  obtain ⟨T7, X7, e7, st7⟩ := getF X5 hx hZ hown (host := "") (Or.inl (hw _ (List.mem_of_getElem? (i := 11) rfl))) Via.refl e5 F_own_a (g := (mkF m 29 #[.val (.ref a), .val (.long x), .second, .val (.long n'), .second, .val (.int (2 : Int32)), .val (.long x), .second, .val (.int (1 : Int32)), .val (.int (1 : Int32))] [(.ref a), (.int (1 : Int32))])) rfl rfl (hb hby d7_29)
  obtain ⟨T8, X8, e8, st8⟩ := getF X7 hx hZ hown (host := "") (Or.inl (hw _ (List.mem_of_getElem? (i := 18) rfl))) Via.refl e7 F_told_a (g := (mkF m 45 #[.val (.ref a), .val (.long x), .second, .val (.long n'), .second, .val (.int (2 : Int32)), .val (.long x), .second, .val (.int (1 : Int32)), .val (.int (1 : Int32))] [(.ref a), (.long x)])) rfl rfl (hb hby d7_45)
  obtain ⟨cl9, Ar9, S9, H9⟩ := id A_t
  have hj9 : (1 : Int32).toNatClampNeg = 1 := (by decide)
  have hin9 : ¬ ((1 : Int32) < 0 ∨ cl9.slots.size ≤ ((1 : Int32)).toNatClampNeg) := by rw [S9, hj9]; exact fun q => q.elim (by decide) (Nat.not_le.mpr (by decide : 1 < 4))
  have hat9 : cl9.slots[((1 : Int32)).toNatClampNeg]? = some (.long (f 1)) := by rw [hj9, H9 _ (by decide : 1 < 4)]; exact congrArg some (rfl)
  obtain ⟨_, _, ⟨T10, L10, k10, n10⟩, -, X10, ⟨Lc10, hQ10, l10, y10, z10⟩, st10⟩ := Jvm.LawKit.callS X8 hx (y := (⟨"java/lang/Math", "min", "(JJ)J"⟩ : MethodName)) hown (mvT hZ (hw _ (List.mem_of_getElem? (i := 51) rfl))) (mvT hZ (hw _ (List.mem_of_getElem? (i := 52) rfl))) (mvT hZ (hw _ (List.mem_of_getElem? (i := 53) rfl))) (mvT hZ (hw _ (List.mem_of_getElem? (i := 54) rfl))) (by decide) (backOf (W := 0) (rm9 l Z a0 hw [] x (f 1) h0 n0 Z0 ) hZ (hw _ (List.mem_of_getElem? (i := 54) rfl)) (hw _ (List.mem_of_getElem? (i := 53) rfl)) (by decide) (by decide)) (g := (mkF m 51 #[.val (.ref a), .val (.long x), .second, .val (.long n'), .second, .val (.int (2 : Int32)), .val (.long x), .second, .val (.int (1 : Int32)), .val (.int (1 : Int32))] [(.long (f 1)), (.long x)])) rfl (by rw [hml]; rfl) (argsL := [(.long x), (.long (f 1))]) (rest := []) (lenOf pd_3 rfl) rfl (by show 2 * 0 + _ ≤ _; exact Nat.le_of_eq rfl) (hb hby d7_51) (fun _ _ => ⟨rfl, e8, (by decide : 0 + 0 ≤ _), (by decide : 0 + 0 ≤ _)⟩)
  dsimp only [Pt.U, Pt.locs, Pt.cells, Pt.slots] at X10 l10 y10 z10 st10 hQ10
  subst l10 y10 z10
  obtain ⟨rfl, N10q, e10q⟩ := hQ10
  have N10 := Fr.app N1 N10q
  obtain ⟨T11, X11, e11, st11⟩ := getF X10 hx hZ hown (host := "") (Or.inl (hw _ (List.mem_of_getElem? (i := 18) rfl))) Via.refl e10q F_told_a (g := (mkF m 19 #[.val (.ref a), .val (.long x), .second, .val (.long n'), .second, .val (.int (2 : Int32)), .val (.long (own_min x (f 1))), .second, .val (.int (2 : Int32)), .val (.int (2 : Int32))] [(.ref a), (.int (2 : Int32))])) rfl rfl (hb hby d7_19)
  obtain ⟨cl12, Ar12, S12, -⟩ := id A_t
  obtain ⟨T13, X13, e13, st13⟩ := getF X11 hx hZ hown (host := "") (Or.inl (hw _ (List.mem_of_getElem? (i := 11) rfl))) Via.refl e11 F_own_a (g := (mkF m 29 #[.val (.ref a), .val (.long x), .second, .val (.long n'), .second, .val (.int (2 : Int32)), .val (.long (own_min x (f 1))), .second, .val (.int (2 : Int32)), .val (.int (2 : Int32))] [(.ref a), (.int (2 : Int32))])) rfl rfl (hb hby d7_29)
  obtain ⟨T14, X14, e14, st14⟩ := getF X13 hx hZ hown (host := "") (Or.inl (hw _ (List.mem_of_getElem? (i := 18) rfl))) Via.refl e13 F_told_a (g := (mkF m 19 #[.val (.ref a), .val (.long x), .second, .val (.long n'), .second, .val (.int (2 : Int32)), .val (.long (own_min x (f 1))), .second, .val (.int (2 : Int32)), .val (.int (3 : Int32))] [(.ref a), (.int (3 : Int32))])) rfl rfl (hb hby d7_19)
  obtain ⟨cl15, Ar15, S15, -⟩ := id A_t
  obtain ⟨T16, X16, e16, st16⟩ := getF X14 hx hZ hown (host := "") (Or.inl (hw _ (List.mem_of_getElem? (i := 11) rfl))) Via.refl e14 F_own_a (g := (mkF m 29 #[.val (.ref a), .val (.long x), .second, .val (.long n'), .second, .val (.int (2 : Int32)), .val (.long (own_min x (f 1))), .second, .val (.int (2 : Int32)), .val (.int (3 : Int32))] [(.ref a), (.int (3 : Int32))])) rfl rfl (hb hby d7_29)
  obtain ⟨T17, X17, e17, st17⟩ := getF X16 hx hZ hown (host := "") (Or.inl (hw _ (List.mem_of_getElem? (i := 18) rfl))) Via.refl e16 F_told_a (g := (mkF m 45 #[.val (.ref a), .val (.long x), .second, .val (.long n'), .second, .val (.int (2 : Int32)), .val (.long (own_min x (f 1))), .second, .val (.int (2 : Int32)), .val (.int (3 : Int32))] [(.ref a), (.long (own_min x (f 1)))])) rfl rfl (hb hby d7_45)
  obtain ⟨cl18, Ar18, S18, H18⟩ := id A_t
  have hj18 : (3 : Int32).toNatClampNeg = 3 := (by decide)
  have hin18 : ¬ ((3 : Int32) < 0 ∨ cl18.slots.size ≤ ((3 : Int32)).toNatClampNeg) := by rw [S18, hj18]; exact fun q => q.elim (by decide) (Nat.not_le.mpr (by decide : 3 < 4))
  have hat18 : cl18.slots[((3 : Int32)).toNatClampNeg]? = some (.long (f 3)) := by rw [hj18, H18 _ (by decide : 3 < 4)]; exact congrArg some (rfl)
  obtain ⟨_, _, ⟨T19, L19, k19, n19⟩, -, X19, ⟨Lc19, hQ19, l19, y19, z19⟩, st19⟩ := Jvm.LawKit.callS X17 hx (y := (⟨"java/lang/Math", "min", "(JJ)J"⟩ : MethodName)) hown (mvT hZ (hw _ (List.mem_of_getElem? (i := 51) rfl))) (mvT hZ (hw _ (List.mem_of_getElem? (i := 52) rfl))) (mvT hZ (hw _ (List.mem_of_getElem? (i := 53) rfl))) (mvT hZ (hw _ (List.mem_of_getElem? (i := 54) rfl))) (by decide) (backOf (W := 0) (rm9 l Z a0 hw [] (own_min x (f 1)) (f 3) h0 n0 Z0 ) hZ (hw _ (List.mem_of_getElem? (i := 54) rfl)) (hw _ (List.mem_of_getElem? (i := 53) rfl)) (by decide) (by decide)) (g := (mkF m 51 #[.val (.ref a), .val (.long x), .second, .val (.long n'), .second, .val (.int (2 : Int32)), .val (.long (own_min x (f 1))), .second, .val (.int (2 : Int32)), .val (.int (3 : Int32))] [(.long (f 3)), (.long (own_min x (f 1)))])) rfl (by rw [hml]; rfl) (argsL := [(.long (own_min x (f 1))), (.long (f 3))]) (rest := []) (lenOf pd_3 rfl) rfl (by show 2 * 0 + _ ≤ _; exact Nat.le_of_eq rfl) (hb hby d7_51) (fun _ _ => ⟨rfl, e17, (by decide : 0 + 0 ≤ _), (by decide : 0 + 0 ≤ _)⟩)
  dsimp only [Pt.U, Pt.locs, Pt.cells, Pt.slots] at X19 l19 y19 z19 st19 hQ19
  subst l19 y19 z19
  obtain ⟨rfl, N19q, e19q⟩ := hQ19
  have N19 := Fr.app N10 N19q
  obtain ⟨T20, X20, e20, st20⟩ := getF X19 hx hZ hown (host := "") (Or.inl (hw _ (List.mem_of_getElem? (i := 18) rfl))) Via.refl e19q F_told_a (g := (mkF m 19 #[.val (.ref a), .val (.long x), .second, .val (.long n'), .second, .val (.int (2 : Int32)), .val (.long (own_min (own_min x (f 1)) (f 3))), .second, .val (.int (3 : Int32)), .val (.int (4 : Int32))] [(.ref a), (.int (4 : Int32))])) rfl rfl (hb hby d7_19)
  obtain ⟨cl21, Ar21, S21, -⟩ := id A_t
  obtain ⟨T22, X22, e22, st22⟩ := getF X20 hx hZ hown (host := "") (Or.inl (hw _ (List.mem_of_getElem? (i := 13) rfl))) Via.refl e20 F_majority_a (g := (mkF m 68 #[.val (.ref a), .val (.long x), .second, .val (.long n'), .second, .val (.int (2 : Int32)), .val (.long (own_min (own_min x (f 1)) (f 3))), .second, .val (.int (3 : Int32)), .val (.int (4 : Int32))] [(.ref a), (.int (3 : Int32))])) rfl rfl (hb hby d7_68)
  obtain ⟨fs, hr, hrun, hended, hW, hsame⟩ := X22.leave (v := some (.long (own_min (own_min x (f 1)) (f 3)))) (fun h => by rw [Bd.returns] at h; cases h)
  refine ⟨_, _, pre0 _ ?_, hrun, hended, _, _, rfl, ?_, ⟨_, rfl⟩, hW, hsame.mono (by decide) (by decide)⟩
  · show Steps p.tables e below (s₁.setTop (mkF m 0 #[.val (.ref a), .val (.long x), .second, .val (.long n'), .second, .unset, .unset, .unset, .unset, .unset] [])) _
    refine XS.aloadN X0.here hx rfl (hb hby d7_0) rfl rfl ?_
    show Steps p.tables e below (s₁.setTop (mkF m 1 #[.val (.ref a), .val (.long x), .second, .val (.long n'), .second, .unset, .unset, .unset, .unset, .unset] [(.ref a)])) _
    refine XS.lloadN X0.here hx rfl (hb hby d7_1) rfl ?_
    show Steps p.tables e below (s₁.setTop (mkF m 2 #[.val (.ref a), .val (.long x), .second, .val (.long n'), .second, .unset, .unset, .unset, .unset, .unset] [(.long n'), (.ref a)])) _
    refine st1.trans ?_
    show Steps p.tables e below (T1.setTop (mkF m 5 #[.val (.ref a), .val (.long x), .second, .val (.long n'), .second, .unset, .unset, .unset, .unset, .unset] [(.int (2 : Int32))])) _
    refine XS.istore X1.here hx rfl (hb hby d7_5) rfl (l' := #[.val (.ref a), .val (.long x), .second, .val (.long n'), .second, .val (.int (2 : Int32)), .unset, .unset, .unset, .unset]) rfl ?_
    show Steps p.tables e below (T1.setTop (mkF m 7 #[.val (.ref a), .val (.long x), .second, .val (.long n'), .second, .val (.int (2 : Int32)), .unset, .unset, .unset, .unset] [])) _
    refine XS.lloadN X1.here hx rfl (hb hby d7_7) rfl ?_
    show Steps p.tables e below (T1.setTop (mkF m 8 #[.val (.ref a), .val (.long x), .second, .val (.long n'), .second, .val (.int (2 : Int32)), .unset, .unset, .unset, .unset] [(.long x)])) _
    refine XS.lstore X1.here hx rfl (hb hby d7_8) rfl (l' := #[.val (.ref a), .val (.long x), .second, .val (.long n'), .second, .val (.int (2 : Int32)), .val (.long x), .second, .unset, .unset]) rfl ?_
    show Steps p.tables e below (T1.setTop (mkF m 10 #[.val (.ref a), .val (.long x), .second, .val (.long n'), .second, .val (.int (2 : Int32)), .val (.long x), .second, .unset, .unset] [])) _
    refine XS.iconst X1.here hx rfl (hb hby d7_10) ?_
    show Steps p.tables e below (T1.setTop (mkF m 11 #[.val (.ref a), .val (.long x), .second, .val (.long n'), .second, .val (.int (2 : Int32)), .val (.long x), .second, .unset, .unset] [(.int (1 : Int32))])) _
    refine XS.istore X1.here hx rfl (hb hby d7_11) rfl (l' := #[.val (.ref a), .val (.long x), .second, .val (.long n'), .second, .val (.int (2 : Int32)), .val (.long x), .second, .val (.int (1 : Int32)), .unset]) rfl ?_
    show Steps p.tables e below (T1.setTop (mkF m 13 #[.val (.ref a), .val (.long x), .second, .val (.long n'), .second, .val (.int (2 : Int32)), .val (.long x), .second, .val (.int (1 : Int32)), .unset] [])) _
    refine XS.iconst X1.here hx rfl (hb hby d7_13) ?_
    show Steps p.tables e below (T1.setTop (mkF m 14 #[.val (.ref a), .val (.long x), .second, .val (.long n'), .second, .val (.int (2 : Int32)), .val (.long x), .second, .val (.int (1 : Int32)), .unset] [(.int (0 : Int32))])) _
    refine XS.istore X1.here hx rfl (hb hby d7_14) rfl (l' := #[.val (.ref a), .val (.long x), .second, .val (.long n'), .second, .val (.int (2 : Int32)), .val (.long x), .second, .val (.int (1 : Int32)), .val (.int (0 : Int32))]) rfl ?_
    show Steps p.tables e below (T1.setTop (mkF m 16 #[.val (.ref a), .val (.long x), .second, .val (.long n'), .second, .val (.int (2 : Int32)), .val (.long x), .second, .val (.int (1 : Int32)), .val (.int (0 : Int32))] [])) _
    refine XS.iload X1.here hx rfl (hb hby d7_16) rfl ?_
    show Steps p.tables e below (T1.setTop (mkF m 18 #[.val (.ref a), .val (.long x), .second, .val (.long n'), .second, .val (.int (2 : Int32)), .val (.long x), .second, .val (.int (1 : Int32)), .val (.int (0 : Int32))] [(.int (0 : Int32))])) _
    refine XS.aloadN X1.here hx rfl (hb hby d7_18) rfl rfl ?_
    show Steps p.tables e below (T1.setTop (mkF m 19 #[.val (.ref a), .val (.long x), .second, .val (.long n'), .second, .val (.int (2 : Int32)), .val (.long x), .second, .val (.int (1 : Int32)), .val (.int (0 : Int32))] [(.ref a), (.int (0 : Int32))])) _
    refine st2 _ ?_
    show Steps p.tables e below (T2.setTop (mkF m 22 #[.val (.ref a), .val (.long x), .second, .val (.long n'), .second, .val (.int (2 : Int32)), .val (.long x), .second, .val (.int (1 : Int32)), .val (.int (0 : Int32))] [(.ref t), (.int (0 : Int32))])) _
    refine X2.arraylength hx (by rw [e2]; exact Ar3.1) (State.isArrayOf_alike hZ.alike Ar3.2.1) (g := (mkF m 22 #[.val (.ref a), .val (.long x), .second, .val (.long n'), .second, .val (.int (2 : Int32)), .val (.long x), .second, .val (.int (1 : Int32)), .val (.int (0 : Int32))] [(.ref t), (.int (0 : Int32))])) rfl rfl (hb hby d7_22) _ ?_
    rw [S3]
    show Steps p.tables e below (T2.setTop (mkF m 23 #[.val (.ref a), .val (.long x), .second, .val (.long n'), .second, .val (.int (2 : Int32)), .val (.long x), .second, .val (.int (1 : Int32)), .val (.int (0 : Int32))] [(.int (Nat.toInt32 4)), (.int (0 : Int32))])) _
    rw [show ((Nat.toInt32 4) : Int32) = (4 : Int32) from by decide]
    show Steps p.tables e below (T2.setTop (mkF m 23 #[.val (.ref a), .val (.long x), .second, .val (.long n'), .second, .val (.int (2 : Int32)), .val (.long x), .second, .val (.int (1 : Int32)), .val (.int (0 : Int32))] [(.int (4 : Int32)), (.int (0 : Int32))])) _
    refine XS.icmpNo X2.here hx rfl (hb hby d7_23) rfl (tlt (show (0 : Int32) < (4 : Int32) from (by decide))).2.1 ?_
    show Steps p.tables e below (T2.setTop (mkF m 26 #[.val (.ref a), .val (.long x), .second, .val (.long n'), .second, .val (.int (2 : Int32)), .val (.long x), .second, .val (.int (1 : Int32)), .val (.int (0 : Int32))] [])) _
    refine XS.iload X2.here hx rfl (hb hby d7_26) rfl ?_
    show Steps p.tables e below (T2.setTop (mkF m 28 #[.val (.ref a), .val (.long x), .second, .val (.long n'), .second, .val (.int (2 : Int32)), .val (.long x), .second, .val (.int (1 : Int32)), .val (.int (0 : Int32))] [(.int (0 : Int32))])) _
    refine XS.aloadN X2.here hx rfl (hb hby d7_28) rfl rfl ?_
    show Steps p.tables e below (T2.setTop (mkF m 29 #[.val (.ref a), .val (.long x), .second, .val (.long n'), .second, .val (.int (2 : Int32)), .val (.long x), .second, .val (.int (1 : Int32)), .val (.int (0 : Int32))] [(.ref a), (.int (0 : Int32))])) _
    refine st4 _ ?_
    show Steps p.tables e below (T4.setTop (mkF m 32 #[.val (.ref a), .val (.long x), .second, .val (.long n'), .second, .val (.int (2 : Int32)), .val (.long x), .second, .val (.int (1 : Int32)), .val (.int (0 : Int32))] [(.int (0 : Int32)), (.int (0 : Int32))])) _
    refine XS.icmpYes X4.here hx rfl (pc0 := 32) (pc' := 59) rfl (hb hby d7_32) rfl (teq (show (0 : Int32) = (0 : Int32) from rfl)).1 (by decide) (by decide) ?_
    show Steps p.tables e below (T4.setTop (mkF m 59 #[.val (.ref a), .val (.long x), .second, .val (.long n'), .second, .val (.int (2 : Int32)), .val (.long x), .second, .val (.int (1 : Int32)), .val (.int (0 : Int32))] [])) _
    refine XS.iinc X4.here hx rfl (hb hby d7_59) rfl (l' := #[.val (.ref a), .val (.long x), .second, .val (.long n'), .second, .val (.int (2 : Int32)), .val (.long x), .second, .val (.int (1 : Int32)), .val (.int ((0 : Int32) + (1 : Int32)))]) rfl ?_
    show Steps p.tables e below (T4.setTop (mkF m 62 #[.val (.ref a), .val (.long x), .second, .val (.long n'), .second, .val (.int (2 : Int32)), .val (.long x), .second, .val (.int (1 : Int32)), .val (.int ((0 : Int32) + (1 : Int32)))] [])) _
    rw [show (((0 : Int32) + (1 : Int32)) : Int32) = (1 : Int32) from by decide]
    show Steps p.tables e below (T4.setTop (mkF m 62 #[.val (.ref a), .val (.long x), .second, .val (.long n'), .second, .val (.int (2 : Int32)), .val (.long x), .second, .val (.int (1 : Int32)), .val (.int (1 : Int32))] [])) _
    refine XS.goto X4.here hx rfl (pc0 := 62) (pc' := 16) rfl (hb hby d7_62) (by decide) (by decide) ?_
    show Steps p.tables e below (T4.setTop (mkF m 16 #[.val (.ref a), .val (.long x), .second, .val (.long n'), .second, .val (.int (2 : Int32)), .val (.long x), .second, .val (.int (1 : Int32)), .val (.int (1 : Int32))] [])) _
    refine XS.iload X4.here hx rfl (hb hby d7_16) rfl ?_
    show Steps p.tables e below (T4.setTop (mkF m 18 #[.val (.ref a), .val (.long x), .second, .val (.long n'), .second, .val (.int (2 : Int32)), .val (.long x), .second, .val (.int (1 : Int32)), .val (.int (1 : Int32))] [(.int (1 : Int32))])) _
    refine XS.aloadN X4.here hx rfl (hb hby d7_18) rfl rfl ?_
    show Steps p.tables e below (T4.setTop (mkF m 19 #[.val (.ref a), .val (.long x), .second, .val (.long n'), .second, .val (.int (2 : Int32)), .val (.long x), .second, .val (.int (1 : Int32)), .val (.int (1 : Int32))] [(.ref a), (.int (1 : Int32))])) _
    refine st5 _ ?_
    show Steps p.tables e below (T5.setTop (mkF m 22 #[.val (.ref a), .val (.long x), .second, .val (.long n'), .second, .val (.int (2 : Int32)), .val (.long x), .second, .val (.int (1 : Int32)), .val (.int (1 : Int32))] [(.ref t), (.int (1 : Int32))])) _
    refine X5.arraylength hx (by rw [e5]; exact Ar6.1) (State.isArrayOf_alike hZ.alike Ar6.2.1) (g := (mkF m 22 #[.val (.ref a), .val (.long x), .second, .val (.long n'), .second, .val (.int (2 : Int32)), .val (.long x), .second, .val (.int (1 : Int32)), .val (.int (1 : Int32))] [(.ref t), (.int (1 : Int32))])) rfl rfl (hb hby d7_22) _ ?_
    rw [S6]
    show Steps p.tables e below (T5.setTop (mkF m 23 #[.val (.ref a), .val (.long x), .second, .val (.long n'), .second, .val (.int (2 : Int32)), .val (.long x), .second, .val (.int (1 : Int32)), .val (.int (1 : Int32))] [(.int (Nat.toInt32 4)), (.int (1 : Int32))])) _
    rw [show ((Nat.toInt32 4) : Int32) = (4 : Int32) from by decide]
    show Steps p.tables e below (T5.setTop (mkF m 23 #[.val (.ref a), .val (.long x), .second, .val (.long n'), .second, .val (.int (2 : Int32)), .val (.long x), .second, .val (.int (1 : Int32)), .val (.int (1 : Int32))] [(.int (4 : Int32)), (.int (1 : Int32))])) _
    refine XS.icmpNo X5.here hx rfl (hb hby d7_23) rfl (tlt (show (1 : Int32) < (4 : Int32) from (by decide))).2.1 ?_
    show Steps p.tables e below (T5.setTop (mkF m 26 #[.val (.ref a), .val (.long x), .second, .val (.long n'), .second, .val (.int (2 : Int32)), .val (.long x), .second, .val (.int (1 : Int32)), .val (.int (1 : Int32))] [])) _
    refine XS.iload X5.here hx rfl (hb hby d7_26) rfl ?_
    show Steps p.tables e below (T5.setTop (mkF m 28 #[.val (.ref a), .val (.long x), .second, .val (.long n'), .second, .val (.int (2 : Int32)), .val (.long x), .second, .val (.int (1 : Int32)), .val (.int (1 : Int32))] [(.int (1 : Int32))])) _
    refine XS.aloadN X5.here hx rfl (hb hby d7_28) rfl rfl ?_
    show Steps p.tables e below (T5.setTop (mkF m 29 #[.val (.ref a), .val (.long x), .second, .val (.long n'), .second, .val (.int (2 : Int32)), .val (.long x), .second, .val (.int (1 : Int32)), .val (.int (1 : Int32))] [(.ref a), (.int (1 : Int32))])) _
    refine st7 _ ?_
    show Steps p.tables e below (T7.setTop (mkF m 32 #[.val (.ref a), .val (.long x), .second, .val (.long n'), .second, .val (.int (2 : Int32)), .val (.long x), .second, .val (.int (1 : Int32)), .val (.int (1 : Int32))] [(.int (0 : Int32)), (.int (1 : Int32))])) _
    refine XS.icmpNo X7.here hx rfl (hb hby d7_32) rfl (feq (show ¬ ((1 : Int32) = (0 : Int32)) from (by decide))).1 ?_
    show Steps p.tables e below (T7.setTop (mkF m 35 #[.val (.ref a), .val (.long x), .second, .val (.long n'), .second, .val (.int (2 : Int32)), .val (.long x), .second, .val (.int (1 : Int32)), .val (.int (1 : Int32))] [])) _
    refine XS.iload X7.here hx rfl (hb hby d7_35) rfl ?_
    show Steps p.tables e below (T7.setTop (mkF m 37 #[.val (.ref a), .val (.long x), .second, .val (.long n'), .second, .val (.int (2 : Int32)), .val (.long x), .second, .val (.int (1 : Int32)), .val (.int (1 : Int32))] [(.int (1 : Int32))])) _
    refine XS.iload X7.here hx rfl (hb hby d7_37) rfl ?_
    show Steps p.tables e below (T7.setTop (mkF m 39 #[.val (.ref a), .val (.long x), .second, .val (.long n'), .second, .val (.int (2 : Int32)), .val (.long x), .second, .val (.int (1 : Int32)), .val (.int (1 : Int32))] [(.int (2 : Int32)), (.int (1 : Int32))])) _
    refine XS.icmpNo X7.here hx rfl (hb hby d7_39) rfl (feq (show ¬ ((1 : Int32) = (2 : Int32)) from (by decide))).1 ?_
    show Steps p.tables e below (T7.setTop (mkF m 42 #[.val (.ref a), .val (.long x), .second, .val (.long n'), .second, .val (.int (2 : Int32)), .val (.long x), .second, .val (.int (1 : Int32)), .val (.int (1 : Int32))] [])) _
    refine XS.lload X7.here hx rfl (hb hby d7_42) rfl ?_
    show Steps p.tables e below (T7.setTop (mkF m 44 #[.val (.ref a), .val (.long x), .second, .val (.long n'), .second, .val (.int (2 : Int32)), .val (.long x), .second, .val (.int (1 : Int32)), .val (.int (1 : Int32))] [(.long x)])) _
    refine XS.aloadN X7.here hx rfl (hb hby d7_44) rfl rfl ?_
    show Steps p.tables e below (T7.setTop (mkF m 45 #[.val (.ref a), .val (.long x), .second, .val (.long n'), .second, .val (.int (2 : Int32)), .val (.long x), .second, .val (.int (1 : Int32)), .val (.int (1 : Int32))] [(.ref a), (.long x)])) _
    refine st8 _ ?_
    show Steps p.tables e below (T8.setTop (mkF m 48 #[.val (.ref a), .val (.long x), .second, .val (.long n'), .second, .val (.int (2 : Int32)), .val (.long x), .second, .val (.int (1 : Int32)), .val (.int (1 : Int32))] [(.ref t), (.long x)])) _
    refine XS.iload X8.here hx rfl (hb hby d7_48) rfl ?_
    show Steps p.tables e below (T8.setTop (mkF m 50 #[.val (.ref a), .val (.long x), .second, .val (.long n'), .second, .val (.int (2 : Int32)), .val (.long x), .second, .val (.int (1 : Int32)), .val (.int (1 : Int32))] [(.int (1 : Int32)), (.ref t), (.long x)])) _
    refine X8.laload hx (j := (1 : Int32)) (v := (.long (f 1))) (by rw [e8]; exact Ar9.1) (State.isArrayOf_alike hZ.alike Ar9.2.1) Ar9.2.2 hin9 hat9 (g := (mkF m 50 #[.val (.ref a), .val (.long x), .second, .val (.long n'), .second, .val (.int (2 : Int32)), .val (.long x), .second, .val (.int (1 : Int32)), .val (.int (1 : Int32))] [(.int (1 : Int32)), (.ref t), (.long x)])) rfl rfl (hb hby d7_50) _ ?_
    show Steps p.tables e below (T8.setTop (mkF m 51 #[.val (.ref a), .val (.long x), .second, .val (.long n'), .second, .val (.int (2 : Int32)), .val (.long x), .second, .val (.int (1 : Int32)), .val (.int (1 : Int32))] [(.long (f 1)), (.long x)])) _
    refine st10 _ ?_
    show Steps p.tables e below (T10.setTop (mkF m 54 #[.val (.ref a), .val (.long x), .second, .val (.long n'), .second, .val (.int (2 : Int32)), .val (.long x), .second, .val (.int (1 : Int32)), .val (.int (1 : Int32))] [(.long (own_min x (f 1)))])) _
    refine XS.lstore X10.here hx rfl (hb hby d7_54) rfl (l' := #[.val (.ref a), .val (.long x), .second, .val (.long n'), .second, .val (.int (2 : Int32)), .val (.long (own_min x (f 1))), .second, .val (.int (1 : Int32)), .val (.int (1 : Int32))]) rfl ?_
    show Steps p.tables e below (T10.setTop (mkF m 56 #[.val (.ref a), .val (.long x), .second, .val (.long n'), .second, .val (.int (2 : Int32)), .val (.long (own_min x (f 1))), .second, .val (.int (1 : Int32)), .val (.int (1 : Int32))] [])) _
    refine XS.iinc X10.here hx rfl (hb hby d7_56) rfl (l' := #[.val (.ref a), .val (.long x), .second, .val (.long n'), .second, .val (.int (2 : Int32)), .val (.long (own_min x (f 1))), .second, .val (.int ((1 : Int32) + (1 : Int32))), .val (.int (1 : Int32))]) rfl ?_
    show Steps p.tables e below (T10.setTop (mkF m 59 #[.val (.ref a), .val (.long x), .second, .val (.long n'), .second, .val (.int (2 : Int32)), .val (.long (own_min x (f 1))), .second, .val (.int ((1 : Int32) + (1 : Int32))), .val (.int (1 : Int32))] [])) _
    rw [show (((1 : Int32) + (1 : Int32)) : Int32) = (2 : Int32) from by decide]
    show Steps p.tables e below (T10.setTop (mkF m 59 #[.val (.ref a), .val (.long x), .second, .val (.long n'), .second, .val (.int (2 : Int32)), .val (.long (own_min x (f 1))), .second, .val (.int (2 : Int32)), .val (.int (1 : Int32))] [])) _
    refine XS.iinc X10.here hx rfl (hb hby d7_59) rfl (l' := #[.val (.ref a), .val (.long x), .second, .val (.long n'), .second, .val (.int (2 : Int32)), .val (.long (own_min x (f 1))), .second, .val (.int (2 : Int32)), .val (.int ((1 : Int32) + (1 : Int32)))]) rfl ?_
    show Steps p.tables e below (T10.setTop (mkF m 62 #[.val (.ref a), .val (.long x), .second, .val (.long n'), .second, .val (.int (2 : Int32)), .val (.long (own_min x (f 1))), .second, .val (.int (2 : Int32)), .val (.int ((1 : Int32) + (1 : Int32)))] [])) _
    rw [show (((1 : Int32) + (1 : Int32)) : Int32) = (2 : Int32) from by decide]
    show Steps p.tables e below (T10.setTop (mkF m 62 #[.val (.ref a), .val (.long x), .second, .val (.long n'), .second, .val (.int (2 : Int32)), .val (.long (own_min x (f 1))), .second, .val (.int (2 : Int32)), .val (.int (2 : Int32))] [])) _
    refine XS.goto X10.here hx rfl (pc0 := 62) (pc' := 16) rfl (hb hby d7_62) (by decide) (by decide) ?_
    show Steps p.tables e below (T10.setTop (mkF m 16 #[.val (.ref a), .val (.long x), .second, .val (.long n'), .second, .val (.int (2 : Int32)), .val (.long (own_min x (f 1))), .second, .val (.int (2 : Int32)), .val (.int (2 : Int32))] [])) _
    refine XS.iload X10.here hx rfl (hb hby d7_16) rfl ?_
    show Steps p.tables e below (T10.setTop (mkF m 18 #[.val (.ref a), .val (.long x), .second, .val (.long n'), .second, .val (.int (2 : Int32)), .val (.long (own_min x (f 1))), .second, .val (.int (2 : Int32)), .val (.int (2 : Int32))] [(.int (2 : Int32))])) _
    refine XS.aloadN X10.here hx rfl (hb hby d7_18) rfl rfl ?_
    show Steps p.tables e below (T10.setTop (mkF m 19 #[.val (.ref a), .val (.long x), .second, .val (.long n'), .second, .val (.int (2 : Int32)), .val (.long (own_min x (f 1))), .second, .val (.int (2 : Int32)), .val (.int (2 : Int32))] [(.ref a), (.int (2 : Int32))])) _
    refine st11 _ ?_
    show Steps p.tables e below (T11.setTop (mkF m 22 #[.val (.ref a), .val (.long x), .second, .val (.long n'), .second, .val (.int (2 : Int32)), .val (.long (own_min x (f 1))), .second, .val (.int (2 : Int32)), .val (.int (2 : Int32))] [(.ref t), (.int (2 : Int32))])) _
    refine X11.arraylength hx (by rw [e11]; exact Ar12.1) (State.isArrayOf_alike hZ.alike Ar12.2.1) (g := (mkF m 22 #[.val (.ref a), .val (.long x), .second, .val (.long n'), .second, .val (.int (2 : Int32)), .val (.long (own_min x (f 1))), .second, .val (.int (2 : Int32)), .val (.int (2 : Int32))] [(.ref t), (.int (2 : Int32))])) rfl rfl (hb hby d7_22) _ ?_
    rw [S12]
    show Steps p.tables e below (T11.setTop (mkF m 23 #[.val (.ref a), .val (.long x), .second, .val (.long n'), .second, .val (.int (2 : Int32)), .val (.long (own_min x (f 1))), .second, .val (.int (2 : Int32)), .val (.int (2 : Int32))] [(.int (Nat.toInt32 4)), (.int (2 : Int32))])) _
    rw [show ((Nat.toInt32 4) : Int32) = (4 : Int32) from by decide]
    show Steps p.tables e below (T11.setTop (mkF m 23 #[.val (.ref a), .val (.long x), .second, .val (.long n'), .second, .val (.int (2 : Int32)), .val (.long (own_min x (f 1))), .second, .val (.int (2 : Int32)), .val (.int (2 : Int32))] [(.int (4 : Int32)), (.int (2 : Int32))])) _
    refine XS.icmpNo X11.here hx rfl (hb hby d7_23) rfl (tlt (show (2 : Int32) < (4 : Int32) from (by decide))).2.1 ?_
    show Steps p.tables e below (T11.setTop (mkF m 26 #[.val (.ref a), .val (.long x), .second, .val (.long n'), .second, .val (.int (2 : Int32)), .val (.long (own_min x (f 1))), .second, .val (.int (2 : Int32)), .val (.int (2 : Int32))] [])) _
    refine XS.iload X11.here hx rfl (hb hby d7_26) rfl ?_
    show Steps p.tables e below (T11.setTop (mkF m 28 #[.val (.ref a), .val (.long x), .second, .val (.long n'), .second, .val (.int (2 : Int32)), .val (.long (own_min x (f 1))), .second, .val (.int (2 : Int32)), .val (.int (2 : Int32))] [(.int (2 : Int32))])) _
    refine XS.aloadN X11.here hx rfl (hb hby d7_28) rfl rfl ?_
    show Steps p.tables e below (T11.setTop (mkF m 29 #[.val (.ref a), .val (.long x), .second, .val (.long n'), .second, .val (.int (2 : Int32)), .val (.long (own_min x (f 1))), .second, .val (.int (2 : Int32)), .val (.int (2 : Int32))] [(.ref a), (.int (2 : Int32))])) _
    refine st13 _ ?_
    show Steps p.tables e below (T13.setTop (mkF m 32 #[.val (.ref a), .val (.long x), .second, .val (.long n'), .second, .val (.int (2 : Int32)), .val (.long (own_min x (f 1))), .second, .val (.int (2 : Int32)), .val (.int (2 : Int32))] [(.int (0 : Int32)), (.int (2 : Int32))])) _
    refine XS.icmpNo X13.here hx rfl (hb hby d7_32) rfl (feq (show ¬ ((2 : Int32) = (0 : Int32)) from (by decide))).1 ?_
    show Steps p.tables e below (T13.setTop (mkF m 35 #[.val (.ref a), .val (.long x), .second, .val (.long n'), .second, .val (.int (2 : Int32)), .val (.long (own_min x (f 1))), .second, .val (.int (2 : Int32)), .val (.int (2 : Int32))] [])) _
    refine XS.iload X13.here hx rfl (hb hby d7_35) rfl ?_
    show Steps p.tables e below (T13.setTop (mkF m 37 #[.val (.ref a), .val (.long x), .second, .val (.long n'), .second, .val (.int (2 : Int32)), .val (.long (own_min x (f 1))), .second, .val (.int (2 : Int32)), .val (.int (2 : Int32))] [(.int (2 : Int32))])) _
    refine XS.iload X13.here hx rfl (hb hby d7_37) rfl ?_
    show Steps p.tables e below (T13.setTop (mkF m 39 #[.val (.ref a), .val (.long x), .second, .val (.long n'), .second, .val (.int (2 : Int32)), .val (.long (own_min x (f 1))), .second, .val (.int (2 : Int32)), .val (.int (2 : Int32))] [(.int (2 : Int32)), (.int (2 : Int32))])) _
    refine XS.icmpYes X13.here hx rfl (pc0 := 39) (pc' := 59) rfl (hb hby d7_39) rfl (teq (show (2 : Int32) = (2 : Int32) from rfl)).1 (by decide) (by decide) ?_
    show Steps p.tables e below (T13.setTop (mkF m 59 #[.val (.ref a), .val (.long x), .second, .val (.long n'), .second, .val (.int (2 : Int32)), .val (.long (own_min x (f 1))), .second, .val (.int (2 : Int32)), .val (.int (2 : Int32))] [])) _
    refine XS.iinc X13.here hx rfl (hb hby d7_59) rfl (l' := #[.val (.ref a), .val (.long x), .second, .val (.long n'), .second, .val (.int (2 : Int32)), .val (.long (own_min x (f 1))), .second, .val (.int (2 : Int32)), .val (.int ((2 : Int32) + (1 : Int32)))]) rfl ?_
    show Steps p.tables e below (T13.setTop (mkF m 62 #[.val (.ref a), .val (.long x), .second, .val (.long n'), .second, .val (.int (2 : Int32)), .val (.long (own_min x (f 1))), .second, .val (.int (2 : Int32)), .val (.int ((2 : Int32) + (1 : Int32)))] [])) _
    rw [show (((2 : Int32) + (1 : Int32)) : Int32) = (3 : Int32) from by decide]
    show Steps p.tables e below (T13.setTop (mkF m 62 #[.val (.ref a), .val (.long x), .second, .val (.long n'), .second, .val (.int (2 : Int32)), .val (.long (own_min x (f 1))), .second, .val (.int (2 : Int32)), .val (.int (3 : Int32))] [])) _
    refine XS.goto X13.here hx rfl (pc0 := 62) (pc' := 16) rfl (hb hby d7_62) (by decide) (by decide) ?_
    show Steps p.tables e below (T13.setTop (mkF m 16 #[.val (.ref a), .val (.long x), .second, .val (.long n'), .second, .val (.int (2 : Int32)), .val (.long (own_min x (f 1))), .second, .val (.int (2 : Int32)), .val (.int (3 : Int32))] [])) _
    refine XS.iload X13.here hx rfl (hb hby d7_16) rfl ?_
    show Steps p.tables e below (T13.setTop (mkF m 18 #[.val (.ref a), .val (.long x), .second, .val (.long n'), .second, .val (.int (2 : Int32)), .val (.long (own_min x (f 1))), .second, .val (.int (2 : Int32)), .val (.int (3 : Int32))] [(.int (3 : Int32))])) _
    refine XS.aloadN X13.here hx rfl (hb hby d7_18) rfl rfl ?_
    show Steps p.tables e below (T13.setTop (mkF m 19 #[.val (.ref a), .val (.long x), .second, .val (.long n'), .second, .val (.int (2 : Int32)), .val (.long (own_min x (f 1))), .second, .val (.int (2 : Int32)), .val (.int (3 : Int32))] [(.ref a), (.int (3 : Int32))])) _
    refine st14 _ ?_
    show Steps p.tables e below (T14.setTop (mkF m 22 #[.val (.ref a), .val (.long x), .second, .val (.long n'), .second, .val (.int (2 : Int32)), .val (.long (own_min x (f 1))), .second, .val (.int (2 : Int32)), .val (.int (3 : Int32))] [(.ref t), (.int (3 : Int32))])) _
    refine X14.arraylength hx (by rw [e14]; exact Ar15.1) (State.isArrayOf_alike hZ.alike Ar15.2.1) (g := (mkF m 22 #[.val (.ref a), .val (.long x), .second, .val (.long n'), .second, .val (.int (2 : Int32)), .val (.long (own_min x (f 1))), .second, .val (.int (2 : Int32)), .val (.int (3 : Int32))] [(.ref t), (.int (3 : Int32))])) rfl rfl (hb hby d7_22) _ ?_
    rw [S15]
    show Steps p.tables e below (T14.setTop (mkF m 23 #[.val (.ref a), .val (.long x), .second, .val (.long n'), .second, .val (.int (2 : Int32)), .val (.long (own_min x (f 1))), .second, .val (.int (2 : Int32)), .val (.int (3 : Int32))] [(.int (Nat.toInt32 4)), (.int (3 : Int32))])) _
    rw [show ((Nat.toInt32 4) : Int32) = (4 : Int32) from by decide]
    show Steps p.tables e below (T14.setTop (mkF m 23 #[.val (.ref a), .val (.long x), .second, .val (.long n'), .second, .val (.int (2 : Int32)), .val (.long (own_min x (f 1))), .second, .val (.int (2 : Int32)), .val (.int (3 : Int32))] [(.int (4 : Int32)), (.int (3 : Int32))])) _
    refine XS.icmpNo X14.here hx rfl (hb hby d7_23) rfl (tlt (show (3 : Int32) < (4 : Int32) from (by decide))).2.1 ?_
    show Steps p.tables e below (T14.setTop (mkF m 26 #[.val (.ref a), .val (.long x), .second, .val (.long n'), .second, .val (.int (2 : Int32)), .val (.long (own_min x (f 1))), .second, .val (.int (2 : Int32)), .val (.int (3 : Int32))] [])) _
    refine XS.iload X14.here hx rfl (hb hby d7_26) rfl ?_
    show Steps p.tables e below (T14.setTop (mkF m 28 #[.val (.ref a), .val (.long x), .second, .val (.long n'), .second, .val (.int (2 : Int32)), .val (.long (own_min x (f 1))), .second, .val (.int (2 : Int32)), .val (.int (3 : Int32))] [(.int (3 : Int32))])) _
    refine XS.aloadN X14.here hx rfl (hb hby d7_28) rfl rfl ?_
    show Steps p.tables e below (T14.setTop (mkF m 29 #[.val (.ref a), .val (.long x), .second, .val (.long n'), .second, .val (.int (2 : Int32)), .val (.long (own_min x (f 1))), .second, .val (.int (2 : Int32)), .val (.int (3 : Int32))] [(.ref a), (.int (3 : Int32))])) _
    refine st16 _ ?_
    show Steps p.tables e below (T16.setTop (mkF m 32 #[.val (.ref a), .val (.long x), .second, .val (.long n'), .second, .val (.int (2 : Int32)), .val (.long (own_min x (f 1))), .second, .val (.int (2 : Int32)), .val (.int (3 : Int32))] [(.int (0 : Int32)), (.int (3 : Int32))])) _
    refine XS.icmpNo X16.here hx rfl (hb hby d7_32) rfl (feq (show ¬ ((3 : Int32) = (0 : Int32)) from (by decide))).1 ?_
    show Steps p.tables e below (T16.setTop (mkF m 35 #[.val (.ref a), .val (.long x), .second, .val (.long n'), .second, .val (.int (2 : Int32)), .val (.long (own_min x (f 1))), .second, .val (.int (2 : Int32)), .val (.int (3 : Int32))] [])) _
    refine XS.iload X16.here hx rfl (hb hby d7_35) rfl ?_
    show Steps p.tables e below (T16.setTop (mkF m 37 #[.val (.ref a), .val (.long x), .second, .val (.long n'), .second, .val (.int (2 : Int32)), .val (.long (own_min x (f 1))), .second, .val (.int (2 : Int32)), .val (.int (3 : Int32))] [(.int (3 : Int32))])) _
    refine XS.iload X16.here hx rfl (hb hby d7_37) rfl ?_
    show Steps p.tables e below (T16.setTop (mkF m 39 #[.val (.ref a), .val (.long x), .second, .val (.long n'), .second, .val (.int (2 : Int32)), .val (.long (own_min x (f 1))), .second, .val (.int (2 : Int32)), .val (.int (3 : Int32))] [(.int (2 : Int32)), (.int (3 : Int32))])) _
    refine XS.icmpNo X16.here hx rfl (hb hby d7_39) rfl (feq (show ¬ ((3 : Int32) = (2 : Int32)) from (by decide))).1 ?_
    show Steps p.tables e below (T16.setTop (mkF m 42 #[.val (.ref a), .val (.long x), .second, .val (.long n'), .second, .val (.int (2 : Int32)), .val (.long (own_min x (f 1))), .second, .val (.int (2 : Int32)), .val (.int (3 : Int32))] [])) _
    refine XS.lload X16.here hx rfl (hb hby d7_42) rfl ?_
    show Steps p.tables e below (T16.setTop (mkF m 44 #[.val (.ref a), .val (.long x), .second, .val (.long n'), .second, .val (.int (2 : Int32)), .val (.long (own_min x (f 1))), .second, .val (.int (2 : Int32)), .val (.int (3 : Int32))] [(.long (own_min x (f 1)))])) _
    refine XS.aloadN X16.here hx rfl (hb hby d7_44) rfl rfl ?_
    show Steps p.tables e below (T16.setTop (mkF m 45 #[.val (.ref a), .val (.long x), .second, .val (.long n'), .second, .val (.int (2 : Int32)), .val (.long (own_min x (f 1))), .second, .val (.int (2 : Int32)), .val (.int (3 : Int32))] [(.ref a), (.long (own_min x (f 1)))])) _
    refine st17 _ ?_
    show Steps p.tables e below (T17.setTop (mkF m 48 #[.val (.ref a), .val (.long x), .second, .val (.long n'), .second, .val (.int (2 : Int32)), .val (.long (own_min x (f 1))), .second, .val (.int (2 : Int32)), .val (.int (3 : Int32))] [(.ref t), (.long (own_min x (f 1)))])) _
    refine XS.iload X17.here hx rfl (hb hby d7_48) rfl ?_
    show Steps p.tables e below (T17.setTop (mkF m 50 #[.val (.ref a), .val (.long x), .second, .val (.long n'), .second, .val (.int (2 : Int32)), .val (.long (own_min x (f 1))), .second, .val (.int (2 : Int32)), .val (.int (3 : Int32))] [(.int (3 : Int32)), (.ref t), (.long (own_min x (f 1)))])) _
    refine X17.laload hx (j := (3 : Int32)) (v := (.long (f 3))) (by rw [e17]; exact Ar18.1) (State.isArrayOf_alike hZ.alike Ar18.2.1) Ar18.2.2 hin18 hat18 (g := (mkF m 50 #[.val (.ref a), .val (.long x), .second, .val (.long n'), .second, .val (.int (2 : Int32)), .val (.long (own_min x (f 1))), .second, .val (.int (2 : Int32)), .val (.int (3 : Int32))] [(.int (3 : Int32)), (.ref t), (.long (own_min x (f 1)))])) rfl rfl (hb hby d7_50) _ ?_
    show Steps p.tables e below (T17.setTop (mkF m 51 #[.val (.ref a), .val (.long x), .second, .val (.long n'), .second, .val (.int (2 : Int32)), .val (.long (own_min x (f 1))), .second, .val (.int (2 : Int32)), .val (.int (3 : Int32))] [(.long (f 3)), (.long (own_min x (f 1)))])) _
    refine st19 _ ?_
    show Steps p.tables e below (T19.setTop (mkF m 54 #[.val (.ref a), .val (.long x), .second, .val (.long n'), .second, .val (.int (2 : Int32)), .val (.long (own_min x (f 1))), .second, .val (.int (2 : Int32)), .val (.int (3 : Int32))] [(.long (own_min (own_min x (f 1)) (f 3)))])) _
    refine XS.lstore X19.here hx rfl (hb hby d7_54) rfl (l' := #[.val (.ref a), .val (.long x), .second, .val (.long n'), .second, .val (.int (2 : Int32)), .val (.long (own_min (own_min x (f 1)) (f 3))), .second, .val (.int (2 : Int32)), .val (.int (3 : Int32))]) rfl ?_
    show Steps p.tables e below (T19.setTop (mkF m 56 #[.val (.ref a), .val (.long x), .second, .val (.long n'), .second, .val (.int (2 : Int32)), .val (.long (own_min (own_min x (f 1)) (f 3))), .second, .val (.int (2 : Int32)), .val (.int (3 : Int32))] [])) _
    refine XS.iinc X19.here hx rfl (hb hby d7_56) rfl (l' := #[.val (.ref a), .val (.long x), .second, .val (.long n'), .second, .val (.int (2 : Int32)), .val (.long (own_min (own_min x (f 1)) (f 3))), .second, .val (.int ((2 : Int32) + (1 : Int32))), .val (.int (3 : Int32))]) rfl ?_
    show Steps p.tables e below (T19.setTop (mkF m 59 #[.val (.ref a), .val (.long x), .second, .val (.long n'), .second, .val (.int (2 : Int32)), .val (.long (own_min (own_min x (f 1)) (f 3))), .second, .val (.int ((2 : Int32) + (1 : Int32))), .val (.int (3 : Int32))] [])) _
    rw [show (((2 : Int32) + (1 : Int32)) : Int32) = (3 : Int32) from by decide]
    show Steps p.tables e below (T19.setTop (mkF m 59 #[.val (.ref a), .val (.long x), .second, .val (.long n'), .second, .val (.int (2 : Int32)), .val (.long (own_min (own_min x (f 1)) (f 3))), .second, .val (.int (3 : Int32)), .val (.int (3 : Int32))] [])) _
    refine XS.iinc X19.here hx rfl (hb hby d7_59) rfl (l' := #[.val (.ref a), .val (.long x), .second, .val (.long n'), .second, .val (.int (2 : Int32)), .val (.long (own_min (own_min x (f 1)) (f 3))), .second, .val (.int (3 : Int32)), .val (.int ((3 : Int32) + (1 : Int32)))]) rfl ?_
    show Steps p.tables e below (T19.setTop (mkF m 62 #[.val (.ref a), .val (.long x), .second, .val (.long n'), .second, .val (.int (2 : Int32)), .val (.long (own_min (own_min x (f 1)) (f 3))), .second, .val (.int (3 : Int32)), .val (.int ((3 : Int32) + (1 : Int32)))] [])) _
    rw [show (((3 : Int32) + (1 : Int32)) : Int32) = (4 : Int32) from by decide]
    show Steps p.tables e below (T19.setTop (mkF m 62 #[.val (.ref a), .val (.long x), .second, .val (.long n'), .second, .val (.int (2 : Int32)), .val (.long (own_min (own_min x (f 1)) (f 3))), .second, .val (.int (3 : Int32)), .val (.int (4 : Int32))] [])) _
    refine XS.goto X19.here hx rfl (pc0 := 62) (pc' := 16) rfl (hb hby d7_62) (by decide) (by decide) ?_
    show Steps p.tables e below (T19.setTop (mkF m 16 #[.val (.ref a), .val (.long x), .second, .val (.long n'), .second, .val (.int (2 : Int32)), .val (.long (own_min (own_min x (f 1)) (f 3))), .second, .val (.int (3 : Int32)), .val (.int (4 : Int32))] [])) _
    refine XS.iload X19.here hx rfl (hb hby d7_16) rfl ?_
    show Steps p.tables e below (T19.setTop (mkF m 18 #[.val (.ref a), .val (.long x), .second, .val (.long n'), .second, .val (.int (2 : Int32)), .val (.long (own_min (own_min x (f 1)) (f 3))), .second, .val (.int (3 : Int32)), .val (.int (4 : Int32))] [(.int (4 : Int32))])) _
    refine XS.aloadN X19.here hx rfl (hb hby d7_18) rfl rfl ?_
    show Steps p.tables e below (T19.setTop (mkF m 19 #[.val (.ref a), .val (.long x), .second, .val (.long n'), .second, .val (.int (2 : Int32)), .val (.long (own_min (own_min x (f 1)) (f 3))), .second, .val (.int (3 : Int32)), .val (.int (4 : Int32))] [(.ref a), (.int (4 : Int32))])) _
    refine st20 _ ?_
    show Steps p.tables e below (T20.setTop (mkF m 22 #[.val (.ref a), .val (.long x), .second, .val (.long n'), .second, .val (.int (2 : Int32)), .val (.long (own_min (own_min x (f 1)) (f 3))), .second, .val (.int (3 : Int32)), .val (.int (4 : Int32))] [(.ref t), (.int (4 : Int32))])) _
    refine X20.arraylength hx (by rw [e20]; exact Ar21.1) (State.isArrayOf_alike hZ.alike Ar21.2.1) (g := (mkF m 22 #[.val (.ref a), .val (.long x), .second, .val (.long n'), .second, .val (.int (2 : Int32)), .val (.long (own_min (own_min x (f 1)) (f 3))), .second, .val (.int (3 : Int32)), .val (.int (4 : Int32))] [(.ref t), (.int (4 : Int32))])) rfl rfl (hb hby d7_22) _ ?_
    rw [S21]
    show Steps p.tables e below (T20.setTop (mkF m 23 #[.val (.ref a), .val (.long x), .second, .val (.long n'), .second, .val (.int (2 : Int32)), .val (.long (own_min (own_min x (f 1)) (f 3))), .second, .val (.int (3 : Int32)), .val (.int (4 : Int32))] [(.int (Nat.toInt32 4)), (.int (4 : Int32))])) _
    rw [show ((Nat.toInt32 4) : Int32) = (4 : Int32) from by decide]
    show Steps p.tables e below (T20.setTop (mkF m 23 #[.val (.ref a), .val (.long x), .second, .val (.long n'), .second, .val (.int (2 : Int32)), .val (.long (own_min (own_min x (f 1)) (f 3))), .second, .val (.int (3 : Int32)), .val (.int (4 : Int32))] [(.int (4 : Int32)), (.int (4 : Int32))])) _
    refine XS.icmpYes X20.here hx rfl (pc0 := 23) (pc' := 65) rfl (hb hby d7_23) rfl (flt (show ¬ ((4 : Int32) < (4 : Int32)) from (by decide))).2.1 (by decide) (by decide) ?_
    show Steps p.tables e below (T20.setTop (mkF m 65 #[.val (.ref a), .val (.long x), .second, .val (.long n'), .second, .val (.int (2 : Int32)), .val (.long (own_min (own_min x (f 1)) (f 3))), .second, .val (.int (3 : Int32)), .val (.int (4 : Int32))] [])) _
    refine XS.iload X20.here hx rfl (hb hby d7_65) rfl ?_
    show Steps p.tables e below (T20.setTop (mkF m 67 #[.val (.ref a), .val (.long x), .second, .val (.long n'), .second, .val (.int (2 : Int32)), .val (.long (own_min (own_min x (f 1)) (f 3))), .second, .val (.int (3 : Int32)), .val (.int (4 : Int32))] [(.int (3 : Int32))])) _
    refine XS.aloadN X20.here hx rfl (hb hby d7_67) rfl rfl ?_
    show Steps p.tables e below (T20.setTop (mkF m 68 #[.val (.ref a), .val (.long x), .second, .val (.long n'), .second, .val (.int (2 : Int32)), .val (.long (own_min (own_min x (f 1)) (f 3))), .second, .val (.int (3 : Int32)), .val (.int (4 : Int32))] [(.ref a), (.int (3 : Int32))])) _
    refine st22 _ ?_
    show Steps p.tables e below (T22.setTop (mkF m 71 #[.val (.ref a), .val (.long x), .second, .val (.long n'), .second, .val (.int (2 : Int32)), .val (.long (own_min (own_min x (f 1)) (f 3))), .second, .val (.int (3 : Int32)), .val (.int (4 : Int32))] [(.int (3 : Int32)), (.int (3 : Int32))])) _
    refine XS.icmpNo X22.here hx rfl (hb hby d7_71) rfl (flt (show ¬ ((3 : Int32) < (3 : Int32)) from (by decide))).1 ?_
    show Steps p.tables e below (T22.setTop (mkF m 74 #[.val (.ref a), .val (.long x), .second, .val (.long n'), .second, .val (.int (2 : Int32)), .val (.long (own_min (own_min x (f 1)) (f 3))), .second, .val (.int (3 : Int32)), .val (.int (4 : Int32))] [])) _
    refine XS.lload X22.here hx rfl (hb hby d7_74) rfl ?_
    show Steps p.tables e below (T22.setTop (mkF m 76 #[.val (.ref a), .val (.long x), .second, .val (.long n'), .second, .val (.int (2 : Int32)), .val (.long (own_min (own_min x (f 1)) (f 3))), .second, .val (.int (3 : Int32)), .val (.int (4 : Int32))] [(.long (own_min (own_min x (f 1)) (f 3)))])) _
    refine XS.goto X22.here hx rfl (pc0 := 76) (pc' := 82) rfl (hb hby d7_76) (by decide) (by decide) ?_
    show Steps p.tables e below (T22.setTop (mkF m 82 #[.val (.ref a), .val (.long x), .second, .val (.long n'), .second, .val (.int (2 : Int32)), .val (.long (own_min (own_min x (f 1)) (f 3))), .second, .val (.int (3 : Int32)), .val (.int (4 : Int32))] [(.long (own_min (own_min x (f 1)) (f 3)))])) _
    exact X22.lreturnOut hx Bd.returns (hb hby d7_82) hr
  · show Qrm7_2 Z a x n' sl t u f g h0 n0 _ T22.heap _
    rw [e22]
    exact ⟨rfl, N19, rfl⟩
def Qrm8_3 (Z : State) (a : Addr) (n' : Int64) (sl : Int64) (u : Addr) (g : Nat → Int64) (h0 : Heap) (n0 : Nat) (v : Option Value) (h : Heap) (L : List Loc) : Prop := v = some (.int (3 : Int32)) ∧ Fr n0 L ∧ h = h0
set_option maxRecDepth 65536 in
set_option maxHeartbeats 40000000 in
theorem rm8_3 (l : Launch) (Z : State) (a0 : Array Value) (hw : ∀ d ∈ tables_1, d.before a0 Z = true) (ws : List Jvm.Cond) (a : Addr) (n' : Int64) (sl : Int64) (u : Addr) (g : Nat → Int64) (h0 : Heap) (n0 : Nat) (Z0 : n0 ≤ h0.size) (E_a : Exa Z h0 a "stillmark/StableTimes") (F_own_a : Fld Z h0 a "stillmark/StableTimes" "own" "I" (.int (0 : Int32))) (F_silence_a : Fld Z h0 a "stillmark/StableTimes" "silence" "J" (.long sl)) (F_heard_a : Fld Z h0 a "stillmark/StableTimes" "heard" "[J" (.ref u)) (A_u : Av Z h0 u .long 4 (own_l g)) (hs1 : ¬ ((g 1) < (n' - sl))) (hs2 : ¬ ((g 2) < (n' - sl))) (hs3 : (g 3) < (n' - sl)) :
    MetFree l (⟨"stillmark/StableTimes", "leftOut", "(J)I"⟩ : MethodName) (head1 (Jvm.Cond.code (⟨"stillmark/StableTimes", "leftOut", "(J)I"⟩ : MethodName) prog_146_method_6_code 5 (some .int) :: ws) ({ frames := 0, cells := 0, slots := 0, locals := 0 } : Room)) (fun aa_ U => aa_ = #[(.ref a), (.long n')] ∧ Z.Warmed39 U.vm ∧ U.heap = h0) (fun _ _ _ _ _ => True) (fun _ U o U' => ∃ v L, o = .returned v ∧ Qrm8_3 Z a n' sl u g h0 n0 v U'.heap L ∧ FrameEnd U o U' L ({ frames := 0, cells := 0, slots := 0, locals := 0 } : Room).cells ({ frames := 0, cells := 0, slots := 0, locals := 0 } : Room).slots) := by
  refine MetFree.of_bodySF (plainFor_of_name pn_1) hisR ?_
  intro p e s m args below meth c s₁ Bd hml0 hP hK
  obtain ⟨rfl, hZ, hh⟩ := hP
  have hx := Bd.exec
  have hby := Bd.bytes
  have hml : c.maxLocals = 5 := hml0
  have hown : s.vm.findClass "stillmark/StableTimes" = some m.cls := findClass_of_methodNamed Bd.named
  have hnm := (name_of_methodNamed Bd.named Bd.method).1
  have X0 : Stand p l e ({ frames := 0, cells := 0, slots := 0, locals := 0 } : Room) s m #[(.ref a), (.long n')] below meth c s₁ [] 0 0 := Stand.of_body Bd
  have e0 : s₁.heap = h0 := by rw [← hh, Bd.state]; rfl
  have N0 := Fr.nil n0
  have pre0 : ∀ tt_, Steps p.tables e below (s₁.setTop (mkF m 0 #[.val (.ref a), .val (.long n'), .second, .unset, .unset] [])) tt_ → Steps p.tables e below (s₁.setTop (entryFrame m #[(.ref a), (.long n')] 5)) tt_ := fun tt_ kk_ => castTop (ef_8 m a n') kk_
  obtain ⟨T1, X1, e1, st1⟩ := getF X0 hx hZ hown (host := "") (Or.inl (hw _ (List.mem_of_getElem? (i := 20) rfl))) Via.refl e0 F_heard_a (g := (mkF m 8 #[.val (.ref a), .val (.long n'), .second, .val (.int (-1 : Int32)), .val (.int (0 : Int32))] [(.ref a), (.int (0 : Int32))])) rfl rfl (hb hby d8_8)
  obtain ⟨cl2, Ar2, S2, -⟩ := id A_u
  obtain ⟨T3, X3, e3, st3⟩ := getF X1 hx hZ hown (host := "") (Or.inl (hw _ (List.mem_of_getElem? (i := 11) rfl))) Via.refl e1 F_own_a (g := (mkF m 18 #[.val (.ref a), .val (.long n'), .second, .val (.int (-1 : Int32)), .val (.int (0 : Int32))] [(.ref a), (.int (0 : Int32))])) rfl rfl (hb hby d8_18)
  obtain ⟨T4, X4, e4, st4⟩ := getF X3 hx hZ hown (host := "") (Or.inl (hw _ (List.mem_of_getElem? (i := 20) rfl))) Via.refl e3 F_heard_a (g := (mkF m 8 #[.val (.ref a), .val (.long n'), .second, .val (.int (-1 : Int32)), .val (.int (1 : Int32))] [(.ref a), (.int (1 : Int32))])) rfl rfl (hb hby d8_8)
  obtain ⟨cl5, Ar5, S5, -⟩ := id A_u
  obtain ⟨T6, X6, e6, st6⟩ := getF X4 hx hZ hown (host := "") (Or.inl (hw _ (List.mem_of_getElem? (i := 11) rfl))) Via.refl e4 F_own_a (g := (mkF m 18 #[.val (.ref a), .val (.long n'), .second, .val (.int (-1 : Int32)), .val (.int (1 : Int32))] [(.ref a), (.int (1 : Int32))])) rfl rfl (hb hby d8_18)
  obtain ⟨T7, X7, e7, st7⟩ := getF X6 hx hZ hown (host := "") (Or.inl (hw _ (List.mem_of_getElem? (i := 20) rfl))) Via.refl e6 F_heard_a (g := (mkF m 25 #[.val (.ref a), .val (.long n'), .second, .val (.int (-1 : Int32)), .val (.int (1 : Int32))] [(.ref a)])) rfl rfl (hb hby d8_25)
  obtain ⟨cl8, Ar8, S8, H8⟩ := id A_u
  have hj8 : (1 : Int32).toNatClampNeg = 1 := (by decide)
  have hin8 : ¬ ((1 : Int32) < 0 ∨ cl8.slots.size ≤ ((1 : Int32)).toNatClampNeg) := by rw [S8, hj8]; exact fun q => q.elim (by decide) (Nat.not_le.mpr (by decide : 1 < 4))
  have hat8 : cl8.slots[((1 : Int32)).toNatClampNeg]? = some (.long (g 1)) := by rw [hj8, H8 _ (by decide : 1 < 4)]; exact congrArg some (rfl)
  obtain ⟨T9, X9, e9, st9⟩ := getF X7 hx hZ hown (host := "") (Or.inl (hw _ (List.mem_of_getElem? (i := 15) rfl))) Via.refl e7 F_silence_a (g := (mkF m 33 #[.val (.ref a), .val (.long n'), .second, .val (.int (-1 : Int32)), .val (.int (1 : Int32))] [(.ref a), (.long n'), (.long (g 1))])) rfl rfl (hb hby d8_33)
  obtain ⟨T10, X10, e10, st10⟩ := getF X9 hx hZ hown (host := "") (Or.inl (hw _ (List.mem_of_getElem? (i := 20) rfl))) Via.refl e9 F_heard_a (g := (mkF m 8 #[.val (.ref a), .val (.long n'), .second, .val (.int (-1 : Int32)), .val (.int (2 : Int32))] [(.ref a), (.int (2 : Int32))])) rfl rfl (hb hby d8_8)
  obtain ⟨cl11, Ar11, S11, -⟩ := id A_u
  obtain ⟨T12, X12, e12, st12⟩ := getF X10 hx hZ hown (host := "") (Or.inl (hw _ (List.mem_of_getElem? (i := 11) rfl))) Via.refl e10 F_own_a (g := (mkF m 18 #[.val (.ref a), .val (.long n'), .second, .val (.int (-1 : Int32)), .val (.int (2 : Int32))] [(.ref a), (.int (2 : Int32))])) rfl rfl (hb hby d8_18)
  obtain ⟨T13, X13, e13, st13⟩ := getF X12 hx hZ hown (host := "") (Or.inl (hw _ (List.mem_of_getElem? (i := 20) rfl))) Via.refl e12 F_heard_a (g := (mkF m 25 #[.val (.ref a), .val (.long n'), .second, .val (.int (-1 : Int32)), .val (.int (2 : Int32))] [(.ref a)])) rfl rfl (hb hby d8_25)
  obtain ⟨cl14, Ar14, S14, H14⟩ := id A_u
  have hj14 : (2 : Int32).toNatClampNeg = 2 := (by decide)
  have hin14 : ¬ ((2 : Int32) < 0 ∨ cl14.slots.size ≤ ((2 : Int32)).toNatClampNeg) := by rw [S14, hj14]; exact fun q => q.elim (by decide) (Nat.not_le.mpr (by decide : 2 < 4))
  have hat14 : cl14.slots[((2 : Int32)).toNatClampNeg]? = some (.long (g 2)) := by rw [hj14, H14 _ (by decide : 2 < 4)]; exact congrArg some (rfl)
  obtain ⟨T15, X15, e15, st15⟩ := getF X13 hx hZ hown (host := "") (Or.inl (hw _ (List.mem_of_getElem? (i := 15) rfl))) Via.refl e13 F_silence_a (g := (mkF m 33 #[.val (.ref a), .val (.long n'), .second, .val (.int (-1 : Int32)), .val (.int (2 : Int32))] [(.ref a), (.long n'), (.long (g 2))])) rfl rfl (hb hby d8_33)
  obtain ⟨T16, X16, e16, st16⟩ := getF X15 hx hZ hown (host := "") (Or.inl (hw _ (List.mem_of_getElem? (i := 20) rfl))) Via.refl e15 F_heard_a (g := (mkF m 8 #[.val (.ref a), .val (.long n'), .second, .val (.int (-1 : Int32)), .val (.int (3 : Int32))] [(.ref a), (.int (3 : Int32))])) rfl rfl (hb hby d8_8)
  obtain ⟨cl17, Ar17, S17, -⟩ := id A_u
  obtain ⟨T18, X18, e18, st18⟩ := getF X16 hx hZ hown (host := "") (Or.inl (hw _ (List.mem_of_getElem? (i := 11) rfl))) Via.refl e16 F_own_a (g := (mkF m 18 #[.val (.ref a), .val (.long n'), .second, .val (.int (-1 : Int32)), .val (.int (3 : Int32))] [(.ref a), (.int (3 : Int32))])) rfl rfl (hb hby d8_18)
  obtain ⟨T19, X19, e19, st19⟩ := getF X18 hx hZ hown (host := "") (Or.inl (hw _ (List.mem_of_getElem? (i := 20) rfl))) Via.refl e18 F_heard_a (g := (mkF m 25 #[.val (.ref a), .val (.long n'), .second, .val (.int (-1 : Int32)), .val (.int (3 : Int32))] [(.ref a)])) rfl rfl (hb hby d8_25)
  obtain ⟨cl20, Ar20, S20, H20⟩ := id A_u
  have hj20 : (3 : Int32).toNatClampNeg = 3 := (by decide)
  have hin20 : ¬ ((3 : Int32) < 0 ∨ cl20.slots.size ≤ ((3 : Int32)).toNatClampNeg) := by rw [S20, hj20]; exact fun q => q.elim (by decide) (Nat.not_le.mpr (by decide : 3 < 4))
  have hat20 : cl20.slots[((3 : Int32)).toNatClampNeg]? = some (.long (g 3)) := by rw [hj20, H20 _ (by decide : 3 < 4)]; exact congrArg some (rfl)
  obtain ⟨T21, X21, e21, st21⟩ := getF X19 hx hZ hown (host := "") (Or.inl (hw _ (List.mem_of_getElem? (i := 15) rfl))) Via.refl e19 F_silence_a (g := (mkF m 33 #[.val (.ref a), .val (.long n'), .second, .val (.int (-1 : Int32)), .val (.int (3 : Int32))] [(.ref a), (.long n'), (.long (g 3))])) rfl rfl (hb hby d8_33)
  obtain ⟨T22, X22, e22, st22⟩ := getF X21 hx hZ hown (host := "") (Or.inl (hw _ (List.mem_of_getElem? (i := 20) rfl))) Via.refl e21 F_heard_a (g := (mkF m 8 #[.val (.ref a), .val (.long n'), .second, .val (.int (3 : Int32)), .val (.int (4 : Int32))] [(.ref a), (.int (4 : Int32))])) rfl rfl (hb hby d8_8)
  obtain ⟨cl23, Ar23, S23, -⟩ := id A_u
  obtain ⟨fs, hr, hrun, hended, hW, hsame⟩ := X22.leave (v := some (.int (3 : Int32))) (fun h => by rw [Bd.returns] at h; cases h)
  refine ⟨_, _, pre0 _ ?_, hrun, hended, _, _, rfl, ?_, ⟨_, rfl⟩, hW, hsame.mono (by decide) (by decide)⟩
  · show Steps p.tables e below (s₁.setTop (mkF m 0 #[.val (.ref a), .val (.long n'), .second, .unset, .unset] [])) _
    refine XS.iconst X0.here hx rfl (hb hby d8_0) ?_
    show Steps p.tables e below (s₁.setTop (mkF m 1 #[.val (.ref a), .val (.long n'), .second, .unset, .unset] [(.int (-1 : Int32))])) _
    refine XS.istoreN X0.here hx rfl (hb hby d8_1) rfl (l' := #[.val (.ref a), .val (.long n'), .second, .val (.int (-1 : Int32)), .unset]) rfl ?_
    show Steps p.tables e below (s₁.setTop (mkF m 2 #[.val (.ref a), .val (.long n'), .second, .val (.int (-1 : Int32)), .unset] [])) _
    refine XS.iconst X0.here hx rfl (hb hby d8_2) ?_
    show Steps p.tables e below (s₁.setTop (mkF m 3 #[.val (.ref a), .val (.long n'), .second, .val (.int (-1 : Int32)), .unset] [(.int (0 : Int32))])) _
    refine XS.istore X0.here hx rfl (hb hby d8_3) rfl (l' := #[.val (.ref a), .val (.long n'), .second, .val (.int (-1 : Int32)), .val (.int (0 : Int32))]) rfl ?_
    show Steps p.tables e below (s₁.setTop (mkF m 5 #[.val (.ref a), .val (.long n'), .second, .val (.int (-1 : Int32)), .val (.int (0 : Int32))] [])) _
    refine XS.iload X0.here hx rfl (hb hby d8_5) rfl ?_
    show Steps p.tables e below (s₁.setTop (mkF m 7 #[.val (.ref a), .val (.long n'), .second, .val (.int (-1 : Int32)), .val (.int (0 : Int32))] [(.int (0 : Int32))])) _
    refine XS.aloadN X0.here hx rfl (hb hby d8_7) rfl rfl ?_
    show Steps p.tables e below (s₁.setTop (mkF m 8 #[.val (.ref a), .val (.long n'), .second, .val (.int (-1 : Int32)), .val (.int (0 : Int32))] [(.ref a), (.int (0 : Int32))])) _
    refine st1 _ ?_
    show Steps p.tables e below (T1.setTop (mkF m 11 #[.val (.ref a), .val (.long n'), .second, .val (.int (-1 : Int32)), .val (.int (0 : Int32))] [(.ref u), (.int (0 : Int32))])) _
    refine X1.arraylength hx (by rw [e1]; exact Ar2.1) (State.isArrayOf_alike hZ.alike Ar2.2.1) (g := (mkF m 11 #[.val (.ref a), .val (.long n'), .second, .val (.int (-1 : Int32)), .val (.int (0 : Int32))] [(.ref u), (.int (0 : Int32))])) rfl rfl (hb hby d8_11) _ ?_
    rw [S2]
    show Steps p.tables e below (T1.setTop (mkF m 12 #[.val (.ref a), .val (.long n'), .second, .val (.int (-1 : Int32)), .val (.int (0 : Int32))] [(.int (Nat.toInt32 4)), (.int (0 : Int32))])) _
    rw [show ((Nat.toInt32 4) : Int32) = (4 : Int32) from by decide]
    show Steps p.tables e below (T1.setTop (mkF m 12 #[.val (.ref a), .val (.long n'), .second, .val (.int (-1 : Int32)), .val (.int (0 : Int32))] [(.int (4 : Int32)), (.int (0 : Int32))])) _
    refine XS.icmpNo X1.here hx rfl (hb hby d8_12) rfl (tlt (show (0 : Int32) < (4 : Int32) from (by decide))).2.1 ?_
    show Steps p.tables e below (T1.setTop (mkF m 15 #[.val (.ref a), .val (.long n'), .second, .val (.int (-1 : Int32)), .val (.int (0 : Int32))] [])) _
    refine XS.iload X1.here hx rfl (hb hby d8_15) rfl ?_
    show Steps p.tables e below (T1.setTop (mkF m 17 #[.val (.ref a), .val (.long n'), .second, .val (.int (-1 : Int32)), .val (.int (0 : Int32))] [(.int (0 : Int32))])) _
    refine XS.aloadN X1.here hx rfl (hb hby d8_17) rfl rfl ?_
    show Steps p.tables e below (T1.setTop (mkF m 18 #[.val (.ref a), .val (.long n'), .second, .val (.int (-1 : Int32)), .val (.int (0 : Int32))] [(.ref a), (.int (0 : Int32))])) _
    refine st3 _ ?_
    show Steps p.tables e below (T3.setTop (mkF m 21 #[.val (.ref a), .val (.long n'), .second, .val (.int (-1 : Int32)), .val (.int (0 : Int32))] [(.int (0 : Int32)), (.int (0 : Int32))])) _
    refine XS.icmpYes X3.here hx rfl (pc0 := 21) (pc' := 54) rfl (hb hby d8_21) rfl (teq (show (0 : Int32) = (0 : Int32) from rfl)).1 (by decide) (by decide) ?_
    show Steps p.tables e below (T3.setTop (mkF m 54 #[.val (.ref a), .val (.long n'), .second, .val (.int (-1 : Int32)), .val (.int (0 : Int32))] [])) _
    refine XS.iinc X3.here hx rfl (hb hby d8_54) rfl (l' := #[.val (.ref a), .val (.long n'), .second, .val (.int (-1 : Int32)), .val (.int ((0 : Int32) + (1 : Int32)))]) rfl ?_
    show Steps p.tables e below (T3.setTop (mkF m 57 #[.val (.ref a), .val (.long n'), .second, .val (.int (-1 : Int32)), .val (.int ((0 : Int32) + (1 : Int32)))] [])) _
    rw [show (((0 : Int32) + (1 : Int32)) : Int32) = (1 : Int32) from by decide]
    show Steps p.tables e below (T3.setTop (mkF m 57 #[.val (.ref a), .val (.long n'), .second, .val (.int (-1 : Int32)), .val (.int (1 : Int32))] [])) _
    refine XS.goto X3.here hx rfl (pc0 := 57) (pc' := 5) rfl (hb hby d8_57) (by decide) (by decide) ?_
    show Steps p.tables e below (T3.setTop (mkF m 5 #[.val (.ref a), .val (.long n'), .second, .val (.int (-1 : Int32)), .val (.int (1 : Int32))] [])) _
    refine XS.iload X3.here hx rfl (hb hby d8_5) rfl ?_
    show Steps p.tables e below (T3.setTop (mkF m 7 #[.val (.ref a), .val (.long n'), .second, .val (.int (-1 : Int32)), .val (.int (1 : Int32))] [(.int (1 : Int32))])) _
    refine XS.aloadN X3.here hx rfl (hb hby d8_7) rfl rfl ?_
    show Steps p.tables e below (T3.setTop (mkF m 8 #[.val (.ref a), .val (.long n'), .second, .val (.int (-1 : Int32)), .val (.int (1 : Int32))] [(.ref a), (.int (1 : Int32))])) _
    refine st4 _ ?_
    show Steps p.tables e below (T4.setTop (mkF m 11 #[.val (.ref a), .val (.long n'), .second, .val (.int (-1 : Int32)), .val (.int (1 : Int32))] [(.ref u), (.int (1 : Int32))])) _
    refine X4.arraylength hx (by rw [e4]; exact Ar5.1) (State.isArrayOf_alike hZ.alike Ar5.2.1) (g := (mkF m 11 #[.val (.ref a), .val (.long n'), .second, .val (.int (-1 : Int32)), .val (.int (1 : Int32))] [(.ref u), (.int (1 : Int32))])) rfl rfl (hb hby d8_11) _ ?_
    rw [S5]
    show Steps p.tables e below (T4.setTop (mkF m 12 #[.val (.ref a), .val (.long n'), .second, .val (.int (-1 : Int32)), .val (.int (1 : Int32))] [(.int (Nat.toInt32 4)), (.int (1 : Int32))])) _
    rw [show ((Nat.toInt32 4) : Int32) = (4 : Int32) from by decide]
    show Steps p.tables e below (T4.setTop (mkF m 12 #[.val (.ref a), .val (.long n'), .second, .val (.int (-1 : Int32)), .val (.int (1 : Int32))] [(.int (4 : Int32)), (.int (1 : Int32))])) _
    refine XS.icmpNo X4.here hx rfl (hb hby d8_12) rfl (tlt (show (1 : Int32) < (4 : Int32) from (by decide))).2.1 ?_
    show Steps p.tables e below (T4.setTop (mkF m 15 #[.val (.ref a), .val (.long n'), .second, .val (.int (-1 : Int32)), .val (.int (1 : Int32))] [])) _
    refine XS.iload X4.here hx rfl (hb hby d8_15) rfl ?_
    show Steps p.tables e below (T4.setTop (mkF m 17 #[.val (.ref a), .val (.long n'), .second, .val (.int (-1 : Int32)), .val (.int (1 : Int32))] [(.int (1 : Int32))])) _
    refine XS.aloadN X4.here hx rfl (hb hby d8_17) rfl rfl ?_
    show Steps p.tables e below (T4.setTop (mkF m 18 #[.val (.ref a), .val (.long n'), .second, .val (.int (-1 : Int32)), .val (.int (1 : Int32))] [(.ref a), (.int (1 : Int32))])) _
    refine st6 _ ?_
    show Steps p.tables e below (T6.setTop (mkF m 21 #[.val (.ref a), .val (.long n'), .second, .val (.int (-1 : Int32)), .val (.int (1 : Int32))] [(.int (0 : Int32)), (.int (1 : Int32))])) _
    refine XS.icmpNo X6.here hx rfl (hb hby d8_21) rfl (feq (show ¬ ((1 : Int32) = (0 : Int32)) from (by decide))).1 ?_
    show Steps p.tables e below (T6.setTop (mkF m 24 #[.val (.ref a), .val (.long n'), .second, .val (.int (-1 : Int32)), .val (.int (1 : Int32))] [])) _
    refine XS.aloadN X6.here hx rfl (hb hby d8_24) rfl rfl ?_
    show Steps p.tables e below (T6.setTop (mkF m 25 #[.val (.ref a), .val (.long n'), .second, .val (.int (-1 : Int32)), .val (.int (1 : Int32))] [(.ref a)])) _
    refine st7 _ ?_
    show Steps p.tables e below (T7.setTop (mkF m 28 #[.val (.ref a), .val (.long n'), .second, .val (.int (-1 : Int32)), .val (.int (1 : Int32))] [(.ref u)])) _
    refine XS.iload X7.here hx rfl (hb hby d8_28) rfl ?_
    show Steps p.tables e below (T7.setTop (mkF m 30 #[.val (.ref a), .val (.long n'), .second, .val (.int (-1 : Int32)), .val (.int (1 : Int32))] [(.int (1 : Int32)), (.ref u)])) _
    refine X7.laload hx (j := (1 : Int32)) (v := (.long (g 1))) (by rw [e7]; exact Ar8.1) (State.isArrayOf_alike hZ.alike Ar8.2.1) Ar8.2.2 hin8 hat8 (g := (mkF m 30 #[.val (.ref a), .val (.long n'), .second, .val (.int (-1 : Int32)), .val (.int (1 : Int32))] [(.int (1 : Int32)), (.ref u)])) rfl rfl (hb hby d8_30) _ ?_
    show Steps p.tables e below (T7.setTop (mkF m 31 #[.val (.ref a), .val (.long n'), .second, .val (.int (-1 : Int32)), .val (.int (1 : Int32))] [(.long (g 1))])) _
    refine XS.lloadN X7.here hx rfl (hb hby d8_31) rfl ?_
    show Steps p.tables e below (T7.setTop (mkF m 32 #[.val (.ref a), .val (.long n'), .second, .val (.int (-1 : Int32)), .val (.int (1 : Int32))] [(.long n'), (.long (g 1))])) _
    refine XS.aloadN X7.here hx rfl (hb hby d8_32) rfl rfl ?_
    show Steps p.tables e below (T7.setTop (mkF m 33 #[.val (.ref a), .val (.long n'), .second, .val (.int (-1 : Int32)), .val (.int (1 : Int32))] [(.ref a), (.long n'), (.long (g 1))])) _
    refine st9 _ ?_
    show Steps p.tables e below (T9.setTop (mkF m 36 #[.val (.ref a), .val (.long n'), .second, .val (.int (-1 : Int32)), .val (.int (1 : Int32))] [(.long sl), (.long n'), (.long (g 1))])) _
    refine XS.lsub X9.here hx rfl (hb hby d8_36) rfl ?_
    show Steps p.tables e below (T9.setTop (mkF m 37 #[.val (.ref a), .val (.long n'), .second, .val (.int (-1 : Int32)), .val (.int (1 : Int32))] [(.long (n' - sl)), (.long (g 1))])) _
    refine XS.lcmp X9.here hx rfl (hb hby d8_37) rfl ?_
    show Steps p.tables e below (T9.setTop (mkF m 38 #[.val (.ref a), .val (.long n'), .second, .val (.int (-1 : Int32)), .val (.int (1 : Int32))] [(.int (lcmpW (g 1) (n' - sl)))])) _
    refine XS.ifNo X9.here hx rfl (hb hby d8_38) rfl ((if0 _ _).trans (flt (show ¬ ((lcmpW (g 1) (n' - sl)) < (0 : Int32)) from (fun z => hs1 ((lw_lt _ _).mp z)))).1) ?_
    show Steps p.tables e below (T9.setTop (mkF m 41 #[.val (.ref a), .val (.long n'), .second, .val (.int (-1 : Int32)), .val (.int (1 : Int32))] [])) _
    refine XS.goto X9.here hx rfl (pc0 := 41) (pc' := 54) rfl (hb hby d8_41) (by decide) (by decide) ?_
    show Steps p.tables e below (T9.setTop (mkF m 54 #[.val (.ref a), .val (.long n'), .second, .val (.int (-1 : Int32)), .val (.int (1 : Int32))] [])) _
    refine XS.iinc X9.here hx rfl (hb hby d8_54) rfl (l' := #[.val (.ref a), .val (.long n'), .second, .val (.int (-1 : Int32)), .val (.int ((1 : Int32) + (1 : Int32)))]) rfl ?_
    show Steps p.tables e below (T9.setTop (mkF m 57 #[.val (.ref a), .val (.long n'), .second, .val (.int (-1 : Int32)), .val (.int ((1 : Int32) + (1 : Int32)))] [])) _
    rw [show (((1 : Int32) + (1 : Int32)) : Int32) = (2 : Int32) from by decide]
    show Steps p.tables e below (T9.setTop (mkF m 57 #[.val (.ref a), .val (.long n'), .second, .val (.int (-1 : Int32)), .val (.int (2 : Int32))] [])) _
    refine XS.goto X9.here hx rfl (pc0 := 57) (pc' := 5) rfl (hb hby d8_57) (by decide) (by decide) ?_
    show Steps p.tables e below (T9.setTop (mkF m 5 #[.val (.ref a), .val (.long n'), .second, .val (.int (-1 : Int32)), .val (.int (2 : Int32))] [])) _
    refine XS.iload X9.here hx rfl (hb hby d8_5) rfl ?_
    show Steps p.tables e below (T9.setTop (mkF m 7 #[.val (.ref a), .val (.long n'), .second, .val (.int (-1 : Int32)), .val (.int (2 : Int32))] [(.int (2 : Int32))])) _
    refine XS.aloadN X9.here hx rfl (hb hby d8_7) rfl rfl ?_
    show Steps p.tables e below (T9.setTop (mkF m 8 #[.val (.ref a), .val (.long n'), .second, .val (.int (-1 : Int32)), .val (.int (2 : Int32))] [(.ref a), (.int (2 : Int32))])) _
    refine st10 _ ?_
    show Steps p.tables e below (T10.setTop (mkF m 11 #[.val (.ref a), .val (.long n'), .second, .val (.int (-1 : Int32)), .val (.int (2 : Int32))] [(.ref u), (.int (2 : Int32))])) _
    refine X10.arraylength hx (by rw [e10]; exact Ar11.1) (State.isArrayOf_alike hZ.alike Ar11.2.1) (g := (mkF m 11 #[.val (.ref a), .val (.long n'), .second, .val (.int (-1 : Int32)), .val (.int (2 : Int32))] [(.ref u), (.int (2 : Int32))])) rfl rfl (hb hby d8_11) _ ?_
    rw [S11]
    show Steps p.tables e below (T10.setTop (mkF m 12 #[.val (.ref a), .val (.long n'), .second, .val (.int (-1 : Int32)), .val (.int (2 : Int32))] [(.int (Nat.toInt32 4)), (.int (2 : Int32))])) _
    rw [show ((Nat.toInt32 4) : Int32) = (4 : Int32) from by decide]
    show Steps p.tables e below (T10.setTop (mkF m 12 #[.val (.ref a), .val (.long n'), .second, .val (.int (-1 : Int32)), .val (.int (2 : Int32))] [(.int (4 : Int32)), (.int (2 : Int32))])) _
    refine XS.icmpNo X10.here hx rfl (hb hby d8_12) rfl (tlt (show (2 : Int32) < (4 : Int32) from (by decide))).2.1 ?_
    show Steps p.tables e below (T10.setTop (mkF m 15 #[.val (.ref a), .val (.long n'), .second, .val (.int (-1 : Int32)), .val (.int (2 : Int32))] [])) _
    refine XS.iload X10.here hx rfl (hb hby d8_15) rfl ?_
    show Steps p.tables e below (T10.setTop (mkF m 17 #[.val (.ref a), .val (.long n'), .second, .val (.int (-1 : Int32)), .val (.int (2 : Int32))] [(.int (2 : Int32))])) _
    refine XS.aloadN X10.here hx rfl (hb hby d8_17) rfl rfl ?_
    show Steps p.tables e below (T10.setTop (mkF m 18 #[.val (.ref a), .val (.long n'), .second, .val (.int (-1 : Int32)), .val (.int (2 : Int32))] [(.ref a), (.int (2 : Int32))])) _
    refine st12 _ ?_
    show Steps p.tables e below (T12.setTop (mkF m 21 #[.val (.ref a), .val (.long n'), .second, .val (.int (-1 : Int32)), .val (.int (2 : Int32))] [(.int (0 : Int32)), (.int (2 : Int32))])) _
    refine XS.icmpNo X12.here hx rfl (hb hby d8_21) rfl (feq (show ¬ ((2 : Int32) = (0 : Int32)) from (by decide))).1 ?_
    show Steps p.tables e below (T12.setTop (mkF m 24 #[.val (.ref a), .val (.long n'), .second, .val (.int (-1 : Int32)), .val (.int (2 : Int32))] [])) _
    refine XS.aloadN X12.here hx rfl (hb hby d8_24) rfl rfl ?_
    show Steps p.tables e below (T12.setTop (mkF m 25 #[.val (.ref a), .val (.long n'), .second, .val (.int (-1 : Int32)), .val (.int (2 : Int32))] [(.ref a)])) _
    refine st13 _ ?_
    show Steps p.tables e below (T13.setTop (mkF m 28 #[.val (.ref a), .val (.long n'), .second, .val (.int (-1 : Int32)), .val (.int (2 : Int32))] [(.ref u)])) _
    refine XS.iload X13.here hx rfl (hb hby d8_28) rfl ?_
    show Steps p.tables e below (T13.setTop (mkF m 30 #[.val (.ref a), .val (.long n'), .second, .val (.int (-1 : Int32)), .val (.int (2 : Int32))] [(.int (2 : Int32)), (.ref u)])) _
    refine X13.laload hx (j := (2 : Int32)) (v := (.long (g 2))) (by rw [e13]; exact Ar14.1) (State.isArrayOf_alike hZ.alike Ar14.2.1) Ar14.2.2 hin14 hat14 (g := (mkF m 30 #[.val (.ref a), .val (.long n'), .second, .val (.int (-1 : Int32)), .val (.int (2 : Int32))] [(.int (2 : Int32)), (.ref u)])) rfl rfl (hb hby d8_30) _ ?_
    show Steps p.tables e below (T13.setTop (mkF m 31 #[.val (.ref a), .val (.long n'), .second, .val (.int (-1 : Int32)), .val (.int (2 : Int32))] [(.long (g 2))])) _
    refine XS.lloadN X13.here hx rfl (hb hby d8_31) rfl ?_
    show Steps p.tables e below (T13.setTop (mkF m 32 #[.val (.ref a), .val (.long n'), .second, .val (.int (-1 : Int32)), .val (.int (2 : Int32))] [(.long n'), (.long (g 2))])) _
    refine XS.aloadN X13.here hx rfl (hb hby d8_32) rfl rfl ?_
    show Steps p.tables e below (T13.setTop (mkF m 33 #[.val (.ref a), .val (.long n'), .second, .val (.int (-1 : Int32)), .val (.int (2 : Int32))] [(.ref a), (.long n'), (.long (g 2))])) _
    refine st15 _ ?_
    show Steps p.tables e below (T15.setTop (mkF m 36 #[.val (.ref a), .val (.long n'), .second, .val (.int (-1 : Int32)), .val (.int (2 : Int32))] [(.long sl), (.long n'), (.long (g 2))])) _
    refine XS.lsub X15.here hx rfl (hb hby d8_36) rfl ?_
    show Steps p.tables e below (T15.setTop (mkF m 37 #[.val (.ref a), .val (.long n'), .second, .val (.int (-1 : Int32)), .val (.int (2 : Int32))] [(.long (n' - sl)), (.long (g 2))])) _
    refine XS.lcmp X15.here hx rfl (hb hby d8_37) rfl ?_
    show Steps p.tables e below (T15.setTop (mkF m 38 #[.val (.ref a), .val (.long n'), .second, .val (.int (-1 : Int32)), .val (.int (2 : Int32))] [(.int (lcmpW (g 2) (n' - sl)))])) _
    refine XS.ifNo X15.here hx rfl (hb hby d8_38) rfl ((if0 _ _).trans (flt (show ¬ ((lcmpW (g 2) (n' - sl)) < (0 : Int32)) from (fun z => hs2 ((lw_lt _ _).mp z)))).1) ?_
    show Steps p.tables e below (T15.setTop (mkF m 41 #[.val (.ref a), .val (.long n'), .second, .val (.int (-1 : Int32)), .val (.int (2 : Int32))] [])) _
    refine XS.goto X15.here hx rfl (pc0 := 41) (pc' := 54) rfl (hb hby d8_41) (by decide) (by decide) ?_
    show Steps p.tables e below (T15.setTop (mkF m 54 #[.val (.ref a), .val (.long n'), .second, .val (.int (-1 : Int32)), .val (.int (2 : Int32))] [])) _
    refine XS.iinc X15.here hx rfl (hb hby d8_54) rfl (l' := #[.val (.ref a), .val (.long n'), .second, .val (.int (-1 : Int32)), .val (.int ((2 : Int32) + (1 : Int32)))]) rfl ?_
    show Steps p.tables e below (T15.setTop (mkF m 57 #[.val (.ref a), .val (.long n'), .second, .val (.int (-1 : Int32)), .val (.int ((2 : Int32) + (1 : Int32)))] [])) _
    rw [show (((2 : Int32) + (1 : Int32)) : Int32) = (3 : Int32) from by decide]
    show Steps p.tables e below (T15.setTop (mkF m 57 #[.val (.ref a), .val (.long n'), .second, .val (.int (-1 : Int32)), .val (.int (3 : Int32))] [])) _
    refine XS.goto X15.here hx rfl (pc0 := 57) (pc' := 5) rfl (hb hby d8_57) (by decide) (by decide) ?_
    show Steps p.tables e below (T15.setTop (mkF m 5 #[.val (.ref a), .val (.long n'), .second, .val (.int (-1 : Int32)), .val (.int (3 : Int32))] [])) _
    refine XS.iload X15.here hx rfl (hb hby d8_5) rfl ?_
    show Steps p.tables e below (T15.setTop (mkF m 7 #[.val (.ref a), .val (.long n'), .second, .val (.int (-1 : Int32)), .val (.int (3 : Int32))] [(.int (3 : Int32))])) _
    refine XS.aloadN X15.here hx rfl (hb hby d8_7) rfl rfl ?_
    show Steps p.tables e below (T15.setTop (mkF m 8 #[.val (.ref a), .val (.long n'), .second, .val (.int (-1 : Int32)), .val (.int (3 : Int32))] [(.ref a), (.int (3 : Int32))])) _
    refine st16 _ ?_
    show Steps p.tables e below (T16.setTop (mkF m 11 #[.val (.ref a), .val (.long n'), .second, .val (.int (-1 : Int32)), .val (.int (3 : Int32))] [(.ref u), (.int (3 : Int32))])) _
    refine X16.arraylength hx (by rw [e16]; exact Ar17.1) (State.isArrayOf_alike hZ.alike Ar17.2.1) (g := (mkF m 11 #[.val (.ref a), .val (.long n'), .second, .val (.int (-1 : Int32)), .val (.int (3 : Int32))] [(.ref u), (.int (3 : Int32))])) rfl rfl (hb hby d8_11) _ ?_
    rw [S17]
    show Steps p.tables e below (T16.setTop (mkF m 12 #[.val (.ref a), .val (.long n'), .second, .val (.int (-1 : Int32)), .val (.int (3 : Int32))] [(.int (Nat.toInt32 4)), (.int (3 : Int32))])) _
    rw [show ((Nat.toInt32 4) : Int32) = (4 : Int32) from by decide]
    show Steps p.tables e below (T16.setTop (mkF m 12 #[.val (.ref a), .val (.long n'), .second, .val (.int (-1 : Int32)), .val (.int (3 : Int32))] [(.int (4 : Int32)), (.int (3 : Int32))])) _
    refine XS.icmpNo X16.here hx rfl (hb hby d8_12) rfl (tlt (show (3 : Int32) < (4 : Int32) from (by decide))).2.1 ?_
    show Steps p.tables e below (T16.setTop (mkF m 15 #[.val (.ref a), .val (.long n'), .second, .val (.int (-1 : Int32)), .val (.int (3 : Int32))] [])) _
    refine XS.iload X16.here hx rfl (hb hby d8_15) rfl ?_
    show Steps p.tables e below (T16.setTop (mkF m 17 #[.val (.ref a), .val (.long n'), .second, .val (.int (-1 : Int32)), .val (.int (3 : Int32))] [(.int (3 : Int32))])) _
    refine XS.aloadN X16.here hx rfl (hb hby d8_17) rfl rfl ?_
    show Steps p.tables e below (T16.setTop (mkF m 18 #[.val (.ref a), .val (.long n'), .second, .val (.int (-1 : Int32)), .val (.int (3 : Int32))] [(.ref a), (.int (3 : Int32))])) _
    refine st18 _ ?_
    show Steps p.tables e below (T18.setTop (mkF m 21 #[.val (.ref a), .val (.long n'), .second, .val (.int (-1 : Int32)), .val (.int (3 : Int32))] [(.int (0 : Int32)), (.int (3 : Int32))])) _
    refine XS.icmpNo X18.here hx rfl (hb hby d8_21) rfl (feq (show ¬ ((3 : Int32) = (0 : Int32)) from (by decide))).1 ?_
    show Steps p.tables e below (T18.setTop (mkF m 24 #[.val (.ref a), .val (.long n'), .second, .val (.int (-1 : Int32)), .val (.int (3 : Int32))] [])) _
    refine XS.aloadN X18.here hx rfl (hb hby d8_24) rfl rfl ?_
    show Steps p.tables e below (T18.setTop (mkF m 25 #[.val (.ref a), .val (.long n'), .second, .val (.int (-1 : Int32)), .val (.int (3 : Int32))] [(.ref a)])) _
    refine st19 _ ?_
    show Steps p.tables e below (T19.setTop (mkF m 28 #[.val (.ref a), .val (.long n'), .second, .val (.int (-1 : Int32)), .val (.int (3 : Int32))] [(.ref u)])) _
    refine XS.iload X19.here hx rfl (hb hby d8_28) rfl ?_
    show Steps p.tables e below (T19.setTop (mkF m 30 #[.val (.ref a), .val (.long n'), .second, .val (.int (-1 : Int32)), .val (.int (3 : Int32))] [(.int (3 : Int32)), (.ref u)])) _
    refine X19.laload hx (j := (3 : Int32)) (v := (.long (g 3))) (by rw [e19]; exact Ar20.1) (State.isArrayOf_alike hZ.alike Ar20.2.1) Ar20.2.2 hin20 hat20 (g := (mkF m 30 #[.val (.ref a), .val (.long n'), .second, .val (.int (-1 : Int32)), .val (.int (3 : Int32))] [(.int (3 : Int32)), (.ref u)])) rfl rfl (hb hby d8_30) _ ?_
    show Steps p.tables e below (T19.setTop (mkF m 31 #[.val (.ref a), .val (.long n'), .second, .val (.int (-1 : Int32)), .val (.int (3 : Int32))] [(.long (g 3))])) _
    refine XS.lloadN X19.here hx rfl (hb hby d8_31) rfl ?_
    show Steps p.tables e below (T19.setTop (mkF m 32 #[.val (.ref a), .val (.long n'), .second, .val (.int (-1 : Int32)), .val (.int (3 : Int32))] [(.long n'), (.long (g 3))])) _
    refine XS.aloadN X19.here hx rfl (hb hby d8_32) rfl rfl ?_
    show Steps p.tables e below (T19.setTop (mkF m 33 #[.val (.ref a), .val (.long n'), .second, .val (.int (-1 : Int32)), .val (.int (3 : Int32))] [(.ref a), (.long n'), (.long (g 3))])) _
    refine st21 _ ?_
    show Steps p.tables e below (T21.setTop (mkF m 36 #[.val (.ref a), .val (.long n'), .second, .val (.int (-1 : Int32)), .val (.int (3 : Int32))] [(.long sl), (.long n'), (.long (g 3))])) _
    refine XS.lsub X21.here hx rfl (hb hby d8_36) rfl ?_
    show Steps p.tables e below (T21.setTop (mkF m 37 #[.val (.ref a), .val (.long n'), .second, .val (.int (-1 : Int32)), .val (.int (3 : Int32))] [(.long (n' - sl)), (.long (g 3))])) _
    refine XS.lcmp X21.here hx rfl (hb hby d8_37) rfl ?_
    show Steps p.tables e below (T21.setTop (mkF m 38 #[.val (.ref a), .val (.long n'), .second, .val (.int (-1 : Int32)), .val (.int (3 : Int32))] [(.int (lcmpW (g 3) (n' - sl)))])) _
    refine XS.ifYes X21.here hx rfl (pc0 := 38) (pc' := 44) rfl (hb hby d8_38) rfl ((if0 _ _).trans (tlt (show (lcmpW (g 3) (n' - sl)) < (0 : Int32) from ((lw_lt _ _).mpr hs3))).1) (by decide) (by decide) ?_
    show Steps p.tables e below (T21.setTop (mkF m 44 #[.val (.ref a), .val (.long n'), .second, .val (.int (-1 : Int32)), .val (.int (3 : Int32))] [])) _
    refine XS.iloadN X21.here hx rfl (hb hby d8_44) rfl ?_
    show Steps p.tables e below (T21.setTop (mkF m 45 #[.val (.ref a), .val (.long n'), .second, .val (.int (-1 : Int32)), .val (.int (3 : Int32))] [(.int (-1 : Int32))])) _
    refine XS.iconst X21.here hx rfl (hb hby d8_45) ?_
    show Steps p.tables e below (T21.setTop (mkF m 46 #[.val (.ref a), .val (.long n'), .second, .val (.int (-1 : Int32)), .val (.int (3 : Int32))] [(.int (-1 : Int32)), (.int (-1 : Int32))])) _
    refine XS.icmpYes X21.here hx rfl (pc0 := 46) (pc' := 51) rfl (hb hby d8_46) rfl (teq (show (-1 : Int32) = (-1 : Int32) from rfl)).1 (by decide) (by decide) ?_
    show Steps p.tables e below (T21.setTop (mkF m 51 #[.val (.ref a), .val (.long n'), .second, .val (.int (-1 : Int32)), .val (.int (3 : Int32))] [])) _
    refine XS.iload X21.here hx rfl (hb hby d8_51) rfl ?_
    show Steps p.tables e below (T21.setTop (mkF m 53 #[.val (.ref a), .val (.long n'), .second, .val (.int (-1 : Int32)), .val (.int (3 : Int32))] [(.int (3 : Int32))])) _
    refine XS.istoreN X21.here hx rfl (hb hby d8_53) rfl (l' := #[.val (.ref a), .val (.long n'), .second, .val (.int (3 : Int32)), .val (.int (3 : Int32))]) rfl ?_
    show Steps p.tables e below (T21.setTop (mkF m 54 #[.val (.ref a), .val (.long n'), .second, .val (.int (3 : Int32)), .val (.int (3 : Int32))] [])) _
    refine XS.iinc X21.here hx rfl (hb hby d8_54) rfl (l' := #[.val (.ref a), .val (.long n'), .second, .val (.int (3 : Int32)), .val (.int ((3 : Int32) + (1 : Int32)))]) rfl ?_
    show Steps p.tables e below (T21.setTop (mkF m 57 #[.val (.ref a), .val (.long n'), .second, .val (.int (3 : Int32)), .val (.int ((3 : Int32) + (1 : Int32)))] [])) _
    rw [show (((3 : Int32) + (1 : Int32)) : Int32) = (4 : Int32) from by decide]
    show Steps p.tables e below (T21.setTop (mkF m 57 #[.val (.ref a), .val (.long n'), .second, .val (.int (3 : Int32)), .val (.int (4 : Int32))] [])) _
    refine XS.goto X21.here hx rfl (pc0 := 57) (pc' := 5) rfl (hb hby d8_57) (by decide) (by decide) ?_
    show Steps p.tables e below (T21.setTop (mkF m 5 #[.val (.ref a), .val (.long n'), .second, .val (.int (3 : Int32)), .val (.int (4 : Int32))] [])) _
    refine XS.iload X21.here hx rfl (hb hby d8_5) rfl ?_
    show Steps p.tables e below (T21.setTop (mkF m 7 #[.val (.ref a), .val (.long n'), .second, .val (.int (3 : Int32)), .val (.int (4 : Int32))] [(.int (4 : Int32))])) _
    refine XS.aloadN X21.here hx rfl (hb hby d8_7) rfl rfl ?_
    show Steps p.tables e below (T21.setTop (mkF m 8 #[.val (.ref a), .val (.long n'), .second, .val (.int (3 : Int32)), .val (.int (4 : Int32))] [(.ref a), (.int (4 : Int32))])) _
    refine st22 _ ?_
    show Steps p.tables e below (T22.setTop (mkF m 11 #[.val (.ref a), .val (.long n'), .second, .val (.int (3 : Int32)), .val (.int (4 : Int32))] [(.ref u), (.int (4 : Int32))])) _
    refine X22.arraylength hx (by rw [e22]; exact Ar23.1) (State.isArrayOf_alike hZ.alike Ar23.2.1) (g := (mkF m 11 #[.val (.ref a), .val (.long n'), .second, .val (.int (3 : Int32)), .val (.int (4 : Int32))] [(.ref u), (.int (4 : Int32))])) rfl rfl (hb hby d8_11) _ ?_
    rw [S23]
    show Steps p.tables e below (T22.setTop (mkF m 12 #[.val (.ref a), .val (.long n'), .second, .val (.int (3 : Int32)), .val (.int (4 : Int32))] [(.int (Nat.toInt32 4)), (.int (4 : Int32))])) _
    rw [show ((Nat.toInt32 4) : Int32) = (4 : Int32) from by decide]
    show Steps p.tables e below (T22.setTop (mkF m 12 #[.val (.ref a), .val (.long n'), .second, .val (.int (3 : Int32)), .val (.int (4 : Int32))] [(.int (4 : Int32)), (.int (4 : Int32))])) _
    refine XS.icmpYes X22.here hx rfl (pc0 := 12) (pc' := 60) rfl (hb hby d8_12) rfl (flt (show ¬ ((4 : Int32) < (4 : Int32)) from (by decide))).2.1 (by decide) (by decide) ?_
    show Steps p.tables e below (T22.setTop (mkF m 60 #[.val (.ref a), .val (.long n'), .second, .val (.int (3 : Int32)), .val (.int (4 : Int32))] [])) _
    refine XS.iloadN X22.here hx rfl (hb hby d8_60) rfl ?_
    show Steps p.tables e below (T22.setTop (mkF m 61 #[.val (.ref a), .val (.long n'), .second, .val (.int (3 : Int32)), .val (.int (4 : Int32))] [(.int (3 : Int32))])) _
    exact retI X22 hx Bd.returns (hb hby d8_61) hr
  · show Qrm8_3 Z a n' sl u g h0 n0 _ T22.heap _
    rw [e22]
    exact ⟨rfl, N0, rfl⟩
def Qrm7_3 (Z : State) (a : Addr) (x : Int64) (n' : Int64) (sl : Int64) (t : Addr) (u : Addr) (f : Nat → Int64) (g : Nat → Int64) (h0 : Heap) (n0 : Nat) (v : Option Value) (h : Heap) (L : List Loc) : Prop := v = some (.long (own_min (own_min x (f 1)) (f 2))) ∧ Fr n0 L ∧ h = h0
set_option maxRecDepth 65536 in
set_option maxHeartbeats 40000000 in
theorem rm7_3 (l : Launch) (Z : State) (a0 : Array Value) (hw : ∀ d ∈ tables_1, d.before a0 Z = true) (ws : List Jvm.Cond) (a : Addr) (x : Int64) (n' : Int64) (sl : Int64) (t : Addr) (u : Addr) (f : Nat → Int64) (g : Nat → Int64) (h0 : Heap) (n0 : Nat) (Z0 : n0 ≤ h0.size) (E_a : Exa Z h0 a "stillmark/StableTimes") (F_own_a : Fld Z h0 a "stillmark/StableTimes" "own" "I" (.int (0 : Int32))) (F_silence_a : Fld Z h0 a "stillmark/StableTimes" "silence" "J" (.long sl)) (F_heard_a : Fld Z h0 a "stillmark/StableTimes" "heard" "[J" (.ref u)) (A_u : Av Z h0 u .long 4 (own_l g)) (F_majority_a : Fld Z h0 a "stillmark/StableTimes" "majority" "I" (.int (3 : Int32))) (F_told_a : Fld Z h0 a "stillmark/StableTimes" "told" "[J" (.ref t)) (A_t : Av Z h0 t .long 4 (own_l f)) (hs1 : ¬ ((g 1) < (n' - sl))) (hs2 : ¬ ((g 2) < (n' - sl))) (hs3 : (g 3) < (n' - sl)) :
    MetFree l (⟨"stillmark/StableTimes", "raise", "(JJ)J"⟩ : MethodName) (head1 (Jvm.Cond.code (⟨"stillmark/StableTimes", "raise", "(JJ)J"⟩ : MethodName) prog_146_method_5_code 10 (some .long) :: ws) ({ frames := 1, cells := 0, slots := 0, locals := 16 } : Room)) (fun aa_ U => aa_ = #[(.ref a), (.long x), (.long n')] ∧ Z.Warmed39 U.vm ∧ U.heap = h0) (fun _ _ _ _ _ => True) (fun _ U o U' => ∃ v L, o = .returned v ∧ Qrm7_3 Z a x n' sl t u f g h0 n0 v U'.heap L ∧ FrameEnd U o U' L ({ frames := 1, cells := 0, slots := 0, locals := 16 } : Room).cells ({ frames := 1, cells := 0, slots := 0, locals := 16 } : Room).slots) := by
  refine MetFree.of_bodySF (plainFor_of_name pn_1) hisR ?_
  intro p e s m args below meth c s₁ Bd hml0 hP hK
  obtain ⟨rfl, hZ, hh⟩ := hP
  have hx := Bd.exec
  have hby := Bd.bytes
  have hml : c.maxLocals = 10 := hml0
  have hown : s.vm.findClass "stillmark/StableTimes" = some m.cls := findClass_of_methodNamed Bd.named
  have hnm := (name_of_methodNamed Bd.named Bd.method).1
  have X0 : Stand p l e ({ frames := 1, cells := 0, slots := 0, locals := 16 } : Room) s m #[(.ref a), (.long x), (.long n')] below meth c s₁ [] 0 0 := Stand.of_body Bd
  have e0 : s₁.heap = h0 := by rw [← hh, Bd.state]; rfl
  have N0 := Fr.nil n0
  have pre0 : ∀ tt_, Steps p.tables e below (s₁.setTop (mkF m 0 #[.val (.ref a), .val (.long x), .second, .val (.long n'), .second, .unset, .unset, .unset, .unset, .unset] [])) tt_ → Steps p.tables e below (s₁.setTop (entryFrame m #[(.ref a), (.long x), (.long n')] 10)) tt_ := fun tt_ kk_ => castTop (ef_7 m a x n') kk_
  obtain ⟨cq1, q1, q1'⟩ := E_a.cell
  obtain ⟨_, _, ⟨T1, L1, k1, n1⟩, -, X1, ⟨Lc1, hQ1, l1, y1, z1⟩, st1⟩ := X0.privateBack hx (y := (⟨"stillmark/StableTimes", "leftOut", "(J)I"⟩ : MethodName)) hown (mvT hZ (hw _ (List.mem_of_getElem? (i := 47) rfl))) (mvT hZ (hw _ (List.mem_of_getElem? (i := 48) rfl))) (own_selp (y := (⟨"stillmark/StableTimes", "leftOut", "(J)I"⟩ : MethodName)) (mvT hZ (hw _ (List.mem_of_getElem? (i := 3) rfl))) (Cond.privateMethod_at (mvP hZ (hw _ (List.mem_of_getElem? (i := 49) rfl)) (args := #[]))) (mvT hZ (hw _ (List.mem_of_getElem? (i := 48) rfl))) (by decide)) (Cond.privateMethod_at (mvP hZ (hw _ (List.mem_of_getElem? (i := 49) rfl)) (args := #[]))) (mvT hZ (hw _ (List.mem_of_getElem? (i := 50) rfl))) (by decide) (backOf (W := 0) (rm8_3 l Z a0 hw [] a n' sl u g h0 n0 Z0 E_a F_own_a F_silence_a F_heard_a A_u hs1 hs2 hs3) hZ (hw _ (List.mem_of_getElem? (i := 50) rfl)) (hw _ (List.mem_of_getElem? (i := 4) rfl)) (by decide) (by decide)) (g := (mkF m 2 #[.val (.ref a), .val (.long x), .second, .val (.long n'), .second, .unset, .unset, .unset, .unset, .unset] [(.long n'), (.ref a)])) rfl (by rw [hml]; rfl) (Steps.refl _) (a := a) (by rw [e0]; exact q1) q1' (argsL := [(.long n')]) (rest := []) (lenOf pd_2 rfl) rfl (by show 2 * 0 + _ ≤ _; exact Nat.le_of_eq rfl) (hb hby d7_2) (fun _ _ => ⟨rfl, e0, (by decide : 0 + 0 ≤ _), (by decide : 0 + 0 ≤ _)⟩)
  dsimp only [Pt.U, Pt.locs, Pt.cells, Pt.slots] at X1 l1 y1 z1 st1 hQ1
  subst l1 y1 z1
  obtain ⟨rfl, N1q, e1q⟩ := hQ1
  have N1 := Fr.app N0 N1q
  obtain ⟨T2, X2, e2, st2⟩ := getF X1 hx hZ hown (host := "") (Or.inl (hw _ (List.mem_of_getElem? (i := 18) rfl))) Via.refl e1q F_told_a (g := (mkF m 19 #[.val (.ref a), .val (.long x), .second, .val (.long n'), .second, .val (.int (3 : Int32)), .val (.long x), .second, .val (.int (1 : Int32)), .val (.int (0 : Int32))] [(.ref a), (.int (0 : Int32))])) rfl rfl (hb hby d7_19)
  obtain ⟨cl3, Ar3, S3, -⟩ := id A_t
  obtain ⟨T4, X4, e4, st4⟩ := getF X2 hx hZ hown (host := "") (Or.inl (hw _ (List.mem_of_getElem? (i := 11) rfl))) Via.refl e2 F_own_a (g := (mkF m 29 #[.val (.ref a), .val (.long x), .second, .val (.long n'), .second, .val (.int (3 : Int32)), .val (.long x), .second, .val (.int (1 : Int32)), .val (.int (0 : Int32))] [(.ref a), (.int (0 : Int32))])) rfl rfl (hb hby d7_29)
  obtain ⟨T5, X5, e5, st5⟩ := getF X4 hx hZ hown (host := "") (Or.inl (hw _ (List.mem_of_getElem? (i := 18) rfl))) Via.refl e4 F_told_a (g := (mkF m 19 #[.val (.ref a), .val (.long x), .second, .val (.long n'), .second, .val (.int (3 : Int32)), .val (.long x), .second, .val (.int (1 : Int32)), .val (.int (1 : Int32))] [(.ref a), (.int (1 : Int32))])) rfl rfl (hb hby d7_19)
  obtain ⟨cl6, Ar6, S6, -⟩ := id A_t
  obtain ⟨T7, X7, e7, st7⟩ := getF X5 hx hZ hown (host := "") (Or.inl (hw _ (List.mem_of_getElem? (i := 11) rfl))) Via.refl e5 F_own_a (g := (mkF m 29 #[.val (.ref a), .val (.long x), .second, .val (.long n'), .second, .val (.int (3 : Int32)), .val (.long x), .second, .val (.int (1 : Int32)), .val (.int (1 : Int32))] [(.ref a), (.int (1 : Int32))])) rfl rfl (hb hby d7_29)
  obtain ⟨T8, X8, e8, st8⟩ := getF X7 hx hZ hown (host := "") (Or.inl (hw _ (List.mem_of_getElem? (i := 18) rfl))) Via.refl e7 F_told_a (g := (mkF m 45 #[.val (.ref a), .val (.long x), .second, .val (.long n'), .second, .val (.int (3 : Int32)), .val (.long x), .second, .val (.int (1 : Int32)), .val (.int (1 : Int32))] [(.ref a), (.long x)])) rfl rfl (hb hby d7_45)
  obtain ⟨cl9, Ar9, S9, H9⟩ := id A_t
  have hj9 : (1 : Int32).toNatClampNeg = 1 := (by decide)
  have hin9 : ¬ ((1 : Int32) < 0 ∨ cl9.slots.size ≤ ((1 : Int32)).toNatClampNeg) := by rw [S9, hj9]; exact fun q => q.elim (by decide) (Nat.not_le.mpr (by decide : 1 < 4))
  have hat9 : cl9.slots[((1 : Int32)).toNatClampNeg]? = some (.long (f 1)) := by rw [hj9, H9 _ (by decide : 1 < 4)]; exact congrArg some (rfl)
  obtain ⟨_, _, ⟨T10, L10, k10, n10⟩, -, X10, ⟨Lc10, hQ10, l10, y10, z10⟩, st10⟩ := Jvm.LawKit.callS X8 hx (y := (⟨"java/lang/Math", "min", "(JJ)J"⟩ : MethodName)) hown (mvT hZ (hw _ (List.mem_of_getElem? (i := 51) rfl))) (mvT hZ (hw _ (List.mem_of_getElem? (i := 52) rfl))) (mvT hZ (hw _ (List.mem_of_getElem? (i := 53) rfl))) (mvT hZ (hw _ (List.mem_of_getElem? (i := 54) rfl))) (by decide) (backOf (W := 0) (rm9 l Z a0 hw [] x (f 1) h0 n0 Z0 ) hZ (hw _ (List.mem_of_getElem? (i := 54) rfl)) (hw _ (List.mem_of_getElem? (i := 53) rfl)) (by decide) (by decide)) (g := (mkF m 51 #[.val (.ref a), .val (.long x), .second, .val (.long n'), .second, .val (.int (3 : Int32)), .val (.long x), .second, .val (.int (1 : Int32)), .val (.int (1 : Int32))] [(.long (f 1)), (.long x)])) rfl (by rw [hml]; rfl) (argsL := [(.long x), (.long (f 1))]) (rest := []) (lenOf pd_3 rfl) rfl (by show 2 * 0 + _ ≤ _; exact Nat.le_of_eq rfl) (hb hby d7_51) (fun _ _ => ⟨rfl, e8, (by decide : 0 + 0 ≤ _), (by decide : 0 + 0 ≤ _)⟩)
  dsimp only [Pt.U, Pt.locs, Pt.cells, Pt.slots] at X10 l10 y10 z10 st10 hQ10
  subst l10 y10 z10
  obtain ⟨rfl, N10q, e10q⟩ := hQ10
  have N10 := Fr.app N1 N10q
  obtain ⟨T11, X11, e11, st11⟩ := getF X10 hx hZ hown (host := "") (Or.inl (hw _ (List.mem_of_getElem? (i := 18) rfl))) Via.refl e10q F_told_a (g := (mkF m 19 #[.val (.ref a), .val (.long x), .second, .val (.long n'), .second, .val (.int (3 : Int32)), .val (.long (own_min x (f 1))), .second, .val (.int (2 : Int32)), .val (.int (2 : Int32))] [(.ref a), (.int (2 : Int32))])) rfl rfl (hb hby d7_19)
  obtain ⟨cl12, Ar12, S12, -⟩ := id A_t
  obtain ⟨T13, X13, e13, st13⟩ := getF X11 hx hZ hown (host := "") (Or.inl (hw _ (List.mem_of_getElem? (i := 11) rfl))) Via.refl e11 F_own_a (g := (mkF m 29 #[.val (.ref a), .val (.long x), .second, .val (.long n'), .second, .val (.int (3 : Int32)), .val (.long (own_min x (f 1))), .second, .val (.int (2 : Int32)), .val (.int (2 : Int32))] [(.ref a), (.int (2 : Int32))])) rfl rfl (hb hby d7_29)
  obtain ⟨T14, X14, e14, st14⟩ := getF X13 hx hZ hown (host := "") (Or.inl (hw _ (List.mem_of_getElem? (i := 18) rfl))) Via.refl e13 F_told_a (g := (mkF m 45 #[.val (.ref a), .val (.long x), .second, .val (.long n'), .second, .val (.int (3 : Int32)), .val (.long (own_min x (f 1))), .second, .val (.int (2 : Int32)), .val (.int (2 : Int32))] [(.ref a), (.long (own_min x (f 1)))])) rfl rfl (hb hby d7_45)
  obtain ⟨cl15, Ar15, S15, H15⟩ := id A_t
  have hj15 : (2 : Int32).toNatClampNeg = 2 := (by decide)
  have hin15 : ¬ ((2 : Int32) < 0 ∨ cl15.slots.size ≤ ((2 : Int32)).toNatClampNeg) := by rw [S15, hj15]; exact fun q => q.elim (by decide) (Nat.not_le.mpr (by decide : 2 < 4))
  have hat15 : cl15.slots[((2 : Int32)).toNatClampNeg]? = some (.long (f 2)) := by rw [hj15, H15 _ (by decide : 2 < 4)]; exact congrArg some (rfl)
  obtain ⟨_, _, ⟨T16, L16, k16, n16⟩, -, X16, ⟨Lc16, hQ16, l16, y16, z16⟩, st16⟩ := Jvm.LawKit.callS X14 hx (y := (⟨"java/lang/Math", "min", "(JJ)J"⟩ : MethodName)) hown (mvT hZ (hw _ (List.mem_of_getElem? (i := 51) rfl))) (mvT hZ (hw _ (List.mem_of_getElem? (i := 52) rfl))) (mvT hZ (hw _ (List.mem_of_getElem? (i := 53) rfl))) (mvT hZ (hw _ (List.mem_of_getElem? (i := 54) rfl))) (by decide) (backOf (W := 0) (rm9 l Z a0 hw [] (own_min x (f 1)) (f 2) h0 n0 Z0 ) hZ (hw _ (List.mem_of_getElem? (i := 54) rfl)) (hw _ (List.mem_of_getElem? (i := 53) rfl)) (by decide) (by decide)) (g := (mkF m 51 #[.val (.ref a), .val (.long x), .second, .val (.long n'), .second, .val (.int (3 : Int32)), .val (.long (own_min x (f 1))), .second, .val (.int (2 : Int32)), .val (.int (2 : Int32))] [(.long (f 2)), (.long (own_min x (f 1)))])) rfl (by rw [hml]; rfl) (argsL := [(.long (own_min x (f 1))), (.long (f 2))]) (rest := []) (lenOf pd_3 rfl) rfl (by show 2 * 0 + _ ≤ _; exact Nat.le_of_eq rfl) (hb hby d7_51) (fun _ _ => ⟨rfl, e14, (by decide : 0 + 0 ≤ _), (by decide : 0 + 0 ≤ _)⟩)
  dsimp only [Pt.U, Pt.locs, Pt.cells, Pt.slots] at X16 l16 y16 z16 st16 hQ16
  subst l16 y16 z16
  obtain ⟨rfl, N16q, e16q⟩ := hQ16
  have N16 := Fr.app N10 N16q
  obtain ⟨T17, X17, e17, st17⟩ := getF X16 hx hZ hown (host := "") (Or.inl (hw _ (List.mem_of_getElem? (i := 18) rfl))) Via.refl e16q F_told_a (g := (mkF m 19 #[.val (.ref a), .val (.long x), .second, .val (.long n'), .second, .val (.int (3 : Int32)), .val (.long (own_min (own_min x (f 1)) (f 2))), .second, .val (.int (3 : Int32)), .val (.int (3 : Int32))] [(.ref a), (.int (3 : Int32))])) rfl rfl (hb hby d7_19)
  obtain ⟨cl18, Ar18, S18, -⟩ := id A_t
  obtain ⟨T19, X19, e19, st19⟩ := getF X17 hx hZ hown (host := "") (Or.inl (hw _ (List.mem_of_getElem? (i := 11) rfl))) Via.refl e17 F_own_a (g := (mkF m 29 #[.val (.ref a), .val (.long x), .second, .val (.long n'), .second, .val (.int (3 : Int32)), .val (.long (own_min (own_min x (f 1)) (f 2))), .second, .val (.int (3 : Int32)), .val (.int (3 : Int32))] [(.ref a), (.int (3 : Int32))])) rfl rfl (hb hby d7_29)
  obtain ⟨T20, X20, e20, st20⟩ := getF X19 hx hZ hown (host := "") (Or.inl (hw _ (List.mem_of_getElem? (i := 18) rfl))) Via.refl e19 F_told_a (g := (mkF m 19 #[.val (.ref a), .val (.long x), .second, .val (.long n'), .second, .val (.int (3 : Int32)), .val (.long (own_min (own_min x (f 1)) (f 2))), .second, .val (.int (3 : Int32)), .val (.int (4 : Int32))] [(.ref a), (.int (4 : Int32))])) rfl rfl (hb hby d7_19)
  obtain ⟨cl21, Ar21, S21, -⟩ := id A_t
  obtain ⟨T22, X22, e22, st22⟩ := getF X20 hx hZ hown (host := "") (Or.inl (hw _ (List.mem_of_getElem? (i := 13) rfl))) Via.refl e20 F_majority_a (g := (mkF m 68 #[.val (.ref a), .val (.long x), .second, .val (.long n'), .second, .val (.int (3 : Int32)), .val (.long (own_min (own_min x (f 1)) (f 2))), .second, .val (.int (3 : Int32)), .val (.int (4 : Int32))] [(.ref a), (.int (3 : Int32))])) rfl rfl (hb hby d7_68)
  obtain ⟨fs, hr, hrun, hended, hW, hsame⟩ := X22.leave (v := some (.long (own_min (own_min x (f 1)) (f 2)))) (fun h => by rw [Bd.returns] at h; cases h)
  refine ⟨_, _, pre0 _ ?_, hrun, hended, _, _, rfl, ?_, ⟨_, rfl⟩, hW, hsame.mono (by decide) (by decide)⟩
  · show Steps p.tables e below (s₁.setTop (mkF m 0 #[.val (.ref a), .val (.long x), .second, .val (.long n'), .second, .unset, .unset, .unset, .unset, .unset] [])) _
    refine XS.aloadN X0.here hx rfl (hb hby d7_0) rfl rfl ?_
    show Steps p.tables e below (s₁.setTop (mkF m 1 #[.val (.ref a), .val (.long x), .second, .val (.long n'), .second, .unset, .unset, .unset, .unset, .unset] [(.ref a)])) _
    refine XS.lloadN X0.here hx rfl (hb hby d7_1) rfl ?_
    show Steps p.tables e below (s₁.setTop (mkF m 2 #[.val (.ref a), .val (.long x), .second, .val (.long n'), .second, .unset, .unset, .unset, .unset, .unset] [(.long n'), (.ref a)])) _
    refine st1.trans ?_
    show Steps p.tables e below (T1.setTop (mkF m 5 #[.val (.ref a), .val (.long x), .second, .val (.long n'), .second, .unset, .unset, .unset, .unset, .unset] [(.int (3 : Int32))])) _
    refine XS.istore X1.here hx rfl (hb hby d7_5) rfl (l' := #[.val (.ref a), .val (.long x), .second, .val (.long n'), .second, .val (.int (3 : Int32)), .unset, .unset, .unset, .unset]) rfl ?_
    show Steps p.tables e below (T1.setTop (mkF m 7 #[.val (.ref a), .val (.long x), .second, .val (.long n'), .second, .val (.int (3 : Int32)), .unset, .unset, .unset, .unset] [])) _
    refine XS.lloadN X1.here hx rfl (hb hby d7_7) rfl ?_
    show Steps p.tables e below (T1.setTop (mkF m 8 #[.val (.ref a), .val (.long x), .second, .val (.long n'), .second, .val (.int (3 : Int32)), .unset, .unset, .unset, .unset] [(.long x)])) _
    refine XS.lstore X1.here hx rfl (hb hby d7_8) rfl (l' := #[.val (.ref a), .val (.long x), .second, .val (.long n'), .second, .val (.int (3 : Int32)), .val (.long x), .second, .unset, .unset]) rfl ?_
    show Steps p.tables e below (T1.setTop (mkF m 10 #[.val (.ref a), .val (.long x), .second, .val (.long n'), .second, .val (.int (3 : Int32)), .val (.long x), .second, .unset, .unset] [])) _
    refine XS.iconst X1.here hx rfl (hb hby d7_10) ?_
    show Steps p.tables e below (T1.setTop (mkF m 11 #[.val (.ref a), .val (.long x), .second, .val (.long n'), .second, .val (.int (3 : Int32)), .val (.long x), .second, .unset, .unset] [(.int (1 : Int32))])) _
    refine XS.istore X1.here hx rfl (hb hby d7_11) rfl (l' := #[.val (.ref a), .val (.long x), .second, .val (.long n'), .second, .val (.int (3 : Int32)), .val (.long x), .second, .val (.int (1 : Int32)), .unset]) rfl ?_
    show Steps p.tables e below (T1.setTop (mkF m 13 #[.val (.ref a), .val (.long x), .second, .val (.long n'), .second, .val (.int (3 : Int32)), .val (.long x), .second, .val (.int (1 : Int32)), .unset] [])) _
    refine XS.iconst X1.here hx rfl (hb hby d7_13) ?_
    show Steps p.tables e below (T1.setTop (mkF m 14 #[.val (.ref a), .val (.long x), .second, .val (.long n'), .second, .val (.int (3 : Int32)), .val (.long x), .second, .val (.int (1 : Int32)), .unset] [(.int (0 : Int32))])) _
    refine XS.istore X1.here hx rfl (hb hby d7_14) rfl (l' := #[.val (.ref a), .val (.long x), .second, .val (.long n'), .second, .val (.int (3 : Int32)), .val (.long x), .second, .val (.int (1 : Int32)), .val (.int (0 : Int32))]) rfl ?_
    show Steps p.tables e below (T1.setTop (mkF m 16 #[.val (.ref a), .val (.long x), .second, .val (.long n'), .second, .val (.int (3 : Int32)), .val (.long x), .second, .val (.int (1 : Int32)), .val (.int (0 : Int32))] [])) _
    refine XS.iload X1.here hx rfl (hb hby d7_16) rfl ?_
    show Steps p.tables e below (T1.setTop (mkF m 18 #[.val (.ref a), .val (.long x), .second, .val (.long n'), .second, .val (.int (3 : Int32)), .val (.long x), .second, .val (.int (1 : Int32)), .val (.int (0 : Int32))] [(.int (0 : Int32))])) _
    refine XS.aloadN X1.here hx rfl (hb hby d7_18) rfl rfl ?_
    show Steps p.tables e below (T1.setTop (mkF m 19 #[.val (.ref a), .val (.long x), .second, .val (.long n'), .second, .val (.int (3 : Int32)), .val (.long x), .second, .val (.int (1 : Int32)), .val (.int (0 : Int32))] [(.ref a), (.int (0 : Int32))])) _
    refine st2 _ ?_
    show Steps p.tables e below (T2.setTop (mkF m 22 #[.val (.ref a), .val (.long x), .second, .val (.long n'), .second, .val (.int (3 : Int32)), .val (.long x), .second, .val (.int (1 : Int32)), .val (.int (0 : Int32))] [(.ref t), (.int (0 : Int32))])) _
    refine X2.arraylength hx (by rw [e2]; exact Ar3.1) (State.isArrayOf_alike hZ.alike Ar3.2.1) (g := (mkF m 22 #[.val (.ref a), .val (.long x), .second, .val (.long n'), .second, .val (.int (3 : Int32)), .val (.long x), .second, .val (.int (1 : Int32)), .val (.int (0 : Int32))] [(.ref t), (.int (0 : Int32))])) rfl rfl (hb hby d7_22) _ ?_
    rw [S3]
    show Steps p.tables e below (T2.setTop (mkF m 23 #[.val (.ref a), .val (.long x), .second, .val (.long n'), .second, .val (.int (3 : Int32)), .val (.long x), .second, .val (.int (1 : Int32)), .val (.int (0 : Int32))] [(.int (Nat.toInt32 4)), (.int (0 : Int32))])) _
    rw [show ((Nat.toInt32 4) : Int32) = (4 : Int32) from by decide]
    show Steps p.tables e below (T2.setTop (mkF m 23 #[.val (.ref a), .val (.long x), .second, .val (.long n'), .second, .val (.int (3 : Int32)), .val (.long x), .second, .val (.int (1 : Int32)), .val (.int (0 : Int32))] [(.int (4 : Int32)), (.int (0 : Int32))])) _
    refine XS.icmpNo X2.here hx rfl (hb hby d7_23) rfl (tlt (show (0 : Int32) < (4 : Int32) from (by decide))).2.1 ?_
    show Steps p.tables e below (T2.setTop (mkF m 26 #[.val (.ref a), .val (.long x), .second, .val (.long n'), .second, .val (.int (3 : Int32)), .val (.long x), .second, .val (.int (1 : Int32)), .val (.int (0 : Int32))] [])) _
    refine XS.iload X2.here hx rfl (hb hby d7_26) rfl ?_
    show Steps p.tables e below (T2.setTop (mkF m 28 #[.val (.ref a), .val (.long x), .second, .val (.long n'), .second, .val (.int (3 : Int32)), .val (.long x), .second, .val (.int (1 : Int32)), .val (.int (0 : Int32))] [(.int (0 : Int32))])) _
    refine XS.aloadN X2.here hx rfl (hb hby d7_28) rfl rfl ?_
    show Steps p.tables e below (T2.setTop (mkF m 29 #[.val (.ref a), .val (.long x), .second, .val (.long n'), .second, .val (.int (3 : Int32)), .val (.long x), .second, .val (.int (1 : Int32)), .val (.int (0 : Int32))] [(.ref a), (.int (0 : Int32))])) _
    refine st4 _ ?_
    show Steps p.tables e below (T4.setTop (mkF m 32 #[.val (.ref a), .val (.long x), .second, .val (.long n'), .second, .val (.int (3 : Int32)), .val (.long x), .second, .val (.int (1 : Int32)), .val (.int (0 : Int32))] [(.int (0 : Int32)), (.int (0 : Int32))])) _
    refine XS.icmpYes X4.here hx rfl (pc0 := 32) (pc' := 59) rfl (hb hby d7_32) rfl (teq (show (0 : Int32) = (0 : Int32) from rfl)).1 (by decide) (by decide) ?_
    show Steps p.tables e below (T4.setTop (mkF m 59 #[.val (.ref a), .val (.long x), .second, .val (.long n'), .second, .val (.int (3 : Int32)), .val (.long x), .second, .val (.int (1 : Int32)), .val (.int (0 : Int32))] [])) _
    refine XS.iinc X4.here hx rfl (hb hby d7_59) rfl (l' := #[.val (.ref a), .val (.long x), .second, .val (.long n'), .second, .val (.int (3 : Int32)), .val (.long x), .second, .val (.int (1 : Int32)), .val (.int ((0 : Int32) + (1 : Int32)))]) rfl ?_
    show Steps p.tables e below (T4.setTop (mkF m 62 #[.val (.ref a), .val (.long x), .second, .val (.long n'), .second, .val (.int (3 : Int32)), .val (.long x), .second, .val (.int (1 : Int32)), .val (.int ((0 : Int32) + (1 : Int32)))] [])) _
    rw [show (((0 : Int32) + (1 : Int32)) : Int32) = (1 : Int32) from by decide]
    show Steps p.tables e below (T4.setTop (mkF m 62 #[.val (.ref a), .val (.long x), .second, .val (.long n'), .second, .val (.int (3 : Int32)), .val (.long x), .second, .val (.int (1 : Int32)), .val (.int (1 : Int32))] [])) _
    refine XS.goto X4.here hx rfl (pc0 := 62) (pc' := 16) rfl (hb hby d7_62) (by decide) (by decide) ?_
    show Steps p.tables e below (T4.setTop (mkF m 16 #[.val (.ref a), .val (.long x), .second, .val (.long n'), .second, .val (.int (3 : Int32)), .val (.long x), .second, .val (.int (1 : Int32)), .val (.int (1 : Int32))] [])) _
    refine XS.iload X4.here hx rfl (hb hby d7_16) rfl ?_
    show Steps p.tables e below (T4.setTop (mkF m 18 #[.val (.ref a), .val (.long x), .second, .val (.long n'), .second, .val (.int (3 : Int32)), .val (.long x), .second, .val (.int (1 : Int32)), .val (.int (1 : Int32))] [(.int (1 : Int32))])) _
    refine XS.aloadN X4.here hx rfl (hb hby d7_18) rfl rfl ?_
    show Steps p.tables e below (T4.setTop (mkF m 19 #[.val (.ref a), .val (.long x), .second, .val (.long n'), .second, .val (.int (3 : Int32)), .val (.long x), .second, .val (.int (1 : Int32)), .val (.int (1 : Int32))] [(.ref a), (.int (1 : Int32))])) _
    refine st5 _ ?_
    show Steps p.tables e below (T5.setTop (mkF m 22 #[.val (.ref a), .val (.long x), .second, .val (.long n'), .second, .val (.int (3 : Int32)), .val (.long x), .second, .val (.int (1 : Int32)), .val (.int (1 : Int32))] [(.ref t), (.int (1 : Int32))])) _
    refine X5.arraylength hx (by rw [e5]; exact Ar6.1) (State.isArrayOf_alike hZ.alike Ar6.2.1) (g := (mkF m 22 #[.val (.ref a), .val (.long x), .second, .val (.long n'), .second, .val (.int (3 : Int32)), .val (.long x), .second, .val (.int (1 : Int32)), .val (.int (1 : Int32))] [(.ref t), (.int (1 : Int32))])) rfl rfl (hb hby d7_22) _ ?_
    rw [S6]
    show Steps p.tables e below (T5.setTop (mkF m 23 #[.val (.ref a), .val (.long x), .second, .val (.long n'), .second, .val (.int (3 : Int32)), .val (.long x), .second, .val (.int (1 : Int32)), .val (.int (1 : Int32))] [(.int (Nat.toInt32 4)), (.int (1 : Int32))])) _
    rw [show ((Nat.toInt32 4) : Int32) = (4 : Int32) from by decide]
    show Steps p.tables e below (T5.setTop (mkF m 23 #[.val (.ref a), .val (.long x), .second, .val (.long n'), .second, .val (.int (3 : Int32)), .val (.long x), .second, .val (.int (1 : Int32)), .val (.int (1 : Int32))] [(.int (4 : Int32)), (.int (1 : Int32))])) _
    refine XS.icmpNo X5.here hx rfl (hb hby d7_23) rfl (tlt (show (1 : Int32) < (4 : Int32) from (by decide))).2.1 ?_
    show Steps p.tables e below (T5.setTop (mkF m 26 #[.val (.ref a), .val (.long x), .second, .val (.long n'), .second, .val (.int (3 : Int32)), .val (.long x), .second, .val (.int (1 : Int32)), .val (.int (1 : Int32))] [])) _
    refine XS.iload X5.here hx rfl (hb hby d7_26) rfl ?_
    show Steps p.tables e below (T5.setTop (mkF m 28 #[.val (.ref a), .val (.long x), .second, .val (.long n'), .second, .val (.int (3 : Int32)), .val (.long x), .second, .val (.int (1 : Int32)), .val (.int (1 : Int32))] [(.int (1 : Int32))])) _
    refine XS.aloadN X5.here hx rfl (hb hby d7_28) rfl rfl ?_
    show Steps p.tables e below (T5.setTop (mkF m 29 #[.val (.ref a), .val (.long x), .second, .val (.long n'), .second, .val (.int (3 : Int32)), .val (.long x), .second, .val (.int (1 : Int32)), .val (.int (1 : Int32))] [(.ref a), (.int (1 : Int32))])) _
    refine st7 _ ?_
    show Steps p.tables e below (T7.setTop (mkF m 32 #[.val (.ref a), .val (.long x), .second, .val (.long n'), .second, .val (.int (3 : Int32)), .val (.long x), .second, .val (.int (1 : Int32)), .val (.int (1 : Int32))] [(.int (0 : Int32)), (.int (1 : Int32))])) _
    refine XS.icmpNo X7.here hx rfl (hb hby d7_32) rfl (feq (show ¬ ((1 : Int32) = (0 : Int32)) from (by decide))).1 ?_
    show Steps p.tables e below (T7.setTop (mkF m 35 #[.val (.ref a), .val (.long x), .second, .val (.long n'), .second, .val (.int (3 : Int32)), .val (.long x), .second, .val (.int (1 : Int32)), .val (.int (1 : Int32))] [])) _
    refine XS.iload X7.here hx rfl (hb hby d7_35) rfl ?_
    show Steps p.tables e below (T7.setTop (mkF m 37 #[.val (.ref a), .val (.long x), .second, .val (.long n'), .second, .val (.int (3 : Int32)), .val (.long x), .second, .val (.int (1 : Int32)), .val (.int (1 : Int32))] [(.int (1 : Int32))])) _
    refine XS.iload X7.here hx rfl (hb hby d7_37) rfl ?_
    show Steps p.tables e below (T7.setTop (mkF m 39 #[.val (.ref a), .val (.long x), .second, .val (.long n'), .second, .val (.int (3 : Int32)), .val (.long x), .second, .val (.int (1 : Int32)), .val (.int (1 : Int32))] [(.int (3 : Int32)), (.int (1 : Int32))])) _
    refine XS.icmpNo X7.here hx rfl (hb hby d7_39) rfl (feq (show ¬ ((1 : Int32) = (3 : Int32)) from (by decide))).1 ?_
    show Steps p.tables e below (T7.setTop (mkF m 42 #[.val (.ref a), .val (.long x), .second, .val (.long n'), .second, .val (.int (3 : Int32)), .val (.long x), .second, .val (.int (1 : Int32)), .val (.int (1 : Int32))] [])) _
    refine XS.lload X7.here hx rfl (hb hby d7_42) rfl ?_
    show Steps p.tables e below (T7.setTop (mkF m 44 #[.val (.ref a), .val (.long x), .second, .val (.long n'), .second, .val (.int (3 : Int32)), .val (.long x), .second, .val (.int (1 : Int32)), .val (.int (1 : Int32))] [(.long x)])) _
    refine XS.aloadN X7.here hx rfl (hb hby d7_44) rfl rfl ?_
    show Steps p.tables e below (T7.setTop (mkF m 45 #[.val (.ref a), .val (.long x), .second, .val (.long n'), .second, .val (.int (3 : Int32)), .val (.long x), .second, .val (.int (1 : Int32)), .val (.int (1 : Int32))] [(.ref a), (.long x)])) _
    refine st8 _ ?_
    show Steps p.tables e below (T8.setTop (mkF m 48 #[.val (.ref a), .val (.long x), .second, .val (.long n'), .second, .val (.int (3 : Int32)), .val (.long x), .second, .val (.int (1 : Int32)), .val (.int (1 : Int32))] [(.ref t), (.long x)])) _
    refine XS.iload X8.here hx rfl (hb hby d7_48) rfl ?_
    show Steps p.tables e below (T8.setTop (mkF m 50 #[.val (.ref a), .val (.long x), .second, .val (.long n'), .second, .val (.int (3 : Int32)), .val (.long x), .second, .val (.int (1 : Int32)), .val (.int (1 : Int32))] [(.int (1 : Int32)), (.ref t), (.long x)])) _
    refine X8.laload hx (j := (1 : Int32)) (v := (.long (f 1))) (by rw [e8]; exact Ar9.1) (State.isArrayOf_alike hZ.alike Ar9.2.1) Ar9.2.2 hin9 hat9 (g := (mkF m 50 #[.val (.ref a), .val (.long x), .second, .val (.long n'), .second, .val (.int (3 : Int32)), .val (.long x), .second, .val (.int (1 : Int32)), .val (.int (1 : Int32))] [(.int (1 : Int32)), (.ref t), (.long x)])) rfl rfl (hb hby d7_50) _ ?_
    show Steps p.tables e below (T8.setTop (mkF m 51 #[.val (.ref a), .val (.long x), .second, .val (.long n'), .second, .val (.int (3 : Int32)), .val (.long x), .second, .val (.int (1 : Int32)), .val (.int (1 : Int32))] [(.long (f 1)), (.long x)])) _
    refine st10 _ ?_
    show Steps p.tables e below (T10.setTop (mkF m 54 #[.val (.ref a), .val (.long x), .second, .val (.long n'), .second, .val (.int (3 : Int32)), .val (.long x), .second, .val (.int (1 : Int32)), .val (.int (1 : Int32))] [(.long (own_min x (f 1)))])) _
    refine XS.lstore X10.here hx rfl (hb hby d7_54) rfl (l' := #[.val (.ref a), .val (.long x), .second, .val (.long n'), .second, .val (.int (3 : Int32)), .val (.long (own_min x (f 1))), .second, .val (.int (1 : Int32)), .val (.int (1 : Int32))]) rfl ?_
    show Steps p.tables e below (T10.setTop (mkF m 56 #[.val (.ref a), .val (.long x), .second, .val (.long n'), .second, .val (.int (3 : Int32)), .val (.long (own_min x (f 1))), .second, .val (.int (1 : Int32)), .val (.int (1 : Int32))] [])) _
    refine XS.iinc X10.here hx rfl (hb hby d7_56) rfl (l' := #[.val (.ref a), .val (.long x), .second, .val (.long n'), .second, .val (.int (3 : Int32)), .val (.long (own_min x (f 1))), .second, .val (.int ((1 : Int32) + (1 : Int32))), .val (.int (1 : Int32))]) rfl ?_
    show Steps p.tables e below (T10.setTop (mkF m 59 #[.val (.ref a), .val (.long x), .second, .val (.long n'), .second, .val (.int (3 : Int32)), .val (.long (own_min x (f 1))), .second, .val (.int ((1 : Int32) + (1 : Int32))), .val (.int (1 : Int32))] [])) _
    rw [show (((1 : Int32) + (1 : Int32)) : Int32) = (2 : Int32) from by decide]
    show Steps p.tables e below (T10.setTop (mkF m 59 #[.val (.ref a), .val (.long x), .second, .val (.long n'), .second, .val (.int (3 : Int32)), .val (.long (own_min x (f 1))), .second, .val (.int (2 : Int32)), .val (.int (1 : Int32))] [])) _
    refine XS.iinc X10.here hx rfl (hb hby d7_59) rfl (l' := #[.val (.ref a), .val (.long x), .second, .val (.long n'), .second, .val (.int (3 : Int32)), .val (.long (own_min x (f 1))), .second, .val (.int (2 : Int32)), .val (.int ((1 : Int32) + (1 : Int32)))]) rfl ?_
    show Steps p.tables e below (T10.setTop (mkF m 62 #[.val (.ref a), .val (.long x), .second, .val (.long n'), .second, .val (.int (3 : Int32)), .val (.long (own_min x (f 1))), .second, .val (.int (2 : Int32)), .val (.int ((1 : Int32) + (1 : Int32)))] [])) _
    rw [show (((1 : Int32) + (1 : Int32)) : Int32) = (2 : Int32) from by decide]
    show Steps p.tables e below (T10.setTop (mkF m 62 #[.val (.ref a), .val (.long x), .second, .val (.long n'), .second, .val (.int (3 : Int32)), .val (.long (own_min x (f 1))), .second, .val (.int (2 : Int32)), .val (.int (2 : Int32))] [])) _
    refine XS.goto X10.here hx rfl (pc0 := 62) (pc' := 16) rfl (hb hby d7_62) (by decide) (by decide) ?_
    show Steps p.tables e below (T10.setTop (mkF m 16 #[.val (.ref a), .val (.long x), .second, .val (.long n'), .second, .val (.int (3 : Int32)), .val (.long (own_min x (f 1))), .second, .val (.int (2 : Int32)), .val (.int (2 : Int32))] [])) _
    refine XS.iload X10.here hx rfl (hb hby d7_16) rfl ?_
    show Steps p.tables e below (T10.setTop (mkF m 18 #[.val (.ref a), .val (.long x), .second, .val (.long n'), .second, .val (.int (3 : Int32)), .val (.long (own_min x (f 1))), .second, .val (.int (2 : Int32)), .val (.int (2 : Int32))] [(.int (2 : Int32))])) _
    refine XS.aloadN X10.here hx rfl (hb hby d7_18) rfl rfl ?_
    show Steps p.tables e below (T10.setTop (mkF m 19 #[.val (.ref a), .val (.long x), .second, .val (.long n'), .second, .val (.int (3 : Int32)), .val (.long (own_min x (f 1))), .second, .val (.int (2 : Int32)), .val (.int (2 : Int32))] [(.ref a), (.int (2 : Int32))])) _
    refine st11 _ ?_
    show Steps p.tables e below (T11.setTop (mkF m 22 #[.val (.ref a), .val (.long x), .second, .val (.long n'), .second, .val (.int (3 : Int32)), .val (.long (own_min x (f 1))), .second, .val (.int (2 : Int32)), .val (.int (2 : Int32))] [(.ref t), (.int (2 : Int32))])) _
    refine X11.arraylength hx (by rw [e11]; exact Ar12.1) (State.isArrayOf_alike hZ.alike Ar12.2.1) (g := (mkF m 22 #[.val (.ref a), .val (.long x), .second, .val (.long n'), .second, .val (.int (3 : Int32)), .val (.long (own_min x (f 1))), .second, .val (.int (2 : Int32)), .val (.int (2 : Int32))] [(.ref t), (.int (2 : Int32))])) rfl rfl (hb hby d7_22) _ ?_
    rw [S12]
    show Steps p.tables e below (T11.setTop (mkF m 23 #[.val (.ref a), .val (.long x), .second, .val (.long n'), .second, .val (.int (3 : Int32)), .val (.long (own_min x (f 1))), .second, .val (.int (2 : Int32)), .val (.int (2 : Int32))] [(.int (Nat.toInt32 4)), (.int (2 : Int32))])) _
    rw [show ((Nat.toInt32 4) : Int32) = (4 : Int32) from by decide]
    show Steps p.tables e below (T11.setTop (mkF m 23 #[.val (.ref a), .val (.long x), .second, .val (.long n'), .second, .val (.int (3 : Int32)), .val (.long (own_min x (f 1))), .second, .val (.int (2 : Int32)), .val (.int (2 : Int32))] [(.int (4 : Int32)), (.int (2 : Int32))])) _
    refine XS.icmpNo X11.here hx rfl (hb hby d7_23) rfl (tlt (show (2 : Int32) < (4 : Int32) from (by decide))).2.1 ?_
    show Steps p.tables e below (T11.setTop (mkF m 26 #[.val (.ref a), .val (.long x), .second, .val (.long n'), .second, .val (.int (3 : Int32)), .val (.long (own_min x (f 1))), .second, .val (.int (2 : Int32)), .val (.int (2 : Int32))] [])) _
    refine XS.iload X11.here hx rfl (hb hby d7_26) rfl ?_
    show Steps p.tables e below (T11.setTop (mkF m 28 #[.val (.ref a), .val (.long x), .second, .val (.long n'), .second, .val (.int (3 : Int32)), .val (.long (own_min x (f 1))), .second, .val (.int (2 : Int32)), .val (.int (2 : Int32))] [(.int (2 : Int32))])) _
    refine XS.aloadN X11.here hx rfl (hb hby d7_28) rfl rfl ?_
    show Steps p.tables e below (T11.setTop (mkF m 29 #[.val (.ref a), .val (.long x), .second, .val (.long n'), .second, .val (.int (3 : Int32)), .val (.long (own_min x (f 1))), .second, .val (.int (2 : Int32)), .val (.int (2 : Int32))] [(.ref a), (.int (2 : Int32))])) _
    refine st13 _ ?_
    show Steps p.tables e below (T13.setTop (mkF m 32 #[.val (.ref a), .val (.long x), .second, .val (.long n'), .second, .val (.int (3 : Int32)), .val (.long (own_min x (f 1))), .second, .val (.int (2 : Int32)), .val (.int (2 : Int32))] [(.int (0 : Int32)), (.int (2 : Int32))])) _
    refine XS.icmpNo X13.here hx rfl (hb hby d7_32) rfl (feq (show ¬ ((2 : Int32) = (0 : Int32)) from (by decide))).1 ?_
    show Steps p.tables e below (T13.setTop (mkF m 35 #[.val (.ref a), .val (.long x), .second, .val (.long n'), .second, .val (.int (3 : Int32)), .val (.long (own_min x (f 1))), .second, .val (.int (2 : Int32)), .val (.int (2 : Int32))] [])) _
    refine XS.iload X13.here hx rfl (hb hby d7_35) rfl ?_
    show Steps p.tables e below (T13.setTop (mkF m 37 #[.val (.ref a), .val (.long x), .second, .val (.long n'), .second, .val (.int (3 : Int32)), .val (.long (own_min x (f 1))), .second, .val (.int (2 : Int32)), .val (.int (2 : Int32))] [(.int (2 : Int32))])) _
    refine XS.iload X13.here hx rfl (hb hby d7_37) rfl ?_
    show Steps p.tables e below (T13.setTop (mkF m 39 #[.val (.ref a), .val (.long x), .second, .val (.long n'), .second, .val (.int (3 : Int32)), .val (.long (own_min x (f 1))), .second, .val (.int (2 : Int32)), .val (.int (2 : Int32))] [(.int (3 : Int32)), (.int (2 : Int32))])) _
    refine XS.icmpNo X13.here hx rfl (hb hby d7_39) rfl (feq (show ¬ ((2 : Int32) = (3 : Int32)) from (by decide))).1 ?_
    show Steps p.tables e below (T13.setTop (mkF m 42 #[.val (.ref a), .val (.long x), .second, .val (.long n'), .second, .val (.int (3 : Int32)), .val (.long (own_min x (f 1))), .second, .val (.int (2 : Int32)), .val (.int (2 : Int32))] [])) _
    refine XS.lload X13.here hx rfl (hb hby d7_42) rfl ?_
    show Steps p.tables e below (T13.setTop (mkF m 44 #[.val (.ref a), .val (.long x), .second, .val (.long n'), .second, .val (.int (3 : Int32)), .val (.long (own_min x (f 1))), .second, .val (.int (2 : Int32)), .val (.int (2 : Int32))] [(.long (own_min x (f 1)))])) _
    refine XS.aloadN X13.here hx rfl (hb hby d7_44) rfl rfl ?_
    show Steps p.tables e below (T13.setTop (mkF m 45 #[.val (.ref a), .val (.long x), .second, .val (.long n'), .second, .val (.int (3 : Int32)), .val (.long (own_min x (f 1))), .second, .val (.int (2 : Int32)), .val (.int (2 : Int32))] [(.ref a), (.long (own_min x (f 1)))])) _
    refine st14 _ ?_
    show Steps p.tables e below (T14.setTop (mkF m 48 #[.val (.ref a), .val (.long x), .second, .val (.long n'), .second, .val (.int (3 : Int32)), .val (.long (own_min x (f 1))), .second, .val (.int (2 : Int32)), .val (.int (2 : Int32))] [(.ref t), (.long (own_min x (f 1)))])) _
    refine XS.iload X14.here hx rfl (hb hby d7_48) rfl ?_
    show Steps p.tables e below (T14.setTop (mkF m 50 #[.val (.ref a), .val (.long x), .second, .val (.long n'), .second, .val (.int (3 : Int32)), .val (.long (own_min x (f 1))), .second, .val (.int (2 : Int32)), .val (.int (2 : Int32))] [(.int (2 : Int32)), (.ref t), (.long (own_min x (f 1)))])) _
    refine X14.laload hx (j := (2 : Int32)) (v := (.long (f 2))) (by rw [e14]; exact Ar15.1) (State.isArrayOf_alike hZ.alike Ar15.2.1) Ar15.2.2 hin15 hat15 (g := (mkF m 50 #[.val (.ref a), .val (.long x), .second, .val (.long n'), .second, .val (.int (3 : Int32)), .val (.long (own_min x (f 1))), .second, .val (.int (2 : Int32)), .val (.int (2 : Int32))] [(.int (2 : Int32)), (.ref t), (.long (own_min x (f 1)))])) rfl rfl (hb hby d7_50) _ ?_
    show Steps p.tables e below (T14.setTop (mkF m 51 #[.val (.ref a), .val (.long x), .second, .val (.long n'), .second, .val (.int (3 : Int32)), .val (.long (own_min x (f 1))), .second, .val (.int (2 : Int32)), .val (.int (2 : Int32))] [(.long (f 2)), (.long (own_min x (f 1)))])) _
    refine st16 _ ?_
    show Steps p.tables e below (T16.setTop (mkF m 54 #[.val (.ref a), .val (.long x), .second, .val (.long n'), .second, .val (.int (3 : Int32)), .val (.long (own_min x (f 1))), .second, .val (.int (2 : Int32)), .val (.int (2 : Int32))] [(.long (own_min (own_min x (f 1)) (f 2)))])) _
    refine XS.lstore X16.here hx rfl (hb hby d7_54) rfl (l' := #[.val (.ref a), .val (.long x), .second, .val (.long n'), .second, .val (.int (3 : Int32)), .val (.long (own_min (own_min x (f 1)) (f 2))), .second, .val (.int (2 : Int32)), .val (.int (2 : Int32))]) rfl ?_
    show Steps p.tables e below (T16.setTop (mkF m 56 #[.val (.ref a), .val (.long x), .second, .val (.long n'), .second, .val (.int (3 : Int32)), .val (.long (own_min (own_min x (f 1)) (f 2))), .second, .val (.int (2 : Int32)), .val (.int (2 : Int32))] [])) _
    refine XS.iinc X16.here hx rfl (hb hby d7_56) rfl (l' := #[.val (.ref a), .val (.long x), .second, .val (.long n'), .second, .val (.int (3 : Int32)), .val (.long (own_min (own_min x (f 1)) (f 2))), .second, .val (.int ((2 : Int32) + (1 : Int32))), .val (.int (2 : Int32))]) rfl ?_
    show Steps p.tables e below (T16.setTop (mkF m 59 #[.val (.ref a), .val (.long x), .second, .val (.long n'), .second, .val (.int (3 : Int32)), .val (.long (own_min (own_min x (f 1)) (f 2))), .second, .val (.int ((2 : Int32) + (1 : Int32))), .val (.int (2 : Int32))] [])) _
    rw [show (((2 : Int32) + (1 : Int32)) : Int32) = (3 : Int32) from by decide]
    show Steps p.tables e below (T16.setTop (mkF m 59 #[.val (.ref a), .val (.long x), .second, .val (.long n'), .second, .val (.int (3 : Int32)), .val (.long (own_min (own_min x (f 1)) (f 2))), .second, .val (.int (3 : Int32)), .val (.int (2 : Int32))] [])) _
    refine XS.iinc X16.here hx rfl (hb hby d7_59) rfl (l' := #[.val (.ref a), .val (.long x), .second, .val (.long n'), .second, .val (.int (3 : Int32)), .val (.long (own_min (own_min x (f 1)) (f 2))), .second, .val (.int (3 : Int32)), .val (.int ((2 : Int32) + (1 : Int32)))]) rfl ?_
    show Steps p.tables e below (T16.setTop (mkF m 62 #[.val (.ref a), .val (.long x), .second, .val (.long n'), .second, .val (.int (3 : Int32)), .val (.long (own_min (own_min x (f 1)) (f 2))), .second, .val (.int (3 : Int32)), .val (.int ((2 : Int32) + (1 : Int32)))] [])) _
    rw [show (((2 : Int32) + (1 : Int32)) : Int32) = (3 : Int32) from by decide]
    show Steps p.tables e below (T16.setTop (mkF m 62 #[.val (.ref a), .val (.long x), .second, .val (.long n'), .second, .val (.int (3 : Int32)), .val (.long (own_min (own_min x (f 1)) (f 2))), .second, .val (.int (3 : Int32)), .val (.int (3 : Int32))] [])) _
    refine XS.goto X16.here hx rfl (pc0 := 62) (pc' := 16) rfl (hb hby d7_62) (by decide) (by decide) ?_
    show Steps p.tables e below (T16.setTop (mkF m 16 #[.val (.ref a), .val (.long x), .second, .val (.long n'), .second, .val (.int (3 : Int32)), .val (.long (own_min (own_min x (f 1)) (f 2))), .second, .val (.int (3 : Int32)), .val (.int (3 : Int32))] [])) _
    refine XS.iload X16.here hx rfl (hb hby d7_16) rfl ?_
    show Steps p.tables e below (T16.setTop (mkF m 18 #[.val (.ref a), .val (.long x), .second, .val (.long n'), .second, .val (.int (3 : Int32)), .val (.long (own_min (own_min x (f 1)) (f 2))), .second, .val (.int (3 : Int32)), .val (.int (3 : Int32))] [(.int (3 : Int32))])) _
    refine XS.aloadN X16.here hx rfl (hb hby d7_18) rfl rfl ?_
    show Steps p.tables e below (T16.setTop (mkF m 19 #[.val (.ref a), .val (.long x), .second, .val (.long n'), .second, .val (.int (3 : Int32)), .val (.long (own_min (own_min x (f 1)) (f 2))), .second, .val (.int (3 : Int32)), .val (.int (3 : Int32))] [(.ref a), (.int (3 : Int32))])) _
    refine st17 _ ?_
    show Steps p.tables e below (T17.setTop (mkF m 22 #[.val (.ref a), .val (.long x), .second, .val (.long n'), .second, .val (.int (3 : Int32)), .val (.long (own_min (own_min x (f 1)) (f 2))), .second, .val (.int (3 : Int32)), .val (.int (3 : Int32))] [(.ref t), (.int (3 : Int32))])) _
    refine X17.arraylength hx (by rw [e17]; exact Ar18.1) (State.isArrayOf_alike hZ.alike Ar18.2.1) (g := (mkF m 22 #[.val (.ref a), .val (.long x), .second, .val (.long n'), .second, .val (.int (3 : Int32)), .val (.long (own_min (own_min x (f 1)) (f 2))), .second, .val (.int (3 : Int32)), .val (.int (3 : Int32))] [(.ref t), (.int (3 : Int32))])) rfl rfl (hb hby d7_22) _ ?_
    rw [S18]
    show Steps p.tables e below (T17.setTop (mkF m 23 #[.val (.ref a), .val (.long x), .second, .val (.long n'), .second, .val (.int (3 : Int32)), .val (.long (own_min (own_min x (f 1)) (f 2))), .second, .val (.int (3 : Int32)), .val (.int (3 : Int32))] [(.int (Nat.toInt32 4)), (.int (3 : Int32))])) _
    rw [show ((Nat.toInt32 4) : Int32) = (4 : Int32) from by decide]
    show Steps p.tables e below (T17.setTop (mkF m 23 #[.val (.ref a), .val (.long x), .second, .val (.long n'), .second, .val (.int (3 : Int32)), .val (.long (own_min (own_min x (f 1)) (f 2))), .second, .val (.int (3 : Int32)), .val (.int (3 : Int32))] [(.int (4 : Int32)), (.int (3 : Int32))])) _
    refine XS.icmpNo X17.here hx rfl (hb hby d7_23) rfl (tlt (show (3 : Int32) < (4 : Int32) from (by decide))).2.1 ?_
    show Steps p.tables e below (T17.setTop (mkF m 26 #[.val (.ref a), .val (.long x), .second, .val (.long n'), .second, .val (.int (3 : Int32)), .val (.long (own_min (own_min x (f 1)) (f 2))), .second, .val (.int (3 : Int32)), .val (.int (3 : Int32))] [])) _
    refine XS.iload X17.here hx rfl (hb hby d7_26) rfl ?_
    show Steps p.tables e below (T17.setTop (mkF m 28 #[.val (.ref a), .val (.long x), .second, .val (.long n'), .second, .val (.int (3 : Int32)), .val (.long (own_min (own_min x (f 1)) (f 2))), .second, .val (.int (3 : Int32)), .val (.int (3 : Int32))] [(.int (3 : Int32))])) _
    refine XS.aloadN X17.here hx rfl (hb hby d7_28) rfl rfl ?_
    show Steps p.tables e below (T17.setTop (mkF m 29 #[.val (.ref a), .val (.long x), .second, .val (.long n'), .second, .val (.int (3 : Int32)), .val (.long (own_min (own_min x (f 1)) (f 2))), .second, .val (.int (3 : Int32)), .val (.int (3 : Int32))] [(.ref a), (.int (3 : Int32))])) _
    refine st19 _ ?_
    show Steps p.tables e below (T19.setTop (mkF m 32 #[.val (.ref a), .val (.long x), .second, .val (.long n'), .second, .val (.int (3 : Int32)), .val (.long (own_min (own_min x (f 1)) (f 2))), .second, .val (.int (3 : Int32)), .val (.int (3 : Int32))] [(.int (0 : Int32)), (.int (3 : Int32))])) _
    refine XS.icmpNo X19.here hx rfl (hb hby d7_32) rfl (feq (show ¬ ((3 : Int32) = (0 : Int32)) from (by decide))).1 ?_
    show Steps p.tables e below (T19.setTop (mkF m 35 #[.val (.ref a), .val (.long x), .second, .val (.long n'), .second, .val (.int (3 : Int32)), .val (.long (own_min (own_min x (f 1)) (f 2))), .second, .val (.int (3 : Int32)), .val (.int (3 : Int32))] [])) _
    refine XS.iload X19.here hx rfl (hb hby d7_35) rfl ?_
    show Steps p.tables e below (T19.setTop (mkF m 37 #[.val (.ref a), .val (.long x), .second, .val (.long n'), .second, .val (.int (3 : Int32)), .val (.long (own_min (own_min x (f 1)) (f 2))), .second, .val (.int (3 : Int32)), .val (.int (3 : Int32))] [(.int (3 : Int32))])) _
    refine XS.iload X19.here hx rfl (hb hby d7_37) rfl ?_
    show Steps p.tables e below (T19.setTop (mkF m 39 #[.val (.ref a), .val (.long x), .second, .val (.long n'), .second, .val (.int (3 : Int32)), .val (.long (own_min (own_min x (f 1)) (f 2))), .second, .val (.int (3 : Int32)), .val (.int (3 : Int32))] [(.int (3 : Int32)), (.int (3 : Int32))])) _
    refine XS.icmpYes X19.here hx rfl (pc0 := 39) (pc' := 59) rfl (hb hby d7_39) rfl (teq (show (3 : Int32) = (3 : Int32) from rfl)).1 (by decide) (by decide) ?_
    show Steps p.tables e below (T19.setTop (mkF m 59 #[.val (.ref a), .val (.long x), .second, .val (.long n'), .second, .val (.int (3 : Int32)), .val (.long (own_min (own_min x (f 1)) (f 2))), .second, .val (.int (3 : Int32)), .val (.int (3 : Int32))] [])) _
    refine XS.iinc X19.here hx rfl (hb hby d7_59) rfl (l' := #[.val (.ref a), .val (.long x), .second, .val (.long n'), .second, .val (.int (3 : Int32)), .val (.long (own_min (own_min x (f 1)) (f 2))), .second, .val (.int (3 : Int32)), .val (.int ((3 : Int32) + (1 : Int32)))]) rfl ?_
    show Steps p.tables e below (T19.setTop (mkF m 62 #[.val (.ref a), .val (.long x), .second, .val (.long n'), .second, .val (.int (3 : Int32)), .val (.long (own_min (own_min x (f 1)) (f 2))), .second, .val (.int (3 : Int32)), .val (.int ((3 : Int32) + (1 : Int32)))] [])) _
    rw [show (((3 : Int32) + (1 : Int32)) : Int32) = (4 : Int32) from by decide]
    show Steps p.tables e below (T19.setTop (mkF m 62 #[.val (.ref a), .val (.long x), .second, .val (.long n'), .second, .val (.int (3 : Int32)), .val (.long (own_min (own_min x (f 1)) (f 2))), .second, .val (.int (3 : Int32)), .val (.int (4 : Int32))] [])) _
    refine XS.goto X19.here hx rfl (pc0 := 62) (pc' := 16) rfl (hb hby d7_62) (by decide) (by decide) ?_
    show Steps p.tables e below (T19.setTop (mkF m 16 #[.val (.ref a), .val (.long x), .second, .val (.long n'), .second, .val (.int (3 : Int32)), .val (.long (own_min (own_min x (f 1)) (f 2))), .second, .val (.int (3 : Int32)), .val (.int (4 : Int32))] [])) _
    refine XS.iload X19.here hx rfl (hb hby d7_16) rfl ?_
    show Steps p.tables e below (T19.setTop (mkF m 18 #[.val (.ref a), .val (.long x), .second, .val (.long n'), .second, .val (.int (3 : Int32)), .val (.long (own_min (own_min x (f 1)) (f 2))), .second, .val (.int (3 : Int32)), .val (.int (4 : Int32))] [(.int (4 : Int32))])) _
    refine XS.aloadN X19.here hx rfl (hb hby d7_18) rfl rfl ?_
    show Steps p.tables e below (T19.setTop (mkF m 19 #[.val (.ref a), .val (.long x), .second, .val (.long n'), .second, .val (.int (3 : Int32)), .val (.long (own_min (own_min x (f 1)) (f 2))), .second, .val (.int (3 : Int32)), .val (.int (4 : Int32))] [(.ref a), (.int (4 : Int32))])) _
    refine st20 _ ?_
    show Steps p.tables e below (T20.setTop (mkF m 22 #[.val (.ref a), .val (.long x), .second, .val (.long n'), .second, .val (.int (3 : Int32)), .val (.long (own_min (own_min x (f 1)) (f 2))), .second, .val (.int (3 : Int32)), .val (.int (4 : Int32))] [(.ref t), (.int (4 : Int32))])) _
    refine X20.arraylength hx (by rw [e20]; exact Ar21.1) (State.isArrayOf_alike hZ.alike Ar21.2.1) (g := (mkF m 22 #[.val (.ref a), .val (.long x), .second, .val (.long n'), .second, .val (.int (3 : Int32)), .val (.long (own_min (own_min x (f 1)) (f 2))), .second, .val (.int (3 : Int32)), .val (.int (4 : Int32))] [(.ref t), (.int (4 : Int32))])) rfl rfl (hb hby d7_22) _ ?_
    rw [S21]
    show Steps p.tables e below (T20.setTop (mkF m 23 #[.val (.ref a), .val (.long x), .second, .val (.long n'), .second, .val (.int (3 : Int32)), .val (.long (own_min (own_min x (f 1)) (f 2))), .second, .val (.int (3 : Int32)), .val (.int (4 : Int32))] [(.int (Nat.toInt32 4)), (.int (4 : Int32))])) _
    rw [show ((Nat.toInt32 4) : Int32) = (4 : Int32) from by decide]
    show Steps p.tables e below (T20.setTop (mkF m 23 #[.val (.ref a), .val (.long x), .second, .val (.long n'), .second, .val (.int (3 : Int32)), .val (.long (own_min (own_min x (f 1)) (f 2))), .second, .val (.int (3 : Int32)), .val (.int (4 : Int32))] [(.int (4 : Int32)), (.int (4 : Int32))])) _
    refine XS.icmpYes X20.here hx rfl (pc0 := 23) (pc' := 65) rfl (hb hby d7_23) rfl (flt (show ¬ ((4 : Int32) < (4 : Int32)) from (by decide))).2.1 (by decide) (by decide) ?_
    show Steps p.tables e below (T20.setTop (mkF m 65 #[.val (.ref a), .val (.long x), .second, .val (.long n'), .second, .val (.int (3 : Int32)), .val (.long (own_min (own_min x (f 1)) (f 2))), .second, .val (.int (3 : Int32)), .val (.int (4 : Int32))] [])) _
    refine XS.iload X20.here hx rfl (hb hby d7_65) rfl ?_
    show Steps p.tables e below (T20.setTop (mkF m 67 #[.val (.ref a), .val (.long x), .second, .val (.long n'), .second, .val (.int (3 : Int32)), .val (.long (own_min (own_min x (f 1)) (f 2))), .second, .val (.int (3 : Int32)), .val (.int (4 : Int32))] [(.int (3 : Int32))])) _
    refine XS.aloadN X20.here hx rfl (hb hby d7_67) rfl rfl ?_
    show Steps p.tables e below (T20.setTop (mkF m 68 #[.val (.ref a), .val (.long x), .second, .val (.long n'), .second, .val (.int (3 : Int32)), .val (.long (own_min (own_min x (f 1)) (f 2))), .second, .val (.int (3 : Int32)), .val (.int (4 : Int32))] [(.ref a), (.int (3 : Int32))])) _
    refine st22 _ ?_
    show Steps p.tables e below (T22.setTop (mkF m 71 #[.val (.ref a), .val (.long x), .second, .val (.long n'), .second, .val (.int (3 : Int32)), .val (.long (own_min (own_min x (f 1)) (f 2))), .second, .val (.int (3 : Int32)), .val (.int (4 : Int32))] [(.int (3 : Int32)), (.int (3 : Int32))])) _
    refine XS.icmpNo X22.here hx rfl (hb hby d7_71) rfl (flt (show ¬ ((3 : Int32) < (3 : Int32)) from (by decide))).1 ?_
    show Steps p.tables e below (T22.setTop (mkF m 74 #[.val (.ref a), .val (.long x), .second, .val (.long n'), .second, .val (.int (3 : Int32)), .val (.long (own_min (own_min x (f 1)) (f 2))), .second, .val (.int (3 : Int32)), .val (.int (4 : Int32))] [])) _
    refine XS.lload X22.here hx rfl (hb hby d7_74) rfl ?_
    show Steps p.tables e below (T22.setTop (mkF m 76 #[.val (.ref a), .val (.long x), .second, .val (.long n'), .second, .val (.int (3 : Int32)), .val (.long (own_min (own_min x (f 1)) (f 2))), .second, .val (.int (3 : Int32)), .val (.int (4 : Int32))] [(.long (own_min (own_min x (f 1)) (f 2)))])) _
    refine XS.goto X22.here hx rfl (pc0 := 76) (pc' := 82) rfl (hb hby d7_76) (by decide) (by decide) ?_
    show Steps p.tables e below (T22.setTop (mkF m 82 #[.val (.ref a), .val (.long x), .second, .val (.long n'), .second, .val (.int (3 : Int32)), .val (.long (own_min (own_min x (f 1)) (f 2))), .second, .val (.int (3 : Int32)), .val (.int (4 : Int32))] [(.long (own_min (own_min x (f 1)) (f 2)))])) _
    exact X22.lreturnOut hx Bd.returns (hb hby d7_82) hr
  · show Qrm7_3 Z a x n' sl t u f g h0 n0 _ T22.heap _
    rw [e22]
    exact ⟨rfl, N16, rfl⟩
theorem pd_4 : parseMethodDescriptor "(IIIJJ)V" = some ⟨[.int, .int, .int, .long, .long], none⟩ := by decide +kernel
theorem pd_5 : parseMethodDescriptor "(IJJ)V" = some ⟨[.int, .long, .long], none⟩ := by decide +kernel
theorem pd_6 : parseMethodDescriptor "(IJ)V" = some ⟨[.int, .long], none⟩ := by decide +kernel
theorem pn_3 : plainName "stillmark/StableTimesRestartedPinLaw" = true := by first | (simp [plainName, overriddenIn]; done) | decide +kernel
theorem ef_0 (m : MethodId) (x0 : Int64) (x1 : Int64) (x2 : Int64) (x3 : Int64) (x4 : Int32) (x5 : Int32) : entryFrame m #[(.long x0), (.long x1), (.long x2), (.long x3), (.int x4), (.int x5)] maxLocals = mkF m 0 #[.val (.long x0), .second, .val (.long x1), .second, .val (.long x2), .second, .val (.long x3), .second, .val (.int x4), .val (.int x5), .unset, .unset, .unset, .unset, .unset, .unset, .unset, .unset, .unset, .unset, .unset, .unset, .unset, .unset, .unset, .unset] [] := by first | (simp [entryFrame, mkF, argsToLocals, Value.category, maxLocals]; done) | rfl
def Qrm0 (Z : State) (p1 : Int64) (p2 : Int64) (p3 : Int64) (p4 : Int64) (p5 : Int32) (p6 : Int32) (h0 : Heap) (n0 : Nat) (v : Option Value) (h : Heap) (L : List Loc) : Prop := v = some (.int (1 : Int32)) ∧ Fr n0 L
set_option maxRecDepth 65536 in
set_option maxHeartbeats 40000000 in
theorem rm0_0 (l : Launch) (Z : State) (a0 : Array Value) (hw : ∀ d ∈ tables_1, d.before a0 Z = true) (ws : List Jvm.Cond) (p1 : Int64) (p2 : Int64) (p3 : Int64) (p4 : Int64) (p5 : Int32) (p6 : Int32) (h0 : Heap) (n0 : Nat) (Z0 : n0 ≤ h0.size) (hk : (p5 &&& (3 : Int32)) = (0 : Int32)) :
    MetFree l x (head1 (Jvm.Cond.code x code maxLocals ret :: ws) room_1) (fun aa_ U => aa_ = #[(.long p1), (.long p2), (.long p3), (.long p4), (.int p5), (.int p6)] ∧ Z.Warmed39 U.vm ∧ U.heap = h0) (fun _ _ _ _ _ => True) (fun _ U o U' => ∃ v L, o = .returned v ∧ Qrm0 Z p1 p2 p3 p4 p5 p6 h0 n0 v U'.heap L ∧ FrameEnd U o U' L room_1.cells room_1.slots) := by
  refine MetFree.of_bodySF (plainFor_of_name pn_3) hisR ?_
  intro p e s m args below meth c s₁ Bd hml0 hP hK
  obtain ⟨rfl, hZ, hh⟩ := hP
  have hx := Bd.exec
  have hby := Bd.bytes
  have hml : c.maxLocals = 26 := hml0
  have hown : s.vm.findClass "stillmark/StableTimesRestartedPinLaw" = some m.cls := findClass_of_methodNamed Bd.named
  have hnm := (name_of_methodNamed Bd.named Bd.method).1
  have X0 : Stand p l e room_1 s m #[(.long p1), (.long p2), (.long p3), (.long p4), (.int p5), (.int p6)] below meth c s₁ [] 0 0 := Stand.of_body Bd
  have e0 : s₁.heap = h0 := by rw [← hh, Bd.state]; rfl
  have N0 := Fr.nil n0
  have pre0 : ∀ tt_, Steps p.tables e below (s₁.setTop (mkF m 0 #[.val (.long p1), .second, .val (.long p2), .second, .val (.long p3), .second, .val (.long p4), .second, .val (.int p5), .val (.int p6), .unset, .unset, .unset, .unset, .unset, .unset, .unset, .unset, .unset, .unset, .unset, .unset, .unset, .unset, .unset, .unset] [])) tt_ → Steps p.tables e below (s₁.setTop (entryFrame m #[(.long p1), (.long p2), (.long p3), (.long p4), (.int p5), (.int p6)] maxLocals)) tt_ := fun tt_ kk_ => castTop (ef_0 m p1 p2 p3 p4 p5 p6) kk_
  obtain ⟨sl, h_sl⟩ : ∃ zz_ : Int64, zz_ = ((((p5.toUInt32 >>> ((2 : Int32) &&& 31).toUInt32).toInt32) &&& (268435455 : Int32)).toInt64) := ⟨_, rfl⟩
  obtain ⟨tt1, h_tt1⟩ : ∃ zz_ : Int64, zz_ = ((p6.toInt64) &&& (2147483647 : Int64)) := ⟨_, rfl⟩
  obtain ⟨tt2, h_tt2⟩ : ∃ zz_ : Int64, zz_ = (tt1 + (1 : Int64)) := ⟨_, rfl⟩
  have ht1 := own_t p6
  rw [← h_tt1] at ht1
  have hup : tt1 < tt2 := by rw [h_tt2]; exact own_up tt1 ht1
  obtain ⟨T1, h1, X1, e1, E1, A1, D1, -, st1⟩ := newO X0 hx hZ hown (hw _ (List.mem_of_getElem? (i := 2) rfl)) (hw _ (List.mem_of_getElem? (i := 3) rfl)) (hw _ (List.mem_of_getElem? (i := 4) rfl)) e0 (g := (mkF m 51 #[.val (.long p1), .second, .val (.long p2), .second, .val (.long p3), .second, .val (.long p4), .second, .val (.int p5), .val (.int p6), .val (.int (1 : Int32)), .val (.int (2 : Int32)), .val (.int (3 : Int32)), .val (.long sl), .second, .val (.long tt1), .second, .val (.long tt2), .second, .unset, .unset, .unset, .unset, .unset, .unset, .unset] [])) rfl (hb hby at_51) (by decide) (by decide)
  obtain ⟨b1, g1⟩ : ∃ zz_, zz_ = h0.size := ⟨_, rfl⟩
  rw [← g1] at A1 D1 st1
  have g_b1 : n0 ≤ b1 := Nat.le_trans Z0 (Nat.le_of_eq g1.symm)
  have sz_b1 : h0.size ≤ b1 := Nat.le_trans (Keep.refl h0 []).1 (Nat.le_of_eq g1.symm)
  have F_own_b1 : Fld Z h1 b1 "stillmark/StableTimes" "own" "I" (.int (0 : Int32)) := D1 (Or.inr (hw _ (List.mem_of_getElem? (i := 12) rfl))) (ty := .int) (by decide)
  have F_majority_b1 : Fld Z h1 b1 "stillmark/StableTimes" "majority" "I" (.int (0 : Int32)) := D1 (Or.inr (hw _ (List.mem_of_getElem? (i := 14) rfl))) (ty := .int) (by decide)
  have F_silence_b1 : Fld Z h1 b1 "stillmark/StableTimes" "silence" "J" (.long (0 : Int64)) := D1 (Or.inr (hw _ (List.mem_of_getElem? (i := 16) rfl))) (ty := .long) (by decide)
  have F_told_b1 : Fld Z h1 b1 "stillmark/StableTimes" "told" "[J" .null := D1 (Or.inr (hw _ (List.mem_of_getElem? (i := 19) rfl))) (ty := (.array .long)) (by decide)
  have F_heard_b1 : Fld Z h1 b1 "stillmark/StableTimes" "heard" "[J" .null := D1 (Or.inr (hw _ (List.mem_of_getElem? (i := 21) rfl))) (ty := (.array .long)) (by decide)
  have sz3 : n0 ≤ h1.size := (Nat.le_trans Z0 E1.1)
  obtain ⟨_, _, ⟨T2, L2, k2, n2⟩, -, X2, ⟨Lc2, hQ2, l2, y2, z2⟩, st2⟩ := X1.specialBack hx (y := (⟨"stillmark/StableTimes", "<init>", "(IIIJJ)V"⟩ : MethodName)) rfl hown (mvT hZ (hw _ (List.mem_of_getElem? (i := 5) rfl))) (mvT hZ (hw _ (List.mem_of_getElem? (i := 6) rfl))) (mvT hZ (hw _ (List.mem_of_getElem? (i := 7) rfl))) (by decide) (backOf (W := 1) (rm1 l Z a0 hw [] b1 sl (0 : Int64) h1 n0 sz3 A1 F_own_b1 F_majority_b1 F_silence_b1 F_told_b1 F_heard_b1 g_b1) hZ (hw _ (List.mem_of_getElem? (i := 7) rfl)) (hw _ (List.mem_of_getElem? (i := 4) rfl)) (by decide) (by decide)) (g := (mkF m 61 #[.val (.long p1), .second, .val (.long p2), .second, .val (.long p3), .second, .val (.long p4), .second, .val (.int p5), .val (.int p6), .val (.int (1 : Int32)), .val (.int (2 : Int32)), .val (.int (3 : Int32)), .val (.long sl), .second, .val (.long tt1), .second, .val (.long tt2), .second, .unset, .unset, .unset, .unset, .unset, .unset, .unset] [(.long (0 : Int64)), (.long sl), (.int (3 : Int32)), (.int (4 : Int32)), (.int (0 : Int32)), (.ref b1), (.ref b1)])) rfl (by rw [hml]; rfl) (Steps.refl _) (a := b1) (argsL := [(.int (0 : Int32)), (.int (4 : Int32)), (.int (3 : Int32)), (.long sl), (.long (0 : Int64))]) (rest := [(.ref b1)]) (lenOf pd_4 rfl) rfl (by show 2 * 0 + _ ≤ _; exact Nat.le_of_eq rfl) (hb hby at_61) (fun _ _ => ⟨rfl, e1, (by decide : 1 + 2 ≤ _), (by decide : 5 + 8 ≤ _)⟩)
  dsimp only [Pt.U, Pt.locs, Pt.cells, Pt.slots] at X2 l2 y2 z2 st2 hQ2
  subst l2 y2 z2
  obtain ⟨t_e2, u_e2, rfl, N2q, K2, p2_1, p2_2, p2_3, p2_4, p2_5, p2_6, p2_7, p2_8, g_t_2, g_u_2, ne_a_t_2, ne_a_u_2, ne_t_u_2⟩ := hQ2
  have N2 := Fr.app N0 N2q
  have sz5 : n0 ≤ T2.heap.size := (Nat.le_trans sz3 K2.1)
  obtain ⟨cq4, kq4, q4a, q4b, q4c⟩ := isOf hZ rfl p2_1
  obtain ⟨_, _, ⟨T4, L4, k4, n4⟩, -, X4, ⟨Lc4, hQ4, l4, y4, z4⟩, st4⟩ := X2.virtualBack hx (y := (⟨"stillmark/StableTimes", "told", "(IJJ)V"⟩ : MethodName)) (z := (⟨"stillmark/StableTimes", "told", "(IJJ)V"⟩ : MethodName)) hown (mvT hZ (hw _ (List.mem_of_getElem? (i := 32) rfl))) (mvT hZ (hw _ (List.mem_of_getElem? (i := 33) rfl))) (notFace_of_selects (args := #[]) (mvT hZ (hw _ (List.mem_of_getElem? (i := 35) rfl)))) (mvT hZ (hw _ (List.mem_of_getElem? (i := 35) rfl))) (mvT hZ (hw _ (List.mem_of_getElem? (i := 34) rfl))) (by decide) (backOf (W := 0) (rm5 l Z a0 hw [] b1 (1 : Int32) p1 (0 : Int64) t_e2 u_e2 (fun _ => (-9223372036854775808 : Int64)) (fun _ => (0 : Int64)) 1 (T2.heap) n0 sz5 p2_1 p2_5 p2_6 p2_7 p2_8 g_t_2 g_u_2 ne_a_t_2 ne_a_u_2 ne_t_u_2 (by decide) (by decide) (by decide)) hZ (hw _ (List.mem_of_getElem? (i := 36) rfl)) (hw _ (List.mem_of_getElem? (i := 4) rfl)) (by decide) (by decide)) q4a q4c (g := (mkF m 72 #[.val (.long p1), .second, .val (.long p2), .second, .val (.long p3), .second, .val (.long p4), .second, .val (.int p5), .val (.int p6), .val (.int (1 : Int32)), .val (.int (2 : Int32)), .val (.int (3 : Int32)), .val (.long sl), .second, .val (.long tt1), .second, .val (.long tt2), .second, .val (.ref b1), .unset, .unset, .unset, .unset, .unset, .unset] [(.long (0 : Int64)), (.long p1), (.int (1 : Int32)), (.ref b1)])) rfl (by rw [hml]; rfl) (Steps.refl _) (argsL := [(.int (1 : Int32)), (.long p1), (.long (0 : Int64))]) (rest := []) (lenOf pd_5 rfl) rfl (by show 2 * 0 + _ ≤ _; exact Nat.le_of_eq rfl) (hb hby at_72) (fun _ _ => ⟨rfl, rfl, (by decide : 3 + 0 ≤ _), (by decide : 13 + 0 ≤ _)⟩)
  dsimp only [Pt.U, Pt.locs, Pt.cells, Pt.slots] at X4 l4 y4 z4 st4 hQ4
  subst l4 y4 z4
  obtain ⟨rfl, N4q, K4, p4_1, p4_2⟩ := hQ4
  have N4 := Fr.app N2 N4q
  have f7_E_b1 := (p2_1.keep K4)
  have f8_F_b1_told := (p2_5.keep K4 (ninS ne_a_t_2 (ninS ne_a_u_2 nin0)))
  have f9_F_b1_heard := (p2_6.keep K4 (ninS ne_a_t_2 (ninS ne_a_u_2 nin0)))
  have sz10 : n0 ≤ T4.heap.size := (Nat.le_trans sz5 K4.1)
  obtain ⟨cq6, kq6, q6a, q6b, q6c⟩ := isOf hZ rfl f7_E_b1
  obtain ⟨_, _, ⟨T6, L6, k6, n6⟩, -, X6, ⟨Lc6, hQ6, l6, y6, z6⟩, st6⟩ := X4.virtualBack hx (y := (⟨"stillmark/StableTimes", "told", "(IJJ)V"⟩ : MethodName)) (z := (⟨"stillmark/StableTimes", "told", "(IJJ)V"⟩ : MethodName)) hown (mvT hZ (hw _ (List.mem_of_getElem? (i := 32) rfl))) (mvT hZ (hw _ (List.mem_of_getElem? (i := 33) rfl))) (notFace_of_selects (args := #[]) (mvT hZ (hw _ (List.mem_of_getElem? (i := 35) rfl)))) (mvT hZ (hw _ (List.mem_of_getElem? (i := 35) rfl))) (mvT hZ (hw _ (List.mem_of_getElem? (i := 34) rfl))) (by decide) (backOf (W := 0) (rm5 l Z a0 hw [] b1 (2 : Int32) p2 tt2 t_e2 u_e2 (own_set (fun _ => (-9223372036854775808 : Int64)) 1 p1) (own_set (fun _ => (0 : Int64)) 1 (0 : Int64)) 2 (T4.heap) n0 sz10 f7_E_b1 f8_F_b1_told f9_F_b1_heard p4_1 p4_2 g_t_2 g_u_2 ne_a_t_2 ne_a_u_2 ne_t_u_2 (by decide) (by decide) (by decide)) hZ (hw _ (List.mem_of_getElem? (i := 36) rfl)) (hw _ (List.mem_of_getElem? (i := 4) rfl)) (by decide) (by decide)) q6a q6c (g := (mkF m 82 #[.val (.long p1), .second, .val (.long p2), .second, .val (.long p3), .second, .val (.long p4), .second, .val (.int p5), .val (.int p6), .val (.int (1 : Int32)), .val (.int (2 : Int32)), .val (.int (3 : Int32)), .val (.long sl), .second, .val (.long tt1), .second, .val (.long tt2), .second, .val (.ref b1), .unset, .unset, .unset, .unset, .unset, .unset] [(.long tt2), (.long p2), (.int (2 : Int32)), (.ref b1)])) rfl (by rw [hml]; rfl) (Steps.refl _) (argsL := [(.int (2 : Int32)), (.long p2), (.long tt2)]) (rest := []) (lenOf pd_5 rfl) rfl (by show 2 * 0 + _ ≤ _; exact Nat.le_of_eq rfl) (hb hby at_82) (fun _ _ => ⟨rfl, rfl, (by decide : 3 + 0 ≤ _), (by decide : 13 + 0 ≤ _)⟩)
  dsimp only [Pt.U, Pt.locs, Pt.cells, Pt.slots] at X6 l6 y6 z6 st6 hQ6
  subst l6 y6 z6
  obtain ⟨rfl, N6q, K6, p6_1, p6_2⟩ := hQ6
  have N6 := Fr.app N4 N6q
  have f12_E_b1 := (f7_E_b1.keep K6)
  have f13_F_b1_told := (f8_F_b1_told.keep K6 (ninS ne_a_t_2 (ninS ne_a_u_2 nin0)))
  have f14_F_b1_heard := (f9_F_b1_heard.keep K6 (ninS ne_a_t_2 (ninS ne_a_u_2 nin0)))
  have sz15 : n0 ≤ T6.heap.size := (Nat.le_trans sz10 K6.1)
  obtain ⟨cq11, kq11, q11a, q11b, q11c⟩ := isOf hZ rfl f12_E_b1
  obtain ⟨_, _, ⟨T11, L11, k11, n11⟩, -, X11, ⟨Lc11, hQ11, l11, y11, z11⟩, st11⟩ := X6.virtualBack hx (y := (⟨"stillmark/StableTimes", "told", "(IJJ)V"⟩ : MethodName)) (z := (⟨"stillmark/StableTimes", "told", "(IJJ)V"⟩ : MethodName)) hown (mvT hZ (hw _ (List.mem_of_getElem? (i := 32) rfl))) (mvT hZ (hw _ (List.mem_of_getElem? (i := 33) rfl))) (notFace_of_selects (args := #[]) (mvT hZ (hw _ (List.mem_of_getElem? (i := 35) rfl)))) (mvT hZ (hw _ (List.mem_of_getElem? (i := 35) rfl))) (mvT hZ (hw _ (List.mem_of_getElem? (i := 34) rfl))) (by decide) (backOf (W := 0) (rm5 l Z a0 hw [] b1 (3 : Int32) p3 tt2 t_e2 u_e2 (own_set (own_set (fun _ => (-9223372036854775808 : Int64)) 1 p1) 2 p2) (own_set (own_set (fun _ => (0 : Int64)) 1 (0 : Int64)) 2 tt2) 3 (T6.heap) n0 sz15 f12_E_b1 f13_F_b1_told f14_F_b1_heard p6_1 p6_2 g_t_2 g_u_2 ne_a_t_2 ne_a_u_2 ne_t_u_2 (by decide) (by decide) (by decide)) hZ (hw _ (List.mem_of_getElem? (i := 36) rfl)) (hw _ (List.mem_of_getElem? (i := 4) rfl)) (by decide) (by decide)) q11a q11c (g := (mkF m 93 #[.val (.long p1), .second, .val (.long p2), .second, .val (.long p3), .second, .val (.long p4), .second, .val (.int p5), .val (.int p6), .val (.int (1 : Int32)), .val (.int (2 : Int32)), .val (.int (3 : Int32)), .val (.long sl), .second, .val (.long tt1), .second, .val (.long tt2), .second, .val (.ref b1), .unset, .unset, .unset, .unset, .unset, .unset] [(.long tt2), (.long p3), (.int (3 : Int32)), (.ref b1)])) rfl (by rw [hml]; rfl) (Steps.refl _) (argsL := [(.int (3 : Int32)), (.long p3), (.long tt2)]) (rest := []) (lenOf pd_5 rfl) rfl (by show 2 * 0 + _ ≤ _; exact Nat.le_of_eq rfl) (hb hby at_93) (fun _ _ => ⟨rfl, rfl, (by decide : 3 + 0 ≤ _), (by decide : 13 + 0 ≤ _)⟩)
  dsimp only [Pt.U, Pt.locs, Pt.cells, Pt.slots] at X11 l11 y11 z11 st11 hQ11
  subst l11 y11 z11
  obtain ⟨rfl, N11q, K11, p11_1, p11_2⟩ := hQ11
  have N11 := Fr.app N6 N11q
  have f17_E_b1 := (f12_E_b1.keep K11)
  have f18_F_b1_told := (f13_F_b1_told.keep K11 (ninS ne_a_t_2 (ninS ne_a_u_2 nin0)))
  have f19_F_b1_heard := (f14_F_b1_heard.keep K11 (ninS ne_a_t_2 (ninS ne_a_u_2 nin0)))
  have sz20 : n0 ≤ T11.heap.size := (Nat.le_trans sz15 K11.1)
  obtain ⟨cq16, kq16, q16a, q16b, q16c⟩ := isOf hZ rfl f17_E_b1
  obtain ⟨_, _, ⟨T16, L16, k16, n16⟩, -, X16, ⟨Lc16, hQ16, l16, y16, z16⟩, st16⟩ := X11.virtualBack hx (y := (⟨"stillmark/StableTimes", "restarted", "(IJ)V"⟩ : MethodName)) (z := (⟨"stillmark/StableTimes", "restarted", "(IJ)V"⟩ : MethodName)) hown (mvT hZ (hw _ (List.mem_of_getElem? (i := 37) rfl))) (mvT hZ (hw _ (List.mem_of_getElem? (i := 38) rfl))) (notFace_of_selects (args := #[]) (mvT hZ (hw _ (List.mem_of_getElem? (i := 40) rfl)))) (mvT hZ (hw _ (List.mem_of_getElem? (i := 40) rfl))) (mvT hZ (hw _ (List.mem_of_getElem? (i := 39) rfl))) (by decide) (backOf (W := 0) (rm6 l Z a0 hw [] b1 (1 : Int32) tt1 t_e2 u_e2 (own_set (own_set (own_set (fun _ => (-9223372036854775808 : Int64)) 1 p1) 2 p2) 3 p3) (own_set (own_set (own_set (fun _ => (0 : Int64)) 1 (0 : Int64)) 2 tt2) 3 tt2) 1 (T11.heap) n0 sz20 f17_E_b1 f18_F_b1_told f19_F_b1_heard p11_1 p11_2 g_t_2 g_u_2 ne_a_t_2 ne_a_u_2 ne_t_u_2 (by decide) (by decide) (by decide)) hZ (hw _ (List.mem_of_getElem? (i := 41) rfl)) (hw _ (List.mem_of_getElem? (i := 4) rfl)) (by decide) (by decide)) q16a q16c (g := (mkF m 102 #[.val (.long p1), .second, .val (.long p2), .second, .val (.long p3), .second, .val (.long p4), .second, .val (.int p5), .val (.int p6), .val (.int (1 : Int32)), .val (.int (2 : Int32)), .val (.int (3 : Int32)), .val (.long sl), .second, .val (.long tt1), .second, .val (.long tt2), .second, .val (.ref b1), .unset, .unset, .unset, .unset, .unset, .unset] [(.long tt1), (.int (1 : Int32)), (.ref b1)])) rfl (by rw [hml]; rfl) (Steps.refl _) (argsL := [(.int (1 : Int32)), (.long tt1)]) (rest := []) (lenOf pd_6 rfl) rfl (by show 2 * 0 + _ ≤ _; exact Nat.le_of_eq rfl) (hb hby at_102) (fun _ _ => ⟨rfl, rfl, (by decide : 3 + 0 ≤ _), (by decide : 13 + 0 ≤ _)⟩)
  dsimp only [Pt.U, Pt.locs, Pt.cells, Pt.slots] at X16 l16 y16 z16 st16 hQ16
  subst l16 y16 z16
  obtain ⟨rfl, N16q, K16, p16_1, p16_2⟩ := hQ16
  have N16 := Fr.app N11 N16q
  have f22_E_b1 := (f17_E_b1.keep K16)
  have f23_F_b1_own := ((((p2_2.keep K4 (ninS ne_a_t_2 (ninS ne_a_u_2 nin0))).keep K6 (ninS ne_a_t_2 (ninS ne_a_u_2 nin0))).keep K11 (ninS ne_a_t_2 (ninS ne_a_u_2 nin0))).keep K16 (ninS ne_a_t_2 (ninS ne_a_u_2 nin0)))
  have f24_F_b1_silence := ((((p2_4.keep K4 (ninS ne_a_t_2 (ninS ne_a_u_2 nin0))).keep K6 (ninS ne_a_t_2 (ninS ne_a_u_2 nin0))).keep K11 (ninS ne_a_t_2 (ninS ne_a_u_2 nin0))).keep K16 (ninS ne_a_t_2 (ninS ne_a_u_2 nin0)))
  have f25_F_b1_heard := (f19_F_b1_heard.keep K16 (ninS ne_a_t_2 (ninS ne_a_u_2 nin0)))
  have f26_F_b1_majority := ((((p2_3.keep K4 (ninS ne_a_t_2 (ninS ne_a_u_2 nin0))).keep K6 (ninS ne_a_t_2 (ninS ne_a_u_2 nin0))).keep K11 (ninS ne_a_t_2 (ninS ne_a_u_2 nin0))).keep K16 (ninS ne_a_t_2 (ninS ne_a_u_2 nin0)))
  have f27_F_b1_told := (f18_F_b1_told.keep K16 (ninS ne_a_t_2 (ninS ne_a_u_2 nin0)))
  have sz28 : n0 ≤ T16.heap.size := (Nat.le_trans sz20 K16.1)
  obtain ⟨cq21, kq21, q21a, q21b, q21c⟩ := isOf hZ rfl f22_E_b1
  obtain ⟨_, _, ⟨T21, L21, k21, n21⟩, -, X21, ⟨Lc21, hQ21, l21, y21, z21⟩, st21⟩ := X16.virtualBack hx (y := (⟨"stillmark/StableTimes", "raise", "(JJ)J"⟩ : MethodName)) (z := (⟨"stillmark/StableTimes", "raise", "(JJ)J"⟩ : MethodName)) hown (mvT hZ (hw _ (List.mem_of_getElem? (i := 42) rfl))) (mvT hZ (hw _ (List.mem_of_getElem? (i := 43) rfl))) (notFace_of_selects (args := #[]) (mvT hZ (hw _ (List.mem_of_getElem? (i := 45) rfl)))) (mvT hZ (hw _ (List.mem_of_getElem? (i := 45) rfl))) (mvT hZ (hw _ (List.mem_of_getElem? (i := 44) rfl))) (by decide) (backOf (W := 0) (rm7_0 l Z a0 hw [] b1 p4 (tt1 + sl) sl t_e2 u_e2 (own_set (own_set (own_set (own_set (fun _ => (-9223372036854775808 : Int64)) 1 p1) 2 p2) 3 p3) 1 (-9223372036854775808 : Int64)) (own_set (own_set (own_set (own_set (fun _ => (0 : Int64)) 1 (0 : Int64)) 2 tt2) 3 tt2) 1 tt1) (T16.heap) n0 sz28 f22_E_b1 f23_F_b1_own f24_F_b1_silence f25_F_b1_heard p16_2 f26_F_b1_majority f27_F_b1_told p16_1 (by show ¬ (tt1 < (tt1 + sl) - sl); rw [own_e1]; exact own_irr _) (by show ¬ (tt2 < (tt1 + sl) - sl); rw [own_e1]; exact own_asym hup) (by show ¬ (tt2 < (tt1 + sl) - sl); rw [own_e1]; exact own_asym hup)) hZ (hw _ (List.mem_of_getElem? (i := 46) rfl)) (hw _ (List.mem_of_getElem? (i := 4) rfl)) (by decide) (by decide)) q21a q21c (g := (mkF m 114 #[.val (.long p1), .second, .val (.long p2), .second, .val (.long p3), .second, .val (.long p4), .second, .val (.int p5), .val (.int p6), .val (.int (1 : Int32)), .val (.int (2 : Int32)), .val (.int (3 : Int32)), .val (.long sl), .second, .val (.long tt1), .second, .val (.long tt2), .second, .val (.ref b1), .unset, .unset, .unset, .unset, .unset, .unset] [(.long (tt1 + sl)), (.long p4), (.ref b1)])) rfl (by rw [hml]; rfl) (Steps.refl _) (argsL := [(.long p4), (.long (tt1 + sl))]) (rest := []) (lenOf pd_3 rfl) rfl (by show 2 * 0 + _ ≤ _; exact Nat.le_of_eq rfl) (hb hby at_114) (fun _ _ => ⟨rfl, rfl, (by decide : 3 + 0 ≤ _), (by decide : 13 + 0 ≤ _)⟩)
  dsimp only [Pt.U, Pt.locs, Pt.cells, Pt.slots] at X21 l21 y21 z21 st21 hQ21
  subst l21 y21 z21
  obtain ⟨rfl, N21q, e21q⟩ := hQ21
  have N21 := Fr.app N16 N21q
  obtain ⟨cq29, kq29, q29a, q29b, q29c⟩ := isOf hZ e21q f22_E_b1
  obtain ⟨_, _, ⟨T29, L29, k29, n29⟩, -, X29, ⟨Lc29, hQ29, l29, y29, z29⟩, st29⟩ := X21.virtualBack hx (y := (⟨"stillmark/StableTimes", "raise", "(JJ)J"⟩ : MethodName)) (z := (⟨"stillmark/StableTimes", "raise", "(JJ)J"⟩ : MethodName)) hown (mvT hZ (hw _ (List.mem_of_getElem? (i := 42) rfl))) (mvT hZ (hw _ (List.mem_of_getElem? (i := 43) rfl))) (notFace_of_selects (args := #[]) (mvT hZ (hw _ (List.mem_of_getElem? (i := 45) rfl)))) (mvT hZ (hw _ (List.mem_of_getElem? (i := 45) rfl))) (mvT hZ (hw _ (List.mem_of_getElem? (i := 44) rfl))) (by decide) (backOf (W := 0) (rm7_1 l Z a0 hw [] b1 p4 ((tt1 + sl) + (1 : Int64)) sl t_e2 u_e2 (own_set (own_set (own_set (own_set (fun _ => (-9223372036854775808 : Int64)) 1 p1) 2 p2) 3 p3) 1 (-9223372036854775808 : Int64)) (own_set (own_set (own_set (own_set (fun _ => (0 : Int64)) 1 (0 : Int64)) 2 tt2) 3 tt2) 1 tt1) (T16.heap) n0 sz28 f22_E_b1 f23_F_b1_own f24_F_b1_silence f25_F_b1_heard p16_2 f26_F_b1_majority f27_F_b1_told p16_1 (by show (tt1 < ((tt1 + sl) + 1) - sl); rw [own_e2, ← h_tt2]; exact hup) (by show ¬ (tt2 < ((tt1 + sl) + 1) - sl); rw [own_e2, ← h_tt2]; exact own_irr _) (by show ¬ (tt2 < ((tt1 + sl) + 1) - sl); rw [own_e2, ← h_tt2]; exact own_irr _)) hZ (hw _ (List.mem_of_getElem? (i := 46) rfl)) (hw _ (List.mem_of_getElem? (i := 4) rfl)) (by decide) (by decide)) q29a q29c (g := (mkF m 130 #[.val (.long p1), .second, .val (.long p2), .second, .val (.long p3), .second, .val (.long p4), .second, .val (.int p5), .val (.int p6), .val (.int (1 : Int32)), .val (.int (2 : Int32)), .val (.int (3 : Int32)), .val (.long sl), .second, .val (.long tt1), .second, .val (.long tt2), .second, .val (.ref b1), .val (.long (-9223372036854775808 : Int64)), .second, .unset, .unset, .unset, .unset] [(.long ((tt1 + sl) + (1 : Int64))), (.long p4), (.ref b1)])) rfl (by rw [hml]; rfl) (Steps.refl _) (argsL := [(.long p4), (.long ((tt1 + sl) + (1 : Int64)))]) (rest := []) (lenOf pd_3 rfl) rfl (by show 2 * 0 + _ ≤ _; exact Nat.le_of_eq rfl) (hb hby at_130) (fun _ _ => ⟨rfl, e21q, (by decide : 3 + 0 ≤ _), (by decide : 13 + 0 ≤ _)⟩)
  dsimp only [Pt.U, Pt.locs, Pt.cells, Pt.slots] at X29 l29 y29 z29 st29 hQ29
  subst l29 y29 z29
  obtain ⟨rfl, N29q, e29q⟩ := hQ29
  have N29 := Fr.app N21 N29q
  obtain ⟨_, _, ⟨T30, L30, k30, n30⟩, -, X30, ⟨Lc30, hQ30, l30, y30, z30⟩, st30⟩ := Jvm.LawKit.callS X29 hx (y := (⟨"java/lang/Math", "min", "(JJ)J"⟩ : MethodName)) hown (mvT hZ (hw _ (List.mem_of_getElem? (i := 56) rfl))) (mvT hZ (hw _ (List.mem_of_getElem? (i := 52) rfl))) (mvT hZ (hw _ (List.mem_of_getElem? (i := 53) rfl))) (mvT hZ (hw _ (List.mem_of_getElem? (i := 54) rfl))) (by decide) (backOf (W := 4) (rm9 l Z a0 hw [] p2 p3 (T16.heap) n0 sz28 ) hZ (hw _ (List.mem_of_getElem? (i := 54) rfl)) (hw _ (List.mem_of_getElem? (i := 53) rfl)) (by decide) (by decide)) (g := (mkF m 158 #[.val (.long p1), .second, .val (.long p2), .second, .val (.long p3), .second, .val (.long p4), .second, .val (.int p5), .val (.int p6), .val (.int (1 : Int32)), .val (.int (2 : Int32)), .val (.int (3 : Int32)), .val (.long sl), .second, .val (.long tt1), .second, .val (.long tt2), .second, .val (.ref b1), .val (.long (-9223372036854775808 : Int64)), .second, .val (.long (own_min (own_min p4 p2) p3)), .second, .val (.int (1 : Int32)), .unset] [(.long p3), (.long p2), (.long p4), (.long (own_min (own_min p4 p2) p3))])) rfl (by rw [hml]; rfl) (argsL := [(.long p2), (.long p3)]) (rest := [(.long p4), (.long (own_min (own_min p4 p2) p3))]) (lenOf pd_3 rfl) rfl (by show 2 * 0 + _ ≤ _; exact Nat.le_of_eq rfl) (hb hby at_158) (fun _ _ => ⟨rfl, e29q, (by decide : 3 + 0 ≤ _), (by decide : 13 + 0 ≤ _)⟩)
  dsimp only [Pt.U, Pt.locs, Pt.cells, Pt.slots] at X30 l30 y30 z30 st30 hQ30
  subst l30 y30 z30
  obtain ⟨rfl, N30q, e30q⟩ := hQ30
  have N30 := Fr.app N29 N30q
  obtain ⟨_, _, ⟨T31, L31, k31, n31⟩, -, X31, ⟨Lc31, hQ31, l31, y31, z31⟩, st31⟩ := Jvm.LawKit.callS X30 hx (y := (⟨"java/lang/Math", "min", "(JJ)J"⟩ : MethodName)) hown (mvT hZ (hw _ (List.mem_of_getElem? (i := 56) rfl))) (mvT hZ (hw _ (List.mem_of_getElem? (i := 52) rfl))) (mvT hZ (hw _ (List.mem_of_getElem? (i := 53) rfl))) (mvT hZ (hw _ (List.mem_of_getElem? (i := 54) rfl))) (by decide) (backOf (W := 2) (rm9 l Z a0 hw [] p4 (own_min p2 p3) (T16.heap) n0 sz28 ) hZ (hw _ (List.mem_of_getElem? (i := 54) rfl)) (hw _ (List.mem_of_getElem? (i := 53) rfl)) (by decide) (by decide)) (g := (mkF m 161 #[.val (.long p1), .second, .val (.long p2), .second, .val (.long p3), .second, .val (.long p4), .second, .val (.int p5), .val (.int p6), .val (.int (1 : Int32)), .val (.int (2 : Int32)), .val (.int (3 : Int32)), .val (.long sl), .second, .val (.long tt1), .second, .val (.long tt2), .second, .val (.ref b1), .val (.long (-9223372036854775808 : Int64)), .second, .val (.long (own_min (own_min p4 p2) p3)), .second, .val (.int (1 : Int32)), .unset] [(.long (own_min p2 p3)), (.long p4), (.long (own_min (own_min p4 p2) p3))])) rfl (by rw [hml]; rfl) (argsL := [(.long p4), (.long (own_min p2 p3))]) (rest := [(.long (own_min (own_min p4 p2) p3))]) (lenOf pd_3 rfl) rfl (by show 2 * 0 + _ ≤ _; exact Nat.le_of_eq rfl) (hb hby at_161) (fun _ _ => ⟨rfl, e30q, (by decide : 3 + 0 ≤ _), (by decide : 13 + 0 ≤ _)⟩)
  dsimp only [Pt.U, Pt.locs, Pt.cells, Pt.slots] at X31 l31 y31 z31 st31 hQ31
  subst l31 y31 z31
  obtain ⟨rfl, N31q, e31q⟩ := hQ31
  have N31 := Fr.app N30 N31q
  obtain ⟨fs, hr, hrun, hended, hW, hsame⟩ := X31.leave (v := some (.int (1 : Int32))) (fun h => by rw [Bd.returns] at h; cases h)
  refine ⟨_, _, pre0 _ ?_, hrun, hended, _, _, rfl, ?_, ⟨_, rfl⟩, hW, hsame.mono (by decide) (by decide)⟩
  · show Steps p.tables e below (s₁.setTop (mkF m 0 #[.val (.long p1), .second, .val (.long p2), .second, .val (.long p3), .second, .val (.long p4), .second, .val (.int p5), .val (.int p6), .unset, .unset, .unset, .unset, .unset, .unset, .unset, .unset, .unset, .unset, .unset, .unset, .unset, .unset, .unset, .unset] [])) _
    refine XS.iconst X0.here hx rfl (hb hby at_0) ?_
    show Steps p.tables e below (s₁.setTop (mkF m 1 #[.val (.long p1), .second, .val (.long p2), .second, .val (.long p3), .second, .val (.long p4), .second, .val (.int p5), .val (.int p6), .unset, .unset, .unset, .unset, .unset, .unset, .unset, .unset, .unset, .unset, .unset, .unset, .unset, .unset, .unset, .unset] [(.int (1 : Int32))])) _
    refine XS.iload X0.here hx rfl (hb hby at_1) rfl ?_
    show Steps p.tables e below (s₁.setTop (mkF m 3 #[.val (.long p1), .second, .val (.long p2), .second, .val (.long p3), .second, .val (.long p4), .second, .val (.int p5), .val (.int p6), .unset, .unset, .unset, .unset, .unset, .unset, .unset, .unset, .unset, .unset, .unset, .unset, .unset, .unset, .unset, .unset] [(.int p5), (.int (1 : Int32))])) _
    refine XS.iconst X0.here hx rfl (hb hby at_3) ?_
    show Steps p.tables e below (s₁.setTop (mkF m 4 #[.val (.long p1), .second, .val (.long p2), .second, .val (.long p3), .second, .val (.long p4), .second, .val (.int p5), .val (.int p6), .unset, .unset, .unset, .unset, .unset, .unset, .unset, .unset, .unset, .unset, .unset, .unset, .unset, .unset, .unset, .unset] [(.int (3 : Int32)), (.int p5), (.int (1 : Int32))])) _
    refine XS.iand X0.here hx rfl (hb hby at_4) rfl ?_
    show Steps p.tables e below (s₁.setTop (mkF m 5 #[.val (.long p1), .second, .val (.long p2), .second, .val (.long p3), .second, .val (.long p4), .second, .val (.int p5), .val (.int p6), .unset, .unset, .unset, .unset, .unset, .unset, .unset, .unset, .unset, .unset, .unset, .unset, .unset, .unset, .unset, .unset] [(.int (p5 &&& (3 : Int32))), (.int (1 : Int32))])) _
    rw [hk]
    show Steps p.tables e below (s₁.setTop (mkF m 5 #[.val (.long p1), .second, .val (.long p2), .second, .val (.long p3), .second, .val (.long p4), .second, .val (.int p5), .val (.int p6), .unset, .unset, .unset, .unset, .unset, .unset, .unset, .unset, .unset, .unset, .unset, .unset, .unset, .unset, .unset, .unset] [(.int (0 : Int32)), (.int (1 : Int32))])) _
    refine XS.iconst X0.here hx rfl (hb hby at_5) ?_
    show Steps p.tables e below (s₁.setTop (mkF m 6 #[.val (.long p1), .second, .val (.long p2), .second, .val (.long p3), .second, .val (.long p4), .second, .val (.int p5), .val (.int p6), .unset, .unset, .unset, .unset, .unset, .unset, .unset, .unset, .unset, .unset, .unset, .unset, .unset, .unset, .unset, .unset] [(.int (3 : Int32)), (.int (0 : Int32)), (.int (1 : Int32))])) _
    refine XS.irem X0.here hx rfl (hb hby at_6) rfl (by decide) ?_
    show Steps p.tables e below (s₁.setTop (mkF m 7 #[.val (.long p1), .second, .val (.long p2), .second, .val (.long p3), .second, .val (.long p4), .second, .val (.int p5), .val (.int p6), .unset, .unset, .unset, .unset, .unset, .unset, .unset, .unset, .unset, .unset, .unset, .unset, .unset, .unset, .unset, .unset] [(.int ((0 : Int32) - ((0 : Int32) / (3 : Int32)) * (3 : Int32))), (.int (1 : Int32))])) _
    rw [show (((0 : Int32) - ((0 : Int32) / (3 : Int32)) * (3 : Int32)) : Int32) = (0 : Int32) from by decide]
    show Steps p.tables e below (s₁.setTop (mkF m 7 #[.val (.long p1), .second, .val (.long p2), .second, .val (.long p3), .second, .val (.long p4), .second, .val (.int p5), .val (.int p6), .unset, .unset, .unset, .unset, .unset, .unset, .unset, .unset, .unset, .unset, .unset, .unset, .unset, .unset, .unset, .unset] [(.int (0 : Int32)), (.int (1 : Int32))])) _
    refine XS.iadd X0.here hx rfl (hb hby at_7) rfl ?_
    show Steps p.tables e below (s₁.setTop (mkF m 8 #[.val (.long p1), .second, .val (.long p2), .second, .val (.long p3), .second, .val (.long p4), .second, .val (.int p5), .val (.int p6), .unset, .unset, .unset, .unset, .unset, .unset, .unset, .unset, .unset, .unset, .unset, .unset, .unset, .unset, .unset, .unset] [(.int ((1 : Int32) + (0 : Int32)))])) _
    rw [show (((1 : Int32) + (0 : Int32)) : Int32) = (1 : Int32) from by decide]
    show Steps p.tables e below (s₁.setTop (mkF m 8 #[.val (.long p1), .second, .val (.long p2), .second, .val (.long p3), .second, .val (.long p4), .second, .val (.int p5), .val (.int p6), .unset, .unset, .unset, .unset, .unset, .unset, .unset, .unset, .unset, .unset, .unset, .unset, .unset, .unset, .unset, .unset] [(.int (1 : Int32))])) _
    refine XS.istore X0.here hx rfl (hb hby at_8) rfl (l' := #[.val (.long p1), .second, .val (.long p2), .second, .val (.long p3), .second, .val (.long p4), .second, .val (.int p5), .val (.int p6), .val (.int (1 : Int32)), .unset, .unset, .unset, .unset, .unset, .unset, .unset, .unset, .unset, .unset, .unset, .unset, .unset, .unset, .unset]) rfl ?_
    show Steps p.tables e below (s₁.setTop (mkF m 10 #[.val (.long p1), .second, .val (.long p2), .second, .val (.long p3), .second, .val (.long p4), .second, .val (.int p5), .val (.int p6), .val (.int (1 : Int32)), .unset, .unset, .unset, .unset, .unset, .unset, .unset, .unset, .unset, .unset, .unset, .unset, .unset, .unset, .unset] [])) _
    refine XS.iload X0.here hx rfl (hb hby at_10) rfl ?_
    show Steps p.tables e below (s₁.setTop (mkF m 12 #[.val (.long p1), .second, .val (.long p2), .second, .val (.long p3), .second, .val (.long p4), .second, .val (.int p5), .val (.int p6), .val (.int (1 : Int32)), .unset, .unset, .unset, .unset, .unset, .unset, .unset, .unset, .unset, .unset, .unset, .unset, .unset, .unset, .unset] [(.int (1 : Int32))])) _
    refine XS.iconst X0.here hx rfl (hb hby at_12) ?_
    show Steps p.tables e below (s₁.setTop (mkF m 13 #[.val (.long p1), .second, .val (.long p2), .second, .val (.long p3), .second, .val (.long p4), .second, .val (.int p5), .val (.int p6), .val (.int (1 : Int32)), .unset, .unset, .unset, .unset, .unset, .unset, .unset, .unset, .unset, .unset, .unset, .unset, .unset, .unset, .unset] [(.int (3 : Int32)), (.int (1 : Int32))])) _
    refine XS.irem X0.here hx rfl (hb hby at_13) rfl (by decide) ?_
    show Steps p.tables e below (s₁.setTop (mkF m 14 #[.val (.long p1), .second, .val (.long p2), .second, .val (.long p3), .second, .val (.long p4), .second, .val (.int p5), .val (.int p6), .val (.int (1 : Int32)), .unset, .unset, .unset, .unset, .unset, .unset, .unset, .unset, .unset, .unset, .unset, .unset, .unset, .unset, .unset] [(.int ((1 : Int32) - ((1 : Int32) / (3 : Int32)) * (3 : Int32)))])) _
    rw [show (((1 : Int32) - ((1 : Int32) / (3 : Int32)) * (3 : Int32)) : Int32) = (1 : Int32) from by decide]
    show Steps p.tables e below (s₁.setTop (mkF m 14 #[.val (.long p1), .second, .val (.long p2), .second, .val (.long p3), .second, .val (.long p4), .second, .val (.int p5), .val (.int p6), .val (.int (1 : Int32)), .unset, .unset, .unset, .unset, .unset, .unset, .unset, .unset, .unset, .unset, .unset, .unset, .unset, .unset, .unset] [(.int (1 : Int32))])) _
    refine XS.iconst X0.here hx rfl (hb hby at_14) ?_
    show Steps p.tables e below (s₁.setTop (mkF m 15 #[.val (.long p1), .second, .val (.long p2), .second, .val (.long p3), .second, .val (.long p4), .second, .val (.int p5), .val (.int p6), .val (.int (1 : Int32)), .unset, .unset, .unset, .unset, .unset, .unset, .unset, .unset, .unset, .unset, .unset, .unset, .unset, .unset, .unset] [(.int (1 : Int32)), (.int (1 : Int32))])) _
    refine XS.iadd X0.here hx rfl (hb hby at_15) rfl ?_
    show Steps p.tables e below (s₁.setTop (mkF m 16 #[.val (.long p1), .second, .val (.long p2), .second, .val (.long p3), .second, .val (.long p4), .second, .val (.int p5), .val (.int p6), .val (.int (1 : Int32)), .unset, .unset, .unset, .unset, .unset, .unset, .unset, .unset, .unset, .unset, .unset, .unset, .unset, .unset, .unset] [(.int ((1 : Int32) + (1 : Int32)))])) _
    rw [show (((1 : Int32) + (1 : Int32)) : Int32) = (2 : Int32) from by decide]
    show Steps p.tables e below (s₁.setTop (mkF m 16 #[.val (.long p1), .second, .val (.long p2), .second, .val (.long p3), .second, .val (.long p4), .second, .val (.int p5), .val (.int p6), .val (.int (1 : Int32)), .unset, .unset, .unset, .unset, .unset, .unset, .unset, .unset, .unset, .unset, .unset, .unset, .unset, .unset, .unset] [(.int (2 : Int32))])) _
    refine XS.istore X0.here hx rfl (hb hby at_16) rfl (l' := #[.val (.long p1), .second, .val (.long p2), .second, .val (.long p3), .second, .val (.long p4), .second, .val (.int p5), .val (.int p6), .val (.int (1 : Int32)), .val (.int (2 : Int32)), .unset, .unset, .unset, .unset, .unset, .unset, .unset, .unset, .unset, .unset, .unset, .unset, .unset, .unset]) rfl ?_
    show Steps p.tables e below (s₁.setTop (mkF m 18 #[.val (.long p1), .second, .val (.long p2), .second, .val (.long p3), .second, .val (.long p4), .second, .val (.int p5), .val (.int p6), .val (.int (1 : Int32)), .val (.int (2 : Int32)), .unset, .unset, .unset, .unset, .unset, .unset, .unset, .unset, .unset, .unset, .unset, .unset, .unset, .unset] [])) _
    refine XS.iload X0.here hx rfl (hb hby at_18) rfl ?_
    show Steps p.tables e below (s₁.setTop (mkF m 20 #[.val (.long p1), .second, .val (.long p2), .second, .val (.long p3), .second, .val (.long p4), .second, .val (.int p5), .val (.int p6), .val (.int (1 : Int32)), .val (.int (2 : Int32)), .unset, .unset, .unset, .unset, .unset, .unset, .unset, .unset, .unset, .unset, .unset, .unset, .unset, .unset] [(.int (2 : Int32))])) _
    refine XS.iconst X0.here hx rfl (hb hby at_20) ?_
    show Steps p.tables e below (s₁.setTop (mkF m 21 #[.val (.long p1), .second, .val (.long p2), .second, .val (.long p3), .second, .val (.long p4), .second, .val (.int p5), .val (.int p6), .val (.int (1 : Int32)), .val (.int (2 : Int32)), .unset, .unset, .unset, .unset, .unset, .unset, .unset, .unset, .unset, .unset, .unset, .unset, .unset, .unset] [(.int (3 : Int32)), (.int (2 : Int32))])) _
    refine XS.irem X0.here hx rfl (hb hby at_21) rfl (by decide) ?_
    show Steps p.tables e below (s₁.setTop (mkF m 22 #[.val (.long p1), .second, .val (.long p2), .second, .val (.long p3), .second, .val (.long p4), .second, .val (.int p5), .val (.int p6), .val (.int (1 : Int32)), .val (.int (2 : Int32)), .unset, .unset, .unset, .unset, .unset, .unset, .unset, .unset, .unset, .unset, .unset, .unset, .unset, .unset] [(.int ((2 : Int32) - ((2 : Int32) / (3 : Int32)) * (3 : Int32)))])) _
    rw [show (((2 : Int32) - ((2 : Int32) / (3 : Int32)) * (3 : Int32)) : Int32) = (2 : Int32) from by decide]
    show Steps p.tables e below (s₁.setTop (mkF m 22 #[.val (.long p1), .second, .val (.long p2), .second, .val (.long p3), .second, .val (.long p4), .second, .val (.int p5), .val (.int p6), .val (.int (1 : Int32)), .val (.int (2 : Int32)), .unset, .unset, .unset, .unset, .unset, .unset, .unset, .unset, .unset, .unset, .unset, .unset, .unset, .unset] [(.int (2 : Int32))])) _
    refine XS.iconst X0.here hx rfl (hb hby at_22) ?_
    show Steps p.tables e below (s₁.setTop (mkF m 23 #[.val (.long p1), .second, .val (.long p2), .second, .val (.long p3), .second, .val (.long p4), .second, .val (.int p5), .val (.int p6), .val (.int (1 : Int32)), .val (.int (2 : Int32)), .unset, .unset, .unset, .unset, .unset, .unset, .unset, .unset, .unset, .unset, .unset, .unset, .unset, .unset] [(.int (1 : Int32)), (.int (2 : Int32))])) _
    refine XS.iadd X0.here hx rfl (hb hby at_23) rfl ?_
    show Steps p.tables e below (s₁.setTop (mkF m 24 #[.val (.long p1), .second, .val (.long p2), .second, .val (.long p3), .second, .val (.long p4), .second, .val (.int p5), .val (.int p6), .val (.int (1 : Int32)), .val (.int (2 : Int32)), .unset, .unset, .unset, .unset, .unset, .unset, .unset, .unset, .unset, .unset, .unset, .unset, .unset, .unset] [(.int ((2 : Int32) + (1 : Int32)))])) _
    rw [show (((2 : Int32) + (1 : Int32)) : Int32) = (3 : Int32) from by decide]
    show Steps p.tables e below (s₁.setTop (mkF m 24 #[.val (.long p1), .second, .val (.long p2), .second, .val (.long p3), .second, .val (.long p4), .second, .val (.int p5), .val (.int p6), .val (.int (1 : Int32)), .val (.int (2 : Int32)), .unset, .unset, .unset, .unset, .unset, .unset, .unset, .unset, .unset, .unset, .unset, .unset, .unset, .unset] [(.int (3 : Int32))])) _
    refine XS.istore X0.here hx rfl (hb hby at_24) rfl (l' := #[.val (.long p1), .second, .val (.long p2), .second, .val (.long p3), .second, .val (.long p4), .second, .val (.int p5), .val (.int p6), .val (.int (1 : Int32)), .val (.int (2 : Int32)), .val (.int (3 : Int32)), .unset, .unset, .unset, .unset, .unset, .unset, .unset, .unset, .unset, .unset, .unset, .unset, .unset]) rfl ?_
    show Steps p.tables e below (s₁.setTop (mkF m 26 #[.val (.long p1), .second, .val (.long p2), .second, .val (.long p3), .second, .val (.long p4), .second, .val (.int p5), .val (.int p6), .val (.int (1 : Int32)), .val (.int (2 : Int32)), .val (.int (3 : Int32)), .unset, .unset, .unset, .unset, .unset, .unset, .unset, .unset, .unset, .unset, .unset, .unset, .unset] [])) _
    refine XS.iload X0.here hx rfl (hb hby at_26) rfl ?_
    show Steps p.tables e below (s₁.setTop (mkF m 28 #[.val (.long p1), .second, .val (.long p2), .second, .val (.long p3), .second, .val (.long p4), .second, .val (.int p5), .val (.int p6), .val (.int (1 : Int32)), .val (.int (2 : Int32)), .val (.int (3 : Int32)), .unset, .unset, .unset, .unset, .unset, .unset, .unset, .unset, .unset, .unset, .unset, .unset, .unset] [(.int p5)])) _
    refine XS.iconst X0.here hx rfl (hb hby at_28) ?_
    show Steps p.tables e below (s₁.setTop (mkF m 29 #[.val (.long p1), .second, .val (.long p2), .second, .val (.long p3), .second, .val (.long p4), .second, .val (.int p5), .val (.int p6), .val (.int (1 : Int32)), .val (.int (2 : Int32)), .val (.int (3 : Int32)), .unset, .unset, .unset, .unset, .unset, .unset, .unset, .unset, .unset, .unset, .unset, .unset, .unset] [(.int (2 : Int32)), (.int p5)])) _
    refine XS.iushr X0.here hx rfl (hb hby at_29) rfl ?_
    show Steps p.tables e below (s₁.setTop (mkF m 30 #[.val (.long p1), .second, .val (.long p2), .second, .val (.long p3), .second, .val (.long p4), .second, .val (.int p5), .val (.int p6), .val (.int (1 : Int32)), .val (.int (2 : Int32)), .val (.int (3 : Int32)), .unset, .unset, .unset, .unset, .unset, .unset, .unset, .unset, .unset, .unset, .unset, .unset, .unset] [(.int ((p5.toUInt32 >>> ((2 : Int32) &&& 31).toUInt32).toInt32))])) _
    refine X0.ldcInt hx hown (mvT hZ (hw _ (List.mem_of_getElem? (i := 0) rfl))) (g := (mkF m 30 #[.val (.long p1), .second, .val (.long p2), .second, .val (.long p3), .second, .val (.long p4), .second, .val (.int p5), .val (.int p6), .val (.int (1 : Int32)), .val (.int (2 : Int32)), .val (.int (3 : Int32)), .unset, .unset, .unset, .unset, .unset, .unset, .unset, .unset, .unset, .unset, .unset, .unset, .unset] [(.int ((p5.toUInt32 >>> ((2 : Int32) &&& 31).toUInt32).toInt32))])) rfl (hb hby at_30) _ ?_
    show Steps p.tables e below (s₁.setTop (mkF m 32 #[.val (.long p1), .second, .val (.long p2), .second, .val (.long p3), .second, .val (.long p4), .second, .val (.int p5), .val (.int p6), .val (.int (1 : Int32)), .val (.int (2 : Int32)), .val (.int (3 : Int32)), .unset, .unset, .unset, .unset, .unset, .unset, .unset, .unset, .unset, .unset, .unset, .unset, .unset] [(.int (268435455 : Int32)), (.int ((p5.toUInt32 >>> ((2 : Int32) &&& 31).toUInt32).toInt32))])) _
    refine XS.iand X0.here hx rfl (hb hby at_32) rfl ?_
    show Steps p.tables e below (s₁.setTop (mkF m 33 #[.val (.long p1), .second, .val (.long p2), .second, .val (.long p3), .second, .val (.long p4), .second, .val (.int p5), .val (.int p6), .val (.int (1 : Int32)), .val (.int (2 : Int32)), .val (.int (3 : Int32)), .unset, .unset, .unset, .unset, .unset, .unset, .unset, .unset, .unset, .unset, .unset, .unset, .unset] [(.int (((p5.toUInt32 >>> ((2 : Int32) &&& 31).toUInt32).toInt32) &&& (268435455 : Int32)))])) _
    refine XS.i2l X0.here hx rfl (hb hby at_33) rfl ?_
    show Steps p.tables e below (s₁.setTop (mkF m 34 #[.val (.long p1), .second, .val (.long p2), .second, .val (.long p3), .second, .val (.long p4), .second, .val (.int p5), .val (.int p6), .val (.int (1 : Int32)), .val (.int (2 : Int32)), .val (.int (3 : Int32)), .unset, .unset, .unset, .unset, .unset, .unset, .unset, .unset, .unset, .unset, .unset, .unset, .unset] [(.long ((((p5.toUInt32 >>> ((2 : Int32) &&& 31).toUInt32).toInt32) &&& (268435455 : Int32)).toInt64))])) _
    rw [← h_sl]
    show Steps p.tables e below (s₁.setTop (mkF m 34 #[.val (.long p1), .second, .val (.long p2), .second, .val (.long p3), .second, .val (.long p4), .second, .val (.int p5), .val (.int p6), .val (.int (1 : Int32)), .val (.int (2 : Int32)), .val (.int (3 : Int32)), .unset, .unset, .unset, .unset, .unset, .unset, .unset, .unset, .unset, .unset, .unset, .unset, .unset] [(.long sl)])) _
    refine XS.lstore X0.here hx rfl (hb hby at_34) rfl (l' := #[.val (.long p1), .second, .val (.long p2), .second, .val (.long p3), .second, .val (.long p4), .second, .val (.int p5), .val (.int p6), .val (.int (1 : Int32)), .val (.int (2 : Int32)), .val (.int (3 : Int32)), .val (.long sl), .second, .unset, .unset, .unset, .unset, .unset, .unset, .unset, .unset, .unset, .unset, .unset]) rfl ?_
    show Steps p.tables e below (s₁.setTop (mkF m 36 #[.val (.long p1), .second, .val (.long p2), .second, .val (.long p3), .second, .val (.long p4), .second, .val (.int p5), .val (.int p6), .val (.int (1 : Int32)), .val (.int (2 : Int32)), .val (.int (3 : Int32)), .val (.long sl), .second, .unset, .unset, .unset, .unset, .unset, .unset, .unset, .unset, .unset, .unset, .unset] [])) _
    refine XS.iload X0.here hx rfl (hb hby at_36) rfl ?_
    show Steps p.tables e below (s₁.setTop (mkF m 38 #[.val (.long p1), .second, .val (.long p2), .second, .val (.long p3), .second, .val (.long p4), .second, .val (.int p5), .val (.int p6), .val (.int (1 : Int32)), .val (.int (2 : Int32)), .val (.int (3 : Int32)), .val (.long sl), .second, .unset, .unset, .unset, .unset, .unset, .unset, .unset, .unset, .unset, .unset, .unset] [(.int p6)])) _
    refine XS.i2l X0.here hx rfl (hb hby at_38) rfl ?_
    show Steps p.tables e below (s₁.setTop (mkF m 39 #[.val (.long p1), .second, .val (.long p2), .second, .val (.long p3), .second, .val (.long p4), .second, .val (.int p5), .val (.int p6), .val (.int (1 : Int32)), .val (.int (2 : Int32)), .val (.int (3 : Int32)), .val (.long sl), .second, .unset, .unset, .unset, .unset, .unset, .unset, .unset, .unset, .unset, .unset, .unset] [(.long (p6.toInt64))])) _
    refine X0.ldc2Long hx hown (mvT hZ (hw _ (List.mem_of_getElem? (i := 1) rfl))) (g := (mkF m 39 #[.val (.long p1), .second, .val (.long p2), .second, .val (.long p3), .second, .val (.long p4), .second, .val (.int p5), .val (.int p6), .val (.int (1 : Int32)), .val (.int (2 : Int32)), .val (.int (3 : Int32)), .val (.long sl), .second, .unset, .unset, .unset, .unset, .unset, .unset, .unset, .unset, .unset, .unset, .unset] [(.long (p6.toInt64))])) rfl (hb hby at_39) _ ?_
    show Steps p.tables e below (s₁.setTop (mkF m 42 #[.val (.long p1), .second, .val (.long p2), .second, .val (.long p3), .second, .val (.long p4), .second, .val (.int p5), .val (.int p6), .val (.int (1 : Int32)), .val (.int (2 : Int32)), .val (.int (3 : Int32)), .val (.long sl), .second, .unset, .unset, .unset, .unset, .unset, .unset, .unset, .unset, .unset, .unset, .unset] [(.long (2147483647 : Int64)), (.long (p6.toInt64))])) _
    refine XS.land X0.here hx rfl (hb hby at_42) rfl ?_
    show Steps p.tables e below (s₁.setTop (mkF m 43 #[.val (.long p1), .second, .val (.long p2), .second, .val (.long p3), .second, .val (.long p4), .second, .val (.int p5), .val (.int p6), .val (.int (1 : Int32)), .val (.int (2 : Int32)), .val (.int (3 : Int32)), .val (.long sl), .second, .unset, .unset, .unset, .unset, .unset, .unset, .unset, .unset, .unset, .unset, .unset] [(.long ((p6.toInt64) &&& (2147483647 : Int64)))])) _
    rw [← h_tt1]
    show Steps p.tables e below (s₁.setTop (mkF m 43 #[.val (.long p1), .second, .val (.long p2), .second, .val (.long p3), .second, .val (.long p4), .second, .val (.int p5), .val (.int p6), .val (.int (1 : Int32)), .val (.int (2 : Int32)), .val (.int (3 : Int32)), .val (.long sl), .second, .unset, .unset, .unset, .unset, .unset, .unset, .unset, .unset, .unset, .unset, .unset] [(.long tt1)])) _
    refine XS.lstore X0.here hx rfl (hb hby at_43) rfl (l' := #[.val (.long p1), .second, .val (.long p2), .second, .val (.long p3), .second, .val (.long p4), .second, .val (.int p5), .val (.int p6), .val (.int (1 : Int32)), .val (.int (2 : Int32)), .val (.int (3 : Int32)), .val (.long sl), .second, .val (.long tt1), .second, .unset, .unset, .unset, .unset, .unset, .unset, .unset, .unset, .unset]) rfl ?_
    show Steps p.tables e below (s₁.setTop (mkF m 45 #[.val (.long p1), .second, .val (.long p2), .second, .val (.long p3), .second, .val (.long p4), .second, .val (.int p5), .val (.int p6), .val (.int (1 : Int32)), .val (.int (2 : Int32)), .val (.int (3 : Int32)), .val (.long sl), .second, .val (.long tt1), .second, .unset, .unset, .unset, .unset, .unset, .unset, .unset, .unset, .unset] [])) _
    refine XS.lload X0.here hx rfl (hb hby at_45) rfl ?_
    show Steps p.tables e below (s₁.setTop (mkF m 47 #[.val (.long p1), .second, .val (.long p2), .second, .val (.long p3), .second, .val (.long p4), .second, .val (.int p5), .val (.int p6), .val (.int (1 : Int32)), .val (.int (2 : Int32)), .val (.int (3 : Int32)), .val (.long sl), .second, .val (.long tt1), .second, .unset, .unset, .unset, .unset, .unset, .unset, .unset, .unset, .unset] [(.long tt1)])) _
    refine XS.lconst X0.here hx rfl (hb hby at_47) ?_
    show Steps p.tables e below (s₁.setTop (mkF m 48 #[.val (.long p1), .second, .val (.long p2), .second, .val (.long p3), .second, .val (.long p4), .second, .val (.int p5), .val (.int p6), .val (.int (1 : Int32)), .val (.int (2 : Int32)), .val (.int (3 : Int32)), .val (.long sl), .second, .val (.long tt1), .second, .unset, .unset, .unset, .unset, .unset, .unset, .unset, .unset, .unset] [(.long (1 : Int64)), (.long tt1)])) _
    refine XS.ladd X0.here hx rfl (hb hby at_48) rfl ?_
    show Steps p.tables e below (s₁.setTop (mkF m 49 #[.val (.long p1), .second, .val (.long p2), .second, .val (.long p3), .second, .val (.long p4), .second, .val (.int p5), .val (.int p6), .val (.int (1 : Int32)), .val (.int (2 : Int32)), .val (.int (3 : Int32)), .val (.long sl), .second, .val (.long tt1), .second, .unset, .unset, .unset, .unset, .unset, .unset, .unset, .unset, .unset] [(.long (tt1 + (1 : Int64)))])) _
    rw [← h_tt2]
    show Steps p.tables e below (s₁.setTop (mkF m 49 #[.val (.long p1), .second, .val (.long p2), .second, .val (.long p3), .second, .val (.long p4), .second, .val (.int p5), .val (.int p6), .val (.int (1 : Int32)), .val (.int (2 : Int32)), .val (.int (3 : Int32)), .val (.long sl), .second, .val (.long tt1), .second, .unset, .unset, .unset, .unset, .unset, .unset, .unset, .unset, .unset] [(.long tt2)])) _
    refine XS.lstore X0.here hx rfl (hb hby at_49) rfl (l' := #[.val (.long p1), .second, .val (.long p2), .second, .val (.long p3), .second, .val (.long p4), .second, .val (.int p5), .val (.int p6), .val (.int (1 : Int32)), .val (.int (2 : Int32)), .val (.int (3 : Int32)), .val (.long sl), .second, .val (.long tt1), .second, .val (.long tt2), .second, .unset, .unset, .unset, .unset, .unset, .unset, .unset]) rfl ?_
    show Steps p.tables e below (s₁.setTop (mkF m 51 #[.val (.long p1), .second, .val (.long p2), .second, .val (.long p3), .second, .val (.long p4), .second, .val (.int p5), .val (.int p6), .val (.int (1 : Int32)), .val (.int (2 : Int32)), .val (.int (3 : Int32)), .val (.long sl), .second, .val (.long tt1), .second, .val (.long tt2), .second, .unset, .unset, .unset, .unset, .unset, .unset, .unset] [])) _
    refine st1 _ ?_
    show Steps p.tables e below (T1.setTop (mkF m 54 #[.val (.long p1), .second, .val (.long p2), .second, .val (.long p3), .second, .val (.long p4), .second, .val (.int p5), .val (.int p6), .val (.int (1 : Int32)), .val (.int (2 : Int32)), .val (.int (3 : Int32)), .val (.long sl), .second, .val (.long tt1), .second, .val (.long tt2), .second, .unset, .unset, .unset, .unset, .unset, .unset, .unset] [(.ref b1)])) _
    refine XS.dup X1.here hx rfl (hb hby at_54) rfl rfl ?_
    show Steps p.tables e below (T1.setTop (mkF m 55 #[.val (.long p1), .second, .val (.long p2), .second, .val (.long p3), .second, .val (.long p4), .second, .val (.int p5), .val (.int p6), .val (.int (1 : Int32)), .val (.int (2 : Int32)), .val (.int (3 : Int32)), .val (.long sl), .second, .val (.long tt1), .second, .val (.long tt2), .second, .unset, .unset, .unset, .unset, .unset, .unset, .unset] [(.ref b1), (.ref b1)])) _
    refine XS.iconst X1.here hx rfl (hb hby at_55) ?_
    show Steps p.tables e below (T1.setTop (mkF m 56 #[.val (.long p1), .second, .val (.long p2), .second, .val (.long p3), .second, .val (.long p4), .second, .val (.int p5), .val (.int p6), .val (.int (1 : Int32)), .val (.int (2 : Int32)), .val (.int (3 : Int32)), .val (.long sl), .second, .val (.long tt1), .second, .val (.long tt2), .second, .unset, .unset, .unset, .unset, .unset, .unset, .unset] [(.int (0 : Int32)), (.ref b1), (.ref b1)])) _
    refine XS.iconst X1.here hx rfl (hb hby at_56) ?_
    show Steps p.tables e below (T1.setTop (mkF m 57 #[.val (.long p1), .second, .val (.long p2), .second, .val (.long p3), .second, .val (.long p4), .second, .val (.int p5), .val (.int p6), .val (.int (1 : Int32)), .val (.int (2 : Int32)), .val (.int (3 : Int32)), .val (.long sl), .second, .val (.long tt1), .second, .val (.long tt2), .second, .unset, .unset, .unset, .unset, .unset, .unset, .unset] [(.int (4 : Int32)), (.int (0 : Int32)), (.ref b1), (.ref b1)])) _
    refine XS.iconst X1.here hx rfl (hb hby at_57) ?_
    show Steps p.tables e below (T1.setTop (mkF m 58 #[.val (.long p1), .second, .val (.long p2), .second, .val (.long p3), .second, .val (.long p4), .second, .val (.int p5), .val (.int p6), .val (.int (1 : Int32)), .val (.int (2 : Int32)), .val (.int (3 : Int32)), .val (.long sl), .second, .val (.long tt1), .second, .val (.long tt2), .second, .unset, .unset, .unset, .unset, .unset, .unset, .unset] [(.int (3 : Int32)), (.int (4 : Int32)), (.int (0 : Int32)), (.ref b1), (.ref b1)])) _
    refine XS.lload X1.here hx rfl (hb hby at_58) rfl ?_
    show Steps p.tables e below (T1.setTop (mkF m 60 #[.val (.long p1), .second, .val (.long p2), .second, .val (.long p3), .second, .val (.long p4), .second, .val (.int p5), .val (.int p6), .val (.int (1 : Int32)), .val (.int (2 : Int32)), .val (.int (3 : Int32)), .val (.long sl), .second, .val (.long tt1), .second, .val (.long tt2), .second, .unset, .unset, .unset, .unset, .unset, .unset, .unset] [(.long sl), (.int (3 : Int32)), (.int (4 : Int32)), (.int (0 : Int32)), (.ref b1), (.ref b1)])) _
    refine XS.lconst X1.here hx rfl (hb hby at_60) ?_
    show Steps p.tables e below (T1.setTop (mkF m 61 #[.val (.long p1), .second, .val (.long p2), .second, .val (.long p3), .second, .val (.long p4), .second, .val (.int p5), .val (.int p6), .val (.int (1 : Int32)), .val (.int (2 : Int32)), .val (.int (3 : Int32)), .val (.long sl), .second, .val (.long tt1), .second, .val (.long tt2), .second, .unset, .unset, .unset, .unset, .unset, .unset, .unset] [(.long (0 : Int64)), (.long sl), (.int (3 : Int32)), (.int (4 : Int32)), (.int (0 : Int32)), (.ref b1), (.ref b1)])) _
    refine st2.trans ?_
    show Steps p.tables e below (T2.setTop (mkF m 64 #[.val (.long p1), .second, .val (.long p2), .second, .val (.long p3), .second, .val (.long p4), .second, .val (.int p5), .val (.int p6), .val (.int (1 : Int32)), .val (.int (2 : Int32)), .val (.int (3 : Int32)), .val (.long sl), .second, .val (.long tt1), .second, .val (.long tt2), .second, .unset, .unset, .unset, .unset, .unset, .unset, .unset] [(.ref b1)])) _
    refine XS.astore X2.here hx rfl (hb hby at_64) rfl rfl (l' := #[.val (.long p1), .second, .val (.long p2), .second, .val (.long p3), .second, .val (.long p4), .second, .val (.int p5), .val (.int p6), .val (.int (1 : Int32)), .val (.int (2 : Int32)), .val (.int (3 : Int32)), .val (.long sl), .second, .val (.long tt1), .second, .val (.long tt2), .second, .val (.ref b1), .unset, .unset, .unset, .unset, .unset, .unset]) rfl ?_
    show Steps p.tables e below (T2.setTop (mkF m 66 #[.val (.long p1), .second, .val (.long p2), .second, .val (.long p3), .second, .val (.long p4), .second, .val (.int p5), .val (.int p6), .val (.int (1 : Int32)), .val (.int (2 : Int32)), .val (.int (3 : Int32)), .val (.long sl), .second, .val (.long tt1), .second, .val (.long tt2), .second, .val (.ref b1), .unset, .unset, .unset, .unset, .unset, .unset] [])) _
    refine XS.aload X2.here hx rfl (hb hby at_66) rfl rfl ?_
    show Steps p.tables e below (T2.setTop (mkF m 68 #[.val (.long p1), .second, .val (.long p2), .second, .val (.long p3), .second, .val (.long p4), .second, .val (.int p5), .val (.int p6), .val (.int (1 : Int32)), .val (.int (2 : Int32)), .val (.int (3 : Int32)), .val (.long sl), .second, .val (.long tt1), .second, .val (.long tt2), .second, .val (.ref b1), .unset, .unset, .unset, .unset, .unset, .unset] [(.ref b1)])) _
    refine XS.iload X2.here hx rfl (hb hby at_68) rfl ?_
    show Steps p.tables e below (T2.setTop (mkF m 70 #[.val (.long p1), .second, .val (.long p2), .second, .val (.long p3), .second, .val (.long p4), .second, .val (.int p5), .val (.int p6), .val (.int (1 : Int32)), .val (.int (2 : Int32)), .val (.int (3 : Int32)), .val (.long sl), .second, .val (.long tt1), .second, .val (.long tt2), .second, .val (.ref b1), .unset, .unset, .unset, .unset, .unset, .unset] [(.int (1 : Int32)), (.ref b1)])) _
    refine XS.lloadN X2.here hx rfl (hb hby at_70) rfl ?_
    show Steps p.tables e below (T2.setTop (mkF m 71 #[.val (.long p1), .second, .val (.long p2), .second, .val (.long p3), .second, .val (.long p4), .second, .val (.int p5), .val (.int p6), .val (.int (1 : Int32)), .val (.int (2 : Int32)), .val (.int (3 : Int32)), .val (.long sl), .second, .val (.long tt1), .second, .val (.long tt2), .second, .val (.ref b1), .unset, .unset, .unset, .unset, .unset, .unset] [(.long p1), (.int (1 : Int32)), (.ref b1)])) _
    refine XS.lconst X2.here hx rfl (hb hby at_71) ?_
    show Steps p.tables e below (T2.setTop (mkF m 72 #[.val (.long p1), .second, .val (.long p2), .second, .val (.long p3), .second, .val (.long p4), .second, .val (.int p5), .val (.int p6), .val (.int (1 : Int32)), .val (.int (2 : Int32)), .val (.int (3 : Int32)), .val (.long sl), .second, .val (.long tt1), .second, .val (.long tt2), .second, .val (.ref b1), .unset, .unset, .unset, .unset, .unset, .unset] [(.long (0 : Int64)), (.long p1), (.int (1 : Int32)), (.ref b1)])) _
    refine st4.trans ?_
    show Steps p.tables e below (T4.setTop (mkF m 75 #[.val (.long p1), .second, .val (.long p2), .second, .val (.long p3), .second, .val (.long p4), .second, .val (.int p5), .val (.int p6), .val (.int (1 : Int32)), .val (.int (2 : Int32)), .val (.int (3 : Int32)), .val (.long sl), .second, .val (.long tt1), .second, .val (.long tt2), .second, .val (.ref b1), .unset, .unset, .unset, .unset, .unset, .unset] [])) _
    refine XS.aload X4.here hx rfl (hb hby at_75) rfl rfl ?_
    show Steps p.tables e below (T4.setTop (mkF m 77 #[.val (.long p1), .second, .val (.long p2), .second, .val (.long p3), .second, .val (.long p4), .second, .val (.int p5), .val (.int p6), .val (.int (1 : Int32)), .val (.int (2 : Int32)), .val (.int (3 : Int32)), .val (.long sl), .second, .val (.long tt1), .second, .val (.long tt2), .second, .val (.ref b1), .unset, .unset, .unset, .unset, .unset, .unset] [(.ref b1)])) _
    refine XS.iload X4.here hx rfl (hb hby at_77) rfl ?_
    show Steps p.tables e below (T4.setTop (mkF m 79 #[.val (.long p1), .second, .val (.long p2), .second, .val (.long p3), .second, .val (.long p4), .second, .val (.int p5), .val (.int p6), .val (.int (1 : Int32)), .val (.int (2 : Int32)), .val (.int (3 : Int32)), .val (.long sl), .second, .val (.long tt1), .second, .val (.long tt2), .second, .val (.ref b1), .unset, .unset, .unset, .unset, .unset, .unset] [(.int (2 : Int32)), (.ref b1)])) _
    refine XS.lloadN X4.here hx rfl (hb hby at_79) rfl ?_
    show Steps p.tables e below (T4.setTop (mkF m 80 #[.val (.long p1), .second, .val (.long p2), .second, .val (.long p3), .second, .val (.long p4), .second, .val (.int p5), .val (.int p6), .val (.int (1 : Int32)), .val (.int (2 : Int32)), .val (.int (3 : Int32)), .val (.long sl), .second, .val (.long tt1), .second, .val (.long tt2), .second, .val (.ref b1), .unset, .unset, .unset, .unset, .unset, .unset] [(.long p2), (.int (2 : Int32)), (.ref b1)])) _
    refine XS.lload X4.here hx rfl (hb hby at_80) rfl ?_
    show Steps p.tables e below (T4.setTop (mkF m 82 #[.val (.long p1), .second, .val (.long p2), .second, .val (.long p3), .second, .val (.long p4), .second, .val (.int p5), .val (.int p6), .val (.int (1 : Int32)), .val (.int (2 : Int32)), .val (.int (3 : Int32)), .val (.long sl), .second, .val (.long tt1), .second, .val (.long tt2), .second, .val (.ref b1), .unset, .unset, .unset, .unset, .unset, .unset] [(.long tt2), (.long p2), (.int (2 : Int32)), (.ref b1)])) _
    refine st6.trans ?_
    show Steps p.tables e below (T6.setTop (mkF m 85 #[.val (.long p1), .second, .val (.long p2), .second, .val (.long p3), .second, .val (.long p4), .second, .val (.int p5), .val (.int p6), .val (.int (1 : Int32)), .val (.int (2 : Int32)), .val (.int (3 : Int32)), .val (.long sl), .second, .val (.long tt1), .second, .val (.long tt2), .second, .val (.ref b1), .unset, .unset, .unset, .unset, .unset, .unset] [])) _
    refine XS.aload X6.here hx rfl (hb hby at_85) rfl rfl ?_
    show Steps p.tables e below (T6.setTop (mkF m 87 #[.val (.long p1), .second, .val (.long p2), .second, .val (.long p3), .second, .val (.long p4), .second, .val (.int p5), .val (.int p6), .val (.int (1 : Int32)), .val (.int (2 : Int32)), .val (.int (3 : Int32)), .val (.long sl), .second, .val (.long tt1), .second, .val (.long tt2), .second, .val (.ref b1), .unset, .unset, .unset, .unset, .unset, .unset] [(.ref b1)])) _
    refine XS.iload X6.here hx rfl (hb hby at_87) rfl ?_
    show Steps p.tables e below (T6.setTop (mkF m 89 #[.val (.long p1), .second, .val (.long p2), .second, .val (.long p3), .second, .val (.long p4), .second, .val (.int p5), .val (.int p6), .val (.int (1 : Int32)), .val (.int (2 : Int32)), .val (.int (3 : Int32)), .val (.long sl), .second, .val (.long tt1), .second, .val (.long tt2), .second, .val (.ref b1), .unset, .unset, .unset, .unset, .unset, .unset] [(.int (3 : Int32)), (.ref b1)])) _
    refine XS.lload X6.here hx rfl (hb hby at_89) rfl ?_
    show Steps p.tables e below (T6.setTop (mkF m 91 #[.val (.long p1), .second, .val (.long p2), .second, .val (.long p3), .second, .val (.long p4), .second, .val (.int p5), .val (.int p6), .val (.int (1 : Int32)), .val (.int (2 : Int32)), .val (.int (3 : Int32)), .val (.long sl), .second, .val (.long tt1), .second, .val (.long tt2), .second, .val (.ref b1), .unset, .unset, .unset, .unset, .unset, .unset] [(.long p3), (.int (3 : Int32)), (.ref b1)])) _
    refine XS.lload X6.here hx rfl (hb hby at_91) rfl ?_
    show Steps p.tables e below (T6.setTop (mkF m 93 #[.val (.long p1), .second, .val (.long p2), .second, .val (.long p3), .second, .val (.long p4), .second, .val (.int p5), .val (.int p6), .val (.int (1 : Int32)), .val (.int (2 : Int32)), .val (.int (3 : Int32)), .val (.long sl), .second, .val (.long tt1), .second, .val (.long tt2), .second, .val (.ref b1), .unset, .unset, .unset, .unset, .unset, .unset] [(.long tt2), (.long p3), (.int (3 : Int32)), (.ref b1)])) _
    refine st11.trans ?_
    show Steps p.tables e below (T11.setTop (mkF m 96 #[.val (.long p1), .second, .val (.long p2), .second, .val (.long p3), .second, .val (.long p4), .second, .val (.int p5), .val (.int p6), .val (.int (1 : Int32)), .val (.int (2 : Int32)), .val (.int (3 : Int32)), .val (.long sl), .second, .val (.long tt1), .second, .val (.long tt2), .second, .val (.ref b1), .unset, .unset, .unset, .unset, .unset, .unset] [])) _
    refine XS.aload X11.here hx rfl (hb hby at_96) rfl rfl ?_
    show Steps p.tables e below (T11.setTop (mkF m 98 #[.val (.long p1), .second, .val (.long p2), .second, .val (.long p3), .second, .val (.long p4), .second, .val (.int p5), .val (.int p6), .val (.int (1 : Int32)), .val (.int (2 : Int32)), .val (.int (3 : Int32)), .val (.long sl), .second, .val (.long tt1), .second, .val (.long tt2), .second, .val (.ref b1), .unset, .unset, .unset, .unset, .unset, .unset] [(.ref b1)])) _
    refine XS.iload X11.here hx rfl (hb hby at_98) rfl ?_
    show Steps p.tables e below (T11.setTop (mkF m 100 #[.val (.long p1), .second, .val (.long p2), .second, .val (.long p3), .second, .val (.long p4), .second, .val (.int p5), .val (.int p6), .val (.int (1 : Int32)), .val (.int (2 : Int32)), .val (.int (3 : Int32)), .val (.long sl), .second, .val (.long tt1), .second, .val (.long tt2), .second, .val (.ref b1), .unset, .unset, .unset, .unset, .unset, .unset] [(.int (1 : Int32)), (.ref b1)])) _
    refine XS.lload X11.here hx rfl (hb hby at_100) rfl ?_
    show Steps p.tables e below (T11.setTop (mkF m 102 #[.val (.long p1), .second, .val (.long p2), .second, .val (.long p3), .second, .val (.long p4), .second, .val (.int p5), .val (.int p6), .val (.int (1 : Int32)), .val (.int (2 : Int32)), .val (.int (3 : Int32)), .val (.long sl), .second, .val (.long tt1), .second, .val (.long tt2), .second, .val (.ref b1), .unset, .unset, .unset, .unset, .unset, .unset] [(.long tt1), (.int (1 : Int32)), (.ref b1)])) _
    refine st16.trans ?_
    show Steps p.tables e below (T16.setTop (mkF m 105 #[.val (.long p1), .second, .val (.long p2), .second, .val (.long p3), .second, .val (.long p4), .second, .val (.int p5), .val (.int p6), .val (.int (1 : Int32)), .val (.int (2 : Int32)), .val (.int (3 : Int32)), .val (.long sl), .second, .val (.long tt1), .second, .val (.long tt2), .second, .val (.ref b1), .unset, .unset, .unset, .unset, .unset, .unset] [])) _
    refine XS.aload X16.here hx rfl (hb hby at_105) rfl rfl ?_
    show Steps p.tables e below (T16.setTop (mkF m 107 #[.val (.long p1), .second, .val (.long p2), .second, .val (.long p3), .second, .val (.long p4), .second, .val (.int p5), .val (.int p6), .val (.int (1 : Int32)), .val (.int (2 : Int32)), .val (.int (3 : Int32)), .val (.long sl), .second, .val (.long tt1), .second, .val (.long tt2), .second, .val (.ref b1), .unset, .unset, .unset, .unset, .unset, .unset] [(.ref b1)])) _
    refine XS.lload X16.here hx rfl (hb hby at_107) rfl ?_
    show Steps p.tables e below (T16.setTop (mkF m 109 #[.val (.long p1), .second, .val (.long p2), .second, .val (.long p3), .second, .val (.long p4), .second, .val (.int p5), .val (.int p6), .val (.int (1 : Int32)), .val (.int (2 : Int32)), .val (.int (3 : Int32)), .val (.long sl), .second, .val (.long tt1), .second, .val (.long tt2), .second, .val (.ref b1), .unset, .unset, .unset, .unset, .unset, .unset] [(.long p4), (.ref b1)])) _
    refine XS.lload X16.here hx rfl (hb hby at_109) rfl ?_
    show Steps p.tables e below (T16.setTop (mkF m 111 #[.val (.long p1), .second, .val (.long p2), .second, .val (.long p3), .second, .val (.long p4), .second, .val (.int p5), .val (.int p6), .val (.int (1 : Int32)), .val (.int (2 : Int32)), .val (.int (3 : Int32)), .val (.long sl), .second, .val (.long tt1), .second, .val (.long tt2), .second, .val (.ref b1), .unset, .unset, .unset, .unset, .unset, .unset] [(.long tt1), (.long p4), (.ref b1)])) _
    refine XS.lload X16.here hx rfl (hb hby at_111) rfl ?_
    show Steps p.tables e below (T16.setTop (mkF m 113 #[.val (.long p1), .second, .val (.long p2), .second, .val (.long p3), .second, .val (.long p4), .second, .val (.int p5), .val (.int p6), .val (.int (1 : Int32)), .val (.int (2 : Int32)), .val (.int (3 : Int32)), .val (.long sl), .second, .val (.long tt1), .second, .val (.long tt2), .second, .val (.ref b1), .unset, .unset, .unset, .unset, .unset, .unset] [(.long sl), (.long tt1), (.long p4), (.ref b1)])) _
    refine XS.ladd X16.here hx rfl (hb hby at_113) rfl ?_
    show Steps p.tables e below (T16.setTop (mkF m 114 #[.val (.long p1), .second, .val (.long p2), .second, .val (.long p3), .second, .val (.long p4), .second, .val (.int p5), .val (.int p6), .val (.int (1 : Int32)), .val (.int (2 : Int32)), .val (.int (3 : Int32)), .val (.long sl), .second, .val (.long tt1), .second, .val (.long tt2), .second, .val (.ref b1), .unset, .unset, .unset, .unset, .unset, .unset] [(.long (tt1 + sl)), (.long p4), (.ref b1)])) _
    refine st21.trans ?_
    show Steps p.tables e below (T21.setTop (mkF m 117 #[.val (.long p1), .second, .val (.long p2), .second, .val (.long p3), .second, .val (.long p4), .second, .val (.int p5), .val (.int p6), .val (.int (1 : Int32)), .val (.int (2 : Int32)), .val (.int (3 : Int32)), .val (.long sl), .second, .val (.long tt1), .second, .val (.long tt2), .second, .val (.ref b1), .unset, .unset, .unset, .unset, .unset, .unset] [(.long (own_min (own_min (own_min p4 ((own_set (own_set (own_set (own_set (fun _ => (-9223372036854775808 : Int64)) 1 p1) 2 p2) 3 p3) 1 (-9223372036854775808 : Int64)) 1)) ((own_set (own_set (own_set (own_set (fun _ => (-9223372036854775808 : Int64)) 1 p1) 2 p2) 3 p3) 1 (-9223372036854775808 : Int64)) 2)) ((own_set (own_set (own_set (own_set (fun _ => (-9223372036854775808 : Int64)) 1 p1) 2 p2) 3 p3) 1 (-9223372036854775808 : Int64)) 3)))])) _
    rw [own_low _ _ _ _ (by first | exact Or.inl rfl | exact Or.inr (Or.inl rfl) | exact Or.inr (Or.inr rfl))]
    show Steps p.tables e below (T21.setTop (mkF m 117 #[.val (.long p1), .second, .val (.long p2), .second, .val (.long p3), .second, .val (.long p4), .second, .val (.int p5), .val (.int p6), .val (.int (1 : Int32)), .val (.int (2 : Int32)), .val (.int (3 : Int32)), .val (.long sl), .second, .val (.long tt1), .second, .val (.long tt2), .second, .val (.ref b1), .unset, .unset, .unset, .unset, .unset, .unset] [(.long (-9223372036854775808 : Int64))])) _
    refine XS.lstore X21.here hx rfl (hb hby at_117) rfl (l' := #[.val (.long p1), .second, .val (.long p2), .second, .val (.long p3), .second, .val (.long p4), .second, .val (.int p5), .val (.int p6), .val (.int (1 : Int32)), .val (.int (2 : Int32)), .val (.int (3 : Int32)), .val (.long sl), .second, .val (.long tt1), .second, .val (.long tt2), .second, .val (.ref b1), .val (.long (-9223372036854775808 : Int64)), .second, .unset, .unset, .unset, .unset]) rfl ?_
    show Steps p.tables e below (T21.setTop (mkF m 119 #[.val (.long p1), .second, .val (.long p2), .second, .val (.long p3), .second, .val (.long p4), .second, .val (.int p5), .val (.int p6), .val (.int (1 : Int32)), .val (.int (2 : Int32)), .val (.int (3 : Int32)), .val (.long sl), .second, .val (.long tt1), .second, .val (.long tt2), .second, .val (.ref b1), .val (.long (-9223372036854775808 : Int64)), .second, .unset, .unset, .unset, .unset] [])) _
    refine XS.aload X21.here hx rfl (hb hby at_119) rfl rfl ?_
    show Steps p.tables e below (T21.setTop (mkF m 121 #[.val (.long p1), .second, .val (.long p2), .second, .val (.long p3), .second, .val (.long p4), .second, .val (.int p5), .val (.int p6), .val (.int (1 : Int32)), .val (.int (2 : Int32)), .val (.int (3 : Int32)), .val (.long sl), .second, .val (.long tt1), .second, .val (.long tt2), .second, .val (.ref b1), .val (.long (-9223372036854775808 : Int64)), .second, .unset, .unset, .unset, .unset] [(.ref b1)])) _
    refine XS.lload X21.here hx rfl (hb hby at_121) rfl ?_
    show Steps p.tables e below (T21.setTop (mkF m 123 #[.val (.long p1), .second, .val (.long p2), .second, .val (.long p3), .second, .val (.long p4), .second, .val (.int p5), .val (.int p6), .val (.int (1 : Int32)), .val (.int (2 : Int32)), .val (.int (3 : Int32)), .val (.long sl), .second, .val (.long tt1), .second, .val (.long tt2), .second, .val (.ref b1), .val (.long (-9223372036854775808 : Int64)), .second, .unset, .unset, .unset, .unset] [(.long p4), (.ref b1)])) _
    refine XS.lload X21.here hx rfl (hb hby at_123) rfl ?_
    show Steps p.tables e below (T21.setTop (mkF m 125 #[.val (.long p1), .second, .val (.long p2), .second, .val (.long p3), .second, .val (.long p4), .second, .val (.int p5), .val (.int p6), .val (.int (1 : Int32)), .val (.int (2 : Int32)), .val (.int (3 : Int32)), .val (.long sl), .second, .val (.long tt1), .second, .val (.long tt2), .second, .val (.ref b1), .val (.long (-9223372036854775808 : Int64)), .second, .unset, .unset, .unset, .unset] [(.long tt1), (.long p4), (.ref b1)])) _
    refine XS.lload X21.here hx rfl (hb hby at_125) rfl ?_
    show Steps p.tables e below (T21.setTop (mkF m 127 #[.val (.long p1), .second, .val (.long p2), .second, .val (.long p3), .second, .val (.long p4), .second, .val (.int p5), .val (.int p6), .val (.int (1 : Int32)), .val (.int (2 : Int32)), .val (.int (3 : Int32)), .val (.long sl), .second, .val (.long tt1), .second, .val (.long tt2), .second, .val (.ref b1), .val (.long (-9223372036854775808 : Int64)), .second, .unset, .unset, .unset, .unset] [(.long sl), (.long tt1), (.long p4), (.ref b1)])) _
    refine XS.ladd X21.here hx rfl (hb hby at_127) rfl ?_
    show Steps p.tables e below (T21.setTop (mkF m 128 #[.val (.long p1), .second, .val (.long p2), .second, .val (.long p3), .second, .val (.long p4), .second, .val (.int p5), .val (.int p6), .val (.int (1 : Int32)), .val (.int (2 : Int32)), .val (.int (3 : Int32)), .val (.long sl), .second, .val (.long tt1), .second, .val (.long tt2), .second, .val (.ref b1), .val (.long (-9223372036854775808 : Int64)), .second, .unset, .unset, .unset, .unset] [(.long (tt1 + sl)), (.long p4), (.ref b1)])) _
    refine XS.lconst X21.here hx rfl (hb hby at_128) ?_
    show Steps p.tables e below (T21.setTop (mkF m 129 #[.val (.long p1), .second, .val (.long p2), .second, .val (.long p3), .second, .val (.long p4), .second, .val (.int p5), .val (.int p6), .val (.int (1 : Int32)), .val (.int (2 : Int32)), .val (.int (3 : Int32)), .val (.long sl), .second, .val (.long tt1), .second, .val (.long tt2), .second, .val (.ref b1), .val (.long (-9223372036854775808 : Int64)), .second, .unset, .unset, .unset, .unset] [(.long (1 : Int64)), (.long (tt1 + sl)), (.long p4), (.ref b1)])) _
    refine XS.ladd X21.here hx rfl (hb hby at_129) rfl ?_
    show Steps p.tables e below (T21.setTop (mkF m 130 #[.val (.long p1), .second, .val (.long p2), .second, .val (.long p3), .second, .val (.long p4), .second, .val (.int p5), .val (.int p6), .val (.int (1 : Int32)), .val (.int (2 : Int32)), .val (.int (3 : Int32)), .val (.long sl), .second, .val (.long tt1), .second, .val (.long tt2), .second, .val (.ref b1), .val (.long (-9223372036854775808 : Int64)), .second, .unset, .unset, .unset, .unset] [(.long ((tt1 + sl) + (1 : Int64))), (.long p4), (.ref b1)])) _
    refine st29.trans ?_
    show Steps p.tables e below (T29.setTop (mkF m 133 #[.val (.long p1), .second, .val (.long p2), .second, .val (.long p3), .second, .val (.long p4), .second, .val (.int p5), .val (.int p6), .val (.int (1 : Int32)), .val (.int (2 : Int32)), .val (.int (3 : Int32)), .val (.long sl), .second, .val (.long tt1), .second, .val (.long tt2), .second, .val (.ref b1), .val (.long (-9223372036854775808 : Int64)), .second, .unset, .unset, .unset, .unset] [(.long (own_min (own_min p4 p2) p3))])) _
    refine XS.lstore X29.here hx rfl (hb hby at_133) rfl (l' := #[.val (.long p1), .second, .val (.long p2), .second, .val (.long p3), .second, .val (.long p4), .second, .val (.int p5), .val (.int p6), .val (.int (1 : Int32)), .val (.int (2 : Int32)), .val (.int (3 : Int32)), .val (.long sl), .second, .val (.long tt1), .second, .val (.long tt2), .second, .val (.ref b1), .val (.long (-9223372036854775808 : Int64)), .second, .val (.long (own_min (own_min p4 p2) p3)), .second, .unset, .unset]) rfl ?_
    show Steps p.tables e below (T29.setTop (mkF m 135 #[.val (.long p1), .second, .val (.long p2), .second, .val (.long p3), .second, .val (.long p4), .second, .val (.int p5), .val (.int p6), .val (.int (1 : Int32)), .val (.int (2 : Int32)), .val (.int (3 : Int32)), .val (.long sl), .second, .val (.long tt1), .second, .val (.long tt2), .second, .val (.ref b1), .val (.long (-9223372036854775808 : Int64)), .second, .val (.long (own_min (own_min p4 p2) p3)), .second, .unset, .unset] [])) _
    refine XS.lload X29.here hx rfl (hb hby at_135) rfl ?_
    show Steps p.tables e below (T29.setTop (mkF m 137 #[.val (.long p1), .second, .val (.long p2), .second, .val (.long p3), .second, .val (.long p4), .second, .val (.int p5), .val (.int p6), .val (.int (1 : Int32)), .val (.int (2 : Int32)), .val (.int (3 : Int32)), .val (.long sl), .second, .val (.long tt1), .second, .val (.long tt2), .second, .val (.ref b1), .val (.long (-9223372036854775808 : Int64)), .second, .val (.long (own_min (own_min p4 p2) p3)), .second, .unset, .unset] [(.long (-9223372036854775808 : Int64))])) _
    refine X29.ldc2Long hx hown (mvT hZ (hw _ (List.mem_of_getElem? (i := 55) rfl))) (g := (mkF m 137 #[.val (.long p1), .second, .val (.long p2), .second, .val (.long p3), .second, .val (.long p4), .second, .val (.int p5), .val (.int p6), .val (.int (1 : Int32)), .val (.int (2 : Int32)), .val (.int (3 : Int32)), .val (.long sl), .second, .val (.long tt1), .second, .val (.long tt2), .second, .val (.ref b1), .val (.long (-9223372036854775808 : Int64)), .second, .val (.long (own_min (own_min p4 p2) p3)), .second, .unset, .unset] [(.long (-9223372036854775808 : Int64))])) rfl (hb hby at_137) _ ?_
    show Steps p.tables e below (T29.setTop (mkF m 140 #[.val (.long p1), .second, .val (.long p2), .second, .val (.long p3), .second, .val (.long p4), .second, .val (.int p5), .val (.int p6), .val (.int (1 : Int32)), .val (.int (2 : Int32)), .val (.int (3 : Int32)), .val (.long sl), .second, .val (.long tt1), .second, .val (.long tt2), .second, .val (.ref b1), .val (.long (-9223372036854775808 : Int64)), .second, .val (.long (own_min (own_min p4 p2) p3)), .second, .unset, .unset] [(.long (-9223372036854775808 : Int64)), (.long (-9223372036854775808 : Int64))])) _
    refine XS.lcmp X29.here hx rfl (hb hby at_140) rfl ?_
    show Steps p.tables e below (T29.setTop (mkF m 141 #[.val (.long p1), .second, .val (.long p2), .second, .val (.long p3), .second, .val (.long p4), .second, .val (.int p5), .val (.int p6), .val (.int (1 : Int32)), .val (.int (2 : Int32)), .val (.int (3 : Int32)), .val (.long sl), .second, .val (.long tt1), .second, .val (.long tt2), .second, .val (.ref b1), .val (.long (-9223372036854775808 : Int64)), .second, .val (.long (own_min (own_min p4 p2) p3)), .second, .unset, .unset] [(.int (lcmpW (-9223372036854775808 : Int64) (-9223372036854775808 : Int64)))])) _
    refine XS.ifNo X29.here hx rfl (hb hby at_141) rfl ((if0 _ _).trans (teq (show (lcmpW (-9223372036854775808 : Int64) (-9223372036854775808 : Int64)) = (0 : Int32) from ((lw_eq _ _).mpr rfl))).2) ?_
    show Steps p.tables e below (T29.setTop (mkF m 144 #[.val (.long p1), .second, .val (.long p2), .second, .val (.long p3), .second, .val (.long p4), .second, .val (.int p5), .val (.int p6), .val (.int (1 : Int32)), .val (.int (2 : Int32)), .val (.int (3 : Int32)), .val (.long sl), .second, .val (.long tt1), .second, .val (.long tt2), .second, .val (.ref b1), .val (.long (-9223372036854775808 : Int64)), .second, .val (.long (own_min (own_min p4 p2) p3)), .second, .unset, .unset] [])) _
    refine XS.iconst X29.here hx rfl (hb hby at_144) ?_
    show Steps p.tables e below (T29.setTop (mkF m 145 #[.val (.long p1), .second, .val (.long p2), .second, .val (.long p3), .second, .val (.long p4), .second, .val (.int p5), .val (.int p6), .val (.int (1 : Int32)), .val (.int (2 : Int32)), .val (.int (3 : Int32)), .val (.long sl), .second, .val (.long tt1), .second, .val (.long tt2), .second, .val (.ref b1), .val (.long (-9223372036854775808 : Int64)), .second, .val (.long (own_min (own_min p4 p2) p3)), .second, .unset, .unset] [(.int (1 : Int32))])) _
    refine XS.goto X29.here hx rfl (pc0 := 145) (pc' := 149) rfl (hb hby at_145) (by decide) (by decide) ?_
    show Steps p.tables e below (T29.setTop (mkF m 149 #[.val (.long p1), .second, .val (.long p2), .second, .val (.long p3), .second, .val (.long p4), .second, .val (.int p5), .val (.int p6), .val (.int (1 : Int32)), .val (.int (2 : Int32)), .val (.int (3 : Int32)), .val (.long sl), .second, .val (.long tt1), .second, .val (.long tt2), .second, .val (.ref b1), .val (.long (-9223372036854775808 : Int64)), .second, .val (.long (own_min (own_min p4 p2) p3)), .second, .unset, .unset] [(.int (1 : Int32))])) _
    refine XS.istore X29.here hx rfl (hb hby at_149) rfl (l' := #[.val (.long p1), .second, .val (.long p2), .second, .val (.long p3), .second, .val (.long p4), .second, .val (.int p5), .val (.int p6), .val (.int (1 : Int32)), .val (.int (2 : Int32)), .val (.int (3 : Int32)), .val (.long sl), .second, .val (.long tt1), .second, .val (.long tt2), .second, .val (.ref b1), .val (.long (-9223372036854775808 : Int64)), .second, .val (.long (own_min (own_min p4 p2) p3)), .second, .val (.int (1 : Int32)), .unset]) rfl ?_
    show Steps p.tables e below (T29.setTop (mkF m 151 #[.val (.long p1), .second, .val (.long p2), .second, .val (.long p3), .second, .val (.long p4), .second, .val (.int p5), .val (.int p6), .val (.int (1 : Int32)), .val (.int (2 : Int32)), .val (.int (3 : Int32)), .val (.long sl), .second, .val (.long tt1), .second, .val (.long tt2), .second, .val (.ref b1), .val (.long (-9223372036854775808 : Int64)), .second, .val (.long (own_min (own_min p4 p2) p3)), .second, .val (.int (1 : Int32)), .unset] [])) _
    refine XS.lload X29.here hx rfl (hb hby at_151) rfl ?_
    show Steps p.tables e below (T29.setTop (mkF m 153 #[.val (.long p1), .second, .val (.long p2), .second, .val (.long p3), .second, .val (.long p4), .second, .val (.int p5), .val (.int p6), .val (.int (1 : Int32)), .val (.int (2 : Int32)), .val (.int (3 : Int32)), .val (.long sl), .second, .val (.long tt1), .second, .val (.long tt2), .second, .val (.ref b1), .val (.long (-9223372036854775808 : Int64)), .second, .val (.long (own_min (own_min p4 p2) p3)), .second, .val (.int (1 : Int32)), .unset] [(.long (own_min (own_min p4 p2) p3))])) _
    refine XS.lload X29.here hx rfl (hb hby at_153) rfl ?_
    show Steps p.tables e below (T29.setTop (mkF m 155 #[.val (.long p1), .second, .val (.long p2), .second, .val (.long p3), .second, .val (.long p4), .second, .val (.int p5), .val (.int p6), .val (.int (1 : Int32)), .val (.int (2 : Int32)), .val (.int (3 : Int32)), .val (.long sl), .second, .val (.long tt1), .second, .val (.long tt2), .second, .val (.ref b1), .val (.long (-9223372036854775808 : Int64)), .second, .val (.long (own_min (own_min p4 p2) p3)), .second, .val (.int (1 : Int32)), .unset] [(.long p4), (.long (own_min (own_min p4 p2) p3))])) _
    refine XS.lloadN X29.here hx rfl (hb hby at_155) rfl ?_
    show Steps p.tables e below (T29.setTop (mkF m 156 #[.val (.long p1), .second, .val (.long p2), .second, .val (.long p3), .second, .val (.long p4), .second, .val (.int p5), .val (.int p6), .val (.int (1 : Int32)), .val (.int (2 : Int32)), .val (.int (3 : Int32)), .val (.long sl), .second, .val (.long tt1), .second, .val (.long tt2), .second, .val (.ref b1), .val (.long (-9223372036854775808 : Int64)), .second, .val (.long (own_min (own_min p4 p2) p3)), .second, .val (.int (1 : Int32)), .unset] [(.long p2), (.long p4), (.long (own_min (own_min p4 p2) p3))])) _
    refine XS.lload X29.here hx rfl (hb hby at_156) rfl ?_
    show Steps p.tables e below (T29.setTop (mkF m 158 #[.val (.long p1), .second, .val (.long p2), .second, .val (.long p3), .second, .val (.long p4), .second, .val (.int p5), .val (.int p6), .val (.int (1 : Int32)), .val (.int (2 : Int32)), .val (.int (3 : Int32)), .val (.long sl), .second, .val (.long tt1), .second, .val (.long tt2), .second, .val (.ref b1), .val (.long (-9223372036854775808 : Int64)), .second, .val (.long (own_min (own_min p4 p2) p3)), .second, .val (.int (1 : Int32)), .unset] [(.long p3), (.long p2), (.long p4), (.long (own_min (own_min p4 p2) p3))])) _
    refine st30 _ ?_
    show Steps p.tables e below (T30.setTop (mkF m 161 #[.val (.long p1), .second, .val (.long p2), .second, .val (.long p3), .second, .val (.long p4), .second, .val (.int p5), .val (.int p6), .val (.int (1 : Int32)), .val (.int (2 : Int32)), .val (.int (3 : Int32)), .val (.long sl), .second, .val (.long tt1), .second, .val (.long tt2), .second, .val (.ref b1), .val (.long (-9223372036854775808 : Int64)), .second, .val (.long (own_min (own_min p4 p2) p3)), .second, .val (.int (1 : Int32)), .unset] [(.long (own_min p2 p3)), (.long p4), (.long (own_min (own_min p4 p2) p3))])) _
    refine st31 _ ?_
    show Steps p.tables e below (T31.setTop (mkF m 164 #[.val (.long p1), .second, .val (.long p2), .second, .val (.long p3), .second, .val (.long p4), .second, .val (.int p5), .val (.int p6), .val (.int (1 : Int32)), .val (.int (2 : Int32)), .val (.int (3 : Int32)), .val (.long sl), .second, .val (.long tt1), .second, .val (.long tt2), .second, .val (.ref b1), .val (.long (-9223372036854775808 : Int64)), .second, .val (.long (own_min (own_min p4 p2) p3)), .second, .val (.int (1 : Int32)), .unset] [(.long (own_min p4 (own_min p2 p3))), (.long (own_min (own_min p4 p2) p3))])) _
    refine XS.lcmp X31.here hx rfl (hb hby at_164) rfl ?_
    show Steps p.tables e below (T31.setTop (mkF m 165 #[.val (.long p1), .second, .val (.long p2), .second, .val (.long p3), .second, .val (.long p4), .second, .val (.int p5), .val (.int p6), .val (.int (1 : Int32)), .val (.int (2 : Int32)), .val (.int (3 : Int32)), .val (.long sl), .second, .val (.long tt1), .second, .val (.long tt2), .second, .val (.ref b1), .val (.long (-9223372036854775808 : Int64)), .second, .val (.long (own_min (own_min p4 p2) p3)), .second, .val (.int (1 : Int32)), .unset] [(.int (lcmpW (own_min (own_min p4 p2) p3) (own_min p4 (own_min p2 p3))))])) _
    refine XS.ifNo X31.here hx rfl (hb hby at_165) rfl ((if0 _ _).trans (teq (show (lcmpW (own_min (own_min p4 p2) p3) (own_min p4 (own_min p2 p3))) = (0 : Int32) from ((lw_eq _ _).mpr (own_minA p4 p2 p3)))).2) ?_
    show Steps p.tables e below (T31.setTop (mkF m 168 #[.val (.long p1), .second, .val (.long p2), .second, .val (.long p3), .second, .val (.long p4), .second, .val (.int p5), .val (.int p6), .val (.int (1 : Int32)), .val (.int (2 : Int32)), .val (.int (3 : Int32)), .val (.long sl), .second, .val (.long tt1), .second, .val (.long tt2), .second, .val (.ref b1), .val (.long (-9223372036854775808 : Int64)), .second, .val (.long (own_min (own_min p4 p2) p3)), .second, .val (.int (1 : Int32)), .unset] [])) _
    refine XS.iconst X31.here hx rfl (hb hby at_168) ?_
    show Steps p.tables e below (T31.setTop (mkF m 169 #[.val (.long p1), .second, .val (.long p2), .second, .val (.long p3), .second, .val (.long p4), .second, .val (.int p5), .val (.int p6), .val (.int (1 : Int32)), .val (.int (2 : Int32)), .val (.int (3 : Int32)), .val (.long sl), .second, .val (.long tt1), .second, .val (.long tt2), .second, .val (.ref b1), .val (.long (-9223372036854775808 : Int64)), .second, .val (.long (own_min (own_min p4 p2) p3)), .second, .val (.int (1 : Int32)), .unset] [(.int (1 : Int32))])) _
    refine XS.goto X31.here hx rfl (pc0 := 169) (pc' := 173) rfl (hb hby at_169) (by decide) (by decide) ?_
    show Steps p.tables e below (T31.setTop (mkF m 173 #[.val (.long p1), .second, .val (.long p2), .second, .val (.long p3), .second, .val (.long p4), .second, .val (.int p5), .val (.int p6), .val (.int (1 : Int32)), .val (.int (2 : Int32)), .val (.int (3 : Int32)), .val (.long sl), .second, .val (.long tt1), .second, .val (.long tt2), .second, .val (.ref b1), .val (.long (-9223372036854775808 : Int64)), .second, .val (.long (own_min (own_min p4 p2) p3)), .second, .val (.int (1 : Int32)), .unset] [(.int (1 : Int32))])) _
    refine XS.istore X31.here hx rfl (hb hby at_173) rfl (l' := #[.val (.long p1), .second, .val (.long p2), .second, .val (.long p3), .second, .val (.long p4), .second, .val (.int p5), .val (.int p6), .val (.int (1 : Int32)), .val (.int (2 : Int32)), .val (.int (3 : Int32)), .val (.long sl), .second, .val (.long tt1), .second, .val (.long tt2), .second, .val (.ref b1), .val (.long (-9223372036854775808 : Int64)), .second, .val (.long (own_min (own_min p4 p2) p3)), .second, .val (.int (1 : Int32)), .val (.int (1 : Int32))]) rfl ?_
    show Steps p.tables e below (T31.setTop (mkF m 175 #[.val (.long p1), .second, .val (.long p2), .second, .val (.long p3), .second, .val (.long p4), .second, .val (.int p5), .val (.int p6), .val (.int (1 : Int32)), .val (.int (2 : Int32)), .val (.int (3 : Int32)), .val (.long sl), .second, .val (.long tt1), .second, .val (.long tt2), .second, .val (.ref b1), .val (.long (-9223372036854775808 : Int64)), .second, .val (.long (own_min (own_min p4 p2) p3)), .second, .val (.int (1 : Int32)), .val (.int (1 : Int32))] [])) _
    refine XS.iload X31.here hx rfl (hb hby at_175) rfl ?_
    show Steps p.tables e below (T31.setTop (mkF m 177 #[.val (.long p1), .second, .val (.long p2), .second, .val (.long p3), .second, .val (.long p4), .second, .val (.int p5), .val (.int p6), .val (.int (1 : Int32)), .val (.int (2 : Int32)), .val (.int (3 : Int32)), .val (.long sl), .second, .val (.long tt1), .second, .val (.long tt2), .second, .val (.ref b1), .val (.long (-9223372036854775808 : Int64)), .second, .val (.long (own_min (own_min p4 p2) p3)), .second, .val (.int (1 : Int32)), .val (.int (1 : Int32))] [(.int (1 : Int32))])) _
    refine XS.ifNo X31.here hx rfl (hb hby at_177) rfl ((if0 _ _).trans (feq (show ¬ ((1 : Int32) = (0 : Int32)) from (by decide))).1) ?_
    show Steps p.tables e below (T31.setTop (mkF m 180 #[.val (.long p1), .second, .val (.long p2), .second, .val (.long p3), .second, .val (.long p4), .second, .val (.int p5), .val (.int p6), .val (.int (1 : Int32)), .val (.int (2 : Int32)), .val (.int (3 : Int32)), .val (.long sl), .second, .val (.long tt1), .second, .val (.long tt2), .second, .val (.ref b1), .val (.long (-9223372036854775808 : Int64)), .second, .val (.long (own_min (own_min p4 p2) p3)), .second, .val (.int (1 : Int32)), .val (.int (1 : Int32))] [])) _
    refine XS.iload X31.here hx rfl (hb hby at_180) rfl ?_
    show Steps p.tables e below (T31.setTop (mkF m 182 #[.val (.long p1), .second, .val (.long p2), .second, .val (.long p3), .second, .val (.long p4), .second, .val (.int p5), .val (.int p6), .val (.int (1 : Int32)), .val (.int (2 : Int32)), .val (.int (3 : Int32)), .val (.long sl), .second, .val (.long tt1), .second, .val (.long tt2), .second, .val (.ref b1), .val (.long (-9223372036854775808 : Int64)), .second, .val (.long (own_min (own_min p4 p2) p3)), .second, .val (.int (1 : Int32)), .val (.int (1 : Int32))] [(.int (1 : Int32))])) _
    refine XS.ifNo X31.here hx rfl (hb hby at_182) rfl ((if0 _ _).trans (feq (show ¬ ((1 : Int32) = (0 : Int32)) from (by decide))).1) ?_
    show Steps p.tables e below (T31.setTop (mkF m 185 #[.val (.long p1), .second, .val (.long p2), .second, .val (.long p3), .second, .val (.long p4), .second, .val (.int p5), .val (.int p6), .val (.int (1 : Int32)), .val (.int (2 : Int32)), .val (.int (3 : Int32)), .val (.long sl), .second, .val (.long tt1), .second, .val (.long tt2), .second, .val (.ref b1), .val (.long (-9223372036854775808 : Int64)), .second, .val (.long (own_min (own_min p4 p2) p3)), .second, .val (.int (1 : Int32)), .val (.int (1 : Int32))] [])) _
    refine XS.iconst X31.here hx rfl (hb hby at_185) ?_
    show Steps p.tables e below (T31.setTop (mkF m 186 #[.val (.long p1), .second, .val (.long p2), .second, .val (.long p3), .second, .val (.long p4), .second, .val (.int p5), .val (.int p6), .val (.int (1 : Int32)), .val (.int (2 : Int32)), .val (.int (3 : Int32)), .val (.long sl), .second, .val (.long tt1), .second, .val (.long tt2), .second, .val (.ref b1), .val (.long (-9223372036854775808 : Int64)), .second, .val (.long (own_min (own_min p4 p2) p3)), .second, .val (.int (1 : Int32)), .val (.int (1 : Int32))] [(.int (1 : Int32))])) _
    refine XS.goto X31.here hx rfl (pc0 := 186) (pc' := 190) rfl (hb hby at_186) (by decide) (by decide) ?_
    show Steps p.tables e below (T31.setTop (mkF m 190 #[.val (.long p1), .second, .val (.long p2), .second, .val (.long p3), .second, .val (.long p4), .second, .val (.int p5), .val (.int p6), .val (.int (1 : Int32)), .val (.int (2 : Int32)), .val (.int (3 : Int32)), .val (.long sl), .second, .val (.long tt1), .second, .val (.long tt2), .second, .val (.ref b1), .val (.long (-9223372036854775808 : Int64)), .second, .val (.long (own_min (own_min p4 p2) p3)), .second, .val (.int (1 : Int32)), .val (.int (1 : Int32))] [(.int (1 : Int32))])) _
    exact retN X31 hx (t := .boolean) Bd.returns (by simp) (hb hby at_190) hr
  · show Qrm0 Z p1 p2 p3 p4 p5 p6 h0 n0 _ T31.heap _
    rw [e31q]
    exact ⟨rfl, N31⟩
set_option maxRecDepth 65536 in
set_option maxHeartbeats 40000000 in
theorem rm0_1 (l : Launch) (Z : State) (a0 : Array Value) (hw : ∀ d ∈ tables_1, d.before a0 Z = true) (ws : List Jvm.Cond) (p1 : Int64) (p2 : Int64) (p3 : Int64) (p4 : Int64) (p5 : Int32) (p6 : Int32) (h0 : Heap) (n0 : Nat) (Z0 : n0 ≤ h0.size) (hk : (p5 &&& (3 : Int32)) = (1 : Int32)) :
    MetFree l x (head1 (Jvm.Cond.code x code maxLocals ret :: ws) room_1) (fun aa_ U => aa_ = #[(.long p1), (.long p2), (.long p3), (.long p4), (.int p5), (.int p6)] ∧ Z.Warmed39 U.vm ∧ U.heap = h0) (fun _ _ _ _ _ => True) (fun _ U o U' => ∃ v L, o = .returned v ∧ Qrm0 Z p1 p2 p3 p4 p5 p6 h0 n0 v U'.heap L ∧ FrameEnd U o U' L room_1.cells room_1.slots) := by
  refine MetFree.of_bodySF (plainFor_of_name pn_3) hisR ?_
  intro p e s m args below meth c s₁ Bd hml0 hP hK
  obtain ⟨rfl, hZ, hh⟩ := hP
  have hx := Bd.exec
  have hby := Bd.bytes
  have hml : c.maxLocals = 26 := hml0
  have hown : s.vm.findClass "stillmark/StableTimesRestartedPinLaw" = some m.cls := findClass_of_methodNamed Bd.named
  have hnm := (name_of_methodNamed Bd.named Bd.method).1
  have X0 : Stand p l e room_1 s m #[(.long p1), (.long p2), (.long p3), (.long p4), (.int p5), (.int p6)] below meth c s₁ [] 0 0 := Stand.of_body Bd
  have e0 : s₁.heap = h0 := by rw [← hh, Bd.state]; rfl
  have N0 := Fr.nil n0
  have pre0 : ∀ tt_, Steps p.tables e below (s₁.setTop (mkF m 0 #[.val (.long p1), .second, .val (.long p2), .second, .val (.long p3), .second, .val (.long p4), .second, .val (.int p5), .val (.int p6), .unset, .unset, .unset, .unset, .unset, .unset, .unset, .unset, .unset, .unset, .unset, .unset, .unset, .unset, .unset, .unset] [])) tt_ → Steps p.tables e below (s₁.setTop (entryFrame m #[(.long p1), (.long p2), (.long p3), (.long p4), (.int p5), (.int p6)] maxLocals)) tt_ := fun tt_ kk_ => castTop (ef_0 m p1 p2 p3 p4 p5 p6) kk_
  obtain ⟨sl, h_sl⟩ : ∃ zz_ : Int64, zz_ = ((((p5.toUInt32 >>> ((2 : Int32) &&& 31).toUInt32).toInt32) &&& (268435455 : Int32)).toInt64) := ⟨_, rfl⟩
  obtain ⟨tt1, h_tt1⟩ : ∃ zz_ : Int64, zz_ = ((p6.toInt64) &&& (2147483647 : Int64)) := ⟨_, rfl⟩
  obtain ⟨tt2, h_tt2⟩ : ∃ zz_ : Int64, zz_ = (tt1 + (1 : Int64)) := ⟨_, rfl⟩
  have ht1 := own_t p6
  rw [← h_tt1] at ht1
  have hup : tt1 < tt2 := by rw [h_tt2]; exact own_up tt1 ht1
  obtain ⟨T1, h1, X1, e1, E1, A1, D1, -, st1⟩ := newO X0 hx hZ hown (hw _ (List.mem_of_getElem? (i := 2) rfl)) (hw _ (List.mem_of_getElem? (i := 3) rfl)) (hw _ (List.mem_of_getElem? (i := 4) rfl)) e0 (g := (mkF m 51 #[.val (.long p1), .second, .val (.long p2), .second, .val (.long p3), .second, .val (.long p4), .second, .val (.int p5), .val (.int p6), .val (.int (2 : Int32)), .val (.int (3 : Int32)), .val (.int (1 : Int32)), .val (.long sl), .second, .val (.long tt1), .second, .val (.long tt2), .second, .unset, .unset, .unset, .unset, .unset, .unset, .unset] [])) rfl (hb hby at_51) (by decide) (by decide)
  obtain ⟨b1, g1⟩ : ∃ zz_, zz_ = h0.size := ⟨_, rfl⟩
  rw [← g1] at A1 D1 st1
  have g_b1 : n0 ≤ b1 := Nat.le_trans Z0 (Nat.le_of_eq g1.symm)
  have sz_b1 : h0.size ≤ b1 := Nat.le_trans (Keep.refl h0 []).1 (Nat.le_of_eq g1.symm)
  have F_own_b1 : Fld Z h1 b1 "stillmark/StableTimes" "own" "I" (.int (0 : Int32)) := D1 (Or.inr (hw _ (List.mem_of_getElem? (i := 12) rfl))) (ty := .int) (by decide)
  have F_majority_b1 : Fld Z h1 b1 "stillmark/StableTimes" "majority" "I" (.int (0 : Int32)) := D1 (Or.inr (hw _ (List.mem_of_getElem? (i := 14) rfl))) (ty := .int) (by decide)
  have F_silence_b1 : Fld Z h1 b1 "stillmark/StableTimes" "silence" "J" (.long (0 : Int64)) := D1 (Or.inr (hw _ (List.mem_of_getElem? (i := 16) rfl))) (ty := .long) (by decide)
  have F_told_b1 : Fld Z h1 b1 "stillmark/StableTimes" "told" "[J" .null := D1 (Or.inr (hw _ (List.mem_of_getElem? (i := 19) rfl))) (ty := (.array .long)) (by decide)
  have F_heard_b1 : Fld Z h1 b1 "stillmark/StableTimes" "heard" "[J" .null := D1 (Or.inr (hw _ (List.mem_of_getElem? (i := 21) rfl))) (ty := (.array .long)) (by decide)
  have sz3 : n0 ≤ h1.size := (Nat.le_trans Z0 E1.1)
  obtain ⟨_, _, ⟨T2, L2, k2, n2⟩, -, X2, ⟨Lc2, hQ2, l2, y2, z2⟩, st2⟩ := X1.specialBack hx (y := (⟨"stillmark/StableTimes", "<init>", "(IIIJJ)V"⟩ : MethodName)) rfl hown (mvT hZ (hw _ (List.mem_of_getElem? (i := 5) rfl))) (mvT hZ (hw _ (List.mem_of_getElem? (i := 6) rfl))) (mvT hZ (hw _ (List.mem_of_getElem? (i := 7) rfl))) (by decide) (backOf (W := 1) (rm1 l Z a0 hw [] b1 sl (0 : Int64) h1 n0 sz3 A1 F_own_b1 F_majority_b1 F_silence_b1 F_told_b1 F_heard_b1 g_b1) hZ (hw _ (List.mem_of_getElem? (i := 7) rfl)) (hw _ (List.mem_of_getElem? (i := 4) rfl)) (by decide) (by decide)) (g := (mkF m 61 #[.val (.long p1), .second, .val (.long p2), .second, .val (.long p3), .second, .val (.long p4), .second, .val (.int p5), .val (.int p6), .val (.int (2 : Int32)), .val (.int (3 : Int32)), .val (.int (1 : Int32)), .val (.long sl), .second, .val (.long tt1), .second, .val (.long tt2), .second, .unset, .unset, .unset, .unset, .unset, .unset, .unset] [(.long (0 : Int64)), (.long sl), (.int (3 : Int32)), (.int (4 : Int32)), (.int (0 : Int32)), (.ref b1), (.ref b1)])) rfl (by rw [hml]; rfl) (Steps.refl _) (a := b1) (argsL := [(.int (0 : Int32)), (.int (4 : Int32)), (.int (3 : Int32)), (.long sl), (.long (0 : Int64))]) (rest := [(.ref b1)]) (lenOf pd_4 rfl) rfl (by show 2 * 0 + _ ≤ _; exact Nat.le_of_eq rfl) (hb hby at_61) (fun _ _ => ⟨rfl, e1, (by decide : 1 + 2 ≤ _), (by decide : 5 + 8 ≤ _)⟩)
  dsimp only [Pt.U, Pt.locs, Pt.cells, Pt.slots] at X2 l2 y2 z2 st2 hQ2
  subst l2 y2 z2
  obtain ⟨t_e2, u_e2, rfl, N2q, K2, p2_1, p2_2, p2_3, p2_4, p2_5, p2_6, p2_7, p2_8, g_t_2, g_u_2, ne_a_t_2, ne_a_u_2, ne_t_u_2⟩ := hQ2
  have N2 := Fr.app N0 N2q
  have sz5 : n0 ≤ T2.heap.size := (Nat.le_trans sz3 K2.1)
  obtain ⟨cq4, kq4, q4a, q4b, q4c⟩ := isOf hZ rfl p2_1
  obtain ⟨_, _, ⟨T4, L4, k4, n4⟩, -, X4, ⟨Lc4, hQ4, l4, y4, z4⟩, st4⟩ := X2.virtualBack hx (y := (⟨"stillmark/StableTimes", "told", "(IJJ)V"⟩ : MethodName)) (z := (⟨"stillmark/StableTimes", "told", "(IJJ)V"⟩ : MethodName)) hown (mvT hZ (hw _ (List.mem_of_getElem? (i := 32) rfl))) (mvT hZ (hw _ (List.mem_of_getElem? (i := 33) rfl))) (notFace_of_selects (args := #[]) (mvT hZ (hw _ (List.mem_of_getElem? (i := 35) rfl)))) (mvT hZ (hw _ (List.mem_of_getElem? (i := 35) rfl))) (mvT hZ (hw _ (List.mem_of_getElem? (i := 34) rfl))) (by decide) (backOf (W := 0) (rm5 l Z a0 hw [] b1 (2 : Int32) p1 (0 : Int64) t_e2 u_e2 (fun _ => (-9223372036854775808 : Int64)) (fun _ => (0 : Int64)) 2 (T2.heap) n0 sz5 p2_1 p2_5 p2_6 p2_7 p2_8 g_t_2 g_u_2 ne_a_t_2 ne_a_u_2 ne_t_u_2 (by decide) (by decide) (by decide)) hZ (hw _ (List.mem_of_getElem? (i := 36) rfl)) (hw _ (List.mem_of_getElem? (i := 4) rfl)) (by decide) (by decide)) q4a q4c (g := (mkF m 72 #[.val (.long p1), .second, .val (.long p2), .second, .val (.long p3), .second, .val (.long p4), .second, .val (.int p5), .val (.int p6), .val (.int (2 : Int32)), .val (.int (3 : Int32)), .val (.int (1 : Int32)), .val (.long sl), .second, .val (.long tt1), .second, .val (.long tt2), .second, .val (.ref b1), .unset, .unset, .unset, .unset, .unset, .unset] [(.long (0 : Int64)), (.long p1), (.int (2 : Int32)), (.ref b1)])) rfl (by rw [hml]; rfl) (Steps.refl _) (argsL := [(.int (2 : Int32)), (.long p1), (.long (0 : Int64))]) (rest := []) (lenOf pd_5 rfl) rfl (by show 2 * 0 + _ ≤ _; exact Nat.le_of_eq rfl) (hb hby at_72) (fun _ _ => ⟨rfl, rfl, (by decide : 3 + 0 ≤ _), (by decide : 13 + 0 ≤ _)⟩)
  dsimp only [Pt.U, Pt.locs, Pt.cells, Pt.slots] at X4 l4 y4 z4 st4 hQ4
  subst l4 y4 z4
  obtain ⟨rfl, N4q, K4, p4_1, p4_2⟩ := hQ4
  have N4 := Fr.app N2 N4q
  have f7_E_b1 := (p2_1.keep K4)
  have f8_F_b1_told := (p2_5.keep K4 (ninS ne_a_t_2 (ninS ne_a_u_2 nin0)))
  have f9_F_b1_heard := (p2_6.keep K4 (ninS ne_a_t_2 (ninS ne_a_u_2 nin0)))
  have sz10 : n0 ≤ T4.heap.size := (Nat.le_trans sz5 K4.1)
  obtain ⟨cq6, kq6, q6a, q6b, q6c⟩ := isOf hZ rfl f7_E_b1
  obtain ⟨_, _, ⟨T6, L6, k6, n6⟩, -, X6, ⟨Lc6, hQ6, l6, y6, z6⟩, st6⟩ := X4.virtualBack hx (y := (⟨"stillmark/StableTimes", "told", "(IJJ)V"⟩ : MethodName)) (z := (⟨"stillmark/StableTimes", "told", "(IJJ)V"⟩ : MethodName)) hown (mvT hZ (hw _ (List.mem_of_getElem? (i := 32) rfl))) (mvT hZ (hw _ (List.mem_of_getElem? (i := 33) rfl))) (notFace_of_selects (args := #[]) (mvT hZ (hw _ (List.mem_of_getElem? (i := 35) rfl)))) (mvT hZ (hw _ (List.mem_of_getElem? (i := 35) rfl))) (mvT hZ (hw _ (List.mem_of_getElem? (i := 34) rfl))) (by decide) (backOf (W := 0) (rm5 l Z a0 hw [] b1 (3 : Int32) p2 tt2 t_e2 u_e2 (own_set (fun _ => (-9223372036854775808 : Int64)) 2 p1) (own_set (fun _ => (0 : Int64)) 2 (0 : Int64)) 3 (T4.heap) n0 sz10 f7_E_b1 f8_F_b1_told f9_F_b1_heard p4_1 p4_2 g_t_2 g_u_2 ne_a_t_2 ne_a_u_2 ne_t_u_2 (by decide) (by decide) (by decide)) hZ (hw _ (List.mem_of_getElem? (i := 36) rfl)) (hw _ (List.mem_of_getElem? (i := 4) rfl)) (by decide) (by decide)) q6a q6c (g := (mkF m 82 #[.val (.long p1), .second, .val (.long p2), .second, .val (.long p3), .second, .val (.long p4), .second, .val (.int p5), .val (.int p6), .val (.int (2 : Int32)), .val (.int (3 : Int32)), .val (.int (1 : Int32)), .val (.long sl), .second, .val (.long tt1), .second, .val (.long tt2), .second, .val (.ref b1), .unset, .unset, .unset, .unset, .unset, .unset] [(.long tt2), (.long p2), (.int (3 : Int32)), (.ref b1)])) rfl (by rw [hml]; rfl) (Steps.refl _) (argsL := [(.int (3 : Int32)), (.long p2), (.long tt2)]) (rest := []) (lenOf pd_5 rfl) rfl (by show 2 * 0 + _ ≤ _; exact Nat.le_of_eq rfl) (hb hby at_82) (fun _ _ => ⟨rfl, rfl, (by decide : 3 + 0 ≤ _), (by decide : 13 + 0 ≤ _)⟩)
  dsimp only [Pt.U, Pt.locs, Pt.cells, Pt.slots] at X6 l6 y6 z6 st6 hQ6
  subst l6 y6 z6
  obtain ⟨rfl, N6q, K6, p6_1, p6_2⟩ := hQ6
  have N6 := Fr.app N4 N6q
  have f12_E_b1 := (f7_E_b1.keep K6)
  have f13_F_b1_told := (f8_F_b1_told.keep K6 (ninS ne_a_t_2 (ninS ne_a_u_2 nin0)))
  have f14_F_b1_heard := (f9_F_b1_heard.keep K6 (ninS ne_a_t_2 (ninS ne_a_u_2 nin0)))
  have sz15 : n0 ≤ T6.heap.size := (Nat.le_trans sz10 K6.1)
  obtain ⟨cq11, kq11, q11a, q11b, q11c⟩ := isOf hZ rfl f12_E_b1
  obtain ⟨_, _, ⟨T11, L11, k11, n11⟩, -, X11, ⟨Lc11, hQ11, l11, y11, z11⟩, st11⟩ := X6.virtualBack hx (y := (⟨"stillmark/StableTimes", "told", "(IJJ)V"⟩ : MethodName)) (z := (⟨"stillmark/StableTimes", "told", "(IJJ)V"⟩ : MethodName)) hown (mvT hZ (hw _ (List.mem_of_getElem? (i := 32) rfl))) (mvT hZ (hw _ (List.mem_of_getElem? (i := 33) rfl))) (notFace_of_selects (args := #[]) (mvT hZ (hw _ (List.mem_of_getElem? (i := 35) rfl)))) (mvT hZ (hw _ (List.mem_of_getElem? (i := 35) rfl))) (mvT hZ (hw _ (List.mem_of_getElem? (i := 34) rfl))) (by decide) (backOf (W := 0) (rm5 l Z a0 hw [] b1 (1 : Int32) p3 tt2 t_e2 u_e2 (own_set (own_set (fun _ => (-9223372036854775808 : Int64)) 2 p1) 3 p2) (own_set (own_set (fun _ => (0 : Int64)) 2 (0 : Int64)) 3 tt2) 1 (T6.heap) n0 sz15 f12_E_b1 f13_F_b1_told f14_F_b1_heard p6_1 p6_2 g_t_2 g_u_2 ne_a_t_2 ne_a_u_2 ne_t_u_2 (by decide) (by decide) (by decide)) hZ (hw _ (List.mem_of_getElem? (i := 36) rfl)) (hw _ (List.mem_of_getElem? (i := 4) rfl)) (by decide) (by decide)) q11a q11c (g := (mkF m 93 #[.val (.long p1), .second, .val (.long p2), .second, .val (.long p3), .second, .val (.long p4), .second, .val (.int p5), .val (.int p6), .val (.int (2 : Int32)), .val (.int (3 : Int32)), .val (.int (1 : Int32)), .val (.long sl), .second, .val (.long tt1), .second, .val (.long tt2), .second, .val (.ref b1), .unset, .unset, .unset, .unset, .unset, .unset] [(.long tt2), (.long p3), (.int (1 : Int32)), (.ref b1)])) rfl (by rw [hml]; rfl) (Steps.refl _) (argsL := [(.int (1 : Int32)), (.long p3), (.long tt2)]) (rest := []) (lenOf pd_5 rfl) rfl (by show 2 * 0 + _ ≤ _; exact Nat.le_of_eq rfl) (hb hby at_93) (fun _ _ => ⟨rfl, rfl, (by decide : 3 + 0 ≤ _), (by decide : 13 + 0 ≤ _)⟩)
  dsimp only [Pt.U, Pt.locs, Pt.cells, Pt.slots] at X11 l11 y11 z11 st11 hQ11
  subst l11 y11 z11
  obtain ⟨rfl, N11q, K11, p11_1, p11_2⟩ := hQ11
  have N11 := Fr.app N6 N11q
  have f17_E_b1 := (f12_E_b1.keep K11)
  have f18_F_b1_told := (f13_F_b1_told.keep K11 (ninS ne_a_t_2 (ninS ne_a_u_2 nin0)))
  have f19_F_b1_heard := (f14_F_b1_heard.keep K11 (ninS ne_a_t_2 (ninS ne_a_u_2 nin0)))
  have sz20 : n0 ≤ T11.heap.size := (Nat.le_trans sz15 K11.1)
  obtain ⟨cq16, kq16, q16a, q16b, q16c⟩ := isOf hZ rfl f17_E_b1
  obtain ⟨_, _, ⟨T16, L16, k16, n16⟩, -, X16, ⟨Lc16, hQ16, l16, y16, z16⟩, st16⟩ := X11.virtualBack hx (y := (⟨"stillmark/StableTimes", "restarted", "(IJ)V"⟩ : MethodName)) (z := (⟨"stillmark/StableTimes", "restarted", "(IJ)V"⟩ : MethodName)) hown (mvT hZ (hw _ (List.mem_of_getElem? (i := 37) rfl))) (mvT hZ (hw _ (List.mem_of_getElem? (i := 38) rfl))) (notFace_of_selects (args := #[]) (mvT hZ (hw _ (List.mem_of_getElem? (i := 40) rfl)))) (mvT hZ (hw _ (List.mem_of_getElem? (i := 40) rfl))) (mvT hZ (hw _ (List.mem_of_getElem? (i := 39) rfl))) (by decide) (backOf (W := 0) (rm6 l Z a0 hw [] b1 (2 : Int32) tt1 t_e2 u_e2 (own_set (own_set (own_set (fun _ => (-9223372036854775808 : Int64)) 2 p1) 3 p2) 1 p3) (own_set (own_set (own_set (fun _ => (0 : Int64)) 2 (0 : Int64)) 3 tt2) 1 tt2) 2 (T11.heap) n0 sz20 f17_E_b1 f18_F_b1_told f19_F_b1_heard p11_1 p11_2 g_t_2 g_u_2 ne_a_t_2 ne_a_u_2 ne_t_u_2 (by decide) (by decide) (by decide)) hZ (hw _ (List.mem_of_getElem? (i := 41) rfl)) (hw _ (List.mem_of_getElem? (i := 4) rfl)) (by decide) (by decide)) q16a q16c (g := (mkF m 102 #[.val (.long p1), .second, .val (.long p2), .second, .val (.long p3), .second, .val (.long p4), .second, .val (.int p5), .val (.int p6), .val (.int (2 : Int32)), .val (.int (3 : Int32)), .val (.int (1 : Int32)), .val (.long sl), .second, .val (.long tt1), .second, .val (.long tt2), .second, .val (.ref b1), .unset, .unset, .unset, .unset, .unset, .unset] [(.long tt1), (.int (2 : Int32)), (.ref b1)])) rfl (by rw [hml]; rfl) (Steps.refl _) (argsL := [(.int (2 : Int32)), (.long tt1)]) (rest := []) (lenOf pd_6 rfl) rfl (by show 2 * 0 + _ ≤ _; exact Nat.le_of_eq rfl) (hb hby at_102) (fun _ _ => ⟨rfl, rfl, (by decide : 3 + 0 ≤ _), (by decide : 13 + 0 ≤ _)⟩)
  dsimp only [Pt.U, Pt.locs, Pt.cells, Pt.slots] at X16 l16 y16 z16 st16 hQ16
  subst l16 y16 z16
  obtain ⟨rfl, N16q, K16, p16_1, p16_2⟩ := hQ16
  have N16 := Fr.app N11 N16q
  have f22_E_b1 := (f17_E_b1.keep K16)
  have f23_F_b1_own := ((((p2_2.keep K4 (ninS ne_a_t_2 (ninS ne_a_u_2 nin0))).keep K6 (ninS ne_a_t_2 (ninS ne_a_u_2 nin0))).keep K11 (ninS ne_a_t_2 (ninS ne_a_u_2 nin0))).keep K16 (ninS ne_a_t_2 (ninS ne_a_u_2 nin0)))
  have f24_F_b1_silence := ((((p2_4.keep K4 (ninS ne_a_t_2 (ninS ne_a_u_2 nin0))).keep K6 (ninS ne_a_t_2 (ninS ne_a_u_2 nin0))).keep K11 (ninS ne_a_t_2 (ninS ne_a_u_2 nin0))).keep K16 (ninS ne_a_t_2 (ninS ne_a_u_2 nin0)))
  have f25_F_b1_heard := (f19_F_b1_heard.keep K16 (ninS ne_a_t_2 (ninS ne_a_u_2 nin0)))
  have f26_F_b1_majority := ((((p2_3.keep K4 (ninS ne_a_t_2 (ninS ne_a_u_2 nin0))).keep K6 (ninS ne_a_t_2 (ninS ne_a_u_2 nin0))).keep K11 (ninS ne_a_t_2 (ninS ne_a_u_2 nin0))).keep K16 (ninS ne_a_t_2 (ninS ne_a_u_2 nin0)))
  have f27_F_b1_told := (f18_F_b1_told.keep K16 (ninS ne_a_t_2 (ninS ne_a_u_2 nin0)))
  have sz28 : n0 ≤ T16.heap.size := (Nat.le_trans sz20 K16.1)
  obtain ⟨cq21, kq21, q21a, q21b, q21c⟩ := isOf hZ rfl f22_E_b1
  obtain ⟨_, _, ⟨T21, L21, k21, n21⟩, -, X21, ⟨Lc21, hQ21, l21, y21, z21⟩, st21⟩ := X16.virtualBack hx (y := (⟨"stillmark/StableTimes", "raise", "(JJ)J"⟩ : MethodName)) (z := (⟨"stillmark/StableTimes", "raise", "(JJ)J"⟩ : MethodName)) hown (mvT hZ (hw _ (List.mem_of_getElem? (i := 42) rfl))) (mvT hZ (hw _ (List.mem_of_getElem? (i := 43) rfl))) (notFace_of_selects (args := #[]) (mvT hZ (hw _ (List.mem_of_getElem? (i := 45) rfl)))) (mvT hZ (hw _ (List.mem_of_getElem? (i := 45) rfl))) (mvT hZ (hw _ (List.mem_of_getElem? (i := 44) rfl))) (by decide) (backOf (W := 0) (rm7_0 l Z a0 hw [] b1 p4 (tt1 + sl) sl t_e2 u_e2 (own_set (own_set (own_set (own_set (fun _ => (-9223372036854775808 : Int64)) 2 p1) 3 p2) 1 p3) 2 (-9223372036854775808 : Int64)) (own_set (own_set (own_set (own_set (fun _ => (0 : Int64)) 2 (0 : Int64)) 3 tt2) 1 tt2) 2 tt1) (T16.heap) n0 sz28 f22_E_b1 f23_F_b1_own f24_F_b1_silence f25_F_b1_heard p16_2 f26_F_b1_majority f27_F_b1_told p16_1 (by show ¬ (tt2 < (tt1 + sl) - sl); rw [own_e1]; exact own_asym hup) (by show ¬ (tt1 < (tt1 + sl) - sl); rw [own_e1]; exact own_irr _) (by show ¬ (tt2 < (tt1 + sl) - sl); rw [own_e1]; exact own_asym hup)) hZ (hw _ (List.mem_of_getElem? (i := 46) rfl)) (hw _ (List.mem_of_getElem? (i := 4) rfl)) (by decide) (by decide)) q21a q21c (g := (mkF m 114 #[.val (.long p1), .second, .val (.long p2), .second, .val (.long p3), .second, .val (.long p4), .second, .val (.int p5), .val (.int p6), .val (.int (2 : Int32)), .val (.int (3 : Int32)), .val (.int (1 : Int32)), .val (.long sl), .second, .val (.long tt1), .second, .val (.long tt2), .second, .val (.ref b1), .unset, .unset, .unset, .unset, .unset, .unset] [(.long (tt1 + sl)), (.long p4), (.ref b1)])) rfl (by rw [hml]; rfl) (Steps.refl _) (argsL := [(.long p4), (.long (tt1 + sl))]) (rest := []) (lenOf pd_3 rfl) rfl (by show 2 * 0 + _ ≤ _; exact Nat.le_of_eq rfl) (hb hby at_114) (fun _ _ => ⟨rfl, rfl, (by decide : 3 + 0 ≤ _), (by decide : 13 + 0 ≤ _)⟩)
  dsimp only [Pt.U, Pt.locs, Pt.cells, Pt.slots] at X21 l21 y21 z21 st21 hQ21
  subst l21 y21 z21
  obtain ⟨rfl, N21q, e21q⟩ := hQ21
  have N21 := Fr.app N16 N21q
  obtain ⟨cq29, kq29, q29a, q29b, q29c⟩ := isOf hZ e21q f22_E_b1
  obtain ⟨_, _, ⟨T29, L29, k29, n29⟩, -, X29, ⟨Lc29, hQ29, l29, y29, z29⟩, st29⟩ := X21.virtualBack hx (y := (⟨"stillmark/StableTimes", "raise", "(JJ)J"⟩ : MethodName)) (z := (⟨"stillmark/StableTimes", "raise", "(JJ)J"⟩ : MethodName)) hown (mvT hZ (hw _ (List.mem_of_getElem? (i := 42) rfl))) (mvT hZ (hw _ (List.mem_of_getElem? (i := 43) rfl))) (notFace_of_selects (args := #[]) (mvT hZ (hw _ (List.mem_of_getElem? (i := 45) rfl)))) (mvT hZ (hw _ (List.mem_of_getElem? (i := 45) rfl))) (mvT hZ (hw _ (List.mem_of_getElem? (i := 44) rfl))) (by decide) (backOf (W := 0) (rm7_2 l Z a0 hw [] b1 p4 ((tt1 + sl) + (1 : Int64)) sl t_e2 u_e2 (own_set (own_set (own_set (own_set (fun _ => (-9223372036854775808 : Int64)) 2 p1) 3 p2) 1 p3) 2 (-9223372036854775808 : Int64)) (own_set (own_set (own_set (own_set (fun _ => (0 : Int64)) 2 (0 : Int64)) 3 tt2) 1 tt2) 2 tt1) (T16.heap) n0 sz28 f22_E_b1 f23_F_b1_own f24_F_b1_silence f25_F_b1_heard p16_2 f26_F_b1_majority f27_F_b1_told p16_1 (by show ¬ (tt2 < ((tt1 + sl) + 1) - sl); rw [own_e2, ← h_tt2]; exact own_irr _) (by show (tt1 < ((tt1 + sl) + 1) - sl); rw [own_e2, ← h_tt2]; exact hup) (by show ¬ (tt2 < ((tt1 + sl) + 1) - sl); rw [own_e2, ← h_tt2]; exact own_irr _)) hZ (hw _ (List.mem_of_getElem? (i := 46) rfl)) (hw _ (List.mem_of_getElem? (i := 4) rfl)) (by decide) (by decide)) q29a q29c (g := (mkF m 130 #[.val (.long p1), .second, .val (.long p2), .second, .val (.long p3), .second, .val (.long p4), .second, .val (.int p5), .val (.int p6), .val (.int (2 : Int32)), .val (.int (3 : Int32)), .val (.int (1 : Int32)), .val (.long sl), .second, .val (.long tt1), .second, .val (.long tt2), .second, .val (.ref b1), .val (.long (-9223372036854775808 : Int64)), .second, .unset, .unset, .unset, .unset] [(.long ((tt1 + sl) + (1 : Int64))), (.long p4), (.ref b1)])) rfl (by rw [hml]; rfl) (Steps.refl _) (argsL := [(.long p4), (.long ((tt1 + sl) + (1 : Int64)))]) (rest := []) (lenOf pd_3 rfl) rfl (by show 2 * 0 + _ ≤ _; exact Nat.le_of_eq rfl) (hb hby at_130) (fun _ _ => ⟨rfl, e21q, (by decide : 3 + 0 ≤ _), (by decide : 13 + 0 ≤ _)⟩)
  dsimp only [Pt.U, Pt.locs, Pt.cells, Pt.slots] at X29 l29 y29 z29 st29 hQ29
  subst l29 y29 z29
  obtain ⟨rfl, N29q, e29q⟩ := hQ29
  have N29 := Fr.app N21 N29q
  obtain ⟨_, _, ⟨T30, L30, k30, n30⟩, -, X30, ⟨Lc30, hQ30, l30, y30, z30⟩, st30⟩ := Jvm.LawKit.callS X29 hx (y := (⟨"java/lang/Math", "min", "(JJ)J"⟩ : MethodName)) hown (mvT hZ (hw _ (List.mem_of_getElem? (i := 56) rfl))) (mvT hZ (hw _ (List.mem_of_getElem? (i := 52) rfl))) (mvT hZ (hw _ (List.mem_of_getElem? (i := 53) rfl))) (mvT hZ (hw _ (List.mem_of_getElem? (i := 54) rfl))) (by decide) (backOf (W := 4) (rm9 l Z a0 hw [] p2 p3 (T16.heap) n0 sz28 ) hZ (hw _ (List.mem_of_getElem? (i := 54) rfl)) (hw _ (List.mem_of_getElem? (i := 53) rfl)) (by decide) (by decide)) (g := (mkF m 158 #[.val (.long p1), .second, .val (.long p2), .second, .val (.long p3), .second, .val (.long p4), .second, .val (.int p5), .val (.int p6), .val (.int (2 : Int32)), .val (.int (3 : Int32)), .val (.int (1 : Int32)), .val (.long sl), .second, .val (.long tt1), .second, .val (.long tt2), .second, .val (.ref b1), .val (.long (-9223372036854775808 : Int64)), .second, .val (.long (own_min (own_min p4 p3) p2)), .second, .val (.int (1 : Int32)), .unset] [(.long p3), (.long p2), (.long p4), (.long (own_min (own_min p4 p3) p2))])) rfl (by rw [hml]; rfl) (argsL := [(.long p2), (.long p3)]) (rest := [(.long p4), (.long (own_min (own_min p4 p3) p2))]) (lenOf pd_3 rfl) rfl (by show 2 * 0 + _ ≤ _; exact Nat.le_of_eq rfl) (hb hby at_158) (fun _ _ => ⟨rfl, e29q, (by decide : 3 + 0 ≤ _), (by decide : 13 + 0 ≤ _)⟩)
  dsimp only [Pt.U, Pt.locs, Pt.cells, Pt.slots] at X30 l30 y30 z30 st30 hQ30
  subst l30 y30 z30
  obtain ⟨rfl, N30q, e30q⟩ := hQ30
  have N30 := Fr.app N29 N30q
  obtain ⟨_, _, ⟨T31, L31, k31, n31⟩, -, X31, ⟨Lc31, hQ31, l31, y31, z31⟩, st31⟩ := Jvm.LawKit.callS X30 hx (y := (⟨"java/lang/Math", "min", "(JJ)J"⟩ : MethodName)) hown (mvT hZ (hw _ (List.mem_of_getElem? (i := 56) rfl))) (mvT hZ (hw _ (List.mem_of_getElem? (i := 52) rfl))) (mvT hZ (hw _ (List.mem_of_getElem? (i := 53) rfl))) (mvT hZ (hw _ (List.mem_of_getElem? (i := 54) rfl))) (by decide) (backOf (W := 2) (rm9 l Z a0 hw [] p4 (own_min p2 p3) (T16.heap) n0 sz28 ) hZ (hw _ (List.mem_of_getElem? (i := 54) rfl)) (hw _ (List.mem_of_getElem? (i := 53) rfl)) (by decide) (by decide)) (g := (mkF m 161 #[.val (.long p1), .second, .val (.long p2), .second, .val (.long p3), .second, .val (.long p4), .second, .val (.int p5), .val (.int p6), .val (.int (2 : Int32)), .val (.int (3 : Int32)), .val (.int (1 : Int32)), .val (.long sl), .second, .val (.long tt1), .second, .val (.long tt2), .second, .val (.ref b1), .val (.long (-9223372036854775808 : Int64)), .second, .val (.long (own_min (own_min p4 p3) p2)), .second, .val (.int (1 : Int32)), .unset] [(.long (own_min p2 p3)), (.long p4), (.long (own_min (own_min p4 p3) p2))])) rfl (by rw [hml]; rfl) (argsL := [(.long p4), (.long (own_min p2 p3))]) (rest := [(.long (own_min (own_min p4 p3) p2))]) (lenOf pd_3 rfl) rfl (by show 2 * 0 + _ ≤ _; exact Nat.le_of_eq rfl) (hb hby at_161) (fun _ _ => ⟨rfl, e30q, (by decide : 3 + 0 ≤ _), (by decide : 13 + 0 ≤ _)⟩)
  dsimp only [Pt.U, Pt.locs, Pt.cells, Pt.slots] at X31 l31 y31 z31 st31 hQ31
  subst l31 y31 z31
  obtain ⟨rfl, N31q, e31q⟩ := hQ31
  have N31 := Fr.app N30 N31q
  obtain ⟨fs, hr, hrun, hended, hW, hsame⟩ := X31.leave (v := some (.int (1 : Int32))) (fun h => by rw [Bd.returns] at h; cases h)
  refine ⟨_, _, pre0 _ ?_, hrun, hended, _, _, rfl, ?_, ⟨_, rfl⟩, hW, hsame.mono (by decide) (by decide)⟩
  · show Steps p.tables e below (s₁.setTop (mkF m 0 #[.val (.long p1), .second, .val (.long p2), .second, .val (.long p3), .second, .val (.long p4), .second, .val (.int p5), .val (.int p6), .unset, .unset, .unset, .unset, .unset, .unset, .unset, .unset, .unset, .unset, .unset, .unset, .unset, .unset, .unset, .unset] [])) _
    refine XS.iconst X0.here hx rfl (hb hby at_0) ?_
    show Steps p.tables e below (s₁.setTop (mkF m 1 #[.val (.long p1), .second, .val (.long p2), .second, .val (.long p3), .second, .val (.long p4), .second, .val (.int p5), .val (.int p6), .unset, .unset, .unset, .unset, .unset, .unset, .unset, .unset, .unset, .unset, .unset, .unset, .unset, .unset, .unset, .unset] [(.int (1 : Int32))])) _
    refine XS.iload X0.here hx rfl (hb hby at_1) rfl ?_
    show Steps p.tables e below (s₁.setTop (mkF m 3 #[.val (.long p1), .second, .val (.long p2), .second, .val (.long p3), .second, .val (.long p4), .second, .val (.int p5), .val (.int p6), .unset, .unset, .unset, .unset, .unset, .unset, .unset, .unset, .unset, .unset, .unset, .unset, .unset, .unset, .unset, .unset] [(.int p5), (.int (1 : Int32))])) _
    refine XS.iconst X0.here hx rfl (hb hby at_3) ?_
    show Steps p.tables e below (s₁.setTop (mkF m 4 #[.val (.long p1), .second, .val (.long p2), .second, .val (.long p3), .second, .val (.long p4), .second, .val (.int p5), .val (.int p6), .unset, .unset, .unset, .unset, .unset, .unset, .unset, .unset, .unset, .unset, .unset, .unset, .unset, .unset, .unset, .unset] [(.int (3 : Int32)), (.int p5), (.int (1 : Int32))])) _
    refine XS.iand X0.here hx rfl (hb hby at_4) rfl ?_
    show Steps p.tables e below (s₁.setTop (mkF m 5 #[.val (.long p1), .second, .val (.long p2), .second, .val (.long p3), .second, .val (.long p4), .second, .val (.int p5), .val (.int p6), .unset, .unset, .unset, .unset, .unset, .unset, .unset, .unset, .unset, .unset, .unset, .unset, .unset, .unset, .unset, .unset] [(.int (p5 &&& (3 : Int32))), (.int (1 : Int32))])) _
    rw [hk]
    show Steps p.tables e below (s₁.setTop (mkF m 5 #[.val (.long p1), .second, .val (.long p2), .second, .val (.long p3), .second, .val (.long p4), .second, .val (.int p5), .val (.int p6), .unset, .unset, .unset, .unset, .unset, .unset, .unset, .unset, .unset, .unset, .unset, .unset, .unset, .unset, .unset, .unset] [(.int (1 : Int32)), (.int (1 : Int32))])) _
    refine XS.iconst X0.here hx rfl (hb hby at_5) ?_
    show Steps p.tables e below (s₁.setTop (mkF m 6 #[.val (.long p1), .second, .val (.long p2), .second, .val (.long p3), .second, .val (.long p4), .second, .val (.int p5), .val (.int p6), .unset, .unset, .unset, .unset, .unset, .unset, .unset, .unset, .unset, .unset, .unset, .unset, .unset, .unset, .unset, .unset] [(.int (3 : Int32)), (.int (1 : Int32)), (.int (1 : Int32))])) _
    refine XS.irem X0.here hx rfl (hb hby at_6) rfl (by decide) ?_
    show Steps p.tables e below (s₁.setTop (mkF m 7 #[.val (.long p1), .second, .val (.long p2), .second, .val (.long p3), .second, .val (.long p4), .second, .val (.int p5), .val (.int p6), .unset, .unset, .unset, .unset, .unset, .unset, .unset, .unset, .unset, .unset, .unset, .unset, .unset, .unset, .unset, .unset] [(.int ((1 : Int32) - ((1 : Int32) / (3 : Int32)) * (3 : Int32))), (.int (1 : Int32))])) _
    rw [show (((1 : Int32) - ((1 : Int32) / (3 : Int32)) * (3 : Int32)) : Int32) = (1 : Int32) from by decide]
    show Steps p.tables e below (s₁.setTop (mkF m 7 #[.val (.long p1), .second, .val (.long p2), .second, .val (.long p3), .second, .val (.long p4), .second, .val (.int p5), .val (.int p6), .unset, .unset, .unset, .unset, .unset, .unset, .unset, .unset, .unset, .unset, .unset, .unset, .unset, .unset, .unset, .unset] [(.int (1 : Int32)), (.int (1 : Int32))])) _
    refine XS.iadd X0.here hx rfl (hb hby at_7) rfl ?_
    show Steps p.tables e below (s₁.setTop (mkF m 8 #[.val (.long p1), .second, .val (.long p2), .second, .val (.long p3), .second, .val (.long p4), .second, .val (.int p5), .val (.int p6), .unset, .unset, .unset, .unset, .unset, .unset, .unset, .unset, .unset, .unset, .unset, .unset, .unset, .unset, .unset, .unset] [(.int ((1 : Int32) + (1 : Int32)))])) _
    rw [show (((1 : Int32) + (1 : Int32)) : Int32) = (2 : Int32) from by decide]
    show Steps p.tables e below (s₁.setTop (mkF m 8 #[.val (.long p1), .second, .val (.long p2), .second, .val (.long p3), .second, .val (.long p4), .second, .val (.int p5), .val (.int p6), .unset, .unset, .unset, .unset, .unset, .unset, .unset, .unset, .unset, .unset, .unset, .unset, .unset, .unset, .unset, .unset] [(.int (2 : Int32))])) _
    refine XS.istore X0.here hx rfl (hb hby at_8) rfl (l' := #[.val (.long p1), .second, .val (.long p2), .second, .val (.long p3), .second, .val (.long p4), .second, .val (.int p5), .val (.int p6), .val (.int (2 : Int32)), .unset, .unset, .unset, .unset, .unset, .unset, .unset, .unset, .unset, .unset, .unset, .unset, .unset, .unset, .unset]) rfl ?_
    show Steps p.tables e below (s₁.setTop (mkF m 10 #[.val (.long p1), .second, .val (.long p2), .second, .val (.long p3), .second, .val (.long p4), .second, .val (.int p5), .val (.int p6), .val (.int (2 : Int32)), .unset, .unset, .unset, .unset, .unset, .unset, .unset, .unset, .unset, .unset, .unset, .unset, .unset, .unset, .unset] [])) _
    refine XS.iload X0.here hx rfl (hb hby at_10) rfl ?_
    show Steps p.tables e below (s₁.setTop (mkF m 12 #[.val (.long p1), .second, .val (.long p2), .second, .val (.long p3), .second, .val (.long p4), .second, .val (.int p5), .val (.int p6), .val (.int (2 : Int32)), .unset, .unset, .unset, .unset, .unset, .unset, .unset, .unset, .unset, .unset, .unset, .unset, .unset, .unset, .unset] [(.int (2 : Int32))])) _
    refine XS.iconst X0.here hx rfl (hb hby at_12) ?_
    show Steps p.tables e below (s₁.setTop (mkF m 13 #[.val (.long p1), .second, .val (.long p2), .second, .val (.long p3), .second, .val (.long p4), .second, .val (.int p5), .val (.int p6), .val (.int (2 : Int32)), .unset, .unset, .unset, .unset, .unset, .unset, .unset, .unset, .unset, .unset, .unset, .unset, .unset, .unset, .unset] [(.int (3 : Int32)), (.int (2 : Int32))])) _
    refine XS.irem X0.here hx rfl (hb hby at_13) rfl (by decide) ?_
    show Steps p.tables e below (s₁.setTop (mkF m 14 #[.val (.long p1), .second, .val (.long p2), .second, .val (.long p3), .second, .val (.long p4), .second, .val (.int p5), .val (.int p6), .val (.int (2 : Int32)), .unset, .unset, .unset, .unset, .unset, .unset, .unset, .unset, .unset, .unset, .unset, .unset, .unset, .unset, .unset] [(.int ((2 : Int32) - ((2 : Int32) / (3 : Int32)) * (3 : Int32)))])) _
    rw [show (((2 : Int32) - ((2 : Int32) / (3 : Int32)) * (3 : Int32)) : Int32) = (2 : Int32) from by decide]
    show Steps p.tables e below (s₁.setTop (mkF m 14 #[.val (.long p1), .second, .val (.long p2), .second, .val (.long p3), .second, .val (.long p4), .second, .val (.int p5), .val (.int p6), .val (.int (2 : Int32)), .unset, .unset, .unset, .unset, .unset, .unset, .unset, .unset, .unset, .unset, .unset, .unset, .unset, .unset, .unset] [(.int (2 : Int32))])) _
    refine XS.iconst X0.here hx rfl (hb hby at_14) ?_
    show Steps p.tables e below (s₁.setTop (mkF m 15 #[.val (.long p1), .second, .val (.long p2), .second, .val (.long p3), .second, .val (.long p4), .second, .val (.int p5), .val (.int p6), .val (.int (2 : Int32)), .unset, .unset, .unset, .unset, .unset, .unset, .unset, .unset, .unset, .unset, .unset, .unset, .unset, .unset, .unset] [(.int (1 : Int32)), (.int (2 : Int32))])) _
    refine XS.iadd X0.here hx rfl (hb hby at_15) rfl ?_
    show Steps p.tables e below (s₁.setTop (mkF m 16 #[.val (.long p1), .second, .val (.long p2), .second, .val (.long p3), .second, .val (.long p4), .second, .val (.int p5), .val (.int p6), .val (.int (2 : Int32)), .unset, .unset, .unset, .unset, .unset, .unset, .unset, .unset, .unset, .unset, .unset, .unset, .unset, .unset, .unset] [(.int ((2 : Int32) + (1 : Int32)))])) _
    rw [show (((2 : Int32) + (1 : Int32)) : Int32) = (3 : Int32) from by decide]
    show Steps p.tables e below (s₁.setTop (mkF m 16 #[.val (.long p1), .second, .val (.long p2), .second, .val (.long p3), .second, .val (.long p4), .second, .val (.int p5), .val (.int p6), .val (.int (2 : Int32)), .unset, .unset, .unset, .unset, .unset, .unset, .unset, .unset, .unset, .unset, .unset, .unset, .unset, .unset, .unset] [(.int (3 : Int32))])) _
    refine XS.istore X0.here hx rfl (hb hby at_16) rfl (l' := #[.val (.long p1), .second, .val (.long p2), .second, .val (.long p3), .second, .val (.long p4), .second, .val (.int p5), .val (.int p6), .val (.int (2 : Int32)), .val (.int (3 : Int32)), .unset, .unset, .unset, .unset, .unset, .unset, .unset, .unset, .unset, .unset, .unset, .unset, .unset, .unset]) rfl ?_
    show Steps p.tables e below (s₁.setTop (mkF m 18 #[.val (.long p1), .second, .val (.long p2), .second, .val (.long p3), .second, .val (.long p4), .second, .val (.int p5), .val (.int p6), .val (.int (2 : Int32)), .val (.int (3 : Int32)), .unset, .unset, .unset, .unset, .unset, .unset, .unset, .unset, .unset, .unset, .unset, .unset, .unset, .unset] [])) _
    refine XS.iload X0.here hx rfl (hb hby at_18) rfl ?_
    show Steps p.tables e below (s₁.setTop (mkF m 20 #[.val (.long p1), .second, .val (.long p2), .second, .val (.long p3), .second, .val (.long p4), .second, .val (.int p5), .val (.int p6), .val (.int (2 : Int32)), .val (.int (3 : Int32)), .unset, .unset, .unset, .unset, .unset, .unset, .unset, .unset, .unset, .unset, .unset, .unset, .unset, .unset] [(.int (3 : Int32))])) _
    refine XS.iconst X0.here hx rfl (hb hby at_20) ?_
    show Steps p.tables e below (s₁.setTop (mkF m 21 #[.val (.long p1), .second, .val (.long p2), .second, .val (.long p3), .second, .val (.long p4), .second, .val (.int p5), .val (.int p6), .val (.int (2 : Int32)), .val (.int (3 : Int32)), .unset, .unset, .unset, .unset, .unset, .unset, .unset, .unset, .unset, .unset, .unset, .unset, .unset, .unset] [(.int (3 : Int32)), (.int (3 : Int32))])) _
    refine XS.irem X0.here hx rfl (hb hby at_21) rfl (by decide) ?_
    show Steps p.tables e below (s₁.setTop (mkF m 22 #[.val (.long p1), .second, .val (.long p2), .second, .val (.long p3), .second, .val (.long p4), .second, .val (.int p5), .val (.int p6), .val (.int (2 : Int32)), .val (.int (3 : Int32)), .unset, .unset, .unset, .unset, .unset, .unset, .unset, .unset, .unset, .unset, .unset, .unset, .unset, .unset] [(.int ((3 : Int32) - ((3 : Int32) / (3 : Int32)) * (3 : Int32)))])) _
    rw [show (((3 : Int32) - ((3 : Int32) / (3 : Int32)) * (3 : Int32)) : Int32) = (0 : Int32) from by decide]
    show Steps p.tables e below (s₁.setTop (mkF m 22 #[.val (.long p1), .second, .val (.long p2), .second, .val (.long p3), .second, .val (.long p4), .second, .val (.int p5), .val (.int p6), .val (.int (2 : Int32)), .val (.int (3 : Int32)), .unset, .unset, .unset, .unset, .unset, .unset, .unset, .unset, .unset, .unset, .unset, .unset, .unset, .unset] [(.int (0 : Int32))])) _
    refine XS.iconst X0.here hx rfl (hb hby at_22) ?_
    show Steps p.tables e below (s₁.setTop (mkF m 23 #[.val (.long p1), .second, .val (.long p2), .second, .val (.long p3), .second, .val (.long p4), .second, .val (.int p5), .val (.int p6), .val (.int (2 : Int32)), .val (.int (3 : Int32)), .unset, .unset, .unset, .unset, .unset, .unset, .unset, .unset, .unset, .unset, .unset, .unset, .unset, .unset] [(.int (1 : Int32)), (.int (0 : Int32))])) _
    refine XS.iadd X0.here hx rfl (hb hby at_23) rfl ?_
    show Steps p.tables e below (s₁.setTop (mkF m 24 #[.val (.long p1), .second, .val (.long p2), .second, .val (.long p3), .second, .val (.long p4), .second, .val (.int p5), .val (.int p6), .val (.int (2 : Int32)), .val (.int (3 : Int32)), .unset, .unset, .unset, .unset, .unset, .unset, .unset, .unset, .unset, .unset, .unset, .unset, .unset, .unset] [(.int ((0 : Int32) + (1 : Int32)))])) _
    rw [show (((0 : Int32) + (1 : Int32)) : Int32) = (1 : Int32) from by decide]
    show Steps p.tables e below (s₁.setTop (mkF m 24 #[.val (.long p1), .second, .val (.long p2), .second, .val (.long p3), .second, .val (.long p4), .second, .val (.int p5), .val (.int p6), .val (.int (2 : Int32)), .val (.int (3 : Int32)), .unset, .unset, .unset, .unset, .unset, .unset, .unset, .unset, .unset, .unset, .unset, .unset, .unset, .unset] [(.int (1 : Int32))])) _
    refine XS.istore X0.here hx rfl (hb hby at_24) rfl (l' := #[.val (.long p1), .second, .val (.long p2), .second, .val (.long p3), .second, .val (.long p4), .second, .val (.int p5), .val (.int p6), .val (.int (2 : Int32)), .val (.int (3 : Int32)), .val (.int (1 : Int32)), .unset, .unset, .unset, .unset, .unset, .unset, .unset, .unset, .unset, .unset, .unset, .unset, .unset]) rfl ?_
    show Steps p.tables e below (s₁.setTop (mkF m 26 #[.val (.long p1), .second, .val (.long p2), .second, .val (.long p3), .second, .val (.long p4), .second, .val (.int p5), .val (.int p6), .val (.int (2 : Int32)), .val (.int (3 : Int32)), .val (.int (1 : Int32)), .unset, .unset, .unset, .unset, .unset, .unset, .unset, .unset, .unset, .unset, .unset, .unset, .unset] [])) _
    refine XS.iload X0.here hx rfl (hb hby at_26) rfl ?_
    show Steps p.tables e below (s₁.setTop (mkF m 28 #[.val (.long p1), .second, .val (.long p2), .second, .val (.long p3), .second, .val (.long p4), .second, .val (.int p5), .val (.int p6), .val (.int (2 : Int32)), .val (.int (3 : Int32)), .val (.int (1 : Int32)), .unset, .unset, .unset, .unset, .unset, .unset, .unset, .unset, .unset, .unset, .unset, .unset, .unset] [(.int p5)])) _
    refine XS.iconst X0.here hx rfl (hb hby at_28) ?_
    show Steps p.tables e below (s₁.setTop (mkF m 29 #[.val (.long p1), .second, .val (.long p2), .second, .val (.long p3), .second, .val (.long p4), .second, .val (.int p5), .val (.int p6), .val (.int (2 : Int32)), .val (.int (3 : Int32)), .val (.int (1 : Int32)), .unset, .unset, .unset, .unset, .unset, .unset, .unset, .unset, .unset, .unset, .unset, .unset, .unset] [(.int (2 : Int32)), (.int p5)])) _
    refine XS.iushr X0.here hx rfl (hb hby at_29) rfl ?_
    show Steps p.tables e below (s₁.setTop (mkF m 30 #[.val (.long p1), .second, .val (.long p2), .second, .val (.long p3), .second, .val (.long p4), .second, .val (.int p5), .val (.int p6), .val (.int (2 : Int32)), .val (.int (3 : Int32)), .val (.int (1 : Int32)), .unset, .unset, .unset, .unset, .unset, .unset, .unset, .unset, .unset, .unset, .unset, .unset, .unset] [(.int ((p5.toUInt32 >>> ((2 : Int32) &&& 31).toUInt32).toInt32))])) _
    refine X0.ldcInt hx hown (mvT hZ (hw _ (List.mem_of_getElem? (i := 0) rfl))) (g := (mkF m 30 #[.val (.long p1), .second, .val (.long p2), .second, .val (.long p3), .second, .val (.long p4), .second, .val (.int p5), .val (.int p6), .val (.int (2 : Int32)), .val (.int (3 : Int32)), .val (.int (1 : Int32)), .unset, .unset, .unset, .unset, .unset, .unset, .unset, .unset, .unset, .unset, .unset, .unset, .unset] [(.int ((p5.toUInt32 >>> ((2 : Int32) &&& 31).toUInt32).toInt32))])) rfl (hb hby at_30) _ ?_
    show Steps p.tables e below (s₁.setTop (mkF m 32 #[.val (.long p1), .second, .val (.long p2), .second, .val (.long p3), .second, .val (.long p4), .second, .val (.int p5), .val (.int p6), .val (.int (2 : Int32)), .val (.int (3 : Int32)), .val (.int (1 : Int32)), .unset, .unset, .unset, .unset, .unset, .unset, .unset, .unset, .unset, .unset, .unset, .unset, .unset] [(.int (268435455 : Int32)), (.int ((p5.toUInt32 >>> ((2 : Int32) &&& 31).toUInt32).toInt32))])) _
    refine XS.iand X0.here hx rfl (hb hby at_32) rfl ?_
    show Steps p.tables e below (s₁.setTop (mkF m 33 #[.val (.long p1), .second, .val (.long p2), .second, .val (.long p3), .second, .val (.long p4), .second, .val (.int p5), .val (.int p6), .val (.int (2 : Int32)), .val (.int (3 : Int32)), .val (.int (1 : Int32)), .unset, .unset, .unset, .unset, .unset, .unset, .unset, .unset, .unset, .unset, .unset, .unset, .unset] [(.int (((p5.toUInt32 >>> ((2 : Int32) &&& 31).toUInt32).toInt32) &&& (268435455 : Int32)))])) _
    refine XS.i2l X0.here hx rfl (hb hby at_33) rfl ?_
    show Steps p.tables e below (s₁.setTop (mkF m 34 #[.val (.long p1), .second, .val (.long p2), .second, .val (.long p3), .second, .val (.long p4), .second, .val (.int p5), .val (.int p6), .val (.int (2 : Int32)), .val (.int (3 : Int32)), .val (.int (1 : Int32)), .unset, .unset, .unset, .unset, .unset, .unset, .unset, .unset, .unset, .unset, .unset, .unset, .unset] [(.long ((((p5.toUInt32 >>> ((2 : Int32) &&& 31).toUInt32).toInt32) &&& (268435455 : Int32)).toInt64))])) _
    rw [← h_sl]
    show Steps p.tables e below (s₁.setTop (mkF m 34 #[.val (.long p1), .second, .val (.long p2), .second, .val (.long p3), .second, .val (.long p4), .second, .val (.int p5), .val (.int p6), .val (.int (2 : Int32)), .val (.int (3 : Int32)), .val (.int (1 : Int32)), .unset, .unset, .unset, .unset, .unset, .unset, .unset, .unset, .unset, .unset, .unset, .unset, .unset] [(.long sl)])) _
    refine XS.lstore X0.here hx rfl (hb hby at_34) rfl (l' := #[.val (.long p1), .second, .val (.long p2), .second, .val (.long p3), .second, .val (.long p4), .second, .val (.int p5), .val (.int p6), .val (.int (2 : Int32)), .val (.int (3 : Int32)), .val (.int (1 : Int32)), .val (.long sl), .second, .unset, .unset, .unset, .unset, .unset, .unset, .unset, .unset, .unset, .unset, .unset]) rfl ?_
    show Steps p.tables e below (s₁.setTop (mkF m 36 #[.val (.long p1), .second, .val (.long p2), .second, .val (.long p3), .second, .val (.long p4), .second, .val (.int p5), .val (.int p6), .val (.int (2 : Int32)), .val (.int (3 : Int32)), .val (.int (1 : Int32)), .val (.long sl), .second, .unset, .unset, .unset, .unset, .unset, .unset, .unset, .unset, .unset, .unset, .unset] [])) _
    refine XS.iload X0.here hx rfl (hb hby at_36) rfl ?_
    show Steps p.tables e below (s₁.setTop (mkF m 38 #[.val (.long p1), .second, .val (.long p2), .second, .val (.long p3), .second, .val (.long p4), .second, .val (.int p5), .val (.int p6), .val (.int (2 : Int32)), .val (.int (3 : Int32)), .val (.int (1 : Int32)), .val (.long sl), .second, .unset, .unset, .unset, .unset, .unset, .unset, .unset, .unset, .unset, .unset, .unset] [(.int p6)])) _
    refine XS.i2l X0.here hx rfl (hb hby at_38) rfl ?_
    show Steps p.tables e below (s₁.setTop (mkF m 39 #[.val (.long p1), .second, .val (.long p2), .second, .val (.long p3), .second, .val (.long p4), .second, .val (.int p5), .val (.int p6), .val (.int (2 : Int32)), .val (.int (3 : Int32)), .val (.int (1 : Int32)), .val (.long sl), .second, .unset, .unset, .unset, .unset, .unset, .unset, .unset, .unset, .unset, .unset, .unset] [(.long (p6.toInt64))])) _
    refine X0.ldc2Long hx hown (mvT hZ (hw _ (List.mem_of_getElem? (i := 1) rfl))) (g := (mkF m 39 #[.val (.long p1), .second, .val (.long p2), .second, .val (.long p3), .second, .val (.long p4), .second, .val (.int p5), .val (.int p6), .val (.int (2 : Int32)), .val (.int (3 : Int32)), .val (.int (1 : Int32)), .val (.long sl), .second, .unset, .unset, .unset, .unset, .unset, .unset, .unset, .unset, .unset, .unset, .unset] [(.long (p6.toInt64))])) rfl (hb hby at_39) _ ?_
    show Steps p.tables e below (s₁.setTop (mkF m 42 #[.val (.long p1), .second, .val (.long p2), .second, .val (.long p3), .second, .val (.long p4), .second, .val (.int p5), .val (.int p6), .val (.int (2 : Int32)), .val (.int (3 : Int32)), .val (.int (1 : Int32)), .val (.long sl), .second, .unset, .unset, .unset, .unset, .unset, .unset, .unset, .unset, .unset, .unset, .unset] [(.long (2147483647 : Int64)), (.long (p6.toInt64))])) _
    refine XS.land X0.here hx rfl (hb hby at_42) rfl ?_
    show Steps p.tables e below (s₁.setTop (mkF m 43 #[.val (.long p1), .second, .val (.long p2), .second, .val (.long p3), .second, .val (.long p4), .second, .val (.int p5), .val (.int p6), .val (.int (2 : Int32)), .val (.int (3 : Int32)), .val (.int (1 : Int32)), .val (.long sl), .second, .unset, .unset, .unset, .unset, .unset, .unset, .unset, .unset, .unset, .unset, .unset] [(.long ((p6.toInt64) &&& (2147483647 : Int64)))])) _
    rw [← h_tt1]
    show Steps p.tables e below (s₁.setTop (mkF m 43 #[.val (.long p1), .second, .val (.long p2), .second, .val (.long p3), .second, .val (.long p4), .second, .val (.int p5), .val (.int p6), .val (.int (2 : Int32)), .val (.int (3 : Int32)), .val (.int (1 : Int32)), .val (.long sl), .second, .unset, .unset, .unset, .unset, .unset, .unset, .unset, .unset, .unset, .unset, .unset] [(.long tt1)])) _
    refine XS.lstore X0.here hx rfl (hb hby at_43) rfl (l' := #[.val (.long p1), .second, .val (.long p2), .second, .val (.long p3), .second, .val (.long p4), .second, .val (.int p5), .val (.int p6), .val (.int (2 : Int32)), .val (.int (3 : Int32)), .val (.int (1 : Int32)), .val (.long sl), .second, .val (.long tt1), .second, .unset, .unset, .unset, .unset, .unset, .unset, .unset, .unset, .unset]) rfl ?_
    show Steps p.tables e below (s₁.setTop (mkF m 45 #[.val (.long p1), .second, .val (.long p2), .second, .val (.long p3), .second, .val (.long p4), .second, .val (.int p5), .val (.int p6), .val (.int (2 : Int32)), .val (.int (3 : Int32)), .val (.int (1 : Int32)), .val (.long sl), .second, .val (.long tt1), .second, .unset, .unset, .unset, .unset, .unset, .unset, .unset, .unset, .unset] [])) _
    refine XS.lload X0.here hx rfl (hb hby at_45) rfl ?_
    show Steps p.tables e below (s₁.setTop (mkF m 47 #[.val (.long p1), .second, .val (.long p2), .second, .val (.long p3), .second, .val (.long p4), .second, .val (.int p5), .val (.int p6), .val (.int (2 : Int32)), .val (.int (3 : Int32)), .val (.int (1 : Int32)), .val (.long sl), .second, .val (.long tt1), .second, .unset, .unset, .unset, .unset, .unset, .unset, .unset, .unset, .unset] [(.long tt1)])) _
    refine XS.lconst X0.here hx rfl (hb hby at_47) ?_
    show Steps p.tables e below (s₁.setTop (mkF m 48 #[.val (.long p1), .second, .val (.long p2), .second, .val (.long p3), .second, .val (.long p4), .second, .val (.int p5), .val (.int p6), .val (.int (2 : Int32)), .val (.int (3 : Int32)), .val (.int (1 : Int32)), .val (.long sl), .second, .val (.long tt1), .second, .unset, .unset, .unset, .unset, .unset, .unset, .unset, .unset, .unset] [(.long (1 : Int64)), (.long tt1)])) _
    refine XS.ladd X0.here hx rfl (hb hby at_48) rfl ?_
    show Steps p.tables e below (s₁.setTop (mkF m 49 #[.val (.long p1), .second, .val (.long p2), .second, .val (.long p3), .second, .val (.long p4), .second, .val (.int p5), .val (.int p6), .val (.int (2 : Int32)), .val (.int (3 : Int32)), .val (.int (1 : Int32)), .val (.long sl), .second, .val (.long tt1), .second, .unset, .unset, .unset, .unset, .unset, .unset, .unset, .unset, .unset] [(.long (tt1 + (1 : Int64)))])) _
    rw [← h_tt2]
    show Steps p.tables e below (s₁.setTop (mkF m 49 #[.val (.long p1), .second, .val (.long p2), .second, .val (.long p3), .second, .val (.long p4), .second, .val (.int p5), .val (.int p6), .val (.int (2 : Int32)), .val (.int (3 : Int32)), .val (.int (1 : Int32)), .val (.long sl), .second, .val (.long tt1), .second, .unset, .unset, .unset, .unset, .unset, .unset, .unset, .unset, .unset] [(.long tt2)])) _
    refine XS.lstore X0.here hx rfl (hb hby at_49) rfl (l' := #[.val (.long p1), .second, .val (.long p2), .second, .val (.long p3), .second, .val (.long p4), .second, .val (.int p5), .val (.int p6), .val (.int (2 : Int32)), .val (.int (3 : Int32)), .val (.int (1 : Int32)), .val (.long sl), .second, .val (.long tt1), .second, .val (.long tt2), .second, .unset, .unset, .unset, .unset, .unset, .unset, .unset]) rfl ?_
    show Steps p.tables e below (s₁.setTop (mkF m 51 #[.val (.long p1), .second, .val (.long p2), .second, .val (.long p3), .second, .val (.long p4), .second, .val (.int p5), .val (.int p6), .val (.int (2 : Int32)), .val (.int (3 : Int32)), .val (.int (1 : Int32)), .val (.long sl), .second, .val (.long tt1), .second, .val (.long tt2), .second, .unset, .unset, .unset, .unset, .unset, .unset, .unset] [])) _
    refine st1 _ ?_
    show Steps p.tables e below (T1.setTop (mkF m 54 #[.val (.long p1), .second, .val (.long p2), .second, .val (.long p3), .second, .val (.long p4), .second, .val (.int p5), .val (.int p6), .val (.int (2 : Int32)), .val (.int (3 : Int32)), .val (.int (1 : Int32)), .val (.long sl), .second, .val (.long tt1), .second, .val (.long tt2), .second, .unset, .unset, .unset, .unset, .unset, .unset, .unset] [(.ref b1)])) _
    refine XS.dup X1.here hx rfl (hb hby at_54) rfl rfl ?_
    show Steps p.tables e below (T1.setTop (mkF m 55 #[.val (.long p1), .second, .val (.long p2), .second, .val (.long p3), .second, .val (.long p4), .second, .val (.int p5), .val (.int p6), .val (.int (2 : Int32)), .val (.int (3 : Int32)), .val (.int (1 : Int32)), .val (.long sl), .second, .val (.long tt1), .second, .val (.long tt2), .second, .unset, .unset, .unset, .unset, .unset, .unset, .unset] [(.ref b1), (.ref b1)])) _
    refine XS.iconst X1.here hx rfl (hb hby at_55) ?_
    show Steps p.tables e below (T1.setTop (mkF m 56 #[.val (.long p1), .second, .val (.long p2), .second, .val (.long p3), .second, .val (.long p4), .second, .val (.int p5), .val (.int p6), .val (.int (2 : Int32)), .val (.int (3 : Int32)), .val (.int (1 : Int32)), .val (.long sl), .second, .val (.long tt1), .second, .val (.long tt2), .second, .unset, .unset, .unset, .unset, .unset, .unset, .unset] [(.int (0 : Int32)), (.ref b1), (.ref b1)])) _
    refine XS.iconst X1.here hx rfl (hb hby at_56) ?_
    show Steps p.tables e below (T1.setTop (mkF m 57 #[.val (.long p1), .second, .val (.long p2), .second, .val (.long p3), .second, .val (.long p4), .second, .val (.int p5), .val (.int p6), .val (.int (2 : Int32)), .val (.int (3 : Int32)), .val (.int (1 : Int32)), .val (.long sl), .second, .val (.long tt1), .second, .val (.long tt2), .second, .unset, .unset, .unset, .unset, .unset, .unset, .unset] [(.int (4 : Int32)), (.int (0 : Int32)), (.ref b1), (.ref b1)])) _
    refine XS.iconst X1.here hx rfl (hb hby at_57) ?_
    show Steps p.tables e below (T1.setTop (mkF m 58 #[.val (.long p1), .second, .val (.long p2), .second, .val (.long p3), .second, .val (.long p4), .second, .val (.int p5), .val (.int p6), .val (.int (2 : Int32)), .val (.int (3 : Int32)), .val (.int (1 : Int32)), .val (.long sl), .second, .val (.long tt1), .second, .val (.long tt2), .second, .unset, .unset, .unset, .unset, .unset, .unset, .unset] [(.int (3 : Int32)), (.int (4 : Int32)), (.int (0 : Int32)), (.ref b1), (.ref b1)])) _
    refine XS.lload X1.here hx rfl (hb hby at_58) rfl ?_
    show Steps p.tables e below (T1.setTop (mkF m 60 #[.val (.long p1), .second, .val (.long p2), .second, .val (.long p3), .second, .val (.long p4), .second, .val (.int p5), .val (.int p6), .val (.int (2 : Int32)), .val (.int (3 : Int32)), .val (.int (1 : Int32)), .val (.long sl), .second, .val (.long tt1), .second, .val (.long tt2), .second, .unset, .unset, .unset, .unset, .unset, .unset, .unset] [(.long sl), (.int (3 : Int32)), (.int (4 : Int32)), (.int (0 : Int32)), (.ref b1), (.ref b1)])) _
    refine XS.lconst X1.here hx rfl (hb hby at_60) ?_
    show Steps p.tables e below (T1.setTop (mkF m 61 #[.val (.long p1), .second, .val (.long p2), .second, .val (.long p3), .second, .val (.long p4), .second, .val (.int p5), .val (.int p6), .val (.int (2 : Int32)), .val (.int (3 : Int32)), .val (.int (1 : Int32)), .val (.long sl), .second, .val (.long tt1), .second, .val (.long tt2), .second, .unset, .unset, .unset, .unset, .unset, .unset, .unset] [(.long (0 : Int64)), (.long sl), (.int (3 : Int32)), (.int (4 : Int32)), (.int (0 : Int32)), (.ref b1), (.ref b1)])) _
    refine st2.trans ?_
    show Steps p.tables e below (T2.setTop (mkF m 64 #[.val (.long p1), .second, .val (.long p2), .second, .val (.long p3), .second, .val (.long p4), .second, .val (.int p5), .val (.int p6), .val (.int (2 : Int32)), .val (.int (3 : Int32)), .val (.int (1 : Int32)), .val (.long sl), .second, .val (.long tt1), .second, .val (.long tt2), .second, .unset, .unset, .unset, .unset, .unset, .unset, .unset] [(.ref b1)])) _
    refine XS.astore X2.here hx rfl (hb hby at_64) rfl rfl (l' := #[.val (.long p1), .second, .val (.long p2), .second, .val (.long p3), .second, .val (.long p4), .second, .val (.int p5), .val (.int p6), .val (.int (2 : Int32)), .val (.int (3 : Int32)), .val (.int (1 : Int32)), .val (.long sl), .second, .val (.long tt1), .second, .val (.long tt2), .second, .val (.ref b1), .unset, .unset, .unset, .unset, .unset, .unset]) rfl ?_
    show Steps p.tables e below (T2.setTop (mkF m 66 #[.val (.long p1), .second, .val (.long p2), .second, .val (.long p3), .second, .val (.long p4), .second, .val (.int p5), .val (.int p6), .val (.int (2 : Int32)), .val (.int (3 : Int32)), .val (.int (1 : Int32)), .val (.long sl), .second, .val (.long tt1), .second, .val (.long tt2), .second, .val (.ref b1), .unset, .unset, .unset, .unset, .unset, .unset] [])) _
    refine XS.aload X2.here hx rfl (hb hby at_66) rfl rfl ?_
    show Steps p.tables e below (T2.setTop (mkF m 68 #[.val (.long p1), .second, .val (.long p2), .second, .val (.long p3), .second, .val (.long p4), .second, .val (.int p5), .val (.int p6), .val (.int (2 : Int32)), .val (.int (3 : Int32)), .val (.int (1 : Int32)), .val (.long sl), .second, .val (.long tt1), .second, .val (.long tt2), .second, .val (.ref b1), .unset, .unset, .unset, .unset, .unset, .unset] [(.ref b1)])) _
    refine XS.iload X2.here hx rfl (hb hby at_68) rfl ?_
    show Steps p.tables e below (T2.setTop (mkF m 70 #[.val (.long p1), .second, .val (.long p2), .second, .val (.long p3), .second, .val (.long p4), .second, .val (.int p5), .val (.int p6), .val (.int (2 : Int32)), .val (.int (3 : Int32)), .val (.int (1 : Int32)), .val (.long sl), .second, .val (.long tt1), .second, .val (.long tt2), .second, .val (.ref b1), .unset, .unset, .unset, .unset, .unset, .unset] [(.int (2 : Int32)), (.ref b1)])) _
    refine XS.lloadN X2.here hx rfl (hb hby at_70) rfl ?_
    show Steps p.tables e below (T2.setTop (mkF m 71 #[.val (.long p1), .second, .val (.long p2), .second, .val (.long p3), .second, .val (.long p4), .second, .val (.int p5), .val (.int p6), .val (.int (2 : Int32)), .val (.int (3 : Int32)), .val (.int (1 : Int32)), .val (.long sl), .second, .val (.long tt1), .second, .val (.long tt2), .second, .val (.ref b1), .unset, .unset, .unset, .unset, .unset, .unset] [(.long p1), (.int (2 : Int32)), (.ref b1)])) _
    refine XS.lconst X2.here hx rfl (hb hby at_71) ?_
    show Steps p.tables e below (T2.setTop (mkF m 72 #[.val (.long p1), .second, .val (.long p2), .second, .val (.long p3), .second, .val (.long p4), .second, .val (.int p5), .val (.int p6), .val (.int (2 : Int32)), .val (.int (3 : Int32)), .val (.int (1 : Int32)), .val (.long sl), .second, .val (.long tt1), .second, .val (.long tt2), .second, .val (.ref b1), .unset, .unset, .unset, .unset, .unset, .unset] [(.long (0 : Int64)), (.long p1), (.int (2 : Int32)), (.ref b1)])) _
    refine st4.trans ?_
    show Steps p.tables e below (T4.setTop (mkF m 75 #[.val (.long p1), .second, .val (.long p2), .second, .val (.long p3), .second, .val (.long p4), .second, .val (.int p5), .val (.int p6), .val (.int (2 : Int32)), .val (.int (3 : Int32)), .val (.int (1 : Int32)), .val (.long sl), .second, .val (.long tt1), .second, .val (.long tt2), .second, .val (.ref b1), .unset, .unset, .unset, .unset, .unset, .unset] [])) _
    refine XS.aload X4.here hx rfl (hb hby at_75) rfl rfl ?_
    show Steps p.tables e below (T4.setTop (mkF m 77 #[.val (.long p1), .second, .val (.long p2), .second, .val (.long p3), .second, .val (.long p4), .second, .val (.int p5), .val (.int p6), .val (.int (2 : Int32)), .val (.int (3 : Int32)), .val (.int (1 : Int32)), .val (.long sl), .second, .val (.long tt1), .second, .val (.long tt2), .second, .val (.ref b1), .unset, .unset, .unset, .unset, .unset, .unset] [(.ref b1)])) _
    refine XS.iload X4.here hx rfl (hb hby at_77) rfl ?_
    show Steps p.tables e below (T4.setTop (mkF m 79 #[.val (.long p1), .second, .val (.long p2), .second, .val (.long p3), .second, .val (.long p4), .second, .val (.int p5), .val (.int p6), .val (.int (2 : Int32)), .val (.int (3 : Int32)), .val (.int (1 : Int32)), .val (.long sl), .second, .val (.long tt1), .second, .val (.long tt2), .second, .val (.ref b1), .unset, .unset, .unset, .unset, .unset, .unset] [(.int (3 : Int32)), (.ref b1)])) _
    refine XS.lloadN X4.here hx rfl (hb hby at_79) rfl ?_
    show Steps p.tables e below (T4.setTop (mkF m 80 #[.val (.long p1), .second, .val (.long p2), .second, .val (.long p3), .second, .val (.long p4), .second, .val (.int p5), .val (.int p6), .val (.int (2 : Int32)), .val (.int (3 : Int32)), .val (.int (1 : Int32)), .val (.long sl), .second, .val (.long tt1), .second, .val (.long tt2), .second, .val (.ref b1), .unset, .unset, .unset, .unset, .unset, .unset] [(.long p2), (.int (3 : Int32)), (.ref b1)])) _
    refine XS.lload X4.here hx rfl (hb hby at_80) rfl ?_
    show Steps p.tables e below (T4.setTop (mkF m 82 #[.val (.long p1), .second, .val (.long p2), .second, .val (.long p3), .second, .val (.long p4), .second, .val (.int p5), .val (.int p6), .val (.int (2 : Int32)), .val (.int (3 : Int32)), .val (.int (1 : Int32)), .val (.long sl), .second, .val (.long tt1), .second, .val (.long tt2), .second, .val (.ref b1), .unset, .unset, .unset, .unset, .unset, .unset] [(.long tt2), (.long p2), (.int (3 : Int32)), (.ref b1)])) _
    refine st6.trans ?_
    show Steps p.tables e below (T6.setTop (mkF m 85 #[.val (.long p1), .second, .val (.long p2), .second, .val (.long p3), .second, .val (.long p4), .second, .val (.int p5), .val (.int p6), .val (.int (2 : Int32)), .val (.int (3 : Int32)), .val (.int (1 : Int32)), .val (.long sl), .second, .val (.long tt1), .second, .val (.long tt2), .second, .val (.ref b1), .unset, .unset, .unset, .unset, .unset, .unset] [])) _
    refine XS.aload X6.here hx rfl (hb hby at_85) rfl rfl ?_
    show Steps p.tables e below (T6.setTop (mkF m 87 #[.val (.long p1), .second, .val (.long p2), .second, .val (.long p3), .second, .val (.long p4), .second, .val (.int p5), .val (.int p6), .val (.int (2 : Int32)), .val (.int (3 : Int32)), .val (.int (1 : Int32)), .val (.long sl), .second, .val (.long tt1), .second, .val (.long tt2), .second, .val (.ref b1), .unset, .unset, .unset, .unset, .unset, .unset] [(.ref b1)])) _
    refine XS.iload X6.here hx rfl (hb hby at_87) rfl ?_
    show Steps p.tables e below (T6.setTop (mkF m 89 #[.val (.long p1), .second, .val (.long p2), .second, .val (.long p3), .second, .val (.long p4), .second, .val (.int p5), .val (.int p6), .val (.int (2 : Int32)), .val (.int (3 : Int32)), .val (.int (1 : Int32)), .val (.long sl), .second, .val (.long tt1), .second, .val (.long tt2), .second, .val (.ref b1), .unset, .unset, .unset, .unset, .unset, .unset] [(.int (1 : Int32)), (.ref b1)])) _
    refine XS.lload X6.here hx rfl (hb hby at_89) rfl ?_
    show Steps p.tables e below (T6.setTop (mkF m 91 #[.val (.long p1), .second, .val (.long p2), .second, .val (.long p3), .second, .val (.long p4), .second, .val (.int p5), .val (.int p6), .val (.int (2 : Int32)), .val (.int (3 : Int32)), .val (.int (1 : Int32)), .val (.long sl), .second, .val (.long tt1), .second, .val (.long tt2), .second, .val (.ref b1), .unset, .unset, .unset, .unset, .unset, .unset] [(.long p3), (.int (1 : Int32)), (.ref b1)])) _
    refine XS.lload X6.here hx rfl (hb hby at_91) rfl ?_
    show Steps p.tables e below (T6.setTop (mkF m 93 #[.val (.long p1), .second, .val (.long p2), .second, .val (.long p3), .second, .val (.long p4), .second, .val (.int p5), .val (.int p6), .val (.int (2 : Int32)), .val (.int (3 : Int32)), .val (.int (1 : Int32)), .val (.long sl), .second, .val (.long tt1), .second, .val (.long tt2), .second, .val (.ref b1), .unset, .unset, .unset, .unset, .unset, .unset] [(.long tt2), (.long p3), (.int (1 : Int32)), (.ref b1)])) _
    refine st11.trans ?_
    show Steps p.tables e below (T11.setTop (mkF m 96 #[.val (.long p1), .second, .val (.long p2), .second, .val (.long p3), .second, .val (.long p4), .second, .val (.int p5), .val (.int p6), .val (.int (2 : Int32)), .val (.int (3 : Int32)), .val (.int (1 : Int32)), .val (.long sl), .second, .val (.long tt1), .second, .val (.long tt2), .second, .val (.ref b1), .unset, .unset, .unset, .unset, .unset, .unset] [])) _
    refine XS.aload X11.here hx rfl (hb hby at_96) rfl rfl ?_
    show Steps p.tables e below (T11.setTop (mkF m 98 #[.val (.long p1), .second, .val (.long p2), .second, .val (.long p3), .second, .val (.long p4), .second, .val (.int p5), .val (.int p6), .val (.int (2 : Int32)), .val (.int (3 : Int32)), .val (.int (1 : Int32)), .val (.long sl), .second, .val (.long tt1), .second, .val (.long tt2), .second, .val (.ref b1), .unset, .unset, .unset, .unset, .unset, .unset] [(.ref b1)])) _
    refine XS.iload X11.here hx rfl (hb hby at_98) rfl ?_
    show Steps p.tables e below (T11.setTop (mkF m 100 #[.val (.long p1), .second, .val (.long p2), .second, .val (.long p3), .second, .val (.long p4), .second, .val (.int p5), .val (.int p6), .val (.int (2 : Int32)), .val (.int (3 : Int32)), .val (.int (1 : Int32)), .val (.long sl), .second, .val (.long tt1), .second, .val (.long tt2), .second, .val (.ref b1), .unset, .unset, .unset, .unset, .unset, .unset] [(.int (2 : Int32)), (.ref b1)])) _
    refine XS.lload X11.here hx rfl (hb hby at_100) rfl ?_
    show Steps p.tables e below (T11.setTop (mkF m 102 #[.val (.long p1), .second, .val (.long p2), .second, .val (.long p3), .second, .val (.long p4), .second, .val (.int p5), .val (.int p6), .val (.int (2 : Int32)), .val (.int (3 : Int32)), .val (.int (1 : Int32)), .val (.long sl), .second, .val (.long tt1), .second, .val (.long tt2), .second, .val (.ref b1), .unset, .unset, .unset, .unset, .unset, .unset] [(.long tt1), (.int (2 : Int32)), (.ref b1)])) _
    refine st16.trans ?_
    show Steps p.tables e below (T16.setTop (mkF m 105 #[.val (.long p1), .second, .val (.long p2), .second, .val (.long p3), .second, .val (.long p4), .second, .val (.int p5), .val (.int p6), .val (.int (2 : Int32)), .val (.int (3 : Int32)), .val (.int (1 : Int32)), .val (.long sl), .second, .val (.long tt1), .second, .val (.long tt2), .second, .val (.ref b1), .unset, .unset, .unset, .unset, .unset, .unset] [])) _
    refine XS.aload X16.here hx rfl (hb hby at_105) rfl rfl ?_
    show Steps p.tables e below (T16.setTop (mkF m 107 #[.val (.long p1), .second, .val (.long p2), .second, .val (.long p3), .second, .val (.long p4), .second, .val (.int p5), .val (.int p6), .val (.int (2 : Int32)), .val (.int (3 : Int32)), .val (.int (1 : Int32)), .val (.long sl), .second, .val (.long tt1), .second, .val (.long tt2), .second, .val (.ref b1), .unset, .unset, .unset, .unset, .unset, .unset] [(.ref b1)])) _
    refine XS.lload X16.here hx rfl (hb hby at_107) rfl ?_
    show Steps p.tables e below (T16.setTop (mkF m 109 #[.val (.long p1), .second, .val (.long p2), .second, .val (.long p3), .second, .val (.long p4), .second, .val (.int p5), .val (.int p6), .val (.int (2 : Int32)), .val (.int (3 : Int32)), .val (.int (1 : Int32)), .val (.long sl), .second, .val (.long tt1), .second, .val (.long tt2), .second, .val (.ref b1), .unset, .unset, .unset, .unset, .unset, .unset] [(.long p4), (.ref b1)])) _
    refine XS.lload X16.here hx rfl (hb hby at_109) rfl ?_
    show Steps p.tables e below (T16.setTop (mkF m 111 #[.val (.long p1), .second, .val (.long p2), .second, .val (.long p3), .second, .val (.long p4), .second, .val (.int p5), .val (.int p6), .val (.int (2 : Int32)), .val (.int (3 : Int32)), .val (.int (1 : Int32)), .val (.long sl), .second, .val (.long tt1), .second, .val (.long tt2), .second, .val (.ref b1), .unset, .unset, .unset, .unset, .unset, .unset] [(.long tt1), (.long p4), (.ref b1)])) _
    refine XS.lload X16.here hx rfl (hb hby at_111) rfl ?_
    show Steps p.tables e below (T16.setTop (mkF m 113 #[.val (.long p1), .second, .val (.long p2), .second, .val (.long p3), .second, .val (.long p4), .second, .val (.int p5), .val (.int p6), .val (.int (2 : Int32)), .val (.int (3 : Int32)), .val (.int (1 : Int32)), .val (.long sl), .second, .val (.long tt1), .second, .val (.long tt2), .second, .val (.ref b1), .unset, .unset, .unset, .unset, .unset, .unset] [(.long sl), (.long tt1), (.long p4), (.ref b1)])) _
    refine XS.ladd X16.here hx rfl (hb hby at_113) rfl ?_
    show Steps p.tables e below (T16.setTop (mkF m 114 #[.val (.long p1), .second, .val (.long p2), .second, .val (.long p3), .second, .val (.long p4), .second, .val (.int p5), .val (.int p6), .val (.int (2 : Int32)), .val (.int (3 : Int32)), .val (.int (1 : Int32)), .val (.long sl), .second, .val (.long tt1), .second, .val (.long tt2), .second, .val (.ref b1), .unset, .unset, .unset, .unset, .unset, .unset] [(.long (tt1 + sl)), (.long p4), (.ref b1)])) _
    refine st21.trans ?_
    show Steps p.tables e below (T21.setTop (mkF m 117 #[.val (.long p1), .second, .val (.long p2), .second, .val (.long p3), .second, .val (.long p4), .second, .val (.int p5), .val (.int p6), .val (.int (2 : Int32)), .val (.int (3 : Int32)), .val (.int (1 : Int32)), .val (.long sl), .second, .val (.long tt1), .second, .val (.long tt2), .second, .val (.ref b1), .unset, .unset, .unset, .unset, .unset, .unset] [(.long (own_min (own_min (own_min p4 ((own_set (own_set (own_set (own_set (fun _ => (-9223372036854775808 : Int64)) 2 p1) 3 p2) 1 p3) 2 (-9223372036854775808 : Int64)) 1)) ((own_set (own_set (own_set (own_set (fun _ => (-9223372036854775808 : Int64)) 2 p1) 3 p2) 1 p3) 2 (-9223372036854775808 : Int64)) 2)) ((own_set (own_set (own_set (own_set (fun _ => (-9223372036854775808 : Int64)) 2 p1) 3 p2) 1 p3) 2 (-9223372036854775808 : Int64)) 3)))])) _
    rw [own_low _ _ _ _ (by first | exact Or.inl rfl | exact Or.inr (Or.inl rfl) | exact Or.inr (Or.inr rfl))]
    show Steps p.tables e below (T21.setTop (mkF m 117 #[.val (.long p1), .second, .val (.long p2), .second, .val (.long p3), .second, .val (.long p4), .second, .val (.int p5), .val (.int p6), .val (.int (2 : Int32)), .val (.int (3 : Int32)), .val (.int (1 : Int32)), .val (.long sl), .second, .val (.long tt1), .second, .val (.long tt2), .second, .val (.ref b1), .unset, .unset, .unset, .unset, .unset, .unset] [(.long (-9223372036854775808 : Int64))])) _
    refine XS.lstore X21.here hx rfl (hb hby at_117) rfl (l' := #[.val (.long p1), .second, .val (.long p2), .second, .val (.long p3), .second, .val (.long p4), .second, .val (.int p5), .val (.int p6), .val (.int (2 : Int32)), .val (.int (3 : Int32)), .val (.int (1 : Int32)), .val (.long sl), .second, .val (.long tt1), .second, .val (.long tt2), .second, .val (.ref b1), .val (.long (-9223372036854775808 : Int64)), .second, .unset, .unset, .unset, .unset]) rfl ?_
    show Steps p.tables e below (T21.setTop (mkF m 119 #[.val (.long p1), .second, .val (.long p2), .second, .val (.long p3), .second, .val (.long p4), .second, .val (.int p5), .val (.int p6), .val (.int (2 : Int32)), .val (.int (3 : Int32)), .val (.int (1 : Int32)), .val (.long sl), .second, .val (.long tt1), .second, .val (.long tt2), .second, .val (.ref b1), .val (.long (-9223372036854775808 : Int64)), .second, .unset, .unset, .unset, .unset] [])) _
    refine XS.aload X21.here hx rfl (hb hby at_119) rfl rfl ?_
    show Steps p.tables e below (T21.setTop (mkF m 121 #[.val (.long p1), .second, .val (.long p2), .second, .val (.long p3), .second, .val (.long p4), .second, .val (.int p5), .val (.int p6), .val (.int (2 : Int32)), .val (.int (3 : Int32)), .val (.int (1 : Int32)), .val (.long sl), .second, .val (.long tt1), .second, .val (.long tt2), .second, .val (.ref b1), .val (.long (-9223372036854775808 : Int64)), .second, .unset, .unset, .unset, .unset] [(.ref b1)])) _
    refine XS.lload X21.here hx rfl (hb hby at_121) rfl ?_
    show Steps p.tables e below (T21.setTop (mkF m 123 #[.val (.long p1), .second, .val (.long p2), .second, .val (.long p3), .second, .val (.long p4), .second, .val (.int p5), .val (.int p6), .val (.int (2 : Int32)), .val (.int (3 : Int32)), .val (.int (1 : Int32)), .val (.long sl), .second, .val (.long tt1), .second, .val (.long tt2), .second, .val (.ref b1), .val (.long (-9223372036854775808 : Int64)), .second, .unset, .unset, .unset, .unset] [(.long p4), (.ref b1)])) _
    refine XS.lload X21.here hx rfl (hb hby at_123) rfl ?_
    show Steps p.tables e below (T21.setTop (mkF m 125 #[.val (.long p1), .second, .val (.long p2), .second, .val (.long p3), .second, .val (.long p4), .second, .val (.int p5), .val (.int p6), .val (.int (2 : Int32)), .val (.int (3 : Int32)), .val (.int (1 : Int32)), .val (.long sl), .second, .val (.long tt1), .second, .val (.long tt2), .second, .val (.ref b1), .val (.long (-9223372036854775808 : Int64)), .second, .unset, .unset, .unset, .unset] [(.long tt1), (.long p4), (.ref b1)])) _
    refine XS.lload X21.here hx rfl (hb hby at_125) rfl ?_
    show Steps p.tables e below (T21.setTop (mkF m 127 #[.val (.long p1), .second, .val (.long p2), .second, .val (.long p3), .second, .val (.long p4), .second, .val (.int p5), .val (.int p6), .val (.int (2 : Int32)), .val (.int (3 : Int32)), .val (.int (1 : Int32)), .val (.long sl), .second, .val (.long tt1), .second, .val (.long tt2), .second, .val (.ref b1), .val (.long (-9223372036854775808 : Int64)), .second, .unset, .unset, .unset, .unset] [(.long sl), (.long tt1), (.long p4), (.ref b1)])) _
    refine XS.ladd X21.here hx rfl (hb hby at_127) rfl ?_
    show Steps p.tables e below (T21.setTop (mkF m 128 #[.val (.long p1), .second, .val (.long p2), .second, .val (.long p3), .second, .val (.long p4), .second, .val (.int p5), .val (.int p6), .val (.int (2 : Int32)), .val (.int (3 : Int32)), .val (.int (1 : Int32)), .val (.long sl), .second, .val (.long tt1), .second, .val (.long tt2), .second, .val (.ref b1), .val (.long (-9223372036854775808 : Int64)), .second, .unset, .unset, .unset, .unset] [(.long (tt1 + sl)), (.long p4), (.ref b1)])) _
    refine XS.lconst X21.here hx rfl (hb hby at_128) ?_
    show Steps p.tables e below (T21.setTop (mkF m 129 #[.val (.long p1), .second, .val (.long p2), .second, .val (.long p3), .second, .val (.long p4), .second, .val (.int p5), .val (.int p6), .val (.int (2 : Int32)), .val (.int (3 : Int32)), .val (.int (1 : Int32)), .val (.long sl), .second, .val (.long tt1), .second, .val (.long tt2), .second, .val (.ref b1), .val (.long (-9223372036854775808 : Int64)), .second, .unset, .unset, .unset, .unset] [(.long (1 : Int64)), (.long (tt1 + sl)), (.long p4), (.ref b1)])) _
    refine XS.ladd X21.here hx rfl (hb hby at_129) rfl ?_
    show Steps p.tables e below (T21.setTop (mkF m 130 #[.val (.long p1), .second, .val (.long p2), .second, .val (.long p3), .second, .val (.long p4), .second, .val (.int p5), .val (.int p6), .val (.int (2 : Int32)), .val (.int (3 : Int32)), .val (.int (1 : Int32)), .val (.long sl), .second, .val (.long tt1), .second, .val (.long tt2), .second, .val (.ref b1), .val (.long (-9223372036854775808 : Int64)), .second, .unset, .unset, .unset, .unset] [(.long ((tt1 + sl) + (1 : Int64))), (.long p4), (.ref b1)])) _
    refine st29.trans ?_
    show Steps p.tables e below (T29.setTop (mkF m 133 #[.val (.long p1), .second, .val (.long p2), .second, .val (.long p3), .second, .val (.long p4), .second, .val (.int p5), .val (.int p6), .val (.int (2 : Int32)), .val (.int (3 : Int32)), .val (.int (1 : Int32)), .val (.long sl), .second, .val (.long tt1), .second, .val (.long tt2), .second, .val (.ref b1), .val (.long (-9223372036854775808 : Int64)), .second, .unset, .unset, .unset, .unset] [(.long (own_min (own_min p4 p3) p2))])) _
    refine XS.lstore X29.here hx rfl (hb hby at_133) rfl (l' := #[.val (.long p1), .second, .val (.long p2), .second, .val (.long p3), .second, .val (.long p4), .second, .val (.int p5), .val (.int p6), .val (.int (2 : Int32)), .val (.int (3 : Int32)), .val (.int (1 : Int32)), .val (.long sl), .second, .val (.long tt1), .second, .val (.long tt2), .second, .val (.ref b1), .val (.long (-9223372036854775808 : Int64)), .second, .val (.long (own_min (own_min p4 p3) p2)), .second, .unset, .unset]) rfl ?_
    show Steps p.tables e below (T29.setTop (mkF m 135 #[.val (.long p1), .second, .val (.long p2), .second, .val (.long p3), .second, .val (.long p4), .second, .val (.int p5), .val (.int p6), .val (.int (2 : Int32)), .val (.int (3 : Int32)), .val (.int (1 : Int32)), .val (.long sl), .second, .val (.long tt1), .second, .val (.long tt2), .second, .val (.ref b1), .val (.long (-9223372036854775808 : Int64)), .second, .val (.long (own_min (own_min p4 p3) p2)), .second, .unset, .unset] [])) _
    refine XS.lload X29.here hx rfl (hb hby at_135) rfl ?_
    show Steps p.tables e below (T29.setTop (mkF m 137 #[.val (.long p1), .second, .val (.long p2), .second, .val (.long p3), .second, .val (.long p4), .second, .val (.int p5), .val (.int p6), .val (.int (2 : Int32)), .val (.int (3 : Int32)), .val (.int (1 : Int32)), .val (.long sl), .second, .val (.long tt1), .second, .val (.long tt2), .second, .val (.ref b1), .val (.long (-9223372036854775808 : Int64)), .second, .val (.long (own_min (own_min p4 p3) p2)), .second, .unset, .unset] [(.long (-9223372036854775808 : Int64))])) _
    refine X29.ldc2Long hx hown (mvT hZ (hw _ (List.mem_of_getElem? (i := 55) rfl))) (g := (mkF m 137 #[.val (.long p1), .second, .val (.long p2), .second, .val (.long p3), .second, .val (.long p4), .second, .val (.int p5), .val (.int p6), .val (.int (2 : Int32)), .val (.int (3 : Int32)), .val (.int (1 : Int32)), .val (.long sl), .second, .val (.long tt1), .second, .val (.long tt2), .second, .val (.ref b1), .val (.long (-9223372036854775808 : Int64)), .second, .val (.long (own_min (own_min p4 p3) p2)), .second, .unset, .unset] [(.long (-9223372036854775808 : Int64))])) rfl (hb hby at_137) _ ?_
    show Steps p.tables e below (T29.setTop (mkF m 140 #[.val (.long p1), .second, .val (.long p2), .second, .val (.long p3), .second, .val (.long p4), .second, .val (.int p5), .val (.int p6), .val (.int (2 : Int32)), .val (.int (3 : Int32)), .val (.int (1 : Int32)), .val (.long sl), .second, .val (.long tt1), .second, .val (.long tt2), .second, .val (.ref b1), .val (.long (-9223372036854775808 : Int64)), .second, .val (.long (own_min (own_min p4 p3) p2)), .second, .unset, .unset] [(.long (-9223372036854775808 : Int64)), (.long (-9223372036854775808 : Int64))])) _
    refine XS.lcmp X29.here hx rfl (hb hby at_140) rfl ?_
    show Steps p.tables e below (T29.setTop (mkF m 141 #[.val (.long p1), .second, .val (.long p2), .second, .val (.long p3), .second, .val (.long p4), .second, .val (.int p5), .val (.int p6), .val (.int (2 : Int32)), .val (.int (3 : Int32)), .val (.int (1 : Int32)), .val (.long sl), .second, .val (.long tt1), .second, .val (.long tt2), .second, .val (.ref b1), .val (.long (-9223372036854775808 : Int64)), .second, .val (.long (own_min (own_min p4 p3) p2)), .second, .unset, .unset] [(.int (lcmpW (-9223372036854775808 : Int64) (-9223372036854775808 : Int64)))])) _
    refine XS.ifNo X29.here hx rfl (hb hby at_141) rfl ((if0 _ _).trans (teq (show (lcmpW (-9223372036854775808 : Int64) (-9223372036854775808 : Int64)) = (0 : Int32) from ((lw_eq _ _).mpr rfl))).2) ?_
    show Steps p.tables e below (T29.setTop (mkF m 144 #[.val (.long p1), .second, .val (.long p2), .second, .val (.long p3), .second, .val (.long p4), .second, .val (.int p5), .val (.int p6), .val (.int (2 : Int32)), .val (.int (3 : Int32)), .val (.int (1 : Int32)), .val (.long sl), .second, .val (.long tt1), .second, .val (.long tt2), .second, .val (.ref b1), .val (.long (-9223372036854775808 : Int64)), .second, .val (.long (own_min (own_min p4 p3) p2)), .second, .unset, .unset] [])) _
    refine XS.iconst X29.here hx rfl (hb hby at_144) ?_
    show Steps p.tables e below (T29.setTop (mkF m 145 #[.val (.long p1), .second, .val (.long p2), .second, .val (.long p3), .second, .val (.long p4), .second, .val (.int p5), .val (.int p6), .val (.int (2 : Int32)), .val (.int (3 : Int32)), .val (.int (1 : Int32)), .val (.long sl), .second, .val (.long tt1), .second, .val (.long tt2), .second, .val (.ref b1), .val (.long (-9223372036854775808 : Int64)), .second, .val (.long (own_min (own_min p4 p3) p2)), .second, .unset, .unset] [(.int (1 : Int32))])) _
    refine XS.goto X29.here hx rfl (pc0 := 145) (pc' := 149) rfl (hb hby at_145) (by decide) (by decide) ?_
    show Steps p.tables e below (T29.setTop (mkF m 149 #[.val (.long p1), .second, .val (.long p2), .second, .val (.long p3), .second, .val (.long p4), .second, .val (.int p5), .val (.int p6), .val (.int (2 : Int32)), .val (.int (3 : Int32)), .val (.int (1 : Int32)), .val (.long sl), .second, .val (.long tt1), .second, .val (.long tt2), .second, .val (.ref b1), .val (.long (-9223372036854775808 : Int64)), .second, .val (.long (own_min (own_min p4 p3) p2)), .second, .unset, .unset] [(.int (1 : Int32))])) _
    refine XS.istore X29.here hx rfl (hb hby at_149) rfl (l' := #[.val (.long p1), .second, .val (.long p2), .second, .val (.long p3), .second, .val (.long p4), .second, .val (.int p5), .val (.int p6), .val (.int (2 : Int32)), .val (.int (3 : Int32)), .val (.int (1 : Int32)), .val (.long sl), .second, .val (.long tt1), .second, .val (.long tt2), .second, .val (.ref b1), .val (.long (-9223372036854775808 : Int64)), .second, .val (.long (own_min (own_min p4 p3) p2)), .second, .val (.int (1 : Int32)), .unset]) rfl ?_
    show Steps p.tables e below (T29.setTop (mkF m 151 #[.val (.long p1), .second, .val (.long p2), .second, .val (.long p3), .second, .val (.long p4), .second, .val (.int p5), .val (.int p6), .val (.int (2 : Int32)), .val (.int (3 : Int32)), .val (.int (1 : Int32)), .val (.long sl), .second, .val (.long tt1), .second, .val (.long tt2), .second, .val (.ref b1), .val (.long (-9223372036854775808 : Int64)), .second, .val (.long (own_min (own_min p4 p3) p2)), .second, .val (.int (1 : Int32)), .unset] [])) _
    refine XS.lload X29.here hx rfl (hb hby at_151) rfl ?_
    show Steps p.tables e below (T29.setTop (mkF m 153 #[.val (.long p1), .second, .val (.long p2), .second, .val (.long p3), .second, .val (.long p4), .second, .val (.int p5), .val (.int p6), .val (.int (2 : Int32)), .val (.int (3 : Int32)), .val (.int (1 : Int32)), .val (.long sl), .second, .val (.long tt1), .second, .val (.long tt2), .second, .val (.ref b1), .val (.long (-9223372036854775808 : Int64)), .second, .val (.long (own_min (own_min p4 p3) p2)), .second, .val (.int (1 : Int32)), .unset] [(.long (own_min (own_min p4 p3) p2))])) _
    refine XS.lload X29.here hx rfl (hb hby at_153) rfl ?_
    show Steps p.tables e below (T29.setTop (mkF m 155 #[.val (.long p1), .second, .val (.long p2), .second, .val (.long p3), .second, .val (.long p4), .second, .val (.int p5), .val (.int p6), .val (.int (2 : Int32)), .val (.int (3 : Int32)), .val (.int (1 : Int32)), .val (.long sl), .second, .val (.long tt1), .second, .val (.long tt2), .second, .val (.ref b1), .val (.long (-9223372036854775808 : Int64)), .second, .val (.long (own_min (own_min p4 p3) p2)), .second, .val (.int (1 : Int32)), .unset] [(.long p4), (.long (own_min (own_min p4 p3) p2))])) _
    refine XS.lloadN X29.here hx rfl (hb hby at_155) rfl ?_
    show Steps p.tables e below (T29.setTop (mkF m 156 #[.val (.long p1), .second, .val (.long p2), .second, .val (.long p3), .second, .val (.long p4), .second, .val (.int p5), .val (.int p6), .val (.int (2 : Int32)), .val (.int (3 : Int32)), .val (.int (1 : Int32)), .val (.long sl), .second, .val (.long tt1), .second, .val (.long tt2), .second, .val (.ref b1), .val (.long (-9223372036854775808 : Int64)), .second, .val (.long (own_min (own_min p4 p3) p2)), .second, .val (.int (1 : Int32)), .unset] [(.long p2), (.long p4), (.long (own_min (own_min p4 p3) p2))])) _
    refine XS.lload X29.here hx rfl (hb hby at_156) rfl ?_
    show Steps p.tables e below (T29.setTop (mkF m 158 #[.val (.long p1), .second, .val (.long p2), .second, .val (.long p3), .second, .val (.long p4), .second, .val (.int p5), .val (.int p6), .val (.int (2 : Int32)), .val (.int (3 : Int32)), .val (.int (1 : Int32)), .val (.long sl), .second, .val (.long tt1), .second, .val (.long tt2), .second, .val (.ref b1), .val (.long (-9223372036854775808 : Int64)), .second, .val (.long (own_min (own_min p4 p3) p2)), .second, .val (.int (1 : Int32)), .unset] [(.long p3), (.long p2), (.long p4), (.long (own_min (own_min p4 p3) p2))])) _
    refine st30 _ ?_
    show Steps p.tables e below (T30.setTop (mkF m 161 #[.val (.long p1), .second, .val (.long p2), .second, .val (.long p3), .second, .val (.long p4), .second, .val (.int p5), .val (.int p6), .val (.int (2 : Int32)), .val (.int (3 : Int32)), .val (.int (1 : Int32)), .val (.long sl), .second, .val (.long tt1), .second, .val (.long tt2), .second, .val (.ref b1), .val (.long (-9223372036854775808 : Int64)), .second, .val (.long (own_min (own_min p4 p3) p2)), .second, .val (.int (1 : Int32)), .unset] [(.long (own_min p2 p3)), (.long p4), (.long (own_min (own_min p4 p3) p2))])) _
    refine st31 _ ?_
    show Steps p.tables e below (T31.setTop (mkF m 164 #[.val (.long p1), .second, .val (.long p2), .second, .val (.long p3), .second, .val (.long p4), .second, .val (.int p5), .val (.int p6), .val (.int (2 : Int32)), .val (.int (3 : Int32)), .val (.int (1 : Int32)), .val (.long sl), .second, .val (.long tt1), .second, .val (.long tt2), .second, .val (.ref b1), .val (.long (-9223372036854775808 : Int64)), .second, .val (.long (own_min (own_min p4 p3) p2)), .second, .val (.int (1 : Int32)), .unset] [(.long (own_min p4 (own_min p2 p3))), (.long (own_min (own_min p4 p3) p2))])) _
    refine XS.lcmp X31.here hx rfl (hb hby at_164) rfl ?_
    show Steps p.tables e below (T31.setTop (mkF m 165 #[.val (.long p1), .second, .val (.long p2), .second, .val (.long p3), .second, .val (.long p4), .second, .val (.int p5), .val (.int p6), .val (.int (2 : Int32)), .val (.int (3 : Int32)), .val (.int (1 : Int32)), .val (.long sl), .second, .val (.long tt1), .second, .val (.long tt2), .second, .val (.ref b1), .val (.long (-9223372036854775808 : Int64)), .second, .val (.long (own_min (own_min p4 p3) p2)), .second, .val (.int (1 : Int32)), .unset] [(.int (lcmpW (own_min (own_min p4 p3) p2) (own_min p4 (own_min p2 p3))))])) _
    refine XS.ifNo X31.here hx rfl (hb hby at_165) rfl ((if0 _ _).trans (teq (show (lcmpW (own_min (own_min p4 p3) p2) (own_min p4 (own_min p2 p3))) = (0 : Int32) from ((lw_eq _ _).mpr (own_minB p4 p2 p3)))).2) ?_
    show Steps p.tables e below (T31.setTop (mkF m 168 #[.val (.long p1), .second, .val (.long p2), .second, .val (.long p3), .second, .val (.long p4), .second, .val (.int p5), .val (.int p6), .val (.int (2 : Int32)), .val (.int (3 : Int32)), .val (.int (1 : Int32)), .val (.long sl), .second, .val (.long tt1), .second, .val (.long tt2), .second, .val (.ref b1), .val (.long (-9223372036854775808 : Int64)), .second, .val (.long (own_min (own_min p4 p3) p2)), .second, .val (.int (1 : Int32)), .unset] [])) _
    refine XS.iconst X31.here hx rfl (hb hby at_168) ?_
    show Steps p.tables e below (T31.setTop (mkF m 169 #[.val (.long p1), .second, .val (.long p2), .second, .val (.long p3), .second, .val (.long p4), .second, .val (.int p5), .val (.int p6), .val (.int (2 : Int32)), .val (.int (3 : Int32)), .val (.int (1 : Int32)), .val (.long sl), .second, .val (.long tt1), .second, .val (.long tt2), .second, .val (.ref b1), .val (.long (-9223372036854775808 : Int64)), .second, .val (.long (own_min (own_min p4 p3) p2)), .second, .val (.int (1 : Int32)), .unset] [(.int (1 : Int32))])) _
    refine XS.goto X31.here hx rfl (pc0 := 169) (pc' := 173) rfl (hb hby at_169) (by decide) (by decide) ?_
    show Steps p.tables e below (T31.setTop (mkF m 173 #[.val (.long p1), .second, .val (.long p2), .second, .val (.long p3), .second, .val (.long p4), .second, .val (.int p5), .val (.int p6), .val (.int (2 : Int32)), .val (.int (3 : Int32)), .val (.int (1 : Int32)), .val (.long sl), .second, .val (.long tt1), .second, .val (.long tt2), .second, .val (.ref b1), .val (.long (-9223372036854775808 : Int64)), .second, .val (.long (own_min (own_min p4 p3) p2)), .second, .val (.int (1 : Int32)), .unset] [(.int (1 : Int32))])) _
    refine XS.istore X31.here hx rfl (hb hby at_173) rfl (l' := #[.val (.long p1), .second, .val (.long p2), .second, .val (.long p3), .second, .val (.long p4), .second, .val (.int p5), .val (.int p6), .val (.int (2 : Int32)), .val (.int (3 : Int32)), .val (.int (1 : Int32)), .val (.long sl), .second, .val (.long tt1), .second, .val (.long tt2), .second, .val (.ref b1), .val (.long (-9223372036854775808 : Int64)), .second, .val (.long (own_min (own_min p4 p3) p2)), .second, .val (.int (1 : Int32)), .val (.int (1 : Int32))]) rfl ?_
    show Steps p.tables e below (T31.setTop (mkF m 175 #[.val (.long p1), .second, .val (.long p2), .second, .val (.long p3), .second, .val (.long p4), .second, .val (.int p5), .val (.int p6), .val (.int (2 : Int32)), .val (.int (3 : Int32)), .val (.int (1 : Int32)), .val (.long sl), .second, .val (.long tt1), .second, .val (.long tt2), .second, .val (.ref b1), .val (.long (-9223372036854775808 : Int64)), .second, .val (.long (own_min (own_min p4 p3) p2)), .second, .val (.int (1 : Int32)), .val (.int (1 : Int32))] [])) _
    refine XS.iload X31.here hx rfl (hb hby at_175) rfl ?_
    show Steps p.tables e below (T31.setTop (mkF m 177 #[.val (.long p1), .second, .val (.long p2), .second, .val (.long p3), .second, .val (.long p4), .second, .val (.int p5), .val (.int p6), .val (.int (2 : Int32)), .val (.int (3 : Int32)), .val (.int (1 : Int32)), .val (.long sl), .second, .val (.long tt1), .second, .val (.long tt2), .second, .val (.ref b1), .val (.long (-9223372036854775808 : Int64)), .second, .val (.long (own_min (own_min p4 p3) p2)), .second, .val (.int (1 : Int32)), .val (.int (1 : Int32))] [(.int (1 : Int32))])) _
    refine XS.ifNo X31.here hx rfl (hb hby at_177) rfl ((if0 _ _).trans (feq (show ¬ ((1 : Int32) = (0 : Int32)) from (by decide))).1) ?_
    show Steps p.tables e below (T31.setTop (mkF m 180 #[.val (.long p1), .second, .val (.long p2), .second, .val (.long p3), .second, .val (.long p4), .second, .val (.int p5), .val (.int p6), .val (.int (2 : Int32)), .val (.int (3 : Int32)), .val (.int (1 : Int32)), .val (.long sl), .second, .val (.long tt1), .second, .val (.long tt2), .second, .val (.ref b1), .val (.long (-9223372036854775808 : Int64)), .second, .val (.long (own_min (own_min p4 p3) p2)), .second, .val (.int (1 : Int32)), .val (.int (1 : Int32))] [])) _
    refine XS.iload X31.here hx rfl (hb hby at_180) rfl ?_
    show Steps p.tables e below (T31.setTop (mkF m 182 #[.val (.long p1), .second, .val (.long p2), .second, .val (.long p3), .second, .val (.long p4), .second, .val (.int p5), .val (.int p6), .val (.int (2 : Int32)), .val (.int (3 : Int32)), .val (.int (1 : Int32)), .val (.long sl), .second, .val (.long tt1), .second, .val (.long tt2), .second, .val (.ref b1), .val (.long (-9223372036854775808 : Int64)), .second, .val (.long (own_min (own_min p4 p3) p2)), .second, .val (.int (1 : Int32)), .val (.int (1 : Int32))] [(.int (1 : Int32))])) _
    refine XS.ifNo X31.here hx rfl (hb hby at_182) rfl ((if0 _ _).trans (feq (show ¬ ((1 : Int32) = (0 : Int32)) from (by decide))).1) ?_
    show Steps p.tables e below (T31.setTop (mkF m 185 #[.val (.long p1), .second, .val (.long p2), .second, .val (.long p3), .second, .val (.long p4), .second, .val (.int p5), .val (.int p6), .val (.int (2 : Int32)), .val (.int (3 : Int32)), .val (.int (1 : Int32)), .val (.long sl), .second, .val (.long tt1), .second, .val (.long tt2), .second, .val (.ref b1), .val (.long (-9223372036854775808 : Int64)), .second, .val (.long (own_min (own_min p4 p3) p2)), .second, .val (.int (1 : Int32)), .val (.int (1 : Int32))] [])) _
    refine XS.iconst X31.here hx rfl (hb hby at_185) ?_
    show Steps p.tables e below (T31.setTop (mkF m 186 #[.val (.long p1), .second, .val (.long p2), .second, .val (.long p3), .second, .val (.long p4), .second, .val (.int p5), .val (.int p6), .val (.int (2 : Int32)), .val (.int (3 : Int32)), .val (.int (1 : Int32)), .val (.long sl), .second, .val (.long tt1), .second, .val (.long tt2), .second, .val (.ref b1), .val (.long (-9223372036854775808 : Int64)), .second, .val (.long (own_min (own_min p4 p3) p2)), .second, .val (.int (1 : Int32)), .val (.int (1 : Int32))] [(.int (1 : Int32))])) _
    refine XS.goto X31.here hx rfl (pc0 := 186) (pc' := 190) rfl (hb hby at_186) (by decide) (by decide) ?_
    show Steps p.tables e below (T31.setTop (mkF m 190 #[.val (.long p1), .second, .val (.long p2), .second, .val (.long p3), .second, .val (.long p4), .second, .val (.int p5), .val (.int p6), .val (.int (2 : Int32)), .val (.int (3 : Int32)), .val (.int (1 : Int32)), .val (.long sl), .second, .val (.long tt1), .second, .val (.long tt2), .second, .val (.ref b1), .val (.long (-9223372036854775808 : Int64)), .second, .val (.long (own_min (own_min p4 p3) p2)), .second, .val (.int (1 : Int32)), .val (.int (1 : Int32))] [(.int (1 : Int32))])) _
    exact retN X31 hx (t := .boolean) Bd.returns (by simp) (hb hby at_190) hr
  · show Qrm0 Z p1 p2 p3 p4 p5 p6 h0 n0 _ T31.heap _
    rw [e31q]
    exact ⟨rfl, N31⟩
set_option maxRecDepth 65536 in
set_option maxHeartbeats 40000000 in
theorem rm0_2 (l : Launch) (Z : State) (a0 : Array Value) (hw : ∀ d ∈ tables_1, d.before a0 Z = true) (ws : List Jvm.Cond) (p1 : Int64) (p2 : Int64) (p3 : Int64) (p4 : Int64) (p5 : Int32) (p6 : Int32) (h0 : Heap) (n0 : Nat) (Z0 : n0 ≤ h0.size) (hk : (p5 &&& (3 : Int32)) = (2 : Int32)) :
    MetFree l x (head1 (Jvm.Cond.code x code maxLocals ret :: ws) room_1) (fun aa_ U => aa_ = #[(.long p1), (.long p2), (.long p3), (.long p4), (.int p5), (.int p6)] ∧ Z.Warmed39 U.vm ∧ U.heap = h0) (fun _ _ _ _ _ => True) (fun _ U o U' => ∃ v L, o = .returned v ∧ Qrm0 Z p1 p2 p3 p4 p5 p6 h0 n0 v U'.heap L ∧ FrameEnd U o U' L room_1.cells room_1.slots) := by
  refine MetFree.of_bodySF (plainFor_of_name pn_3) hisR ?_
  intro p e s m args below meth c s₁ Bd hml0 hP hK
  obtain ⟨rfl, hZ, hh⟩ := hP
  have hx := Bd.exec
  have hby := Bd.bytes
  have hml : c.maxLocals = 26 := hml0
  have hown : s.vm.findClass "stillmark/StableTimesRestartedPinLaw" = some m.cls := findClass_of_methodNamed Bd.named
  have hnm := (name_of_methodNamed Bd.named Bd.method).1
  have X0 : Stand p l e room_1 s m #[(.long p1), (.long p2), (.long p3), (.long p4), (.int p5), (.int p6)] below meth c s₁ [] 0 0 := Stand.of_body Bd
  have e0 : s₁.heap = h0 := by rw [← hh, Bd.state]; rfl
  have N0 := Fr.nil n0
  have pre0 : ∀ tt_, Steps p.tables e below (s₁.setTop (mkF m 0 #[.val (.long p1), .second, .val (.long p2), .second, .val (.long p3), .second, .val (.long p4), .second, .val (.int p5), .val (.int p6), .unset, .unset, .unset, .unset, .unset, .unset, .unset, .unset, .unset, .unset, .unset, .unset, .unset, .unset, .unset, .unset] [])) tt_ → Steps p.tables e below (s₁.setTop (entryFrame m #[(.long p1), (.long p2), (.long p3), (.long p4), (.int p5), (.int p6)] maxLocals)) tt_ := fun tt_ kk_ => castTop (ef_0 m p1 p2 p3 p4 p5 p6) kk_
  obtain ⟨sl, h_sl⟩ : ∃ zz_ : Int64, zz_ = ((((p5.toUInt32 >>> ((2 : Int32) &&& 31).toUInt32).toInt32) &&& (268435455 : Int32)).toInt64) := ⟨_, rfl⟩
  obtain ⟨tt1, h_tt1⟩ : ∃ zz_ : Int64, zz_ = ((p6.toInt64) &&& (2147483647 : Int64)) := ⟨_, rfl⟩
  obtain ⟨tt2, h_tt2⟩ : ∃ zz_ : Int64, zz_ = (tt1 + (1 : Int64)) := ⟨_, rfl⟩
  have ht1 := own_t p6
  rw [← h_tt1] at ht1
  have hup : tt1 < tt2 := by rw [h_tt2]; exact own_up tt1 ht1
  obtain ⟨T1, h1, X1, e1, E1, A1, D1, -, st1⟩ := newO X0 hx hZ hown (hw _ (List.mem_of_getElem? (i := 2) rfl)) (hw _ (List.mem_of_getElem? (i := 3) rfl)) (hw _ (List.mem_of_getElem? (i := 4) rfl)) e0 (g := (mkF m 51 #[.val (.long p1), .second, .val (.long p2), .second, .val (.long p3), .second, .val (.long p4), .second, .val (.int p5), .val (.int p6), .val (.int (3 : Int32)), .val (.int (1 : Int32)), .val (.int (2 : Int32)), .val (.long sl), .second, .val (.long tt1), .second, .val (.long tt2), .second, .unset, .unset, .unset, .unset, .unset, .unset, .unset] [])) rfl (hb hby at_51) (by decide) (by decide)
  obtain ⟨b1, g1⟩ : ∃ zz_, zz_ = h0.size := ⟨_, rfl⟩
  rw [← g1] at A1 D1 st1
  have g_b1 : n0 ≤ b1 := Nat.le_trans Z0 (Nat.le_of_eq g1.symm)
  have sz_b1 : h0.size ≤ b1 := Nat.le_trans (Keep.refl h0 []).1 (Nat.le_of_eq g1.symm)
  have F_own_b1 : Fld Z h1 b1 "stillmark/StableTimes" "own" "I" (.int (0 : Int32)) := D1 (Or.inr (hw _ (List.mem_of_getElem? (i := 12) rfl))) (ty := .int) (by decide)
  have F_majority_b1 : Fld Z h1 b1 "stillmark/StableTimes" "majority" "I" (.int (0 : Int32)) := D1 (Or.inr (hw _ (List.mem_of_getElem? (i := 14) rfl))) (ty := .int) (by decide)
  have F_silence_b1 : Fld Z h1 b1 "stillmark/StableTimes" "silence" "J" (.long (0 : Int64)) := D1 (Or.inr (hw _ (List.mem_of_getElem? (i := 16) rfl))) (ty := .long) (by decide)
  have F_told_b1 : Fld Z h1 b1 "stillmark/StableTimes" "told" "[J" .null := D1 (Or.inr (hw _ (List.mem_of_getElem? (i := 19) rfl))) (ty := (.array .long)) (by decide)
  have F_heard_b1 : Fld Z h1 b1 "stillmark/StableTimes" "heard" "[J" .null := D1 (Or.inr (hw _ (List.mem_of_getElem? (i := 21) rfl))) (ty := (.array .long)) (by decide)
  have sz3 : n0 ≤ h1.size := (Nat.le_trans Z0 E1.1)
  obtain ⟨_, _, ⟨T2, L2, k2, n2⟩, -, X2, ⟨Lc2, hQ2, l2, y2, z2⟩, st2⟩ := X1.specialBack hx (y := (⟨"stillmark/StableTimes", "<init>", "(IIIJJ)V"⟩ : MethodName)) rfl hown (mvT hZ (hw _ (List.mem_of_getElem? (i := 5) rfl))) (mvT hZ (hw _ (List.mem_of_getElem? (i := 6) rfl))) (mvT hZ (hw _ (List.mem_of_getElem? (i := 7) rfl))) (by decide) (backOf (W := 1) (rm1 l Z a0 hw [] b1 sl (0 : Int64) h1 n0 sz3 A1 F_own_b1 F_majority_b1 F_silence_b1 F_told_b1 F_heard_b1 g_b1) hZ (hw _ (List.mem_of_getElem? (i := 7) rfl)) (hw _ (List.mem_of_getElem? (i := 4) rfl)) (by decide) (by decide)) (g := (mkF m 61 #[.val (.long p1), .second, .val (.long p2), .second, .val (.long p3), .second, .val (.long p4), .second, .val (.int p5), .val (.int p6), .val (.int (3 : Int32)), .val (.int (1 : Int32)), .val (.int (2 : Int32)), .val (.long sl), .second, .val (.long tt1), .second, .val (.long tt2), .second, .unset, .unset, .unset, .unset, .unset, .unset, .unset] [(.long (0 : Int64)), (.long sl), (.int (3 : Int32)), (.int (4 : Int32)), (.int (0 : Int32)), (.ref b1), (.ref b1)])) rfl (by rw [hml]; rfl) (Steps.refl _) (a := b1) (argsL := [(.int (0 : Int32)), (.int (4 : Int32)), (.int (3 : Int32)), (.long sl), (.long (0 : Int64))]) (rest := [(.ref b1)]) (lenOf pd_4 rfl) rfl (by show 2 * 0 + _ ≤ _; exact Nat.le_of_eq rfl) (hb hby at_61) (fun _ _ => ⟨rfl, e1, (by decide : 1 + 2 ≤ _), (by decide : 5 + 8 ≤ _)⟩)
  dsimp only [Pt.U, Pt.locs, Pt.cells, Pt.slots] at X2 l2 y2 z2 st2 hQ2
  subst l2 y2 z2
  obtain ⟨t_e2, u_e2, rfl, N2q, K2, p2_1, p2_2, p2_3, p2_4, p2_5, p2_6, p2_7, p2_8, g_t_2, g_u_2, ne_a_t_2, ne_a_u_2, ne_t_u_2⟩ := hQ2
  have N2 := Fr.app N0 N2q
  have sz5 : n0 ≤ T2.heap.size := (Nat.le_trans sz3 K2.1)
  obtain ⟨cq4, kq4, q4a, q4b, q4c⟩ := isOf hZ rfl p2_1
  obtain ⟨_, _, ⟨T4, L4, k4, n4⟩, -, X4, ⟨Lc4, hQ4, l4, y4, z4⟩, st4⟩ := X2.virtualBack hx (y := (⟨"stillmark/StableTimes", "told", "(IJJ)V"⟩ : MethodName)) (z := (⟨"stillmark/StableTimes", "told", "(IJJ)V"⟩ : MethodName)) hown (mvT hZ (hw _ (List.mem_of_getElem? (i := 32) rfl))) (mvT hZ (hw _ (List.mem_of_getElem? (i := 33) rfl))) (notFace_of_selects (args := #[]) (mvT hZ (hw _ (List.mem_of_getElem? (i := 35) rfl)))) (mvT hZ (hw _ (List.mem_of_getElem? (i := 35) rfl))) (mvT hZ (hw _ (List.mem_of_getElem? (i := 34) rfl))) (by decide) (backOf (W := 0) (rm5 l Z a0 hw [] b1 (3 : Int32) p1 (0 : Int64) t_e2 u_e2 (fun _ => (-9223372036854775808 : Int64)) (fun _ => (0 : Int64)) 3 (T2.heap) n0 sz5 p2_1 p2_5 p2_6 p2_7 p2_8 g_t_2 g_u_2 ne_a_t_2 ne_a_u_2 ne_t_u_2 (by decide) (by decide) (by decide)) hZ (hw _ (List.mem_of_getElem? (i := 36) rfl)) (hw _ (List.mem_of_getElem? (i := 4) rfl)) (by decide) (by decide)) q4a q4c (g := (mkF m 72 #[.val (.long p1), .second, .val (.long p2), .second, .val (.long p3), .second, .val (.long p4), .second, .val (.int p5), .val (.int p6), .val (.int (3 : Int32)), .val (.int (1 : Int32)), .val (.int (2 : Int32)), .val (.long sl), .second, .val (.long tt1), .second, .val (.long tt2), .second, .val (.ref b1), .unset, .unset, .unset, .unset, .unset, .unset] [(.long (0 : Int64)), (.long p1), (.int (3 : Int32)), (.ref b1)])) rfl (by rw [hml]; rfl) (Steps.refl _) (argsL := [(.int (3 : Int32)), (.long p1), (.long (0 : Int64))]) (rest := []) (lenOf pd_5 rfl) rfl (by show 2 * 0 + _ ≤ _; exact Nat.le_of_eq rfl) (hb hby at_72) (fun _ _ => ⟨rfl, rfl, (by decide : 3 + 0 ≤ _), (by decide : 13 + 0 ≤ _)⟩)
  dsimp only [Pt.U, Pt.locs, Pt.cells, Pt.slots] at X4 l4 y4 z4 st4 hQ4
  subst l4 y4 z4
  obtain ⟨rfl, N4q, K4, p4_1, p4_2⟩ := hQ4
  have N4 := Fr.app N2 N4q
  have f7_E_b1 := (p2_1.keep K4)
  have f8_F_b1_told := (p2_5.keep K4 (ninS ne_a_t_2 (ninS ne_a_u_2 nin0)))
  have f9_F_b1_heard := (p2_6.keep K4 (ninS ne_a_t_2 (ninS ne_a_u_2 nin0)))
  have sz10 : n0 ≤ T4.heap.size := (Nat.le_trans sz5 K4.1)
  obtain ⟨cq6, kq6, q6a, q6b, q6c⟩ := isOf hZ rfl f7_E_b1
  obtain ⟨_, _, ⟨T6, L6, k6, n6⟩, -, X6, ⟨Lc6, hQ6, l6, y6, z6⟩, st6⟩ := X4.virtualBack hx (y := (⟨"stillmark/StableTimes", "told", "(IJJ)V"⟩ : MethodName)) (z := (⟨"stillmark/StableTimes", "told", "(IJJ)V"⟩ : MethodName)) hown (mvT hZ (hw _ (List.mem_of_getElem? (i := 32) rfl))) (mvT hZ (hw _ (List.mem_of_getElem? (i := 33) rfl))) (notFace_of_selects (args := #[]) (mvT hZ (hw _ (List.mem_of_getElem? (i := 35) rfl)))) (mvT hZ (hw _ (List.mem_of_getElem? (i := 35) rfl))) (mvT hZ (hw _ (List.mem_of_getElem? (i := 34) rfl))) (by decide) (backOf (W := 0) (rm5 l Z a0 hw [] b1 (1 : Int32) p2 tt2 t_e2 u_e2 (own_set (fun _ => (-9223372036854775808 : Int64)) 3 p1) (own_set (fun _ => (0 : Int64)) 3 (0 : Int64)) 1 (T4.heap) n0 sz10 f7_E_b1 f8_F_b1_told f9_F_b1_heard p4_1 p4_2 g_t_2 g_u_2 ne_a_t_2 ne_a_u_2 ne_t_u_2 (by decide) (by decide) (by decide)) hZ (hw _ (List.mem_of_getElem? (i := 36) rfl)) (hw _ (List.mem_of_getElem? (i := 4) rfl)) (by decide) (by decide)) q6a q6c (g := (mkF m 82 #[.val (.long p1), .second, .val (.long p2), .second, .val (.long p3), .second, .val (.long p4), .second, .val (.int p5), .val (.int p6), .val (.int (3 : Int32)), .val (.int (1 : Int32)), .val (.int (2 : Int32)), .val (.long sl), .second, .val (.long tt1), .second, .val (.long tt2), .second, .val (.ref b1), .unset, .unset, .unset, .unset, .unset, .unset] [(.long tt2), (.long p2), (.int (1 : Int32)), (.ref b1)])) rfl (by rw [hml]; rfl) (Steps.refl _) (argsL := [(.int (1 : Int32)), (.long p2), (.long tt2)]) (rest := []) (lenOf pd_5 rfl) rfl (by show 2 * 0 + _ ≤ _; exact Nat.le_of_eq rfl) (hb hby at_82) (fun _ _ => ⟨rfl, rfl, (by decide : 3 + 0 ≤ _), (by decide : 13 + 0 ≤ _)⟩)
  dsimp only [Pt.U, Pt.locs, Pt.cells, Pt.slots] at X6 l6 y6 z6 st6 hQ6
  subst l6 y6 z6
  obtain ⟨rfl, N6q, K6, p6_1, p6_2⟩ := hQ6
  have N6 := Fr.app N4 N6q
  have f12_E_b1 := (f7_E_b1.keep K6)
  have f13_F_b1_told := (f8_F_b1_told.keep K6 (ninS ne_a_t_2 (ninS ne_a_u_2 nin0)))
  have f14_F_b1_heard := (f9_F_b1_heard.keep K6 (ninS ne_a_t_2 (ninS ne_a_u_2 nin0)))
  have sz15 : n0 ≤ T6.heap.size := (Nat.le_trans sz10 K6.1)
  obtain ⟨cq11, kq11, q11a, q11b, q11c⟩ := isOf hZ rfl f12_E_b1
  obtain ⟨_, _, ⟨T11, L11, k11, n11⟩, -, X11, ⟨Lc11, hQ11, l11, y11, z11⟩, st11⟩ := X6.virtualBack hx (y := (⟨"stillmark/StableTimes", "told", "(IJJ)V"⟩ : MethodName)) (z := (⟨"stillmark/StableTimes", "told", "(IJJ)V"⟩ : MethodName)) hown (mvT hZ (hw _ (List.mem_of_getElem? (i := 32) rfl))) (mvT hZ (hw _ (List.mem_of_getElem? (i := 33) rfl))) (notFace_of_selects (args := #[]) (mvT hZ (hw _ (List.mem_of_getElem? (i := 35) rfl)))) (mvT hZ (hw _ (List.mem_of_getElem? (i := 35) rfl))) (mvT hZ (hw _ (List.mem_of_getElem? (i := 34) rfl))) (by decide) (backOf (W := 0) (rm5 l Z a0 hw [] b1 (2 : Int32) p3 tt2 t_e2 u_e2 (own_set (own_set (fun _ => (-9223372036854775808 : Int64)) 3 p1) 1 p2) (own_set (own_set (fun _ => (0 : Int64)) 3 (0 : Int64)) 1 tt2) 2 (T6.heap) n0 sz15 f12_E_b1 f13_F_b1_told f14_F_b1_heard p6_1 p6_2 g_t_2 g_u_2 ne_a_t_2 ne_a_u_2 ne_t_u_2 (by decide) (by decide) (by decide)) hZ (hw _ (List.mem_of_getElem? (i := 36) rfl)) (hw _ (List.mem_of_getElem? (i := 4) rfl)) (by decide) (by decide)) q11a q11c (g := (mkF m 93 #[.val (.long p1), .second, .val (.long p2), .second, .val (.long p3), .second, .val (.long p4), .second, .val (.int p5), .val (.int p6), .val (.int (3 : Int32)), .val (.int (1 : Int32)), .val (.int (2 : Int32)), .val (.long sl), .second, .val (.long tt1), .second, .val (.long tt2), .second, .val (.ref b1), .unset, .unset, .unset, .unset, .unset, .unset] [(.long tt2), (.long p3), (.int (2 : Int32)), (.ref b1)])) rfl (by rw [hml]; rfl) (Steps.refl _) (argsL := [(.int (2 : Int32)), (.long p3), (.long tt2)]) (rest := []) (lenOf pd_5 rfl) rfl (by show 2 * 0 + _ ≤ _; exact Nat.le_of_eq rfl) (hb hby at_93) (fun _ _ => ⟨rfl, rfl, (by decide : 3 + 0 ≤ _), (by decide : 13 + 0 ≤ _)⟩)
  dsimp only [Pt.U, Pt.locs, Pt.cells, Pt.slots] at X11 l11 y11 z11 st11 hQ11
  subst l11 y11 z11
  obtain ⟨rfl, N11q, K11, p11_1, p11_2⟩ := hQ11
  have N11 := Fr.app N6 N11q
  have f17_E_b1 := (f12_E_b1.keep K11)
  have f18_F_b1_told := (f13_F_b1_told.keep K11 (ninS ne_a_t_2 (ninS ne_a_u_2 nin0)))
  have f19_F_b1_heard := (f14_F_b1_heard.keep K11 (ninS ne_a_t_2 (ninS ne_a_u_2 nin0)))
  have sz20 : n0 ≤ T11.heap.size := (Nat.le_trans sz15 K11.1)
  obtain ⟨cq16, kq16, q16a, q16b, q16c⟩ := isOf hZ rfl f17_E_b1
  obtain ⟨_, _, ⟨T16, L16, k16, n16⟩, -, X16, ⟨Lc16, hQ16, l16, y16, z16⟩, st16⟩ := X11.virtualBack hx (y := (⟨"stillmark/StableTimes", "restarted", "(IJ)V"⟩ : MethodName)) (z := (⟨"stillmark/StableTimes", "restarted", "(IJ)V"⟩ : MethodName)) hown (mvT hZ (hw _ (List.mem_of_getElem? (i := 37) rfl))) (mvT hZ (hw _ (List.mem_of_getElem? (i := 38) rfl))) (notFace_of_selects (args := #[]) (mvT hZ (hw _ (List.mem_of_getElem? (i := 40) rfl)))) (mvT hZ (hw _ (List.mem_of_getElem? (i := 40) rfl))) (mvT hZ (hw _ (List.mem_of_getElem? (i := 39) rfl))) (by decide) (backOf (W := 0) (rm6 l Z a0 hw [] b1 (3 : Int32) tt1 t_e2 u_e2 (own_set (own_set (own_set (fun _ => (-9223372036854775808 : Int64)) 3 p1) 1 p2) 2 p3) (own_set (own_set (own_set (fun _ => (0 : Int64)) 3 (0 : Int64)) 1 tt2) 2 tt2) 3 (T11.heap) n0 sz20 f17_E_b1 f18_F_b1_told f19_F_b1_heard p11_1 p11_2 g_t_2 g_u_2 ne_a_t_2 ne_a_u_2 ne_t_u_2 (by decide) (by decide) (by decide)) hZ (hw _ (List.mem_of_getElem? (i := 41) rfl)) (hw _ (List.mem_of_getElem? (i := 4) rfl)) (by decide) (by decide)) q16a q16c (g := (mkF m 102 #[.val (.long p1), .second, .val (.long p2), .second, .val (.long p3), .second, .val (.long p4), .second, .val (.int p5), .val (.int p6), .val (.int (3 : Int32)), .val (.int (1 : Int32)), .val (.int (2 : Int32)), .val (.long sl), .second, .val (.long tt1), .second, .val (.long tt2), .second, .val (.ref b1), .unset, .unset, .unset, .unset, .unset, .unset] [(.long tt1), (.int (3 : Int32)), (.ref b1)])) rfl (by rw [hml]; rfl) (Steps.refl _) (argsL := [(.int (3 : Int32)), (.long tt1)]) (rest := []) (lenOf pd_6 rfl) rfl (by show 2 * 0 + _ ≤ _; exact Nat.le_of_eq rfl) (hb hby at_102) (fun _ _ => ⟨rfl, rfl, (by decide : 3 + 0 ≤ _), (by decide : 13 + 0 ≤ _)⟩)
  dsimp only [Pt.U, Pt.locs, Pt.cells, Pt.slots] at X16 l16 y16 z16 st16 hQ16
  subst l16 y16 z16
  obtain ⟨rfl, N16q, K16, p16_1, p16_2⟩ := hQ16
  have N16 := Fr.app N11 N16q
  have f22_E_b1 := (f17_E_b1.keep K16)
  have f23_F_b1_own := ((((p2_2.keep K4 (ninS ne_a_t_2 (ninS ne_a_u_2 nin0))).keep K6 (ninS ne_a_t_2 (ninS ne_a_u_2 nin0))).keep K11 (ninS ne_a_t_2 (ninS ne_a_u_2 nin0))).keep K16 (ninS ne_a_t_2 (ninS ne_a_u_2 nin0)))
  have f24_F_b1_silence := ((((p2_4.keep K4 (ninS ne_a_t_2 (ninS ne_a_u_2 nin0))).keep K6 (ninS ne_a_t_2 (ninS ne_a_u_2 nin0))).keep K11 (ninS ne_a_t_2 (ninS ne_a_u_2 nin0))).keep K16 (ninS ne_a_t_2 (ninS ne_a_u_2 nin0)))
  have f25_F_b1_heard := (f19_F_b1_heard.keep K16 (ninS ne_a_t_2 (ninS ne_a_u_2 nin0)))
  have f26_F_b1_majority := ((((p2_3.keep K4 (ninS ne_a_t_2 (ninS ne_a_u_2 nin0))).keep K6 (ninS ne_a_t_2 (ninS ne_a_u_2 nin0))).keep K11 (ninS ne_a_t_2 (ninS ne_a_u_2 nin0))).keep K16 (ninS ne_a_t_2 (ninS ne_a_u_2 nin0)))
  have f27_F_b1_told := (f18_F_b1_told.keep K16 (ninS ne_a_t_2 (ninS ne_a_u_2 nin0)))
  have sz28 : n0 ≤ T16.heap.size := (Nat.le_trans sz20 K16.1)
  obtain ⟨cq21, kq21, q21a, q21b, q21c⟩ := isOf hZ rfl f22_E_b1
  obtain ⟨_, _, ⟨T21, L21, k21, n21⟩, -, X21, ⟨Lc21, hQ21, l21, y21, z21⟩, st21⟩ := X16.virtualBack hx (y := (⟨"stillmark/StableTimes", "raise", "(JJ)J"⟩ : MethodName)) (z := (⟨"stillmark/StableTimes", "raise", "(JJ)J"⟩ : MethodName)) hown (mvT hZ (hw _ (List.mem_of_getElem? (i := 42) rfl))) (mvT hZ (hw _ (List.mem_of_getElem? (i := 43) rfl))) (notFace_of_selects (args := #[]) (mvT hZ (hw _ (List.mem_of_getElem? (i := 45) rfl)))) (mvT hZ (hw _ (List.mem_of_getElem? (i := 45) rfl))) (mvT hZ (hw _ (List.mem_of_getElem? (i := 44) rfl))) (by decide) (backOf (W := 0) (rm7_0 l Z a0 hw [] b1 p4 (tt1 + sl) sl t_e2 u_e2 (own_set (own_set (own_set (own_set (fun _ => (-9223372036854775808 : Int64)) 3 p1) 1 p2) 2 p3) 3 (-9223372036854775808 : Int64)) (own_set (own_set (own_set (own_set (fun _ => (0 : Int64)) 3 (0 : Int64)) 1 tt2) 2 tt2) 3 tt1) (T16.heap) n0 sz28 f22_E_b1 f23_F_b1_own f24_F_b1_silence f25_F_b1_heard p16_2 f26_F_b1_majority f27_F_b1_told p16_1 (by show ¬ (tt2 < (tt1 + sl) - sl); rw [own_e1]; exact own_asym hup) (by show ¬ (tt2 < (tt1 + sl) - sl); rw [own_e1]; exact own_asym hup) (by show ¬ (tt1 < (tt1 + sl) - sl); rw [own_e1]; exact own_irr _)) hZ (hw _ (List.mem_of_getElem? (i := 46) rfl)) (hw _ (List.mem_of_getElem? (i := 4) rfl)) (by decide) (by decide)) q21a q21c (g := (mkF m 114 #[.val (.long p1), .second, .val (.long p2), .second, .val (.long p3), .second, .val (.long p4), .second, .val (.int p5), .val (.int p6), .val (.int (3 : Int32)), .val (.int (1 : Int32)), .val (.int (2 : Int32)), .val (.long sl), .second, .val (.long tt1), .second, .val (.long tt2), .second, .val (.ref b1), .unset, .unset, .unset, .unset, .unset, .unset] [(.long (tt1 + sl)), (.long p4), (.ref b1)])) rfl (by rw [hml]; rfl) (Steps.refl _) (argsL := [(.long p4), (.long (tt1 + sl))]) (rest := []) (lenOf pd_3 rfl) rfl (by show 2 * 0 + _ ≤ _; exact Nat.le_of_eq rfl) (hb hby at_114) (fun _ _ => ⟨rfl, rfl, (by decide : 3 + 0 ≤ _), (by decide : 13 + 0 ≤ _)⟩)
  dsimp only [Pt.U, Pt.locs, Pt.cells, Pt.slots] at X21 l21 y21 z21 st21 hQ21
  subst l21 y21 z21
  obtain ⟨rfl, N21q, e21q⟩ := hQ21
  have N21 := Fr.app N16 N21q
  obtain ⟨cq29, kq29, q29a, q29b, q29c⟩ := isOf hZ e21q f22_E_b1
  obtain ⟨_, _, ⟨T29, L29, k29, n29⟩, -, X29, ⟨Lc29, hQ29, l29, y29, z29⟩, st29⟩ := X21.virtualBack hx (y := (⟨"stillmark/StableTimes", "raise", "(JJ)J"⟩ : MethodName)) (z := (⟨"stillmark/StableTimes", "raise", "(JJ)J"⟩ : MethodName)) hown (mvT hZ (hw _ (List.mem_of_getElem? (i := 42) rfl))) (mvT hZ (hw _ (List.mem_of_getElem? (i := 43) rfl))) (notFace_of_selects (args := #[]) (mvT hZ (hw _ (List.mem_of_getElem? (i := 45) rfl)))) (mvT hZ (hw _ (List.mem_of_getElem? (i := 45) rfl))) (mvT hZ (hw _ (List.mem_of_getElem? (i := 44) rfl))) (by decide) (backOf (W := 0) (rm7_3 l Z a0 hw [] b1 p4 ((tt1 + sl) + (1 : Int64)) sl t_e2 u_e2 (own_set (own_set (own_set (own_set (fun _ => (-9223372036854775808 : Int64)) 3 p1) 1 p2) 2 p3) 3 (-9223372036854775808 : Int64)) (own_set (own_set (own_set (own_set (fun _ => (0 : Int64)) 3 (0 : Int64)) 1 tt2) 2 tt2) 3 tt1) (T16.heap) n0 sz28 f22_E_b1 f23_F_b1_own f24_F_b1_silence f25_F_b1_heard p16_2 f26_F_b1_majority f27_F_b1_told p16_1 (by show ¬ (tt2 < ((tt1 + sl) + 1) - sl); rw [own_e2, ← h_tt2]; exact own_irr _) (by show ¬ (tt2 < ((tt1 + sl) + 1) - sl); rw [own_e2, ← h_tt2]; exact own_irr _) (by show (tt1 < ((tt1 + sl) + 1) - sl); rw [own_e2, ← h_tt2]; exact hup)) hZ (hw _ (List.mem_of_getElem? (i := 46) rfl)) (hw _ (List.mem_of_getElem? (i := 4) rfl)) (by decide) (by decide)) q29a q29c (g := (mkF m 130 #[.val (.long p1), .second, .val (.long p2), .second, .val (.long p3), .second, .val (.long p4), .second, .val (.int p5), .val (.int p6), .val (.int (3 : Int32)), .val (.int (1 : Int32)), .val (.int (2 : Int32)), .val (.long sl), .second, .val (.long tt1), .second, .val (.long tt2), .second, .val (.ref b1), .val (.long (-9223372036854775808 : Int64)), .second, .unset, .unset, .unset, .unset] [(.long ((tt1 + sl) + (1 : Int64))), (.long p4), (.ref b1)])) rfl (by rw [hml]; rfl) (Steps.refl _) (argsL := [(.long p4), (.long ((tt1 + sl) + (1 : Int64)))]) (rest := []) (lenOf pd_3 rfl) rfl (by show 2 * 0 + _ ≤ _; exact Nat.le_of_eq rfl) (hb hby at_130) (fun _ _ => ⟨rfl, e21q, (by decide : 3 + 0 ≤ _), (by decide : 13 + 0 ≤ _)⟩)
  dsimp only [Pt.U, Pt.locs, Pt.cells, Pt.slots] at X29 l29 y29 z29 st29 hQ29
  subst l29 y29 z29
  obtain ⟨rfl, N29q, e29q⟩ := hQ29
  have N29 := Fr.app N21 N29q
  obtain ⟨_, _, ⟨T30, L30, k30, n30⟩, -, X30, ⟨Lc30, hQ30, l30, y30, z30⟩, st30⟩ := Jvm.LawKit.callS X29 hx (y := (⟨"java/lang/Math", "min", "(JJ)J"⟩ : MethodName)) hown (mvT hZ (hw _ (List.mem_of_getElem? (i := 56) rfl))) (mvT hZ (hw _ (List.mem_of_getElem? (i := 52) rfl))) (mvT hZ (hw _ (List.mem_of_getElem? (i := 53) rfl))) (mvT hZ (hw _ (List.mem_of_getElem? (i := 54) rfl))) (by decide) (backOf (W := 4) (rm9 l Z a0 hw [] p2 p3 (T16.heap) n0 sz28 ) hZ (hw _ (List.mem_of_getElem? (i := 54) rfl)) (hw _ (List.mem_of_getElem? (i := 53) rfl)) (by decide) (by decide)) (g := (mkF m 158 #[.val (.long p1), .second, .val (.long p2), .second, .val (.long p3), .second, .val (.long p4), .second, .val (.int p5), .val (.int p6), .val (.int (3 : Int32)), .val (.int (1 : Int32)), .val (.int (2 : Int32)), .val (.long sl), .second, .val (.long tt1), .second, .val (.long tt2), .second, .val (.ref b1), .val (.long (-9223372036854775808 : Int64)), .second, .val (.long (own_min (own_min p4 p2) p3)), .second, .val (.int (1 : Int32)), .unset] [(.long p3), (.long p2), (.long p4), (.long (own_min (own_min p4 p2) p3))])) rfl (by rw [hml]; rfl) (argsL := [(.long p2), (.long p3)]) (rest := [(.long p4), (.long (own_min (own_min p4 p2) p3))]) (lenOf pd_3 rfl) rfl (by show 2 * 0 + _ ≤ _; exact Nat.le_of_eq rfl) (hb hby at_158) (fun _ _ => ⟨rfl, e29q, (by decide : 3 + 0 ≤ _), (by decide : 13 + 0 ≤ _)⟩)
  dsimp only [Pt.U, Pt.locs, Pt.cells, Pt.slots] at X30 l30 y30 z30 st30 hQ30
  subst l30 y30 z30
  obtain ⟨rfl, N30q, e30q⟩ := hQ30
  have N30 := Fr.app N29 N30q
  obtain ⟨_, _, ⟨T31, L31, k31, n31⟩, -, X31, ⟨Lc31, hQ31, l31, y31, z31⟩, st31⟩ := Jvm.LawKit.callS X30 hx (y := (⟨"java/lang/Math", "min", "(JJ)J"⟩ : MethodName)) hown (mvT hZ (hw _ (List.mem_of_getElem? (i := 56) rfl))) (mvT hZ (hw _ (List.mem_of_getElem? (i := 52) rfl))) (mvT hZ (hw _ (List.mem_of_getElem? (i := 53) rfl))) (mvT hZ (hw _ (List.mem_of_getElem? (i := 54) rfl))) (by decide) (backOf (W := 2) (rm9 l Z a0 hw [] p4 (own_min p2 p3) (T16.heap) n0 sz28 ) hZ (hw _ (List.mem_of_getElem? (i := 54) rfl)) (hw _ (List.mem_of_getElem? (i := 53) rfl)) (by decide) (by decide)) (g := (mkF m 161 #[.val (.long p1), .second, .val (.long p2), .second, .val (.long p3), .second, .val (.long p4), .second, .val (.int p5), .val (.int p6), .val (.int (3 : Int32)), .val (.int (1 : Int32)), .val (.int (2 : Int32)), .val (.long sl), .second, .val (.long tt1), .second, .val (.long tt2), .second, .val (.ref b1), .val (.long (-9223372036854775808 : Int64)), .second, .val (.long (own_min (own_min p4 p2) p3)), .second, .val (.int (1 : Int32)), .unset] [(.long (own_min p2 p3)), (.long p4), (.long (own_min (own_min p4 p2) p3))])) rfl (by rw [hml]; rfl) (argsL := [(.long p4), (.long (own_min p2 p3))]) (rest := [(.long (own_min (own_min p4 p2) p3))]) (lenOf pd_3 rfl) rfl (by show 2 * 0 + _ ≤ _; exact Nat.le_of_eq rfl) (hb hby at_161) (fun _ _ => ⟨rfl, e30q, (by decide : 3 + 0 ≤ _), (by decide : 13 + 0 ≤ _)⟩)
  dsimp only [Pt.U, Pt.locs, Pt.cells, Pt.slots] at X31 l31 y31 z31 st31 hQ31
  subst l31 y31 z31
  obtain ⟨rfl, N31q, e31q⟩ := hQ31
  have N31 := Fr.app N30 N31q
  obtain ⟨fs, hr, hrun, hended, hW, hsame⟩ := X31.leave (v := some (.int (1 : Int32))) (fun h => by rw [Bd.returns] at h; cases h)
  refine ⟨_, _, pre0 _ ?_, hrun, hended, _, _, rfl, ?_, ⟨_, rfl⟩, hW, hsame.mono (by decide) (by decide)⟩
  · show Steps p.tables e below (s₁.setTop (mkF m 0 #[.val (.long p1), .second, .val (.long p2), .second, .val (.long p3), .second, .val (.long p4), .second, .val (.int p5), .val (.int p6), .unset, .unset, .unset, .unset, .unset, .unset, .unset, .unset, .unset, .unset, .unset, .unset, .unset, .unset, .unset, .unset] [])) _
    refine XS.iconst X0.here hx rfl (hb hby at_0) ?_
    show Steps p.tables e below (s₁.setTop (mkF m 1 #[.val (.long p1), .second, .val (.long p2), .second, .val (.long p3), .second, .val (.long p4), .second, .val (.int p5), .val (.int p6), .unset, .unset, .unset, .unset, .unset, .unset, .unset, .unset, .unset, .unset, .unset, .unset, .unset, .unset, .unset, .unset] [(.int (1 : Int32))])) _
    refine XS.iload X0.here hx rfl (hb hby at_1) rfl ?_
    show Steps p.tables e below (s₁.setTop (mkF m 3 #[.val (.long p1), .second, .val (.long p2), .second, .val (.long p3), .second, .val (.long p4), .second, .val (.int p5), .val (.int p6), .unset, .unset, .unset, .unset, .unset, .unset, .unset, .unset, .unset, .unset, .unset, .unset, .unset, .unset, .unset, .unset] [(.int p5), (.int (1 : Int32))])) _
    refine XS.iconst X0.here hx rfl (hb hby at_3) ?_
    show Steps p.tables e below (s₁.setTop (mkF m 4 #[.val (.long p1), .second, .val (.long p2), .second, .val (.long p3), .second, .val (.long p4), .second, .val (.int p5), .val (.int p6), .unset, .unset, .unset, .unset, .unset, .unset, .unset, .unset, .unset, .unset, .unset, .unset, .unset, .unset, .unset, .unset] [(.int (3 : Int32)), (.int p5), (.int (1 : Int32))])) _
    refine XS.iand X0.here hx rfl (hb hby at_4) rfl ?_
    show Steps p.tables e below (s₁.setTop (mkF m 5 #[.val (.long p1), .second, .val (.long p2), .second, .val (.long p3), .second, .val (.long p4), .second, .val (.int p5), .val (.int p6), .unset, .unset, .unset, .unset, .unset, .unset, .unset, .unset, .unset, .unset, .unset, .unset, .unset, .unset, .unset, .unset] [(.int (p5 &&& (3 : Int32))), (.int (1 : Int32))])) _
    rw [hk]
    show Steps p.tables e below (s₁.setTop (mkF m 5 #[.val (.long p1), .second, .val (.long p2), .second, .val (.long p3), .second, .val (.long p4), .second, .val (.int p5), .val (.int p6), .unset, .unset, .unset, .unset, .unset, .unset, .unset, .unset, .unset, .unset, .unset, .unset, .unset, .unset, .unset, .unset] [(.int (2 : Int32)), (.int (1 : Int32))])) _
    refine XS.iconst X0.here hx rfl (hb hby at_5) ?_
    show Steps p.tables e below (s₁.setTop (mkF m 6 #[.val (.long p1), .second, .val (.long p2), .second, .val (.long p3), .second, .val (.long p4), .second, .val (.int p5), .val (.int p6), .unset, .unset, .unset, .unset, .unset, .unset, .unset, .unset, .unset, .unset, .unset, .unset, .unset, .unset, .unset, .unset] [(.int (3 : Int32)), (.int (2 : Int32)), (.int (1 : Int32))])) _
    refine XS.irem X0.here hx rfl (hb hby at_6) rfl (by decide) ?_
    show Steps p.tables e below (s₁.setTop (mkF m 7 #[.val (.long p1), .second, .val (.long p2), .second, .val (.long p3), .second, .val (.long p4), .second, .val (.int p5), .val (.int p6), .unset, .unset, .unset, .unset, .unset, .unset, .unset, .unset, .unset, .unset, .unset, .unset, .unset, .unset, .unset, .unset] [(.int ((2 : Int32) - ((2 : Int32) / (3 : Int32)) * (3 : Int32))), (.int (1 : Int32))])) _
    rw [show (((2 : Int32) - ((2 : Int32) / (3 : Int32)) * (3 : Int32)) : Int32) = (2 : Int32) from by decide]
    show Steps p.tables e below (s₁.setTop (mkF m 7 #[.val (.long p1), .second, .val (.long p2), .second, .val (.long p3), .second, .val (.long p4), .second, .val (.int p5), .val (.int p6), .unset, .unset, .unset, .unset, .unset, .unset, .unset, .unset, .unset, .unset, .unset, .unset, .unset, .unset, .unset, .unset] [(.int (2 : Int32)), (.int (1 : Int32))])) _
    refine XS.iadd X0.here hx rfl (hb hby at_7) rfl ?_
    show Steps p.tables e below (s₁.setTop (mkF m 8 #[.val (.long p1), .second, .val (.long p2), .second, .val (.long p3), .second, .val (.long p4), .second, .val (.int p5), .val (.int p6), .unset, .unset, .unset, .unset, .unset, .unset, .unset, .unset, .unset, .unset, .unset, .unset, .unset, .unset, .unset, .unset] [(.int ((1 : Int32) + (2 : Int32)))])) _
    rw [show (((1 : Int32) + (2 : Int32)) : Int32) = (3 : Int32) from by decide]
    show Steps p.tables e below (s₁.setTop (mkF m 8 #[.val (.long p1), .second, .val (.long p2), .second, .val (.long p3), .second, .val (.long p4), .second, .val (.int p5), .val (.int p6), .unset, .unset, .unset, .unset, .unset, .unset, .unset, .unset, .unset, .unset, .unset, .unset, .unset, .unset, .unset, .unset] [(.int (3 : Int32))])) _
    refine XS.istore X0.here hx rfl (hb hby at_8) rfl (l' := #[.val (.long p1), .second, .val (.long p2), .second, .val (.long p3), .second, .val (.long p4), .second, .val (.int p5), .val (.int p6), .val (.int (3 : Int32)), .unset, .unset, .unset, .unset, .unset, .unset, .unset, .unset, .unset, .unset, .unset, .unset, .unset, .unset, .unset]) rfl ?_
    show Steps p.tables e below (s₁.setTop (mkF m 10 #[.val (.long p1), .second, .val (.long p2), .second, .val (.long p3), .second, .val (.long p4), .second, .val (.int p5), .val (.int p6), .val (.int (3 : Int32)), .unset, .unset, .unset, .unset, .unset, .unset, .unset, .unset, .unset, .unset, .unset, .unset, .unset, .unset, .unset] [])) _
    refine XS.iload X0.here hx rfl (hb hby at_10) rfl ?_
    show Steps p.tables e below (s₁.setTop (mkF m 12 #[.val (.long p1), .second, .val (.long p2), .second, .val (.long p3), .second, .val (.long p4), .second, .val (.int p5), .val (.int p6), .val (.int (3 : Int32)), .unset, .unset, .unset, .unset, .unset, .unset, .unset, .unset, .unset, .unset, .unset, .unset, .unset, .unset, .unset] [(.int (3 : Int32))])) _
    refine XS.iconst X0.here hx rfl (hb hby at_12) ?_
    show Steps p.tables e below (s₁.setTop (mkF m 13 #[.val (.long p1), .second, .val (.long p2), .second, .val (.long p3), .second, .val (.long p4), .second, .val (.int p5), .val (.int p6), .val (.int (3 : Int32)), .unset, .unset, .unset, .unset, .unset, .unset, .unset, .unset, .unset, .unset, .unset, .unset, .unset, .unset, .unset] [(.int (3 : Int32)), (.int (3 : Int32))])) _
    refine XS.irem X0.here hx rfl (hb hby at_13) rfl (by decide) ?_
    show Steps p.tables e below (s₁.setTop (mkF m 14 #[.val (.long p1), .second, .val (.long p2), .second, .val (.long p3), .second, .val (.long p4), .second, .val (.int p5), .val (.int p6), .val (.int (3 : Int32)), .unset, .unset, .unset, .unset, .unset, .unset, .unset, .unset, .unset, .unset, .unset, .unset, .unset, .unset, .unset] [(.int ((3 : Int32) - ((3 : Int32) / (3 : Int32)) * (3 : Int32)))])) _
    rw [show (((3 : Int32) - ((3 : Int32) / (3 : Int32)) * (3 : Int32)) : Int32) = (0 : Int32) from by decide]
    show Steps p.tables e below (s₁.setTop (mkF m 14 #[.val (.long p1), .second, .val (.long p2), .second, .val (.long p3), .second, .val (.long p4), .second, .val (.int p5), .val (.int p6), .val (.int (3 : Int32)), .unset, .unset, .unset, .unset, .unset, .unset, .unset, .unset, .unset, .unset, .unset, .unset, .unset, .unset, .unset] [(.int (0 : Int32))])) _
    refine XS.iconst X0.here hx rfl (hb hby at_14) ?_
    show Steps p.tables e below (s₁.setTop (mkF m 15 #[.val (.long p1), .second, .val (.long p2), .second, .val (.long p3), .second, .val (.long p4), .second, .val (.int p5), .val (.int p6), .val (.int (3 : Int32)), .unset, .unset, .unset, .unset, .unset, .unset, .unset, .unset, .unset, .unset, .unset, .unset, .unset, .unset, .unset] [(.int (1 : Int32)), (.int (0 : Int32))])) _
    refine XS.iadd X0.here hx rfl (hb hby at_15) rfl ?_
    show Steps p.tables e below (s₁.setTop (mkF m 16 #[.val (.long p1), .second, .val (.long p2), .second, .val (.long p3), .second, .val (.long p4), .second, .val (.int p5), .val (.int p6), .val (.int (3 : Int32)), .unset, .unset, .unset, .unset, .unset, .unset, .unset, .unset, .unset, .unset, .unset, .unset, .unset, .unset, .unset] [(.int ((0 : Int32) + (1 : Int32)))])) _
    rw [show (((0 : Int32) + (1 : Int32)) : Int32) = (1 : Int32) from by decide]
    show Steps p.tables e below (s₁.setTop (mkF m 16 #[.val (.long p1), .second, .val (.long p2), .second, .val (.long p3), .second, .val (.long p4), .second, .val (.int p5), .val (.int p6), .val (.int (3 : Int32)), .unset, .unset, .unset, .unset, .unset, .unset, .unset, .unset, .unset, .unset, .unset, .unset, .unset, .unset, .unset] [(.int (1 : Int32))])) _
    refine XS.istore X0.here hx rfl (hb hby at_16) rfl (l' := #[.val (.long p1), .second, .val (.long p2), .second, .val (.long p3), .second, .val (.long p4), .second, .val (.int p5), .val (.int p6), .val (.int (3 : Int32)), .val (.int (1 : Int32)), .unset, .unset, .unset, .unset, .unset, .unset, .unset, .unset, .unset, .unset, .unset, .unset, .unset, .unset]) rfl ?_
    show Steps p.tables e below (s₁.setTop (mkF m 18 #[.val (.long p1), .second, .val (.long p2), .second, .val (.long p3), .second, .val (.long p4), .second, .val (.int p5), .val (.int p6), .val (.int (3 : Int32)), .val (.int (1 : Int32)), .unset, .unset, .unset, .unset, .unset, .unset, .unset, .unset, .unset, .unset, .unset, .unset, .unset, .unset] [])) _
    refine XS.iload X0.here hx rfl (hb hby at_18) rfl ?_
    show Steps p.tables e below (s₁.setTop (mkF m 20 #[.val (.long p1), .second, .val (.long p2), .second, .val (.long p3), .second, .val (.long p4), .second, .val (.int p5), .val (.int p6), .val (.int (3 : Int32)), .val (.int (1 : Int32)), .unset, .unset, .unset, .unset, .unset, .unset, .unset, .unset, .unset, .unset, .unset, .unset, .unset, .unset] [(.int (1 : Int32))])) _
    refine XS.iconst X0.here hx rfl (hb hby at_20) ?_
    show Steps p.tables e below (s₁.setTop (mkF m 21 #[.val (.long p1), .second, .val (.long p2), .second, .val (.long p3), .second, .val (.long p4), .second, .val (.int p5), .val (.int p6), .val (.int (3 : Int32)), .val (.int (1 : Int32)), .unset, .unset, .unset, .unset, .unset, .unset, .unset, .unset, .unset, .unset, .unset, .unset, .unset, .unset] [(.int (3 : Int32)), (.int (1 : Int32))])) _
    refine XS.irem X0.here hx rfl (hb hby at_21) rfl (by decide) ?_
    show Steps p.tables e below (s₁.setTop (mkF m 22 #[.val (.long p1), .second, .val (.long p2), .second, .val (.long p3), .second, .val (.long p4), .second, .val (.int p5), .val (.int p6), .val (.int (3 : Int32)), .val (.int (1 : Int32)), .unset, .unset, .unset, .unset, .unset, .unset, .unset, .unset, .unset, .unset, .unset, .unset, .unset, .unset] [(.int ((1 : Int32) - ((1 : Int32) / (3 : Int32)) * (3 : Int32)))])) _
    rw [show (((1 : Int32) - ((1 : Int32) / (3 : Int32)) * (3 : Int32)) : Int32) = (1 : Int32) from by decide]
    show Steps p.tables e below (s₁.setTop (mkF m 22 #[.val (.long p1), .second, .val (.long p2), .second, .val (.long p3), .second, .val (.long p4), .second, .val (.int p5), .val (.int p6), .val (.int (3 : Int32)), .val (.int (1 : Int32)), .unset, .unset, .unset, .unset, .unset, .unset, .unset, .unset, .unset, .unset, .unset, .unset, .unset, .unset] [(.int (1 : Int32))])) _
    refine XS.iconst X0.here hx rfl (hb hby at_22) ?_
    show Steps p.tables e below (s₁.setTop (mkF m 23 #[.val (.long p1), .second, .val (.long p2), .second, .val (.long p3), .second, .val (.long p4), .second, .val (.int p5), .val (.int p6), .val (.int (3 : Int32)), .val (.int (1 : Int32)), .unset, .unset, .unset, .unset, .unset, .unset, .unset, .unset, .unset, .unset, .unset, .unset, .unset, .unset] [(.int (1 : Int32)), (.int (1 : Int32))])) _
    refine XS.iadd X0.here hx rfl (hb hby at_23) rfl ?_
    show Steps p.tables e below (s₁.setTop (mkF m 24 #[.val (.long p1), .second, .val (.long p2), .second, .val (.long p3), .second, .val (.long p4), .second, .val (.int p5), .val (.int p6), .val (.int (3 : Int32)), .val (.int (1 : Int32)), .unset, .unset, .unset, .unset, .unset, .unset, .unset, .unset, .unset, .unset, .unset, .unset, .unset, .unset] [(.int ((1 : Int32) + (1 : Int32)))])) _
    rw [show (((1 : Int32) + (1 : Int32)) : Int32) = (2 : Int32) from by decide]
    show Steps p.tables e below (s₁.setTop (mkF m 24 #[.val (.long p1), .second, .val (.long p2), .second, .val (.long p3), .second, .val (.long p4), .second, .val (.int p5), .val (.int p6), .val (.int (3 : Int32)), .val (.int (1 : Int32)), .unset, .unset, .unset, .unset, .unset, .unset, .unset, .unset, .unset, .unset, .unset, .unset, .unset, .unset] [(.int (2 : Int32))])) _
    refine XS.istore X0.here hx rfl (hb hby at_24) rfl (l' := #[.val (.long p1), .second, .val (.long p2), .second, .val (.long p3), .second, .val (.long p4), .second, .val (.int p5), .val (.int p6), .val (.int (3 : Int32)), .val (.int (1 : Int32)), .val (.int (2 : Int32)), .unset, .unset, .unset, .unset, .unset, .unset, .unset, .unset, .unset, .unset, .unset, .unset, .unset]) rfl ?_
    show Steps p.tables e below (s₁.setTop (mkF m 26 #[.val (.long p1), .second, .val (.long p2), .second, .val (.long p3), .second, .val (.long p4), .second, .val (.int p5), .val (.int p6), .val (.int (3 : Int32)), .val (.int (1 : Int32)), .val (.int (2 : Int32)), .unset, .unset, .unset, .unset, .unset, .unset, .unset, .unset, .unset, .unset, .unset, .unset, .unset] [])) _
    refine XS.iload X0.here hx rfl (hb hby at_26) rfl ?_
    show Steps p.tables e below (s₁.setTop (mkF m 28 #[.val (.long p1), .second, .val (.long p2), .second, .val (.long p3), .second, .val (.long p4), .second, .val (.int p5), .val (.int p6), .val (.int (3 : Int32)), .val (.int (1 : Int32)), .val (.int (2 : Int32)), .unset, .unset, .unset, .unset, .unset, .unset, .unset, .unset, .unset, .unset, .unset, .unset, .unset] [(.int p5)])) _
    refine XS.iconst X0.here hx rfl (hb hby at_28) ?_
    show Steps p.tables e below (s₁.setTop (mkF m 29 #[.val (.long p1), .second, .val (.long p2), .second, .val (.long p3), .second, .val (.long p4), .second, .val (.int p5), .val (.int p6), .val (.int (3 : Int32)), .val (.int (1 : Int32)), .val (.int (2 : Int32)), .unset, .unset, .unset, .unset, .unset, .unset, .unset, .unset, .unset, .unset, .unset, .unset, .unset] [(.int (2 : Int32)), (.int p5)])) _
    refine XS.iushr X0.here hx rfl (hb hby at_29) rfl ?_
    show Steps p.tables e below (s₁.setTop (mkF m 30 #[.val (.long p1), .second, .val (.long p2), .second, .val (.long p3), .second, .val (.long p4), .second, .val (.int p5), .val (.int p6), .val (.int (3 : Int32)), .val (.int (1 : Int32)), .val (.int (2 : Int32)), .unset, .unset, .unset, .unset, .unset, .unset, .unset, .unset, .unset, .unset, .unset, .unset, .unset] [(.int ((p5.toUInt32 >>> ((2 : Int32) &&& 31).toUInt32).toInt32))])) _
    refine X0.ldcInt hx hown (mvT hZ (hw _ (List.mem_of_getElem? (i := 0) rfl))) (g := (mkF m 30 #[.val (.long p1), .second, .val (.long p2), .second, .val (.long p3), .second, .val (.long p4), .second, .val (.int p5), .val (.int p6), .val (.int (3 : Int32)), .val (.int (1 : Int32)), .val (.int (2 : Int32)), .unset, .unset, .unset, .unset, .unset, .unset, .unset, .unset, .unset, .unset, .unset, .unset, .unset] [(.int ((p5.toUInt32 >>> ((2 : Int32) &&& 31).toUInt32).toInt32))])) rfl (hb hby at_30) _ ?_
    show Steps p.tables e below (s₁.setTop (mkF m 32 #[.val (.long p1), .second, .val (.long p2), .second, .val (.long p3), .second, .val (.long p4), .second, .val (.int p5), .val (.int p6), .val (.int (3 : Int32)), .val (.int (1 : Int32)), .val (.int (2 : Int32)), .unset, .unset, .unset, .unset, .unset, .unset, .unset, .unset, .unset, .unset, .unset, .unset, .unset] [(.int (268435455 : Int32)), (.int ((p5.toUInt32 >>> ((2 : Int32) &&& 31).toUInt32).toInt32))])) _
    refine XS.iand X0.here hx rfl (hb hby at_32) rfl ?_
    show Steps p.tables e below (s₁.setTop (mkF m 33 #[.val (.long p1), .second, .val (.long p2), .second, .val (.long p3), .second, .val (.long p4), .second, .val (.int p5), .val (.int p6), .val (.int (3 : Int32)), .val (.int (1 : Int32)), .val (.int (2 : Int32)), .unset, .unset, .unset, .unset, .unset, .unset, .unset, .unset, .unset, .unset, .unset, .unset, .unset] [(.int (((p5.toUInt32 >>> ((2 : Int32) &&& 31).toUInt32).toInt32) &&& (268435455 : Int32)))])) _
    refine XS.i2l X0.here hx rfl (hb hby at_33) rfl ?_
    show Steps p.tables e below (s₁.setTop (mkF m 34 #[.val (.long p1), .second, .val (.long p2), .second, .val (.long p3), .second, .val (.long p4), .second, .val (.int p5), .val (.int p6), .val (.int (3 : Int32)), .val (.int (1 : Int32)), .val (.int (2 : Int32)), .unset, .unset, .unset, .unset, .unset, .unset, .unset, .unset, .unset, .unset, .unset, .unset, .unset] [(.long ((((p5.toUInt32 >>> ((2 : Int32) &&& 31).toUInt32).toInt32) &&& (268435455 : Int32)).toInt64))])) _
    rw [← h_sl]
    show Steps p.tables e below (s₁.setTop (mkF m 34 #[.val (.long p1), .second, .val (.long p2), .second, .val (.long p3), .second, .val (.long p4), .second, .val (.int p5), .val (.int p6), .val (.int (3 : Int32)), .val (.int (1 : Int32)), .val (.int (2 : Int32)), .unset, .unset, .unset, .unset, .unset, .unset, .unset, .unset, .unset, .unset, .unset, .unset, .unset] [(.long sl)])) _
    refine XS.lstore X0.here hx rfl (hb hby at_34) rfl (l' := #[.val (.long p1), .second, .val (.long p2), .second, .val (.long p3), .second, .val (.long p4), .second, .val (.int p5), .val (.int p6), .val (.int (3 : Int32)), .val (.int (1 : Int32)), .val (.int (2 : Int32)), .val (.long sl), .second, .unset, .unset, .unset, .unset, .unset, .unset, .unset, .unset, .unset, .unset, .unset]) rfl ?_
    show Steps p.tables e below (s₁.setTop (mkF m 36 #[.val (.long p1), .second, .val (.long p2), .second, .val (.long p3), .second, .val (.long p4), .second, .val (.int p5), .val (.int p6), .val (.int (3 : Int32)), .val (.int (1 : Int32)), .val (.int (2 : Int32)), .val (.long sl), .second, .unset, .unset, .unset, .unset, .unset, .unset, .unset, .unset, .unset, .unset, .unset] [])) _
    refine XS.iload X0.here hx rfl (hb hby at_36) rfl ?_
    show Steps p.tables e below (s₁.setTop (mkF m 38 #[.val (.long p1), .second, .val (.long p2), .second, .val (.long p3), .second, .val (.long p4), .second, .val (.int p5), .val (.int p6), .val (.int (3 : Int32)), .val (.int (1 : Int32)), .val (.int (2 : Int32)), .val (.long sl), .second, .unset, .unset, .unset, .unset, .unset, .unset, .unset, .unset, .unset, .unset, .unset] [(.int p6)])) _
    refine XS.i2l X0.here hx rfl (hb hby at_38) rfl ?_
    show Steps p.tables e below (s₁.setTop (mkF m 39 #[.val (.long p1), .second, .val (.long p2), .second, .val (.long p3), .second, .val (.long p4), .second, .val (.int p5), .val (.int p6), .val (.int (3 : Int32)), .val (.int (1 : Int32)), .val (.int (2 : Int32)), .val (.long sl), .second, .unset, .unset, .unset, .unset, .unset, .unset, .unset, .unset, .unset, .unset, .unset] [(.long (p6.toInt64))])) _
    refine X0.ldc2Long hx hown (mvT hZ (hw _ (List.mem_of_getElem? (i := 1) rfl))) (g := (mkF m 39 #[.val (.long p1), .second, .val (.long p2), .second, .val (.long p3), .second, .val (.long p4), .second, .val (.int p5), .val (.int p6), .val (.int (3 : Int32)), .val (.int (1 : Int32)), .val (.int (2 : Int32)), .val (.long sl), .second, .unset, .unset, .unset, .unset, .unset, .unset, .unset, .unset, .unset, .unset, .unset] [(.long (p6.toInt64))])) rfl (hb hby at_39) _ ?_
    show Steps p.tables e below (s₁.setTop (mkF m 42 #[.val (.long p1), .second, .val (.long p2), .second, .val (.long p3), .second, .val (.long p4), .second, .val (.int p5), .val (.int p6), .val (.int (3 : Int32)), .val (.int (1 : Int32)), .val (.int (2 : Int32)), .val (.long sl), .second, .unset, .unset, .unset, .unset, .unset, .unset, .unset, .unset, .unset, .unset, .unset] [(.long (2147483647 : Int64)), (.long (p6.toInt64))])) _
    refine XS.land X0.here hx rfl (hb hby at_42) rfl ?_
    show Steps p.tables e below (s₁.setTop (mkF m 43 #[.val (.long p1), .second, .val (.long p2), .second, .val (.long p3), .second, .val (.long p4), .second, .val (.int p5), .val (.int p6), .val (.int (3 : Int32)), .val (.int (1 : Int32)), .val (.int (2 : Int32)), .val (.long sl), .second, .unset, .unset, .unset, .unset, .unset, .unset, .unset, .unset, .unset, .unset, .unset] [(.long ((p6.toInt64) &&& (2147483647 : Int64)))])) _
    rw [← h_tt1]
    show Steps p.tables e below (s₁.setTop (mkF m 43 #[.val (.long p1), .second, .val (.long p2), .second, .val (.long p3), .second, .val (.long p4), .second, .val (.int p5), .val (.int p6), .val (.int (3 : Int32)), .val (.int (1 : Int32)), .val (.int (2 : Int32)), .val (.long sl), .second, .unset, .unset, .unset, .unset, .unset, .unset, .unset, .unset, .unset, .unset, .unset] [(.long tt1)])) _
    refine XS.lstore X0.here hx rfl (hb hby at_43) rfl (l' := #[.val (.long p1), .second, .val (.long p2), .second, .val (.long p3), .second, .val (.long p4), .second, .val (.int p5), .val (.int p6), .val (.int (3 : Int32)), .val (.int (1 : Int32)), .val (.int (2 : Int32)), .val (.long sl), .second, .val (.long tt1), .second, .unset, .unset, .unset, .unset, .unset, .unset, .unset, .unset, .unset]) rfl ?_
    show Steps p.tables e below (s₁.setTop (mkF m 45 #[.val (.long p1), .second, .val (.long p2), .second, .val (.long p3), .second, .val (.long p4), .second, .val (.int p5), .val (.int p6), .val (.int (3 : Int32)), .val (.int (1 : Int32)), .val (.int (2 : Int32)), .val (.long sl), .second, .val (.long tt1), .second, .unset, .unset, .unset, .unset, .unset, .unset, .unset, .unset, .unset] [])) _
    refine XS.lload X0.here hx rfl (hb hby at_45) rfl ?_
    show Steps p.tables e below (s₁.setTop (mkF m 47 #[.val (.long p1), .second, .val (.long p2), .second, .val (.long p3), .second, .val (.long p4), .second, .val (.int p5), .val (.int p6), .val (.int (3 : Int32)), .val (.int (1 : Int32)), .val (.int (2 : Int32)), .val (.long sl), .second, .val (.long tt1), .second, .unset, .unset, .unset, .unset, .unset, .unset, .unset, .unset, .unset] [(.long tt1)])) _
    refine XS.lconst X0.here hx rfl (hb hby at_47) ?_
    show Steps p.tables e below (s₁.setTop (mkF m 48 #[.val (.long p1), .second, .val (.long p2), .second, .val (.long p3), .second, .val (.long p4), .second, .val (.int p5), .val (.int p6), .val (.int (3 : Int32)), .val (.int (1 : Int32)), .val (.int (2 : Int32)), .val (.long sl), .second, .val (.long tt1), .second, .unset, .unset, .unset, .unset, .unset, .unset, .unset, .unset, .unset] [(.long (1 : Int64)), (.long tt1)])) _
    refine XS.ladd X0.here hx rfl (hb hby at_48) rfl ?_
    show Steps p.tables e below (s₁.setTop (mkF m 49 #[.val (.long p1), .second, .val (.long p2), .second, .val (.long p3), .second, .val (.long p4), .second, .val (.int p5), .val (.int p6), .val (.int (3 : Int32)), .val (.int (1 : Int32)), .val (.int (2 : Int32)), .val (.long sl), .second, .val (.long tt1), .second, .unset, .unset, .unset, .unset, .unset, .unset, .unset, .unset, .unset] [(.long (tt1 + (1 : Int64)))])) _
    rw [← h_tt2]
    show Steps p.tables e below (s₁.setTop (mkF m 49 #[.val (.long p1), .second, .val (.long p2), .second, .val (.long p3), .second, .val (.long p4), .second, .val (.int p5), .val (.int p6), .val (.int (3 : Int32)), .val (.int (1 : Int32)), .val (.int (2 : Int32)), .val (.long sl), .second, .val (.long tt1), .second, .unset, .unset, .unset, .unset, .unset, .unset, .unset, .unset, .unset] [(.long tt2)])) _
    refine XS.lstore X0.here hx rfl (hb hby at_49) rfl (l' := #[.val (.long p1), .second, .val (.long p2), .second, .val (.long p3), .second, .val (.long p4), .second, .val (.int p5), .val (.int p6), .val (.int (3 : Int32)), .val (.int (1 : Int32)), .val (.int (2 : Int32)), .val (.long sl), .second, .val (.long tt1), .second, .val (.long tt2), .second, .unset, .unset, .unset, .unset, .unset, .unset, .unset]) rfl ?_
    show Steps p.tables e below (s₁.setTop (mkF m 51 #[.val (.long p1), .second, .val (.long p2), .second, .val (.long p3), .second, .val (.long p4), .second, .val (.int p5), .val (.int p6), .val (.int (3 : Int32)), .val (.int (1 : Int32)), .val (.int (2 : Int32)), .val (.long sl), .second, .val (.long tt1), .second, .val (.long tt2), .second, .unset, .unset, .unset, .unset, .unset, .unset, .unset] [])) _
    refine st1 _ ?_
    show Steps p.tables e below (T1.setTop (mkF m 54 #[.val (.long p1), .second, .val (.long p2), .second, .val (.long p3), .second, .val (.long p4), .second, .val (.int p5), .val (.int p6), .val (.int (3 : Int32)), .val (.int (1 : Int32)), .val (.int (2 : Int32)), .val (.long sl), .second, .val (.long tt1), .second, .val (.long tt2), .second, .unset, .unset, .unset, .unset, .unset, .unset, .unset] [(.ref b1)])) _
    refine XS.dup X1.here hx rfl (hb hby at_54) rfl rfl ?_
    show Steps p.tables e below (T1.setTop (mkF m 55 #[.val (.long p1), .second, .val (.long p2), .second, .val (.long p3), .second, .val (.long p4), .second, .val (.int p5), .val (.int p6), .val (.int (3 : Int32)), .val (.int (1 : Int32)), .val (.int (2 : Int32)), .val (.long sl), .second, .val (.long tt1), .second, .val (.long tt2), .second, .unset, .unset, .unset, .unset, .unset, .unset, .unset] [(.ref b1), (.ref b1)])) _
    refine XS.iconst X1.here hx rfl (hb hby at_55) ?_
    show Steps p.tables e below (T1.setTop (mkF m 56 #[.val (.long p1), .second, .val (.long p2), .second, .val (.long p3), .second, .val (.long p4), .second, .val (.int p5), .val (.int p6), .val (.int (3 : Int32)), .val (.int (1 : Int32)), .val (.int (2 : Int32)), .val (.long sl), .second, .val (.long tt1), .second, .val (.long tt2), .second, .unset, .unset, .unset, .unset, .unset, .unset, .unset] [(.int (0 : Int32)), (.ref b1), (.ref b1)])) _
    refine XS.iconst X1.here hx rfl (hb hby at_56) ?_
    show Steps p.tables e below (T1.setTop (mkF m 57 #[.val (.long p1), .second, .val (.long p2), .second, .val (.long p3), .second, .val (.long p4), .second, .val (.int p5), .val (.int p6), .val (.int (3 : Int32)), .val (.int (1 : Int32)), .val (.int (2 : Int32)), .val (.long sl), .second, .val (.long tt1), .second, .val (.long tt2), .second, .unset, .unset, .unset, .unset, .unset, .unset, .unset] [(.int (4 : Int32)), (.int (0 : Int32)), (.ref b1), (.ref b1)])) _
    refine XS.iconst X1.here hx rfl (hb hby at_57) ?_
    show Steps p.tables e below (T1.setTop (mkF m 58 #[.val (.long p1), .second, .val (.long p2), .second, .val (.long p3), .second, .val (.long p4), .second, .val (.int p5), .val (.int p6), .val (.int (3 : Int32)), .val (.int (1 : Int32)), .val (.int (2 : Int32)), .val (.long sl), .second, .val (.long tt1), .second, .val (.long tt2), .second, .unset, .unset, .unset, .unset, .unset, .unset, .unset] [(.int (3 : Int32)), (.int (4 : Int32)), (.int (0 : Int32)), (.ref b1), (.ref b1)])) _
    refine XS.lload X1.here hx rfl (hb hby at_58) rfl ?_
    show Steps p.tables e below (T1.setTop (mkF m 60 #[.val (.long p1), .second, .val (.long p2), .second, .val (.long p3), .second, .val (.long p4), .second, .val (.int p5), .val (.int p6), .val (.int (3 : Int32)), .val (.int (1 : Int32)), .val (.int (2 : Int32)), .val (.long sl), .second, .val (.long tt1), .second, .val (.long tt2), .second, .unset, .unset, .unset, .unset, .unset, .unset, .unset] [(.long sl), (.int (3 : Int32)), (.int (4 : Int32)), (.int (0 : Int32)), (.ref b1), (.ref b1)])) _
    refine XS.lconst X1.here hx rfl (hb hby at_60) ?_
    show Steps p.tables e below (T1.setTop (mkF m 61 #[.val (.long p1), .second, .val (.long p2), .second, .val (.long p3), .second, .val (.long p4), .second, .val (.int p5), .val (.int p6), .val (.int (3 : Int32)), .val (.int (1 : Int32)), .val (.int (2 : Int32)), .val (.long sl), .second, .val (.long tt1), .second, .val (.long tt2), .second, .unset, .unset, .unset, .unset, .unset, .unset, .unset] [(.long (0 : Int64)), (.long sl), (.int (3 : Int32)), (.int (4 : Int32)), (.int (0 : Int32)), (.ref b1), (.ref b1)])) _
    refine st2.trans ?_
    show Steps p.tables e below (T2.setTop (mkF m 64 #[.val (.long p1), .second, .val (.long p2), .second, .val (.long p3), .second, .val (.long p4), .second, .val (.int p5), .val (.int p6), .val (.int (3 : Int32)), .val (.int (1 : Int32)), .val (.int (2 : Int32)), .val (.long sl), .second, .val (.long tt1), .second, .val (.long tt2), .second, .unset, .unset, .unset, .unset, .unset, .unset, .unset] [(.ref b1)])) _
    refine XS.astore X2.here hx rfl (hb hby at_64) rfl rfl (l' := #[.val (.long p1), .second, .val (.long p2), .second, .val (.long p3), .second, .val (.long p4), .second, .val (.int p5), .val (.int p6), .val (.int (3 : Int32)), .val (.int (1 : Int32)), .val (.int (2 : Int32)), .val (.long sl), .second, .val (.long tt1), .second, .val (.long tt2), .second, .val (.ref b1), .unset, .unset, .unset, .unset, .unset, .unset]) rfl ?_
    show Steps p.tables e below (T2.setTop (mkF m 66 #[.val (.long p1), .second, .val (.long p2), .second, .val (.long p3), .second, .val (.long p4), .second, .val (.int p5), .val (.int p6), .val (.int (3 : Int32)), .val (.int (1 : Int32)), .val (.int (2 : Int32)), .val (.long sl), .second, .val (.long tt1), .second, .val (.long tt2), .second, .val (.ref b1), .unset, .unset, .unset, .unset, .unset, .unset] [])) _
    refine XS.aload X2.here hx rfl (hb hby at_66) rfl rfl ?_
    show Steps p.tables e below (T2.setTop (mkF m 68 #[.val (.long p1), .second, .val (.long p2), .second, .val (.long p3), .second, .val (.long p4), .second, .val (.int p5), .val (.int p6), .val (.int (3 : Int32)), .val (.int (1 : Int32)), .val (.int (2 : Int32)), .val (.long sl), .second, .val (.long tt1), .second, .val (.long tt2), .second, .val (.ref b1), .unset, .unset, .unset, .unset, .unset, .unset] [(.ref b1)])) _
    refine XS.iload X2.here hx rfl (hb hby at_68) rfl ?_
    show Steps p.tables e below (T2.setTop (mkF m 70 #[.val (.long p1), .second, .val (.long p2), .second, .val (.long p3), .second, .val (.long p4), .second, .val (.int p5), .val (.int p6), .val (.int (3 : Int32)), .val (.int (1 : Int32)), .val (.int (2 : Int32)), .val (.long sl), .second, .val (.long tt1), .second, .val (.long tt2), .second, .val (.ref b1), .unset, .unset, .unset, .unset, .unset, .unset] [(.int (3 : Int32)), (.ref b1)])) _
    refine XS.lloadN X2.here hx rfl (hb hby at_70) rfl ?_
    show Steps p.tables e below (T2.setTop (mkF m 71 #[.val (.long p1), .second, .val (.long p2), .second, .val (.long p3), .second, .val (.long p4), .second, .val (.int p5), .val (.int p6), .val (.int (3 : Int32)), .val (.int (1 : Int32)), .val (.int (2 : Int32)), .val (.long sl), .second, .val (.long tt1), .second, .val (.long tt2), .second, .val (.ref b1), .unset, .unset, .unset, .unset, .unset, .unset] [(.long p1), (.int (3 : Int32)), (.ref b1)])) _
    refine XS.lconst X2.here hx rfl (hb hby at_71) ?_
    show Steps p.tables e below (T2.setTop (mkF m 72 #[.val (.long p1), .second, .val (.long p2), .second, .val (.long p3), .second, .val (.long p4), .second, .val (.int p5), .val (.int p6), .val (.int (3 : Int32)), .val (.int (1 : Int32)), .val (.int (2 : Int32)), .val (.long sl), .second, .val (.long tt1), .second, .val (.long tt2), .second, .val (.ref b1), .unset, .unset, .unset, .unset, .unset, .unset] [(.long (0 : Int64)), (.long p1), (.int (3 : Int32)), (.ref b1)])) _
    refine st4.trans ?_
    show Steps p.tables e below (T4.setTop (mkF m 75 #[.val (.long p1), .second, .val (.long p2), .second, .val (.long p3), .second, .val (.long p4), .second, .val (.int p5), .val (.int p6), .val (.int (3 : Int32)), .val (.int (1 : Int32)), .val (.int (2 : Int32)), .val (.long sl), .second, .val (.long tt1), .second, .val (.long tt2), .second, .val (.ref b1), .unset, .unset, .unset, .unset, .unset, .unset] [])) _
    refine XS.aload X4.here hx rfl (hb hby at_75) rfl rfl ?_
    show Steps p.tables e below (T4.setTop (mkF m 77 #[.val (.long p1), .second, .val (.long p2), .second, .val (.long p3), .second, .val (.long p4), .second, .val (.int p5), .val (.int p6), .val (.int (3 : Int32)), .val (.int (1 : Int32)), .val (.int (2 : Int32)), .val (.long sl), .second, .val (.long tt1), .second, .val (.long tt2), .second, .val (.ref b1), .unset, .unset, .unset, .unset, .unset, .unset] [(.ref b1)])) _
    refine XS.iload X4.here hx rfl (hb hby at_77) rfl ?_
    show Steps p.tables e below (T4.setTop (mkF m 79 #[.val (.long p1), .second, .val (.long p2), .second, .val (.long p3), .second, .val (.long p4), .second, .val (.int p5), .val (.int p6), .val (.int (3 : Int32)), .val (.int (1 : Int32)), .val (.int (2 : Int32)), .val (.long sl), .second, .val (.long tt1), .second, .val (.long tt2), .second, .val (.ref b1), .unset, .unset, .unset, .unset, .unset, .unset] [(.int (1 : Int32)), (.ref b1)])) _
    refine XS.lloadN X4.here hx rfl (hb hby at_79) rfl ?_
    show Steps p.tables e below (T4.setTop (mkF m 80 #[.val (.long p1), .second, .val (.long p2), .second, .val (.long p3), .second, .val (.long p4), .second, .val (.int p5), .val (.int p6), .val (.int (3 : Int32)), .val (.int (1 : Int32)), .val (.int (2 : Int32)), .val (.long sl), .second, .val (.long tt1), .second, .val (.long tt2), .second, .val (.ref b1), .unset, .unset, .unset, .unset, .unset, .unset] [(.long p2), (.int (1 : Int32)), (.ref b1)])) _
    refine XS.lload X4.here hx rfl (hb hby at_80) rfl ?_
    show Steps p.tables e below (T4.setTop (mkF m 82 #[.val (.long p1), .second, .val (.long p2), .second, .val (.long p3), .second, .val (.long p4), .second, .val (.int p5), .val (.int p6), .val (.int (3 : Int32)), .val (.int (1 : Int32)), .val (.int (2 : Int32)), .val (.long sl), .second, .val (.long tt1), .second, .val (.long tt2), .second, .val (.ref b1), .unset, .unset, .unset, .unset, .unset, .unset] [(.long tt2), (.long p2), (.int (1 : Int32)), (.ref b1)])) _
    refine st6.trans ?_
    show Steps p.tables e below (T6.setTop (mkF m 85 #[.val (.long p1), .second, .val (.long p2), .second, .val (.long p3), .second, .val (.long p4), .second, .val (.int p5), .val (.int p6), .val (.int (3 : Int32)), .val (.int (1 : Int32)), .val (.int (2 : Int32)), .val (.long sl), .second, .val (.long tt1), .second, .val (.long tt2), .second, .val (.ref b1), .unset, .unset, .unset, .unset, .unset, .unset] [])) _
    refine XS.aload X6.here hx rfl (hb hby at_85) rfl rfl ?_
    show Steps p.tables e below (T6.setTop (mkF m 87 #[.val (.long p1), .second, .val (.long p2), .second, .val (.long p3), .second, .val (.long p4), .second, .val (.int p5), .val (.int p6), .val (.int (3 : Int32)), .val (.int (1 : Int32)), .val (.int (2 : Int32)), .val (.long sl), .second, .val (.long tt1), .second, .val (.long tt2), .second, .val (.ref b1), .unset, .unset, .unset, .unset, .unset, .unset] [(.ref b1)])) _
    refine XS.iload X6.here hx rfl (hb hby at_87) rfl ?_
    show Steps p.tables e below (T6.setTop (mkF m 89 #[.val (.long p1), .second, .val (.long p2), .second, .val (.long p3), .second, .val (.long p4), .second, .val (.int p5), .val (.int p6), .val (.int (3 : Int32)), .val (.int (1 : Int32)), .val (.int (2 : Int32)), .val (.long sl), .second, .val (.long tt1), .second, .val (.long tt2), .second, .val (.ref b1), .unset, .unset, .unset, .unset, .unset, .unset] [(.int (2 : Int32)), (.ref b1)])) _
    refine XS.lload X6.here hx rfl (hb hby at_89) rfl ?_
    show Steps p.tables e below (T6.setTop (mkF m 91 #[.val (.long p1), .second, .val (.long p2), .second, .val (.long p3), .second, .val (.long p4), .second, .val (.int p5), .val (.int p6), .val (.int (3 : Int32)), .val (.int (1 : Int32)), .val (.int (2 : Int32)), .val (.long sl), .second, .val (.long tt1), .second, .val (.long tt2), .second, .val (.ref b1), .unset, .unset, .unset, .unset, .unset, .unset] [(.long p3), (.int (2 : Int32)), (.ref b1)])) _
    refine XS.lload X6.here hx rfl (hb hby at_91) rfl ?_
    show Steps p.tables e below (T6.setTop (mkF m 93 #[.val (.long p1), .second, .val (.long p2), .second, .val (.long p3), .second, .val (.long p4), .second, .val (.int p5), .val (.int p6), .val (.int (3 : Int32)), .val (.int (1 : Int32)), .val (.int (2 : Int32)), .val (.long sl), .second, .val (.long tt1), .second, .val (.long tt2), .second, .val (.ref b1), .unset, .unset, .unset, .unset, .unset, .unset] [(.long tt2), (.long p3), (.int (2 : Int32)), (.ref b1)])) _
    refine st11.trans ?_
    show Steps p.tables e below (T11.setTop (mkF m 96 #[.val (.long p1), .second, .val (.long p2), .second, .val (.long p3), .second, .val (.long p4), .second, .val (.int p5), .val (.int p6), .val (.int (3 : Int32)), .val (.int (1 : Int32)), .val (.int (2 : Int32)), .val (.long sl), .second, .val (.long tt1), .second, .val (.long tt2), .second, .val (.ref b1), .unset, .unset, .unset, .unset, .unset, .unset] [])) _
    refine XS.aload X11.here hx rfl (hb hby at_96) rfl rfl ?_
    show Steps p.tables e below (T11.setTop (mkF m 98 #[.val (.long p1), .second, .val (.long p2), .second, .val (.long p3), .second, .val (.long p4), .second, .val (.int p5), .val (.int p6), .val (.int (3 : Int32)), .val (.int (1 : Int32)), .val (.int (2 : Int32)), .val (.long sl), .second, .val (.long tt1), .second, .val (.long tt2), .second, .val (.ref b1), .unset, .unset, .unset, .unset, .unset, .unset] [(.ref b1)])) _
    refine XS.iload X11.here hx rfl (hb hby at_98) rfl ?_
    show Steps p.tables e below (T11.setTop (mkF m 100 #[.val (.long p1), .second, .val (.long p2), .second, .val (.long p3), .second, .val (.long p4), .second, .val (.int p5), .val (.int p6), .val (.int (3 : Int32)), .val (.int (1 : Int32)), .val (.int (2 : Int32)), .val (.long sl), .second, .val (.long tt1), .second, .val (.long tt2), .second, .val (.ref b1), .unset, .unset, .unset, .unset, .unset, .unset] [(.int (3 : Int32)), (.ref b1)])) _
    refine XS.lload X11.here hx rfl (hb hby at_100) rfl ?_
    show Steps p.tables e below (T11.setTop (mkF m 102 #[.val (.long p1), .second, .val (.long p2), .second, .val (.long p3), .second, .val (.long p4), .second, .val (.int p5), .val (.int p6), .val (.int (3 : Int32)), .val (.int (1 : Int32)), .val (.int (2 : Int32)), .val (.long sl), .second, .val (.long tt1), .second, .val (.long tt2), .second, .val (.ref b1), .unset, .unset, .unset, .unset, .unset, .unset] [(.long tt1), (.int (3 : Int32)), (.ref b1)])) _
    refine st16.trans ?_
    show Steps p.tables e below (T16.setTop (mkF m 105 #[.val (.long p1), .second, .val (.long p2), .second, .val (.long p3), .second, .val (.long p4), .second, .val (.int p5), .val (.int p6), .val (.int (3 : Int32)), .val (.int (1 : Int32)), .val (.int (2 : Int32)), .val (.long sl), .second, .val (.long tt1), .second, .val (.long tt2), .second, .val (.ref b1), .unset, .unset, .unset, .unset, .unset, .unset] [])) _
    refine XS.aload X16.here hx rfl (hb hby at_105) rfl rfl ?_
    show Steps p.tables e below (T16.setTop (mkF m 107 #[.val (.long p1), .second, .val (.long p2), .second, .val (.long p3), .second, .val (.long p4), .second, .val (.int p5), .val (.int p6), .val (.int (3 : Int32)), .val (.int (1 : Int32)), .val (.int (2 : Int32)), .val (.long sl), .second, .val (.long tt1), .second, .val (.long tt2), .second, .val (.ref b1), .unset, .unset, .unset, .unset, .unset, .unset] [(.ref b1)])) _
    refine XS.lload X16.here hx rfl (hb hby at_107) rfl ?_
    show Steps p.tables e below (T16.setTop (mkF m 109 #[.val (.long p1), .second, .val (.long p2), .second, .val (.long p3), .second, .val (.long p4), .second, .val (.int p5), .val (.int p6), .val (.int (3 : Int32)), .val (.int (1 : Int32)), .val (.int (2 : Int32)), .val (.long sl), .second, .val (.long tt1), .second, .val (.long tt2), .second, .val (.ref b1), .unset, .unset, .unset, .unset, .unset, .unset] [(.long p4), (.ref b1)])) _
    refine XS.lload X16.here hx rfl (hb hby at_109) rfl ?_
    show Steps p.tables e below (T16.setTop (mkF m 111 #[.val (.long p1), .second, .val (.long p2), .second, .val (.long p3), .second, .val (.long p4), .second, .val (.int p5), .val (.int p6), .val (.int (3 : Int32)), .val (.int (1 : Int32)), .val (.int (2 : Int32)), .val (.long sl), .second, .val (.long tt1), .second, .val (.long tt2), .second, .val (.ref b1), .unset, .unset, .unset, .unset, .unset, .unset] [(.long tt1), (.long p4), (.ref b1)])) _
    refine XS.lload X16.here hx rfl (hb hby at_111) rfl ?_
    show Steps p.tables e below (T16.setTop (mkF m 113 #[.val (.long p1), .second, .val (.long p2), .second, .val (.long p3), .second, .val (.long p4), .second, .val (.int p5), .val (.int p6), .val (.int (3 : Int32)), .val (.int (1 : Int32)), .val (.int (2 : Int32)), .val (.long sl), .second, .val (.long tt1), .second, .val (.long tt2), .second, .val (.ref b1), .unset, .unset, .unset, .unset, .unset, .unset] [(.long sl), (.long tt1), (.long p4), (.ref b1)])) _
    refine XS.ladd X16.here hx rfl (hb hby at_113) rfl ?_
    show Steps p.tables e below (T16.setTop (mkF m 114 #[.val (.long p1), .second, .val (.long p2), .second, .val (.long p3), .second, .val (.long p4), .second, .val (.int p5), .val (.int p6), .val (.int (3 : Int32)), .val (.int (1 : Int32)), .val (.int (2 : Int32)), .val (.long sl), .second, .val (.long tt1), .second, .val (.long tt2), .second, .val (.ref b1), .unset, .unset, .unset, .unset, .unset, .unset] [(.long (tt1 + sl)), (.long p4), (.ref b1)])) _
    refine st21.trans ?_
    show Steps p.tables e below (T21.setTop (mkF m 117 #[.val (.long p1), .second, .val (.long p2), .second, .val (.long p3), .second, .val (.long p4), .second, .val (.int p5), .val (.int p6), .val (.int (3 : Int32)), .val (.int (1 : Int32)), .val (.int (2 : Int32)), .val (.long sl), .second, .val (.long tt1), .second, .val (.long tt2), .second, .val (.ref b1), .unset, .unset, .unset, .unset, .unset, .unset] [(.long (own_min (own_min (own_min p4 ((own_set (own_set (own_set (own_set (fun _ => (-9223372036854775808 : Int64)) 3 p1) 1 p2) 2 p3) 3 (-9223372036854775808 : Int64)) 1)) ((own_set (own_set (own_set (own_set (fun _ => (-9223372036854775808 : Int64)) 3 p1) 1 p2) 2 p3) 3 (-9223372036854775808 : Int64)) 2)) ((own_set (own_set (own_set (own_set (fun _ => (-9223372036854775808 : Int64)) 3 p1) 1 p2) 2 p3) 3 (-9223372036854775808 : Int64)) 3)))])) _
    rw [own_low _ _ _ _ (by first | exact Or.inl rfl | exact Or.inr (Or.inl rfl) | exact Or.inr (Or.inr rfl))]
    show Steps p.tables e below (T21.setTop (mkF m 117 #[.val (.long p1), .second, .val (.long p2), .second, .val (.long p3), .second, .val (.long p4), .second, .val (.int p5), .val (.int p6), .val (.int (3 : Int32)), .val (.int (1 : Int32)), .val (.int (2 : Int32)), .val (.long sl), .second, .val (.long tt1), .second, .val (.long tt2), .second, .val (.ref b1), .unset, .unset, .unset, .unset, .unset, .unset] [(.long (-9223372036854775808 : Int64))])) _
    refine XS.lstore X21.here hx rfl (hb hby at_117) rfl (l' := #[.val (.long p1), .second, .val (.long p2), .second, .val (.long p3), .second, .val (.long p4), .second, .val (.int p5), .val (.int p6), .val (.int (3 : Int32)), .val (.int (1 : Int32)), .val (.int (2 : Int32)), .val (.long sl), .second, .val (.long tt1), .second, .val (.long tt2), .second, .val (.ref b1), .val (.long (-9223372036854775808 : Int64)), .second, .unset, .unset, .unset, .unset]) rfl ?_
    show Steps p.tables e below (T21.setTop (mkF m 119 #[.val (.long p1), .second, .val (.long p2), .second, .val (.long p3), .second, .val (.long p4), .second, .val (.int p5), .val (.int p6), .val (.int (3 : Int32)), .val (.int (1 : Int32)), .val (.int (2 : Int32)), .val (.long sl), .second, .val (.long tt1), .second, .val (.long tt2), .second, .val (.ref b1), .val (.long (-9223372036854775808 : Int64)), .second, .unset, .unset, .unset, .unset] [])) _
    refine XS.aload X21.here hx rfl (hb hby at_119) rfl rfl ?_
    show Steps p.tables e below (T21.setTop (mkF m 121 #[.val (.long p1), .second, .val (.long p2), .second, .val (.long p3), .second, .val (.long p4), .second, .val (.int p5), .val (.int p6), .val (.int (3 : Int32)), .val (.int (1 : Int32)), .val (.int (2 : Int32)), .val (.long sl), .second, .val (.long tt1), .second, .val (.long tt2), .second, .val (.ref b1), .val (.long (-9223372036854775808 : Int64)), .second, .unset, .unset, .unset, .unset] [(.ref b1)])) _
    refine XS.lload X21.here hx rfl (hb hby at_121) rfl ?_
    show Steps p.tables e below (T21.setTop (mkF m 123 #[.val (.long p1), .second, .val (.long p2), .second, .val (.long p3), .second, .val (.long p4), .second, .val (.int p5), .val (.int p6), .val (.int (3 : Int32)), .val (.int (1 : Int32)), .val (.int (2 : Int32)), .val (.long sl), .second, .val (.long tt1), .second, .val (.long tt2), .second, .val (.ref b1), .val (.long (-9223372036854775808 : Int64)), .second, .unset, .unset, .unset, .unset] [(.long p4), (.ref b1)])) _
    refine XS.lload X21.here hx rfl (hb hby at_123) rfl ?_
    show Steps p.tables e below (T21.setTop (mkF m 125 #[.val (.long p1), .second, .val (.long p2), .second, .val (.long p3), .second, .val (.long p4), .second, .val (.int p5), .val (.int p6), .val (.int (3 : Int32)), .val (.int (1 : Int32)), .val (.int (2 : Int32)), .val (.long sl), .second, .val (.long tt1), .second, .val (.long tt2), .second, .val (.ref b1), .val (.long (-9223372036854775808 : Int64)), .second, .unset, .unset, .unset, .unset] [(.long tt1), (.long p4), (.ref b1)])) _
    refine XS.lload X21.here hx rfl (hb hby at_125) rfl ?_
    show Steps p.tables e below (T21.setTop (mkF m 127 #[.val (.long p1), .second, .val (.long p2), .second, .val (.long p3), .second, .val (.long p4), .second, .val (.int p5), .val (.int p6), .val (.int (3 : Int32)), .val (.int (1 : Int32)), .val (.int (2 : Int32)), .val (.long sl), .second, .val (.long tt1), .second, .val (.long tt2), .second, .val (.ref b1), .val (.long (-9223372036854775808 : Int64)), .second, .unset, .unset, .unset, .unset] [(.long sl), (.long tt1), (.long p4), (.ref b1)])) _
    refine XS.ladd X21.here hx rfl (hb hby at_127) rfl ?_
    show Steps p.tables e below (T21.setTop (mkF m 128 #[.val (.long p1), .second, .val (.long p2), .second, .val (.long p3), .second, .val (.long p4), .second, .val (.int p5), .val (.int p6), .val (.int (3 : Int32)), .val (.int (1 : Int32)), .val (.int (2 : Int32)), .val (.long sl), .second, .val (.long tt1), .second, .val (.long tt2), .second, .val (.ref b1), .val (.long (-9223372036854775808 : Int64)), .second, .unset, .unset, .unset, .unset] [(.long (tt1 + sl)), (.long p4), (.ref b1)])) _
    refine XS.lconst X21.here hx rfl (hb hby at_128) ?_
    show Steps p.tables e below (T21.setTop (mkF m 129 #[.val (.long p1), .second, .val (.long p2), .second, .val (.long p3), .second, .val (.long p4), .second, .val (.int p5), .val (.int p6), .val (.int (3 : Int32)), .val (.int (1 : Int32)), .val (.int (2 : Int32)), .val (.long sl), .second, .val (.long tt1), .second, .val (.long tt2), .second, .val (.ref b1), .val (.long (-9223372036854775808 : Int64)), .second, .unset, .unset, .unset, .unset] [(.long (1 : Int64)), (.long (tt1 + sl)), (.long p4), (.ref b1)])) _
    refine XS.ladd X21.here hx rfl (hb hby at_129) rfl ?_
    show Steps p.tables e below (T21.setTop (mkF m 130 #[.val (.long p1), .second, .val (.long p2), .second, .val (.long p3), .second, .val (.long p4), .second, .val (.int p5), .val (.int p6), .val (.int (3 : Int32)), .val (.int (1 : Int32)), .val (.int (2 : Int32)), .val (.long sl), .second, .val (.long tt1), .second, .val (.long tt2), .second, .val (.ref b1), .val (.long (-9223372036854775808 : Int64)), .second, .unset, .unset, .unset, .unset] [(.long ((tt1 + sl) + (1 : Int64))), (.long p4), (.ref b1)])) _
    refine st29.trans ?_
    show Steps p.tables e below (T29.setTop (mkF m 133 #[.val (.long p1), .second, .val (.long p2), .second, .val (.long p3), .second, .val (.long p4), .second, .val (.int p5), .val (.int p6), .val (.int (3 : Int32)), .val (.int (1 : Int32)), .val (.int (2 : Int32)), .val (.long sl), .second, .val (.long tt1), .second, .val (.long tt2), .second, .val (.ref b1), .val (.long (-9223372036854775808 : Int64)), .second, .unset, .unset, .unset, .unset] [(.long (own_min (own_min p4 p2) p3))])) _
    refine XS.lstore X29.here hx rfl (hb hby at_133) rfl (l' := #[.val (.long p1), .second, .val (.long p2), .second, .val (.long p3), .second, .val (.long p4), .second, .val (.int p5), .val (.int p6), .val (.int (3 : Int32)), .val (.int (1 : Int32)), .val (.int (2 : Int32)), .val (.long sl), .second, .val (.long tt1), .second, .val (.long tt2), .second, .val (.ref b1), .val (.long (-9223372036854775808 : Int64)), .second, .val (.long (own_min (own_min p4 p2) p3)), .second, .unset, .unset]) rfl ?_
    show Steps p.tables e below (T29.setTop (mkF m 135 #[.val (.long p1), .second, .val (.long p2), .second, .val (.long p3), .second, .val (.long p4), .second, .val (.int p5), .val (.int p6), .val (.int (3 : Int32)), .val (.int (1 : Int32)), .val (.int (2 : Int32)), .val (.long sl), .second, .val (.long tt1), .second, .val (.long tt2), .second, .val (.ref b1), .val (.long (-9223372036854775808 : Int64)), .second, .val (.long (own_min (own_min p4 p2) p3)), .second, .unset, .unset] [])) _
    refine XS.lload X29.here hx rfl (hb hby at_135) rfl ?_
    show Steps p.tables e below (T29.setTop (mkF m 137 #[.val (.long p1), .second, .val (.long p2), .second, .val (.long p3), .second, .val (.long p4), .second, .val (.int p5), .val (.int p6), .val (.int (3 : Int32)), .val (.int (1 : Int32)), .val (.int (2 : Int32)), .val (.long sl), .second, .val (.long tt1), .second, .val (.long tt2), .second, .val (.ref b1), .val (.long (-9223372036854775808 : Int64)), .second, .val (.long (own_min (own_min p4 p2) p3)), .second, .unset, .unset] [(.long (-9223372036854775808 : Int64))])) _
    refine X29.ldc2Long hx hown (mvT hZ (hw _ (List.mem_of_getElem? (i := 55) rfl))) (g := (mkF m 137 #[.val (.long p1), .second, .val (.long p2), .second, .val (.long p3), .second, .val (.long p4), .second, .val (.int p5), .val (.int p6), .val (.int (3 : Int32)), .val (.int (1 : Int32)), .val (.int (2 : Int32)), .val (.long sl), .second, .val (.long tt1), .second, .val (.long tt2), .second, .val (.ref b1), .val (.long (-9223372036854775808 : Int64)), .second, .val (.long (own_min (own_min p4 p2) p3)), .second, .unset, .unset] [(.long (-9223372036854775808 : Int64))])) rfl (hb hby at_137) _ ?_
    show Steps p.tables e below (T29.setTop (mkF m 140 #[.val (.long p1), .second, .val (.long p2), .second, .val (.long p3), .second, .val (.long p4), .second, .val (.int p5), .val (.int p6), .val (.int (3 : Int32)), .val (.int (1 : Int32)), .val (.int (2 : Int32)), .val (.long sl), .second, .val (.long tt1), .second, .val (.long tt2), .second, .val (.ref b1), .val (.long (-9223372036854775808 : Int64)), .second, .val (.long (own_min (own_min p4 p2) p3)), .second, .unset, .unset] [(.long (-9223372036854775808 : Int64)), (.long (-9223372036854775808 : Int64))])) _
    refine XS.lcmp X29.here hx rfl (hb hby at_140) rfl ?_
    show Steps p.tables e below (T29.setTop (mkF m 141 #[.val (.long p1), .second, .val (.long p2), .second, .val (.long p3), .second, .val (.long p4), .second, .val (.int p5), .val (.int p6), .val (.int (3 : Int32)), .val (.int (1 : Int32)), .val (.int (2 : Int32)), .val (.long sl), .second, .val (.long tt1), .second, .val (.long tt2), .second, .val (.ref b1), .val (.long (-9223372036854775808 : Int64)), .second, .val (.long (own_min (own_min p4 p2) p3)), .second, .unset, .unset] [(.int (lcmpW (-9223372036854775808 : Int64) (-9223372036854775808 : Int64)))])) _
    refine XS.ifNo X29.here hx rfl (hb hby at_141) rfl ((if0 _ _).trans (teq (show (lcmpW (-9223372036854775808 : Int64) (-9223372036854775808 : Int64)) = (0 : Int32) from ((lw_eq _ _).mpr rfl))).2) ?_
    show Steps p.tables e below (T29.setTop (mkF m 144 #[.val (.long p1), .second, .val (.long p2), .second, .val (.long p3), .second, .val (.long p4), .second, .val (.int p5), .val (.int p6), .val (.int (3 : Int32)), .val (.int (1 : Int32)), .val (.int (2 : Int32)), .val (.long sl), .second, .val (.long tt1), .second, .val (.long tt2), .second, .val (.ref b1), .val (.long (-9223372036854775808 : Int64)), .second, .val (.long (own_min (own_min p4 p2) p3)), .second, .unset, .unset] [])) _
    refine XS.iconst X29.here hx rfl (hb hby at_144) ?_
    show Steps p.tables e below (T29.setTop (mkF m 145 #[.val (.long p1), .second, .val (.long p2), .second, .val (.long p3), .second, .val (.long p4), .second, .val (.int p5), .val (.int p6), .val (.int (3 : Int32)), .val (.int (1 : Int32)), .val (.int (2 : Int32)), .val (.long sl), .second, .val (.long tt1), .second, .val (.long tt2), .second, .val (.ref b1), .val (.long (-9223372036854775808 : Int64)), .second, .val (.long (own_min (own_min p4 p2) p3)), .second, .unset, .unset] [(.int (1 : Int32))])) _
    refine XS.goto X29.here hx rfl (pc0 := 145) (pc' := 149) rfl (hb hby at_145) (by decide) (by decide) ?_
    show Steps p.tables e below (T29.setTop (mkF m 149 #[.val (.long p1), .second, .val (.long p2), .second, .val (.long p3), .second, .val (.long p4), .second, .val (.int p5), .val (.int p6), .val (.int (3 : Int32)), .val (.int (1 : Int32)), .val (.int (2 : Int32)), .val (.long sl), .second, .val (.long tt1), .second, .val (.long tt2), .second, .val (.ref b1), .val (.long (-9223372036854775808 : Int64)), .second, .val (.long (own_min (own_min p4 p2) p3)), .second, .unset, .unset] [(.int (1 : Int32))])) _
    refine XS.istore X29.here hx rfl (hb hby at_149) rfl (l' := #[.val (.long p1), .second, .val (.long p2), .second, .val (.long p3), .second, .val (.long p4), .second, .val (.int p5), .val (.int p6), .val (.int (3 : Int32)), .val (.int (1 : Int32)), .val (.int (2 : Int32)), .val (.long sl), .second, .val (.long tt1), .second, .val (.long tt2), .second, .val (.ref b1), .val (.long (-9223372036854775808 : Int64)), .second, .val (.long (own_min (own_min p4 p2) p3)), .second, .val (.int (1 : Int32)), .unset]) rfl ?_
    show Steps p.tables e below (T29.setTop (mkF m 151 #[.val (.long p1), .second, .val (.long p2), .second, .val (.long p3), .second, .val (.long p4), .second, .val (.int p5), .val (.int p6), .val (.int (3 : Int32)), .val (.int (1 : Int32)), .val (.int (2 : Int32)), .val (.long sl), .second, .val (.long tt1), .second, .val (.long tt2), .second, .val (.ref b1), .val (.long (-9223372036854775808 : Int64)), .second, .val (.long (own_min (own_min p4 p2) p3)), .second, .val (.int (1 : Int32)), .unset] [])) _
    refine XS.lload X29.here hx rfl (hb hby at_151) rfl ?_
    show Steps p.tables e below (T29.setTop (mkF m 153 #[.val (.long p1), .second, .val (.long p2), .second, .val (.long p3), .second, .val (.long p4), .second, .val (.int p5), .val (.int p6), .val (.int (3 : Int32)), .val (.int (1 : Int32)), .val (.int (2 : Int32)), .val (.long sl), .second, .val (.long tt1), .second, .val (.long tt2), .second, .val (.ref b1), .val (.long (-9223372036854775808 : Int64)), .second, .val (.long (own_min (own_min p4 p2) p3)), .second, .val (.int (1 : Int32)), .unset] [(.long (own_min (own_min p4 p2) p3))])) _
    refine XS.lload X29.here hx rfl (hb hby at_153) rfl ?_
    show Steps p.tables e below (T29.setTop (mkF m 155 #[.val (.long p1), .second, .val (.long p2), .second, .val (.long p3), .second, .val (.long p4), .second, .val (.int p5), .val (.int p6), .val (.int (3 : Int32)), .val (.int (1 : Int32)), .val (.int (2 : Int32)), .val (.long sl), .second, .val (.long tt1), .second, .val (.long tt2), .second, .val (.ref b1), .val (.long (-9223372036854775808 : Int64)), .second, .val (.long (own_min (own_min p4 p2) p3)), .second, .val (.int (1 : Int32)), .unset] [(.long p4), (.long (own_min (own_min p4 p2) p3))])) _
    refine XS.lloadN X29.here hx rfl (hb hby at_155) rfl ?_
    show Steps p.tables e below (T29.setTop (mkF m 156 #[.val (.long p1), .second, .val (.long p2), .second, .val (.long p3), .second, .val (.long p4), .second, .val (.int p5), .val (.int p6), .val (.int (3 : Int32)), .val (.int (1 : Int32)), .val (.int (2 : Int32)), .val (.long sl), .second, .val (.long tt1), .second, .val (.long tt2), .second, .val (.ref b1), .val (.long (-9223372036854775808 : Int64)), .second, .val (.long (own_min (own_min p4 p2) p3)), .second, .val (.int (1 : Int32)), .unset] [(.long p2), (.long p4), (.long (own_min (own_min p4 p2) p3))])) _
    refine XS.lload X29.here hx rfl (hb hby at_156) rfl ?_
    show Steps p.tables e below (T29.setTop (mkF m 158 #[.val (.long p1), .second, .val (.long p2), .second, .val (.long p3), .second, .val (.long p4), .second, .val (.int p5), .val (.int p6), .val (.int (3 : Int32)), .val (.int (1 : Int32)), .val (.int (2 : Int32)), .val (.long sl), .second, .val (.long tt1), .second, .val (.long tt2), .second, .val (.ref b1), .val (.long (-9223372036854775808 : Int64)), .second, .val (.long (own_min (own_min p4 p2) p3)), .second, .val (.int (1 : Int32)), .unset] [(.long p3), (.long p2), (.long p4), (.long (own_min (own_min p4 p2) p3))])) _
    refine st30 _ ?_
    show Steps p.tables e below (T30.setTop (mkF m 161 #[.val (.long p1), .second, .val (.long p2), .second, .val (.long p3), .second, .val (.long p4), .second, .val (.int p5), .val (.int p6), .val (.int (3 : Int32)), .val (.int (1 : Int32)), .val (.int (2 : Int32)), .val (.long sl), .second, .val (.long tt1), .second, .val (.long tt2), .second, .val (.ref b1), .val (.long (-9223372036854775808 : Int64)), .second, .val (.long (own_min (own_min p4 p2) p3)), .second, .val (.int (1 : Int32)), .unset] [(.long (own_min p2 p3)), (.long p4), (.long (own_min (own_min p4 p2) p3))])) _
    refine st31 _ ?_
    show Steps p.tables e below (T31.setTop (mkF m 164 #[.val (.long p1), .second, .val (.long p2), .second, .val (.long p3), .second, .val (.long p4), .second, .val (.int p5), .val (.int p6), .val (.int (3 : Int32)), .val (.int (1 : Int32)), .val (.int (2 : Int32)), .val (.long sl), .second, .val (.long tt1), .second, .val (.long tt2), .second, .val (.ref b1), .val (.long (-9223372036854775808 : Int64)), .second, .val (.long (own_min (own_min p4 p2) p3)), .second, .val (.int (1 : Int32)), .unset] [(.long (own_min p4 (own_min p2 p3))), (.long (own_min (own_min p4 p2) p3))])) _
    refine XS.lcmp X31.here hx rfl (hb hby at_164) rfl ?_
    show Steps p.tables e below (T31.setTop (mkF m 165 #[.val (.long p1), .second, .val (.long p2), .second, .val (.long p3), .second, .val (.long p4), .second, .val (.int p5), .val (.int p6), .val (.int (3 : Int32)), .val (.int (1 : Int32)), .val (.int (2 : Int32)), .val (.long sl), .second, .val (.long tt1), .second, .val (.long tt2), .second, .val (.ref b1), .val (.long (-9223372036854775808 : Int64)), .second, .val (.long (own_min (own_min p4 p2) p3)), .second, .val (.int (1 : Int32)), .unset] [(.int (lcmpW (own_min (own_min p4 p2) p3) (own_min p4 (own_min p2 p3))))])) _
    refine XS.ifNo X31.here hx rfl (hb hby at_165) rfl ((if0 _ _).trans (teq (show (lcmpW (own_min (own_min p4 p2) p3) (own_min p4 (own_min p2 p3))) = (0 : Int32) from ((lw_eq _ _).mpr (own_minA p4 p2 p3)))).2) ?_
    show Steps p.tables e below (T31.setTop (mkF m 168 #[.val (.long p1), .second, .val (.long p2), .second, .val (.long p3), .second, .val (.long p4), .second, .val (.int p5), .val (.int p6), .val (.int (3 : Int32)), .val (.int (1 : Int32)), .val (.int (2 : Int32)), .val (.long sl), .second, .val (.long tt1), .second, .val (.long tt2), .second, .val (.ref b1), .val (.long (-9223372036854775808 : Int64)), .second, .val (.long (own_min (own_min p4 p2) p3)), .second, .val (.int (1 : Int32)), .unset] [])) _
    refine XS.iconst X31.here hx rfl (hb hby at_168) ?_
    show Steps p.tables e below (T31.setTop (mkF m 169 #[.val (.long p1), .second, .val (.long p2), .second, .val (.long p3), .second, .val (.long p4), .second, .val (.int p5), .val (.int p6), .val (.int (3 : Int32)), .val (.int (1 : Int32)), .val (.int (2 : Int32)), .val (.long sl), .second, .val (.long tt1), .second, .val (.long tt2), .second, .val (.ref b1), .val (.long (-9223372036854775808 : Int64)), .second, .val (.long (own_min (own_min p4 p2) p3)), .second, .val (.int (1 : Int32)), .unset] [(.int (1 : Int32))])) _
    refine XS.goto X31.here hx rfl (pc0 := 169) (pc' := 173) rfl (hb hby at_169) (by decide) (by decide) ?_
    show Steps p.tables e below (T31.setTop (mkF m 173 #[.val (.long p1), .second, .val (.long p2), .second, .val (.long p3), .second, .val (.long p4), .second, .val (.int p5), .val (.int p6), .val (.int (3 : Int32)), .val (.int (1 : Int32)), .val (.int (2 : Int32)), .val (.long sl), .second, .val (.long tt1), .second, .val (.long tt2), .second, .val (.ref b1), .val (.long (-9223372036854775808 : Int64)), .second, .val (.long (own_min (own_min p4 p2) p3)), .second, .val (.int (1 : Int32)), .unset] [(.int (1 : Int32))])) _
    refine XS.istore X31.here hx rfl (hb hby at_173) rfl (l' := #[.val (.long p1), .second, .val (.long p2), .second, .val (.long p3), .second, .val (.long p4), .second, .val (.int p5), .val (.int p6), .val (.int (3 : Int32)), .val (.int (1 : Int32)), .val (.int (2 : Int32)), .val (.long sl), .second, .val (.long tt1), .second, .val (.long tt2), .second, .val (.ref b1), .val (.long (-9223372036854775808 : Int64)), .second, .val (.long (own_min (own_min p4 p2) p3)), .second, .val (.int (1 : Int32)), .val (.int (1 : Int32))]) rfl ?_
    show Steps p.tables e below (T31.setTop (mkF m 175 #[.val (.long p1), .second, .val (.long p2), .second, .val (.long p3), .second, .val (.long p4), .second, .val (.int p5), .val (.int p6), .val (.int (3 : Int32)), .val (.int (1 : Int32)), .val (.int (2 : Int32)), .val (.long sl), .second, .val (.long tt1), .second, .val (.long tt2), .second, .val (.ref b1), .val (.long (-9223372036854775808 : Int64)), .second, .val (.long (own_min (own_min p4 p2) p3)), .second, .val (.int (1 : Int32)), .val (.int (1 : Int32))] [])) _
    refine XS.iload X31.here hx rfl (hb hby at_175) rfl ?_
    show Steps p.tables e below (T31.setTop (mkF m 177 #[.val (.long p1), .second, .val (.long p2), .second, .val (.long p3), .second, .val (.long p4), .second, .val (.int p5), .val (.int p6), .val (.int (3 : Int32)), .val (.int (1 : Int32)), .val (.int (2 : Int32)), .val (.long sl), .second, .val (.long tt1), .second, .val (.long tt2), .second, .val (.ref b1), .val (.long (-9223372036854775808 : Int64)), .second, .val (.long (own_min (own_min p4 p2) p3)), .second, .val (.int (1 : Int32)), .val (.int (1 : Int32))] [(.int (1 : Int32))])) _
    refine XS.ifNo X31.here hx rfl (hb hby at_177) rfl ((if0 _ _).trans (feq (show ¬ ((1 : Int32) = (0 : Int32)) from (by decide))).1) ?_
    show Steps p.tables e below (T31.setTop (mkF m 180 #[.val (.long p1), .second, .val (.long p2), .second, .val (.long p3), .second, .val (.long p4), .second, .val (.int p5), .val (.int p6), .val (.int (3 : Int32)), .val (.int (1 : Int32)), .val (.int (2 : Int32)), .val (.long sl), .second, .val (.long tt1), .second, .val (.long tt2), .second, .val (.ref b1), .val (.long (-9223372036854775808 : Int64)), .second, .val (.long (own_min (own_min p4 p2) p3)), .second, .val (.int (1 : Int32)), .val (.int (1 : Int32))] [])) _
    refine XS.iload X31.here hx rfl (hb hby at_180) rfl ?_
    show Steps p.tables e below (T31.setTop (mkF m 182 #[.val (.long p1), .second, .val (.long p2), .second, .val (.long p3), .second, .val (.long p4), .second, .val (.int p5), .val (.int p6), .val (.int (3 : Int32)), .val (.int (1 : Int32)), .val (.int (2 : Int32)), .val (.long sl), .second, .val (.long tt1), .second, .val (.long tt2), .second, .val (.ref b1), .val (.long (-9223372036854775808 : Int64)), .second, .val (.long (own_min (own_min p4 p2) p3)), .second, .val (.int (1 : Int32)), .val (.int (1 : Int32))] [(.int (1 : Int32))])) _
    refine XS.ifNo X31.here hx rfl (hb hby at_182) rfl ((if0 _ _).trans (feq (show ¬ ((1 : Int32) = (0 : Int32)) from (by decide))).1) ?_
    show Steps p.tables e below (T31.setTop (mkF m 185 #[.val (.long p1), .second, .val (.long p2), .second, .val (.long p3), .second, .val (.long p4), .second, .val (.int p5), .val (.int p6), .val (.int (3 : Int32)), .val (.int (1 : Int32)), .val (.int (2 : Int32)), .val (.long sl), .second, .val (.long tt1), .second, .val (.long tt2), .second, .val (.ref b1), .val (.long (-9223372036854775808 : Int64)), .second, .val (.long (own_min (own_min p4 p2) p3)), .second, .val (.int (1 : Int32)), .val (.int (1 : Int32))] [])) _
    refine XS.iconst X31.here hx rfl (hb hby at_185) ?_
    show Steps p.tables e below (T31.setTop (mkF m 186 #[.val (.long p1), .second, .val (.long p2), .second, .val (.long p3), .second, .val (.long p4), .second, .val (.int p5), .val (.int p6), .val (.int (3 : Int32)), .val (.int (1 : Int32)), .val (.int (2 : Int32)), .val (.long sl), .second, .val (.long tt1), .second, .val (.long tt2), .second, .val (.ref b1), .val (.long (-9223372036854775808 : Int64)), .second, .val (.long (own_min (own_min p4 p2) p3)), .second, .val (.int (1 : Int32)), .val (.int (1 : Int32))] [(.int (1 : Int32))])) _
    refine XS.goto X31.here hx rfl (pc0 := 186) (pc' := 190) rfl (hb hby at_186) (by decide) (by decide) ?_
    show Steps p.tables e below (T31.setTop (mkF m 190 #[.val (.long p1), .second, .val (.long p2), .second, .val (.long p3), .second, .val (.long p4), .second, .val (.int p5), .val (.int p6), .val (.int (3 : Int32)), .val (.int (1 : Int32)), .val (.int (2 : Int32)), .val (.long sl), .second, .val (.long tt1), .second, .val (.long tt2), .second, .val (.ref b1), .val (.long (-9223372036854775808 : Int64)), .second, .val (.long (own_min (own_min p4 p2) p3)), .second, .val (.int (1 : Int32)), .val (.int (1 : Int32))] [(.int (1 : Int32))])) _
    exact retN X31 hx (t := .boolean) Bd.returns (by simp) (hb hby at_190) hr
  · show Qrm0 Z p1 p2 p3 p4 p5 p6 h0 n0 _ T31.heap _
    rw [e31q]
    exact ⟨rfl, N31⟩
set_option maxRecDepth 65536 in
set_option maxHeartbeats 40000000 in
theorem rm0_3 (l : Launch) (Z : State) (a0 : Array Value) (hw : ∀ d ∈ tables_1, d.before a0 Z = true) (ws : List Jvm.Cond) (p1 : Int64) (p2 : Int64) (p3 : Int64) (p4 : Int64) (p5 : Int32) (p6 : Int32) (h0 : Heap) (n0 : Nat) (Z0 : n0 ≤ h0.size) (hk : (p5 &&& (3 : Int32)) = (3 : Int32)) :
    MetFree l x (head1 (Jvm.Cond.code x code maxLocals ret :: ws) room_1) (fun aa_ U => aa_ = #[(.long p1), (.long p2), (.long p3), (.long p4), (.int p5), (.int p6)] ∧ Z.Warmed39 U.vm ∧ U.heap = h0) (fun _ _ _ _ _ => True) (fun _ U o U' => ∃ v L, o = .returned v ∧ Qrm0 Z p1 p2 p3 p4 p5 p6 h0 n0 v U'.heap L ∧ FrameEnd U o U' L room_1.cells room_1.slots) := by
  refine MetFree.of_bodySF (plainFor_of_name pn_3) hisR ?_
  intro p e s m args below meth c s₁ Bd hml0 hP hK
  obtain ⟨rfl, hZ, hh⟩ := hP
  have hx := Bd.exec
  have hby := Bd.bytes
  have hml : c.maxLocals = 26 := hml0
  have hown : s.vm.findClass "stillmark/StableTimesRestartedPinLaw" = some m.cls := findClass_of_methodNamed Bd.named
  have hnm := (name_of_methodNamed Bd.named Bd.method).1
  have X0 : Stand p l e room_1 s m #[(.long p1), (.long p2), (.long p3), (.long p4), (.int p5), (.int p6)] below meth c s₁ [] 0 0 := Stand.of_body Bd
  have e0 : s₁.heap = h0 := by rw [← hh, Bd.state]; rfl
  have N0 := Fr.nil n0
  have pre0 : ∀ tt_, Steps p.tables e below (s₁.setTop (mkF m 0 #[.val (.long p1), .second, .val (.long p2), .second, .val (.long p3), .second, .val (.long p4), .second, .val (.int p5), .val (.int p6), .unset, .unset, .unset, .unset, .unset, .unset, .unset, .unset, .unset, .unset, .unset, .unset, .unset, .unset, .unset, .unset] [])) tt_ → Steps p.tables e below (s₁.setTop (entryFrame m #[(.long p1), (.long p2), (.long p3), (.long p4), (.int p5), (.int p6)] maxLocals)) tt_ := fun tt_ kk_ => castTop (ef_0 m p1 p2 p3 p4 p5 p6) kk_
  obtain ⟨sl, h_sl⟩ : ∃ zz_ : Int64, zz_ = ((((p5.toUInt32 >>> ((2 : Int32) &&& 31).toUInt32).toInt32) &&& (268435455 : Int32)).toInt64) := ⟨_, rfl⟩
  obtain ⟨tt1, h_tt1⟩ : ∃ zz_ : Int64, zz_ = ((p6.toInt64) &&& (2147483647 : Int64)) := ⟨_, rfl⟩
  obtain ⟨tt2, h_tt2⟩ : ∃ zz_ : Int64, zz_ = (tt1 + (1 : Int64)) := ⟨_, rfl⟩
  have ht1 := own_t p6
  rw [← h_tt1] at ht1
  have hup : tt1 < tt2 := by rw [h_tt2]; exact own_up tt1 ht1
  obtain ⟨T1, h1, X1, e1, E1, A1, D1, -, st1⟩ := newO X0 hx hZ hown (hw _ (List.mem_of_getElem? (i := 2) rfl)) (hw _ (List.mem_of_getElem? (i := 3) rfl)) (hw _ (List.mem_of_getElem? (i := 4) rfl)) e0 (g := (mkF m 51 #[.val (.long p1), .second, .val (.long p2), .second, .val (.long p3), .second, .val (.long p4), .second, .val (.int p5), .val (.int p6), .val (.int (1 : Int32)), .val (.int (2 : Int32)), .val (.int (3 : Int32)), .val (.long sl), .second, .val (.long tt1), .second, .val (.long tt2), .second, .unset, .unset, .unset, .unset, .unset, .unset, .unset] [])) rfl (hb hby at_51) (by decide) (by decide)
  obtain ⟨b1, g1⟩ : ∃ zz_, zz_ = h0.size := ⟨_, rfl⟩
  rw [← g1] at A1 D1 st1
  have g_b1 : n0 ≤ b1 := Nat.le_trans Z0 (Nat.le_of_eq g1.symm)
  have sz_b1 : h0.size ≤ b1 := Nat.le_trans (Keep.refl h0 []).1 (Nat.le_of_eq g1.symm)
  have F_own_b1 : Fld Z h1 b1 "stillmark/StableTimes" "own" "I" (.int (0 : Int32)) := D1 (Or.inr (hw _ (List.mem_of_getElem? (i := 12) rfl))) (ty := .int) (by decide)
  have F_majority_b1 : Fld Z h1 b1 "stillmark/StableTimes" "majority" "I" (.int (0 : Int32)) := D1 (Or.inr (hw _ (List.mem_of_getElem? (i := 14) rfl))) (ty := .int) (by decide)
  have F_silence_b1 : Fld Z h1 b1 "stillmark/StableTimes" "silence" "J" (.long (0 : Int64)) := D1 (Or.inr (hw _ (List.mem_of_getElem? (i := 16) rfl))) (ty := .long) (by decide)
  have F_told_b1 : Fld Z h1 b1 "stillmark/StableTimes" "told" "[J" .null := D1 (Or.inr (hw _ (List.mem_of_getElem? (i := 19) rfl))) (ty := (.array .long)) (by decide)
  have F_heard_b1 : Fld Z h1 b1 "stillmark/StableTimes" "heard" "[J" .null := D1 (Or.inr (hw _ (List.mem_of_getElem? (i := 21) rfl))) (ty := (.array .long)) (by decide)
  have sz3 : n0 ≤ h1.size := (Nat.le_trans Z0 E1.1)
  obtain ⟨_, _, ⟨T2, L2, k2, n2⟩, -, X2, ⟨Lc2, hQ2, l2, y2, z2⟩, st2⟩ := X1.specialBack hx (y := (⟨"stillmark/StableTimes", "<init>", "(IIIJJ)V"⟩ : MethodName)) rfl hown (mvT hZ (hw _ (List.mem_of_getElem? (i := 5) rfl))) (mvT hZ (hw _ (List.mem_of_getElem? (i := 6) rfl))) (mvT hZ (hw _ (List.mem_of_getElem? (i := 7) rfl))) (by decide) (backOf (W := 1) (rm1 l Z a0 hw [] b1 sl (0 : Int64) h1 n0 sz3 A1 F_own_b1 F_majority_b1 F_silence_b1 F_told_b1 F_heard_b1 g_b1) hZ (hw _ (List.mem_of_getElem? (i := 7) rfl)) (hw _ (List.mem_of_getElem? (i := 4) rfl)) (by decide) (by decide)) (g := (mkF m 61 #[.val (.long p1), .second, .val (.long p2), .second, .val (.long p3), .second, .val (.long p4), .second, .val (.int p5), .val (.int p6), .val (.int (1 : Int32)), .val (.int (2 : Int32)), .val (.int (3 : Int32)), .val (.long sl), .second, .val (.long tt1), .second, .val (.long tt2), .second, .unset, .unset, .unset, .unset, .unset, .unset, .unset] [(.long (0 : Int64)), (.long sl), (.int (3 : Int32)), (.int (4 : Int32)), (.int (0 : Int32)), (.ref b1), (.ref b1)])) rfl (by rw [hml]; rfl) (Steps.refl _) (a := b1) (argsL := [(.int (0 : Int32)), (.int (4 : Int32)), (.int (3 : Int32)), (.long sl), (.long (0 : Int64))]) (rest := [(.ref b1)]) (lenOf pd_4 rfl) rfl (by show 2 * 0 + _ ≤ _; exact Nat.le_of_eq rfl) (hb hby at_61) (fun _ _ => ⟨rfl, e1, (by decide : 1 + 2 ≤ _), (by decide : 5 + 8 ≤ _)⟩)
  dsimp only [Pt.U, Pt.locs, Pt.cells, Pt.slots] at X2 l2 y2 z2 st2 hQ2
  subst l2 y2 z2
  obtain ⟨t_e2, u_e2, rfl, N2q, K2, p2_1, p2_2, p2_3, p2_4, p2_5, p2_6, p2_7, p2_8, g_t_2, g_u_2, ne_a_t_2, ne_a_u_2, ne_t_u_2⟩ := hQ2
  have N2 := Fr.app N0 N2q
  have sz5 : n0 ≤ T2.heap.size := (Nat.le_trans sz3 K2.1)
  obtain ⟨cq4, kq4, q4a, q4b, q4c⟩ := isOf hZ rfl p2_1
  obtain ⟨_, _, ⟨T4, L4, k4, n4⟩, -, X4, ⟨Lc4, hQ4, l4, y4, z4⟩, st4⟩ := X2.virtualBack hx (y := (⟨"stillmark/StableTimes", "told", "(IJJ)V"⟩ : MethodName)) (z := (⟨"stillmark/StableTimes", "told", "(IJJ)V"⟩ : MethodName)) hown (mvT hZ (hw _ (List.mem_of_getElem? (i := 32) rfl))) (mvT hZ (hw _ (List.mem_of_getElem? (i := 33) rfl))) (notFace_of_selects (args := #[]) (mvT hZ (hw _ (List.mem_of_getElem? (i := 35) rfl)))) (mvT hZ (hw _ (List.mem_of_getElem? (i := 35) rfl))) (mvT hZ (hw _ (List.mem_of_getElem? (i := 34) rfl))) (by decide) (backOf (W := 0) (rm5 l Z a0 hw [] b1 (1 : Int32) p1 (0 : Int64) t_e2 u_e2 (fun _ => (-9223372036854775808 : Int64)) (fun _ => (0 : Int64)) 1 (T2.heap) n0 sz5 p2_1 p2_5 p2_6 p2_7 p2_8 g_t_2 g_u_2 ne_a_t_2 ne_a_u_2 ne_t_u_2 (by decide) (by decide) (by decide)) hZ (hw _ (List.mem_of_getElem? (i := 36) rfl)) (hw _ (List.mem_of_getElem? (i := 4) rfl)) (by decide) (by decide)) q4a q4c (g := (mkF m 72 #[.val (.long p1), .second, .val (.long p2), .second, .val (.long p3), .second, .val (.long p4), .second, .val (.int p5), .val (.int p6), .val (.int (1 : Int32)), .val (.int (2 : Int32)), .val (.int (3 : Int32)), .val (.long sl), .second, .val (.long tt1), .second, .val (.long tt2), .second, .val (.ref b1), .unset, .unset, .unset, .unset, .unset, .unset] [(.long (0 : Int64)), (.long p1), (.int (1 : Int32)), (.ref b1)])) rfl (by rw [hml]; rfl) (Steps.refl _) (argsL := [(.int (1 : Int32)), (.long p1), (.long (0 : Int64))]) (rest := []) (lenOf pd_5 rfl) rfl (by show 2 * 0 + _ ≤ _; exact Nat.le_of_eq rfl) (hb hby at_72) (fun _ _ => ⟨rfl, rfl, (by decide : 3 + 0 ≤ _), (by decide : 13 + 0 ≤ _)⟩)
  dsimp only [Pt.U, Pt.locs, Pt.cells, Pt.slots] at X4 l4 y4 z4 st4 hQ4
  subst l4 y4 z4
  obtain ⟨rfl, N4q, K4, p4_1, p4_2⟩ := hQ4
  have N4 := Fr.app N2 N4q
  have f7_E_b1 := (p2_1.keep K4)
  have f8_F_b1_told := (p2_5.keep K4 (ninS ne_a_t_2 (ninS ne_a_u_2 nin0)))
  have f9_F_b1_heard := (p2_6.keep K4 (ninS ne_a_t_2 (ninS ne_a_u_2 nin0)))
  have sz10 : n0 ≤ T4.heap.size := (Nat.le_trans sz5 K4.1)
  obtain ⟨cq6, kq6, q6a, q6b, q6c⟩ := isOf hZ rfl f7_E_b1
  obtain ⟨_, _, ⟨T6, L6, k6, n6⟩, -, X6, ⟨Lc6, hQ6, l6, y6, z6⟩, st6⟩ := X4.virtualBack hx (y := (⟨"stillmark/StableTimes", "told", "(IJJ)V"⟩ : MethodName)) (z := (⟨"stillmark/StableTimes", "told", "(IJJ)V"⟩ : MethodName)) hown (mvT hZ (hw _ (List.mem_of_getElem? (i := 32) rfl))) (mvT hZ (hw _ (List.mem_of_getElem? (i := 33) rfl))) (notFace_of_selects (args := #[]) (mvT hZ (hw _ (List.mem_of_getElem? (i := 35) rfl)))) (mvT hZ (hw _ (List.mem_of_getElem? (i := 35) rfl))) (mvT hZ (hw _ (List.mem_of_getElem? (i := 34) rfl))) (by decide) (backOf (W := 0) (rm5 l Z a0 hw [] b1 (2 : Int32) p2 tt2 t_e2 u_e2 (own_set (fun _ => (-9223372036854775808 : Int64)) 1 p1) (own_set (fun _ => (0 : Int64)) 1 (0 : Int64)) 2 (T4.heap) n0 sz10 f7_E_b1 f8_F_b1_told f9_F_b1_heard p4_1 p4_2 g_t_2 g_u_2 ne_a_t_2 ne_a_u_2 ne_t_u_2 (by decide) (by decide) (by decide)) hZ (hw _ (List.mem_of_getElem? (i := 36) rfl)) (hw _ (List.mem_of_getElem? (i := 4) rfl)) (by decide) (by decide)) q6a q6c (g := (mkF m 82 #[.val (.long p1), .second, .val (.long p2), .second, .val (.long p3), .second, .val (.long p4), .second, .val (.int p5), .val (.int p6), .val (.int (1 : Int32)), .val (.int (2 : Int32)), .val (.int (3 : Int32)), .val (.long sl), .second, .val (.long tt1), .second, .val (.long tt2), .second, .val (.ref b1), .unset, .unset, .unset, .unset, .unset, .unset] [(.long tt2), (.long p2), (.int (2 : Int32)), (.ref b1)])) rfl (by rw [hml]; rfl) (Steps.refl _) (argsL := [(.int (2 : Int32)), (.long p2), (.long tt2)]) (rest := []) (lenOf pd_5 rfl) rfl (by show 2 * 0 + _ ≤ _; exact Nat.le_of_eq rfl) (hb hby at_82) (fun _ _ => ⟨rfl, rfl, (by decide : 3 + 0 ≤ _), (by decide : 13 + 0 ≤ _)⟩)
  dsimp only [Pt.U, Pt.locs, Pt.cells, Pt.slots] at X6 l6 y6 z6 st6 hQ6
  subst l6 y6 z6
  obtain ⟨rfl, N6q, K6, p6_1, p6_2⟩ := hQ6
  have N6 := Fr.app N4 N6q
  have f12_E_b1 := (f7_E_b1.keep K6)
  have f13_F_b1_told := (f8_F_b1_told.keep K6 (ninS ne_a_t_2 (ninS ne_a_u_2 nin0)))
  have f14_F_b1_heard := (f9_F_b1_heard.keep K6 (ninS ne_a_t_2 (ninS ne_a_u_2 nin0)))
  have sz15 : n0 ≤ T6.heap.size := (Nat.le_trans sz10 K6.1)
  obtain ⟨cq11, kq11, q11a, q11b, q11c⟩ := isOf hZ rfl f12_E_b1
  obtain ⟨_, _, ⟨T11, L11, k11, n11⟩, -, X11, ⟨Lc11, hQ11, l11, y11, z11⟩, st11⟩ := X6.virtualBack hx (y := (⟨"stillmark/StableTimes", "told", "(IJJ)V"⟩ : MethodName)) (z := (⟨"stillmark/StableTimes", "told", "(IJJ)V"⟩ : MethodName)) hown (mvT hZ (hw _ (List.mem_of_getElem? (i := 32) rfl))) (mvT hZ (hw _ (List.mem_of_getElem? (i := 33) rfl))) (notFace_of_selects (args := #[]) (mvT hZ (hw _ (List.mem_of_getElem? (i := 35) rfl)))) (mvT hZ (hw _ (List.mem_of_getElem? (i := 35) rfl))) (mvT hZ (hw _ (List.mem_of_getElem? (i := 34) rfl))) (by decide) (backOf (W := 0) (rm5 l Z a0 hw [] b1 (3 : Int32) p3 tt2 t_e2 u_e2 (own_set (own_set (fun _ => (-9223372036854775808 : Int64)) 1 p1) 2 p2) (own_set (own_set (fun _ => (0 : Int64)) 1 (0 : Int64)) 2 tt2) 3 (T6.heap) n0 sz15 f12_E_b1 f13_F_b1_told f14_F_b1_heard p6_1 p6_2 g_t_2 g_u_2 ne_a_t_2 ne_a_u_2 ne_t_u_2 (by decide) (by decide) (by decide)) hZ (hw _ (List.mem_of_getElem? (i := 36) rfl)) (hw _ (List.mem_of_getElem? (i := 4) rfl)) (by decide) (by decide)) q11a q11c (g := (mkF m 93 #[.val (.long p1), .second, .val (.long p2), .second, .val (.long p3), .second, .val (.long p4), .second, .val (.int p5), .val (.int p6), .val (.int (1 : Int32)), .val (.int (2 : Int32)), .val (.int (3 : Int32)), .val (.long sl), .second, .val (.long tt1), .second, .val (.long tt2), .second, .val (.ref b1), .unset, .unset, .unset, .unset, .unset, .unset] [(.long tt2), (.long p3), (.int (3 : Int32)), (.ref b1)])) rfl (by rw [hml]; rfl) (Steps.refl _) (argsL := [(.int (3 : Int32)), (.long p3), (.long tt2)]) (rest := []) (lenOf pd_5 rfl) rfl (by show 2 * 0 + _ ≤ _; exact Nat.le_of_eq rfl) (hb hby at_93) (fun _ _ => ⟨rfl, rfl, (by decide : 3 + 0 ≤ _), (by decide : 13 + 0 ≤ _)⟩)
  dsimp only [Pt.U, Pt.locs, Pt.cells, Pt.slots] at X11 l11 y11 z11 st11 hQ11
  subst l11 y11 z11
  obtain ⟨rfl, N11q, K11, p11_1, p11_2⟩ := hQ11
  have N11 := Fr.app N6 N11q
  have f17_E_b1 := (f12_E_b1.keep K11)
  have f18_F_b1_told := (f13_F_b1_told.keep K11 (ninS ne_a_t_2 (ninS ne_a_u_2 nin0)))
  have f19_F_b1_heard := (f14_F_b1_heard.keep K11 (ninS ne_a_t_2 (ninS ne_a_u_2 nin0)))
  have sz20 : n0 ≤ T11.heap.size := (Nat.le_trans sz15 K11.1)
  obtain ⟨cq16, kq16, q16a, q16b, q16c⟩ := isOf hZ rfl f17_E_b1
  obtain ⟨_, _, ⟨T16, L16, k16, n16⟩, -, X16, ⟨Lc16, hQ16, l16, y16, z16⟩, st16⟩ := X11.virtualBack hx (y := (⟨"stillmark/StableTimes", "restarted", "(IJ)V"⟩ : MethodName)) (z := (⟨"stillmark/StableTimes", "restarted", "(IJ)V"⟩ : MethodName)) hown (mvT hZ (hw _ (List.mem_of_getElem? (i := 37) rfl))) (mvT hZ (hw _ (List.mem_of_getElem? (i := 38) rfl))) (notFace_of_selects (args := #[]) (mvT hZ (hw _ (List.mem_of_getElem? (i := 40) rfl)))) (mvT hZ (hw _ (List.mem_of_getElem? (i := 40) rfl))) (mvT hZ (hw _ (List.mem_of_getElem? (i := 39) rfl))) (by decide) (backOf (W := 0) (rm6 l Z a0 hw [] b1 (1 : Int32) tt1 t_e2 u_e2 (own_set (own_set (own_set (fun _ => (-9223372036854775808 : Int64)) 1 p1) 2 p2) 3 p3) (own_set (own_set (own_set (fun _ => (0 : Int64)) 1 (0 : Int64)) 2 tt2) 3 tt2) 1 (T11.heap) n0 sz20 f17_E_b1 f18_F_b1_told f19_F_b1_heard p11_1 p11_2 g_t_2 g_u_2 ne_a_t_2 ne_a_u_2 ne_t_u_2 (by decide) (by decide) (by decide)) hZ (hw _ (List.mem_of_getElem? (i := 41) rfl)) (hw _ (List.mem_of_getElem? (i := 4) rfl)) (by decide) (by decide)) q16a q16c (g := (mkF m 102 #[.val (.long p1), .second, .val (.long p2), .second, .val (.long p3), .second, .val (.long p4), .second, .val (.int p5), .val (.int p6), .val (.int (1 : Int32)), .val (.int (2 : Int32)), .val (.int (3 : Int32)), .val (.long sl), .second, .val (.long tt1), .second, .val (.long tt2), .second, .val (.ref b1), .unset, .unset, .unset, .unset, .unset, .unset] [(.long tt1), (.int (1 : Int32)), (.ref b1)])) rfl (by rw [hml]; rfl) (Steps.refl _) (argsL := [(.int (1 : Int32)), (.long tt1)]) (rest := []) (lenOf pd_6 rfl) rfl (by show 2 * 0 + _ ≤ _; exact Nat.le_of_eq rfl) (hb hby at_102) (fun _ _ => ⟨rfl, rfl, (by decide : 3 + 0 ≤ _), (by decide : 13 + 0 ≤ _)⟩)
  dsimp only [Pt.U, Pt.locs, Pt.cells, Pt.slots] at X16 l16 y16 z16 st16 hQ16
  subst l16 y16 z16
  obtain ⟨rfl, N16q, K16, p16_1, p16_2⟩ := hQ16
  have N16 := Fr.app N11 N16q
  have f22_E_b1 := (f17_E_b1.keep K16)
  have f23_F_b1_own := ((((p2_2.keep K4 (ninS ne_a_t_2 (ninS ne_a_u_2 nin0))).keep K6 (ninS ne_a_t_2 (ninS ne_a_u_2 nin0))).keep K11 (ninS ne_a_t_2 (ninS ne_a_u_2 nin0))).keep K16 (ninS ne_a_t_2 (ninS ne_a_u_2 nin0)))
  have f24_F_b1_silence := ((((p2_4.keep K4 (ninS ne_a_t_2 (ninS ne_a_u_2 nin0))).keep K6 (ninS ne_a_t_2 (ninS ne_a_u_2 nin0))).keep K11 (ninS ne_a_t_2 (ninS ne_a_u_2 nin0))).keep K16 (ninS ne_a_t_2 (ninS ne_a_u_2 nin0)))
  have f25_F_b1_heard := (f19_F_b1_heard.keep K16 (ninS ne_a_t_2 (ninS ne_a_u_2 nin0)))
  have f26_F_b1_majority := ((((p2_3.keep K4 (ninS ne_a_t_2 (ninS ne_a_u_2 nin0))).keep K6 (ninS ne_a_t_2 (ninS ne_a_u_2 nin0))).keep K11 (ninS ne_a_t_2 (ninS ne_a_u_2 nin0))).keep K16 (ninS ne_a_t_2 (ninS ne_a_u_2 nin0)))
  have f27_F_b1_told := (f18_F_b1_told.keep K16 (ninS ne_a_t_2 (ninS ne_a_u_2 nin0)))
  have sz28 : n0 ≤ T16.heap.size := (Nat.le_trans sz20 K16.1)
  obtain ⟨cq21, kq21, q21a, q21b, q21c⟩ := isOf hZ rfl f22_E_b1
  obtain ⟨_, _, ⟨T21, L21, k21, n21⟩, -, X21, ⟨Lc21, hQ21, l21, y21, z21⟩, st21⟩ := X16.virtualBack hx (y := (⟨"stillmark/StableTimes", "raise", "(JJ)J"⟩ : MethodName)) (z := (⟨"stillmark/StableTimes", "raise", "(JJ)J"⟩ : MethodName)) hown (mvT hZ (hw _ (List.mem_of_getElem? (i := 42) rfl))) (mvT hZ (hw _ (List.mem_of_getElem? (i := 43) rfl))) (notFace_of_selects (args := #[]) (mvT hZ (hw _ (List.mem_of_getElem? (i := 45) rfl)))) (mvT hZ (hw _ (List.mem_of_getElem? (i := 45) rfl))) (mvT hZ (hw _ (List.mem_of_getElem? (i := 44) rfl))) (by decide) (backOf (W := 0) (rm7_0 l Z a0 hw [] b1 p4 (tt1 + sl) sl t_e2 u_e2 (own_set (own_set (own_set (own_set (fun _ => (-9223372036854775808 : Int64)) 1 p1) 2 p2) 3 p3) 1 (-9223372036854775808 : Int64)) (own_set (own_set (own_set (own_set (fun _ => (0 : Int64)) 1 (0 : Int64)) 2 tt2) 3 tt2) 1 tt1) (T16.heap) n0 sz28 f22_E_b1 f23_F_b1_own f24_F_b1_silence f25_F_b1_heard p16_2 f26_F_b1_majority f27_F_b1_told p16_1 (by show ¬ (tt1 < (tt1 + sl) - sl); rw [own_e1]; exact own_irr _) (by show ¬ (tt2 < (tt1 + sl) - sl); rw [own_e1]; exact own_asym hup) (by show ¬ (tt2 < (tt1 + sl) - sl); rw [own_e1]; exact own_asym hup)) hZ (hw _ (List.mem_of_getElem? (i := 46) rfl)) (hw _ (List.mem_of_getElem? (i := 4) rfl)) (by decide) (by decide)) q21a q21c (g := (mkF m 114 #[.val (.long p1), .second, .val (.long p2), .second, .val (.long p3), .second, .val (.long p4), .second, .val (.int p5), .val (.int p6), .val (.int (1 : Int32)), .val (.int (2 : Int32)), .val (.int (3 : Int32)), .val (.long sl), .second, .val (.long tt1), .second, .val (.long tt2), .second, .val (.ref b1), .unset, .unset, .unset, .unset, .unset, .unset] [(.long (tt1 + sl)), (.long p4), (.ref b1)])) rfl (by rw [hml]; rfl) (Steps.refl _) (argsL := [(.long p4), (.long (tt1 + sl))]) (rest := []) (lenOf pd_3 rfl) rfl (by show 2 * 0 + _ ≤ _; exact Nat.le_of_eq rfl) (hb hby at_114) (fun _ _ => ⟨rfl, rfl, (by decide : 3 + 0 ≤ _), (by decide : 13 + 0 ≤ _)⟩)
  dsimp only [Pt.U, Pt.locs, Pt.cells, Pt.slots] at X21 l21 y21 z21 st21 hQ21
  subst l21 y21 z21
  obtain ⟨rfl, N21q, e21q⟩ := hQ21
  have N21 := Fr.app N16 N21q
  obtain ⟨cq29, kq29, q29a, q29b, q29c⟩ := isOf hZ e21q f22_E_b1
  obtain ⟨_, _, ⟨T29, L29, k29, n29⟩, -, X29, ⟨Lc29, hQ29, l29, y29, z29⟩, st29⟩ := X21.virtualBack hx (y := (⟨"stillmark/StableTimes", "raise", "(JJ)J"⟩ : MethodName)) (z := (⟨"stillmark/StableTimes", "raise", "(JJ)J"⟩ : MethodName)) hown (mvT hZ (hw _ (List.mem_of_getElem? (i := 42) rfl))) (mvT hZ (hw _ (List.mem_of_getElem? (i := 43) rfl))) (notFace_of_selects (args := #[]) (mvT hZ (hw _ (List.mem_of_getElem? (i := 45) rfl)))) (mvT hZ (hw _ (List.mem_of_getElem? (i := 45) rfl))) (mvT hZ (hw _ (List.mem_of_getElem? (i := 44) rfl))) (by decide) (backOf (W := 0) (rm7_1 l Z a0 hw [] b1 p4 ((tt1 + sl) + (1 : Int64)) sl t_e2 u_e2 (own_set (own_set (own_set (own_set (fun _ => (-9223372036854775808 : Int64)) 1 p1) 2 p2) 3 p3) 1 (-9223372036854775808 : Int64)) (own_set (own_set (own_set (own_set (fun _ => (0 : Int64)) 1 (0 : Int64)) 2 tt2) 3 tt2) 1 tt1) (T16.heap) n0 sz28 f22_E_b1 f23_F_b1_own f24_F_b1_silence f25_F_b1_heard p16_2 f26_F_b1_majority f27_F_b1_told p16_1 (by show (tt1 < ((tt1 + sl) + 1) - sl); rw [own_e2, ← h_tt2]; exact hup) (by show ¬ (tt2 < ((tt1 + sl) + 1) - sl); rw [own_e2, ← h_tt2]; exact own_irr _) (by show ¬ (tt2 < ((tt1 + sl) + 1) - sl); rw [own_e2, ← h_tt2]; exact own_irr _)) hZ (hw _ (List.mem_of_getElem? (i := 46) rfl)) (hw _ (List.mem_of_getElem? (i := 4) rfl)) (by decide) (by decide)) q29a q29c (g := (mkF m 130 #[.val (.long p1), .second, .val (.long p2), .second, .val (.long p3), .second, .val (.long p4), .second, .val (.int p5), .val (.int p6), .val (.int (1 : Int32)), .val (.int (2 : Int32)), .val (.int (3 : Int32)), .val (.long sl), .second, .val (.long tt1), .second, .val (.long tt2), .second, .val (.ref b1), .val (.long (-9223372036854775808 : Int64)), .second, .unset, .unset, .unset, .unset] [(.long ((tt1 + sl) + (1 : Int64))), (.long p4), (.ref b1)])) rfl (by rw [hml]; rfl) (Steps.refl _) (argsL := [(.long p4), (.long ((tt1 + sl) + (1 : Int64)))]) (rest := []) (lenOf pd_3 rfl) rfl (by show 2 * 0 + _ ≤ _; exact Nat.le_of_eq rfl) (hb hby at_130) (fun _ _ => ⟨rfl, e21q, (by decide : 3 + 0 ≤ _), (by decide : 13 + 0 ≤ _)⟩)
  dsimp only [Pt.U, Pt.locs, Pt.cells, Pt.slots] at X29 l29 y29 z29 st29 hQ29
  subst l29 y29 z29
  obtain ⟨rfl, N29q, e29q⟩ := hQ29
  have N29 := Fr.app N21 N29q
  obtain ⟨_, _, ⟨T30, L30, k30, n30⟩, -, X30, ⟨Lc30, hQ30, l30, y30, z30⟩, st30⟩ := Jvm.LawKit.callS X29 hx (y := (⟨"java/lang/Math", "min", "(JJ)J"⟩ : MethodName)) hown (mvT hZ (hw _ (List.mem_of_getElem? (i := 56) rfl))) (mvT hZ (hw _ (List.mem_of_getElem? (i := 52) rfl))) (mvT hZ (hw _ (List.mem_of_getElem? (i := 53) rfl))) (mvT hZ (hw _ (List.mem_of_getElem? (i := 54) rfl))) (by decide) (backOf (W := 4) (rm9 l Z a0 hw [] p2 p3 (T16.heap) n0 sz28 ) hZ (hw _ (List.mem_of_getElem? (i := 54) rfl)) (hw _ (List.mem_of_getElem? (i := 53) rfl)) (by decide) (by decide)) (g := (mkF m 158 #[.val (.long p1), .second, .val (.long p2), .second, .val (.long p3), .second, .val (.long p4), .second, .val (.int p5), .val (.int p6), .val (.int (1 : Int32)), .val (.int (2 : Int32)), .val (.int (3 : Int32)), .val (.long sl), .second, .val (.long tt1), .second, .val (.long tt2), .second, .val (.ref b1), .val (.long (-9223372036854775808 : Int64)), .second, .val (.long (own_min (own_min p4 p2) p3)), .second, .val (.int (1 : Int32)), .unset] [(.long p3), (.long p2), (.long p4), (.long (own_min (own_min p4 p2) p3))])) rfl (by rw [hml]; rfl) (argsL := [(.long p2), (.long p3)]) (rest := [(.long p4), (.long (own_min (own_min p4 p2) p3))]) (lenOf pd_3 rfl) rfl (by show 2 * 0 + _ ≤ _; exact Nat.le_of_eq rfl) (hb hby at_158) (fun _ _ => ⟨rfl, e29q, (by decide : 3 + 0 ≤ _), (by decide : 13 + 0 ≤ _)⟩)
  dsimp only [Pt.U, Pt.locs, Pt.cells, Pt.slots] at X30 l30 y30 z30 st30 hQ30
  subst l30 y30 z30
  obtain ⟨rfl, N30q, e30q⟩ := hQ30
  have N30 := Fr.app N29 N30q
  obtain ⟨_, _, ⟨T31, L31, k31, n31⟩, -, X31, ⟨Lc31, hQ31, l31, y31, z31⟩, st31⟩ := Jvm.LawKit.callS X30 hx (y := (⟨"java/lang/Math", "min", "(JJ)J"⟩ : MethodName)) hown (mvT hZ (hw _ (List.mem_of_getElem? (i := 56) rfl))) (mvT hZ (hw _ (List.mem_of_getElem? (i := 52) rfl))) (mvT hZ (hw _ (List.mem_of_getElem? (i := 53) rfl))) (mvT hZ (hw _ (List.mem_of_getElem? (i := 54) rfl))) (by decide) (backOf (W := 2) (rm9 l Z a0 hw [] p4 (own_min p2 p3) (T16.heap) n0 sz28 ) hZ (hw _ (List.mem_of_getElem? (i := 54) rfl)) (hw _ (List.mem_of_getElem? (i := 53) rfl)) (by decide) (by decide)) (g := (mkF m 161 #[.val (.long p1), .second, .val (.long p2), .second, .val (.long p3), .second, .val (.long p4), .second, .val (.int p5), .val (.int p6), .val (.int (1 : Int32)), .val (.int (2 : Int32)), .val (.int (3 : Int32)), .val (.long sl), .second, .val (.long tt1), .second, .val (.long tt2), .second, .val (.ref b1), .val (.long (-9223372036854775808 : Int64)), .second, .val (.long (own_min (own_min p4 p2) p3)), .second, .val (.int (1 : Int32)), .unset] [(.long (own_min p2 p3)), (.long p4), (.long (own_min (own_min p4 p2) p3))])) rfl (by rw [hml]; rfl) (argsL := [(.long p4), (.long (own_min p2 p3))]) (rest := [(.long (own_min (own_min p4 p2) p3))]) (lenOf pd_3 rfl) rfl (by show 2 * 0 + _ ≤ _; exact Nat.le_of_eq rfl) (hb hby at_161) (fun _ _ => ⟨rfl, e30q, (by decide : 3 + 0 ≤ _), (by decide : 13 + 0 ≤ _)⟩)
  dsimp only [Pt.U, Pt.locs, Pt.cells, Pt.slots] at X31 l31 y31 z31 st31 hQ31
  subst l31 y31 z31
  obtain ⟨rfl, N31q, e31q⟩ := hQ31
  have N31 := Fr.app N30 N31q
  obtain ⟨fs, hr, hrun, hended, hW, hsame⟩ := X31.leave (v := some (.int (1 : Int32))) (fun h => by rw [Bd.returns] at h; cases h)
  refine ⟨_, _, pre0 _ ?_, hrun, hended, _, _, rfl, ?_, ⟨_, rfl⟩, hW, hsame.mono (by decide) (by decide)⟩
  · show Steps p.tables e below (s₁.setTop (mkF m 0 #[.val (.long p1), .second, .val (.long p2), .second, .val (.long p3), .second, .val (.long p4), .second, .val (.int p5), .val (.int p6), .unset, .unset, .unset, .unset, .unset, .unset, .unset, .unset, .unset, .unset, .unset, .unset, .unset, .unset, .unset, .unset] [])) _
    refine XS.iconst X0.here hx rfl (hb hby at_0) ?_
    show Steps p.tables e below (s₁.setTop (mkF m 1 #[.val (.long p1), .second, .val (.long p2), .second, .val (.long p3), .second, .val (.long p4), .second, .val (.int p5), .val (.int p6), .unset, .unset, .unset, .unset, .unset, .unset, .unset, .unset, .unset, .unset, .unset, .unset, .unset, .unset, .unset, .unset] [(.int (1 : Int32))])) _
    refine XS.iload X0.here hx rfl (hb hby at_1) rfl ?_
    show Steps p.tables e below (s₁.setTop (mkF m 3 #[.val (.long p1), .second, .val (.long p2), .second, .val (.long p3), .second, .val (.long p4), .second, .val (.int p5), .val (.int p6), .unset, .unset, .unset, .unset, .unset, .unset, .unset, .unset, .unset, .unset, .unset, .unset, .unset, .unset, .unset, .unset] [(.int p5), (.int (1 : Int32))])) _
    refine XS.iconst X0.here hx rfl (hb hby at_3) ?_
    show Steps p.tables e below (s₁.setTop (mkF m 4 #[.val (.long p1), .second, .val (.long p2), .second, .val (.long p3), .second, .val (.long p4), .second, .val (.int p5), .val (.int p6), .unset, .unset, .unset, .unset, .unset, .unset, .unset, .unset, .unset, .unset, .unset, .unset, .unset, .unset, .unset, .unset] [(.int (3 : Int32)), (.int p5), (.int (1 : Int32))])) _
    refine XS.iand X0.here hx rfl (hb hby at_4) rfl ?_
    show Steps p.tables e below (s₁.setTop (mkF m 5 #[.val (.long p1), .second, .val (.long p2), .second, .val (.long p3), .second, .val (.long p4), .second, .val (.int p5), .val (.int p6), .unset, .unset, .unset, .unset, .unset, .unset, .unset, .unset, .unset, .unset, .unset, .unset, .unset, .unset, .unset, .unset] [(.int (p5 &&& (3 : Int32))), (.int (1 : Int32))])) _
    rw [hk]
    show Steps p.tables e below (s₁.setTop (mkF m 5 #[.val (.long p1), .second, .val (.long p2), .second, .val (.long p3), .second, .val (.long p4), .second, .val (.int p5), .val (.int p6), .unset, .unset, .unset, .unset, .unset, .unset, .unset, .unset, .unset, .unset, .unset, .unset, .unset, .unset, .unset, .unset] [(.int (3 : Int32)), (.int (1 : Int32))])) _
    refine XS.iconst X0.here hx rfl (hb hby at_5) ?_
    show Steps p.tables e below (s₁.setTop (mkF m 6 #[.val (.long p1), .second, .val (.long p2), .second, .val (.long p3), .second, .val (.long p4), .second, .val (.int p5), .val (.int p6), .unset, .unset, .unset, .unset, .unset, .unset, .unset, .unset, .unset, .unset, .unset, .unset, .unset, .unset, .unset, .unset] [(.int (3 : Int32)), (.int (3 : Int32)), (.int (1 : Int32))])) _
    refine XS.irem X0.here hx rfl (hb hby at_6) rfl (by decide) ?_
    show Steps p.tables e below (s₁.setTop (mkF m 7 #[.val (.long p1), .second, .val (.long p2), .second, .val (.long p3), .second, .val (.long p4), .second, .val (.int p5), .val (.int p6), .unset, .unset, .unset, .unset, .unset, .unset, .unset, .unset, .unset, .unset, .unset, .unset, .unset, .unset, .unset, .unset] [(.int ((3 : Int32) - ((3 : Int32) / (3 : Int32)) * (3 : Int32))), (.int (1 : Int32))])) _
    rw [show (((3 : Int32) - ((3 : Int32) / (3 : Int32)) * (3 : Int32)) : Int32) = (0 : Int32) from by decide]
    show Steps p.tables e below (s₁.setTop (mkF m 7 #[.val (.long p1), .second, .val (.long p2), .second, .val (.long p3), .second, .val (.long p4), .second, .val (.int p5), .val (.int p6), .unset, .unset, .unset, .unset, .unset, .unset, .unset, .unset, .unset, .unset, .unset, .unset, .unset, .unset, .unset, .unset] [(.int (0 : Int32)), (.int (1 : Int32))])) _
    refine XS.iadd X0.here hx rfl (hb hby at_7) rfl ?_
    show Steps p.tables e below (s₁.setTop (mkF m 8 #[.val (.long p1), .second, .val (.long p2), .second, .val (.long p3), .second, .val (.long p4), .second, .val (.int p5), .val (.int p6), .unset, .unset, .unset, .unset, .unset, .unset, .unset, .unset, .unset, .unset, .unset, .unset, .unset, .unset, .unset, .unset] [(.int ((1 : Int32) + (0 : Int32)))])) _
    rw [show (((1 : Int32) + (0 : Int32)) : Int32) = (1 : Int32) from by decide]
    show Steps p.tables e below (s₁.setTop (mkF m 8 #[.val (.long p1), .second, .val (.long p2), .second, .val (.long p3), .second, .val (.long p4), .second, .val (.int p5), .val (.int p6), .unset, .unset, .unset, .unset, .unset, .unset, .unset, .unset, .unset, .unset, .unset, .unset, .unset, .unset, .unset, .unset] [(.int (1 : Int32))])) _
    refine XS.istore X0.here hx rfl (hb hby at_8) rfl (l' := #[.val (.long p1), .second, .val (.long p2), .second, .val (.long p3), .second, .val (.long p4), .second, .val (.int p5), .val (.int p6), .val (.int (1 : Int32)), .unset, .unset, .unset, .unset, .unset, .unset, .unset, .unset, .unset, .unset, .unset, .unset, .unset, .unset, .unset]) rfl ?_
    show Steps p.tables e below (s₁.setTop (mkF m 10 #[.val (.long p1), .second, .val (.long p2), .second, .val (.long p3), .second, .val (.long p4), .second, .val (.int p5), .val (.int p6), .val (.int (1 : Int32)), .unset, .unset, .unset, .unset, .unset, .unset, .unset, .unset, .unset, .unset, .unset, .unset, .unset, .unset, .unset] [])) _
    refine XS.iload X0.here hx rfl (hb hby at_10) rfl ?_
    show Steps p.tables e below (s₁.setTop (mkF m 12 #[.val (.long p1), .second, .val (.long p2), .second, .val (.long p3), .second, .val (.long p4), .second, .val (.int p5), .val (.int p6), .val (.int (1 : Int32)), .unset, .unset, .unset, .unset, .unset, .unset, .unset, .unset, .unset, .unset, .unset, .unset, .unset, .unset, .unset] [(.int (1 : Int32))])) _
    refine XS.iconst X0.here hx rfl (hb hby at_12) ?_
    show Steps p.tables e below (s₁.setTop (mkF m 13 #[.val (.long p1), .second, .val (.long p2), .second, .val (.long p3), .second, .val (.long p4), .second, .val (.int p5), .val (.int p6), .val (.int (1 : Int32)), .unset, .unset, .unset, .unset, .unset, .unset, .unset, .unset, .unset, .unset, .unset, .unset, .unset, .unset, .unset] [(.int (3 : Int32)), (.int (1 : Int32))])) _
    refine XS.irem X0.here hx rfl (hb hby at_13) rfl (by decide) ?_
    show Steps p.tables e below (s₁.setTop (mkF m 14 #[.val (.long p1), .second, .val (.long p2), .second, .val (.long p3), .second, .val (.long p4), .second, .val (.int p5), .val (.int p6), .val (.int (1 : Int32)), .unset, .unset, .unset, .unset, .unset, .unset, .unset, .unset, .unset, .unset, .unset, .unset, .unset, .unset, .unset] [(.int ((1 : Int32) - ((1 : Int32) / (3 : Int32)) * (3 : Int32)))])) _
    rw [show (((1 : Int32) - ((1 : Int32) / (3 : Int32)) * (3 : Int32)) : Int32) = (1 : Int32) from by decide]
    show Steps p.tables e below (s₁.setTop (mkF m 14 #[.val (.long p1), .second, .val (.long p2), .second, .val (.long p3), .second, .val (.long p4), .second, .val (.int p5), .val (.int p6), .val (.int (1 : Int32)), .unset, .unset, .unset, .unset, .unset, .unset, .unset, .unset, .unset, .unset, .unset, .unset, .unset, .unset, .unset] [(.int (1 : Int32))])) _
    refine XS.iconst X0.here hx rfl (hb hby at_14) ?_
    show Steps p.tables e below (s₁.setTop (mkF m 15 #[.val (.long p1), .second, .val (.long p2), .second, .val (.long p3), .second, .val (.long p4), .second, .val (.int p5), .val (.int p6), .val (.int (1 : Int32)), .unset, .unset, .unset, .unset, .unset, .unset, .unset, .unset, .unset, .unset, .unset, .unset, .unset, .unset, .unset] [(.int (1 : Int32)), (.int (1 : Int32))])) _
    refine XS.iadd X0.here hx rfl (hb hby at_15) rfl ?_
    show Steps p.tables e below (s₁.setTop (mkF m 16 #[.val (.long p1), .second, .val (.long p2), .second, .val (.long p3), .second, .val (.long p4), .second, .val (.int p5), .val (.int p6), .val (.int (1 : Int32)), .unset, .unset, .unset, .unset, .unset, .unset, .unset, .unset, .unset, .unset, .unset, .unset, .unset, .unset, .unset] [(.int ((1 : Int32) + (1 : Int32)))])) _
    rw [show (((1 : Int32) + (1 : Int32)) : Int32) = (2 : Int32) from by decide]
    show Steps p.tables e below (s₁.setTop (mkF m 16 #[.val (.long p1), .second, .val (.long p2), .second, .val (.long p3), .second, .val (.long p4), .second, .val (.int p5), .val (.int p6), .val (.int (1 : Int32)), .unset, .unset, .unset, .unset, .unset, .unset, .unset, .unset, .unset, .unset, .unset, .unset, .unset, .unset, .unset] [(.int (2 : Int32))])) _
    refine XS.istore X0.here hx rfl (hb hby at_16) rfl (l' := #[.val (.long p1), .second, .val (.long p2), .second, .val (.long p3), .second, .val (.long p4), .second, .val (.int p5), .val (.int p6), .val (.int (1 : Int32)), .val (.int (2 : Int32)), .unset, .unset, .unset, .unset, .unset, .unset, .unset, .unset, .unset, .unset, .unset, .unset, .unset, .unset]) rfl ?_
    show Steps p.tables e below (s₁.setTop (mkF m 18 #[.val (.long p1), .second, .val (.long p2), .second, .val (.long p3), .second, .val (.long p4), .second, .val (.int p5), .val (.int p6), .val (.int (1 : Int32)), .val (.int (2 : Int32)), .unset, .unset, .unset, .unset, .unset, .unset, .unset, .unset, .unset, .unset, .unset, .unset, .unset, .unset] [])) _
    refine XS.iload X0.here hx rfl (hb hby at_18) rfl ?_
    show Steps p.tables e below (s₁.setTop (mkF m 20 #[.val (.long p1), .second, .val (.long p2), .second, .val (.long p3), .second, .val (.long p4), .second, .val (.int p5), .val (.int p6), .val (.int (1 : Int32)), .val (.int (2 : Int32)), .unset, .unset, .unset, .unset, .unset, .unset, .unset, .unset, .unset, .unset, .unset, .unset, .unset, .unset] [(.int (2 : Int32))])) _
    refine XS.iconst X0.here hx rfl (hb hby at_20) ?_
    show Steps p.tables e below (s₁.setTop (mkF m 21 #[.val (.long p1), .second, .val (.long p2), .second, .val (.long p3), .second, .val (.long p4), .second, .val (.int p5), .val (.int p6), .val (.int (1 : Int32)), .val (.int (2 : Int32)), .unset, .unset, .unset, .unset, .unset, .unset, .unset, .unset, .unset, .unset, .unset, .unset, .unset, .unset] [(.int (3 : Int32)), (.int (2 : Int32))])) _
    refine XS.irem X0.here hx rfl (hb hby at_21) rfl (by decide) ?_
    show Steps p.tables e below (s₁.setTop (mkF m 22 #[.val (.long p1), .second, .val (.long p2), .second, .val (.long p3), .second, .val (.long p4), .second, .val (.int p5), .val (.int p6), .val (.int (1 : Int32)), .val (.int (2 : Int32)), .unset, .unset, .unset, .unset, .unset, .unset, .unset, .unset, .unset, .unset, .unset, .unset, .unset, .unset] [(.int ((2 : Int32) - ((2 : Int32) / (3 : Int32)) * (3 : Int32)))])) _
    rw [show (((2 : Int32) - ((2 : Int32) / (3 : Int32)) * (3 : Int32)) : Int32) = (2 : Int32) from by decide]
    show Steps p.tables e below (s₁.setTop (mkF m 22 #[.val (.long p1), .second, .val (.long p2), .second, .val (.long p3), .second, .val (.long p4), .second, .val (.int p5), .val (.int p6), .val (.int (1 : Int32)), .val (.int (2 : Int32)), .unset, .unset, .unset, .unset, .unset, .unset, .unset, .unset, .unset, .unset, .unset, .unset, .unset, .unset] [(.int (2 : Int32))])) _
    refine XS.iconst X0.here hx rfl (hb hby at_22) ?_
    show Steps p.tables e below (s₁.setTop (mkF m 23 #[.val (.long p1), .second, .val (.long p2), .second, .val (.long p3), .second, .val (.long p4), .second, .val (.int p5), .val (.int p6), .val (.int (1 : Int32)), .val (.int (2 : Int32)), .unset, .unset, .unset, .unset, .unset, .unset, .unset, .unset, .unset, .unset, .unset, .unset, .unset, .unset] [(.int (1 : Int32)), (.int (2 : Int32))])) _
    refine XS.iadd X0.here hx rfl (hb hby at_23) rfl ?_
    show Steps p.tables e below (s₁.setTop (mkF m 24 #[.val (.long p1), .second, .val (.long p2), .second, .val (.long p3), .second, .val (.long p4), .second, .val (.int p5), .val (.int p6), .val (.int (1 : Int32)), .val (.int (2 : Int32)), .unset, .unset, .unset, .unset, .unset, .unset, .unset, .unset, .unset, .unset, .unset, .unset, .unset, .unset] [(.int ((2 : Int32) + (1 : Int32)))])) _
    rw [show (((2 : Int32) + (1 : Int32)) : Int32) = (3 : Int32) from by decide]
    show Steps p.tables e below (s₁.setTop (mkF m 24 #[.val (.long p1), .second, .val (.long p2), .second, .val (.long p3), .second, .val (.long p4), .second, .val (.int p5), .val (.int p6), .val (.int (1 : Int32)), .val (.int (2 : Int32)), .unset, .unset, .unset, .unset, .unset, .unset, .unset, .unset, .unset, .unset, .unset, .unset, .unset, .unset] [(.int (3 : Int32))])) _
    refine XS.istore X0.here hx rfl (hb hby at_24) rfl (l' := #[.val (.long p1), .second, .val (.long p2), .second, .val (.long p3), .second, .val (.long p4), .second, .val (.int p5), .val (.int p6), .val (.int (1 : Int32)), .val (.int (2 : Int32)), .val (.int (3 : Int32)), .unset, .unset, .unset, .unset, .unset, .unset, .unset, .unset, .unset, .unset, .unset, .unset, .unset]) rfl ?_
    show Steps p.tables e below (s₁.setTop (mkF m 26 #[.val (.long p1), .second, .val (.long p2), .second, .val (.long p3), .second, .val (.long p4), .second, .val (.int p5), .val (.int p6), .val (.int (1 : Int32)), .val (.int (2 : Int32)), .val (.int (3 : Int32)), .unset, .unset, .unset, .unset, .unset, .unset, .unset, .unset, .unset, .unset, .unset, .unset, .unset] [])) _
    refine XS.iload X0.here hx rfl (hb hby at_26) rfl ?_
    show Steps p.tables e below (s₁.setTop (mkF m 28 #[.val (.long p1), .second, .val (.long p2), .second, .val (.long p3), .second, .val (.long p4), .second, .val (.int p5), .val (.int p6), .val (.int (1 : Int32)), .val (.int (2 : Int32)), .val (.int (3 : Int32)), .unset, .unset, .unset, .unset, .unset, .unset, .unset, .unset, .unset, .unset, .unset, .unset, .unset] [(.int p5)])) _
    refine XS.iconst X0.here hx rfl (hb hby at_28) ?_
    show Steps p.tables e below (s₁.setTop (mkF m 29 #[.val (.long p1), .second, .val (.long p2), .second, .val (.long p3), .second, .val (.long p4), .second, .val (.int p5), .val (.int p6), .val (.int (1 : Int32)), .val (.int (2 : Int32)), .val (.int (3 : Int32)), .unset, .unset, .unset, .unset, .unset, .unset, .unset, .unset, .unset, .unset, .unset, .unset, .unset] [(.int (2 : Int32)), (.int p5)])) _
    refine XS.iushr X0.here hx rfl (hb hby at_29) rfl ?_
    show Steps p.tables e below (s₁.setTop (mkF m 30 #[.val (.long p1), .second, .val (.long p2), .second, .val (.long p3), .second, .val (.long p4), .second, .val (.int p5), .val (.int p6), .val (.int (1 : Int32)), .val (.int (2 : Int32)), .val (.int (3 : Int32)), .unset, .unset, .unset, .unset, .unset, .unset, .unset, .unset, .unset, .unset, .unset, .unset, .unset] [(.int ((p5.toUInt32 >>> ((2 : Int32) &&& 31).toUInt32).toInt32))])) _
    refine X0.ldcInt hx hown (mvT hZ (hw _ (List.mem_of_getElem? (i := 0) rfl))) (g := (mkF m 30 #[.val (.long p1), .second, .val (.long p2), .second, .val (.long p3), .second, .val (.long p4), .second, .val (.int p5), .val (.int p6), .val (.int (1 : Int32)), .val (.int (2 : Int32)), .val (.int (3 : Int32)), .unset, .unset, .unset, .unset, .unset, .unset, .unset, .unset, .unset, .unset, .unset, .unset, .unset] [(.int ((p5.toUInt32 >>> ((2 : Int32) &&& 31).toUInt32).toInt32))])) rfl (hb hby at_30) _ ?_
    show Steps p.tables e below (s₁.setTop (mkF m 32 #[.val (.long p1), .second, .val (.long p2), .second, .val (.long p3), .second, .val (.long p4), .second, .val (.int p5), .val (.int p6), .val (.int (1 : Int32)), .val (.int (2 : Int32)), .val (.int (3 : Int32)), .unset, .unset, .unset, .unset, .unset, .unset, .unset, .unset, .unset, .unset, .unset, .unset, .unset] [(.int (268435455 : Int32)), (.int ((p5.toUInt32 >>> ((2 : Int32) &&& 31).toUInt32).toInt32))])) _
    refine XS.iand X0.here hx rfl (hb hby at_32) rfl ?_
    show Steps p.tables e below (s₁.setTop (mkF m 33 #[.val (.long p1), .second, .val (.long p2), .second, .val (.long p3), .second, .val (.long p4), .second, .val (.int p5), .val (.int p6), .val (.int (1 : Int32)), .val (.int (2 : Int32)), .val (.int (3 : Int32)), .unset, .unset, .unset, .unset, .unset, .unset, .unset, .unset, .unset, .unset, .unset, .unset, .unset] [(.int (((p5.toUInt32 >>> ((2 : Int32) &&& 31).toUInt32).toInt32) &&& (268435455 : Int32)))])) _
    refine XS.i2l X0.here hx rfl (hb hby at_33) rfl ?_
    show Steps p.tables e below (s₁.setTop (mkF m 34 #[.val (.long p1), .second, .val (.long p2), .second, .val (.long p3), .second, .val (.long p4), .second, .val (.int p5), .val (.int p6), .val (.int (1 : Int32)), .val (.int (2 : Int32)), .val (.int (3 : Int32)), .unset, .unset, .unset, .unset, .unset, .unset, .unset, .unset, .unset, .unset, .unset, .unset, .unset] [(.long ((((p5.toUInt32 >>> ((2 : Int32) &&& 31).toUInt32).toInt32) &&& (268435455 : Int32)).toInt64))])) _
    rw [← h_sl]
    show Steps p.tables e below (s₁.setTop (mkF m 34 #[.val (.long p1), .second, .val (.long p2), .second, .val (.long p3), .second, .val (.long p4), .second, .val (.int p5), .val (.int p6), .val (.int (1 : Int32)), .val (.int (2 : Int32)), .val (.int (3 : Int32)), .unset, .unset, .unset, .unset, .unset, .unset, .unset, .unset, .unset, .unset, .unset, .unset, .unset] [(.long sl)])) _
    refine XS.lstore X0.here hx rfl (hb hby at_34) rfl (l' := #[.val (.long p1), .second, .val (.long p2), .second, .val (.long p3), .second, .val (.long p4), .second, .val (.int p5), .val (.int p6), .val (.int (1 : Int32)), .val (.int (2 : Int32)), .val (.int (3 : Int32)), .val (.long sl), .second, .unset, .unset, .unset, .unset, .unset, .unset, .unset, .unset, .unset, .unset, .unset]) rfl ?_
    show Steps p.tables e below (s₁.setTop (mkF m 36 #[.val (.long p1), .second, .val (.long p2), .second, .val (.long p3), .second, .val (.long p4), .second, .val (.int p5), .val (.int p6), .val (.int (1 : Int32)), .val (.int (2 : Int32)), .val (.int (3 : Int32)), .val (.long sl), .second, .unset, .unset, .unset, .unset, .unset, .unset, .unset, .unset, .unset, .unset, .unset] [])) _
    refine XS.iload X0.here hx rfl (hb hby at_36) rfl ?_
    show Steps p.tables e below (s₁.setTop (mkF m 38 #[.val (.long p1), .second, .val (.long p2), .second, .val (.long p3), .second, .val (.long p4), .second, .val (.int p5), .val (.int p6), .val (.int (1 : Int32)), .val (.int (2 : Int32)), .val (.int (3 : Int32)), .val (.long sl), .second, .unset, .unset, .unset, .unset, .unset, .unset, .unset, .unset, .unset, .unset, .unset] [(.int p6)])) _
    refine XS.i2l X0.here hx rfl (hb hby at_38) rfl ?_
    show Steps p.tables e below (s₁.setTop (mkF m 39 #[.val (.long p1), .second, .val (.long p2), .second, .val (.long p3), .second, .val (.long p4), .second, .val (.int p5), .val (.int p6), .val (.int (1 : Int32)), .val (.int (2 : Int32)), .val (.int (3 : Int32)), .val (.long sl), .second, .unset, .unset, .unset, .unset, .unset, .unset, .unset, .unset, .unset, .unset, .unset] [(.long (p6.toInt64))])) _
    refine X0.ldc2Long hx hown (mvT hZ (hw _ (List.mem_of_getElem? (i := 1) rfl))) (g := (mkF m 39 #[.val (.long p1), .second, .val (.long p2), .second, .val (.long p3), .second, .val (.long p4), .second, .val (.int p5), .val (.int p6), .val (.int (1 : Int32)), .val (.int (2 : Int32)), .val (.int (3 : Int32)), .val (.long sl), .second, .unset, .unset, .unset, .unset, .unset, .unset, .unset, .unset, .unset, .unset, .unset] [(.long (p6.toInt64))])) rfl (hb hby at_39) _ ?_
    show Steps p.tables e below (s₁.setTop (mkF m 42 #[.val (.long p1), .second, .val (.long p2), .second, .val (.long p3), .second, .val (.long p4), .second, .val (.int p5), .val (.int p6), .val (.int (1 : Int32)), .val (.int (2 : Int32)), .val (.int (3 : Int32)), .val (.long sl), .second, .unset, .unset, .unset, .unset, .unset, .unset, .unset, .unset, .unset, .unset, .unset] [(.long (2147483647 : Int64)), (.long (p6.toInt64))])) _
    refine XS.land X0.here hx rfl (hb hby at_42) rfl ?_
    show Steps p.tables e below (s₁.setTop (mkF m 43 #[.val (.long p1), .second, .val (.long p2), .second, .val (.long p3), .second, .val (.long p4), .second, .val (.int p5), .val (.int p6), .val (.int (1 : Int32)), .val (.int (2 : Int32)), .val (.int (3 : Int32)), .val (.long sl), .second, .unset, .unset, .unset, .unset, .unset, .unset, .unset, .unset, .unset, .unset, .unset] [(.long ((p6.toInt64) &&& (2147483647 : Int64)))])) _
    rw [← h_tt1]
    show Steps p.tables e below (s₁.setTop (mkF m 43 #[.val (.long p1), .second, .val (.long p2), .second, .val (.long p3), .second, .val (.long p4), .second, .val (.int p5), .val (.int p6), .val (.int (1 : Int32)), .val (.int (2 : Int32)), .val (.int (3 : Int32)), .val (.long sl), .second, .unset, .unset, .unset, .unset, .unset, .unset, .unset, .unset, .unset, .unset, .unset] [(.long tt1)])) _
    refine XS.lstore X0.here hx rfl (hb hby at_43) rfl (l' := #[.val (.long p1), .second, .val (.long p2), .second, .val (.long p3), .second, .val (.long p4), .second, .val (.int p5), .val (.int p6), .val (.int (1 : Int32)), .val (.int (2 : Int32)), .val (.int (3 : Int32)), .val (.long sl), .second, .val (.long tt1), .second, .unset, .unset, .unset, .unset, .unset, .unset, .unset, .unset, .unset]) rfl ?_
    show Steps p.tables e below (s₁.setTop (mkF m 45 #[.val (.long p1), .second, .val (.long p2), .second, .val (.long p3), .second, .val (.long p4), .second, .val (.int p5), .val (.int p6), .val (.int (1 : Int32)), .val (.int (2 : Int32)), .val (.int (3 : Int32)), .val (.long sl), .second, .val (.long tt1), .second, .unset, .unset, .unset, .unset, .unset, .unset, .unset, .unset, .unset] [])) _
    refine XS.lload X0.here hx rfl (hb hby at_45) rfl ?_
    show Steps p.tables e below (s₁.setTop (mkF m 47 #[.val (.long p1), .second, .val (.long p2), .second, .val (.long p3), .second, .val (.long p4), .second, .val (.int p5), .val (.int p6), .val (.int (1 : Int32)), .val (.int (2 : Int32)), .val (.int (3 : Int32)), .val (.long sl), .second, .val (.long tt1), .second, .unset, .unset, .unset, .unset, .unset, .unset, .unset, .unset, .unset] [(.long tt1)])) _
    refine XS.lconst X0.here hx rfl (hb hby at_47) ?_
    show Steps p.tables e below (s₁.setTop (mkF m 48 #[.val (.long p1), .second, .val (.long p2), .second, .val (.long p3), .second, .val (.long p4), .second, .val (.int p5), .val (.int p6), .val (.int (1 : Int32)), .val (.int (2 : Int32)), .val (.int (3 : Int32)), .val (.long sl), .second, .val (.long tt1), .second, .unset, .unset, .unset, .unset, .unset, .unset, .unset, .unset, .unset] [(.long (1 : Int64)), (.long tt1)])) _
    refine XS.ladd X0.here hx rfl (hb hby at_48) rfl ?_
    show Steps p.tables e below (s₁.setTop (mkF m 49 #[.val (.long p1), .second, .val (.long p2), .second, .val (.long p3), .second, .val (.long p4), .second, .val (.int p5), .val (.int p6), .val (.int (1 : Int32)), .val (.int (2 : Int32)), .val (.int (3 : Int32)), .val (.long sl), .second, .val (.long tt1), .second, .unset, .unset, .unset, .unset, .unset, .unset, .unset, .unset, .unset] [(.long (tt1 + (1 : Int64)))])) _
    rw [← h_tt2]
    show Steps p.tables e below (s₁.setTop (mkF m 49 #[.val (.long p1), .second, .val (.long p2), .second, .val (.long p3), .second, .val (.long p4), .second, .val (.int p5), .val (.int p6), .val (.int (1 : Int32)), .val (.int (2 : Int32)), .val (.int (3 : Int32)), .val (.long sl), .second, .val (.long tt1), .second, .unset, .unset, .unset, .unset, .unset, .unset, .unset, .unset, .unset] [(.long tt2)])) _
    refine XS.lstore X0.here hx rfl (hb hby at_49) rfl (l' := #[.val (.long p1), .second, .val (.long p2), .second, .val (.long p3), .second, .val (.long p4), .second, .val (.int p5), .val (.int p6), .val (.int (1 : Int32)), .val (.int (2 : Int32)), .val (.int (3 : Int32)), .val (.long sl), .second, .val (.long tt1), .second, .val (.long tt2), .second, .unset, .unset, .unset, .unset, .unset, .unset, .unset]) rfl ?_
    show Steps p.tables e below (s₁.setTop (mkF m 51 #[.val (.long p1), .second, .val (.long p2), .second, .val (.long p3), .second, .val (.long p4), .second, .val (.int p5), .val (.int p6), .val (.int (1 : Int32)), .val (.int (2 : Int32)), .val (.int (3 : Int32)), .val (.long sl), .second, .val (.long tt1), .second, .val (.long tt2), .second, .unset, .unset, .unset, .unset, .unset, .unset, .unset] [])) _
    refine st1 _ ?_
    show Steps p.tables e below (T1.setTop (mkF m 54 #[.val (.long p1), .second, .val (.long p2), .second, .val (.long p3), .second, .val (.long p4), .second, .val (.int p5), .val (.int p6), .val (.int (1 : Int32)), .val (.int (2 : Int32)), .val (.int (3 : Int32)), .val (.long sl), .second, .val (.long tt1), .second, .val (.long tt2), .second, .unset, .unset, .unset, .unset, .unset, .unset, .unset] [(.ref b1)])) _
    refine XS.dup X1.here hx rfl (hb hby at_54) rfl rfl ?_
    show Steps p.tables e below (T1.setTop (mkF m 55 #[.val (.long p1), .second, .val (.long p2), .second, .val (.long p3), .second, .val (.long p4), .second, .val (.int p5), .val (.int p6), .val (.int (1 : Int32)), .val (.int (2 : Int32)), .val (.int (3 : Int32)), .val (.long sl), .second, .val (.long tt1), .second, .val (.long tt2), .second, .unset, .unset, .unset, .unset, .unset, .unset, .unset] [(.ref b1), (.ref b1)])) _
    refine XS.iconst X1.here hx rfl (hb hby at_55) ?_
    show Steps p.tables e below (T1.setTop (mkF m 56 #[.val (.long p1), .second, .val (.long p2), .second, .val (.long p3), .second, .val (.long p4), .second, .val (.int p5), .val (.int p6), .val (.int (1 : Int32)), .val (.int (2 : Int32)), .val (.int (3 : Int32)), .val (.long sl), .second, .val (.long tt1), .second, .val (.long tt2), .second, .unset, .unset, .unset, .unset, .unset, .unset, .unset] [(.int (0 : Int32)), (.ref b1), (.ref b1)])) _
    refine XS.iconst X1.here hx rfl (hb hby at_56) ?_
    show Steps p.tables e below (T1.setTop (mkF m 57 #[.val (.long p1), .second, .val (.long p2), .second, .val (.long p3), .second, .val (.long p4), .second, .val (.int p5), .val (.int p6), .val (.int (1 : Int32)), .val (.int (2 : Int32)), .val (.int (3 : Int32)), .val (.long sl), .second, .val (.long tt1), .second, .val (.long tt2), .second, .unset, .unset, .unset, .unset, .unset, .unset, .unset] [(.int (4 : Int32)), (.int (0 : Int32)), (.ref b1), (.ref b1)])) _
    refine XS.iconst X1.here hx rfl (hb hby at_57) ?_
    show Steps p.tables e below (T1.setTop (mkF m 58 #[.val (.long p1), .second, .val (.long p2), .second, .val (.long p3), .second, .val (.long p4), .second, .val (.int p5), .val (.int p6), .val (.int (1 : Int32)), .val (.int (2 : Int32)), .val (.int (3 : Int32)), .val (.long sl), .second, .val (.long tt1), .second, .val (.long tt2), .second, .unset, .unset, .unset, .unset, .unset, .unset, .unset] [(.int (3 : Int32)), (.int (4 : Int32)), (.int (0 : Int32)), (.ref b1), (.ref b1)])) _
    refine XS.lload X1.here hx rfl (hb hby at_58) rfl ?_
    show Steps p.tables e below (T1.setTop (mkF m 60 #[.val (.long p1), .second, .val (.long p2), .second, .val (.long p3), .second, .val (.long p4), .second, .val (.int p5), .val (.int p6), .val (.int (1 : Int32)), .val (.int (2 : Int32)), .val (.int (3 : Int32)), .val (.long sl), .second, .val (.long tt1), .second, .val (.long tt2), .second, .unset, .unset, .unset, .unset, .unset, .unset, .unset] [(.long sl), (.int (3 : Int32)), (.int (4 : Int32)), (.int (0 : Int32)), (.ref b1), (.ref b1)])) _
    refine XS.lconst X1.here hx rfl (hb hby at_60) ?_
    show Steps p.tables e below (T1.setTop (mkF m 61 #[.val (.long p1), .second, .val (.long p2), .second, .val (.long p3), .second, .val (.long p4), .second, .val (.int p5), .val (.int p6), .val (.int (1 : Int32)), .val (.int (2 : Int32)), .val (.int (3 : Int32)), .val (.long sl), .second, .val (.long tt1), .second, .val (.long tt2), .second, .unset, .unset, .unset, .unset, .unset, .unset, .unset] [(.long (0 : Int64)), (.long sl), (.int (3 : Int32)), (.int (4 : Int32)), (.int (0 : Int32)), (.ref b1), (.ref b1)])) _
    refine st2.trans ?_
    show Steps p.tables e below (T2.setTop (mkF m 64 #[.val (.long p1), .second, .val (.long p2), .second, .val (.long p3), .second, .val (.long p4), .second, .val (.int p5), .val (.int p6), .val (.int (1 : Int32)), .val (.int (2 : Int32)), .val (.int (3 : Int32)), .val (.long sl), .second, .val (.long tt1), .second, .val (.long tt2), .second, .unset, .unset, .unset, .unset, .unset, .unset, .unset] [(.ref b1)])) _
    refine XS.astore X2.here hx rfl (hb hby at_64) rfl rfl (l' := #[.val (.long p1), .second, .val (.long p2), .second, .val (.long p3), .second, .val (.long p4), .second, .val (.int p5), .val (.int p6), .val (.int (1 : Int32)), .val (.int (2 : Int32)), .val (.int (3 : Int32)), .val (.long sl), .second, .val (.long tt1), .second, .val (.long tt2), .second, .val (.ref b1), .unset, .unset, .unset, .unset, .unset, .unset]) rfl ?_
    show Steps p.tables e below (T2.setTop (mkF m 66 #[.val (.long p1), .second, .val (.long p2), .second, .val (.long p3), .second, .val (.long p4), .second, .val (.int p5), .val (.int p6), .val (.int (1 : Int32)), .val (.int (2 : Int32)), .val (.int (3 : Int32)), .val (.long sl), .second, .val (.long tt1), .second, .val (.long tt2), .second, .val (.ref b1), .unset, .unset, .unset, .unset, .unset, .unset] [])) _
    refine XS.aload X2.here hx rfl (hb hby at_66) rfl rfl ?_
    show Steps p.tables e below (T2.setTop (mkF m 68 #[.val (.long p1), .second, .val (.long p2), .second, .val (.long p3), .second, .val (.long p4), .second, .val (.int p5), .val (.int p6), .val (.int (1 : Int32)), .val (.int (2 : Int32)), .val (.int (3 : Int32)), .val (.long sl), .second, .val (.long tt1), .second, .val (.long tt2), .second, .val (.ref b1), .unset, .unset, .unset, .unset, .unset, .unset] [(.ref b1)])) _
    refine XS.iload X2.here hx rfl (hb hby at_68) rfl ?_
    show Steps p.tables e below (T2.setTop (mkF m 70 #[.val (.long p1), .second, .val (.long p2), .second, .val (.long p3), .second, .val (.long p4), .second, .val (.int p5), .val (.int p6), .val (.int (1 : Int32)), .val (.int (2 : Int32)), .val (.int (3 : Int32)), .val (.long sl), .second, .val (.long tt1), .second, .val (.long tt2), .second, .val (.ref b1), .unset, .unset, .unset, .unset, .unset, .unset] [(.int (1 : Int32)), (.ref b1)])) _
    refine XS.lloadN X2.here hx rfl (hb hby at_70) rfl ?_
    show Steps p.tables e below (T2.setTop (mkF m 71 #[.val (.long p1), .second, .val (.long p2), .second, .val (.long p3), .second, .val (.long p4), .second, .val (.int p5), .val (.int p6), .val (.int (1 : Int32)), .val (.int (2 : Int32)), .val (.int (3 : Int32)), .val (.long sl), .second, .val (.long tt1), .second, .val (.long tt2), .second, .val (.ref b1), .unset, .unset, .unset, .unset, .unset, .unset] [(.long p1), (.int (1 : Int32)), (.ref b1)])) _
    refine XS.lconst X2.here hx rfl (hb hby at_71) ?_
    show Steps p.tables e below (T2.setTop (mkF m 72 #[.val (.long p1), .second, .val (.long p2), .second, .val (.long p3), .second, .val (.long p4), .second, .val (.int p5), .val (.int p6), .val (.int (1 : Int32)), .val (.int (2 : Int32)), .val (.int (3 : Int32)), .val (.long sl), .second, .val (.long tt1), .second, .val (.long tt2), .second, .val (.ref b1), .unset, .unset, .unset, .unset, .unset, .unset] [(.long (0 : Int64)), (.long p1), (.int (1 : Int32)), (.ref b1)])) _
    refine st4.trans ?_
    show Steps p.tables e below (T4.setTop (mkF m 75 #[.val (.long p1), .second, .val (.long p2), .second, .val (.long p3), .second, .val (.long p4), .second, .val (.int p5), .val (.int p6), .val (.int (1 : Int32)), .val (.int (2 : Int32)), .val (.int (3 : Int32)), .val (.long sl), .second, .val (.long tt1), .second, .val (.long tt2), .second, .val (.ref b1), .unset, .unset, .unset, .unset, .unset, .unset] [])) _
    refine XS.aload X4.here hx rfl (hb hby at_75) rfl rfl ?_
    show Steps p.tables e below (T4.setTop (mkF m 77 #[.val (.long p1), .second, .val (.long p2), .second, .val (.long p3), .second, .val (.long p4), .second, .val (.int p5), .val (.int p6), .val (.int (1 : Int32)), .val (.int (2 : Int32)), .val (.int (3 : Int32)), .val (.long sl), .second, .val (.long tt1), .second, .val (.long tt2), .second, .val (.ref b1), .unset, .unset, .unset, .unset, .unset, .unset] [(.ref b1)])) _
    refine XS.iload X4.here hx rfl (hb hby at_77) rfl ?_
    show Steps p.tables e below (T4.setTop (mkF m 79 #[.val (.long p1), .second, .val (.long p2), .second, .val (.long p3), .second, .val (.long p4), .second, .val (.int p5), .val (.int p6), .val (.int (1 : Int32)), .val (.int (2 : Int32)), .val (.int (3 : Int32)), .val (.long sl), .second, .val (.long tt1), .second, .val (.long tt2), .second, .val (.ref b1), .unset, .unset, .unset, .unset, .unset, .unset] [(.int (2 : Int32)), (.ref b1)])) _
    refine XS.lloadN X4.here hx rfl (hb hby at_79) rfl ?_
    show Steps p.tables e below (T4.setTop (mkF m 80 #[.val (.long p1), .second, .val (.long p2), .second, .val (.long p3), .second, .val (.long p4), .second, .val (.int p5), .val (.int p6), .val (.int (1 : Int32)), .val (.int (2 : Int32)), .val (.int (3 : Int32)), .val (.long sl), .second, .val (.long tt1), .second, .val (.long tt2), .second, .val (.ref b1), .unset, .unset, .unset, .unset, .unset, .unset] [(.long p2), (.int (2 : Int32)), (.ref b1)])) _
    refine XS.lload X4.here hx rfl (hb hby at_80) rfl ?_
    show Steps p.tables e below (T4.setTop (mkF m 82 #[.val (.long p1), .second, .val (.long p2), .second, .val (.long p3), .second, .val (.long p4), .second, .val (.int p5), .val (.int p6), .val (.int (1 : Int32)), .val (.int (2 : Int32)), .val (.int (3 : Int32)), .val (.long sl), .second, .val (.long tt1), .second, .val (.long tt2), .second, .val (.ref b1), .unset, .unset, .unset, .unset, .unset, .unset] [(.long tt2), (.long p2), (.int (2 : Int32)), (.ref b1)])) _
    refine st6.trans ?_
    show Steps p.tables e below (T6.setTop (mkF m 85 #[.val (.long p1), .second, .val (.long p2), .second, .val (.long p3), .second, .val (.long p4), .second, .val (.int p5), .val (.int p6), .val (.int (1 : Int32)), .val (.int (2 : Int32)), .val (.int (3 : Int32)), .val (.long sl), .second, .val (.long tt1), .second, .val (.long tt2), .second, .val (.ref b1), .unset, .unset, .unset, .unset, .unset, .unset] [])) _
    refine XS.aload X6.here hx rfl (hb hby at_85) rfl rfl ?_
    show Steps p.tables e below (T6.setTop (mkF m 87 #[.val (.long p1), .second, .val (.long p2), .second, .val (.long p3), .second, .val (.long p4), .second, .val (.int p5), .val (.int p6), .val (.int (1 : Int32)), .val (.int (2 : Int32)), .val (.int (3 : Int32)), .val (.long sl), .second, .val (.long tt1), .second, .val (.long tt2), .second, .val (.ref b1), .unset, .unset, .unset, .unset, .unset, .unset] [(.ref b1)])) _
    refine XS.iload X6.here hx rfl (hb hby at_87) rfl ?_
    show Steps p.tables e below (T6.setTop (mkF m 89 #[.val (.long p1), .second, .val (.long p2), .second, .val (.long p3), .second, .val (.long p4), .second, .val (.int p5), .val (.int p6), .val (.int (1 : Int32)), .val (.int (2 : Int32)), .val (.int (3 : Int32)), .val (.long sl), .second, .val (.long tt1), .second, .val (.long tt2), .second, .val (.ref b1), .unset, .unset, .unset, .unset, .unset, .unset] [(.int (3 : Int32)), (.ref b1)])) _
    refine XS.lload X6.here hx rfl (hb hby at_89) rfl ?_
    show Steps p.tables e below (T6.setTop (mkF m 91 #[.val (.long p1), .second, .val (.long p2), .second, .val (.long p3), .second, .val (.long p4), .second, .val (.int p5), .val (.int p6), .val (.int (1 : Int32)), .val (.int (2 : Int32)), .val (.int (3 : Int32)), .val (.long sl), .second, .val (.long tt1), .second, .val (.long tt2), .second, .val (.ref b1), .unset, .unset, .unset, .unset, .unset, .unset] [(.long p3), (.int (3 : Int32)), (.ref b1)])) _
    refine XS.lload X6.here hx rfl (hb hby at_91) rfl ?_
    show Steps p.tables e below (T6.setTop (mkF m 93 #[.val (.long p1), .second, .val (.long p2), .second, .val (.long p3), .second, .val (.long p4), .second, .val (.int p5), .val (.int p6), .val (.int (1 : Int32)), .val (.int (2 : Int32)), .val (.int (3 : Int32)), .val (.long sl), .second, .val (.long tt1), .second, .val (.long tt2), .second, .val (.ref b1), .unset, .unset, .unset, .unset, .unset, .unset] [(.long tt2), (.long p3), (.int (3 : Int32)), (.ref b1)])) _
    refine st11.trans ?_
    show Steps p.tables e below (T11.setTop (mkF m 96 #[.val (.long p1), .second, .val (.long p2), .second, .val (.long p3), .second, .val (.long p4), .second, .val (.int p5), .val (.int p6), .val (.int (1 : Int32)), .val (.int (2 : Int32)), .val (.int (3 : Int32)), .val (.long sl), .second, .val (.long tt1), .second, .val (.long tt2), .second, .val (.ref b1), .unset, .unset, .unset, .unset, .unset, .unset] [])) _
    refine XS.aload X11.here hx rfl (hb hby at_96) rfl rfl ?_
    show Steps p.tables e below (T11.setTop (mkF m 98 #[.val (.long p1), .second, .val (.long p2), .second, .val (.long p3), .second, .val (.long p4), .second, .val (.int p5), .val (.int p6), .val (.int (1 : Int32)), .val (.int (2 : Int32)), .val (.int (3 : Int32)), .val (.long sl), .second, .val (.long tt1), .second, .val (.long tt2), .second, .val (.ref b1), .unset, .unset, .unset, .unset, .unset, .unset] [(.ref b1)])) _
    refine XS.iload X11.here hx rfl (hb hby at_98) rfl ?_
    show Steps p.tables e below (T11.setTop (mkF m 100 #[.val (.long p1), .second, .val (.long p2), .second, .val (.long p3), .second, .val (.long p4), .second, .val (.int p5), .val (.int p6), .val (.int (1 : Int32)), .val (.int (2 : Int32)), .val (.int (3 : Int32)), .val (.long sl), .second, .val (.long tt1), .second, .val (.long tt2), .second, .val (.ref b1), .unset, .unset, .unset, .unset, .unset, .unset] [(.int (1 : Int32)), (.ref b1)])) _
    refine XS.lload X11.here hx rfl (hb hby at_100) rfl ?_
    show Steps p.tables e below (T11.setTop (mkF m 102 #[.val (.long p1), .second, .val (.long p2), .second, .val (.long p3), .second, .val (.long p4), .second, .val (.int p5), .val (.int p6), .val (.int (1 : Int32)), .val (.int (2 : Int32)), .val (.int (3 : Int32)), .val (.long sl), .second, .val (.long tt1), .second, .val (.long tt2), .second, .val (.ref b1), .unset, .unset, .unset, .unset, .unset, .unset] [(.long tt1), (.int (1 : Int32)), (.ref b1)])) _
    refine st16.trans ?_
    show Steps p.tables e below (T16.setTop (mkF m 105 #[.val (.long p1), .second, .val (.long p2), .second, .val (.long p3), .second, .val (.long p4), .second, .val (.int p5), .val (.int p6), .val (.int (1 : Int32)), .val (.int (2 : Int32)), .val (.int (3 : Int32)), .val (.long sl), .second, .val (.long tt1), .second, .val (.long tt2), .second, .val (.ref b1), .unset, .unset, .unset, .unset, .unset, .unset] [])) _
    refine XS.aload X16.here hx rfl (hb hby at_105) rfl rfl ?_
    show Steps p.tables e below (T16.setTop (mkF m 107 #[.val (.long p1), .second, .val (.long p2), .second, .val (.long p3), .second, .val (.long p4), .second, .val (.int p5), .val (.int p6), .val (.int (1 : Int32)), .val (.int (2 : Int32)), .val (.int (3 : Int32)), .val (.long sl), .second, .val (.long tt1), .second, .val (.long tt2), .second, .val (.ref b1), .unset, .unset, .unset, .unset, .unset, .unset] [(.ref b1)])) _
    refine XS.lload X16.here hx rfl (hb hby at_107) rfl ?_
    show Steps p.tables e below (T16.setTop (mkF m 109 #[.val (.long p1), .second, .val (.long p2), .second, .val (.long p3), .second, .val (.long p4), .second, .val (.int p5), .val (.int p6), .val (.int (1 : Int32)), .val (.int (2 : Int32)), .val (.int (3 : Int32)), .val (.long sl), .second, .val (.long tt1), .second, .val (.long tt2), .second, .val (.ref b1), .unset, .unset, .unset, .unset, .unset, .unset] [(.long p4), (.ref b1)])) _
    refine XS.lload X16.here hx rfl (hb hby at_109) rfl ?_
    show Steps p.tables e below (T16.setTop (mkF m 111 #[.val (.long p1), .second, .val (.long p2), .second, .val (.long p3), .second, .val (.long p4), .second, .val (.int p5), .val (.int p6), .val (.int (1 : Int32)), .val (.int (2 : Int32)), .val (.int (3 : Int32)), .val (.long sl), .second, .val (.long tt1), .second, .val (.long tt2), .second, .val (.ref b1), .unset, .unset, .unset, .unset, .unset, .unset] [(.long tt1), (.long p4), (.ref b1)])) _
    refine XS.lload X16.here hx rfl (hb hby at_111) rfl ?_
    show Steps p.tables e below (T16.setTop (mkF m 113 #[.val (.long p1), .second, .val (.long p2), .second, .val (.long p3), .second, .val (.long p4), .second, .val (.int p5), .val (.int p6), .val (.int (1 : Int32)), .val (.int (2 : Int32)), .val (.int (3 : Int32)), .val (.long sl), .second, .val (.long tt1), .second, .val (.long tt2), .second, .val (.ref b1), .unset, .unset, .unset, .unset, .unset, .unset] [(.long sl), (.long tt1), (.long p4), (.ref b1)])) _
    refine XS.ladd X16.here hx rfl (hb hby at_113) rfl ?_
    show Steps p.tables e below (T16.setTop (mkF m 114 #[.val (.long p1), .second, .val (.long p2), .second, .val (.long p3), .second, .val (.long p4), .second, .val (.int p5), .val (.int p6), .val (.int (1 : Int32)), .val (.int (2 : Int32)), .val (.int (3 : Int32)), .val (.long sl), .second, .val (.long tt1), .second, .val (.long tt2), .second, .val (.ref b1), .unset, .unset, .unset, .unset, .unset, .unset] [(.long (tt1 + sl)), (.long p4), (.ref b1)])) _
    refine st21.trans ?_
    show Steps p.tables e below (T21.setTop (mkF m 117 #[.val (.long p1), .second, .val (.long p2), .second, .val (.long p3), .second, .val (.long p4), .second, .val (.int p5), .val (.int p6), .val (.int (1 : Int32)), .val (.int (2 : Int32)), .val (.int (3 : Int32)), .val (.long sl), .second, .val (.long tt1), .second, .val (.long tt2), .second, .val (.ref b1), .unset, .unset, .unset, .unset, .unset, .unset] [(.long (own_min (own_min (own_min p4 ((own_set (own_set (own_set (own_set (fun _ => (-9223372036854775808 : Int64)) 1 p1) 2 p2) 3 p3) 1 (-9223372036854775808 : Int64)) 1)) ((own_set (own_set (own_set (own_set (fun _ => (-9223372036854775808 : Int64)) 1 p1) 2 p2) 3 p3) 1 (-9223372036854775808 : Int64)) 2)) ((own_set (own_set (own_set (own_set (fun _ => (-9223372036854775808 : Int64)) 1 p1) 2 p2) 3 p3) 1 (-9223372036854775808 : Int64)) 3)))])) _
    rw [own_low _ _ _ _ (by first | exact Or.inl rfl | exact Or.inr (Or.inl rfl) | exact Or.inr (Or.inr rfl))]
    show Steps p.tables e below (T21.setTop (mkF m 117 #[.val (.long p1), .second, .val (.long p2), .second, .val (.long p3), .second, .val (.long p4), .second, .val (.int p5), .val (.int p6), .val (.int (1 : Int32)), .val (.int (2 : Int32)), .val (.int (3 : Int32)), .val (.long sl), .second, .val (.long tt1), .second, .val (.long tt2), .second, .val (.ref b1), .unset, .unset, .unset, .unset, .unset, .unset] [(.long (-9223372036854775808 : Int64))])) _
    refine XS.lstore X21.here hx rfl (hb hby at_117) rfl (l' := #[.val (.long p1), .second, .val (.long p2), .second, .val (.long p3), .second, .val (.long p4), .second, .val (.int p5), .val (.int p6), .val (.int (1 : Int32)), .val (.int (2 : Int32)), .val (.int (3 : Int32)), .val (.long sl), .second, .val (.long tt1), .second, .val (.long tt2), .second, .val (.ref b1), .val (.long (-9223372036854775808 : Int64)), .second, .unset, .unset, .unset, .unset]) rfl ?_
    show Steps p.tables e below (T21.setTop (mkF m 119 #[.val (.long p1), .second, .val (.long p2), .second, .val (.long p3), .second, .val (.long p4), .second, .val (.int p5), .val (.int p6), .val (.int (1 : Int32)), .val (.int (2 : Int32)), .val (.int (3 : Int32)), .val (.long sl), .second, .val (.long tt1), .second, .val (.long tt2), .second, .val (.ref b1), .val (.long (-9223372036854775808 : Int64)), .second, .unset, .unset, .unset, .unset] [])) _
    refine XS.aload X21.here hx rfl (hb hby at_119) rfl rfl ?_
    show Steps p.tables e below (T21.setTop (mkF m 121 #[.val (.long p1), .second, .val (.long p2), .second, .val (.long p3), .second, .val (.long p4), .second, .val (.int p5), .val (.int p6), .val (.int (1 : Int32)), .val (.int (2 : Int32)), .val (.int (3 : Int32)), .val (.long sl), .second, .val (.long tt1), .second, .val (.long tt2), .second, .val (.ref b1), .val (.long (-9223372036854775808 : Int64)), .second, .unset, .unset, .unset, .unset] [(.ref b1)])) _
    refine XS.lload X21.here hx rfl (hb hby at_121) rfl ?_
    show Steps p.tables e below (T21.setTop (mkF m 123 #[.val (.long p1), .second, .val (.long p2), .second, .val (.long p3), .second, .val (.long p4), .second, .val (.int p5), .val (.int p6), .val (.int (1 : Int32)), .val (.int (2 : Int32)), .val (.int (3 : Int32)), .val (.long sl), .second, .val (.long tt1), .second, .val (.long tt2), .second, .val (.ref b1), .val (.long (-9223372036854775808 : Int64)), .second, .unset, .unset, .unset, .unset] [(.long p4), (.ref b1)])) _
    refine XS.lload X21.here hx rfl (hb hby at_123) rfl ?_
    show Steps p.tables e below (T21.setTop (mkF m 125 #[.val (.long p1), .second, .val (.long p2), .second, .val (.long p3), .second, .val (.long p4), .second, .val (.int p5), .val (.int p6), .val (.int (1 : Int32)), .val (.int (2 : Int32)), .val (.int (3 : Int32)), .val (.long sl), .second, .val (.long tt1), .second, .val (.long tt2), .second, .val (.ref b1), .val (.long (-9223372036854775808 : Int64)), .second, .unset, .unset, .unset, .unset] [(.long tt1), (.long p4), (.ref b1)])) _
    refine XS.lload X21.here hx rfl (hb hby at_125) rfl ?_
    show Steps p.tables e below (T21.setTop (mkF m 127 #[.val (.long p1), .second, .val (.long p2), .second, .val (.long p3), .second, .val (.long p4), .second, .val (.int p5), .val (.int p6), .val (.int (1 : Int32)), .val (.int (2 : Int32)), .val (.int (3 : Int32)), .val (.long sl), .second, .val (.long tt1), .second, .val (.long tt2), .second, .val (.ref b1), .val (.long (-9223372036854775808 : Int64)), .second, .unset, .unset, .unset, .unset] [(.long sl), (.long tt1), (.long p4), (.ref b1)])) _
    refine XS.ladd X21.here hx rfl (hb hby at_127) rfl ?_
    show Steps p.tables e below (T21.setTop (mkF m 128 #[.val (.long p1), .second, .val (.long p2), .second, .val (.long p3), .second, .val (.long p4), .second, .val (.int p5), .val (.int p6), .val (.int (1 : Int32)), .val (.int (2 : Int32)), .val (.int (3 : Int32)), .val (.long sl), .second, .val (.long tt1), .second, .val (.long tt2), .second, .val (.ref b1), .val (.long (-9223372036854775808 : Int64)), .second, .unset, .unset, .unset, .unset] [(.long (tt1 + sl)), (.long p4), (.ref b1)])) _
    refine XS.lconst X21.here hx rfl (hb hby at_128) ?_
    show Steps p.tables e below (T21.setTop (mkF m 129 #[.val (.long p1), .second, .val (.long p2), .second, .val (.long p3), .second, .val (.long p4), .second, .val (.int p5), .val (.int p6), .val (.int (1 : Int32)), .val (.int (2 : Int32)), .val (.int (3 : Int32)), .val (.long sl), .second, .val (.long tt1), .second, .val (.long tt2), .second, .val (.ref b1), .val (.long (-9223372036854775808 : Int64)), .second, .unset, .unset, .unset, .unset] [(.long (1 : Int64)), (.long (tt1 + sl)), (.long p4), (.ref b1)])) _
    refine XS.ladd X21.here hx rfl (hb hby at_129) rfl ?_
    show Steps p.tables e below (T21.setTop (mkF m 130 #[.val (.long p1), .second, .val (.long p2), .second, .val (.long p3), .second, .val (.long p4), .second, .val (.int p5), .val (.int p6), .val (.int (1 : Int32)), .val (.int (2 : Int32)), .val (.int (3 : Int32)), .val (.long sl), .second, .val (.long tt1), .second, .val (.long tt2), .second, .val (.ref b1), .val (.long (-9223372036854775808 : Int64)), .second, .unset, .unset, .unset, .unset] [(.long ((tt1 + sl) + (1 : Int64))), (.long p4), (.ref b1)])) _
    refine st29.trans ?_
    show Steps p.tables e below (T29.setTop (mkF m 133 #[.val (.long p1), .second, .val (.long p2), .second, .val (.long p3), .second, .val (.long p4), .second, .val (.int p5), .val (.int p6), .val (.int (1 : Int32)), .val (.int (2 : Int32)), .val (.int (3 : Int32)), .val (.long sl), .second, .val (.long tt1), .second, .val (.long tt2), .second, .val (.ref b1), .val (.long (-9223372036854775808 : Int64)), .second, .unset, .unset, .unset, .unset] [(.long (own_min (own_min p4 p2) p3))])) _
    refine XS.lstore X29.here hx rfl (hb hby at_133) rfl (l' := #[.val (.long p1), .second, .val (.long p2), .second, .val (.long p3), .second, .val (.long p4), .second, .val (.int p5), .val (.int p6), .val (.int (1 : Int32)), .val (.int (2 : Int32)), .val (.int (3 : Int32)), .val (.long sl), .second, .val (.long tt1), .second, .val (.long tt2), .second, .val (.ref b1), .val (.long (-9223372036854775808 : Int64)), .second, .val (.long (own_min (own_min p4 p2) p3)), .second, .unset, .unset]) rfl ?_
    show Steps p.tables e below (T29.setTop (mkF m 135 #[.val (.long p1), .second, .val (.long p2), .second, .val (.long p3), .second, .val (.long p4), .second, .val (.int p5), .val (.int p6), .val (.int (1 : Int32)), .val (.int (2 : Int32)), .val (.int (3 : Int32)), .val (.long sl), .second, .val (.long tt1), .second, .val (.long tt2), .second, .val (.ref b1), .val (.long (-9223372036854775808 : Int64)), .second, .val (.long (own_min (own_min p4 p2) p3)), .second, .unset, .unset] [])) _
    refine XS.lload X29.here hx rfl (hb hby at_135) rfl ?_
    show Steps p.tables e below (T29.setTop (mkF m 137 #[.val (.long p1), .second, .val (.long p2), .second, .val (.long p3), .second, .val (.long p4), .second, .val (.int p5), .val (.int p6), .val (.int (1 : Int32)), .val (.int (2 : Int32)), .val (.int (3 : Int32)), .val (.long sl), .second, .val (.long tt1), .second, .val (.long tt2), .second, .val (.ref b1), .val (.long (-9223372036854775808 : Int64)), .second, .val (.long (own_min (own_min p4 p2) p3)), .second, .unset, .unset] [(.long (-9223372036854775808 : Int64))])) _
    refine X29.ldc2Long hx hown (mvT hZ (hw _ (List.mem_of_getElem? (i := 55) rfl))) (g := (mkF m 137 #[.val (.long p1), .second, .val (.long p2), .second, .val (.long p3), .second, .val (.long p4), .second, .val (.int p5), .val (.int p6), .val (.int (1 : Int32)), .val (.int (2 : Int32)), .val (.int (3 : Int32)), .val (.long sl), .second, .val (.long tt1), .second, .val (.long tt2), .second, .val (.ref b1), .val (.long (-9223372036854775808 : Int64)), .second, .val (.long (own_min (own_min p4 p2) p3)), .second, .unset, .unset] [(.long (-9223372036854775808 : Int64))])) rfl (hb hby at_137) _ ?_
    show Steps p.tables e below (T29.setTop (mkF m 140 #[.val (.long p1), .second, .val (.long p2), .second, .val (.long p3), .second, .val (.long p4), .second, .val (.int p5), .val (.int p6), .val (.int (1 : Int32)), .val (.int (2 : Int32)), .val (.int (3 : Int32)), .val (.long sl), .second, .val (.long tt1), .second, .val (.long tt2), .second, .val (.ref b1), .val (.long (-9223372036854775808 : Int64)), .second, .val (.long (own_min (own_min p4 p2) p3)), .second, .unset, .unset] [(.long (-9223372036854775808 : Int64)), (.long (-9223372036854775808 : Int64))])) _
    refine XS.lcmp X29.here hx rfl (hb hby at_140) rfl ?_
    show Steps p.tables e below (T29.setTop (mkF m 141 #[.val (.long p1), .second, .val (.long p2), .second, .val (.long p3), .second, .val (.long p4), .second, .val (.int p5), .val (.int p6), .val (.int (1 : Int32)), .val (.int (2 : Int32)), .val (.int (3 : Int32)), .val (.long sl), .second, .val (.long tt1), .second, .val (.long tt2), .second, .val (.ref b1), .val (.long (-9223372036854775808 : Int64)), .second, .val (.long (own_min (own_min p4 p2) p3)), .second, .unset, .unset] [(.int (lcmpW (-9223372036854775808 : Int64) (-9223372036854775808 : Int64)))])) _
    refine XS.ifNo X29.here hx rfl (hb hby at_141) rfl ((if0 _ _).trans (teq (show (lcmpW (-9223372036854775808 : Int64) (-9223372036854775808 : Int64)) = (0 : Int32) from ((lw_eq _ _).mpr rfl))).2) ?_
    show Steps p.tables e below (T29.setTop (mkF m 144 #[.val (.long p1), .second, .val (.long p2), .second, .val (.long p3), .second, .val (.long p4), .second, .val (.int p5), .val (.int p6), .val (.int (1 : Int32)), .val (.int (2 : Int32)), .val (.int (3 : Int32)), .val (.long sl), .second, .val (.long tt1), .second, .val (.long tt2), .second, .val (.ref b1), .val (.long (-9223372036854775808 : Int64)), .second, .val (.long (own_min (own_min p4 p2) p3)), .second, .unset, .unset] [])) _
    refine XS.iconst X29.here hx rfl (hb hby at_144) ?_
    show Steps p.tables e below (T29.setTop (mkF m 145 #[.val (.long p1), .second, .val (.long p2), .second, .val (.long p3), .second, .val (.long p4), .second, .val (.int p5), .val (.int p6), .val (.int (1 : Int32)), .val (.int (2 : Int32)), .val (.int (3 : Int32)), .val (.long sl), .second, .val (.long tt1), .second, .val (.long tt2), .second, .val (.ref b1), .val (.long (-9223372036854775808 : Int64)), .second, .val (.long (own_min (own_min p4 p2) p3)), .second, .unset, .unset] [(.int (1 : Int32))])) _
    refine XS.goto X29.here hx rfl (pc0 := 145) (pc' := 149) rfl (hb hby at_145) (by decide) (by decide) ?_
    show Steps p.tables e below (T29.setTop (mkF m 149 #[.val (.long p1), .second, .val (.long p2), .second, .val (.long p3), .second, .val (.long p4), .second, .val (.int p5), .val (.int p6), .val (.int (1 : Int32)), .val (.int (2 : Int32)), .val (.int (3 : Int32)), .val (.long sl), .second, .val (.long tt1), .second, .val (.long tt2), .second, .val (.ref b1), .val (.long (-9223372036854775808 : Int64)), .second, .val (.long (own_min (own_min p4 p2) p3)), .second, .unset, .unset] [(.int (1 : Int32))])) _
    refine XS.istore X29.here hx rfl (hb hby at_149) rfl (l' := #[.val (.long p1), .second, .val (.long p2), .second, .val (.long p3), .second, .val (.long p4), .second, .val (.int p5), .val (.int p6), .val (.int (1 : Int32)), .val (.int (2 : Int32)), .val (.int (3 : Int32)), .val (.long sl), .second, .val (.long tt1), .second, .val (.long tt2), .second, .val (.ref b1), .val (.long (-9223372036854775808 : Int64)), .second, .val (.long (own_min (own_min p4 p2) p3)), .second, .val (.int (1 : Int32)), .unset]) rfl ?_
    show Steps p.tables e below (T29.setTop (mkF m 151 #[.val (.long p1), .second, .val (.long p2), .second, .val (.long p3), .second, .val (.long p4), .second, .val (.int p5), .val (.int p6), .val (.int (1 : Int32)), .val (.int (2 : Int32)), .val (.int (3 : Int32)), .val (.long sl), .second, .val (.long tt1), .second, .val (.long tt2), .second, .val (.ref b1), .val (.long (-9223372036854775808 : Int64)), .second, .val (.long (own_min (own_min p4 p2) p3)), .second, .val (.int (1 : Int32)), .unset] [])) _
    refine XS.lload X29.here hx rfl (hb hby at_151) rfl ?_
    show Steps p.tables e below (T29.setTop (mkF m 153 #[.val (.long p1), .second, .val (.long p2), .second, .val (.long p3), .second, .val (.long p4), .second, .val (.int p5), .val (.int p6), .val (.int (1 : Int32)), .val (.int (2 : Int32)), .val (.int (3 : Int32)), .val (.long sl), .second, .val (.long tt1), .second, .val (.long tt2), .second, .val (.ref b1), .val (.long (-9223372036854775808 : Int64)), .second, .val (.long (own_min (own_min p4 p2) p3)), .second, .val (.int (1 : Int32)), .unset] [(.long (own_min (own_min p4 p2) p3))])) _
    refine XS.lload X29.here hx rfl (hb hby at_153) rfl ?_
    show Steps p.tables e below (T29.setTop (mkF m 155 #[.val (.long p1), .second, .val (.long p2), .second, .val (.long p3), .second, .val (.long p4), .second, .val (.int p5), .val (.int p6), .val (.int (1 : Int32)), .val (.int (2 : Int32)), .val (.int (3 : Int32)), .val (.long sl), .second, .val (.long tt1), .second, .val (.long tt2), .second, .val (.ref b1), .val (.long (-9223372036854775808 : Int64)), .second, .val (.long (own_min (own_min p4 p2) p3)), .second, .val (.int (1 : Int32)), .unset] [(.long p4), (.long (own_min (own_min p4 p2) p3))])) _
    refine XS.lloadN X29.here hx rfl (hb hby at_155) rfl ?_
    show Steps p.tables e below (T29.setTop (mkF m 156 #[.val (.long p1), .second, .val (.long p2), .second, .val (.long p3), .second, .val (.long p4), .second, .val (.int p5), .val (.int p6), .val (.int (1 : Int32)), .val (.int (2 : Int32)), .val (.int (3 : Int32)), .val (.long sl), .second, .val (.long tt1), .second, .val (.long tt2), .second, .val (.ref b1), .val (.long (-9223372036854775808 : Int64)), .second, .val (.long (own_min (own_min p4 p2) p3)), .second, .val (.int (1 : Int32)), .unset] [(.long p2), (.long p4), (.long (own_min (own_min p4 p2) p3))])) _
    refine XS.lload X29.here hx rfl (hb hby at_156) rfl ?_
    show Steps p.tables e below (T29.setTop (mkF m 158 #[.val (.long p1), .second, .val (.long p2), .second, .val (.long p3), .second, .val (.long p4), .second, .val (.int p5), .val (.int p6), .val (.int (1 : Int32)), .val (.int (2 : Int32)), .val (.int (3 : Int32)), .val (.long sl), .second, .val (.long tt1), .second, .val (.long tt2), .second, .val (.ref b1), .val (.long (-9223372036854775808 : Int64)), .second, .val (.long (own_min (own_min p4 p2) p3)), .second, .val (.int (1 : Int32)), .unset] [(.long p3), (.long p2), (.long p4), (.long (own_min (own_min p4 p2) p3))])) _
    refine st30 _ ?_
    show Steps p.tables e below (T30.setTop (mkF m 161 #[.val (.long p1), .second, .val (.long p2), .second, .val (.long p3), .second, .val (.long p4), .second, .val (.int p5), .val (.int p6), .val (.int (1 : Int32)), .val (.int (2 : Int32)), .val (.int (3 : Int32)), .val (.long sl), .second, .val (.long tt1), .second, .val (.long tt2), .second, .val (.ref b1), .val (.long (-9223372036854775808 : Int64)), .second, .val (.long (own_min (own_min p4 p2) p3)), .second, .val (.int (1 : Int32)), .unset] [(.long (own_min p2 p3)), (.long p4), (.long (own_min (own_min p4 p2) p3))])) _
    refine st31 _ ?_
    show Steps p.tables e below (T31.setTop (mkF m 164 #[.val (.long p1), .second, .val (.long p2), .second, .val (.long p3), .second, .val (.long p4), .second, .val (.int p5), .val (.int p6), .val (.int (1 : Int32)), .val (.int (2 : Int32)), .val (.int (3 : Int32)), .val (.long sl), .second, .val (.long tt1), .second, .val (.long tt2), .second, .val (.ref b1), .val (.long (-9223372036854775808 : Int64)), .second, .val (.long (own_min (own_min p4 p2) p3)), .second, .val (.int (1 : Int32)), .unset] [(.long (own_min p4 (own_min p2 p3))), (.long (own_min (own_min p4 p2) p3))])) _
    refine XS.lcmp X31.here hx rfl (hb hby at_164) rfl ?_
    show Steps p.tables e below (T31.setTop (mkF m 165 #[.val (.long p1), .second, .val (.long p2), .second, .val (.long p3), .second, .val (.long p4), .second, .val (.int p5), .val (.int p6), .val (.int (1 : Int32)), .val (.int (2 : Int32)), .val (.int (3 : Int32)), .val (.long sl), .second, .val (.long tt1), .second, .val (.long tt2), .second, .val (.ref b1), .val (.long (-9223372036854775808 : Int64)), .second, .val (.long (own_min (own_min p4 p2) p3)), .second, .val (.int (1 : Int32)), .unset] [(.int (lcmpW (own_min (own_min p4 p2) p3) (own_min p4 (own_min p2 p3))))])) _
    refine XS.ifNo X31.here hx rfl (hb hby at_165) rfl ((if0 _ _).trans (teq (show (lcmpW (own_min (own_min p4 p2) p3) (own_min p4 (own_min p2 p3))) = (0 : Int32) from ((lw_eq _ _).mpr (own_minA p4 p2 p3)))).2) ?_
    show Steps p.tables e below (T31.setTop (mkF m 168 #[.val (.long p1), .second, .val (.long p2), .second, .val (.long p3), .second, .val (.long p4), .second, .val (.int p5), .val (.int p6), .val (.int (1 : Int32)), .val (.int (2 : Int32)), .val (.int (3 : Int32)), .val (.long sl), .second, .val (.long tt1), .second, .val (.long tt2), .second, .val (.ref b1), .val (.long (-9223372036854775808 : Int64)), .second, .val (.long (own_min (own_min p4 p2) p3)), .second, .val (.int (1 : Int32)), .unset] [])) _
    refine XS.iconst X31.here hx rfl (hb hby at_168) ?_
    show Steps p.tables e below (T31.setTop (mkF m 169 #[.val (.long p1), .second, .val (.long p2), .second, .val (.long p3), .second, .val (.long p4), .second, .val (.int p5), .val (.int p6), .val (.int (1 : Int32)), .val (.int (2 : Int32)), .val (.int (3 : Int32)), .val (.long sl), .second, .val (.long tt1), .second, .val (.long tt2), .second, .val (.ref b1), .val (.long (-9223372036854775808 : Int64)), .second, .val (.long (own_min (own_min p4 p2) p3)), .second, .val (.int (1 : Int32)), .unset] [(.int (1 : Int32))])) _
    refine XS.goto X31.here hx rfl (pc0 := 169) (pc' := 173) rfl (hb hby at_169) (by decide) (by decide) ?_
    show Steps p.tables e below (T31.setTop (mkF m 173 #[.val (.long p1), .second, .val (.long p2), .second, .val (.long p3), .second, .val (.long p4), .second, .val (.int p5), .val (.int p6), .val (.int (1 : Int32)), .val (.int (2 : Int32)), .val (.int (3 : Int32)), .val (.long sl), .second, .val (.long tt1), .second, .val (.long tt2), .second, .val (.ref b1), .val (.long (-9223372036854775808 : Int64)), .second, .val (.long (own_min (own_min p4 p2) p3)), .second, .val (.int (1 : Int32)), .unset] [(.int (1 : Int32))])) _
    refine XS.istore X31.here hx rfl (hb hby at_173) rfl (l' := #[.val (.long p1), .second, .val (.long p2), .second, .val (.long p3), .second, .val (.long p4), .second, .val (.int p5), .val (.int p6), .val (.int (1 : Int32)), .val (.int (2 : Int32)), .val (.int (3 : Int32)), .val (.long sl), .second, .val (.long tt1), .second, .val (.long tt2), .second, .val (.ref b1), .val (.long (-9223372036854775808 : Int64)), .second, .val (.long (own_min (own_min p4 p2) p3)), .second, .val (.int (1 : Int32)), .val (.int (1 : Int32))]) rfl ?_
    show Steps p.tables e below (T31.setTop (mkF m 175 #[.val (.long p1), .second, .val (.long p2), .second, .val (.long p3), .second, .val (.long p4), .second, .val (.int p5), .val (.int p6), .val (.int (1 : Int32)), .val (.int (2 : Int32)), .val (.int (3 : Int32)), .val (.long sl), .second, .val (.long tt1), .second, .val (.long tt2), .second, .val (.ref b1), .val (.long (-9223372036854775808 : Int64)), .second, .val (.long (own_min (own_min p4 p2) p3)), .second, .val (.int (1 : Int32)), .val (.int (1 : Int32))] [])) _
    refine XS.iload X31.here hx rfl (hb hby at_175) rfl ?_
    show Steps p.tables e below (T31.setTop (mkF m 177 #[.val (.long p1), .second, .val (.long p2), .second, .val (.long p3), .second, .val (.long p4), .second, .val (.int p5), .val (.int p6), .val (.int (1 : Int32)), .val (.int (2 : Int32)), .val (.int (3 : Int32)), .val (.long sl), .second, .val (.long tt1), .second, .val (.long tt2), .second, .val (.ref b1), .val (.long (-9223372036854775808 : Int64)), .second, .val (.long (own_min (own_min p4 p2) p3)), .second, .val (.int (1 : Int32)), .val (.int (1 : Int32))] [(.int (1 : Int32))])) _
    refine XS.ifNo X31.here hx rfl (hb hby at_177) rfl ((if0 _ _).trans (feq (show ¬ ((1 : Int32) = (0 : Int32)) from (by decide))).1) ?_
    show Steps p.tables e below (T31.setTop (mkF m 180 #[.val (.long p1), .second, .val (.long p2), .second, .val (.long p3), .second, .val (.long p4), .second, .val (.int p5), .val (.int p6), .val (.int (1 : Int32)), .val (.int (2 : Int32)), .val (.int (3 : Int32)), .val (.long sl), .second, .val (.long tt1), .second, .val (.long tt2), .second, .val (.ref b1), .val (.long (-9223372036854775808 : Int64)), .second, .val (.long (own_min (own_min p4 p2) p3)), .second, .val (.int (1 : Int32)), .val (.int (1 : Int32))] [])) _
    refine XS.iload X31.here hx rfl (hb hby at_180) rfl ?_
    show Steps p.tables e below (T31.setTop (mkF m 182 #[.val (.long p1), .second, .val (.long p2), .second, .val (.long p3), .second, .val (.long p4), .second, .val (.int p5), .val (.int p6), .val (.int (1 : Int32)), .val (.int (2 : Int32)), .val (.int (3 : Int32)), .val (.long sl), .second, .val (.long tt1), .second, .val (.long tt2), .second, .val (.ref b1), .val (.long (-9223372036854775808 : Int64)), .second, .val (.long (own_min (own_min p4 p2) p3)), .second, .val (.int (1 : Int32)), .val (.int (1 : Int32))] [(.int (1 : Int32))])) _
    refine XS.ifNo X31.here hx rfl (hb hby at_182) rfl ((if0 _ _).trans (feq (show ¬ ((1 : Int32) = (0 : Int32)) from (by decide))).1) ?_
    show Steps p.tables e below (T31.setTop (mkF m 185 #[.val (.long p1), .second, .val (.long p2), .second, .val (.long p3), .second, .val (.long p4), .second, .val (.int p5), .val (.int p6), .val (.int (1 : Int32)), .val (.int (2 : Int32)), .val (.int (3 : Int32)), .val (.long sl), .second, .val (.long tt1), .second, .val (.long tt2), .second, .val (.ref b1), .val (.long (-9223372036854775808 : Int64)), .second, .val (.long (own_min (own_min p4 p2) p3)), .second, .val (.int (1 : Int32)), .val (.int (1 : Int32))] [])) _
    refine XS.iconst X31.here hx rfl (hb hby at_185) ?_
    show Steps p.tables e below (T31.setTop (mkF m 186 #[.val (.long p1), .second, .val (.long p2), .second, .val (.long p3), .second, .val (.long p4), .second, .val (.int p5), .val (.int p6), .val (.int (1 : Int32)), .val (.int (2 : Int32)), .val (.int (3 : Int32)), .val (.long sl), .second, .val (.long tt1), .second, .val (.long tt2), .second, .val (.ref b1), .val (.long (-9223372036854775808 : Int64)), .second, .val (.long (own_min (own_min p4 p2) p3)), .second, .val (.int (1 : Int32)), .val (.int (1 : Int32))] [(.int (1 : Int32))])) _
    refine XS.goto X31.here hx rfl (pc0 := 186) (pc' := 190) rfl (hb hby at_186) (by decide) (by decide) ?_
    show Steps p.tables e below (T31.setTop (mkF m 190 #[.val (.long p1), .second, .val (.long p2), .second, .val (.long p3), .second, .val (.long p4), .second, .val (.int p5), .val (.int p6), .val (.int (1 : Int32)), .val (.int (2 : Int32)), .val (.int (3 : Int32)), .val (.long sl), .second, .val (.long tt1), .second, .val (.long tt2), .second, .val (.ref b1), .val (.long (-9223372036854775808 : Int64)), .second, .val (.long (own_min (own_min p4 p2) p3)), .second, .val (.int (1 : Int32)), .val (.int (1 : Int32))] [(.int (1 : Int32))])) _
    exact retN X31 hx (t := .boolean) Bd.returns (by simp) (hb hby at_190) hr
  · show Qrm0 Z p1 p2 p3 p4 p5 p6 h0 n0 _ T31.heap _
    rw [e31q]
    exact ⟨rfl, N31⟩
theorem rm0 (l : Launch) (Z : State) (a0 : Array Value) (hw : ∀ d ∈ tables_1, d.before a0 Z = true) (ws : List Jvm.Cond) (p1 : Int64) (p2 : Int64) (p3 : Int64) (p4 : Int64) (p5 : Int32) (p6 : Int32) (h0 : Heap) (n0 : Nat) (Z0 : n0 ≤ h0.size) :
    MetFree l x (head1 (Jvm.Cond.code x code maxLocals ret :: ws) room_1) (fun aa_ U => aa_ = #[(.long p1), (.long p2), (.long p3), (.long p4), (.int p5), (.int p6)] ∧ Z.Warmed39 U.vm ∧ U.heap = h0) (fun _ _ _ _ _ => True) (fun _ U o U' => ∃ v L, o = .returned v ∧ Qrm0 Z p1 p2 p3 p4 p5 p6 h0 n0 v U'.heap L ∧ FrameEnd U o U' L room_1.cells room_1.slots) := by
  rcases own_sel p5 with h | h | h | h
  · exact rm0_0 l Z a0 hw ws p1 p2 p3 p4 p5 p6 h0 n0 Z0  h
  · exact rm0_1 l Z a0 hw ws p1 p2 p3 p4 p5 p6 h0 n0 Z0  h
  · exact rm0_2 l Z a0 hw ws p1 p2 p3 p4 p5 p6 h0 n0 Z0  h
  · exact rm0_3 l Z a0 hw ws p1 p2 p3 p4 p5 p6 h0 n0 Z0  h
set_option maxRecDepth 65536 in
set_option maxHeartbeats 40000000 in
theorem comes_1 {Post : Tables → Env → Array Value → State → Outcome → State → Prop} (hpost : ∀ tb e args s v u, (limb_1_1.after args s (.returned v) u = true ∧ limb_1_2.after args s (.returned v) u = true ∧ True) → FrameEnd s (.returned v) u (Jvm.fieldLocs frame_1_writes args s ++ Jvm.arrayLocs frame_1_arrays args s ++ Jvm.staticLocs frame_1_statics s) 16 128 → Post tb e args s (.returned v) u) :
    ArmFor flags0 classFile x code maxLocals ret World_1 tables_1 room_1 Calls_1 rest_1 Pre_1 Post := by
  intro l hfl _ _ p e ha hc hk s m args below hf hA hF happ hP
  obtain ⟨hcalls, hrest, hpre⟩ := hP
  obtain ⟨-, -, -, hnamed, -, -, -, hat⟩ := (Spec.applies_iff hf).mp happ
  obtain ⟨hg, hn⟩ := and_e (Cond.before_iff.mp (show (Jvm.Cond.and given_1 narrow_1).before args s = true from hpre))
  obtain ⟨gv1, gv2⟩ := and_e hg
  obtain ⟨gv3, gv4⟩ := and_e gv2
  obtain ⟨gv5, gv6⟩ := and_e gv4
  obtain ⟨gv7, gv8⟩ := and_e gv6
  obtain ⟨gv9, gv10⟩ := and_e gv8
  obtain ⟨gv11, gv12⟩ := and_e gv10
  obtain ⟨w0, w1, w2, w3, w4, w5, rfl⟩ : ∃ w0 w1 w2 w3 w4 w5 : Value, args = #[w0, w1, w2, w3, w4, w5] := by
    have hs : args.size = 6 := by simpa [Cond.value, given_1] using gv1
    obtain ⟨L⟩ := args
    match L, hs with
    | [w0, w1, w2, w3, w4, w5], _ => exact ⟨w0, w1, w2, w3, w4, w5, rfl⟩
  have hw := fun d (hd : d ∈ tables_1) => atoms_spec (ws := Jvm.Cond.code x code maxLocals ret :: tables_1) hat d (List.mem_cons_of_mem _ hd)
  have hfit : Fit s := fun {y c} hc i hi => by
    obtain ⟨ha, rfl⟩ := Array.getElem?_eq_some_iff.mp hc
    have q := List.all_eq_true.mp ((Array.all_eq_true_iff_forall_mem.mp hF) _ (Array.getElem_mem ha)) i (List.mem_range.mpr hi)
    simpa [Array.getElem?_eq_getElem hi] using q
  obtain ⟨i0, ei0⟩ := isL_v gv3
  obtain rfl : w0 = (.long i0) := Option.some.inj ei0
  obtain ⟨i1, ei1⟩ := isL_v gv5
  obtain rfl : w1 = (.long i1) := Option.some.inj ei1
  obtain ⟨i2, ei2⟩ := isL_v gv7
  obtain rfl : w2 = (.long i2) := Option.some.inj ei2
  obtain ⟨i3, ei3⟩ := isL_v gv9
  obtain rfl : w3 = (.long i3) := Option.some.inj ei3
  obtain ⟨i4, ei4⟩ := is_v gv11
  obtain rfl : w4 = (.int i4) := Option.some.inj ei4
  obtain ⟨i5, ei5⟩ := is_v gv12
  obtain rfl : w5 = (.int i5) := Option.some.inj ei5
  obtain ⟨n, o, h1, h2, h3, _, L, rfl, ⟨rfl, N⟩, hq⟩ := rm0 l s _ hw tables_1 i0 i1 i2 i3 i4 i5  s.heap s.heap.size (Nat.le_refl _)  p e ha hc hk s m _ below hf ((Spec.applies_iff_loose hf).mp happ).1 ⟨rfl, State.Warmed39.refl s, rfl⟩ trivial
  refine ⟨n, _, h1, h2, h3, hpost _ _ _ _ _ _ ⟨Cond.after_iff.mpr rfl, Cond.after_iff.mpr (eq_i res_at (Term.int_eval (1)) rfl), trivial⟩ ⟨hq.1, hq.2.1, (hq.2.2.sift fun y hy => Or.inr (N y hy)).mono (by decide) (by decide)⟩⟩
theorem main_1_1 : Claimed_1_1 := comes_1 fun _ _ _ _ _ _ h hF => ⟨h.1, hF⟩
theorem main_1_2 : Claimed_1_2 := comes_1 fun _ _ _ _ _ _ h hF => ⟨h.2.1, hF⟩
end Jvm.Pilot.@@N@@
namespace Jvm.Pilot.@@N@@
open Jvm Jvm.ClassFile Sem Op Lib Jvm.Free Jvm.Stand Jvm.Pilot.@@N@@.Jvm.D
/-! MADE BY PROGRAM (witnessworld.py) out of the Statement's table words and the real class files: 13 classes; the members and pool entries that the words name. The judged class is class 1, her method 1. -/
namespace start1
open Jvm.ClassFile
def u (s : String) : CpInfo := .utf8 (stringToUtf16 s)
/-- a pool by its gaps: so many unusable entries, then the entry; so many at the end -/
def gap : Nat → List CpInfo → List CpInfo
  | 0, r => r
  | n + 1, r => .unusable :: gap n r
def poolList (es : List (Nat × CpInfo)) (last : Nat) : List CpInfo := es.foldr (fun e r => gap e.1 (e.2 :: r)) (gap last [])
def pool (es : List (Nat × CpInfo)) (last : Nat) : Array CpInfo := ⟨poolList es last⟩
def fileOf (pool : Array CpInfo) (this : Nat) (attrs : Array Attribute := #[]) (ms : Array MethodInfo := #[]) (fl : Nat := 33) (sup : Nat := 0) (ifs : Array Nat := #[]) (fds : Array FieldInfo := #[]) : ClassFile where
  minorVersion := 0
  majorVersion := 65
  constantPool := pool
  accessFlags := fl
  thisClass := this
  superClass := sup
  interfaces := ifs
  fields := fds
  methods := ms
  attributes := attrs
def plain (name : String) (sup : Option ClassId) : Class where
  name := name
  kind := .ordinary
  loader := none
  accessFlags := 33
  super := sup
  interfaces := #[]
  cf := none
  fields := #[]
  methods := #[]
  instanceTypes := #[]
  staticTypes := #[]
  resolved := #[]
  callSites := []
  init := .initialized
  statics := none
  mirror := none

def pool0 : Array CpInfo := pool [(5, u "<init>"), (0, u "()V"), (1, .class_ 10), (1, u "java/lang/Object")] 113

def k0c0 : Code := { maxStack := 0, maxLocals := 1, code := object_method_1_code, exceptionTable := #[], attributes := #[] }
def k0m0 : Method := { name := "<init>", desc := "()V", sig := { parameters := [], returnType := none }, accessFlags := 1, code := some k0c0 }
/-- java/lang/Object -/
def k0 : Class := { plain "java/lang/Object" none with
  accessFlags := 33
  interfaces := #[]
  cf := some (fileOf pool0 8 #[] #[{ accessFlags := 1, nameIndex := 5, descriptorIndex := 6, attributes := #[] }] 33 0 #[] #[])
  fields := #[]
  methods := #[k0m0]
  instanceTypes := #[]
  staticTypes := #[]
  resolved := Array.replicate 124 none
  statics := none }

def pool1 : Array CpInfo := pool [(2, .class_ 4), (1, u "java/lang/Object"), (0, u "<init>"), (0, u "()V"), (0, .integer 268435455), (0, .long 2147483647), (1, .class_ 11), (0, u "stillmark/StableTimes"), (0, .methodref 10 13), (0, .nameAndType 5 14), (0, u "(IIIJJ)V"), (0, .methodref 10 16), (0, .nameAndType 17 18), (0, u "told"), (0, u "(IJJ)V"), (0, .methodref 10 20), (0, .nameAndType 21 22), (0, u "restarted"), (0, u "(IJ)V"), (0, .methodref 10 24), (0, .nameAndType 25 26), (0, u "raise"), (0, u "(JJ)J"), (2, .long 9223372036854775808), (1, .methodref 32 33), (0, .class_ 34), (0, .nameAndType 35 26), (0, u "java/lang/Math"), (0, u "min"), (0, .class_ 37), (0, u "stillmark/StableTimesRestartedPinLaw"), (2, u "law"), (0, u "(JJJJII)Z")] 3

def k1m0 : Method := { name := "<init>", desc := "()V", sig := { parameters := [], returnType := none }, accessFlags := 1, code := none }
def k1c1 : Code := { maxStack := 9, maxLocals := 26, code := code, exceptionTable := #[], attributes := #[] }
def k1m1 : Method := { name := "law", desc := "(JJJJII)Z", sig := { parameters := [.long, .long, .long, .long, .int, .int], returnType := some .boolean }, accessFlags := 9, code := some k1c1 }
/-- stillmark/StableTimesRestartedPinLaw -/
def k1 : Class := { plain "stillmark/StableTimesRestartedPinLaw" (some 0) with
  accessFlags := 49
  interfaces := #[]
  cf := some (fileOf pool1 36 #[] #[{ accessFlags := 1, nameIndex := 5, descriptorIndex := 6, attributes := #[] }, { accessFlags := 9, nameIndex := 40, descriptorIndex := 41, attributes := #[] }] 49 2 #[] #[])
  fields := #[]
  methods := #[k1m0, k1m1]
  instanceTypes := #[]
  staticTypes := #[]
  resolved := Array.replicate 45 none
  statics := none }

def pool2 : Array CpInfo := pool [(1, .methodref 2 3), (0, .class_ 4), (0, .nameAndType 5 6), (0, u "java/lang/Object"), (0, u "<init>"), (0, u "()V"), (0, .fieldref 8 9), (0, .class_ 10), (0, .nameAndType 11 12), (0, u "stillmark/StableTimes"), (0, u "own"), (0, u "I"), (0, .fieldref 8 14), (0, .nameAndType 15 12), (0, u "majority"), (0, .fieldref 8 17), (0, .nameAndType 18 19), (0, u "silence"), (0, u "J"), (0, .fieldref 8 21), (0, .nameAndType 22 23), (0, u "told"), (0, u "[J"), (0, .fieldref 8 25), (0, .nameAndType 26 23), (0, u "heard"), (0, .methodref 8 28), (0, .nameAndType 29 30), (0, u "begin"), (0, u "(J)V"), (2, .long 9223372036854775808), (1, .methodref 36 37), (0, .class_ 38), (0, .nameAndType 39 40), (0, u "java/util/Arrays"), (0, u "fill"), (0, u "([JJ)V"), (0, .methodref 8 42), (0, .nameAndType 43 44), (0, u "leftOut"), (0, u "(J)I"), (0, .methodref 46 47), (0, .class_ 48), (0, .nameAndType 49 50), (0, u "java/lang/Math"), (0, u "min"), (0, u "(JJ)J"), (0, u "NONE"), (2, u "(IIIJJ)V"), (2, u "(IJJ)V"), (0, u "restarted"), (0, u "(IJ)V"), (0, u "raise")] 3

def k2c0 : Code := { maxStack := 3, maxLocals := 8, code := prog_146_method_1_code, exceptionTable := #[], attributes := #[] }
def k2m0 : Method := { name := "<init>", desc := "(IIIJJ)V", sig := { parameters := [.int, .int, .int, .long, .long], returnType := none }, accessFlags := 0, code := some k2c0 }
def k2c1 : Code := { maxStack := 3, maxLocals := 3, code := prog_146_method_2_code, exceptionTable := #[], attributes := #[] }
def k2m1 : Method := { name := "begin", desc := "(J)V", sig := { parameters := [.long], returnType := none }, accessFlags := 0, code := some k2c1 }
def k2c2 : Code := { maxStack := 4, maxLocals := 6, code := prog_146_method_3_code, exceptionTable := #[], attributes := #[] }
def k2m2 : Method := { name := "told", desc := "(IJJ)V", sig := { parameters := [.int, .long, .long], returnType := none }, accessFlags := 0, code := some k2c2 }
def k2c3 : Code := { maxStack := 4, maxLocals := 4, code := prog_146_method_4_code, exceptionTable := #[], attributes := #[] }
def k2m3 : Method := { name := "restarted", desc := "(IJ)V", sig := { parameters := [.int, .long], returnType := none }, accessFlags := 0, code := some k2c3 }
def k2c4 : Code := { maxStack := 4, maxLocals := 10, code := prog_146_method_5_code, exceptionTable := #[], attributes := #[] }
def k2m4 : Method := { name := "raise", desc := "(JJ)J", sig := { parameters := [.long, .long], returnType := some .long }, accessFlags := 0, code := some k2c4 }
def k2c5 : Code := { maxStack := 6, maxLocals := 5, code := prog_146_method_6_code, exceptionTable := #[], attributes := #[] }
def k2m5 : Method := { name := "leftOut", desc := "(J)I", sig := { parameters := [.long], returnType := some .int }, accessFlags := 2, code := some k2c5 }
/-- stillmark/StableTimes -/
def k2 : Class := { plain "stillmark/StableTimes" (some 0) with
  accessFlags := 48
  interfaces := #[]
  cf := some (fileOf pool2 8 #[] #[{ accessFlags := 0, nameIndex := 5, descriptorIndex := 54, attributes := #[] }, { accessFlags := 0, nameIndex := 29, descriptorIndex := 30, attributes := #[] }, { accessFlags := 0, nameIndex := 22, descriptorIndex := 57, attributes := #[] }, { accessFlags := 0, nameIndex := 58, descriptorIndex := 59, attributes := #[] }, { accessFlags := 0, nameIndex := 60, descriptorIndex := 50, attributes := #[] }, { accessFlags := 2, nameIndex := 43, descriptorIndex := 44, attributes := #[] }] 48 2 #[] #[{ accessFlags := 26, nameIndex := 51, descriptorIndex := 12, attributes := #[] }, { accessFlags := 18, nameIndex := 11, descriptorIndex := 12, attributes := #[] }, { accessFlags := 18, nameIndex := 15, descriptorIndex := 12, attributes := #[] }, { accessFlags := 18, nameIndex := 18, descriptorIndex := 19, attributes := #[] }, { accessFlags := 18, nameIndex := 22, descriptorIndex := 23, attributes := #[] }, { accessFlags := 18, nameIndex := 26, descriptorIndex := 23, attributes := #[] }])
  fields := #[{ name := "NONE", type := .int, accessFlags := 26, slot := 0, constantValue := 0 }, { name := "own", type := .int, accessFlags := 18, slot := 0, constantValue := 0 }, { name := "majority", type := .int, accessFlags := 18, slot := 1, constantValue := 0 }, { name := "silence", type := .long, accessFlags := 18, slot := 2, constantValue := 0 }, { name := "told", type := (.array .long), accessFlags := 18, slot := 3, constantValue := 0 }, { name := "heard", type := (.array .long), accessFlags := 18, slot := 4, constantValue := 0 }]
  methods := #[k2m0, k2m1, k2m2, k2m3, k2m4, k2m5]
  instanceTypes := #[.int, .int, .long, (.array .long), (.array .long)]
  staticTypes := #[.int]
  resolved := Array.replicate 64 none
  statics := none }

def pool3 : Array CpInfo := pool [(2, .class_ 4), (1, u "java/lang/Object"), (0, u "<init>"), (0, u "()V"), (7, .class_ 16), (1, u "java/util/Arrays"), (57, .class_ 76), (1, u "java/util/Arrays$NaturalOrder"), (36, .class_ 115), (1, u "java/util/Arrays$LegacyMergeSort"), (1, u "Z"), (257, .class_ 376), (0, u "java/util/Arrays$ArrayList"), (68, u "$assertionsDisabled"), (269, u "MIN_ARRAY_SORT_GRAN"), (0, u "I"), (2, u "INSERTIONSORT_THRESHOLD"), (120, u "fill"), (0, u "([JJ)V"), (133, .class_ 976), (0, u "java/util/Arrays$ArrayItr")] 52

def k3m0 : Method := { name := "<init>", desc := "()V", sig := { parameters := [], returnType := none }, accessFlags := 2, code := none }
def k3c1 : Code := { maxStack := 4, maxLocals := 5, code := jdk_65_method_101_code, exceptionTable := #[], attributes := #[] }
def k3m1 : Method := { name := "fill", desc := "([JJ)V", sig := { parameters := [(.array .long), .long], returnType := none }, accessFlags := 9, code := some k3c1 }
/-- java/util/Arrays -/
def k3 : Class := { plain "java/util/Arrays" (some 0) with
  accessFlags := 49
  interfaces := #[]
  cf := some (fileOf pool3 14 #[.nestMembers #[975, 375, 113, 74]] #[{ accessFlags := 2, nameIndex := 5, descriptorIndex := 6, attributes := #[] }, { accessFlags := 9, nameIndex := 840, descriptorIndex := 841, attributes := #[] }] 49 2 #[] #[{ accessFlags := 26, nameIndex := 715, descriptorIndex := 716, attributes := #[] }, { accessFlags := 26, nameIndex := 719, descriptorIndex := 716, attributes := #[] }, { accessFlags := 4120, nameIndex := 445, descriptorIndex := 117, attributes := #[] }])
  fields := #[{ name := "MIN_ARRAY_SORT_GRAN", type := .int, accessFlags := 26, slot := 0, constantValue := 0 }, { name := "INSERTIONSORT_THRESHOLD", type := .int, accessFlags := 26, slot := 1, constantValue := 0 }, { name := "$assertionsDisabled", type := .boolean, accessFlags := 4120, slot := 2, constantValue := 0 }]
  methods := #[k3m0, k3m1]
  instanceTypes := #[]
  staticTypes := #[.int, .int, .boolean]
  resolved := Array.replicate 1029 none
  statics := none }

def pool4 : Array CpInfo := pool [(1, .class_ 2), (0, u "java/lang/Math"), (1, .class_ 6), (1, u "java/lang/Object"), (0, u "<init>"), (0, u "()V"), (89, .class_ 100), (1, u "java/lang/Math$RandomNumberGeneratorHolder"), (20, u "(JJ)J"), (50, u "negativeZeroFloatBits"), (0, u "J"), (2, u "negativeZeroDoubleBits"), (24, u "min"), (43, u "$assertionsDisabled"), (0, u "Z"), (91, u "twoToTheDoubleScaleDown"), (0, u "D"), (4, u "twoToTheDoubleScaleUp"), (9, u "E"), (3, u "PI"), (2, u "TAU"), (2, u "DEGREES_TO_RADIANS"), (0, u "RADIANS_TO_DEGREES")] 94

def k4m0 : Method := { name := "<init>", desc := "()V", sig := { parameters := [], returnType := none }, accessFlags := 2, code := none }
def k4c1 : Code := { maxStack := 4, maxLocals := 4, code := jdk_29_method_70_code, exceptionTable := #[], attributes := #[] }
def k4m1 : Method := { name := "min", desc := "(JJ)J", sig := { parameters := [.long, .long], returnType := some .long }, accessFlags := 9, code := some k4c1 }
/-- java/lang/Math -/
def k4 : Class := { plain "java/lang/Math" (some 0) with
  accessFlags := 49
  interfaces := #[]
  cf := some (fileOf pool4 1 #[.nestMembers #[98]] #[{ accessFlags := 2, nameIndex := 7, descriptorIndex := 8, attributes := #[] }, { accessFlags := 9, nameIndex := 201, descriptorIndex := 121, attributes := #[] }] 49 4 #[] #[{ accessFlags := 25, nameIndex := 354, descriptorIndex := 339, attributes := #[] }, { accessFlags := 25, nameIndex := 358, descriptorIndex := 339, attributes := #[] }, { accessFlags := 25, nameIndex := 361, descriptorIndex := 339, attributes := #[] }, { accessFlags := 26, nameIndex := 364, descriptorIndex := 339, attributes := #[] }, { accessFlags := 26, nameIndex := 365, descriptorIndex := 339, attributes := #[] }, { accessFlags := 26, nameIndex := 172, descriptorIndex := 173, attributes := #[] }, { accessFlags := 26, nameIndex := 176, descriptorIndex := 173, attributes := #[] }, { accessFlags := 8, nameIndex := 344, descriptorIndex := 339, attributes := #[] }, { accessFlags := 8, nameIndex := 338, descriptorIndex := 339, attributes := #[] }, { accessFlags := 4120, nameIndex := 245, descriptorIndex := 246, attributes := #[] }])
  fields := #[{ name := "E", type := .double, accessFlags := 25, slot := 0, constantValue := 0 }, { name := "PI", type := .double, accessFlags := 25, slot := 1, constantValue := 0 }, { name := "TAU", type := .double, accessFlags := 25, slot := 2, constantValue := 0 }, { name := "DEGREES_TO_RADIANS", type := .double, accessFlags := 26, slot := 3, constantValue := 0 }, { name := "RADIANS_TO_DEGREES", type := .double, accessFlags := 26, slot := 4, constantValue := 0 }, { name := "negativeZeroFloatBits", type := .long, accessFlags := 26, slot := 5, constantValue := 0 }, { name := "negativeZeroDoubleBits", type := .long, accessFlags := 26, slot := 6, constantValue := 0 }, { name := "twoToTheDoubleScaleUp", type := .double, accessFlags := 8, slot := 7, constantValue := 0 }, { name := "twoToTheDoubleScaleDown", type := .double, accessFlags := 8, slot := 8, constantValue := 0 }, { name := "$assertionsDisabled", type := .boolean, accessFlags := 4120, slot := 9, constantValue := 0 }]
  methods := #[k4m0, k4m1]
  instanceTypes := #[]
  staticTypes := #[.double, .double, .double, .double, .double, .long, .long, .double, .double, .boolean]
  resolved := Array.replicate 460 none
  statics := none }

def pool5 : Array CpInfo := pool [(1, u "java/lang/Cloneable"), (0, .class_ 1), (0, u "java/lang/Object"), (0, .class_ 3)] 3

/-- java/lang/Cloneable -/
def k5 : Class := { plain "java/lang/Cloneable" (some 0) with
  accessFlags := 1537
  interfaces := #[]
  cf := some (fileOf pool5 2 #[] #[] 1537 4 #[] #[])
  fields := #[]
  methods := #[]
  instanceTypes := #[]
  staticTypes := #[]
  resolved := Array.replicate 8 none
  statics := none }

def pool6 : Array CpInfo := pool [(1, u "java/io/Serializable"), (0, .class_ 1), (0, u "java/lang/Object"), (0, .class_ 3)] 3

/-- java/io/Serializable -/
def k6 : Class := { plain "java/io/Serializable" (some 0) with
  accessFlags := 1537
  interfaces := #[]
  cf := some (fileOf pool6 2 #[] #[] 1537 4 #[] #[])
  fields := #[]
  methods := #[]
  instanceTypes := #[]
  staticTypes := #[]
  resolved := Array.replicate 8 none
  statics := none }

/-- the primitive byte -/
def k7 : Class := { plain "byte" none with kind := .primitive 'B', accessFlags := 0x411 }
/-- [B -/
def k8 : Class := { plain "[B" (some 0) with kind := .array 7 .byte, interfaces := #[5, 6], accessFlags := 1041 }

/-- the primitive int -/
def k9 : Class := { plain "int" none with kind := .primitive 'I', accessFlags := 0x411 }
/-- [I -/
def k10 : Class := { plain "[I" (some 0) with kind := .array 9 .int, interfaces := #[5, 6], accessFlags := 1041 }

/-- the primitive long -/
def k11 : Class := { plain "long" none with kind := .primitive 'J', accessFlags := 0x411 }
/-- [J -/
def k12 : Class := { plain "[J" (some 0) with kind := .array 11 .long, interfaces := #[5, 6], accessFlags := 1041 }

def heap : Heap := #[]
def classes : Array Class := #[k0, k1, k2, k3, k4, k5, k6, k7, k8, k9, k10, k11, k12]
def interned : List (Array UInt16 × Addr) := []
def slotsUsed : Nat := 0
def theMethod : MethodId := ⟨1, 1⟩
def args0 : Array Value := #[.long 5, .long 6, .long 7, .long 8, .int 9, .int 4]
def aboutOver (below : List Frame) : State where
  vm := { classes := classes, interned := interned.toArray }
  heap := heap
  slotsUsed := slotsUsed
  threads := #[{ frames := .invoking theMethod args0 :: below }]
def below0 : List Frame := [.native { method := ⟨0, 0⟩, args := #[] }]
def about1 : State := aboutOver below0
def p0 : Program := .bare "" "" ""
def e0 : Env := launch0.env 0 0 0
theorem w_frames : about1.frames = Frame.invoking theMethod args0 :: below0 := rfl
set_option maxRecDepth 65536 in
theorem w_args : argsFit about1.vm theMethod args0 = true := by decide +kernel
set_option maxRecDepth 65536 in
theorem w_heap : heapFits about1 = true := by decide +kernel
set_option maxRecDepth 65536 in
theorem w_runnable : about1.curStatus? = some .runnable := by decide +kernel
set_option maxRecDepth 65536 in
theorem w_alone : about1.alone = true := by decide +kernel
set_option maxRecDepth 65536 in
theorem w_named : about1.methodNamed? x = some theMethod := by decide +kernel
set_option maxRecDepth 65536 in
theorem w_hears : about1.hears theMethod below0 = true := by decide +kernel
set_option maxRecDepth 65536 in
theorem w_ripe : about1.ripe theMethod args0 below0 = true := by decide +kernel
theorem w_running : about1.status = .running := rfl
set_option maxRecDepth 65536 in
theorem w_room : about1.hasRoom e0.platform room_1 = true :=
  launch0.hasRoom_least _ room_1 (by decide +kernel) (by decide +kernel) (by decide +kernel) (by decide +kernel) (by decide +kernel) (by decide +kernel)
theorem allAtoms_all (ts : List Jvm.Cond) (a : Array Jvm.Value) (st : Jvm.State) : (allAtoms ts).before a st = ts.all (fun c => c.before a st) := by
  induction ts with
  | nil => rfl
  | cons c t ih =>
    show (Jvm.Cond.and c (allAtoms t)).before a st = _
    rw [Jvm.Cond.before_and, ih, List.all_cons]
def words1 : List Jvm.Cond := Jvm.Cond.code x code maxLocals ret :: tables_1
/-- a 'code' word, met by the world's own term for the bytes: nothing is compared byte by byte -/
theorem code_word {y : MethodName} {bytes : ByteArray} {mx : Nat} {rt : Option FieldType} {a : Array Value} {s : State} {m : MethodId} {meth : Method} {c : Code} (h1 : s.methodNamed? y = some m) (h2 : s.vm.method? m = some meth) (h3 : meth.code = some c) (h4 : c.code = bytes)
    (h5 : (c.maxLocals == mx && c.exceptionTable.isEmpty && decide (c.maxStack ≤ mostOperands) && decide (meth.sig.returnType = rt) && !meth.locks && decide (parseMethodDescriptor y.desc = some meth.sig)) = true) : (Jvm.Cond.code y bytes mx rt).before a s = true := by
  simp only [Bool.and_eq_true, beq_iff_eq, Bool.not_eq_true', decide_eq_true_eq] at h5
  obtain ⟨⟨⟨⟨⟨g1, g2⟩, g3⟩, g4⟩, g5⟩, g6⟩ := h5
  simp [Cond.before, Cond.holds, Cond.value, h1, h2, h3, h4, g1, g2, g3, g4, g5, g6]
def isCode : Jvm.Cond → Bool
  | .code _ _ _ _ => true
  | _ => false
theorem all_split {L : List Jvm.Cond} {P : Jvm.Cond → Bool} (h1 : L.all (fun c => isCode c || P c) = true) (h2 : ∀ c ∈ L.filter isCode, P c = true) : L.all P = true := by
  refine List.all_eq_true.mpr fun c hc => ?_
  have h := List.all_eq_true.mp h1 c hc
  rcases Bool.eq_false_or_eq_true (isCode c) with hi | hi
  · exact h2 c (List.mem_filter.mpr ⟨hc, hi⟩)
  · simpa [hi] using h
set_option maxRecDepth 65536 in
theorem w_c0 : (Jvm.Cond.code x code maxLocals ret).before args0 about1 = true := code_word (m := ⟨1, 1⟩) (meth := k1m1) (c := k1c1) (by decide +kernel) rfl rfl rfl (by decide +kernel)
set_option maxRecDepth 65536 in
theorem w_c1 : (Jvm.Cond.code ({ cls := "stillmark/StableTimes", name := "<init>", desc := "(IIIJJ)V" } : Jvm.MethodName) prog_146_method_1_code (8 : Nat) (Option.none : Option Jvm.ClassFile.FieldType)).before args0 about1 = true := code_word (m := ⟨2, 0⟩) (meth := k2m0) (c := k2c0) (by decide +kernel) rfl rfl rfl (by decide +kernel)
set_option maxRecDepth 65536 in
theorem w_c2 : (Jvm.Cond.code ({ cls := "java/lang/Object", name := "<init>", desc := "()V" } : Jvm.MethodName) object_method_1_code (1 : Nat) (Option.none : Option Jvm.ClassFile.FieldType)).before args0 about1 = true := code_word (m := ⟨0, 0⟩) (meth := k0m0) (c := k0c0) (by decide +kernel) rfl rfl rfl (by decide +kernel)
set_option maxRecDepth 65536 in
theorem w_c3 : (Jvm.Cond.code ({ cls := "stillmark/StableTimes", name := "begin", desc := "(J)V" } : Jvm.MethodName) prog_146_method_2_code (3 : Nat) (Option.none : Option Jvm.ClassFile.FieldType)).before args0 about1 = true := code_word (m := ⟨2, 1⟩) (meth := k2m1) (c := k2c1) (by decide +kernel) rfl rfl rfl (by decide +kernel)
set_option maxRecDepth 65536 in
theorem w_c4 : (Jvm.Cond.code ({ cls := "java/util/Arrays", name := "fill", desc := "([JJ)V" } : Jvm.MethodName) jdk_65_method_101_code (5 : Nat) (Option.none : Option Jvm.ClassFile.FieldType)).before args0 about1 = true := code_word (m := ⟨3, 1⟩) (meth := k3m1) (c := k3c1) (by decide +kernel) rfl rfl rfl (by decide +kernel)
set_option maxRecDepth 65536 in
theorem w_c5 : (Jvm.Cond.code ({ cls := "stillmark/StableTimes", name := "told", desc := "(IJJ)V" } : Jvm.MethodName) prog_146_method_3_code (6 : Nat) (Option.none : Option Jvm.ClassFile.FieldType)).before args0 about1 = true := code_word (m := ⟨2, 2⟩) (meth := k2m2) (c := k2c2) (by decide +kernel) rfl rfl rfl (by decide +kernel)
set_option maxRecDepth 65536 in
theorem w_c6 : (Jvm.Cond.code ({ cls := "stillmark/StableTimes", name := "restarted", desc := "(IJ)V" } : Jvm.MethodName) prog_146_method_4_code (4 : Nat) (Option.none : Option Jvm.ClassFile.FieldType)).before args0 about1 = true := code_word (m := ⟨2, 3⟩) (meth := k2m3) (c := k2c3) (by decide +kernel) rfl rfl rfl (by decide +kernel)
set_option maxRecDepth 65536 in
theorem w_c7 : (Jvm.Cond.code ({ cls := "stillmark/StableTimes", name := "raise", desc := "(JJ)J" } : Jvm.MethodName) prog_146_method_5_code (10 : Nat) (Option.some Jvm.ClassFile.FieldType.long)).before args0 about1 = true := code_word (m := ⟨2, 4⟩) (meth := k2m4) (c := k2c4) (by decide +kernel) rfl rfl rfl (by decide +kernel)
set_option maxRecDepth 65536 in
theorem w_c8 : (Jvm.Cond.code ({ cls := "stillmark/StableTimes", name := "leftOut", desc := "(J)I" } : Jvm.MethodName) prog_146_method_6_code (5 : Nat) (Option.some Jvm.ClassFile.FieldType.int)).before args0 about1 = true := code_word (m := ⟨2, 5⟩) (meth := k2m5) (c := k2c5) (by decide +kernel) rfl rfl rfl (by decide +kernel)
set_option maxRecDepth 65536 in
theorem w_c9 : (Jvm.Cond.code ({ cls := "java/lang/Math", name := "min", desc := "(JJ)J" } : Jvm.MethodName) jdk_29_method_70_code (4 : Nat) (Option.some Jvm.ClassFile.FieldType.long)).before args0 about1 = true := code_word (m := ⟨4, 1⟩) (meth := k4m1) (c := k4c1) (by decide +kernel) rfl rfl rfl (by decide +kernel)
def codes1 : List Jvm.Cond := [Jvm.Cond.code x code maxLocals ret, Jvm.Cond.code ({ cls := "stillmark/StableTimes", name := "<init>", desc := "(IIIJJ)V" } : Jvm.MethodName) prog_146_method_1_code (8 : Nat) (Option.none : Option Jvm.ClassFile.FieldType), Jvm.Cond.code ({ cls := "java/lang/Object", name := "<init>", desc := "()V" } : Jvm.MethodName) object_method_1_code (1 : Nat) (Option.none : Option Jvm.ClassFile.FieldType), Jvm.Cond.code ({ cls := "stillmark/StableTimes", name := "begin", desc := "(J)V" } : Jvm.MethodName) prog_146_method_2_code (3 : Nat) (Option.none : Option Jvm.ClassFile.FieldType), Jvm.Cond.code ({ cls := "java/util/Arrays", name := "fill", desc := "([JJ)V" } : Jvm.MethodName) jdk_65_method_101_code (5 : Nat) (Option.none : Option Jvm.ClassFile.FieldType), Jvm.Cond.code ({ cls := "stillmark/StableTimes", name := "told", desc := "(IJJ)V" } : Jvm.MethodName) prog_146_method_3_code (6 : Nat) (Option.none : Option Jvm.ClassFile.FieldType), Jvm.Cond.code ({ cls := "stillmark/StableTimes", name := "restarted", desc := "(IJ)V" } : Jvm.MethodName) prog_146_method_4_code (4 : Nat) (Option.none : Option Jvm.ClassFile.FieldType), Jvm.Cond.code ({ cls := "stillmark/StableTimes", name := "raise", desc := "(JJ)J" } : Jvm.MethodName) prog_146_method_5_code (10 : Nat) (Option.some Jvm.ClassFile.FieldType.long), Jvm.Cond.code ({ cls := "stillmark/StableTimes", name := "leftOut", desc := "(J)I" } : Jvm.MethodName) prog_146_method_6_code (5 : Nat) (Option.some Jvm.ClassFile.FieldType.int), Jvm.Cond.code ({ cls := "java/lang/Math", name := "min", desc := "(JJ)J" } : Jvm.MethodName) jdk_29_method_70_code (4 : Nat) (Option.some Jvm.ClassFile.FieldType.long)]
set_option maxRecDepth 65536 in
theorem codes_eq : words1.filter isCode = codes1 := rfl
theorem w_codes : ∀ c ∈ words1.filter isCode, c.before args0 about1 = true := by
  rw [codes_eq]
  intro c hc
  simp only [codes1, List.mem_cons, List.not_mem_nil, or_false] at hc
  rcases hc with rfl | rfl | rfl | rfl | rfl | rfl | rfl | rfl | rfl | rfl
  · exact w_c0
  · exact w_c1
  · exact w_c2
  · exact w_c3
  · exact w_c4
  · exact w_c5
  · exact w_c6
  · exact w_c7
  · exact w_c8
  · exact w_c9
set_option maxRecDepth 65536 in
theorem w_t1 : (words1.take 24).all (fun c => isCode c || c.before args0 about1) = true := by decide +kernel
set_option maxRecDepth 65536 in
theorem w_t2 : ((words1.drop 24).take 24).all (fun c => isCode c || c.before args0 about1) = true := by decide +kernel
set_option maxRecDepth 65536 in
theorem w_t3 : ((words1.drop 24).drop 24).all (fun c => isCode c || c.before args0 about1) = true := by decide +kernel
theorem w_tables : (allAtoms (Jvm.Cond.code x code maxLocals ret :: tables_1)).before args0 about1 = true := by
  rw [allAtoms_all]
  show words1.all (fun c => c.before args0 about1) = true
  refine all_split ?_ w_codes
  rw [← List.take_append_drop 24 words1, List.all_append, w_t1, ← List.take_append_drop 24 (words1.drop 24), List.all_append, w_t2, w_t3]
  rfl
set_option maxRecDepth 65536 in
theorem w_case : (Jvm.Cond.and given_1 narrow_1).before args0 about1 = true := by decide +kernel
theorem w_applies : (headSpec (Jvm.Cond.code x code maxLocals ret :: tables_1) room_1).applies x e0.platform about1 = true :=
  (Spec.applies_iff w_frames).mpr ⟨w_running, w_runnable, w_alone, w_named, w_hears, w_ripe, w_room, w_tables⟩
theorem atStart : AtStart classFile x code maxLocals ret World_1 tables_1 room_1 Calls_1 rest_1 Pre_1 launch0 p0 e0 about1 theMethod args0 below0 :=
  ⟨lists_1, trivial, launch0.admits_env _ _ _, launch0.least_env, fairChoices_fair.cas, fairChoices_fair.clock, w_frames, w_args, w_heap, w_applies, trivial, trivial, w_case⟩
end start1
theorem witness_1 : WitnessClaimed_1 := ⟨start1.p0, start1.e0, start1.about1, start1.theMethod, start1.args0, start1.below0, start1.atStart⟩
end Jvm.Pilot.@@N@@

import JvmDerived
import JvmDerived.Pilot.@@N@@Statement
import JvmDerived.Pilot.@@N@@Code
set_option linter.unusedVariables false
set_option linter.unusedSimpArgs false
namespace Jvm.RoadKit
open Sem ClassFile Op Lib Jvm.Stand Jvm.Free Jvm.LawKit
section New
variable {p : Program} {l : Launch} {e : Env} {R : Room} {s : State} {m : MethodId} {args : Array Value} {below : List Frame} {meth : Method} {c : Code} {T : State} {locs : List Loc} {cells slots : Nat}
theorem retI (X : Stand p l e R s m args below meth c T locs cells slots) (hx : p.tables.exec = Jvm.exec) {pc : Nat} {Ls : Array Slot} {z : Int32} {rest : List Value} (hret : meth.sig.returnType = some .int) (hd : decode c.code pc = .ok (.ireturn, 1)) {fs : List Frame}
    (hl : ∀ (f : JFrame) (acts : List Action), f.method = m → f.locked = none → f.entered = [] → (doReturn e (T.setTop f) acts (some (.int z))).1 = T.setFrames fs) : Steps p.tables e below (T.setTop (mkF m pc Ls (.int z :: rest))) (T.setFrames fs) := by
  have hm' : T.vm.method? m = some meth := X.method'
  have hn : narrow .int (.int z) = .int z := rfl
  show Steps p.tables e below (T.setTop { method := m, pc := pc, locals := Ls, stack := _ :: rest, locked := none }) _
  jvm_step X.here [X.here.top, hx, hd, hm', hret, hn]
  first | (intro acts; rw [hl _ acts rfl rfl rfl]) | rw [hl _ _ rfl rfl rfl]
  exact Steps.refl _
end New
end Jvm.RoadKit
namespace Jvm.Pilot.@@N@@
open Jvm Jvm.ClassFile Sem Op Lib Jvm.Free Jvm.Stand Jvm.LawKit Jvm.RoadKit Bundle Jvm.Pilot.@@N@@.Jvm.D
/-- an array of n places, place j holds f j -/
def Av (Z : State) (h : Heap) (a : Addr) (ty : FieldType) (n : Nat) (f : Nat → Value) : Prop := ∃ cl : Cell, Arr Z h a cl ty ∧ cl.slots.size = n ∧ ∀ j, j < n → cl.slots[j]? = some (f j)
theorem Av.ext {Z : State} {h h' : Heap} {a : Addr} {ty : FieldType} {n : Nat} {f : Nat → Value} (A : Av Z h a ty n f) (E : Ext h h') : Av Z h' a ty n f := by obtain ⟨c, A, r⟩ := A; exact ⟨c, A.ext E, r⟩
theorem Av.lt {Z : State} {h : Heap} {a : Addr} {ty : FieldType} {n : Nat} {f : Nat → Value} (A : Av Z h a ty n f) : a < h.size := by obtain ⟨c, A, r⟩ := A; exact A.lt
theorem Av.other {Z : State} {h h' : Heap} {a b : Addr} {ty : FieldType} {n sl : Nat} {v : Value} {f : Nat → Value} (A : Av Z h b ty n f) (W : Wr h h' a sl v) (q : b ≠ a) : Av Z h' b ty n f := by obtain ⟨c, A, r⟩ := A; exact ⟨c, A.other W q, r⟩
theorem Av.keep {Z : State} {h h' : Heap} {a : Addr} {ws : List Addr} {ty : FieldType} {n : Nat} {f : Nat → Value} (A : Av Z h a ty n f) (K : Keep h h' ws) (q : a ∉ ws) : Av Z h' a ty n f := by obtain ⟨c, A, r⟩ := A; exact ⟨c, ⟨K.2.1 a c A.1 q, A.2⟩, r⟩
theorem Av.congr {Z : State} {h : Heap} {a : Addr} {ty : FieldType} {n : Nat} {f f' : Nat → Value} (e : ∀ j, j < n → f' j = f j) (A : Av Z h a ty n f) : Av Z h a ty n f' := by obtain ⟨c, A, S, H⟩ := A; exact ⟨c, A, S, fun j hj => by rw [H j hj, e j hj]⟩
theorem Av.new {Z : State} {h : Heap} {a : Addr} {k : ClassId} {ty : FieldType} {z : Int32} {n : Nat} (A : Arr Z h a (newA k ty z) ty) (q : ¬ z < 0) (e : z.toNatClampNeg = n) : Av Z h a ty n (fun _ => defaultValue ty) := by
  obtain ⟨c, B, -, S, -, H, -⟩ := Arv.new A q
  exact ⟨c, B, S.trans e, fun j hj => by have := H j (by rw [S, e]; exact hj); simpa using this⟩
theorem Av.set {Z : State} {h h' : Heap} {a : Addr} {ty : FieldType} {n i : Nat} {f : Nat → Value} {cl : Cell} {j : Int32} {v w : Value} (A : Arr Z h a cl ty) (S : cl.slots.size = n) (H : ∀ j, j < n → cl.slots[j]? = some (f j)) (W : Wr h h' a j.toNatClampNeg v) (hj : j.toNatClampNeg = i) (e : v = w) : Av Z h' a ty n (fun j => if j = i then w else f j) := by
  subst e hj
  refine ⟨_, A.same W, by simp [Cell.setSlot, S], fun k hk => ?_⟩
  show (cl.slots.setIfInBounds j.toNatClampNeg v)[k]? = _
  rw [Array.getElem?_setIfInBounds]
  by_cases q : j.toNatClampNeg = k
  · subst q; simp [S, hk]
  · rw [if_neg q, H k hk]
    show some (f k) = some (if k = j.toNatClampNeg then v else f k)
    rw [if_neg (fun u => q (Eq.symm u))]
theorem own_safe {Z : State} {EL : List (String × Nat)} {vm : Vm} {h : Heap} {x : Addr} (hal : Z.vm.Alike vm) (E : Exa Z h x "java/lang/String") (F : Fld Z h x "java/lang/String" "value" "[B" .null) : Safe Z EL vm h x := fun B => by
  obtain ⟨cell, k, e1, e2, e3, -, -⟩ := E
  obtain ⟨cell', cf, kf, i, f, f1, f2, f3, f4, f5, f6, f7⟩ := F
  cases f1.symm.trans e1
  obtain ⟨p, -, u, a, -, q, -, G, rfl | rfl⟩ := B
  · cases (show h[q.sa]? = some q.sC from G.ha).symm.trans e1
    obtain ⟨cS, ⟨⟨-, -, -, ⟨cv, kv, iv, s4, s4'⟩, -, -, -, s8, -⟩, -, -⟩, -⟩ := G
    obtain ⟨k2, g2, -⟩ := State.fieldFound?_setVm (s := Z) hal f2
    have g3 := (show (Z.setVm vm).fieldFound? _ _ _ = _ from s4).symm.trans g2
    simp only [Option.some.injEq, Prod.mk.injEq] at g3
    rw [g3.2.2.2, f7] at s8
    cases s8
  · cases (show h[q.sd]? = some q.SA from G.hd).symm.trans e1
    obtain ⟨cS, -, -, f, -⟩ := G
    have f : vm.findClass "[B" = some q.SA.cls := f
    rw [hal.findClass] at f
    obtain ⟨k1, q1, q2⟩ := Vm.findClass_spec f
    obtain ⟨k2, q3, q4⟩ := Vm.findClass_spec e2
    cases q1.symm.trans q3
    exact absurd (q2.symm.trans q4) (by decide)
theorem own_ws {Z : State} {a0 : Array Value} (hw : ∀ d ∈ tables_1, d.before a0 Z = true) : ∀ a ∈ Bundle.stringAtoms, a.before a0 Z = true := fun d hd => hw d ((by decide +kernel : ∀ d ∈ Bundle.stringAtoms, d ∈ tables_1) d hd)
theorem own_safeA {Z : State} {EL : List (String × Nat)} {vm : Vm} {h : Heap} {x : Addr} {ty : FieldType} {n : Nat} {f : Nat → Value} (hal : Z.vm.Alike vm) (A : Av Z h x ty n f) (ht : ty ≠ .byte) : Safe Z EL vm h x := by obtain ⟨c, A, -⟩ := A; exact Safe.arr hal A ht

theorem hwd88 {Z : State} {a0 : Array Value} (hw : ∀ d ∈ tables_1, d.before a0 Z = true) : (Jvm.Cond.stringLink "java/lang/String" (7 : Nat) "").before a0 Z = true := hw _ (List.mem_of_getElem? (i := 88) rfl)
theorem own_EL {Z : State} {a0 : Array Value} (hw : ∀ d ∈ tables_1, d.before a0 Z = true) : EW Z a0 consts_1 := EW.cons (hwd88 hw) (fun _ q => nomatch q) EW.nil
def Lat (c : Int32) : Prop := ¬ c < 0 ∧ ¬ (255 : Int32) < c
theorem own_fin {P : Int32 → Prop} (h : ∀ k : Fin 256, P (Int32.ofNat k.1)) {c : Int32} (hc : Lat c) : P c := by
  obtain ⟨h1, h2⟩ := hc
  rw [Int32.lt_iff_toInt_lt] at h1 h2
  have z0 : (0 : Int32).toInt = 0 := by decide
  have z1 : (255 : Int32).toInt = 255 := by decide
  have e : Int32.ofNat c.toInt.toNat = c := by
    apply Int32.toInt_inj.mp
    rw [Int32.toInt_ofNat_of_lt (by omega)]
    omega
  have := h ⟨c.toInt.toNat, by omega⟩
  rw [e] at this
  exact this
theorem own_narc {c : Int32} (hc : Lat c) : nar .char c = c := own_fin (P := fun c => nar .char c = c) (by decide +kernel) hc
theorem own_ca {c : Int32} (hc : Lat c) : nar .char ((((nar .byte (c.toInt8.toInt32)) &&& (255 : Int32)).toUInt32.toUInt16.toUInt32.toInt32)) = c := own_fin (P := fun c => nar .char ((((nar .byte (c.toInt8.toInt32)) &&& (255 : Int32)).toUInt32.toUInt16.toUInt32.toInt32)) = c) (by decide +kernel) hc
def own_draw (x : Int32) : Int32 := if (x &&& (7 : Int32)) = (0 : Int32) then 32 else if (x &&& (7 : Int32)) = (1 : Int32) then 9 else if (x &&& (7 : Int32)) = (2 : Int32) then 10 else if (x &&& (7 : Int32)) = (3 : Int32) then 13 else nar .char ((((x.toUInt32 >>> ((3 : Int32) &&& 31).toUInt32).toInt32) &&& (255 : Int32)).toUInt32.toUInt16.toUInt32.toInt32)
theorem own_dl (x : Int32) : Lat (own_draw x) := by
  have hk : ∀ y : Int32, Lat (y &&& (255 : Int32)) := fun y => by
    have h := c_and y 255 (by decide)
    rw [show (255 : Int32).toInt = 255 by decide] at h
    generalize (y &&& (255 : Int32)) = w at h
    unfold Lat
    rw [Int32.lt_iff_toInt_lt, Int32.lt_iff_toInt_lt, show (255 : Int32).toInt = 255 by decide, show (0 : Int32).toInt = 0 by decide]
    omega
  have d : ∀ {c : Int32}, c = 32 ∨ c = 9 ∨ c = 10 ∨ c = 13 → Lat c := fun {c} h => by rcases h with rfl | rfl | rfl | rfl <;> (unfold Lat; decide)
  unfold own_draw
  split
  · exact d (Or.inl rfl)
  · split
    · exact d (Or.inr (Or.inl rfl))
    · split
      · exact d (Or.inr (Or.inr (Or.inl rfl)))
      · split
        · exact d (Or.inr (Or.inr (Or.inr rfl)))
        · exact own_fin (P := fun y => Lat (nar .char (y.toUInt32.toUInt16.toUInt32.toInt32))) (fun k => by revert k; unfold Lat; decide +kernel) (hk _)
def own_bl (c : Int32) : Int32 := if c = 32 ∨ c = 9 ∨ c = 10 ∨ c = 13 then 1 else 0
theorem own_bl1 {c : Int32} (h : c = 32 ∨ c = 9 ∨ c = 10 ∨ c = 13) : own_bl c = 1 := if_pos h
theorem own_bl0 {c : Int32} (h1 : ¬ c = 32) (h2 : ¬ c = 9) (h3 : ¬ c = 10) (h4 : ¬ c = 13) : own_bl c = 0 := if_neg fun h => by rcases h with h | h | h | h <;> contradiction
theorem own_fld {s : State} {args : Array Value} {t : Term} {x : Addr} {C n d : String} {k : Int32} (e : t.eval args s none [] s = some (.ref x)) (h : (Cond.eq (.field t C n d) (.int k)).value args s none s [] = some true) : s.fieldOf? x C n d = some (.int k) := by
  have h1 := fld_at (C := C) (n := n) (dd := d) e
  cases hf : s.fieldOf? x C n d with
  | none => rw [hf] at h1; simp [Cond.value, h1] at h
  | some v =>
    rw [hf] at h1
    have h2 : (Term.int k).eval args s none [] s = some (.int k) := rfl
    cases v with
    | int z => rw [gotT (Cond.eq_ints h1 h2) h]
    | _ => simp [Cond.value, h1, h2] at h
theorem d1_0 : decode method_2_code 0 = .ok (.iload_n 0, 1) := by decide +kernel
theorem d1_1 : decode method_2_code 1 = .ok (.bipush 7, 2) := by decide +kernel
theorem d1_3 : decode method_2_code 3 = .ok (.iand, 1) := by decide +kernel
theorem d1_4 : decode method_2_code 4 = .ok (.istore_n 1, 1) := by decide +kernel
theorem d1_5 : decode method_2_code 5 = .ok (.iload_n 1, 1) := by decide +kernel
theorem d1_6 : decode method_2_code 6 = .ok (.ifCond .ne 6, 3) := by decide +kernel
theorem d1_9 : decode method_2_code 9 = .ok (.bipush 32, 2) := by decide +kernel
theorem d1_11 : decode method_2_code 11 = .ok (.ireturn, 1) := by decide +kernel
theorem pn_0 : plainName "com/example/libsitemap/libsitemap/ValueTextClearPinLaw" = true := by first | (simp [plainName, overriddenIn]; done) | decide +kernel
theorem ef_1 (m : MethodId) (x0 : Int32) : entryFrame m #[(.int x0)] 2 = mkF m 0 #[.val (.int x0), .unset] [] := by first | (simp [entryFrame, mkF, argsToLocals, Value.category]; done) | rfl
def Qdraw (Z : State) (xi : Int32) (h0 : Heap) (n0 : Nat) (v : Option Value) (h : Heap) (L : List Loc) : Prop := v = some (.int (own_draw xi)) ∧ Fr n0 L ∧ h = h0
abbrev my0 : MethodName := ⟨"com/example/libsitemap/libsitemap/ValueTextClearPinLaw", "draw", "(I)C"⟩
abbrev Rm_draw : Room := { frames := 0, cells := 0, slots := 0, locals := 0 }
set_option maxRecDepth 65536 in
set_option maxHeartbeats 40000000 in
theorem draw0 (l : Launch) (Z : State) (a0 : Array Value) (hw : ∀ d ∈ tables_1, d.before a0 Z = true) (ws : List Jvm.Cond) (xi : Int32) (h0 : Heap) (n0 : Nat) (Z0 : n0 ≤ h0.size) (q0 : (xi &&& (7 : Int32)) = (0 : Int32)) :
    MetFree l my0 (head1 (Jvm.Cond.code my0 method_2_code 2 (some .char) :: ws) Rm_draw) (fun aa_ U => aa_ = #[(.int xi)] ∧ Z.Warmed39 U.vm ∧ U.heap = h0) (fun _ _ _ _ _ => True) (fun _ U oo_ U' => ∃ v L, oo_ = .returned v ∧ Qdraw Z xi h0 n0 v U'.heap L ∧ FrameEnd U oo_ U' L Rm_draw.cells Rm_draw.slots) := by
  refine MetFree.of_bodySF (plainFor_of_name pn_0) hisR ?_
  intro p e s m args below meth c s₁ Bd hml0 hP hK
  obtain ⟨rfl, hZ, hh⟩ := hP
  have hx := Bd.exec
  have hby := Bd.bytes
  have hml : c.maxLocals = 2 := hml0
  have hown : s.vm.findClass "com/example/libsitemap/libsitemap/ValueTextClearPinLaw" = some m.cls := findClass_of_methodNamed Bd.named
  have hnm := (name_of_methodNamed Bd.named Bd.method).1
  have X0 : Stand p l e Rm_draw s m #[(.int xi)] below meth c s₁ [] 0 0 := Stand.of_body Bd
  have e0 : s₁.heap = h0 := by rw [← hh, Bd.state]; rfl
  have N0 := Fr.nil n0
  have pre0 : ∀ tt_, Steps p.tables e below (s₁.setTop (mkF m 0 #[.val (.int xi), .unset] [])) tt_ → Steps p.tables e below (s₁.setTop (entryFrame m #[(.int xi)] 2)) tt_ := fun tt_ kk_ => castTop (ef_1 m xi) kk_
  obtain ⟨fs, hr, hrun, hended, hW, hsame⟩ := X0.leave (v := some (.int (32 : Int32))) (fun h => by rw [Bd.returns] at h; cases h)
  refine ⟨_, _, pre0 _ ?_, hrun, hended, _, _, rfl, ?_, ⟨_, rfl⟩, hW, hsame.mono (by decide) (by decide)⟩
  · show Steps p.tables e below (s₁.setTop (mkF m 0 #[.val (.int xi), .unset] [])) _
    refine XS.iloadN X0.here hx rfl (hb hby d1_0) rfl ?_
    refine XS.bipush X0.here hx rfl (hb hby d1_1) ?_
    show Steps p.tables e below (s₁.setTop (mkF m 3 #[.val (.int xi), .unset] [(.int (7 : Int32)), (.int xi)])) _
    refine XS.iand X0.here hx rfl (hb hby d1_3) rfl ?_
    refine XS.istoreN X0.here hx rfl (hb hby d1_4) rfl (l' := #[.val (.int xi), .val (.int (xi &&& (7 : Int32)))]) rfl ?_
    refine XS.iloadN X0.here hx rfl (hb hby d1_5) rfl ?_
    refine XS.ifNo X0.here hx rfl (hb hby d1_6) rfl ((if0 _ _).trans (teq (show (xi &&& (7 : Int32)) = (0 : Int32) from q0)).2) ?_
    refine XS.bipush X0.here hx rfl (hb hby d1_9) ?_
    show Steps p.tables e below (s₁.setTop (mkF m 11 #[.val (.int xi), .val (.int (xi &&& (7 : Int32)))] [(.int (32 : Int32))])) _
    exact retN X0 hx (t := .char) Bd.returns (by simp) (hb hby d1_11) hr
  · show Qdraw Z xi h0 n0 _ s₁.heap _
    rw [e0]
    exact ⟨by rw [own_draw, if_pos q0], N0, rfl⟩
theorem d1_12 : decode method_2_code 12 = .ok (.iload_n 1, 1) := by decide +kernel
theorem d1_13 : decode method_2_code 13 = .ok (.iconst 1, 1) := by decide +kernel
theorem d1_14 : decode method_2_code 14 = .ok (.if_icmp .ne 6, 3) := by decide +kernel
theorem d1_17 : decode method_2_code 17 = .ok (.bipush 9, 2) := by decide +kernel
theorem d1_19 : decode method_2_code 19 = .ok (.ireturn, 1) := by decide +kernel
set_option maxRecDepth 65536 in
set_option maxHeartbeats 40000000 in
theorem draw1 (l : Launch) (Z : State) (a0 : Array Value) (hw : ∀ d ∈ tables_1, d.before a0 Z = true) (ws : List Jvm.Cond) (xi : Int32) (h0 : Heap) (n0 : Nat) (Z0 : n0 ≤ h0.size) (q0 : ¬ ((xi &&& (7 : Int32)) = (0 : Int32))) (q1 : (xi &&& (7 : Int32)) = (1 : Int32)) :
    MetFree l my0 (head1 (Jvm.Cond.code my0 method_2_code 2 (some .char) :: ws) Rm_draw) (fun aa_ U => aa_ = #[(.int xi)] ∧ Z.Warmed39 U.vm ∧ U.heap = h0) (fun _ _ _ _ _ => True) (fun _ U oo_ U' => ∃ v L, oo_ = .returned v ∧ Qdraw Z xi h0 n0 v U'.heap L ∧ FrameEnd U oo_ U' L Rm_draw.cells Rm_draw.slots) := by
  refine MetFree.of_bodySF (plainFor_of_name pn_0) hisR ?_
  intro p e s m args below meth c s₁ Bd hml0 hP hK
  obtain ⟨rfl, hZ, hh⟩ := hP
  have hx := Bd.exec
  have hby := Bd.bytes
  have hml : c.maxLocals = 2 := hml0
  have hown : s.vm.findClass "com/example/libsitemap/libsitemap/ValueTextClearPinLaw" = some m.cls := findClass_of_methodNamed Bd.named
  have hnm := (name_of_methodNamed Bd.named Bd.method).1
  have X0 : Stand p l e Rm_draw s m #[(.int xi)] below meth c s₁ [] 0 0 := Stand.of_body Bd
  have e0 : s₁.heap = h0 := by rw [← hh, Bd.state]; rfl
  have N0 := Fr.nil n0
  have pre0 : ∀ tt_, Steps p.tables e below (s₁.setTop (mkF m 0 #[.val (.int xi), .unset] [])) tt_ → Steps p.tables e below (s₁.setTop (entryFrame m #[(.int xi)] 2)) tt_ := fun tt_ kk_ => castTop (ef_1 m xi) kk_
  obtain ⟨fs, hr, hrun, hended, hW, hsame⟩ := X0.leave (v := some (.int (9 : Int32))) (fun h => by rw [Bd.returns] at h; cases h)
  refine ⟨_, _, pre0 _ ?_, hrun, hended, _, _, rfl, ?_, ⟨_, rfl⟩, hW, hsame.mono (by decide) (by decide)⟩
  · show Steps p.tables e below (s₁.setTop (mkF m 0 #[.val (.int xi), .unset] [])) _
    refine XS.iloadN X0.here hx rfl (hb hby d1_0) rfl ?_
    refine XS.bipush X0.here hx rfl (hb hby d1_1) ?_
    show Steps p.tables e below (s₁.setTop (mkF m 3 #[.val (.int xi), .unset] [(.int (7 : Int32)), (.int xi)])) _
    refine XS.iand X0.here hx rfl (hb hby d1_3) rfl ?_
    refine XS.istoreN X0.here hx rfl (hb hby d1_4) rfl (l' := #[.val (.int xi), .val (.int (xi &&& (7 : Int32)))]) rfl ?_
    refine XS.iloadN X0.here hx rfl (hb hby d1_5) rfl ?_
    refine XS.ifYes X0.here hx rfl (pc0 := 6) (pc' := 12) rfl (hb hby d1_6) rfl ((if0 _ _).trans (feq (show ¬ ((xi &&& (7 : Int32)) = (0 : Int32)) from q0)).2) (by decide) (by decide) ?_
    refine XS.iloadN X0.here hx rfl (hb hby d1_12) rfl ?_
    refine XS.iconst X0.here hx rfl (hb hby d1_13) ?_
    show Steps p.tables e below (s₁.setTop (mkF m 14 #[.val (.int xi), .val (.int (xi &&& (7 : Int32)))] [(.int (1 : Int32)), (.int (xi &&& (7 : Int32)))])) _
    refine XS.icmpNo X0.here hx rfl (hb hby d1_14) rfl (teq (show (xi &&& (7 : Int32)) = (1 : Int32) from q1)).2 ?_
    refine XS.bipush X0.here hx rfl (hb hby d1_17) ?_
    show Steps p.tables e below (s₁.setTop (mkF m 19 #[.val (.int xi), .val (.int (xi &&& (7 : Int32)))] [(.int (9 : Int32))])) _
    exact retN X0 hx (t := .char) Bd.returns (by simp) (hb hby d1_19) hr
  · show Qdraw Z xi h0 n0 _ s₁.heap _
    rw [e0]
    exact ⟨by rw [own_draw, if_neg q0, if_pos q1], N0, rfl⟩
theorem d1_20 : decode method_2_code 20 = .ok (.iload_n 1, 1) := by decide +kernel
theorem d1_21 : decode method_2_code 21 = .ok (.iconst 2, 1) := by decide +kernel
theorem d1_22 : decode method_2_code 22 = .ok (.if_icmp .ne 6, 3) := by decide +kernel
theorem d1_25 : decode method_2_code 25 = .ok (.bipush 10, 2) := by decide +kernel
theorem d1_27 : decode method_2_code 27 = .ok (.ireturn, 1) := by decide +kernel
set_option maxRecDepth 65536 in
set_option maxHeartbeats 40000000 in
theorem draw2 (l : Launch) (Z : State) (a0 : Array Value) (hw : ∀ d ∈ tables_1, d.before a0 Z = true) (ws : List Jvm.Cond) (xi : Int32) (h0 : Heap) (n0 : Nat) (Z0 : n0 ≤ h0.size) (q0 : ¬ ((xi &&& (7 : Int32)) = (0 : Int32))) (q1 : ¬ ((xi &&& (7 : Int32)) = (1 : Int32))) (q2 : (xi &&& (7 : Int32)) = (2 : Int32)) :
    MetFree l my0 (head1 (Jvm.Cond.code my0 method_2_code 2 (some .char) :: ws) Rm_draw) (fun aa_ U => aa_ = #[(.int xi)] ∧ Z.Warmed39 U.vm ∧ U.heap = h0) (fun _ _ _ _ _ => True) (fun _ U oo_ U' => ∃ v L, oo_ = .returned v ∧ Qdraw Z xi h0 n0 v U'.heap L ∧ FrameEnd U oo_ U' L Rm_draw.cells Rm_draw.slots) := by
  refine MetFree.of_bodySF (plainFor_of_name pn_0) hisR ?_
  intro p e s m args below meth c s₁ Bd hml0 hP hK
  obtain ⟨rfl, hZ, hh⟩ := hP
  have hx := Bd.exec
  have hby := Bd.bytes
  have hml : c.maxLocals = 2 := hml0
  have hown : s.vm.findClass "com/example/libsitemap/libsitemap/ValueTextClearPinLaw" = some m.cls := findClass_of_methodNamed Bd.named
  have hnm := (name_of_methodNamed Bd.named Bd.method).1
  have X0 : Stand p l e Rm_draw s m #[(.int xi)] below meth c s₁ [] 0 0 := Stand.of_body Bd
  have e0 : s₁.heap = h0 := by rw [← hh, Bd.state]; rfl
  have N0 := Fr.nil n0
  have pre0 : ∀ tt_, Steps p.tables e below (s₁.setTop (mkF m 0 #[.val (.int xi), .unset] [])) tt_ → Steps p.tables e below (s₁.setTop (entryFrame m #[(.int xi)] 2)) tt_ := fun tt_ kk_ => castTop (ef_1 m xi) kk_
  obtain ⟨fs, hr, hrun, hended, hW, hsame⟩ := X0.leave (v := some (.int (10 : Int32))) (fun h => by rw [Bd.returns] at h; cases h)
  refine ⟨_, _, pre0 _ ?_, hrun, hended, _, _, rfl, ?_, ⟨_, rfl⟩, hW, hsame.mono (by decide) (by decide)⟩
  · show Steps p.tables e below (s₁.setTop (mkF m 0 #[.val (.int xi), .unset] [])) _
    refine XS.iloadN X0.here hx rfl (hb hby d1_0) rfl ?_
    refine XS.bipush X0.here hx rfl (hb hby d1_1) ?_
    show Steps p.tables e below (s₁.setTop (mkF m 3 #[.val (.int xi), .unset] [(.int (7 : Int32)), (.int xi)])) _
    refine XS.iand X0.here hx rfl (hb hby d1_3) rfl ?_
    refine XS.istoreN X0.here hx rfl (hb hby d1_4) rfl (l' := #[.val (.int xi), .val (.int (xi &&& (7 : Int32)))]) rfl ?_
    refine XS.iloadN X0.here hx rfl (hb hby d1_5) rfl ?_
    refine XS.ifYes X0.here hx rfl (pc0 := 6) (pc' := 12) rfl (hb hby d1_6) rfl ((if0 _ _).trans (feq (show ¬ ((xi &&& (7 : Int32)) = (0 : Int32)) from q0)).2) (by decide) (by decide) ?_
    refine XS.iloadN X0.here hx rfl (hb hby d1_12) rfl ?_
    refine XS.iconst X0.here hx rfl (hb hby d1_13) ?_
    show Steps p.tables e below (s₁.setTop (mkF m 14 #[.val (.int xi), .val (.int (xi &&& (7 : Int32)))] [(.int (1 : Int32)), (.int (xi &&& (7 : Int32)))])) _
    refine XS.icmpYes X0.here hx rfl (pc0 := 14) (pc' := 20) rfl (hb hby d1_14) rfl (feq (show ¬ ((xi &&& (7 : Int32)) = (1 : Int32)) from q1)).2 (by decide) (by decide) ?_
    refine XS.iloadN X0.here hx rfl (hb hby d1_20) rfl ?_
    refine XS.iconst X0.here hx rfl (hb hby d1_21) ?_
    refine XS.icmpNo X0.here hx rfl (hb hby d1_22) rfl (teq (show (xi &&& (7 : Int32)) = (2 : Int32) from q2)).2 ?_
    refine XS.bipush X0.here hx rfl (hb hby d1_25) ?_
    show Steps p.tables e below (s₁.setTop (mkF m 27 #[.val (.int xi), .val (.int (xi &&& (7 : Int32)))] [(.int (10 : Int32))])) _
    exact retN X0 hx (t := .char) Bd.returns (by simp) (hb hby d1_27) hr
  · show Qdraw Z xi h0 n0 _ s₁.heap _
    rw [e0]
    exact ⟨by rw [own_draw, if_neg q0, if_neg q1, if_pos q2], N0, rfl⟩
theorem d1_28 : decode method_2_code 28 = .ok (.iload_n 1, 1) := by decide +kernel
theorem d1_29 : decode method_2_code 29 = .ok (.iconst 3, 1) := by decide +kernel
theorem d1_30 : decode method_2_code 30 = .ok (.if_icmp .ne 6, 3) := by decide +kernel
theorem d1_33 : decode method_2_code 33 = .ok (.bipush 13, 2) := by decide +kernel
theorem d1_35 : decode method_2_code 35 = .ok (.ireturn, 1) := by decide +kernel
set_option maxRecDepth 65536 in
set_option maxHeartbeats 40000000 in
theorem draw3 (l : Launch) (Z : State) (a0 : Array Value) (hw : ∀ d ∈ tables_1, d.before a0 Z = true) (ws : List Jvm.Cond) (xi : Int32) (h0 : Heap) (n0 : Nat) (Z0 : n0 ≤ h0.size) (q0 : ¬ ((xi &&& (7 : Int32)) = (0 : Int32))) (q1 : ¬ ((xi &&& (7 : Int32)) = (1 : Int32))) (q2 : ¬ ((xi &&& (7 : Int32)) = (2 : Int32))) (q3 : (xi &&& (7 : Int32)) = (3 : Int32)) :
    MetFree l my0 (head1 (Jvm.Cond.code my0 method_2_code 2 (some .char) :: ws) Rm_draw) (fun aa_ U => aa_ = #[(.int xi)] ∧ Z.Warmed39 U.vm ∧ U.heap = h0) (fun _ _ _ _ _ => True) (fun _ U oo_ U' => ∃ v L, oo_ = .returned v ∧ Qdraw Z xi h0 n0 v U'.heap L ∧ FrameEnd U oo_ U' L Rm_draw.cells Rm_draw.slots) := by
  refine MetFree.of_bodySF (plainFor_of_name pn_0) hisR ?_
  intro p e s m args below meth c s₁ Bd hml0 hP hK
  obtain ⟨rfl, hZ, hh⟩ := hP
  have hx := Bd.exec
  have hby := Bd.bytes
  have hml : c.maxLocals = 2 := hml0
  have hown : s.vm.findClass "com/example/libsitemap/libsitemap/ValueTextClearPinLaw" = some m.cls := findClass_of_methodNamed Bd.named
  have hnm := (name_of_methodNamed Bd.named Bd.method).1
  have X0 : Stand p l e Rm_draw s m #[(.int xi)] below meth c s₁ [] 0 0 := Stand.of_body Bd
  have e0 : s₁.heap = h0 := by rw [← hh, Bd.state]; rfl
  have N0 := Fr.nil n0
  have pre0 : ∀ tt_, Steps p.tables e below (s₁.setTop (mkF m 0 #[.val (.int xi), .unset] [])) tt_ → Steps p.tables e below (s₁.setTop (entryFrame m #[(.int xi)] 2)) tt_ := fun tt_ kk_ => castTop (ef_1 m xi) kk_
  obtain ⟨fs, hr, hrun, hended, hW, hsame⟩ := X0.leave (v := some (.int (13 : Int32))) (fun h => by rw [Bd.returns] at h; cases h)
  refine ⟨_, _, pre0 _ ?_, hrun, hended, _, _, rfl, ?_, ⟨_, rfl⟩, hW, hsame.mono (by decide) (by decide)⟩
  · show Steps p.tables e below (s₁.setTop (mkF m 0 #[.val (.int xi), .unset] [])) _
    refine XS.iloadN X0.here hx rfl (hb hby d1_0) rfl ?_
    refine XS.bipush X0.here hx rfl (hb hby d1_1) ?_
    show Steps p.tables e below (s₁.setTop (mkF m 3 #[.val (.int xi), .unset] [(.int (7 : Int32)), (.int xi)])) _
    refine XS.iand X0.here hx rfl (hb hby d1_3) rfl ?_
    refine XS.istoreN X0.here hx rfl (hb hby d1_4) rfl (l' := #[.val (.int xi), .val (.int (xi &&& (7 : Int32)))]) rfl ?_
    refine XS.iloadN X0.here hx rfl (hb hby d1_5) rfl ?_
    refine XS.ifYes X0.here hx rfl (pc0 := 6) (pc' := 12) rfl (hb hby d1_6) rfl ((if0 _ _).trans (feq (show ¬ ((xi &&& (7 : Int32)) = (0 : Int32)) from q0)).2) (by decide) (by decide) ?_
    refine XS.iloadN X0.here hx rfl (hb hby d1_12) rfl ?_
    refine XS.iconst X0.here hx rfl (hb hby d1_13) ?_
    show Steps p.tables e below (s₁.setTop (mkF m 14 #[.val (.int xi), .val (.int (xi &&& (7 : Int32)))] [(.int (1 : Int32)), (.int (xi &&& (7 : Int32)))])) _
    refine XS.icmpYes X0.here hx rfl (pc0 := 14) (pc' := 20) rfl (hb hby d1_14) rfl (feq (show ¬ ((xi &&& (7 : Int32)) = (1 : Int32)) from q1)).2 (by decide) (by decide) ?_
    refine XS.iloadN X0.here hx rfl (hb hby d1_20) rfl ?_
    refine XS.iconst X0.here hx rfl (hb hby d1_21) ?_
    refine XS.icmpYes X0.here hx rfl (pc0 := 22) (pc' := 28) rfl (hb hby d1_22) rfl (feq (show ¬ ((xi &&& (7 : Int32)) = (2 : Int32)) from q2)).2 (by decide) (by decide) ?_
    refine XS.iloadN X0.here hx rfl (hb hby d1_28) rfl ?_
    refine XS.iconst X0.here hx rfl (hb hby d1_29) ?_
    show Steps p.tables e below (s₁.setTop (mkF m 30 #[.val (.int xi), .val (.int (xi &&& (7 : Int32)))] [(.int (3 : Int32)), (.int (xi &&& (7 : Int32)))])) _
    refine XS.icmpNo X0.here hx rfl (hb hby d1_30) rfl (teq (show (xi &&& (7 : Int32)) = (3 : Int32) from q3)).2 ?_
    refine XS.bipush X0.here hx rfl (hb hby d1_33) ?_
    show Steps p.tables e below (s₁.setTop (mkF m 35 #[.val (.int xi), .val (.int (xi &&& (7 : Int32)))] [(.int (13 : Int32))])) _
    exact retN X0 hx (t := .char) Bd.returns (by simp) (hb hby d1_35) hr
  · show Qdraw Z xi h0 n0 _ s₁.heap _
    rw [e0]
    exact ⟨by rw [own_draw, if_neg q0, if_neg q1, if_neg q2, if_pos q3], N0, rfl⟩
theorem d1_36 : decode method_2_code 36 = .ok (.iload_n 0, 1) := by decide +kernel
theorem d1_37 : decode method_2_code 37 = .ok (.iconst 3, 1) := by decide +kernel
theorem d1_38 : decode method_2_code 38 = .ok (.iushr, 1) := by decide +kernel
theorem d1_39 : decode method_2_code 39 = .ok (.sipush 255, 3) := by decide +kernel
theorem d1_42 : decode method_2_code 42 = .ok (.iand, 1) := by decide +kernel
theorem d1_43 : decode method_2_code 43 = .ok (.i2c, 1) := by decide +kernel
theorem d1_44 : decode method_2_code 44 = .ok (.ireturn, 1) := by decide +kernel
set_option maxRecDepth 65536 in
set_option maxHeartbeats 40000000 in
theorem draw4 (l : Launch) (Z : State) (a0 : Array Value) (hw : ∀ d ∈ tables_1, d.before a0 Z = true) (ws : List Jvm.Cond) (xi : Int32) (h0 : Heap) (n0 : Nat) (Z0 : n0 ≤ h0.size) (q0 : ¬ ((xi &&& (7 : Int32)) = (0 : Int32))) (q1 : ¬ ((xi &&& (7 : Int32)) = (1 : Int32))) (q2 : ¬ ((xi &&& (7 : Int32)) = (2 : Int32))) (q3 : ¬ ((xi &&& (7 : Int32)) = (3 : Int32))) :
    MetFree l my0 (head1 (Jvm.Cond.code my0 method_2_code 2 (some .char) :: ws) Rm_draw) (fun aa_ U => aa_ = #[(.int xi)] ∧ Z.Warmed39 U.vm ∧ U.heap = h0) (fun _ _ _ _ _ => True) (fun _ U oo_ U' => ∃ v L, oo_ = .returned v ∧ Qdraw Z xi h0 n0 v U'.heap L ∧ FrameEnd U oo_ U' L Rm_draw.cells Rm_draw.slots) := by
  refine MetFree.of_bodySF (plainFor_of_name pn_0) hisR ?_
  intro p e s m args below meth c s₁ Bd hml0 hP hK
  obtain ⟨rfl, hZ, hh⟩ := hP
  have hx := Bd.exec
  have hby := Bd.bytes
  have hml : c.maxLocals = 2 := hml0
  have hown : s.vm.findClass "com/example/libsitemap/libsitemap/ValueTextClearPinLaw" = some m.cls := findClass_of_methodNamed Bd.named
  have hnm := (name_of_methodNamed Bd.named Bd.method).1
  have X0 : Stand p l e Rm_draw s m #[(.int xi)] below meth c s₁ [] 0 0 := Stand.of_body Bd
  have e0 : s₁.heap = h0 := by rw [← hh, Bd.state]; rfl
  have N0 := Fr.nil n0
  have pre0 : ∀ tt_, Steps p.tables e below (s₁.setTop (mkF m 0 #[.val (.int xi), .unset] [])) tt_ → Steps p.tables e below (s₁.setTop (entryFrame m #[(.int xi)] 2)) tt_ := fun tt_ kk_ => castTop (ef_1 m xi) kk_
  obtain ⟨fs, hr, hrun, hended, hW, hsame⟩ := X0.leave (v := some (.int (nar .char ((((xi.toUInt32 >>> ((3 : Int32) &&& 31).toUInt32).toInt32) &&& (255 : Int32)).toUInt32.toUInt16.toUInt32.toInt32)))) (fun h => by rw [Bd.returns] at h; cases h)
  refine ⟨_, _, pre0 _ ?_, hrun, hended, _, _, rfl, ?_, ⟨_, rfl⟩, hW, hsame.mono (by decide) (by decide)⟩
  · show Steps p.tables e below (s₁.setTop (mkF m 0 #[.val (.int xi), .unset] [])) _
    refine XS.iloadN X0.here hx rfl (hb hby d1_0) rfl ?_
    refine XS.bipush X0.here hx rfl (hb hby d1_1) ?_
    show Steps p.tables e below (s₁.setTop (mkF m 3 #[.val (.int xi), .unset] [(.int (7 : Int32)), (.int xi)])) _
    refine XS.iand X0.here hx rfl (hb hby d1_3) rfl ?_
    refine XS.istoreN X0.here hx rfl (hb hby d1_4) rfl (l' := #[.val (.int xi), .val (.int (xi &&& (7 : Int32)))]) rfl ?_
    refine XS.iloadN X0.here hx rfl (hb hby d1_5) rfl ?_
    refine XS.ifYes X0.here hx rfl (pc0 := 6) (pc' := 12) rfl (hb hby d1_6) rfl ((if0 _ _).trans (feq (show ¬ ((xi &&& (7 : Int32)) = (0 : Int32)) from q0)).2) (by decide) (by decide) ?_
    refine XS.iloadN X0.here hx rfl (hb hby d1_12) rfl ?_
    refine XS.iconst X0.here hx rfl (hb hby d1_13) ?_
    show Steps p.tables e below (s₁.setTop (mkF m 14 #[.val (.int xi), .val (.int (xi &&& (7 : Int32)))] [(.int (1 : Int32)), (.int (xi &&& (7 : Int32)))])) _
    refine XS.icmpYes X0.here hx rfl (pc0 := 14) (pc' := 20) rfl (hb hby d1_14) rfl (feq (show ¬ ((xi &&& (7 : Int32)) = (1 : Int32)) from q1)).2 (by decide) (by decide) ?_
    refine XS.iloadN X0.here hx rfl (hb hby d1_20) rfl ?_
    refine XS.iconst X0.here hx rfl (hb hby d1_21) ?_
    refine XS.icmpYes X0.here hx rfl (pc0 := 22) (pc' := 28) rfl (hb hby d1_22) rfl (feq (show ¬ ((xi &&& (7 : Int32)) = (2 : Int32)) from q2)).2 (by decide) (by decide) ?_
    refine XS.iloadN X0.here hx rfl (hb hby d1_28) rfl ?_
    refine XS.iconst X0.here hx rfl (hb hby d1_29) ?_
    show Steps p.tables e below (s₁.setTop (mkF m 30 #[.val (.int xi), .val (.int (xi &&& (7 : Int32)))] [(.int (3 : Int32)), (.int (xi &&& (7 : Int32)))])) _
    refine XS.icmpYes X0.here hx rfl (pc0 := 30) (pc' := 36) rfl (hb hby d1_30) rfl (feq (show ¬ ((xi &&& (7 : Int32)) = (3 : Int32)) from q3)).2 (by decide) (by decide) ?_
    refine XS.iloadN X0.here hx rfl (hb hby d1_36) rfl ?_
    refine XS.iconst X0.here hx rfl (hb hby d1_37) ?_
    refine XS.iushr X0.here hx rfl (hb hby d1_38) rfl ?_
    refine XS.sipush X0.here hx rfl (hb hby d1_39) ?_
    show Steps p.tables e below (s₁.setTop (mkF m 42 #[.val (.int xi), .val (.int (xi &&& (7 : Int32)))] [(.int (255 : Int32)), (.int ((xi.toUInt32 >>> ((3 : Int32) &&& 31).toUInt32).toInt32))])) _
    refine XS.iand X0.here hx rfl (hb hby d1_42) rfl ?_
    refine XS.i2c X0.here hx rfl (hb hby d1_43) rfl ?_
    exact retN X0 hx (t := .char) Bd.returns (by simp) (hb hby d1_44) hr
  · show Qdraw Z xi h0 n0 _ s₁.heap _
    rw [e0]
    exact ⟨by rw [own_draw, if_neg q0, if_neg q1, if_neg q2, if_neg q3], N0, rfl⟩
theorem draw (l : Launch) (Z : State) (a0 : Array Value) (hw : ∀ d ∈ tables_1, d.before a0 Z = true) (ws : List Jvm.Cond) (xi : Int32) (h0 : Heap) (n0 : Nat) (Z0 : n0 ≤ h0.size) :
    MetFree l my0 (head1 (Jvm.Cond.code my0 method_2_code 2 (some .char) :: ws) Rm_draw) (fun aa_ U => aa_ = #[(.int xi)] ∧ Z.Warmed39 U.vm ∧ U.heap = h0) (fun _ _ _ _ _ => True) (fun _ U oo_ U' => ∃ v L, oo_ = .returned v ∧ Qdraw Z xi h0 n0 v U'.heap L ∧ FrameEnd U oo_ U' L Rm_draw.cells Rm_draw.slots) := by
  by_cases q0 : (xi &&& (7 : Int32)) = (0 : Int32)
  · exact draw0 l Z a0 hw ws xi h0 n0 Z0  q0
  by_cases q1 : (xi &&& (7 : Int32)) = (1 : Int32)
  · exact draw1 l Z a0 hw ws xi h0 n0 Z0  q0 q1
  by_cases q2 : (xi &&& (7 : Int32)) = (2 : Int32)
  · exact draw2 l Z a0 hw ws xi h0 n0 Z0  q0 q1 q2
  by_cases q3 : (xi &&& (7 : Int32)) = (3 : Int32)
  · exact draw3 l Z a0 hw ws xi h0 n0 Z0  q0 q1 q2 q3
  · exact draw4 l Z a0 hw ws xi h0 n0 Z0  q0 q1 q2 q3
theorem d6_0 : decode prog_46_method_2_code 0 = .ok (.iload_n 0, 1) := by decide +kernel
theorem d6_1 : decode prog_46_method_2_code 1 = .ok (.bipush 32, 2) := by decide +kernel
theorem d6_3 : decode prog_46_method_2_code 3 = .ok (.if_icmp .eq 21, 3) := by decide +kernel
theorem d6_24 : decode prog_46_method_2_code 24 = .ok (.iconst 1, 1) := by decide +kernel
theorem d6_25 : decode prog_46_method_2_code 25 = .ok (.goto 4, 3) := by decide +kernel
theorem d6_29 : decode prog_46_method_2_code 29 = .ok (.ireturn, 1) := by decide +kernel
theorem pn_1 : plainName "com/example/libsitemap/libsitemap/ValueText" = true := by first | (simp [plainName, overriddenIn]; done) | decide +kernel
theorem ef_6 (m : MethodId) (x0 : Int32) : entryFrame m #[(.int x0)] 1 = mkF m 0 #[.val (.int x0)] [] := by first | (simp [entryFrame, mkF, argsToLocals, Value.category]; done) | rfl
def Qisb (Z : State) (ch : Int32) (h0 : Heap) (n0 : Nat) (v : Option Value) (h : Heap) (L : List Loc) : Prop := v = some (.int (own_bl ch)) ∧ Fr n0 L ∧ h = h0
abbrev my1 : MethodName := ⟨"com/example/libsitemap/libsitemap/ValueText", "isBlank", "(C)Z"⟩
abbrev Rm_isb : Room := { frames := 0, cells := 0, slots := 0, locals := 0 }
set_option maxRecDepth 65536 in
set_option maxHeartbeats 40000000 in
theorem isb0 (l : Launch) (Z : State) (a0 : Array Value) (hw : ∀ d ∈ tables_1, d.before a0 Z = true) (ws : List Jvm.Cond) (ch : Int32) (h0 : Heap) (n0 : Nat) (Z0 : n0 ≤ h0.size) (q0 : ch = (32 : Int32)) :
    MetFree l my1 (head1 (Jvm.Cond.code my1 prog_46_method_2_code 1 (some .boolean) :: ws) Rm_isb) (fun aa_ U => aa_ = #[(.int ch)] ∧ Z.Warmed39 U.vm ∧ U.heap = h0) (fun _ _ _ _ _ => True) (fun _ U oo_ U' => ∃ v L, oo_ = .returned v ∧ Qisb Z ch h0 n0 v U'.heap L ∧ FrameEnd U oo_ U' L Rm_isb.cells Rm_isb.slots) := by
  refine MetFree.of_bodySF (plainFor_of_name pn_1) hisR ?_
  intro p e s m args below meth c s₁ Bd hml0 hP hK
  obtain ⟨rfl, hZ, hh⟩ := hP
  have hx := Bd.exec
  have hby := Bd.bytes
  have hml : c.maxLocals = 1 := hml0
  have hown : s.vm.findClass "com/example/libsitemap/libsitemap/ValueText" = some m.cls := findClass_of_methodNamed Bd.named
  have hnm := (name_of_methodNamed Bd.named Bd.method).1
  have X0 : Stand p l e Rm_isb s m #[(.int ch)] below meth c s₁ [] 0 0 := Stand.of_body Bd
  have e0 : s₁.heap = h0 := by rw [← hh, Bd.state]; rfl
  have N0 := Fr.nil n0
  have pre0 : ∀ tt_, Steps p.tables e below (s₁.setTop (mkF m 0 #[.val (.int ch)] [])) tt_ → Steps p.tables e below (s₁.setTop (entryFrame m #[(.int ch)] 1)) tt_ := fun tt_ kk_ => castTop (ef_6 m ch) kk_
  obtain ⟨fs, hr, hrun, hended, hW, hsame⟩ := X0.leave (v := some (.int (1 : Int32))) (fun h => by rw [Bd.returns] at h; cases h)
  refine ⟨_, _, pre0 _ ?_, hrun, hended, _, _, rfl, ?_, ⟨_, rfl⟩, hW, hsame.mono (by decide) (by decide)⟩
  · show Steps p.tables e below (s₁.setTop (mkF m 0 #[.val (.int ch)] [])) _
    refine XS.iloadN X0.here hx rfl (hb hby d6_0) rfl ?_
    refine XS.bipush X0.here hx rfl (hb hby d6_1) ?_
    show Steps p.tables e below (s₁.setTop (mkF m 3 #[.val (.int ch)] [(.int (32 : Int32)), (.int ch)])) _
    refine XS.icmpYes X0.here hx rfl (pc0 := 3) (pc' := 24) rfl (hb hby d6_3) rfl (teq (show ch = (32 : Int32) from q0)).1 (by decide) (by decide) ?_
    refine XS.iconst X0.here hx rfl (hb hby d6_24) ?_
    refine XS.goto X0.here hx rfl (pc0 := 25) (pc' := 29) rfl (hb hby d6_25) (by decide) (by decide) ?_
    exact retN X0 hx (t := .boolean) Bd.returns (by simp) (hb hby d6_29) hr
  · show Qisb Z ch h0 n0 _ s₁.heap _
    rw [e0]
    exact ⟨by rw [own_bl1 (Or.inl q0)], N0, rfl⟩
theorem d6_6 : decode prog_46_method_2_code 6 = .ok (.iload_n 0, 1) := by decide +kernel
theorem d6_7 : decode prog_46_method_2_code 7 = .ok (.bipush 9, 2) := by decide +kernel
theorem d6_9 : decode prog_46_method_2_code 9 = .ok (.if_icmp .eq 15, 3) := by decide +kernel
set_option maxRecDepth 65536 in
set_option maxHeartbeats 40000000 in
theorem isb1 (l : Launch) (Z : State) (a0 : Array Value) (hw : ∀ d ∈ tables_1, d.before a0 Z = true) (ws : List Jvm.Cond) (ch : Int32) (h0 : Heap) (n0 : Nat) (Z0 : n0 ≤ h0.size) (q0 : ¬ (ch = (32 : Int32))) (q1 : ch = (9 : Int32)) :
    MetFree l my1 (head1 (Jvm.Cond.code my1 prog_46_method_2_code 1 (some .boolean) :: ws) Rm_isb) (fun aa_ U => aa_ = #[(.int ch)] ∧ Z.Warmed39 U.vm ∧ U.heap = h0) (fun _ _ _ _ _ => True) (fun _ U oo_ U' => ∃ v L, oo_ = .returned v ∧ Qisb Z ch h0 n0 v U'.heap L ∧ FrameEnd U oo_ U' L Rm_isb.cells Rm_isb.slots) := by
  refine MetFree.of_bodySF (plainFor_of_name pn_1) hisR ?_
  intro p e s m args below meth c s₁ Bd hml0 hP hK
  obtain ⟨rfl, hZ, hh⟩ := hP
  have hx := Bd.exec
  have hby := Bd.bytes
  have hml : c.maxLocals = 1 := hml0
  have hown : s.vm.findClass "com/example/libsitemap/libsitemap/ValueText" = some m.cls := findClass_of_methodNamed Bd.named
  have hnm := (name_of_methodNamed Bd.named Bd.method).1
  have X0 : Stand p l e Rm_isb s m #[(.int ch)] below meth c s₁ [] 0 0 := Stand.of_body Bd
  have e0 : s₁.heap = h0 := by rw [← hh, Bd.state]; rfl
  have N0 := Fr.nil n0
  have pre0 : ∀ tt_, Steps p.tables e below (s₁.setTop (mkF m 0 #[.val (.int ch)] [])) tt_ → Steps p.tables e below (s₁.setTop (entryFrame m #[(.int ch)] 1)) tt_ := fun tt_ kk_ => castTop (ef_6 m ch) kk_
  obtain ⟨fs, hr, hrun, hended, hW, hsame⟩ := X0.leave (v := some (.int (1 : Int32))) (fun h => by rw [Bd.returns] at h; cases h)
  refine ⟨_, _, pre0 _ ?_, hrun, hended, _, _, rfl, ?_, ⟨_, rfl⟩, hW, hsame.mono (by decide) (by decide)⟩
  · show Steps p.tables e below (s₁.setTop (mkF m 0 #[.val (.int ch)] [])) _
    refine XS.iloadN X0.here hx rfl (hb hby d6_0) rfl ?_
    refine XS.bipush X0.here hx rfl (hb hby d6_1) ?_
    show Steps p.tables e below (s₁.setTop (mkF m 3 #[.val (.int ch)] [(.int (32 : Int32)), (.int ch)])) _
    refine XS.icmpNo X0.here hx rfl (hb hby d6_3) rfl (feq (show ¬ (ch = (32 : Int32)) from q0)).1 ?_
    refine XS.iloadN X0.here hx rfl (hb hby d6_6) rfl ?_
    refine XS.bipush X0.here hx rfl (hb hby d6_7) ?_
    show Steps p.tables e below (s₁.setTop (mkF m 9 #[.val (.int ch)] [(.int (9 : Int32)), (.int ch)])) _
    refine XS.icmpYes X0.here hx rfl (pc0 := 9) (pc' := 24) rfl (hb hby d6_9) rfl (teq (show ch = (9 : Int32) from q1)).1 (by decide) (by decide) ?_
    refine XS.iconst X0.here hx rfl (hb hby d6_24) ?_
    refine XS.goto X0.here hx rfl (pc0 := 25) (pc' := 29) rfl (hb hby d6_25) (by decide) (by decide) ?_
    exact retN X0 hx (t := .boolean) Bd.returns (by simp) (hb hby d6_29) hr
  · show Qisb Z ch h0 n0 _ s₁.heap _
    rw [e0]
    exact ⟨by rw [own_bl1 (Or.inr (Or.inl q1))], N0, rfl⟩
theorem d6_12 : decode prog_46_method_2_code 12 = .ok (.iload_n 0, 1) := by decide +kernel
theorem d6_13 : decode prog_46_method_2_code 13 = .ok (.bipush 10, 2) := by decide +kernel
theorem d6_15 : decode prog_46_method_2_code 15 = .ok (.if_icmp .eq 9, 3) := by decide +kernel
set_option maxRecDepth 65536 in
set_option maxHeartbeats 40000000 in
theorem isb2 (l : Launch) (Z : State) (a0 : Array Value) (hw : ∀ d ∈ tables_1, d.before a0 Z = true) (ws : List Jvm.Cond) (ch : Int32) (h0 : Heap) (n0 : Nat) (Z0 : n0 ≤ h0.size) (q0 : ¬ (ch = (32 : Int32))) (q1 : ¬ (ch = (9 : Int32))) (q2 : ch = (10 : Int32)) :
    MetFree l my1 (head1 (Jvm.Cond.code my1 prog_46_method_2_code 1 (some .boolean) :: ws) Rm_isb) (fun aa_ U => aa_ = #[(.int ch)] ∧ Z.Warmed39 U.vm ∧ U.heap = h0) (fun _ _ _ _ _ => True) (fun _ U oo_ U' => ∃ v L, oo_ = .returned v ∧ Qisb Z ch h0 n0 v U'.heap L ∧ FrameEnd U oo_ U' L Rm_isb.cells Rm_isb.slots) := by
  refine MetFree.of_bodySF (plainFor_of_name pn_1) hisR ?_
  intro p e s m args below meth c s₁ Bd hml0 hP hK
  obtain ⟨rfl, hZ, hh⟩ := hP
  have hx := Bd.exec
  have hby := Bd.bytes
  have hml : c.maxLocals = 1 := hml0
  have hown : s.vm.findClass "com/example/libsitemap/libsitemap/ValueText" = some m.cls := findClass_of_methodNamed Bd.named
  have hnm := (name_of_methodNamed Bd.named Bd.method).1
  have X0 : Stand p l e Rm_isb s m #[(.int ch)] below meth c s₁ [] 0 0 := Stand.of_body Bd
  have e0 : s₁.heap = h0 := by rw [← hh, Bd.state]; rfl
  have N0 := Fr.nil n0
  have pre0 : ∀ tt_, Steps p.tables e below (s₁.setTop (mkF m 0 #[.val (.int ch)] [])) tt_ → Steps p.tables e below (s₁.setTop (entryFrame m #[(.int ch)] 1)) tt_ := fun tt_ kk_ => castTop (ef_6 m ch) kk_
  obtain ⟨fs, hr, hrun, hended, hW, hsame⟩ := X0.leave (v := some (.int (1 : Int32))) (fun h => by rw [Bd.returns] at h; cases h)
  refine ⟨_, _, pre0 _ ?_, hrun, hended, _, _, rfl, ?_, ⟨_, rfl⟩, hW, hsame.mono (by decide) (by decide)⟩
  · show Steps p.tables e below (s₁.setTop (mkF m 0 #[.val (.int ch)] [])) _
    refine XS.iloadN X0.here hx rfl (hb hby d6_0) rfl ?_
    refine XS.bipush X0.here hx rfl (hb hby d6_1) ?_
    show Steps p.tables e below (s₁.setTop (mkF m 3 #[.val (.int ch)] [(.int (32 : Int32)), (.int ch)])) _
    refine XS.icmpNo X0.here hx rfl (hb hby d6_3) rfl (feq (show ¬ (ch = (32 : Int32)) from q0)).1 ?_
    refine XS.iloadN X0.here hx rfl (hb hby d6_6) rfl ?_
    refine XS.bipush X0.here hx rfl (hb hby d6_7) ?_
    show Steps p.tables e below (s₁.setTop (mkF m 9 #[.val (.int ch)] [(.int (9 : Int32)), (.int ch)])) _
    refine XS.icmpNo X0.here hx rfl (hb hby d6_9) rfl (feq (show ¬ (ch = (9 : Int32)) from q1)).1 ?_
    refine XS.iloadN X0.here hx rfl (hb hby d6_12) rfl ?_
    refine XS.bipush X0.here hx rfl (hb hby d6_13) ?_
    show Steps p.tables e below (s₁.setTop (mkF m 15 #[.val (.int ch)] [(.int (10 : Int32)), (.int ch)])) _
    refine XS.icmpYes X0.here hx rfl (pc0 := 15) (pc' := 24) rfl (hb hby d6_15) rfl (teq (show ch = (10 : Int32) from q2)).1 (by decide) (by decide) ?_
    refine XS.iconst X0.here hx rfl (hb hby d6_24) ?_
    refine XS.goto X0.here hx rfl (pc0 := 25) (pc' := 29) rfl (hb hby d6_25) (by decide) (by decide) ?_
    exact retN X0 hx (t := .boolean) Bd.returns (by simp) (hb hby d6_29) hr
  · show Qisb Z ch h0 n0 _ s₁.heap _
    rw [e0]
    exact ⟨by rw [own_bl1 (Or.inr (Or.inr (Or.inl q2)))], N0, rfl⟩
theorem d6_18 : decode prog_46_method_2_code 18 = .ok (.iload_n 0, 1) := by decide +kernel
theorem d6_19 : decode prog_46_method_2_code 19 = .ok (.bipush 13, 2) := by decide +kernel
theorem d6_21 : decode prog_46_method_2_code 21 = .ok (.if_icmp .ne 7, 3) := by decide +kernel
set_option maxRecDepth 65536 in
set_option maxHeartbeats 40000000 in
theorem isb3 (l : Launch) (Z : State) (a0 : Array Value) (hw : ∀ d ∈ tables_1, d.before a0 Z = true) (ws : List Jvm.Cond) (ch : Int32) (h0 : Heap) (n0 : Nat) (Z0 : n0 ≤ h0.size) (q0 : ¬ (ch = (32 : Int32))) (q1 : ¬ (ch = (9 : Int32))) (q2 : ¬ (ch = (10 : Int32))) (q3 : ch = (13 : Int32)) :
    MetFree l my1 (head1 (Jvm.Cond.code my1 prog_46_method_2_code 1 (some .boolean) :: ws) Rm_isb) (fun aa_ U => aa_ = #[(.int ch)] ∧ Z.Warmed39 U.vm ∧ U.heap = h0) (fun _ _ _ _ _ => True) (fun _ U oo_ U' => ∃ v L, oo_ = .returned v ∧ Qisb Z ch h0 n0 v U'.heap L ∧ FrameEnd U oo_ U' L Rm_isb.cells Rm_isb.slots) := by
  refine MetFree.of_bodySF (plainFor_of_name pn_1) hisR ?_
  intro p e s m args below meth c s₁ Bd hml0 hP hK
  obtain ⟨rfl, hZ, hh⟩ := hP
  have hx := Bd.exec
  have hby := Bd.bytes
  have hml : c.maxLocals = 1 := hml0
  have hown : s.vm.findClass "com/example/libsitemap/libsitemap/ValueText" = some m.cls := findClass_of_methodNamed Bd.named
  have hnm := (name_of_methodNamed Bd.named Bd.method).1
  have X0 : Stand p l e Rm_isb s m #[(.int ch)] below meth c s₁ [] 0 0 := Stand.of_body Bd
  have e0 : s₁.heap = h0 := by rw [← hh, Bd.state]; rfl
  have N0 := Fr.nil n0
  have pre0 : ∀ tt_, Steps p.tables e below (s₁.setTop (mkF m 0 #[.val (.int ch)] [])) tt_ → Steps p.tables e below (s₁.setTop (entryFrame m #[(.int ch)] 1)) tt_ := fun tt_ kk_ => castTop (ef_6 m ch) kk_
  obtain ⟨fs, hr, hrun, hended, hW, hsame⟩ := X0.leave (v := some (.int (1 : Int32))) (fun h => by rw [Bd.returns] at h; cases h)
  refine ⟨_, _, pre0 _ ?_, hrun, hended, _, _, rfl, ?_, ⟨_, rfl⟩, hW, hsame.mono (by decide) (by decide)⟩
  · show Steps p.tables e below (s₁.setTop (mkF m 0 #[.val (.int ch)] [])) _
    refine XS.iloadN X0.here hx rfl (hb hby d6_0) rfl ?_
    refine XS.bipush X0.here hx rfl (hb hby d6_1) ?_
    show Steps p.tables e below (s₁.setTop (mkF m 3 #[.val (.int ch)] [(.int (32 : Int32)), (.int ch)])) _
    refine XS.icmpNo X0.here hx rfl (hb hby d6_3) rfl (feq (show ¬ (ch = (32 : Int32)) from q0)).1 ?_
    refine XS.iloadN X0.here hx rfl (hb hby d6_6) rfl ?_
    refine XS.bipush X0.here hx rfl (hb hby d6_7) ?_
    show Steps p.tables e below (s₁.setTop (mkF m 9 #[.val (.int ch)] [(.int (9 : Int32)), (.int ch)])) _
    refine XS.icmpNo X0.here hx rfl (hb hby d6_9) rfl (feq (show ¬ (ch = (9 : Int32)) from q1)).1 ?_
    refine XS.iloadN X0.here hx rfl (hb hby d6_12) rfl ?_
    refine XS.bipush X0.here hx rfl (hb hby d6_13) ?_
    show Steps p.tables e below (s₁.setTop (mkF m 15 #[.val (.int ch)] [(.int (10 : Int32)), (.int ch)])) _
    refine XS.icmpNo X0.here hx rfl (hb hby d6_15) rfl (feq (show ¬ (ch = (10 : Int32)) from q2)).1 ?_
    refine XS.iloadN X0.here hx rfl (hb hby d6_18) rfl ?_
    refine XS.bipush X0.here hx rfl (hb hby d6_19) ?_
    show Steps p.tables e below (s₁.setTop (mkF m 21 #[.val (.int ch)] [(.int (13 : Int32)), (.int ch)])) _
    refine XS.icmpNo X0.here hx rfl (hb hby d6_21) rfl (teq (show ch = (13 : Int32) from q3)).2 ?_
    refine XS.iconst X0.here hx rfl (hb hby d6_24) ?_
    refine XS.goto X0.here hx rfl (pc0 := 25) (pc' := 29) rfl (hb hby d6_25) (by decide) (by decide) ?_
    exact retN X0 hx (t := .boolean) Bd.returns (by simp) (hb hby d6_29) hr
  · show Qisb Z ch h0 n0 _ s₁.heap _
    rw [e0]
    exact ⟨by rw [own_bl1 (Or.inr (Or.inr (Or.inr q3)))], N0, rfl⟩
theorem d6_28 : decode prog_46_method_2_code 28 = .ok (.iconst 0, 1) := by decide +kernel
set_option maxRecDepth 65536 in
set_option maxHeartbeats 40000000 in
theorem isb4 (l : Launch) (Z : State) (a0 : Array Value) (hw : ∀ d ∈ tables_1, d.before a0 Z = true) (ws : List Jvm.Cond) (ch : Int32) (h0 : Heap) (n0 : Nat) (Z0 : n0 ≤ h0.size) (q0 : ¬ (ch = (32 : Int32))) (q1 : ¬ (ch = (9 : Int32))) (q2 : ¬ (ch = (10 : Int32))) (q3 : ¬ (ch = (13 : Int32))) :
    MetFree l my1 (head1 (Jvm.Cond.code my1 prog_46_method_2_code 1 (some .boolean) :: ws) Rm_isb) (fun aa_ U => aa_ = #[(.int ch)] ∧ Z.Warmed39 U.vm ∧ U.heap = h0) (fun _ _ _ _ _ => True) (fun _ U oo_ U' => ∃ v L, oo_ = .returned v ∧ Qisb Z ch h0 n0 v U'.heap L ∧ FrameEnd U oo_ U' L Rm_isb.cells Rm_isb.slots) := by
  refine MetFree.of_bodySF (plainFor_of_name pn_1) hisR ?_
  intro p e s m args below meth c s₁ Bd hml0 hP hK
  obtain ⟨rfl, hZ, hh⟩ := hP
  have hx := Bd.exec
  have hby := Bd.bytes
  have hml : c.maxLocals = 1 := hml0
  have hown : s.vm.findClass "com/example/libsitemap/libsitemap/ValueText" = some m.cls := findClass_of_methodNamed Bd.named
  have hnm := (name_of_methodNamed Bd.named Bd.method).1
  have X0 : Stand p l e Rm_isb s m #[(.int ch)] below meth c s₁ [] 0 0 := Stand.of_body Bd
  have e0 : s₁.heap = h0 := by rw [← hh, Bd.state]; rfl
  have N0 := Fr.nil n0
  have pre0 : ∀ tt_, Steps p.tables e below (s₁.setTop (mkF m 0 #[.val (.int ch)] [])) tt_ → Steps p.tables e below (s₁.setTop (entryFrame m #[(.int ch)] 1)) tt_ := fun tt_ kk_ => castTop (ef_6 m ch) kk_
  obtain ⟨fs, hr, hrun, hended, hW, hsame⟩ := X0.leave (v := some (.int (0 : Int32))) (fun h => by rw [Bd.returns] at h; cases h)
  refine ⟨_, _, pre0 _ ?_, hrun, hended, _, _, rfl, ?_, ⟨_, rfl⟩, hW, hsame.mono (by decide) (by decide)⟩
  · show Steps p.tables e below (s₁.setTop (mkF m 0 #[.val (.int ch)] [])) _
    refine XS.iloadN X0.here hx rfl (hb hby d6_0) rfl ?_
    refine XS.bipush X0.here hx rfl (hb hby d6_1) ?_
    show Steps p.tables e below (s₁.setTop (mkF m 3 #[.val (.int ch)] [(.int (32 : Int32)), (.int ch)])) _
    refine XS.icmpNo X0.here hx rfl (hb hby d6_3) rfl (feq (show ¬ (ch = (32 : Int32)) from q0)).1 ?_
    refine XS.iloadN X0.here hx rfl (hb hby d6_6) rfl ?_
    refine XS.bipush X0.here hx rfl (hb hby d6_7) ?_
    show Steps p.tables e below (s₁.setTop (mkF m 9 #[.val (.int ch)] [(.int (9 : Int32)), (.int ch)])) _
    refine XS.icmpNo X0.here hx rfl (hb hby d6_9) rfl (feq (show ¬ (ch = (9 : Int32)) from q1)).1 ?_
    refine XS.iloadN X0.here hx rfl (hb hby d6_12) rfl ?_
    refine XS.bipush X0.here hx rfl (hb hby d6_13) ?_
    show Steps p.tables e below (s₁.setTop (mkF m 15 #[.val (.int ch)] [(.int (10 : Int32)), (.int ch)])) _
    refine XS.icmpNo X0.here hx rfl (hb hby d6_15) rfl (feq (show ¬ (ch = (10 : Int32)) from q2)).1 ?_
    refine XS.iloadN X0.here hx rfl (hb hby d6_18) rfl ?_
    refine XS.bipush X0.here hx rfl (hb hby d6_19) ?_
    show Steps p.tables e below (s₁.setTop (mkF m 21 #[.val (.int ch)] [(.int (13 : Int32)), (.int ch)])) _
    refine XS.icmpYes X0.here hx rfl (pc0 := 21) (pc' := 28) rfl (hb hby d6_21) rfl (feq (show ¬ (ch = (13 : Int32)) from q3)).2 (by decide) (by decide) ?_
    refine XS.iconst X0.here hx rfl (hb hby d6_28) ?_
    exact retN X0 hx (t := .boolean) Bd.returns (by simp) (hb hby d6_29) hr
  · show Qisb Z ch h0 n0 _ s₁.heap _
    rw [e0]
    exact ⟨by rw [own_bl0 q0 q1 q2 q3], N0, rfl⟩
theorem isb (l : Launch) (Z : State) (a0 : Array Value) (hw : ∀ d ∈ tables_1, d.before a0 Z = true) (ws : List Jvm.Cond) (ch : Int32) (h0 : Heap) (n0 : Nat) (Z0 : n0 ≤ h0.size) :
    MetFree l my1 (head1 (Jvm.Cond.code my1 prog_46_method_2_code 1 (some .boolean) :: ws) Rm_isb) (fun aa_ U => aa_ = #[(.int ch)] ∧ Z.Warmed39 U.vm ∧ U.heap = h0) (fun _ _ _ _ _ => True) (fun _ U oo_ U' => ∃ v L, oo_ = .returned v ∧ Qisb Z ch h0 n0 v U'.heap L ∧ FrameEnd U oo_ U' L Rm_isb.cells Rm_isb.slots) := by
  by_cases q0 : ch = (32 : Int32)
  · exact isb0 l Z a0 hw ws ch h0 n0 Z0  q0
  by_cases q1 : ch = (9 : Int32)
  · exact isb1 l Z a0 hw ws ch h0 n0 Z0  q0 q1
  by_cases q2 : ch = (10 : Int32)
  · exact isb2 l Z a0 hw ws ch h0 n0 Z0  q0 q1 q2
  by_cases q3 : ch = (13 : Int32)
  · exact isb3 l Z a0 hw ws ch h0 n0 Z0  q0 q1 q2 q3
  · exact isb4 l Z a0 hw ws ch h0 n0 Z0  q0 q1 q2 q3
theorem d18_0 : decode method_3_code 0 = .ok (.iload_n 0, 1) := by decide +kernel
theorem d18_1 : decode method_3_code 1 = .ok (.bipush 32, 2) := by decide +kernel
theorem d18_3 : decode method_3_code 3 = .ok (.if_icmp .eq 21, 3) := by decide +kernel
theorem d18_24 : decode method_3_code 24 = .ok (.iconst 1, 1) := by decide +kernel
theorem d18_25 : decode method_3_code 25 = .ok (.goto 4, 3) := by decide +kernel
theorem d18_29 : decode method_3_code 29 = .ok (.ireturn, 1) := by decide +kernel
theorem ef_18 (m : MethodId) (x0 : Int32) : entryFrame m #[(.int x0)] 1 = mkF m 0 #[.val (.int x0)] [] := by first | (simp [entryFrame, mkF, argsToLocals, Value.category]; done) | rfl
def Qbla (Z : State) (ch : Int32) (h0 : Heap) (n0 : Nat) (v : Option Value) (h : Heap) (L : List Loc) : Prop := v = some (.int (own_bl ch)) ∧ Fr n0 L ∧ h = h0
abbrev my2 : MethodName := ⟨"com/example/libsitemap/libsitemap/ValueTextClearPinLaw", "blank", "(C)Z"⟩
abbrev Rm_bla : Room := { frames := 0, cells := 0, slots := 0, locals := 0 }
set_option maxRecDepth 65536 in
set_option maxHeartbeats 40000000 in
theorem bla0 (l : Launch) (Z : State) (a0 : Array Value) (hw : ∀ d ∈ tables_1, d.before a0 Z = true) (ws : List Jvm.Cond) (ch : Int32) (h0 : Heap) (n0 : Nat) (Z0 : n0 ≤ h0.size) (q0 : ch = (32 : Int32)) :
    MetFree l my2 (head1 (Jvm.Cond.code my2 method_3_code 1 (some .boolean) :: ws) Rm_bla) (fun aa_ U => aa_ = #[(.int ch)] ∧ Z.Warmed39 U.vm ∧ U.heap = h0) (fun _ _ _ _ _ => True) (fun _ U oo_ U' => ∃ v L, oo_ = .returned v ∧ Qbla Z ch h0 n0 v U'.heap L ∧ FrameEnd U oo_ U' L Rm_bla.cells Rm_bla.slots) := by
  refine MetFree.of_bodySF (plainFor_of_name pn_0) hisR ?_
  intro p e s m args below meth c s₁ Bd hml0 hP hK
  obtain ⟨rfl, hZ, hh⟩ := hP
  have hx := Bd.exec
  have hby := Bd.bytes
  have hml : c.maxLocals = 1 := hml0
  have hown : s.vm.findClass "com/example/libsitemap/libsitemap/ValueTextClearPinLaw" = some m.cls := findClass_of_methodNamed Bd.named
  have hnm := (name_of_methodNamed Bd.named Bd.method).1
  have X0 : Stand p l e Rm_bla s m #[(.int ch)] below meth c s₁ [] 0 0 := Stand.of_body Bd
  have e0 : s₁.heap = h0 := by rw [← hh, Bd.state]; rfl
  have N0 := Fr.nil n0
  have pre0 : ∀ tt_, Steps p.tables e below (s₁.setTop (mkF m 0 #[.val (.int ch)] [])) tt_ → Steps p.tables e below (s₁.setTop (entryFrame m #[(.int ch)] 1)) tt_ := fun tt_ kk_ => castTop (ef_18 m ch) kk_
  obtain ⟨fs, hr, hrun, hended, hW, hsame⟩ := X0.leave (v := some (.int (1 : Int32))) (fun h => by rw [Bd.returns] at h; cases h)
  refine ⟨_, _, pre0 _ ?_, hrun, hended, _, _, rfl, ?_, ⟨_, rfl⟩, hW, hsame.mono (by decide) (by decide)⟩
  · show Steps p.tables e below (s₁.setTop (mkF m 0 #[.val (.int ch)] [])) _
    refine XS.iloadN X0.here hx rfl (hb hby d18_0) rfl ?_
    refine XS.bipush X0.here hx rfl (hb hby d18_1) ?_
    show Steps p.tables e below (s₁.setTop (mkF m 3 #[.val (.int ch)] [(.int (32 : Int32)), (.int ch)])) _
    refine XS.icmpYes X0.here hx rfl (pc0 := 3) (pc' := 24) rfl (hb hby d18_3) rfl (teq (show ch = (32 : Int32) from q0)).1 (by decide) (by decide) ?_
    refine XS.iconst X0.here hx rfl (hb hby d18_24) ?_
    refine XS.goto X0.here hx rfl (pc0 := 25) (pc' := 29) rfl (hb hby d18_25) (by decide) (by decide) ?_
    exact retN X0 hx (t := .boolean) Bd.returns (by simp) (hb hby d18_29) hr
  · show Qbla Z ch h0 n0 _ s₁.heap _
    rw [e0]
    exact ⟨by rw [own_bl1 (Or.inl q0)], N0, rfl⟩
theorem d18_6 : decode method_3_code 6 = .ok (.iload_n 0, 1) := by decide +kernel
theorem d18_7 : decode method_3_code 7 = .ok (.bipush 9, 2) := by decide +kernel
theorem d18_9 : decode method_3_code 9 = .ok (.if_icmp .eq 15, 3) := by decide +kernel
set_option maxRecDepth 65536 in
set_option maxHeartbeats 40000000 in
theorem bla1 (l : Launch) (Z : State) (a0 : Array Value) (hw : ∀ d ∈ tables_1, d.before a0 Z = true) (ws : List Jvm.Cond) (ch : Int32) (h0 : Heap) (n0 : Nat) (Z0 : n0 ≤ h0.size) (q0 : ¬ (ch = (32 : Int32))) (q1 : ch = (9 : Int32)) :
    MetFree l my2 (head1 (Jvm.Cond.code my2 method_3_code 1 (some .boolean) :: ws) Rm_bla) (fun aa_ U => aa_ = #[(.int ch)] ∧ Z.Warmed39 U.vm ∧ U.heap = h0) (fun _ _ _ _ _ => True) (fun _ U oo_ U' => ∃ v L, oo_ = .returned v ∧ Qbla Z ch h0 n0 v U'.heap L ∧ FrameEnd U oo_ U' L Rm_bla.cells Rm_bla.slots) := by
  refine MetFree.of_bodySF (plainFor_of_name pn_0) hisR ?_
  intro p e s m args below meth c s₁ Bd hml0 hP hK
  obtain ⟨rfl, hZ, hh⟩ := hP
  have hx := Bd.exec
  have hby := Bd.bytes
  have hml : c.maxLocals = 1 := hml0
  have hown : s.vm.findClass "com/example/libsitemap/libsitemap/ValueTextClearPinLaw" = some m.cls := findClass_of_methodNamed Bd.named
  have hnm := (name_of_methodNamed Bd.named Bd.method).1
  have X0 : Stand p l e Rm_bla s m #[(.int ch)] below meth c s₁ [] 0 0 := Stand.of_body Bd
  have e0 : s₁.heap = h0 := by rw [← hh, Bd.state]; rfl
  have N0 := Fr.nil n0
  have pre0 : ∀ tt_, Steps p.tables e below (s₁.setTop (mkF m 0 #[.val (.int ch)] [])) tt_ → Steps p.tables e below (s₁.setTop (entryFrame m #[(.int ch)] 1)) tt_ := fun tt_ kk_ => castTop (ef_18 m ch) kk_
  obtain ⟨fs, hr, hrun, hended, hW, hsame⟩ := X0.leave (v := some (.int (1 : Int32))) (fun h => by rw [Bd.returns] at h; cases h)
  refine ⟨_, _, pre0 _ ?_, hrun, hended, _, _, rfl, ?_, ⟨_, rfl⟩, hW, hsame.mono (by decide) (by decide)⟩
  · show Steps p.tables e below (s₁.setTop (mkF m 0 #[.val (.int ch)] [])) _
    refine XS.iloadN X0.here hx rfl (hb hby d18_0) rfl ?_
    refine XS.bipush X0.here hx rfl (hb hby d18_1) ?_
    show Steps p.tables e below (s₁.setTop (mkF m 3 #[.val (.int ch)] [(.int (32 : Int32)), (.int ch)])) _
    refine XS.icmpNo X0.here hx rfl (hb hby d18_3) rfl (feq (show ¬ (ch = (32 : Int32)) from q0)).1 ?_
    refine XS.iloadN X0.here hx rfl (hb hby d18_6) rfl ?_
    refine XS.bipush X0.here hx rfl (hb hby d18_7) ?_
    show Steps p.tables e below (s₁.setTop (mkF m 9 #[.val (.int ch)] [(.int (9 : Int32)), (.int ch)])) _
    refine XS.icmpYes X0.here hx rfl (pc0 := 9) (pc' := 24) rfl (hb hby d18_9) rfl (teq (show ch = (9 : Int32) from q1)).1 (by decide) (by decide) ?_
    refine XS.iconst X0.here hx rfl (hb hby d18_24) ?_
    refine XS.goto X0.here hx rfl (pc0 := 25) (pc' := 29) rfl (hb hby d18_25) (by decide) (by decide) ?_
    exact retN X0 hx (t := .boolean) Bd.returns (by simp) (hb hby d18_29) hr
  · show Qbla Z ch h0 n0 _ s₁.heap _
    rw [e0]
    exact ⟨by rw [own_bl1 (Or.inr (Or.inl q1))], N0, rfl⟩
theorem d18_12 : decode method_3_code 12 = .ok (.iload_n 0, 1) := by decide +kernel
theorem d18_13 : decode method_3_code 13 = .ok (.bipush 10, 2) := by decide +kernel
theorem d18_15 : decode method_3_code 15 = .ok (.if_icmp .eq 9, 3) := by decide +kernel
set_option maxRecDepth 65536 in
set_option maxHeartbeats 40000000 in
theorem bla2 (l : Launch) (Z : State) (a0 : Array Value) (hw : ∀ d ∈ tables_1, d.before a0 Z = true) (ws : List Jvm.Cond) (ch : Int32) (h0 : Heap) (n0 : Nat) (Z0 : n0 ≤ h0.size) (q0 : ¬ (ch = (32 : Int32))) (q1 : ¬ (ch = (9 : Int32))) (q2 : ch = (10 : Int32)) :
    MetFree l my2 (head1 (Jvm.Cond.code my2 method_3_code 1 (some .boolean) :: ws) Rm_bla) (fun aa_ U => aa_ = #[(.int ch)] ∧ Z.Warmed39 U.vm ∧ U.heap = h0) (fun _ _ _ _ _ => True) (fun _ U oo_ U' => ∃ v L, oo_ = .returned v ∧ Qbla Z ch h0 n0 v U'.heap L ∧ FrameEnd U oo_ U' L Rm_bla.cells Rm_bla.slots) := by
  refine MetFree.of_bodySF (plainFor_of_name pn_0) hisR ?_
  intro p e s m args below meth c s₁ Bd hml0 hP hK
  obtain ⟨rfl, hZ, hh⟩ := hP
  have hx := Bd.exec
  have hby := Bd.bytes
  have hml : c.maxLocals = 1 := hml0
  have hown : s.vm.findClass "com/example/libsitemap/libsitemap/ValueTextClearPinLaw" = some m.cls := findClass_of_methodNamed Bd.named
  have hnm := (name_of_methodNamed Bd.named Bd.method).1
  have X0 : Stand p l e Rm_bla s m #[(.int ch)] below meth c s₁ [] 0 0 := Stand.of_body Bd
  have e0 : s₁.heap = h0 := by rw [← hh, Bd.state]; rfl
  have N0 := Fr.nil n0
  have pre0 : ∀ tt_, Steps p.tables e below (s₁.setTop (mkF m 0 #[.val (.int ch)] [])) tt_ → Steps p.tables e below (s₁.setTop (entryFrame m #[(.int ch)] 1)) tt_ := fun tt_ kk_ => castTop (ef_18 m ch) kk_
  obtain ⟨fs, hr, hrun, hended, hW, hsame⟩ := X0.leave (v := some (.int (1 : Int32))) (fun h => by rw [Bd.returns] at h; cases h)
  refine ⟨_, _, pre0 _ ?_, hrun, hended, _, _, rfl, ?_, ⟨_, rfl⟩, hW, hsame.mono (by decide) (by decide)⟩
  · show Steps p.tables e below (s₁.setTop (mkF m 0 #[.val (.int ch)] [])) _
    refine XS.iloadN X0.here hx rfl (hb hby d18_0) rfl ?_
    refine XS.bipush X0.here hx rfl (hb hby d18_1) ?_
    show Steps p.tables e below (s₁.setTop (mkF m 3 #[.val (.int ch)] [(.int (32 : Int32)), (.int ch)])) _
    refine XS.icmpNo X0.here hx rfl (hb hby d18_3) rfl (feq (show ¬ (ch = (32 : Int32)) from q0)).1 ?_
    refine XS.iloadN X0.here hx rfl (hb hby d18_6) rfl ?_
    refine XS.bipush X0.here hx rfl (hb hby d18_7) ?_
    show Steps p.tables e below (s₁.setTop (mkF m 9 #[.val (.int ch)] [(.int (9 : Int32)), (.int ch)])) _
    refine XS.icmpNo X0.here hx rfl (hb hby d18_9) rfl (feq (show ¬ (ch = (9 : Int32)) from q1)).1 ?_
    refine XS.iloadN X0.here hx rfl (hb hby d18_12) rfl ?_
    refine XS.bipush X0.here hx rfl (hb hby d18_13) ?_
    show Steps p.tables e below (s₁.setTop (mkF m 15 #[.val (.int ch)] [(.int (10 : Int32)), (.int ch)])) _
    refine XS.icmpYes X0.here hx rfl (pc0 := 15) (pc' := 24) rfl (hb hby d18_15) rfl (teq (show ch = (10 : Int32) from q2)).1 (by decide) (by decide) ?_
    refine XS.iconst X0.here hx rfl (hb hby d18_24) ?_
    refine XS.goto X0.here hx rfl (pc0 := 25) (pc' := 29) rfl (hb hby d18_25) (by decide) (by decide) ?_
    exact retN X0 hx (t := .boolean) Bd.returns (by simp) (hb hby d18_29) hr
  · show Qbla Z ch h0 n0 _ s₁.heap _
    rw [e0]
    exact ⟨by rw [own_bl1 (Or.inr (Or.inr (Or.inl q2)))], N0, rfl⟩
theorem d18_18 : decode method_3_code 18 = .ok (.iload_n 0, 1) := by decide +kernel
theorem d18_19 : decode method_3_code 19 = .ok (.bipush 13, 2) := by decide +kernel
theorem d18_21 : decode method_3_code 21 = .ok (.if_icmp .ne 7, 3) := by decide +kernel
set_option maxRecDepth 65536 in
set_option maxHeartbeats 40000000 in
theorem bla3 (l : Launch) (Z : State) (a0 : Array Value) (hw : ∀ d ∈ tables_1, d.before a0 Z = true) (ws : List Jvm.Cond) (ch : Int32) (h0 : Heap) (n0 : Nat) (Z0 : n0 ≤ h0.size) (q0 : ¬ (ch = (32 : Int32))) (q1 : ¬ (ch = (9 : Int32))) (q2 : ¬ (ch = (10 : Int32))) (q3 : ch = (13 : Int32)) :
    MetFree l my2 (head1 (Jvm.Cond.code my2 method_3_code 1 (some .boolean) :: ws) Rm_bla) (fun aa_ U => aa_ = #[(.int ch)] ∧ Z.Warmed39 U.vm ∧ U.heap = h0) (fun _ _ _ _ _ => True) (fun _ U oo_ U' => ∃ v L, oo_ = .returned v ∧ Qbla Z ch h0 n0 v U'.heap L ∧ FrameEnd U oo_ U' L Rm_bla.cells Rm_bla.slots) := by
  refine MetFree.of_bodySF (plainFor_of_name pn_0) hisR ?_
  intro p e s m args below meth c s₁ Bd hml0 hP hK
  obtain ⟨rfl, hZ, hh⟩ := hP
  have hx := Bd.exec
  have hby := Bd.bytes
  have hml : c.maxLocals = 1 := hml0
  have hown : s.vm.findClass "com/example/libsitemap/libsitemap/ValueTextClearPinLaw" = some m.cls := findClass_of_methodNamed Bd.named
  have hnm := (name_of_methodNamed Bd.named Bd.method).1
  have X0 : Stand p l e Rm_bla s m #[(.int ch)] below meth c s₁ [] 0 0 := Stand.of_body Bd
  have e0 : s₁.heap = h0 := by rw [← hh, Bd.state]; rfl
  have N0 := Fr.nil n0
  have pre0 : ∀ tt_, Steps p.tables e below (s₁.setTop (mkF m 0 #[.val (.int ch)] [])) tt_ → Steps p.tables e below (s₁.setTop (entryFrame m #[(.int ch)] 1)) tt_ := fun tt_ kk_ => castTop (ef_18 m ch) kk_
  obtain ⟨fs, hr, hrun, hended, hW, hsame⟩ := X0.leave (v := some (.int (1 : Int32))) (fun h => by rw [Bd.returns] at h; cases h)
  refine ⟨_, _, pre0 _ ?_, hrun, hended, _, _, rfl, ?_, ⟨_, rfl⟩, hW, hsame.mono (by decide) (by decide)⟩
  · show Steps p.tables e below (s₁.setTop (mkF m 0 #[.val (.int ch)] [])) _
    refine XS.iloadN X0.here hx rfl (hb hby d18_0) rfl ?_
    refine XS.bipush X0.here hx rfl (hb hby d18_1) ?_
    show Steps p.tables e below (s₁.setTop (mkF m 3 #[.val (.int ch)] [(.int (32 : Int32)), (.int ch)])) _
    refine XS.icmpNo X0.here hx rfl (hb hby d18_3) rfl (feq (show ¬ (ch = (32 : Int32)) from q0)).1 ?_
    refine XS.iloadN X0.here hx rfl (hb hby d18_6) rfl ?_
    refine XS.bipush X0.here hx rfl (hb hby d18_7) ?_
    show Steps p.tables e below (s₁.setTop (mkF m 9 #[.val (.int ch)] [(.int (9 : Int32)), (.int ch)])) _
    refine XS.icmpNo X0.here hx rfl (hb hby d18_9) rfl (feq (show ¬ (ch = (9 : Int32)) from q1)).1 ?_
    refine XS.iloadN X0.here hx rfl (hb hby d18_12) rfl ?_
    refine XS.bipush X0.here hx rfl (hb hby d18_13) ?_
    show Steps p.tables e below (s₁.setTop (mkF m 15 #[.val (.int ch)] [(.int (10 : Int32)), (.int ch)])) _
    refine XS.icmpNo X0.here hx rfl (hb hby d18_15) rfl (feq (show ¬ (ch = (10 : Int32)) from q2)).1 ?_
    refine XS.iloadN X0.here hx rfl (hb hby d18_18) rfl ?_
    refine XS.bipush X0.here hx rfl (hb hby d18_19) ?_
    show Steps p.tables e below (s₁.setTop (mkF m 21 #[.val (.int ch)] [(.int (13 : Int32)), (.int ch)])) _
    refine XS.icmpNo X0.here hx rfl (hb hby d18_21) rfl (teq (show ch = (13 : Int32) from q3)).2 ?_
    refine XS.iconst X0.here hx rfl (hb hby d18_24) ?_
    refine XS.goto X0.here hx rfl (pc0 := 25) (pc' := 29) rfl (hb hby d18_25) (by decide) (by decide) ?_
    exact retN X0 hx (t := .boolean) Bd.returns (by simp) (hb hby d18_29) hr
  · show Qbla Z ch h0 n0 _ s₁.heap _
    rw [e0]
    exact ⟨by rw [own_bl1 (Or.inr (Or.inr (Or.inr q3)))], N0, rfl⟩
theorem d18_28 : decode method_3_code 28 = .ok (.iconst 0, 1) := by decide +kernel
set_option maxRecDepth 65536 in
set_option maxHeartbeats 40000000 in
theorem bla4 (l : Launch) (Z : State) (a0 : Array Value) (hw : ∀ d ∈ tables_1, d.before a0 Z = true) (ws : List Jvm.Cond) (ch : Int32) (h0 : Heap) (n0 : Nat) (Z0 : n0 ≤ h0.size) (q0 : ¬ (ch = (32 : Int32))) (q1 : ¬ (ch = (9 : Int32))) (q2 : ¬ (ch = (10 : Int32))) (q3 : ¬ (ch = (13 : Int32))) :
    MetFree l my2 (head1 (Jvm.Cond.code my2 method_3_code 1 (some .boolean) :: ws) Rm_bla) (fun aa_ U => aa_ = #[(.int ch)] ∧ Z.Warmed39 U.vm ∧ U.heap = h0) (fun _ _ _ _ _ => True) (fun _ U oo_ U' => ∃ v L, oo_ = .returned v ∧ Qbla Z ch h0 n0 v U'.heap L ∧ FrameEnd U oo_ U' L Rm_bla.cells Rm_bla.slots) := by
  refine MetFree.of_bodySF (plainFor_of_name pn_0) hisR ?_
  intro p e s m args below meth c s₁ Bd hml0 hP hK
  obtain ⟨rfl, hZ, hh⟩ := hP
  have hx := Bd.exec
  have hby := Bd.bytes
  have hml : c.maxLocals = 1 := hml0
  have hown : s.vm.findClass "com/example/libsitemap/libsitemap/ValueTextClearPinLaw" = some m.cls := findClass_of_methodNamed Bd.named
  have hnm := (name_of_methodNamed Bd.named Bd.method).1
  have X0 : Stand p l e Rm_bla s m #[(.int ch)] below meth c s₁ [] 0 0 := Stand.of_body Bd
  have e0 : s₁.heap = h0 := by rw [← hh, Bd.state]; rfl
  have N0 := Fr.nil n0
  have pre0 : ∀ tt_, Steps p.tables e below (s₁.setTop (mkF m 0 #[.val (.int ch)] [])) tt_ → Steps p.tables e below (s₁.setTop (entryFrame m #[(.int ch)] 1)) tt_ := fun tt_ kk_ => castTop (ef_18 m ch) kk_
  obtain ⟨fs, hr, hrun, hended, hW, hsame⟩ := X0.leave (v := some (.int (0 : Int32))) (fun h => by rw [Bd.returns] at h; cases h)
  refine ⟨_, _, pre0 _ ?_, hrun, hended, _, _, rfl, ?_, ⟨_, rfl⟩, hW, hsame.mono (by decide) (by decide)⟩
  · show Steps p.tables e below (s₁.setTop (mkF m 0 #[.val (.int ch)] [])) _
    refine XS.iloadN X0.here hx rfl (hb hby d18_0) rfl ?_
    refine XS.bipush X0.here hx rfl (hb hby d18_1) ?_
    show Steps p.tables e below (s₁.setTop (mkF m 3 #[.val (.int ch)] [(.int (32 : Int32)), (.int ch)])) _
    refine XS.icmpNo X0.here hx rfl (hb hby d18_3) rfl (feq (show ¬ (ch = (32 : Int32)) from q0)).1 ?_
    refine XS.iloadN X0.here hx rfl (hb hby d18_6) rfl ?_
    refine XS.bipush X0.here hx rfl (hb hby d18_7) ?_
    show Steps p.tables e below (s₁.setTop (mkF m 9 #[.val (.int ch)] [(.int (9 : Int32)), (.int ch)])) _
    refine XS.icmpNo X0.here hx rfl (hb hby d18_9) rfl (feq (show ¬ (ch = (9 : Int32)) from q1)).1 ?_
    refine XS.iloadN X0.here hx rfl (hb hby d18_12) rfl ?_
    refine XS.bipush X0.here hx rfl (hb hby d18_13) ?_
    show Steps p.tables e below (s₁.setTop (mkF m 15 #[.val (.int ch)] [(.int (10 : Int32)), (.int ch)])) _
    refine XS.icmpNo X0.here hx rfl (hb hby d18_15) rfl (feq (show ¬ (ch = (10 : Int32)) from q2)).1 ?_
    refine XS.iloadN X0.here hx rfl (hb hby d18_18) rfl ?_
    refine XS.bipush X0.here hx rfl (hb hby d18_19) ?_
    show Steps p.tables e below (s₁.setTop (mkF m 21 #[.val (.int ch)] [(.int (13 : Int32)), (.int ch)])) _
    refine XS.icmpYes X0.here hx rfl (pc0 := 21) (pc' := 28) rfl (hb hby d18_21) rfl (feq (show ¬ (ch = (13 : Int32)) from q3)).2 (by decide) (by decide) ?_
    refine XS.iconst X0.here hx rfl (hb hby d18_28) ?_
    exact retN X0 hx (t := .boolean) Bd.returns (by simp) (hb hby d18_29) hr
  · show Qbla Z ch h0 n0 _ s₁.heap _
    rw [e0]
    exact ⟨by rw [own_bl0 q0 q1 q2 q3], N0, rfl⟩
theorem bla (l : Launch) (Z : State) (a0 : Array Value) (hw : ∀ d ∈ tables_1, d.before a0 Z = true) (ws : List Jvm.Cond) (ch : Int32) (h0 : Heap) (n0 : Nat) (Z0 : n0 ≤ h0.size) :
    MetFree l my2 (head1 (Jvm.Cond.code my2 method_3_code 1 (some .boolean) :: ws) Rm_bla) (fun aa_ U => aa_ = #[(.int ch)] ∧ Z.Warmed39 U.vm ∧ U.heap = h0) (fun _ _ _ _ _ => True) (fun _ U oo_ U' => ∃ v L, oo_ = .returned v ∧ Qbla Z ch h0 n0 v U'.heap L ∧ FrameEnd U oo_ U' L Rm_bla.cells Rm_bla.slots) := by
  by_cases q0 : ch = (32 : Int32)
  · exact bla0 l Z a0 hw ws ch h0 n0 Z0  q0
  by_cases q1 : ch = (9 : Int32)
  · exact bla1 l Z a0 hw ws ch h0 n0 Z0  q0 q1
  by_cases q2 : ch = (10 : Int32)
  · exact bla2 l Z a0 hw ws ch h0 n0 Z0  q0 q1 q2
  by_cases q3 : ch = (13 : Int32)
  · exact bla3 l Z a0 hw ws ch h0 n0 Z0  q0 q1 q2 q3
  · exact bla4 l Z a0 hw ws ch h0 n0 Z0  q0 q1 q2 q3
theorem hwd24 {Z : State} {a0 : Array Value} (hw : ∀ d ∈ tables_1, d.before a0 Z = true) : (Jvm.Cond.fieldLink "com/example/libsitemap/libsitemap/FieldFormat$TextLimit" (31 : Nat) "com/example/libsitemap/libsitemap/FieldFormat$TextLimit" "chars" "I").before a0 Z = true := hw _ (List.mem_of_getElem? (i := 24) rfl)
theorem d4_0 : decode prog_18_method_4_code 0 = .ok (.aload_n 0, 1) := by decide +kernel
theorem d4_1 : decode prog_18_method_4_code 1 = .ok (.getfield 31, 3) := by decide +kernel
theorem d4_4 : decode prog_18_method_4_code 4 = .ok (.ireturn, 1) := by decide +kernel
theorem pn_2 : plainName "com/example/libsitemap/libsitemap/FieldFormat$TextLimit" = true := by first | (simp [plainName, overriddenIn]; done) | decide +kernel
theorem ef_4 (m : MethodId) (x0 : Addr) : entryFrame m #[(.ref x0)] 1 = mkF m 0 #[.val (.ref x0)] [] := by first | (simp [entryFrame, mkF, argsToLocals, Value.category]; done) | rfl
def Qchars (Z : State) (lim : Addr) (kc : Int32) (h0 : Heap) (n0 : Nat) (v : Option Value) (h : Heap) (L : List Loc) : Prop := v = some (.int kc) ∧ Fr n0 L ∧ h = h0
abbrev my3 : MethodName := ⟨"com/example/libsitemap/libsitemap/FieldFormat$TextLimit", "chars", "()I"⟩
abbrev Rm_chars : Room := { frames := 0, cells := 0, slots := 0, locals := 0 }
set_option maxRecDepth 65536 in
set_option maxHeartbeats 40000000 in
theorem chars (l : Launch) (Z : State) (a0 : Array Value) (hw : ∀ d ∈ tables_1, d.before a0 Z = true) (ws : List Jvm.Cond) (lim : Addr) (kc : Int32) (h0 : Heap) (n0 : Nat) (Z0 : n0 ≤ h0.size) (F_chars_lim : Fld Z h0 lim "com/example/libsitemap/libsitemap/FieldFormat$TextLimit" "chars" "I" (.int kc)) :
    MetFree l my3 (head1 (Jvm.Cond.code my3 prog_18_method_4_code 1 (some .int) :: ws) Rm_chars) (fun aa_ U => aa_ = #[(.ref lim)] ∧ Z.Warmed39 U.vm ∧ U.heap = h0) (fun _ _ _ _ _ => True) (fun _ U oo_ U' => ∃ v L, oo_ = .returned v ∧ Qchars Z lim kc h0 n0 v U'.heap L ∧ FrameEnd U oo_ U' L Rm_chars.cells Rm_chars.slots) := by
  refine MetFree.of_bodySF (plainFor_of_name pn_2) hisR ?_
  intro p e s m args below meth c s₁ Bd hml0 hP hK
  obtain ⟨rfl, hZ, hh⟩ := hP
  have hx := Bd.exec
  have hby := Bd.bytes
  have hml : c.maxLocals = 1 := hml0
  have hown : s.vm.findClass "com/example/libsitemap/libsitemap/FieldFormat$TextLimit" = some m.cls := findClass_of_methodNamed Bd.named
  have hnm := (name_of_methodNamed Bd.named Bd.method).1
  have X0 : Stand p l e Rm_chars s m #[(.ref lim)] below meth c s₁ [] 0 0 := Stand.of_body Bd
  have e0 : s₁.heap = h0 := by rw [← hh, Bd.state]; rfl
  have N0 := Fr.nil n0
  have pre0 : ∀ tt_, Steps p.tables e below (s₁.setTop (mkF m 0 #[.val (.ref lim)] [])) tt_ → Steps p.tables e below (s₁.setTop (entryFrame m #[(.ref lim)] 1)) tt_ := fun tt_ kk_ => castTop (ef_4 m lim) kk_
  obtain ⟨T1, X1, e1, st1⟩ := getF X0 hx hZ hown (host := "") (Or.inl (hwd24 hw)) Via.refl e0 F_chars_lim (g := (mkF m 1 #[.val (.ref lim)] [(.ref lim)])) rfl rfl (hb hby d4_1)
  obtain ⟨fs, hr, hrun, hended, hW, hsame⟩ := X1.leave (v := some (.int kc)) (fun h => by rw [Bd.returns] at h; cases h)
  refine ⟨_, _, pre0 _ ?_, hrun, hended, _, _, rfl, ?_, ⟨_, rfl⟩, hW, hsame.mono (by decide) (by decide)⟩
  · show Steps p.tables e below (s₁.setTop (mkF m 0 #[.val (.ref lim)] [])) _
    refine XS.aloadN X0.here hx rfl (hb hby d4_0) rfl rfl ?_
    refine st1 _ ?_
    exact retI X1 hx Bd.returns (hb hby d4_4) hr
  · show Qchars Z lim kc h0 n0 _ T1.heap _
    rw [e1]
    exact ⟨rfl, N0, rfl⟩
theorem hwd13 {Z : State} {a0 : Array Value} (hw : ∀ d ∈ tables_1, d.before a0 Z = true) : (Jvm.Cond.methodLink "com/example/libsitemap/libsitemap/ValueText" (1 : Nat) ({ cls := "java/lang/Object", name := "<init>", desc := "()V" } : Jvm.MethodName)).before a0 Z = true := hw _ (List.mem_of_getElem? (i := 13) rfl)
theorem hwd14 {Z : State} {a0 : Array Value} (hw : ∀ d ∈ tables_1, d.before a0 Z = true) : (Jvm.Cond.instanceMethod ({ cls := "java/lang/Object", name := "<init>", desc := "()V" } : Jvm.MethodName)).before a0 Z = true := hw _ (List.mem_of_getElem? (i := 14) rfl)
theorem hwd15 {Z : State} {a0 : Array Value} (hw : ∀ d ∈ tables_1, d.before a0 Z = true) : (Jvm.Cond.code ({ cls := "java/lang/Object", name := "<init>", desc := "()V" } : Jvm.MethodName) object_method_1_code (1 : Nat) (Option.none : Option Jvm.ClassFile.FieldType)).before a0 Z = true := hw _ (List.mem_of_getElem? (i := 15) rfl)
theorem hwd16 {Z : State} {a0 : Array Value} (hw : ∀ d ∈ tables_1, d.before a0 Z = true) : (Jvm.Cond.arrayClass Jvm.ClassFile.FieldType.char).before a0 Z = true := hw _ (List.mem_of_getElem? (i := 16) rfl)
theorem hwd17 {Z : State} {a0 : Array Value} (hw : ∀ d ∈ tables_1, d.before a0 Z = true) : (Jvm.Cond.fieldLink "com/example/libsitemap/libsitemap/ValueText" (9 : Nat) "com/example/libsitemap/libsitemap/ValueText" "kept" "[C").before a0 Z = true := hw _ (List.mem_of_getElem? (i := 17) rfl)
theorem hwd18 {Z : State} {a0 : Array Value} (hw : ∀ d ∈ tables_1, d.before a0 Z = true) : (Jvm.Cond.lays "com/example/libsitemap/libsitemap/ValueText" "com/example/libsitemap/libsitemap/ValueText" "kept" "[C").before a0 Z = true := hw _ (List.mem_of_getElem? (i := 18) rfl)
theorem hwd8 {Z : State} {a0 : Array Value} (hw : ∀ d ∈ tables_1, d.before a0 Z = true) : (Jvm.Cond.instantiable "com/example/libsitemap/libsitemap/ValueText" (5 : Nat)).before a0 Z = true := hw _ (List.mem_of_getElem? (i := 8) rfl)
theorem hwd19 {Z : State} {a0 : Array Value} (hw : ∀ d ∈ tables_1, d.before a0 Z = true) : (Jvm.Cond.methodLink "com/example/libsitemap/libsitemap/ValueText" (13 : Nat) ({ cls := "com/example/libsitemap/libsitemap/FieldFormat$TextLimit", name := "chars", desc := "()I" } : Jvm.MethodName)).before a0 Z = true := hw _ (List.mem_of_getElem? (i := 19) rfl)
theorem hwd23 {Z : State} {a0 : Array Value} (hw : ∀ d ∈ tables_1, d.before a0 Z = true) : (Jvm.Cond.code ({ cls := "com/example/libsitemap/libsitemap/FieldFormat$TextLimit", name := "chars", desc := "()I" } : Jvm.MethodName) prog_18_method_4_code (1 : Nat) (Option.some Jvm.ClassFile.FieldType.int)).before a0 Z = true := hw _ (List.mem_of_getElem? (i := 23) rfl)
theorem hwd1 {Z : State} {a0 : Array Value} (hw : ∀ d ∈ tables_1, d.before a0 Z = true) : (Jvm.Cond.initialized "com/example/libsitemap/libsitemap/FieldFormat$TextLimit").before a0 Z = true := hw _ (List.mem_of_getElem? (i := 1) rfl)
theorem pd_0 : parseMethodDescriptor "()I" = some ⟨[], some .int⟩ := by decide +kernel
theorem hwd22 {Z : State} {a0 : Array Value} (hw : ∀ d ∈ tables_1, d.before a0 Z = true) : (Jvm.Cond.selects "com/example/libsitemap/libsitemap/FieldFormat$TextLimit" ({ cls := "com/example/libsitemap/libsitemap/FieldFormat$TextLimit", name := "chars", desc := "()I" } : Jvm.MethodName) ({ cls := "com/example/libsitemap/libsitemap/FieldFormat$TextLimit", name := "chars", desc := "()I" } : Jvm.MethodName)).before a0 Z = true := hw _ (List.mem_of_getElem? (i := 22) rfl)
theorem hwd20 {Z : State} {a0 : Array Value} (hw : ∀ d ∈ tables_1, d.before a0 Z = true) : (Jvm.Cond.declares ({ cls := "com/example/libsitemap/libsitemap/FieldFormat$TextLimit", name := "chars", desc := "()I" } : Jvm.MethodName)).before a0 Z = true := hw _ (List.mem_of_getElem? (i := 20) rfl)
theorem hwd21 {Z : State} {a0 : Array Value} (hw : ∀ d ∈ tables_1, d.before a0 Z = true) : (Jvm.Cond.instanceMethod ({ cls := "com/example/libsitemap/libsitemap/FieldFormat$TextLimit", name := "chars", desc := "()I" } : Jvm.MethodName)).before a0 Z = true := hw _ (List.mem_of_getElem? (i := 21) rfl)
theorem hwd26 {Z : State} {a0 : Array Value} (hw : ∀ d ∈ tables_1, d.before a0 Z = true) : (Jvm.Cond.fieldLink "com/example/libsitemap/libsitemap/ValueText" (19 : Nat) "com/example/libsitemap/libsitemap/ValueText" "keptChars" "I").before a0 Z = true := hw _ (List.mem_of_getElem? (i := 26) rfl)
theorem hwd27 {Z : State} {a0 : Array Value} (hw : ∀ d ∈ tables_1, d.before a0 Z = true) : (Jvm.Cond.laysFinal "com/example/libsitemap/libsitemap/ValueText" "com/example/libsitemap/libsitemap/ValueText" "keptChars" "I").before a0 Z = true := hw _ (List.mem_of_getElem? (i := 27) rfl)
theorem d2_0 : decode prog_46_method_1_code 0 = .ok (.aload_n 0, 1) := by decide +kernel
theorem d2_1 : decode prog_46_method_1_code 1 = .ok (.invokespecial 1, 3) := by decide +kernel
theorem d2_4 : decode prog_46_method_1_code 4 = .ok (.aload_n 0, 1) := by decide +kernel
theorem d2_5 : decode prog_46_method_1_code 5 = .ok (.bipush 64, 2) := by decide +kernel
theorem d2_7 : decode prog_46_method_1_code 7 = .ok (.newarray .char, 2) := by decide +kernel
theorem d2_9 : decode prog_46_method_1_code 9 = .ok (.putfield 9, 3) := by decide +kernel
theorem d2_12 : decode prog_46_method_1_code 12 = .ok (.aload_n 0, 1) := by decide +kernel
theorem d2_13 : decode prog_46_method_1_code 13 = .ok (.aload_n 1, 1) := by decide +kernel
theorem d2_14 : decode prog_46_method_1_code 14 = .ok (.invokevirtual 13, 3) := by decide +kernel
theorem d2_17 : decode prog_46_method_1_code 17 = .ok (.iconst 1, 1) := by decide +kernel
theorem d2_18 : decode prog_46_method_1_code 18 = .ok (.iadd, 1) := by decide +kernel
theorem d2_19 : decode prog_46_method_1_code 19 = .ok (.putfield 19, 3) := by decide +kernel
theorem d2_22 : decode prog_46_method_1_code 22 = .ok (.return_, 1) := by decide +kernel
theorem ef_2 (m : MethodId) (x0 : Addr) (x1 : Addr) : entryFrame m #[(.ref x0), (.ref x1)] 2 = mkF m 0 #[.val (.ref x0), .val (.ref x1)] [] := by first | (simp [entryFrame, mkF, argsToLocals, Value.category]; done) | rfl
theorem hwd44 {Z : State} {a0 : Array Value} (hw : ∀ d ∈ tables_1, d.before a0 Z = true) : (Jvm.Cond.lays "com/example/libsitemap/libsitemap/ValueText" "com/example/libsitemap/libsitemap/ValueText" "keptLength" "I").before a0 Z = true := hw _ (List.mem_of_getElem? (i := 44) rfl)
theorem hwd37 {Z : State} {a0 : Array Value} (hw : ∀ d ∈ tables_1, d.before a0 Z = true) : (Jvm.Cond.lays "com/example/libsitemap/libsitemap/ValueText" "com/example/libsitemap/libsitemap/ValueText" "length" "J").before a0 Z = true := hw _ (List.mem_of_getElem? (i := 37) rfl)
theorem hwd46 {Z : State} {a0 : Array Value} (hw : ∀ d ∈ tables_1, d.before a0 Z = true) : (Jvm.Cond.lays "com/example/libsitemap/libsitemap/ValueText" "com/example/libsitemap/libsitemap/ValueText" "valueLength" "J").before a0 Z = true := hw _ (List.mem_of_getElem? (i := 46) rfl)
def Qini (Z : State) (a : Addr) (lim : Addr) (kc : Int32) (h0 : Heap) (n0 : Nat) (v : Option Value) (h : Heap) (L : List Loc) : Prop := ∃ ar : Addr, v = none ∧ Fr n0 L ∧ Keep h0 h [a] ∧ Exa Z h a "com/example/libsitemap/libsitemap/ValueText" ∧ Fld Z h a "com/example/libsitemap/libsitemap/ValueText" "kept" "[C" (.ref ar) ∧ Fld Z h a "com/example/libsitemap/libsitemap/ValueText" "keptChars" "I" (.int (kc + (1 : Int32))) ∧ Fld Z h a "com/example/libsitemap/libsitemap/ValueText" "keptLength" "I" (.int (0 : Int32)) ∧ Fld Z h a "com/example/libsitemap/libsitemap/ValueText" "length" "J" (.long (0 : Int64)) ∧ Fld Z h a "com/example/libsitemap/libsitemap/ValueText" "valueLength" "J" (.long (0 : Int64)) ∧ Av Z h ar .char 64 (fun _ => (.int (0 : Int32))) ∧ h0.size ≤ ar ∧ n0 ≤ ar ∧ a ≠ ar
abbrev my4 : MethodName := ⟨"com/example/libsitemap/libsitemap/ValueText", "<init>", "(Lcom/example/libsitemap/libsitemap/FieldFormat$TextLimit;)V"⟩
abbrev Rm_ini : Room := { frames := 1, cells := 1, slots := 64, locals := 13 }
set_option maxRecDepth 65536 in
set_option maxHeartbeats 40000000 in
theorem ini (l : Launch) (Z : State) (a0 : Array Value) (hw : ∀ d ∈ tables_1, d.before a0 Z = true) (ws : List Jvm.Cond) (a : Addr) (lim : Addr) (kc : Int32) (h0 : Heap) (n0 : Nat) (Z0 : n0 ≤ h0.size) (E_a : Exa Z h0 a "com/example/libsitemap/libsitemap/ValueText") (F_kept_a : Fld Z h0 a "com/example/libsitemap/libsitemap/ValueText" "kept" "[C" .null) (F_keptChars_a : Fld Z h0 a "com/example/libsitemap/libsitemap/ValueText" "keptChars" "I" (.int (0 : Int32))) (F_keptLength_a : Fld Z h0 a "com/example/libsitemap/libsitemap/ValueText" "keptLength" "I" (.int (0 : Int32))) (F_length_a : Fld Z h0 a "com/example/libsitemap/libsitemap/ValueText" "length" "J" (.long (0 : Int64))) (F_valueLength_a : Fld Z h0 a "com/example/libsitemap/libsitemap/ValueText" "valueLength" "J" (.long (0 : Int64))) (E_lim : Exa Z h0 lim "com/example/libsitemap/libsitemap/FieldFormat$TextLimit") (F_chars_lim : Fld Z h0 lim "com/example/libsitemap/libsitemap/FieldFormat$TextLimit" "chars" "I" (.int kc)) (g_a : n0 ≤ a) (ne_a_lim : a ≠ lim) :
    MetFree l my4 (head1 (Jvm.Cond.code my4 prog_46_method_1_code 2 none :: ws) Rm_ini) (fun aa_ U => aa_ = #[(.ref a), (.ref lim)] ∧ Z.Warmed39 U.vm ∧ U.heap = h0) (fun _ _ _ _ _ => True) (fun _ U oo_ U' => ∃ v L, oo_ = .returned v ∧ Qini Z a lim kc h0 n0 v U'.heap L ∧ FrameEnd U oo_ U' L Rm_ini.cells Rm_ini.slots) := by
  refine MetFree.of_bodySF (plainFor_of_name pn_1) hisR ?_
  intro p e s m args below meth c s₁ Bd hml0 hP hK
  obtain ⟨rfl, hZ, hh⟩ := hP
  have hx := Bd.exec
  have hby := Bd.bytes
  have hml : c.maxLocals = 2 := hml0
  have hown : s.vm.findClass "com/example/libsitemap/libsitemap/ValueText" = some m.cls := findClass_of_methodNamed Bd.named
  have hnm := (name_of_methodNamed Bd.named Bd.method).1
  have X0 : Stand p l e Rm_ini s m #[(.ref a), (.ref lim)] below meth c s₁ [] 0 0 := Stand.of_body Bd
  have e0 : s₁.heap = h0 := by rw [← hh, Bd.state]; rfl
  have N0 := Fr.nil n0
  have pre0 : ∀ tt_, Steps p.tables e below (s₁.setTop (mkF m 0 #[.val (.ref a), .val (.ref lim)] [])) tt_ → Steps p.tables e below (s₁.setTop (entryFrame m #[(.ref a), (.ref lim)] 2)) tt_ := fun tt_ kk_ => castTop (ef_2 m a lim) kk_
  obtain ⟨T1, X1, e1, st1⟩ := initO X0 hx hZ hown (hwd13 hw) (hwd14 hw) (hwd15 hw) e0 (g := (mkF m 1 #[.val (.ref a), .val (.ref lim)] [(.ref a)])) rfl (by rw [hml]; rfl) rfl (hb hby d2_1) (by decide) (W := 0) (by show 2 * 0 + _ ≤ _; exact Nat.le_of_eq rfl) (by decide)
  obtain ⟨T2, h2, k2, X2, e2, E2, A2, st2⟩ := newP (aty := .char) X1 hx hZ (hwd16 hw) e1 (g := (mkF m 7 #[.val (.ref a), .val (.ref lim)] [(.int (64 : Int32)), (.ref a)])) rfl (hb hby d2_7) rfl (by decide) (cap := 64) (by decide) (by decide) (by decide) (by decide)
  obtain ⟨b2, g2⟩ : ∃ zz_, zz_ = h0.size := ⟨_, rfl⟩
  rw [← g2] at A2 st2
  have ne_a_b2 : a ≠ b2 := Nat.ne_of_lt (Nat.lt_of_lt_of_le E_a.lt (Nat.le_of_eq g2.symm))
  have ne_lim_b2 : lim ≠ b2 := Nat.ne_of_lt (Nat.lt_of_lt_of_le E_lim.lt (Nat.le_of_eq g2.symm))
  have g_b2 : n0 ≤ b2 := Nat.le_trans Z0 (Nat.le_of_eq g2.symm)
  have sz_b2 : h0.size ≤ b2 := Nat.le_trans (Keep.refl h0 [a]).1 (Nat.le_of_eq g2.symm)
  have A_b2 : Av Z h2 b2 .char 64 (fun _ => (.int (0 : Int32))) := Av.new A2 (by decide) (by decide)
  have f3_E_a := (E_a.ext E2)
  have f4_F_a_kept := (F_kept_a.ext E2)
  obtain ⟨T5, h5, X5, e5, W5, st5⟩ := putF X2 hx hZ hown (host := "") (Or.inl (hwd17 hw)) Via.refl e2 f4_F_a_kept f3_E_a (Or.inl (hwd18 hw)) (hwd8 hw) (ty := (.array .char)) (by decide) rfl rfl (g := (mkF m 9 #[.val (.ref a), .val (.ref lim)] [(.ref b2), (.ref a)])) rfl rfl (hb hby d2_9)
  have N5 := Fr.snoc X5 N0 g_a
  have Fw5 := f4_F_a_kept.same W5
  have f7_F_lim_chars := ((F_chars_lim.ext E2).other W5 (Or.inl (Ne.symm ne_a_lim)))
  have sz8 : n0 ≤ h5.size := (Nat.le_trans (Nat.le_trans Z0 E2.1) (Keep.of_wr W5).1)
  have f9_E_lim := ((E_lim.ext E2).wr W5)
  obtain ⟨cq6, kq6, q6a, q6b, q6c⟩ := isOf hZ e5 f9_E_lim
  obtain ⟨_, _, ⟨T6, L6, k6, n6⟩, -, X6, ⟨Lc6, hQ6, l6, y6, z6⟩, st6⟩ := X5.virtualBack hx (y := my3) (z := my3) hown (mvT hZ (hwd19 hw)) (mvT hZ (hwd20 hw)) (notFace_of_selects (args := #[]) (mvT hZ (hwd22 hw))) (mvT hZ (hwd22 hw)) (mvT hZ (hwd21 hw)) (by decide) (backOf (W := 1) (chars l Z a0 hw [] lim kc h5 n0 sz8 f7_F_lim_chars) hZ (hwd23 hw) (hwd1 hw) (by decide) (by decide)) q6a q6c (g := (mkF m 14 #[.val (.ref a), .val (.ref lim)] [(.ref lim), (.ref a)])) rfl (by rw [hml]; rfl) (Steps.refl _) (argsL := []) (rest := [(.ref a)]) (lenOf pd_0 rfl) rfl (by show 2 * 0 + _ ≤ _; exact Nat.le_of_eq rfl) (hb hby d2_14) (fun _ _ => ⟨rfl, e5, (by decide : 1 + 0 ≤ _), (by decide : 64 + 0 ≤ _)⟩)
  dsimp only [Pt.U, Pt.locs, Pt.cells, Pt.slots] at X6 l6 y6 z6 st6 hQ6
  subst l6 y6 z6
  obtain ⟨rfl, N6q, e6q⟩ := hQ6
  have N6 := Fr.app N5 N6q
  have f10_E_a := (f3_E_a.wr W5)
  have f11_F_a_keptChars := ((F_keptChars_a.ext E2).other W5 (Or.inr (slot_ne (Or.inr (hwd27 hw)) (Or.inl (hwd18 hw)) (by decide) (t := .int) (t' := (.array .char)) (by decide) (by decide))))
  obtain ⟨T12, h12, X12, e12, W12, st12⟩ := putF X6 hx hZ hown (host := "") (Or.inl (hwd26 hw)) Via.refl e6q f11_F_a_keptChars f10_E_a (Or.inr ⟨(hwd27 hw), rfl, hnm⟩) (hwd8 hw) (ty := .int) (by decide) rfl rfl (g := (mkF m 19 #[.val (.ref a), .val (.ref lim)] [(.int (kc + (1 : Int32))), (.ref a)])) rfl rfl (hb hby d2_19)
  have N12 := Fr.snoc X12 N6 g_a
  have Fw12 := f11_F_a_keptChars.same W12
  have kp13 : Keep h0 h12 [a] := ((((Keep.refl h0 [a]).ext E2).wr W5 (Or.inl (List.mem_of_getElem? (i := 0) rfl))).wr W12 (Or.inl (List.mem_of_getElem? (i := 0) rfl)))
  have f14_E_a := (f10_E_a.wr W12)
  have f15_F_a_kept := (Fw5.other W12 (Or.inr (slot_ne (Or.inl (hwd18 hw)) (Or.inr (hwd27 hw)) (by decide) (t := (.array .char)) (t' := .int) (by decide) (by decide))))
  have f16_F_a_keptLength := (((F_keptLength_a.ext E2).other W5 (Or.inr (slot_ne (Or.inl (hwd44 hw)) (Or.inl (hwd18 hw)) (by decide) (t := .int) (t' := (.array .char)) (by decide) (by decide)))).other W12 (Or.inr (slot_ne (Or.inl (hwd44 hw)) (Or.inr (hwd27 hw)) (by decide) (t := .int) (t' := .int) (by decide) (by decide))))
  have f17_F_a_length := (((F_length_a.ext E2).other W5 (Or.inr (slot_ne (Or.inl (hwd37 hw)) (Or.inl (hwd18 hw)) (by decide) (t := .long) (t' := (.array .char)) (by decide) (by decide)))).other W12 (Or.inr (slot_ne (Or.inl (hwd37 hw)) (Or.inr (hwd27 hw)) (by decide) (t := .long) (t' := .int) (by decide) (by decide))))
  have f18_F_a_valueLength := (((F_valueLength_a.ext E2).other W5 (Or.inr (slot_ne (Or.inl (hwd46 hw)) (Or.inl (hwd18 hw)) (by decide) (t := .long) (t' := (.array .char)) (by decide) (by decide)))).other W12 (Or.inr (slot_ne (Or.inl (hwd46 hw)) (Or.inr (hwd27 hw)) (by decide) (t := .long) (t' := .int) (by decide) (by decide))))
  have f19_A_b2 := ((A_b2.other W5 (Ne.symm ne_a_b2)).other W12 (Ne.symm ne_a_b2))
  obtain ⟨fs, hr, hrun, hended, hW, hsame⟩ := X12.leave (v := none) (fun _ => rfl)
  refine ⟨_, _, pre0 _ ?_, hrun, hended, _, _, rfl, ?_, ⟨_, rfl⟩, hW, hsame.mono (by decide) (by decide)⟩
  · show Steps p.tables e below (s₁.setTop (mkF m 0 #[.val (.ref a), .val (.ref lim)] [])) _
    refine XS.aloadN X0.here hx rfl (hb hby d2_0) rfl rfl ?_
    refine st1 _ ?_
    refine XS.aloadN X1.here hx rfl (hb hby d2_4) rfl rfl ?_
    refine XS.bipush X1.here hx rfl (hb hby d2_5) ?_
    show Steps p.tables e below (T1.setTop (mkF m 7 #[.val (.ref a), .val (.ref lim)] [(.int (64 : Int32)), (.ref a)])) _
    refine st2 _ ?_
    refine st5 _ ?_
    refine XS.aloadN X5.here hx rfl (hb hby d2_12) rfl rfl ?_
    refine XS.aloadN X5.here hx rfl (hb hby d2_13) rfl rfl ?_
    refine st6.trans ?_
    refine XS.iconst X6.here hx rfl (hb hby d2_17) ?_
    show Steps p.tables e below (T6.setTop (mkF m 18 #[.val (.ref a), .val (.ref lim)] [(.int (1 : Int32)), (.int kc), (.ref a)])) _
    refine XS.iadd X6.here hx rfl (hb hby d2_18) rfl ?_
    refine st12 _ ?_
    exact X12.returnOut hx Bd.returns (hb hby d2_22) hr
  · show Qini Z a lim kc h0 n0 _ T12.heap _
    rw [e12]
    exact ⟨b2, rfl, N12, kp13, f14_E_a, f15_F_a_kept, Fw12, f16_F_a_keptLength, f17_F_a_length, f18_F_a_valueLength, f19_A_b2, sz_b2, g_b2, ne_a_b2⟩
theorem d20_0 : decode jdk_29_method_69_code 0 = .ok (.iload_n 0, 1) := by decide +kernel
theorem d20_1 : decode jdk_29_method_69_code 1 = .ok (.iload_n 1, 1) := by decide +kernel
theorem d20_2 : decode jdk_29_method_69_code 2 = .ok (.if_icmp .gt 7, 3) := by decide +kernel
theorem d20_5 : decode jdk_29_method_69_code 5 = .ok (.iload_n 0, 1) := by decide +kernel
theorem d20_6 : decode jdk_29_method_69_code 6 = .ok (.goto 4, 3) := by decide +kernel
theorem d20_10 : decode jdk_29_method_69_code 10 = .ok (.ireturn, 1) := by decide +kernel
theorem ef_20 (m : MethodId) (x0 : Int32) (x1 : Int32) : entryFrame m #[(.int x0), (.int x1)] 2 = mkF m 0 #[.val (.int x0), .val (.int x1)] [] := by first | (simp [entryFrame, mkF, argsToLocals, Value.category]; done) | rfl
def QminI (Z : State) (y : Int32) (h0 : Heap) (n0 : Nat) (v : Option Value) (h : Heap) (L : List Loc) : Prop := v = some (.int (1 : Int32)) ∧ Fr n0 L ∧ h = h0
abbrev my5 : MethodName := ⟨"java/lang/Math", "min", "(II)I"⟩
abbrev Rm_minI : Room := { frames := 0, cells := 0, slots := 0, locals := 0 }
set_option maxRecDepth 65536 in
set_option maxHeartbeats 40000000 in
theorem minI (l : Launch) (Z : State) (a0 : Array Value) (hw : ∀ d ∈ tables_1, d.before a0 Z = true) (ws : List Jvm.Cond) (y : Int32) (h0 : Heap) (n0 : Nat) (Z0 : n0 ≤ h0.size) (hy : ¬ (y < (1 : Int32))) :
    MetFree l my5 (head1 (Jvm.Cond.code my5 jdk_29_method_69_code 2 (some .int) :: ws) Rm_minI) (fun aa_ U => aa_ = #[(.int (1 : Int32)), (.int y)] ∧ Z.Warmed39 U.vm ∧ U.heap = h0) (fun _ _ _ _ _ => True) (fun _ U oo_ U' => ∃ v L, oo_ = .returned v ∧ QminI Z y h0 n0 v U'.heap L ∧ FrameEnd U oo_ U' L Rm_minI.cells Rm_minI.slots) := by
  refine MetFree.of_bodySF (Jvm.Free.JP.mathPlain rfl (by decide +kernel)) hisR ?_
  intro p e s m args below meth c s₁ Bd hml0 hP hK
  obtain ⟨rfl, hZ, hh⟩ := hP
  have hx := Bd.exec
  have hby := Bd.bytes
  have hml : c.maxLocals = 2 := hml0
  have hown : s.vm.findClass "java/lang/Math" = some m.cls := findClass_of_methodNamed Bd.named
  have hnm := (name_of_methodNamed Bd.named Bd.method).1
  have X0 : Stand p l e Rm_minI s m #[(.int (1 : Int32)), (.int y)] below meth c s₁ [] 0 0 := Stand.of_body Bd
  have e0 : s₁.heap = h0 := by rw [← hh, Bd.state]; rfl
  have N0 := Fr.nil n0
  have pre0 : ∀ tt_, Steps p.tables e below (s₁.setTop (mkF m 0 #[.val (.int (1 : Int32)), .val (.int y)] [])) tt_ → Steps p.tables e below (s₁.setTop (entryFrame m #[(.int (1 : Int32)), (.int y)] 2)) tt_ := fun tt_ kk_ => castTop (ef_20 m (1 : Int32) y) kk_
  obtain ⟨fs, hr, hrun, hended, hW, hsame⟩ := X0.leave (v := some (.int (1 : Int32))) (fun h => by rw [Bd.returns] at h; cases h)
  refine ⟨_, _, pre0 _ ?_, hrun, hended, _, _, rfl, ?_, ⟨_, rfl⟩, hW, hsame.mono (by decide) (by decide)⟩
  · show Steps p.tables e below (s₁.setTop (mkF m 0 #[.val (.int (1 : Int32)), .val (.int y)] [])) _
    refine XS.iloadN X0.here hx rfl (hb hby d20_0) rfl ?_
    refine XS.iloadN X0.here hx rfl (hb hby d20_1) rfl ?_
    refine XS.icmpNo X0.here hx rfl (hb hby d20_2) rfl (flt (show ¬ (y < (1 : Int32)) from hy)).2.2.1 ?_
    refine XS.iloadN X0.here hx rfl (hb hby d20_5) rfl ?_
    refine XS.goto X0.here hx rfl (pc0 := 6) (pc' := 10) rfl (hb hby d20_6) (by decide) (by decide) ?_
    exact retI X0 hx Bd.returns (hb hby d20_10) hr
  · show QminI Z y h0 n0 _ s₁.heap _
    rw [e0]
    exact ⟨rfl, N0, rfl⟩
theorem hwd43 {Z : State} {a0 : Array Value} (hw : ∀ d ∈ tables_1, d.before a0 Z = true) : (Jvm.Cond.fieldLink "com/example/libsitemap/libsitemap/ValueText" (35 : Nat) "com/example/libsitemap/libsitemap/ValueText" "keptLength" "I").before a0 Z = true := hw _ (List.mem_of_getElem? (i := 43) rfl)
theorem hwd110 {Z : State} {a0 : Array Value} (hw : ∀ d ∈ tables_1, d.before a0 Z = true) : (Jvm.Cond.methodLink "com/example/libsitemap/libsitemap/ValueText" (58 : Nat) ({ cls := "java/lang/Math", name := "min", desc := "(II)I" } : Jvm.MethodName)).before a0 Z = true := hw _ (List.mem_of_getElem? (i := 110) rfl)
theorem hwd112 {Z : State} {a0 : Array Value} (hw : ∀ d ∈ tables_1, d.before a0 Z = true) : (Jvm.Cond.code ({ cls := "java/lang/Math", name := "min", desc := "(II)I" } : Jvm.MethodName) jdk_29_method_69_code (2 : Nat) (Option.some Jvm.ClassFile.FieldType.int)).before a0 Z = true := hw _ (List.mem_of_getElem? (i := 112) rfl)
theorem hwd67 {Z : State} {a0 : Array Value} (hw : ∀ d ∈ tables_1, d.before a0 Z = true) : (Jvm.Cond.initialized "java/lang/Math").before a0 Z = true := hw _ (List.mem_of_getElem? (i := 67) rfl)
theorem pd_1 : parseMethodDescriptor "(II)I" = some ⟨[.int, .int], some .int⟩ := by decide +kernel
theorem hwd111 {Z : State} {a0 : Array Value} (hw : ∀ d ∈ tables_1, d.before a0 Z = true) : (Jvm.Cond.static ({ cls := "java/lang/Math", name := "min", desc := "(II)I" } : Jvm.MethodName)).before a0 Z = true := hw _ (List.mem_of_getElem? (i := 111) rfl)
theorem d19_0 : decode prog_46_method_8_code 0 = .ok (.iload_n 1, 1) := by decide +kernel
theorem d19_1 : decode prog_46_method_8_code 1 = .ok (.aload_n 0, 1) := by decide +kernel
theorem d19_2 : decode prog_46_method_8_code 2 = .ok (.getfield 19, 3) := by decide +kernel
theorem d19_5 : decode prog_46_method_8_code 5 = .ok (.aload_n 0, 1) := by decide +kernel
theorem d19_6 : decode prog_46_method_8_code 6 = .ok (.getfield 35, 3) := by decide +kernel
theorem d19_9 : decode prog_46_method_8_code 9 = .ok (.isub, 1) := by decide +kernel
theorem d19_10 : decode prog_46_method_8_code 10 = .ok (.invokestatic 58, 3) := by decide +kernel
theorem d19_13 : decode prog_46_method_8_code 13 = .ok (.istore_n 2, 1) := by decide +kernel
theorem d19_14 : decode prog_46_method_8_code 14 = .ok (.aload_n 0, 1) := by decide +kernel
theorem d19_15 : decode prog_46_method_8_code 15 = .ok (.getfield 35, 3) := by decide +kernel
theorem d19_18 : decode prog_46_method_8_code 18 = .ok (.iload_n 2, 1) := by decide +kernel
theorem d19_19 : decode prog_46_method_8_code 19 = .ok (.iadd, 1) := by decide +kernel
theorem d19_20 : decode prog_46_method_8_code 20 = .ok (.aload_n 0, 1) := by decide +kernel
theorem d19_21 : decode prog_46_method_8_code 21 = .ok (.getfield 9, 3) := by decide +kernel
theorem d19_24 : decode prog_46_method_8_code 24 = .ok (.arraylength, 1) := by decide +kernel
theorem d19_25 : decode prog_46_method_8_code 25 = .ok (.if_icmp .le 18, 3) := by decide +kernel
theorem d19_43 : decode prog_46_method_8_code 43 = .ok (.iload_n 2, 1) := by decide +kernel
theorem d19_44 : decode prog_46_method_8_code 44 = .ok (.ireturn, 1) := by decide +kernel
theorem ef_19 (m : MethodId) (x0 : Addr) (x1 : Int32) : entryFrame m #[(.ref x0), (.int x1)] 3 = mkF m 0 #[.val (.ref x0), .val (.int x1), .unset] [] := by first | (simp [entryFrame, mkF, argsToLocals, Value.category]; done) | rfl
def Qroom0 (Z : State) (a : Addr) (ar : Addr) (kc : Int32) (f : Nat → Value) (h0 : Heap) (n0 : Nat) (v : Option Value) (h : Heap) (L : List Loc) : Prop := v = some (.int (1 : Int32)) ∧ Fr n0 L ∧ h = h0
abbrev my6 : MethodName := ⟨"com/example/libsitemap/libsitemap/ValueText", "room", "(I)I"⟩
abbrev Rm_room0 : Room := { frames := 1, cells := 0, slots := 0, locals := 13 }
set_option maxRecDepth 65536 in
set_option maxHeartbeats 40000000 in
theorem room0 (l : Launch) (Z : State) (a0 : Array Value) (hw : ∀ d ∈ tables_1, d.before a0 Z = true) (ws : List Jvm.Cond) (a : Addr) (ar : Addr) (kc : Int32) (f : Nat → Value) (h0 : Heap) (n0 : Nat) (Z0 : n0 ≤ h0.size) (F_kept_a : Fld Z h0 a "com/example/libsitemap/libsitemap/ValueText" "kept" "[C" (.ref ar)) (F_keptChars_a : Fld Z h0 a "com/example/libsitemap/libsitemap/ValueText" "keptChars" "I" (.int (kc + (1 : Int32)))) (F_keptLength_a : Fld Z h0 a "com/example/libsitemap/libsitemap/ValueText" "keptLength" "I" (.int (0 : Int32))) (A_ar : Av Z h0 ar .char 64 f) (hkc : (kc = 128 ∨ kc = 2047)) :
    MetFree l my6 (head1 (Jvm.Cond.code my6 prog_46_method_8_code 3 (some .int) :: ws) Rm_room0) (fun aa_ U => aa_ = #[(.ref a), (.int (1 : Int32))] ∧ Z.Warmed39 U.vm ∧ U.heap = h0) (fun _ _ _ _ _ => True) (fun _ U oo_ U' => ∃ v L, oo_ = .returned v ∧ Qroom0 Z a ar kc f h0 n0 v U'.heap L ∧ FrameEnd U oo_ U' L Rm_room0.cells Rm_room0.slots) := by
  refine MetFree.of_bodySF (plainFor_of_name pn_1) hisR ?_
  intro p e s m args below meth c s₁ Bd hml0 hP hK
  obtain ⟨rfl, hZ, hh⟩ := hP
  have hx := Bd.exec
  have hby := Bd.bytes
  have hml : c.maxLocals = 3 := hml0
  have hown : s.vm.findClass "com/example/libsitemap/libsitemap/ValueText" = some m.cls := findClass_of_methodNamed Bd.named
  have hnm := (name_of_methodNamed Bd.named Bd.method).1
  have X0 : Stand p l e Rm_room0 s m #[(.ref a), (.int (1 : Int32))] below meth c s₁ [] 0 0 := Stand.of_body Bd
  have e0 : s₁.heap = h0 := by rw [← hh, Bd.state]; rfl
  have N0 := Fr.nil n0
  have pre0 : ∀ tt_, Steps p.tables e below (s₁.setTop (mkF m 0 #[.val (.ref a), .val (.int (1 : Int32)), .unset] [])) tt_ → Steps p.tables e below (s₁.setTop (entryFrame m #[(.ref a), (.int (1 : Int32))] 3)) tt_ := fun tt_ kk_ => castTop (ef_19 m a (1 : Int32)) kk_
  have hy : ¬ ((kc + (1 : Int32)) - (0 : Int32) < (1 : Int32)) := by rcases hkc with rfl | rfl <;> decide
  obtain ⟨T1, X1, e1, st1⟩ := getF X0 hx hZ hown (host := "") (Or.inl (hwd26 hw)) Via.refl e0 F_keptChars_a (g := (mkF m 2 #[.val (.ref a), .val (.int (1 : Int32)), .unset] [(.ref a), (.int (1 : Int32))])) rfl rfl (hb hby d19_2)
  obtain ⟨T2, X2, e2, st2⟩ := getF X1 hx hZ hown (host := "") (Or.inl (hwd43 hw)) Via.refl e1 F_keptLength_a (g := (mkF m 6 #[.val (.ref a), .val (.int (1 : Int32)), .unset] [(.ref a), (.int (kc + (1 : Int32))), (.int (1 : Int32))])) rfl rfl (hb hby d19_6)
  obtain ⟨_, _, ⟨T3, L3, k3, n3⟩, -, X3, ⟨Lc3, hQ3, l3, y3, z3⟩, st3⟩ := Jvm.LawKit.callS X2 hx (y := my5) hown (mvT hZ (hwd110 hw)) (mvT hZ (hwd111 hw)) (mvT hZ (hwd67 hw)) (mvT hZ (hwd112 hw)) (by decide) (backOf (W := 0) (minI l Z a0 hw [] ((kc + (1 : Int32)) - (0 : Int32)) h0 n0 Z0 hy) hZ (hwd112 hw) (hwd67 hw) (by decide) (by decide)) (g := (mkF m 10 #[.val (.ref a), .val (.int (1 : Int32)), .unset] [(.int ((kc + (1 : Int32)) - (0 : Int32))), (.int (1 : Int32))])) rfl (by rw [hml]; rfl) (argsL := [(.int (1 : Int32)), (.int ((kc + (1 : Int32)) - (0 : Int32)))]) (rest := []) (lenOf pd_1 rfl) rfl (by show 2 * 0 + _ ≤ _; exact Nat.le_of_eq rfl) (hb hby d19_10) (fun _ _ => ⟨rfl, e2, (by decide : 0 + 0 ≤ _), (by decide : 0 + 0 ≤ _)⟩)
  dsimp only [Pt.U, Pt.locs, Pt.cells, Pt.slots] at X3 l3 y3 z3 st3 hQ3
  subst l3 y3 z3
  obtain ⟨rfl, N3q, e3q⟩ := hQ3
  have N3 := Fr.app N0 N3q
  obtain ⟨T4, X4, e4, st4⟩ := getF X3 hx hZ hown (host := "") (Or.inl (hwd43 hw)) Via.refl e3q F_keptLength_a (g := (mkF m 15 #[.val (.ref a), .val (.int (1 : Int32)), .val (.int (1 : Int32))] [(.ref a)])) rfl rfl (hb hby d19_15)
  obtain ⟨T5, X5, e5, st5⟩ := getF X4 hx hZ hown (host := "") (Or.inl (hwd17 hw)) Via.refl e4 F_kept_a (g := (mkF m 21 #[.val (.ref a), .val (.int (1 : Int32)), .val (.int (1 : Int32))] [(.ref a), (.int (1 : Int32))])) rfl rfl (hb hby d19_21)
  obtain ⟨cl6, Ar6, S6, -⟩ := id A_ar
  obtain ⟨fs, hr, hrun, hended, hW, hsame⟩ := X5.leave (v := some (.int (1 : Int32))) (fun h => by rw [Bd.returns] at h; cases h)
  refine ⟨_, _, pre0 _ ?_, hrun, hended, _, _, rfl, ?_, ⟨_, rfl⟩, hW, hsame.mono (by decide) (by decide)⟩
  · show Steps p.tables e below (s₁.setTop (mkF m 0 #[.val (.ref a), .val (.int (1 : Int32)), .unset] [])) _
    refine XS.iloadN X0.here hx rfl (hb hby d19_0) rfl ?_
    refine XS.aloadN X0.here hx rfl (hb hby d19_1) rfl rfl ?_
    refine st1 _ ?_
    refine XS.aloadN X1.here hx rfl (hb hby d19_5) rfl rfl ?_
    refine st2 _ ?_
    refine XS.isub X2.here hx rfl (hb hby d19_9) rfl ?_
    show Steps p.tables e below (T2.setTop (mkF m 10 #[.val (.ref a), .val (.int (1 : Int32)), .unset] [(.int ((kc + (1 : Int32)) - (0 : Int32))), (.int (1 : Int32))])) _
    refine st3 _ ?_
    refine XS.istoreN X3.here hx rfl (hb hby d19_13) rfl (l' := #[.val (.ref a), .val (.int (1 : Int32)), .val (.int (1 : Int32))]) rfl ?_
    refine XS.aloadN X3.here hx rfl (hb hby d19_14) rfl rfl ?_
    refine st4 _ ?_
    refine XS.iloadN X4.here hx rfl (hb hby d19_18) rfl ?_
    refine XS.iadd X4.here hx rfl (hb hby d19_19) rfl ?_
    show Steps p.tables e below (T4.setTop (mkF m 20 #[.val (.ref a), .val (.int (1 : Int32)), .val (.int (1 : Int32))] [(.int ((0 : Int32) + (1 : Int32)))])) _
    rw [show (((0 : Int32) + (1 : Int32)) : Int32) = (1 : Int32) from by decide]
    refine XS.aloadN X4.here hx rfl (hb hby d19_20) rfl rfl ?_
    refine st5 _ ?_
    refine X5.arraylength hx (by rw [e5]; exact Ar6.1) (State.isArrayOf_alike hZ.alike Ar6.2.1) (g := (mkF m 24 #[.val (.ref a), .val (.int (1 : Int32)), .val (.int (1 : Int32))] [(.ref ar), (.int (1 : Int32))])) rfl rfl (hb hby d19_24) _ ?_
    rw [S6]
    show Steps p.tables e below (T5.setTop (mkF m 25 #[.val (.ref a), .val (.int (1 : Int32)), .val (.int (1 : Int32))] [(.int (Nat.toInt32 64)), (.int (1 : Int32))])) _
    rw [show ((Nat.toInt32 64) : Int32) = (64 : Int32) from by decide]
    refine XS.icmpYes X5.here hx rfl (pc0 := 25) (pc' := 43) rfl (hb hby d19_25) rfl (flt (show ¬ ((64 : Int32) < (1 : Int32)) from (by decide))).2.2.2 (by decide) (by decide) ?_
    refine XS.iloadN X5.here hx rfl (hb hby d19_43) rfl ?_
    exact retI X5 hx Bd.returns (hb hby d19_44) hr
  · show Qroom0 Z a ar kc f h0 n0 _ T5.heap _
    rw [e5]
    exact ⟨rfl, N3, rfl⟩
def Qroom1 (Z : State) (a : Addr) (ar : Addr) (kc : Int32) (f : Nat → Value) (h0 : Heap) (n0 : Nat) (v : Option Value) (h : Heap) (L : List Loc) : Prop := v = some (.int (1 : Int32)) ∧ Fr n0 L ∧ h = h0
abbrev Rm_room1 : Room := { frames := 1, cells := 0, slots := 0, locals := 13 }
set_option maxRecDepth 65536 in
set_option maxHeartbeats 40000000 in
theorem room1 (l : Launch) (Z : State) (a0 : Array Value) (hw : ∀ d ∈ tables_1, d.before a0 Z = true) (ws : List Jvm.Cond) (a : Addr) (ar : Addr) (kc : Int32) (f : Nat → Value) (h0 : Heap) (n0 : Nat) (Z0 : n0 ≤ h0.size) (F_kept_a : Fld Z h0 a "com/example/libsitemap/libsitemap/ValueText" "kept" "[C" (.ref ar)) (F_keptChars_a : Fld Z h0 a "com/example/libsitemap/libsitemap/ValueText" "keptChars" "I" (.int (kc + (1 : Int32)))) (F_keptLength_a : Fld Z h0 a "com/example/libsitemap/libsitemap/ValueText" "keptLength" "I" (.int (1 : Int32))) (A_ar : Av Z h0 ar .char 64 f) (hkc : (kc = 128 ∨ kc = 2047)) :
    MetFree l my6 (head1 (Jvm.Cond.code my6 prog_46_method_8_code 3 (some .int) :: ws) Rm_room1) (fun aa_ U => aa_ = #[(.ref a), (.int (1 : Int32))] ∧ Z.Warmed39 U.vm ∧ U.heap = h0) (fun _ _ _ _ _ => True) (fun _ U oo_ U' => ∃ v L, oo_ = .returned v ∧ Qroom1 Z a ar kc f h0 n0 v U'.heap L ∧ FrameEnd U oo_ U' L Rm_room1.cells Rm_room1.slots) := by
  refine MetFree.of_bodySF (plainFor_of_name pn_1) hisR ?_
  intro p e s m args below meth c s₁ Bd hml0 hP hK
  obtain ⟨rfl, hZ, hh⟩ := hP
  have hx := Bd.exec
  have hby := Bd.bytes
  have hml : c.maxLocals = 3 := hml0
  have hown : s.vm.findClass "com/example/libsitemap/libsitemap/ValueText" = some m.cls := findClass_of_methodNamed Bd.named
  have hnm := (name_of_methodNamed Bd.named Bd.method).1
  have X0 : Stand p l e Rm_room1 s m #[(.ref a), (.int (1 : Int32))] below meth c s₁ [] 0 0 := Stand.of_body Bd
  have e0 : s₁.heap = h0 := by rw [← hh, Bd.state]; rfl
  have N0 := Fr.nil n0
  have pre0 : ∀ tt_, Steps p.tables e below (s₁.setTop (mkF m 0 #[.val (.ref a), .val (.int (1 : Int32)), .unset] [])) tt_ → Steps p.tables e below (s₁.setTop (entryFrame m #[(.ref a), (.int (1 : Int32))] 3)) tt_ := fun tt_ kk_ => castTop (ef_19 m a (1 : Int32)) kk_
  have hy : ¬ ((kc + (1 : Int32)) - (1 : Int32) < (1 : Int32)) := by rcases hkc with rfl | rfl <;> decide
  obtain ⟨T1, X1, e1, st1⟩ := getF X0 hx hZ hown (host := "") (Or.inl (hwd26 hw)) Via.refl e0 F_keptChars_a (g := (mkF m 2 #[.val (.ref a), .val (.int (1 : Int32)), .unset] [(.ref a), (.int (1 : Int32))])) rfl rfl (hb hby d19_2)
  obtain ⟨T2, X2, e2, st2⟩ := getF X1 hx hZ hown (host := "") (Or.inl (hwd43 hw)) Via.refl e1 F_keptLength_a (g := (mkF m 6 #[.val (.ref a), .val (.int (1 : Int32)), .unset] [(.ref a), (.int (kc + (1 : Int32))), (.int (1 : Int32))])) rfl rfl (hb hby d19_6)
  obtain ⟨_, _, ⟨T3, L3, k3, n3⟩, -, X3, ⟨Lc3, hQ3, l3, y3, z3⟩, st3⟩ := Jvm.LawKit.callS X2 hx (y := my5) hown (mvT hZ (hwd110 hw)) (mvT hZ (hwd111 hw)) (mvT hZ (hwd67 hw)) (mvT hZ (hwd112 hw)) (by decide) (backOf (W := 0) (minI l Z a0 hw [] ((kc + (1 : Int32)) - (1 : Int32)) h0 n0 Z0 hy) hZ (hwd112 hw) (hwd67 hw) (by decide) (by decide)) (g := (mkF m 10 #[.val (.ref a), .val (.int (1 : Int32)), .unset] [(.int ((kc + (1 : Int32)) - (1 : Int32))), (.int (1 : Int32))])) rfl (by rw [hml]; rfl) (argsL := [(.int (1 : Int32)), (.int ((kc + (1 : Int32)) - (1 : Int32)))]) (rest := []) (lenOf pd_1 rfl) rfl (by show 2 * 0 + _ ≤ _; exact Nat.le_of_eq rfl) (hb hby d19_10) (fun _ _ => ⟨rfl, e2, (by decide : 0 + 0 ≤ _), (by decide : 0 + 0 ≤ _)⟩)
  dsimp only [Pt.U, Pt.locs, Pt.cells, Pt.slots] at X3 l3 y3 z3 st3 hQ3
  subst l3 y3 z3
  obtain ⟨rfl, N3q, e3q⟩ := hQ3
  have N3 := Fr.app N0 N3q
  obtain ⟨T4, X4, e4, st4⟩ := getF X3 hx hZ hown (host := "") (Or.inl (hwd43 hw)) Via.refl e3q F_keptLength_a (g := (mkF m 15 #[.val (.ref a), .val (.int (1 : Int32)), .val (.int (1 : Int32))] [(.ref a)])) rfl rfl (hb hby d19_15)
  obtain ⟨T5, X5, e5, st5⟩ := getF X4 hx hZ hown (host := "") (Or.inl (hwd17 hw)) Via.refl e4 F_kept_a (g := (mkF m 21 #[.val (.ref a), .val (.int (1 : Int32)), .val (.int (1 : Int32))] [(.ref a), (.int (2 : Int32))])) rfl rfl (hb hby d19_21)
  obtain ⟨cl6, Ar6, S6, -⟩ := id A_ar
  obtain ⟨fs, hr, hrun, hended, hW, hsame⟩ := X5.leave (v := some (.int (1 : Int32))) (fun h => by rw [Bd.returns] at h; cases h)
  refine ⟨_, _, pre0 _ ?_, hrun, hended, _, _, rfl, ?_, ⟨_, rfl⟩, hW, hsame.mono (by decide) (by decide)⟩
  · show Steps p.tables e below (s₁.setTop (mkF m 0 #[.val (.ref a), .val (.int (1 : Int32)), .unset] [])) _
    refine XS.iloadN X0.here hx rfl (hb hby d19_0) rfl ?_
    refine XS.aloadN X0.here hx rfl (hb hby d19_1) rfl rfl ?_
    refine st1 _ ?_
    refine XS.aloadN X1.here hx rfl (hb hby d19_5) rfl rfl ?_
    refine st2 _ ?_
    refine XS.isub X2.here hx rfl (hb hby d19_9) rfl ?_
    show Steps p.tables e below (T2.setTop (mkF m 10 #[.val (.ref a), .val (.int (1 : Int32)), .unset] [(.int ((kc + (1 : Int32)) - (1 : Int32))), (.int (1 : Int32))])) _
    refine st3 _ ?_
    refine XS.istoreN X3.here hx rfl (hb hby d19_13) rfl (l' := #[.val (.ref a), .val (.int (1 : Int32)), .val (.int (1 : Int32))]) rfl ?_
    refine XS.aloadN X3.here hx rfl (hb hby d19_14) rfl rfl ?_
    refine st4 _ ?_
    refine XS.iloadN X4.here hx rfl (hb hby d19_18) rfl ?_
    refine XS.iadd X4.here hx rfl (hb hby d19_19) rfl ?_
    show Steps p.tables e below (T4.setTop (mkF m 20 #[.val (.ref a), .val (.int (1 : Int32)), .val (.int (1 : Int32))] [(.int ((1 : Int32) + (1 : Int32)))])) _
    rw [show (((1 : Int32) + (1 : Int32)) : Int32) = (2 : Int32) from by decide]
    refine XS.aloadN X4.here hx rfl (hb hby d19_20) rfl rfl ?_
    refine st5 _ ?_
    refine X5.arraylength hx (by rw [e5]; exact Ar6.1) (State.isArrayOf_alike hZ.alike Ar6.2.1) (g := (mkF m 24 #[.val (.ref a), .val (.int (1 : Int32)), .val (.int (1 : Int32))] [(.ref ar), (.int (2 : Int32))])) rfl rfl (hb hby d19_24) _ ?_
    rw [S6]
    show Steps p.tables e below (T5.setTop (mkF m 25 #[.val (.ref a), .val (.int (1 : Int32)), .val (.int (1 : Int32))] [(.int (Nat.toInt32 64)), (.int (2 : Int32))])) _
    rw [show ((Nat.toInt32 64) : Int32) = (64 : Int32) from by decide]
    refine XS.icmpYes X5.here hx rfl (pc0 := 25) (pc' := 43) rfl (hb hby d19_25) rfl (flt (show ¬ ((64 : Int32) < (2 : Int32)) from (by decide))).2.2.2 (by decide) (by decide) ?_
    refine XS.iloadN X5.here hx rfl (hb hby d19_43) rfl ?_
    exact retI X5 hx Bd.returns (hb hby d19_44) hr
  · show Qroom1 Z a ar kc f h0 n0 _ T5.heap _
    rw [e5]
    exact ⟨rfl, N3, rfl⟩
theorem hwd33 {Z : State} {a0 : Array Value} (hw : ∀ d ∈ tables_1, d.before a0 Z = true) : (Jvm.Cond.methodLink "com/example/libsitemap/libsitemap/ValueText" (23 : Nat) ({ cls := "com/example/libsitemap/libsitemap/ValueText", name := "isBlank", desc := "(C)Z" } : Jvm.MethodName)).before a0 Z = true := hw _ (List.mem_of_getElem? (i := 33) rfl)
theorem hwd35 {Z : State} {a0 : Array Value} (hw : ∀ d ∈ tables_1, d.before a0 Z = true) : (Jvm.Cond.code ({ cls := "com/example/libsitemap/libsitemap/ValueText", name := "isBlank", desc := "(C)Z" } : Jvm.MethodName) prog_46_method_2_code (1 : Nat) (Option.some Jvm.ClassFile.FieldType.boolean)).before a0 Z = true := hw _ (List.mem_of_getElem? (i := 35) rfl)
theorem hwd9 {Z : State} {a0 : Array Value} (hw : ∀ d ∈ tables_1, d.before a0 Z = true) : (Jvm.Cond.initialized "com/example/libsitemap/libsitemap/ValueText").before a0 Z = true := hw _ (List.mem_of_getElem? (i := 9) rfl)
theorem pd_2 : parseMethodDescriptor "(C)Z" = some ⟨[.char], some .boolean⟩ := by decide +kernel
theorem hwd34 {Z : State} {a0 : Array Value} (hw : ∀ d ∈ tables_1, d.before a0 Z = true) : (Jvm.Cond.static ({ cls := "com/example/libsitemap/libsitemap/ValueText", name := "isBlank", desc := "(C)Z" } : Jvm.MethodName)).before a0 Z = true := hw _ (List.mem_of_getElem? (i := 34) rfl)
theorem hwd36 {Z : State} {a0 : Array Value} (hw : ∀ d ∈ tables_1, d.before a0 Z = true) : (Jvm.Cond.fieldLink "com/example/libsitemap/libsitemap/ValueText" (27 : Nat) "com/example/libsitemap/libsitemap/ValueText" "length" "J").before a0 Z = true := hw _ (List.mem_of_getElem? (i := 36) rfl)
theorem d5_0 : decode prog_46_method_3_code 0 = .ok (.iload_n 1, 1) := by decide +kernel
theorem d5_1 : decode prog_46_method_3_code 1 = .ok (.invokestatic 23, 3) := by decide +kernel
theorem d5_4 : decode prog_46_method_3_code 4 = .ok (.istore_n 2, 1) := by decide +kernel
theorem d5_5 : decode prog_46_method_3_code 5 = .ok (.iload_n 2, 1) := by decide +kernel
theorem d5_6 : decode prog_46_method_3_code 6 = .ok (.ifCond .eq 12, 3) := by decide +kernel
theorem d5_9 : decode prog_46_method_3_code 9 = .ok (.aload_n 0, 1) := by decide +kernel
theorem d5_10 : decode prog_46_method_3_code 10 = .ok (.getfield 27, 3) := by decide +kernel
theorem d5_13 : decode prog_46_method_3_code 13 = .ok (.lconst 0, 1) := by decide +kernel
theorem d5_14 : decode prog_46_method_3_code 14 = .ok (.lcmp, 1) := by decide +kernel
theorem d5_15 : decode prog_46_method_3_code 15 = .ok (.ifCond .eq 39, 3) := by decide +kernel
theorem d5_54 : decode prog_46_method_3_code 54 = .ok (.iload_n 2, 1) := by decide +kernel
theorem d5_55 : decode prog_46_method_3_code 55 = .ok (.ifCond .ne 11, 3) := by decide +kernel
theorem d5_66 : decode prog_46_method_3_code 66 = .ok (.return_, 1) := by decide +kernel
theorem ef_5 (m : MethodId) (x0 : Addr) (x1 : Int32) : entryFrame m #[(.ref x0), (.int x1)] 3 = mkF m 0 #[.val (.ref x0), .val (.int x1), .unset] [] := by first | (simp [entryFrame, mkF, argsToLocals, Value.category]; done) | rfl
def Qtk0b (Z : State) (a : Addr) (ar : Addr) (ch : Int32) (kc : Int32) (f : Nat → Value) (h0 : Heap) (n0 : Nat) (v : Option Value) (h : Heap) (L : List Loc) : Prop := v = none ∧ Fr n0 L ∧ h = h0
abbrev my7 : MethodName := ⟨"com/example/libsitemap/libsitemap/ValueText", "take", "(C)V"⟩
abbrev Rm_tk0b : Room := { frames := 1, cells := 0, slots := 0, locals := 12 }
set_option maxRecDepth 65536 in
set_option maxHeartbeats 40000000 in
theorem tk0b (l : Launch) (Z : State) (a0 : Array Value) (hw : ∀ d ∈ tables_1, d.before a0 Z = true) (ws : List Jvm.Cond) (a : Addr) (ar : Addr) (ch : Int32) (kc : Int32) (f : Nat → Value) (h0 : Heap) (n0 : Nat) (Z0 : n0 ≤ h0.size) (E_a : Exa Z h0 a "com/example/libsitemap/libsitemap/ValueText") (F_kept_a : Fld Z h0 a "com/example/libsitemap/libsitemap/ValueText" "kept" "[C" (.ref ar)) (F_keptChars_a : Fld Z h0 a "com/example/libsitemap/libsitemap/ValueText" "keptChars" "I" (.int (kc + (1 : Int32)))) (F_keptLength_a : Fld Z h0 a "com/example/libsitemap/libsitemap/ValueText" "keptLength" "I" (.int (0 : Int32))) (F_length_a : Fld Z h0 a "com/example/libsitemap/libsitemap/ValueText" "length" "J" (.long (0 : Int64))) (F_valueLength_a : Fld Z h0 a "com/example/libsitemap/libsitemap/ValueText" "valueLength" "J" (.long (0 : Int64))) (A_ar : Av Z h0 ar .char 64 f) (g_a : n0 ≤ a) (g_ar : n0 ≤ ar) (ne_a_ar : a ≠ ar) (hch : Lat ch) (hbk : ¬ (own_bl ch = (0 : Int32))) (hkc : (kc = 128 ∨ kc = 2047)) :
    MetFree l my7 (head1 (Jvm.Cond.code my7 prog_46_method_3_code 3 none :: ws) Rm_tk0b) (fun aa_ U => aa_ = #[(.ref a), (.int ch)] ∧ Z.Warmed39 U.vm ∧ U.heap = h0) (fun _ _ _ _ _ => True) (fun _ U oo_ U' => ∃ v L, oo_ = .returned v ∧ Qtk0b Z a ar ch kc f h0 n0 v U'.heap L ∧ FrameEnd U oo_ U' L Rm_tk0b.cells Rm_tk0b.slots) := by
  refine MetFree.of_bodySF (plainFor_of_name pn_1) hisR ?_
  intro p e s m args below meth c s₁ Bd hml0 hP hK
  obtain ⟨rfl, hZ, hh⟩ := hP
  have hx := Bd.exec
  have hby := Bd.bytes
  have hml : c.maxLocals = 3 := hml0
  have hown : s.vm.findClass "com/example/libsitemap/libsitemap/ValueText" = some m.cls := findClass_of_methodNamed Bd.named
  have hnm := (name_of_methodNamed Bd.named Bd.method).1
  have X0 : Stand p l e Rm_tk0b s m #[(.ref a), (.int ch)] below meth c s₁ [] 0 0 := Stand.of_body Bd
  have e0 : s₁.heap = h0 := by rw [← hh, Bd.state]; rfl
  have N0 := Fr.nil n0
  have pre0 : ∀ tt_, Steps p.tables e below (s₁.setTop (mkF m 0 #[.val (.ref a), .val (.int ch), .unset] [])) tt_ → Steps p.tables e below (s₁.setTop (entryFrame m #[(.ref a), (.int ch)] 3)) tt_ := fun tt_ kk_ => castTop (ef_5 m a ch) kk_
  obtain ⟨_, _, ⟨T1, L1, k1, n1⟩, -, X1, ⟨Lc1, hQ1, l1, y1, z1⟩, st1⟩ := Jvm.LawKit.callS X0 hx (y := my1) hown (mvT hZ (hwd33 hw)) (mvT hZ (hwd34 hw)) (mvT hZ (hwd9 hw)) (mvT hZ (hwd35 hw)) (by decide) (backOf (W := 0) (isb l Z a0 hw [] ch h0 n0 Z0 ) hZ (hwd35 hw) (hwd9 hw) (by decide) (by decide)) (g := (mkF m 1 #[.val (.ref a), .val (.int ch), .unset] [(.int ch)])) rfl (by rw [hml]; rfl) (argsL := [(.int ch)]) (rest := []) (lenOf pd_2 rfl) rfl (by show 2 * 0 + _ ≤ _; exact Nat.le_of_eq rfl) (hb hby d5_1) (fun _ _ => ⟨rfl, e0, (by decide : 0 + 0 ≤ _), (by decide : 0 + 0 ≤ _)⟩)
  dsimp only [Pt.U, Pt.locs, Pt.cells, Pt.slots] at X1 l1 y1 z1 st1 hQ1
  subst l1 y1 z1
  obtain ⟨rfl, N1q, e1q⟩ := hQ1
  have N1 := Fr.app N0 N1q
  obtain ⟨T2, X2, e2, st2⟩ := getF X1 hx hZ hown (host := "") (Or.inl (hwd36 hw)) Via.refl e1q F_length_a (g := (mkF m 10 #[.val (.ref a), .val (.int ch), .val (.int (own_bl ch))] [(.ref a)])) rfl rfl (hb hby d5_10)
  obtain ⟨fs, hr, hrun, hended, hW, hsame⟩ := X2.leave (v := none) (fun _ => rfl)
  refine ⟨_, _, pre0 _ ?_, hrun, hended, _, _, rfl, ?_, ⟨_, rfl⟩, hW, hsame.mono (by decide) (by decide)⟩
  · show Steps p.tables e below (s₁.setTop (mkF m 0 #[.val (.ref a), .val (.int ch), .unset] [])) _
    refine XS.iloadN X0.here hx rfl (hb hby d5_0) rfl ?_
    refine st1 _ ?_
    refine XS.istoreN X1.here hx rfl (hb hby d5_4) rfl (l' := #[.val (.ref a), .val (.int ch), .val (.int (own_bl ch))]) rfl ?_
    refine XS.iloadN X1.here hx rfl (hb hby d5_5) rfl ?_
    refine XS.ifNo X1.here hx rfl (hb hby d5_6) rfl ((if0 _ _).trans (feq (show ¬ ((own_bl ch) = (0 : Int32)) from hbk)).1) ?_
    refine XS.aloadN X1.here hx rfl (hb hby d5_9) rfl rfl ?_
    show Steps p.tables e below (T1.setTop (mkF m 10 #[.val (.ref a), .val (.int ch), .val (.int (own_bl ch))] [(.ref a)])) _
    refine st2 _ ?_
    refine XS.lconst X2.here hx rfl (hb hby d5_13) ?_
    refine XS.lcmp X2.here hx rfl (hb hby d5_14) rfl ?_
    refine XS.ifYes X2.here hx rfl (pc0 := 15) (pc' := 54) rfl (hb hby d5_15) rfl ((if0 _ _).trans (teq (show (lcmpW (0 : Int64) (0 : Int64)) = (0 : Int32) from (by decide))).1) (by decide) (by decide) ?_
    refine XS.iloadN X2.here hx rfl (hb hby d5_54) rfl ?_
    refine XS.ifYes X2.here hx rfl (pc0 := 55) (pc' := 66) rfl (hb hby d5_55) rfl ((if0 _ _).trans (feq (show ¬ ((own_bl ch) = (0 : Int32)) from hbk)).2) (by decide) (by decide) ?_
    show Steps p.tables e below (T2.setTop (mkF m 66 #[.val (.ref a), .val (.int ch), .val (.int (own_bl ch))] [])) _
    exact X2.returnOut hx Bd.returns (hb hby d5_66) hr
  · show Qtk0b Z a ar ch kc f h0 n0 _ T2.heap _
    rw [e2]
    exact ⟨rfl, N1, rfl⟩
theorem hwd106 {Z : State} {a0 : Array Value} (hw : ∀ d ∈ tables_1, d.before a0 Z = true) : (Jvm.Cond.methodLink "com/example/libsitemap/libsitemap/ValueText" (31 : Nat) ({ cls := "com/example/libsitemap/libsitemap/ValueText", name := "room", desc := "(I)I" } : Jvm.MethodName)).before a0 Z = true := hw _ (List.mem_of_getElem? (i := 106) rfl)
theorem hwd109 {Z : State} {a0 : Array Value} (hw : ∀ d ∈ tables_1, d.before a0 Z = true) : (Jvm.Cond.code ({ cls := "com/example/libsitemap/libsitemap/ValueText", name := "room", desc := "(I)I" } : Jvm.MethodName) prog_46_method_8_code (3 : Nat) (Option.some Jvm.ClassFile.FieldType.int)).before a0 Z = true := hw _ (List.mem_of_getElem? (i := 109) rfl)
theorem pd_3 : parseMethodDescriptor "(I)I" = some ⟨[.int], some .int⟩ := by decide +kernel
theorem own_selp {s : State} {args : Array Value} {y : MethodName} {n : Nat} (wi : (Cond.instantiable y.cls n).before args s = true) (hpriv : s.PrivateAt y) (hinst : (Cond.instanceMethod y).before args s = true) (hy : y.cls ≠ "java/lang/invoke/MethodHandle" ∧ y.cls ≠ "java/lang/invoke/VarHandle") : (Cond.selects y.cls y y).before args s = true := by
  obtain ⟨c, k, hc, hk, -, hni, -, -⟩ := Cond.instantiable_spec wi
  exact selects_self_of_private hc hk (Bool.or_eq_false_iff.mp hni).1 hpriv hinst hy
theorem hwd108 {Z : State} {a0 : Array Value} (hw : ∀ d ∈ tables_1, d.before a0 Z = true) : (Jvm.Cond.privateMethod ({ cls := "com/example/libsitemap/libsitemap/ValueText", name := "room", desc := "(I)I" } : Jvm.MethodName)).before a0 Z = true := hw _ (List.mem_of_getElem? (i := 108) rfl)
theorem hwd107 {Z : State} {a0 : Array Value} (hw : ∀ d ∈ tables_1, d.before a0 Z = true) : (Jvm.Cond.instanceMethod ({ cls := "com/example/libsitemap/libsitemap/ValueText", name := "room", desc := "(I)I" } : Jvm.MethodName)).before a0 Z = true := hw _ (List.mem_of_getElem? (i := 107) rfl)
theorem hwd45 {Z : State} {a0 : Array Value} (hw : ∀ d ∈ tables_1, d.before a0 Z = true) : (Jvm.Cond.fieldLink "com/example/libsitemap/libsitemap/ValueText" (38 : Nat) "com/example/libsitemap/libsitemap/ValueText" "valueLength" "J").before a0 Z = true := hw _ (List.mem_of_getElem? (i := 45) rfl)
theorem d5_18 : decode prog_46_method_3_code 18 = .ok (.aload_n 0, 1) := by decide +kernel
theorem d5_19 : decode prog_46_method_3_code 19 = .ok (.iconst 1, 1) := by decide +kernel
theorem d5_20 : decode prog_46_method_3_code 20 = .ok (.invokevirtual 31, 3) := by decide +kernel
theorem d5_23 : decode prog_46_method_3_code 23 = .ok (.iconst 1, 1) := by decide +kernel
theorem d5_24 : decode prog_46_method_3_code 24 = .ok (.if_icmp .ne 20, 3) := by decide +kernel
theorem d5_27 : decode prog_46_method_3_code 27 = .ok (.aload_n 0, 1) := by decide +kernel
theorem d5_28 : decode prog_46_method_3_code 28 = .ok (.getfield 9, 3) := by decide +kernel
theorem d5_31 : decode prog_46_method_3_code 31 = .ok (.aload_n 0, 1) := by decide +kernel
theorem d5_32 : decode prog_46_method_3_code 32 = .ok (.dup, 1) := by decide +kernel
theorem d5_33 : decode prog_46_method_3_code 33 = .ok (.getfield 35, 3) := by decide +kernel
theorem d5_36 : decode prog_46_method_3_code 36 = .ok (.dup_x1, 1) := by decide +kernel
theorem d5_37 : decode prog_46_method_3_code 37 = .ok (.iconst 1, 1) := by decide +kernel
theorem d5_38 : decode prog_46_method_3_code 38 = .ok (.iadd, 1) := by decide +kernel
theorem d5_39 : decode prog_46_method_3_code 39 = .ok (.putfield 35, 3) := by decide +kernel
theorem d5_42 : decode prog_46_method_3_code 42 = .ok (.iload_n 1, 1) := by decide +kernel
theorem d5_43 : decode prog_46_method_3_code 43 = .ok (.castore, 1) := by decide +kernel
theorem d5_44 : decode prog_46_method_3_code 44 = .ok (.aload_n 0, 1) := by decide +kernel
theorem d5_45 : decode prog_46_method_3_code 45 = .ok (.dup, 1) := by decide +kernel
theorem d5_46 : decode prog_46_method_3_code 46 = .ok (.getfield 27, 3) := by decide +kernel
theorem d5_49 : decode prog_46_method_3_code 49 = .ok (.lconst 1, 1) := by decide +kernel
theorem d5_50 : decode prog_46_method_3_code 50 = .ok (.ladd, 1) := by decide +kernel
theorem d5_51 : decode prog_46_method_3_code 51 = .ok (.putfield 27, 3) := by decide +kernel
theorem d5_58 : decode prog_46_method_3_code 58 = .ok (.aload_n 0, 1) := by decide +kernel
theorem d5_59 : decode prog_46_method_3_code 59 = .ok (.aload_n 0, 1) := by decide +kernel
theorem d5_60 : decode prog_46_method_3_code 60 = .ok (.getfield 27, 3) := by decide +kernel
theorem d5_63 : decode prog_46_method_3_code 63 = .ok (.putfield 38, 3) := by decide +kernel
def Qtk0n (Z : State) (a : Addr) (ar : Addr) (ch : Int32) (kc : Int32) (f : Nat → Value) (h0 : Heap) (n0 : Nat) (v : Option Value) (h : Heap) (L : List Loc) : Prop := v = none ∧ Fr n0 L ∧ Keep h0 h [a, ar] ∧ Exa Z h a "com/example/libsitemap/libsitemap/ValueText" ∧ Fld Z h a "com/example/libsitemap/libsitemap/ValueText" "kept" "[C" (.ref ar) ∧ Fld Z h a "com/example/libsitemap/libsitemap/ValueText" "keptChars" "I" (.int (kc + (1 : Int32))) ∧ Fld Z h a "com/example/libsitemap/libsitemap/ValueText" "keptLength" "I" (.int (1 : Int32)) ∧ Fld Z h a "com/example/libsitemap/libsitemap/ValueText" "length" "J" (.long (1 : Int64)) ∧ Fld Z h a "com/example/libsitemap/libsitemap/ValueText" "valueLength" "J" (.long (1 : Int64)) ∧ Av Z h ar .char 64 (fun jj_ => if jj_ = 0 then (.int ch) else f jj_)
abbrev Rm_tk0n : Room := { frames := 2, cells := 0, slots := 0, locals := 27 }
set_option maxRecDepth 65536 in
set_option maxHeartbeats 40000000 in
theorem tk0n (l : Launch) (Z : State) (a0 : Array Value) (hw : ∀ d ∈ tables_1, d.before a0 Z = true) (ws : List Jvm.Cond) (a : Addr) (ar : Addr) (ch : Int32) (kc : Int32) (f : Nat → Value) (h0 : Heap) (n0 : Nat) (Z0 : n0 ≤ h0.size) (E_a : Exa Z h0 a "com/example/libsitemap/libsitemap/ValueText") (F_kept_a : Fld Z h0 a "com/example/libsitemap/libsitemap/ValueText" "kept" "[C" (.ref ar)) (F_keptChars_a : Fld Z h0 a "com/example/libsitemap/libsitemap/ValueText" "keptChars" "I" (.int (kc + (1 : Int32)))) (F_keptLength_a : Fld Z h0 a "com/example/libsitemap/libsitemap/ValueText" "keptLength" "I" (.int (0 : Int32))) (F_length_a : Fld Z h0 a "com/example/libsitemap/libsitemap/ValueText" "length" "J" (.long (0 : Int64))) (F_valueLength_a : Fld Z h0 a "com/example/libsitemap/libsitemap/ValueText" "valueLength" "J" (.long (0 : Int64))) (A_ar : Av Z h0 ar .char 64 f) (g_a : n0 ≤ a) (g_ar : n0 ≤ ar) (ne_a_ar : a ≠ ar) (hch : Lat ch) (hbk : own_bl ch = (0 : Int32)) (hkc : (kc = 128 ∨ kc = 2047)) :
    MetFree l my7 (head1 (Jvm.Cond.code my7 prog_46_method_3_code 3 none :: ws) Rm_tk0n) (fun aa_ U => aa_ = #[(.ref a), (.int ch)] ∧ Z.Warmed39 U.vm ∧ U.heap = h0) (fun _ _ _ _ _ => True) (fun _ U oo_ U' => ∃ v L, oo_ = .returned v ∧ Qtk0n Z a ar ch kc f h0 n0 v U'.heap L ∧ FrameEnd U oo_ U' L Rm_tk0n.cells Rm_tk0n.slots) := by
  refine MetFree.of_bodySF (plainFor_of_name pn_1) hisR ?_
  intro p e s m args below meth c s₁ Bd hml0 hP hK
  obtain ⟨rfl, hZ, hh⟩ := hP
  have hx := Bd.exec
  have hby := Bd.bytes
  have hml : c.maxLocals = 3 := hml0
  have hown : s.vm.findClass "com/example/libsitemap/libsitemap/ValueText" = some m.cls := findClass_of_methodNamed Bd.named
  have hnm := (name_of_methodNamed Bd.named Bd.method).1
  have X0 : Stand p l e Rm_tk0n s m #[(.ref a), (.int ch)] below meth c s₁ [] 0 0 := Stand.of_body Bd
  have e0 : s₁.heap = h0 := by rw [← hh, Bd.state]; rfl
  have N0 := Fr.nil n0
  have pre0 : ∀ tt_, Steps p.tables e below (s₁.setTop (mkF m 0 #[.val (.ref a), .val (.int ch), .unset] [])) tt_ → Steps p.tables e below (s₁.setTop (entryFrame m #[(.ref a), (.int ch)] 3)) tt_ := fun tt_ kk_ => castTop (ef_5 m a ch) kk_
  obtain ⟨_, _, ⟨T1, L1, k1, n1⟩, -, X1, ⟨Lc1, hQ1, l1, y1, z1⟩, st1⟩ := Jvm.LawKit.callS X0 hx (y := my1) hown (mvT hZ (hwd33 hw)) (mvT hZ (hwd34 hw)) (mvT hZ (hwd9 hw)) (mvT hZ (hwd35 hw)) (by decide) (backOf (W := 0) (isb l Z a0 hw [] ch h0 n0 Z0 ) hZ (hwd35 hw) (hwd9 hw) (by decide) (by decide)) (g := (mkF m 1 #[.val (.ref a), .val (.int ch), .unset] [(.int ch)])) rfl (by rw [hml]; rfl) (argsL := [(.int ch)]) (rest := []) (lenOf pd_2 rfl) rfl (by show 2 * 0 + _ ≤ _; exact Nat.le_of_eq rfl) (hb hby d5_1) (fun _ _ => ⟨rfl, e0, (by decide : 0 + 0 ≤ _), (by decide : 0 + 0 ≤ _)⟩)
  dsimp only [Pt.U, Pt.locs, Pt.cells, Pt.slots] at X1 l1 y1 z1 st1 hQ1
  subst l1 y1 z1
  obtain ⟨rfl, N1q, e1q⟩ := hQ1
  have N1 := Fr.app N0 N1q
  obtain ⟨cq2, q2, q2'⟩ := E_a.cell
  obtain ⟨_, _, ⟨T2, L2, k2, n2⟩, -, X2, ⟨Lc2, hQ2, l2, y2, z2⟩, st2⟩ := X1.privateBack hx (y := my6) hown (mvT hZ (hwd106 hw)) (mvT hZ (hwd107 hw)) (own_selp (y := my6) (mvT hZ (hwd8 hw)) (Cond.privateMethod_at (mvP hZ (hwd108 hw) (args := #[]))) (mvT hZ (hwd107 hw)) (by decide)) (Cond.privateMethod_at (mvP hZ (hwd108 hw) (args := #[]))) (mvT hZ (hwd109 hw)) (by decide) (backOf (W := 0) (room0 l Z a0 hw [] a ar kc f h0 n0 Z0 F_kept_a F_keptChars_a F_keptLength_a A_ar hkc) hZ (hwd109 hw) (hwd9 hw) (by decide) (by decide)) (g := (mkF m 20 #[.val (.ref a), .val (.int ch), .val (.int (own_bl ch))] [(.int (1 : Int32)), (.ref a)])) rfl (by rw [hml]; rfl) (Steps.refl _) (a := a) (by rw [e1q]; exact q2) q2' (argsL := [(.int (1 : Int32))]) (rest := []) (lenOf pd_3 rfl) rfl (by show 2 * 0 + _ ≤ _; exact Nat.le_of_eq rfl) (hb hby d5_20) (fun _ _ => ⟨rfl, e1q, (by decide : 0 + 0 ≤ _), (by decide : 0 + 0 ≤ _)⟩)
  dsimp only [Pt.U, Pt.locs, Pt.cells, Pt.slots] at X2 l2 y2 z2 st2 hQ2
  subst l2 y2 z2
  obtain ⟨rfl, N2q, e2q⟩ := hQ2
  have N2 := Fr.app N1 N2q
  obtain ⟨T3, X3, e3, st3⟩ := getF X2 hx hZ hown (host := "") (Or.inl (hwd17 hw)) Via.refl e2q F_kept_a (g := (mkF m 28 #[.val (.ref a), .val (.int ch), .val (.int (own_bl ch))] [(.ref a)])) rfl rfl (hb hby d5_28)
  obtain ⟨T4, X4, e4, st4⟩ := getF X3 hx hZ hown (host := "") (Or.inl (hwd43 hw)) Via.refl e3 F_keptLength_a (g := (mkF m 33 #[.val (.ref a), .val (.int ch), .val (.int (own_bl ch))] [(.ref a), (.ref a), (.ref ar)])) rfl rfl (hb hby d5_33)
  obtain ⟨T5, h5, X5, e5, W5, st5⟩ := putF X4 hx hZ hown (host := "") (Or.inl (hwd43 hw)) Via.refl e4 F_keptLength_a E_a (Or.inl (hwd44 hw)) (hwd8 hw) (ty := .int) (by decide) rfl rfl (g := (mkF m 39 #[.val (.ref a), .val (.int ch), .val (.int (own_bl ch))] [(.int (1 : Int32)), (.ref a), (.int (0 : Int32)), (.ref ar)])) rfl rfl (hb hby d5_39)
  have N5 := Fr.snoc X5 N2 g_a
  have Fw5 := F_keptLength_a.same W5
  have f6_A_ar := (A_ar.other W5 (Ne.symm ne_a_ar))
  obtain ⟨cl7, Ar7, S7, H7⟩ := id f6_A_ar
  have hj7 : (0 : Int32).toNatClampNeg = 0 := (by decide)
  have hin7 : ¬ ((0 : Int32) < 0 ∨ cl7.slots.size ≤ ((0 : Int32)).toNatClampNeg) := by rw [S7, hj7]; exact fun q => q.elim (by decide) (Nat.not_le.mpr (by decide))
  obtain ⟨T8, h8, X8, e8, W8, st8⟩ := stC X5 hx hZ e5 Ar7 (j := (0 : Int32)) hin7 (g := (mkF m 43 #[.val (.ref a), .val (.int ch), .val (.int (own_bl ch))] [(.int ch), (.int (0 : Int32)), (.ref ar)])) rfl rfl (hb hby d5_43)
  have N8 := Fr.snoc X8 N5 g_ar
  have Aw8 : Av Z h8 ar .char 64 (fun jj_ => if jj_ = 0 then (.int ch) else f jj_) := Av.set Ar7 S7 H7 W8 hj7 (congrArg Value.int (own_narc hch))
  have f9_F_a_length := ((F_length_a.other W5 (Or.inr (slot_ne (Or.inl (hwd37 hw)) (Or.inl (hwd44 hw)) (by decide) (t := .long) (t' := .int) (by decide) (by decide)))).other W8 (Or.inl ne_a_ar))
  obtain ⟨T10, X10, e10, st10⟩ := getF X8 hx hZ hown (host := "") (Or.inl (hwd36 hw)) Via.refl e8 f9_F_a_length (g := (mkF m 46 #[.val (.ref a), .val (.int ch), .val (.int (own_bl ch))] [(.ref a), (.ref a)])) rfl rfl (hb hby d5_46)
  have f11_E_a := ((E_a.wr W5).wr W8)
  obtain ⟨T12, h12, X12, e12, W12, st12⟩ := putF X10 hx hZ hown (host := "") (Or.inl (hwd36 hw)) Via.refl e10 f9_F_a_length f11_E_a (Or.inl (hwd37 hw)) (hwd8 hw) (ty := .long) (by decide) rfl rfl (g := (mkF m 51 #[.val (.ref a), .val (.int ch), .val (.int (own_bl ch))] [(.long ((0 : Int64) + (1 : Int64))), (.ref a)])) rfl rfl (hb hby d5_51)
  have N12 := Fr.snoc X12 N8 g_a
  have Fw12 := f9_F_a_length.same W12
  obtain ⟨T13, X13, e13, st13⟩ := getF X12 hx hZ hown (host := "") (Or.inl (hwd36 hw)) Via.refl e12 Fw12 (g := (mkF m 60 #[.val (.ref a), .val (.int ch), .val (.int (own_bl ch))] [(.ref a), (.ref a)])) rfl rfl (hb hby d5_60)
  have f14_E_a := (f11_E_a.wr W12)
  have f15_F_a_valueLength := (((F_valueLength_a.other W5 (Or.inr (slot_ne (Or.inl (hwd46 hw)) (Or.inl (hwd44 hw)) (by decide) (t := .long) (t' := .int) (by decide) (by decide)))).other W8 (Or.inl ne_a_ar)).other W12 (Or.inr (slot_ne (Or.inl (hwd46 hw)) (Or.inl (hwd37 hw)) (by decide) (t := .long) (t' := .long) (by decide) (by decide))))
  obtain ⟨T16, h16, X16, e16, W16, st16⟩ := putF X13 hx hZ hown (host := "") (Or.inl (hwd45 hw)) Via.refl e13 f15_F_a_valueLength f14_E_a (Or.inl (hwd46 hw)) (hwd8 hw) (ty := .long) (by decide) rfl rfl (g := (mkF m 63 #[.val (.ref a), .val (.int ch), .val (.int (own_bl ch))] [(.long ((0 : Int64) + (1 : Int64))), (.ref a)])) rfl rfl (hb hby d5_63)
  have N16 := Fr.snoc X16 N12 g_a
  have Fw16 := f15_F_a_valueLength.same W16
  have kp17 : Keep h0 h16 [a, ar] := (((((Keep.refl h0 [a, ar]).wr W5 (Or.inl (List.mem_of_getElem? (i := 0) rfl))).wr W8 (Or.inl (List.mem_of_getElem? (i := 1) rfl))).wr W12 (Or.inl (List.mem_of_getElem? (i := 0) rfl))).wr W16 (Or.inl (List.mem_of_getElem? (i := 0) rfl)))
  have f18_E_a := (f14_E_a.wr W16)
  have f19_F_a_kept := ((((F_kept_a.other W5 (Or.inr (slot_ne (Or.inl (hwd18 hw)) (Or.inl (hwd44 hw)) (by decide) (t := (.array .char)) (t' := .int) (by decide) (by decide)))).other W8 (Or.inl ne_a_ar)).other W12 (Or.inr (slot_ne (Or.inl (hwd18 hw)) (Or.inl (hwd37 hw)) (by decide) (t := (.array .char)) (t' := .long) (by decide) (by decide)))).other W16 (Or.inr (slot_ne (Or.inl (hwd18 hw)) (Or.inl (hwd46 hw)) (by decide) (t := (.array .char)) (t' := .long) (by decide) (by decide))))
  have f20_F_a_keptChars := ((((F_keptChars_a.other W5 (Or.inr (slot_ne (Or.inr (hwd27 hw)) (Or.inl (hwd44 hw)) (by decide) (t := .int) (t' := .int) (by decide) (by decide)))).other W8 (Or.inl ne_a_ar)).other W12 (Or.inr (slot_ne (Or.inr (hwd27 hw)) (Or.inl (hwd37 hw)) (by decide) (t := .int) (t' := .long) (by decide) (by decide)))).other W16 (Or.inr (slot_ne (Or.inr (hwd27 hw)) (Or.inl (hwd46 hw)) (by decide) (t := .int) (t' := .long) (by decide) (by decide))))
  have f21_F_a_keptLength := (((Fw5.other W8 (Or.inl ne_a_ar)).other W12 (Or.inr (slot_ne (Or.inl (hwd44 hw)) (Or.inl (hwd37 hw)) (by decide) (t := .int) (t' := .long) (by decide) (by decide)))).other W16 (Or.inr (slot_ne (Or.inl (hwd44 hw)) (Or.inl (hwd46 hw)) (by decide) (t := .int) (t' := .long) (by decide) (by decide))))
  have f22_F_a_length := (Fw12.other W16 (Or.inr (slot_ne (Or.inl (hwd37 hw)) (Or.inl (hwd46 hw)) (by decide) (t := .long) (t' := .long) (by decide) (by decide))))
  have f23_A_ar := ((Aw8.other W12 (Ne.symm ne_a_ar)).other W16 (Ne.symm ne_a_ar))
  obtain ⟨fs, hr, hrun, hended, hW, hsame⟩ := X16.leave (v := none) (fun _ => rfl)
  refine ⟨_, _, pre0 _ ?_, hrun, hended, _, _, rfl, ?_, ⟨_, rfl⟩, hW, hsame.mono (by decide) (by decide)⟩
  · show Steps p.tables e below (s₁.setTop (mkF m 0 #[.val (.ref a), .val (.int ch), .unset] [])) _
    refine XS.iloadN X0.here hx rfl (hb hby d5_0) rfl ?_
    refine st1 _ ?_
    refine XS.istoreN X1.here hx rfl (hb hby d5_4) rfl (l' := #[.val (.ref a), .val (.int ch), .val (.int (own_bl ch))]) rfl ?_
    refine XS.iloadN X1.here hx rfl (hb hby d5_5) rfl ?_
    refine XS.ifYes X1.here hx rfl (pc0 := 6) (pc' := 18) rfl (hb hby d5_6) rfl ((if0 _ _).trans (teq (show (own_bl ch) = (0 : Int32) from hbk)).1) (by decide) (by decide) ?_
    refine XS.aloadN X1.here hx rfl (hb hby d5_18) rfl rfl ?_
    show Steps p.tables e below (T1.setTop (mkF m 19 #[.val (.ref a), .val (.int ch), .val (.int (own_bl ch))] [(.ref a)])) _
    refine XS.iconst X1.here hx rfl (hb hby d5_19) ?_
    refine st2.trans ?_
    refine XS.iconst X2.here hx rfl (hb hby d5_23) ?_
    refine XS.icmpNo X2.here hx rfl (hb hby d5_24) rfl (teq (show (1 : Int32) = (1 : Int32) from rfl)).2 ?_
    refine XS.aloadN X2.here hx rfl (hb hby d5_27) rfl rfl ?_
    refine st3 _ ?_
    show Steps p.tables e below (T3.setTop (mkF m 31 #[.val (.ref a), .val (.int ch), .val (.int (own_bl ch))] [(.ref ar)])) _
    refine XS.aloadN X3.here hx rfl (hb hby d5_31) rfl rfl ?_
    refine XS.dup X3.here hx rfl (hb hby d5_32) rfl rfl ?_
    refine st4 _ ?_
    refine XS.dupX1 X4.here hx rfl (hb hby d5_36) rfl rfl rfl ?_
    refine XS.iconst X4.here hx rfl (hb hby d5_37) ?_
    refine XS.iadd X4.here hx rfl (hb hby d5_38) rfl ?_
    show Steps p.tables e below (T4.setTop (mkF m 39 #[.val (.ref a), .val (.int ch), .val (.int (own_bl ch))] [(.int ((0 : Int32) + (1 : Int32))), (.ref a), (.int (0 : Int32)), (.ref ar)])) _
    rw [show (((0 : Int32) + (1 : Int32)) : Int32) = (1 : Int32) from by decide]
    refine st5 _ ?_
    refine XS.iloadN X5.here hx rfl (hb hby d5_42) rfl ?_
    refine st8 _ ?_
    refine XS.aloadN X8.here hx rfl (hb hby d5_44) rfl rfl ?_
    refine XS.dup X8.here hx rfl (hb hby d5_45) rfl rfl ?_
    show Steps p.tables e below (T8.setTop (mkF m 46 #[.val (.ref a), .val (.int ch), .val (.int (own_bl ch))] [(.ref a), (.ref a)])) _
    refine st10 _ ?_
    refine XS.lconst X10.here hx rfl (hb hby d5_49) ?_
    refine XS.ladd X10.here hx rfl (hb hby d5_50) rfl ?_
    refine st12 _ ?_
    refine XS.iloadN X12.here hx rfl (hb hby d5_54) rfl ?_
    refine XS.ifNo X12.here hx rfl (hb hby d5_55) rfl ((if0 _ _).trans (teq (show (own_bl ch) = (0 : Int32) from hbk)).2) ?_
    show Steps p.tables e below (T12.setTop (mkF m 58 #[.val (.ref a), .val (.int ch), .val (.int (own_bl ch))] [])) _
    refine XS.aloadN X12.here hx rfl (hb hby d5_58) rfl rfl ?_
    refine XS.aloadN X12.here hx rfl (hb hby d5_59) rfl rfl ?_
    refine st13 _ ?_
    refine st16 _ ?_
    exact X16.returnOut hx Bd.returns (hb hby d5_66) hr
  · show Qtk0n Z a ar ch kc f h0 n0 _ T16.heap _
    rw [e16]
    exact ⟨rfl, N16, kp17, f18_E_a, f19_F_a_kept, f20_F_a_keptChars, f21_F_a_keptLength, f22_F_a_length, Fw16, f23_A_ar⟩
def Qtk1b (Z : State) (a : Addr) (ar : Addr) (ch : Int32) (kc : Int32) (f : Nat → Value) (h0 : Heap) (n0 : Nat) (v : Option Value) (h : Heap) (L : List Loc) : Prop := v = none ∧ Fr n0 L ∧ Keep h0 h [a, ar] ∧ Exa Z h a "com/example/libsitemap/libsitemap/ValueText" ∧ Fld Z h a "com/example/libsitemap/libsitemap/ValueText" "kept" "[C" (.ref ar) ∧ Fld Z h a "com/example/libsitemap/libsitemap/ValueText" "keptChars" "I" (.int (kc + (1 : Int32))) ∧ Fld Z h a "com/example/libsitemap/libsitemap/ValueText" "keptLength" "I" (.int (2 : Int32)) ∧ Fld Z h a "com/example/libsitemap/libsitemap/ValueText" "length" "J" (.long (2 : Int64)) ∧ Fld Z h a "com/example/libsitemap/libsitemap/ValueText" "valueLength" "J" (.long (1 : Int64)) ∧ Av Z h ar .char 64 (fun jj_ => if jj_ = 1 then (.int ch) else f jj_)
abbrev Rm_tk1b : Room := { frames := 2, cells := 0, slots := 0, locals := 27 }
set_option maxRecDepth 65536 in
set_option maxHeartbeats 40000000 in
theorem tk1b (l : Launch) (Z : State) (a0 : Array Value) (hw : ∀ d ∈ tables_1, d.before a0 Z = true) (ws : List Jvm.Cond) (a : Addr) (ar : Addr) (ch : Int32) (kc : Int32) (f : Nat → Value) (h0 : Heap) (n0 : Nat) (Z0 : n0 ≤ h0.size) (E_a : Exa Z h0 a "com/example/libsitemap/libsitemap/ValueText") (F_kept_a : Fld Z h0 a "com/example/libsitemap/libsitemap/ValueText" "kept" "[C" (.ref ar)) (F_keptChars_a : Fld Z h0 a "com/example/libsitemap/libsitemap/ValueText" "keptChars" "I" (.int (kc + (1 : Int32)))) (F_keptLength_a : Fld Z h0 a "com/example/libsitemap/libsitemap/ValueText" "keptLength" "I" (.int (1 : Int32))) (F_length_a : Fld Z h0 a "com/example/libsitemap/libsitemap/ValueText" "length" "J" (.long (1 : Int64))) (F_valueLength_a : Fld Z h0 a "com/example/libsitemap/libsitemap/ValueText" "valueLength" "J" (.long (1 : Int64))) (A_ar : Av Z h0 ar .char 64 f) (g_a : n0 ≤ a) (g_ar : n0 ≤ ar) (ne_a_ar : a ≠ ar) (hch : Lat ch) (hbk : ¬ (own_bl ch = (0 : Int32))) (hkc : (kc = 128 ∨ kc = 2047)) :
    MetFree l my7 (head1 (Jvm.Cond.code my7 prog_46_method_3_code 3 none :: ws) Rm_tk1b) (fun aa_ U => aa_ = #[(.ref a), (.int ch)] ∧ Z.Warmed39 U.vm ∧ U.heap = h0) (fun _ _ _ _ _ => True) (fun _ U oo_ U' => ∃ v L, oo_ = .returned v ∧ Qtk1b Z a ar ch kc f h0 n0 v U'.heap L ∧ FrameEnd U oo_ U' L Rm_tk1b.cells Rm_tk1b.slots) := by
  refine MetFree.of_bodySF (plainFor_of_name pn_1) hisR ?_
  intro p e s m args below meth c s₁ Bd hml0 hP hK
  obtain ⟨rfl, hZ, hh⟩ := hP
  have hx := Bd.exec
  have hby := Bd.bytes
  have hml : c.maxLocals = 3 := hml0
  have hown : s.vm.findClass "com/example/libsitemap/libsitemap/ValueText" = some m.cls := findClass_of_methodNamed Bd.named
  have hnm := (name_of_methodNamed Bd.named Bd.method).1
  have X0 : Stand p l e Rm_tk1b s m #[(.ref a), (.int ch)] below meth c s₁ [] 0 0 := Stand.of_body Bd
  have e0 : s₁.heap = h0 := by rw [← hh, Bd.state]; rfl
  have N0 := Fr.nil n0
  have pre0 : ∀ tt_, Steps p.tables e below (s₁.setTop (mkF m 0 #[.val (.ref a), .val (.int ch), .unset] [])) tt_ → Steps p.tables e below (s₁.setTop (entryFrame m #[(.ref a), (.int ch)] 3)) tt_ := fun tt_ kk_ => castTop (ef_5 m a ch) kk_
  obtain ⟨_, _, ⟨T1, L1, k1, n1⟩, -, X1, ⟨Lc1, hQ1, l1, y1, z1⟩, st1⟩ := Jvm.LawKit.callS X0 hx (y := my1) hown (mvT hZ (hwd33 hw)) (mvT hZ (hwd34 hw)) (mvT hZ (hwd9 hw)) (mvT hZ (hwd35 hw)) (by decide) (backOf (W := 0) (isb l Z a0 hw [] ch h0 n0 Z0 ) hZ (hwd35 hw) (hwd9 hw) (by decide) (by decide)) (g := (mkF m 1 #[.val (.ref a), .val (.int ch), .unset] [(.int ch)])) rfl (by rw [hml]; rfl) (argsL := [(.int ch)]) (rest := []) (lenOf pd_2 rfl) rfl (by show 2 * 0 + _ ≤ _; exact Nat.le_of_eq rfl) (hb hby d5_1) (fun _ _ => ⟨rfl, e0, (by decide : 0 + 0 ≤ _), (by decide : 0 + 0 ≤ _)⟩)
  dsimp only [Pt.U, Pt.locs, Pt.cells, Pt.slots] at X1 l1 y1 z1 st1 hQ1
  subst l1 y1 z1
  obtain ⟨rfl, N1q, e1q⟩ := hQ1
  have N1 := Fr.app N0 N1q
  obtain ⟨T2, X2, e2, st2⟩ := getF X1 hx hZ hown (host := "") (Or.inl (hwd36 hw)) Via.refl e1q F_length_a (g := (mkF m 10 #[.val (.ref a), .val (.int ch), .val (.int (own_bl ch))] [(.ref a)])) rfl rfl (hb hby d5_10)
  obtain ⟨cq3, q3, q3'⟩ := E_a.cell
  obtain ⟨_, _, ⟨T3, L3, k3, n3⟩, -, X3, ⟨Lc3, hQ3, l3, y3, z3⟩, st3⟩ := X2.privateBack hx (y := my6) hown (mvT hZ (hwd106 hw)) (mvT hZ (hwd107 hw)) (own_selp (y := my6) (mvT hZ (hwd8 hw)) (Cond.privateMethod_at (mvP hZ (hwd108 hw) (args := #[]))) (mvT hZ (hwd107 hw)) (by decide)) (Cond.privateMethod_at (mvP hZ (hwd108 hw) (args := #[]))) (mvT hZ (hwd109 hw)) (by decide) (backOf (W := 0) (room1 l Z a0 hw [] a ar kc f h0 n0 Z0 F_kept_a F_keptChars_a F_keptLength_a A_ar hkc) hZ (hwd109 hw) (hwd9 hw) (by decide) (by decide)) (g := (mkF m 20 #[.val (.ref a), .val (.int ch), .val (.int (own_bl ch))] [(.int (1 : Int32)), (.ref a)])) rfl (by rw [hml]; rfl) (Steps.refl _) (a := a) (by rw [e2]; exact q3) q3' (argsL := [(.int (1 : Int32))]) (rest := []) (lenOf pd_3 rfl) rfl (by show 2 * 0 + _ ≤ _; exact Nat.le_of_eq rfl) (hb hby d5_20) (fun _ _ => ⟨rfl, e2, (by decide : 0 + 0 ≤ _), (by decide : 0 + 0 ≤ _)⟩)
  dsimp only [Pt.U, Pt.locs, Pt.cells, Pt.slots] at X3 l3 y3 z3 st3 hQ3
  subst l3 y3 z3
  obtain ⟨rfl, N3q, e3q⟩ := hQ3
  have N3 := Fr.app N1 N3q
  obtain ⟨T4, X4, e4, st4⟩ := getF X3 hx hZ hown (host := "") (Or.inl (hwd17 hw)) Via.refl e3q F_kept_a (g := (mkF m 28 #[.val (.ref a), .val (.int ch), .val (.int (own_bl ch))] [(.ref a)])) rfl rfl (hb hby d5_28)
  obtain ⟨T5, X5, e5, st5⟩ := getF X4 hx hZ hown (host := "") (Or.inl (hwd43 hw)) Via.refl e4 F_keptLength_a (g := (mkF m 33 #[.val (.ref a), .val (.int ch), .val (.int (own_bl ch))] [(.ref a), (.ref a), (.ref ar)])) rfl rfl (hb hby d5_33)
  obtain ⟨T6, h6, X6, e6, W6, st6⟩ := putF X5 hx hZ hown (host := "") (Or.inl (hwd43 hw)) Via.refl e5 F_keptLength_a E_a (Or.inl (hwd44 hw)) (hwd8 hw) (ty := .int) (by decide) rfl rfl (g := (mkF m 39 #[.val (.ref a), .val (.int ch), .val (.int (own_bl ch))] [(.int (2 : Int32)), (.ref a), (.int (1 : Int32)), (.ref ar)])) rfl rfl (hb hby d5_39)
  have N6 := Fr.snoc X6 N3 g_a
  have Fw6 := F_keptLength_a.same W6
  have f7_A_ar := (A_ar.other W6 (Ne.symm ne_a_ar))
  obtain ⟨cl8, Ar8, S8, H8⟩ := id f7_A_ar
  have hj8 : (1 : Int32).toNatClampNeg = 1 := (by decide)
  have hin8 : ¬ ((1 : Int32) < 0 ∨ cl8.slots.size ≤ ((1 : Int32)).toNatClampNeg) := by rw [S8, hj8]; exact fun q => q.elim (by decide) (Nat.not_le.mpr (by decide))
  obtain ⟨T9, h9, X9, e9, W9, st9⟩ := stC X6 hx hZ e6 Ar8 (j := (1 : Int32)) hin8 (g := (mkF m 43 #[.val (.ref a), .val (.int ch), .val (.int (own_bl ch))] [(.int ch), (.int (1 : Int32)), (.ref ar)])) rfl rfl (hb hby d5_43)
  have N9 := Fr.snoc X9 N6 g_ar
  have Aw9 : Av Z h9 ar .char 64 (fun jj_ => if jj_ = 1 then (.int ch) else f jj_) := Av.set Ar8 S8 H8 W9 hj8 (congrArg Value.int (own_narc hch))
  have f10_F_a_length := ((F_length_a.other W6 (Or.inr (slot_ne (Or.inl (hwd37 hw)) (Or.inl (hwd44 hw)) (by decide) (t := .long) (t' := .int) (by decide) (by decide)))).other W9 (Or.inl ne_a_ar))
  obtain ⟨T11, X11, e11, st11⟩ := getF X9 hx hZ hown (host := "") (Or.inl (hwd36 hw)) Via.refl e9 f10_F_a_length (g := (mkF m 46 #[.val (.ref a), .val (.int ch), .val (.int (own_bl ch))] [(.ref a), (.ref a)])) rfl rfl (hb hby d5_46)
  have f12_E_a := ((E_a.wr W6).wr W9)
  obtain ⟨T13, h13, X13, e13, W13, st13⟩ := putF X11 hx hZ hown (host := "") (Or.inl (hwd36 hw)) Via.refl e11 f10_F_a_length f12_E_a (Or.inl (hwd37 hw)) (hwd8 hw) (ty := .long) (by decide) rfl rfl (g := (mkF m 51 #[.val (.ref a), .val (.int ch), .val (.int (own_bl ch))] [(.long ((1 : Int64) + (1 : Int64))), (.ref a)])) rfl rfl (hb hby d5_51)
  have N13 := Fr.snoc X13 N9 g_a
  have Fw13 := f10_F_a_length.same W13
  have kp14 : Keep h0 h13 [a, ar] := ((((Keep.refl h0 [a, ar]).wr W6 (Or.inl (List.mem_of_getElem? (i := 0) rfl))).wr W9 (Or.inl (List.mem_of_getElem? (i := 1) rfl))).wr W13 (Or.inl (List.mem_of_getElem? (i := 0) rfl)))
  have f15_E_a := (f12_E_a.wr W13)
  have f16_F_a_kept := (((F_kept_a.other W6 (Or.inr (slot_ne (Or.inl (hwd18 hw)) (Or.inl (hwd44 hw)) (by decide) (t := (.array .char)) (t' := .int) (by decide) (by decide)))).other W9 (Or.inl ne_a_ar)).other W13 (Or.inr (slot_ne (Or.inl (hwd18 hw)) (Or.inl (hwd37 hw)) (by decide) (t := (.array .char)) (t' := .long) (by decide) (by decide))))
  have f17_F_a_keptChars := (((F_keptChars_a.other W6 (Or.inr (slot_ne (Or.inr (hwd27 hw)) (Or.inl (hwd44 hw)) (by decide) (t := .int) (t' := .int) (by decide) (by decide)))).other W9 (Or.inl ne_a_ar)).other W13 (Or.inr (slot_ne (Or.inr (hwd27 hw)) (Or.inl (hwd37 hw)) (by decide) (t := .int) (t' := .long) (by decide) (by decide))))
  have f18_F_a_keptLength := ((Fw6.other W9 (Or.inl ne_a_ar)).other W13 (Or.inr (slot_ne (Or.inl (hwd44 hw)) (Or.inl (hwd37 hw)) (by decide) (t := .int) (t' := .long) (by decide) (by decide))))
  have f19_F_a_valueLength := (((F_valueLength_a.other W6 (Or.inr (slot_ne (Or.inl (hwd46 hw)) (Or.inl (hwd44 hw)) (by decide) (t := .long) (t' := .int) (by decide) (by decide)))).other W9 (Or.inl ne_a_ar)).other W13 (Or.inr (slot_ne (Or.inl (hwd46 hw)) (Or.inl (hwd37 hw)) (by decide) (t := .long) (t' := .long) (by decide) (by decide))))
  have f20_A_ar := (Aw9.other W13 (Ne.symm ne_a_ar))
  obtain ⟨fs, hr, hrun, hended, hW, hsame⟩ := X13.leave (v := none) (fun _ => rfl)
  refine ⟨_, _, pre0 _ ?_, hrun, hended, _, _, rfl, ?_, ⟨_, rfl⟩, hW, hsame.mono (by decide) (by decide)⟩
  · show Steps p.tables e below (s₁.setTop (mkF m 0 #[.val (.ref a), .val (.int ch), .unset] [])) _
    refine XS.iloadN X0.here hx rfl (hb hby d5_0) rfl ?_
    refine st1 _ ?_
    refine XS.istoreN X1.here hx rfl (hb hby d5_4) rfl (l' := #[.val (.ref a), .val (.int ch), .val (.int (own_bl ch))]) rfl ?_
    refine XS.iloadN X1.here hx rfl (hb hby d5_5) rfl ?_
    refine XS.ifNo X1.here hx rfl (hb hby d5_6) rfl ((if0 _ _).trans (feq (show ¬ ((own_bl ch) = (0 : Int32)) from hbk)).1) ?_
    refine XS.aloadN X1.here hx rfl (hb hby d5_9) rfl rfl ?_
    show Steps p.tables e below (T1.setTop (mkF m 10 #[.val (.ref a), .val (.int ch), .val (.int (own_bl ch))] [(.ref a)])) _
    refine st2 _ ?_
    refine XS.lconst X2.here hx rfl (hb hby d5_13) ?_
    refine XS.lcmp X2.here hx rfl (hb hby d5_14) rfl ?_
    refine XS.ifNo X2.here hx rfl (hb hby d5_15) rfl ((if0 _ _).trans (feq (show ¬ ((lcmpW (1 : Int64) (0 : Int64)) = (0 : Int32)) from (by decide))).1) ?_
    refine XS.aloadN X2.here hx rfl (hb hby d5_18) rfl rfl ?_
    refine XS.iconst X2.here hx rfl (hb hby d5_19) ?_
    show Steps p.tables e below (T2.setTop (mkF m 20 #[.val (.ref a), .val (.int ch), .val (.int (own_bl ch))] [(.int (1 : Int32)), (.ref a)])) _
    refine st3.trans ?_
    refine XS.iconst X3.here hx rfl (hb hby d5_23) ?_
    refine XS.icmpNo X3.here hx rfl (hb hby d5_24) rfl (teq (show (1 : Int32) = (1 : Int32) from rfl)).2 ?_
    refine XS.aloadN X3.here hx rfl (hb hby d5_27) rfl rfl ?_
    refine st4 _ ?_
    refine XS.aloadN X4.here hx rfl (hb hby d5_31) rfl rfl ?_
    show Steps p.tables e below (T4.setTop (mkF m 32 #[.val (.ref a), .val (.int ch), .val (.int (own_bl ch))] [(.ref a), (.ref ar)])) _
    refine XS.dup X4.here hx rfl (hb hby d5_32) rfl rfl ?_
    refine st5 _ ?_
    refine XS.dupX1 X5.here hx rfl (hb hby d5_36) rfl rfl rfl ?_
    refine XS.iconst X5.here hx rfl (hb hby d5_37) ?_
    refine XS.iadd X5.here hx rfl (hb hby d5_38) rfl ?_
    show Steps p.tables e below (T5.setTop (mkF m 39 #[.val (.ref a), .val (.int ch), .val (.int (own_bl ch))] [(.int ((1 : Int32) + (1 : Int32))), (.ref a), (.int (1 : Int32)), (.ref ar)])) _
    rw [show (((1 : Int32) + (1 : Int32)) : Int32) = (2 : Int32) from by decide]
    refine st6 _ ?_
    refine XS.iloadN X6.here hx rfl (hb hby d5_42) rfl ?_
    refine st9 _ ?_
    refine XS.aloadN X9.here hx rfl (hb hby d5_44) rfl rfl ?_
    refine XS.dup X9.here hx rfl (hb hby d5_45) rfl rfl ?_
    show Steps p.tables e below (T9.setTop (mkF m 46 #[.val (.ref a), .val (.int ch), .val (.int (own_bl ch))] [(.ref a), (.ref a)])) _
    refine st11 _ ?_
    refine XS.lconst X11.here hx rfl (hb hby d5_49) ?_
    refine XS.ladd X11.here hx rfl (hb hby d5_50) rfl ?_
    refine st13 _ ?_
    refine XS.iloadN X13.here hx rfl (hb hby d5_54) rfl ?_
    refine XS.ifYes X13.here hx rfl (pc0 := 55) (pc' := 66) rfl (hb hby d5_55) rfl ((if0 _ _).trans (feq (show ¬ ((own_bl ch) = (0 : Int32)) from hbk)).2) (by decide) (by decide) ?_
    show Steps p.tables e below (T13.setTop (mkF m 66 #[.val (.ref a), .val (.int ch), .val (.int (own_bl ch))] [])) _
    exact X13.returnOut hx Bd.returns (hb hby d5_66) hr
  · show Qtk1b Z a ar ch kc f h0 n0 _ T13.heap _
    rw [e13]
    exact ⟨rfl, N13, kp14, f15_E_a, f16_F_a_kept, f17_F_a_keptChars, f18_F_a_keptLength, Fw13, f19_F_a_valueLength, f20_A_ar⟩
def Qtk1n (Z : State) (a : Addr) (ar : Addr) (ch : Int32) (kc : Int32) (f : Nat → Value) (h0 : Heap) (n0 : Nat) (v : Option Value) (h : Heap) (L : List Loc) : Prop := v = none ∧ Fr n0 L ∧ Keep h0 h [a, ar] ∧ Exa Z h a "com/example/libsitemap/libsitemap/ValueText" ∧ Fld Z h a "com/example/libsitemap/libsitemap/ValueText" "kept" "[C" (.ref ar) ∧ Fld Z h a "com/example/libsitemap/libsitemap/ValueText" "keptChars" "I" (.int (kc + (1 : Int32))) ∧ Fld Z h a "com/example/libsitemap/libsitemap/ValueText" "keptLength" "I" (.int (2 : Int32)) ∧ Fld Z h a "com/example/libsitemap/libsitemap/ValueText" "length" "J" (.long (2 : Int64)) ∧ Fld Z h a "com/example/libsitemap/libsitemap/ValueText" "valueLength" "J" (.long (2 : Int64)) ∧ Av Z h ar .char 64 (fun jj_ => if jj_ = 1 then (.int ch) else f jj_)
abbrev Rm_tk1n : Room := { frames := 2, cells := 0, slots := 0, locals := 27 }
set_option maxRecDepth 65536 in
set_option maxHeartbeats 40000000 in
theorem tk1n (l : Launch) (Z : State) (a0 : Array Value) (hw : ∀ d ∈ tables_1, d.before a0 Z = true) (ws : List Jvm.Cond) (a : Addr) (ar : Addr) (ch : Int32) (kc : Int32) (f : Nat → Value) (h0 : Heap) (n0 : Nat) (Z0 : n0 ≤ h0.size) (E_a : Exa Z h0 a "com/example/libsitemap/libsitemap/ValueText") (F_kept_a : Fld Z h0 a "com/example/libsitemap/libsitemap/ValueText" "kept" "[C" (.ref ar)) (F_keptChars_a : Fld Z h0 a "com/example/libsitemap/libsitemap/ValueText" "keptChars" "I" (.int (kc + (1 : Int32)))) (F_keptLength_a : Fld Z h0 a "com/example/libsitemap/libsitemap/ValueText" "keptLength" "I" (.int (1 : Int32))) (F_length_a : Fld Z h0 a "com/example/libsitemap/libsitemap/ValueText" "length" "J" (.long (1 : Int64))) (F_valueLength_a : Fld Z h0 a "com/example/libsitemap/libsitemap/ValueText" "valueLength" "J" (.long (1 : Int64))) (A_ar : Av Z h0 ar .char 64 f) (g_a : n0 ≤ a) (g_ar : n0 ≤ ar) (ne_a_ar : a ≠ ar) (hch : Lat ch) (hbk : own_bl ch = (0 : Int32)) (hkc : (kc = 128 ∨ kc = 2047)) :
    MetFree l my7 (head1 (Jvm.Cond.code my7 prog_46_method_3_code 3 none :: ws) Rm_tk1n) (fun aa_ U => aa_ = #[(.ref a), (.int ch)] ∧ Z.Warmed39 U.vm ∧ U.heap = h0) (fun _ _ _ _ _ => True) (fun _ U oo_ U' => ∃ v L, oo_ = .returned v ∧ Qtk1n Z a ar ch kc f h0 n0 v U'.heap L ∧ FrameEnd U oo_ U' L Rm_tk1n.cells Rm_tk1n.slots) := by
  refine MetFree.of_bodySF (plainFor_of_name pn_1) hisR ?_
  intro p e s m args below meth c s₁ Bd hml0 hP hK
  obtain ⟨rfl, hZ, hh⟩ := hP
  have hx := Bd.exec
  have hby := Bd.bytes
  have hml : c.maxLocals = 3 := hml0
  have hown : s.vm.findClass "com/example/libsitemap/libsitemap/ValueText" = some m.cls := findClass_of_methodNamed Bd.named
  have hnm := (name_of_methodNamed Bd.named Bd.method).1
  have X0 : Stand p l e Rm_tk1n s m #[(.ref a), (.int ch)] below meth c s₁ [] 0 0 := Stand.of_body Bd
  have e0 : s₁.heap = h0 := by rw [← hh, Bd.state]; rfl
  have N0 := Fr.nil n0
  have pre0 : ∀ tt_, Steps p.tables e below (s₁.setTop (mkF m 0 #[.val (.ref a), .val (.int ch), .unset] [])) tt_ → Steps p.tables e below (s₁.setTop (entryFrame m #[(.ref a), (.int ch)] 3)) tt_ := fun tt_ kk_ => castTop (ef_5 m a ch) kk_
  obtain ⟨_, _, ⟨T1, L1, k1, n1⟩, -, X1, ⟨Lc1, hQ1, l1, y1, z1⟩, st1⟩ := Jvm.LawKit.callS X0 hx (y := my1) hown (mvT hZ (hwd33 hw)) (mvT hZ (hwd34 hw)) (mvT hZ (hwd9 hw)) (mvT hZ (hwd35 hw)) (by decide) (backOf (W := 0) (isb l Z a0 hw [] ch h0 n0 Z0 ) hZ (hwd35 hw) (hwd9 hw) (by decide) (by decide)) (g := (mkF m 1 #[.val (.ref a), .val (.int ch), .unset] [(.int ch)])) rfl (by rw [hml]; rfl) (argsL := [(.int ch)]) (rest := []) (lenOf pd_2 rfl) rfl (by show 2 * 0 + _ ≤ _; exact Nat.le_of_eq rfl) (hb hby d5_1) (fun _ _ => ⟨rfl, e0, (by decide : 0 + 0 ≤ _), (by decide : 0 + 0 ≤ _)⟩)
  dsimp only [Pt.U, Pt.locs, Pt.cells, Pt.slots] at X1 l1 y1 z1 st1 hQ1
  subst l1 y1 z1
  obtain ⟨rfl, N1q, e1q⟩ := hQ1
  have N1 := Fr.app N0 N1q
  obtain ⟨cq2, q2, q2'⟩ := E_a.cell
  obtain ⟨_, _, ⟨T2, L2, k2, n2⟩, -, X2, ⟨Lc2, hQ2, l2, y2, z2⟩, st2⟩ := X1.privateBack hx (y := my6) hown (mvT hZ (hwd106 hw)) (mvT hZ (hwd107 hw)) (own_selp (y := my6) (mvT hZ (hwd8 hw)) (Cond.privateMethod_at (mvP hZ (hwd108 hw) (args := #[]))) (mvT hZ (hwd107 hw)) (by decide)) (Cond.privateMethod_at (mvP hZ (hwd108 hw) (args := #[]))) (mvT hZ (hwd109 hw)) (by decide) (backOf (W := 0) (room1 l Z a0 hw [] a ar kc f h0 n0 Z0 F_kept_a F_keptChars_a F_keptLength_a A_ar hkc) hZ (hwd109 hw) (hwd9 hw) (by decide) (by decide)) (g := (mkF m 20 #[.val (.ref a), .val (.int ch), .val (.int (own_bl ch))] [(.int (1 : Int32)), (.ref a)])) rfl (by rw [hml]; rfl) (Steps.refl _) (a := a) (by rw [e1q]; exact q2) q2' (argsL := [(.int (1 : Int32))]) (rest := []) (lenOf pd_3 rfl) rfl (by show 2 * 0 + _ ≤ _; exact Nat.le_of_eq rfl) (hb hby d5_20) (fun _ _ => ⟨rfl, e1q, (by decide : 0 + 0 ≤ _), (by decide : 0 + 0 ≤ _)⟩)
  dsimp only [Pt.U, Pt.locs, Pt.cells, Pt.slots] at X2 l2 y2 z2 st2 hQ2
  subst l2 y2 z2
  obtain ⟨rfl, N2q, e2q⟩ := hQ2
  have N2 := Fr.app N1 N2q
  obtain ⟨T3, X3, e3, st3⟩ := getF X2 hx hZ hown (host := "") (Or.inl (hwd17 hw)) Via.refl e2q F_kept_a (g := (mkF m 28 #[.val (.ref a), .val (.int ch), .val (.int (own_bl ch))] [(.ref a)])) rfl rfl (hb hby d5_28)
  obtain ⟨T4, X4, e4, st4⟩ := getF X3 hx hZ hown (host := "") (Or.inl (hwd43 hw)) Via.refl e3 F_keptLength_a (g := (mkF m 33 #[.val (.ref a), .val (.int ch), .val (.int (own_bl ch))] [(.ref a), (.ref a), (.ref ar)])) rfl rfl (hb hby d5_33)
  obtain ⟨T5, h5, X5, e5, W5, st5⟩ := putF X4 hx hZ hown (host := "") (Or.inl (hwd43 hw)) Via.refl e4 F_keptLength_a E_a (Or.inl (hwd44 hw)) (hwd8 hw) (ty := .int) (by decide) rfl rfl (g := (mkF m 39 #[.val (.ref a), .val (.int ch), .val (.int (own_bl ch))] [(.int (2 : Int32)), (.ref a), (.int (1 : Int32)), (.ref ar)])) rfl rfl (hb hby d5_39)
  have N5 := Fr.snoc X5 N2 g_a
  have Fw5 := F_keptLength_a.same W5
  have f6_A_ar := (A_ar.other W5 (Ne.symm ne_a_ar))
  obtain ⟨cl7, Ar7, S7, H7⟩ := id f6_A_ar
  have hj7 : (1 : Int32).toNatClampNeg = 1 := (by decide)
  have hin7 : ¬ ((1 : Int32) < 0 ∨ cl7.slots.size ≤ ((1 : Int32)).toNatClampNeg) := by rw [S7, hj7]; exact fun q => q.elim (by decide) (Nat.not_le.mpr (by decide))
  obtain ⟨T8, h8, X8, e8, W8, st8⟩ := stC X5 hx hZ e5 Ar7 (j := (1 : Int32)) hin7 (g := (mkF m 43 #[.val (.ref a), .val (.int ch), .val (.int (own_bl ch))] [(.int ch), (.int (1 : Int32)), (.ref ar)])) rfl rfl (hb hby d5_43)
  have N8 := Fr.snoc X8 N5 g_ar
  have Aw8 : Av Z h8 ar .char 64 (fun jj_ => if jj_ = 1 then (.int ch) else f jj_) := Av.set Ar7 S7 H7 W8 hj7 (congrArg Value.int (own_narc hch))
  have f9_F_a_length := ((F_length_a.other W5 (Or.inr (slot_ne (Or.inl (hwd37 hw)) (Or.inl (hwd44 hw)) (by decide) (t := .long) (t' := .int) (by decide) (by decide)))).other W8 (Or.inl ne_a_ar))
  obtain ⟨T10, X10, e10, st10⟩ := getF X8 hx hZ hown (host := "") (Or.inl (hwd36 hw)) Via.refl e8 f9_F_a_length (g := (mkF m 46 #[.val (.ref a), .val (.int ch), .val (.int (own_bl ch))] [(.ref a), (.ref a)])) rfl rfl (hb hby d5_46)
  have f11_E_a := ((E_a.wr W5).wr W8)
  obtain ⟨T12, h12, X12, e12, W12, st12⟩ := putF X10 hx hZ hown (host := "") (Or.inl (hwd36 hw)) Via.refl e10 f9_F_a_length f11_E_a (Or.inl (hwd37 hw)) (hwd8 hw) (ty := .long) (by decide) rfl rfl (g := (mkF m 51 #[.val (.ref a), .val (.int ch), .val (.int (own_bl ch))] [(.long ((1 : Int64) + (1 : Int64))), (.ref a)])) rfl rfl (hb hby d5_51)
  have N12 := Fr.snoc X12 N8 g_a
  have Fw12 := f9_F_a_length.same W12
  obtain ⟨T13, X13, e13, st13⟩ := getF X12 hx hZ hown (host := "") (Or.inl (hwd36 hw)) Via.refl e12 Fw12 (g := (mkF m 60 #[.val (.ref a), .val (.int ch), .val (.int (own_bl ch))] [(.ref a), (.ref a)])) rfl rfl (hb hby d5_60)
  have f14_E_a := (f11_E_a.wr W12)
  have f15_F_a_valueLength := (((F_valueLength_a.other W5 (Or.inr (slot_ne (Or.inl (hwd46 hw)) (Or.inl (hwd44 hw)) (by decide) (t := .long) (t' := .int) (by decide) (by decide)))).other W8 (Or.inl ne_a_ar)).other W12 (Or.inr (slot_ne (Or.inl (hwd46 hw)) (Or.inl (hwd37 hw)) (by decide) (t := .long) (t' := .long) (by decide) (by decide))))
  obtain ⟨T16, h16, X16, e16, W16, st16⟩ := putF X13 hx hZ hown (host := "") (Or.inl (hwd45 hw)) Via.refl e13 f15_F_a_valueLength f14_E_a (Or.inl (hwd46 hw)) (hwd8 hw) (ty := .long) (by decide) rfl rfl (g := (mkF m 63 #[.val (.ref a), .val (.int ch), .val (.int (own_bl ch))] [(.long ((1 : Int64) + (1 : Int64))), (.ref a)])) rfl rfl (hb hby d5_63)
  have N16 := Fr.snoc X16 N12 g_a
  have Fw16 := f15_F_a_valueLength.same W16
  have kp17 : Keep h0 h16 [a, ar] := (((((Keep.refl h0 [a, ar]).wr W5 (Or.inl (List.mem_of_getElem? (i := 0) rfl))).wr W8 (Or.inl (List.mem_of_getElem? (i := 1) rfl))).wr W12 (Or.inl (List.mem_of_getElem? (i := 0) rfl))).wr W16 (Or.inl (List.mem_of_getElem? (i := 0) rfl)))
  have f18_E_a := (f14_E_a.wr W16)
  have f19_F_a_kept := ((((F_kept_a.other W5 (Or.inr (slot_ne (Or.inl (hwd18 hw)) (Or.inl (hwd44 hw)) (by decide) (t := (.array .char)) (t' := .int) (by decide) (by decide)))).other W8 (Or.inl ne_a_ar)).other W12 (Or.inr (slot_ne (Or.inl (hwd18 hw)) (Or.inl (hwd37 hw)) (by decide) (t := (.array .char)) (t' := .long) (by decide) (by decide)))).other W16 (Or.inr (slot_ne (Or.inl (hwd18 hw)) (Or.inl (hwd46 hw)) (by decide) (t := (.array .char)) (t' := .long) (by decide) (by decide))))
  have f20_F_a_keptChars := ((((F_keptChars_a.other W5 (Or.inr (slot_ne (Or.inr (hwd27 hw)) (Or.inl (hwd44 hw)) (by decide) (t := .int) (t' := .int) (by decide) (by decide)))).other W8 (Or.inl ne_a_ar)).other W12 (Or.inr (slot_ne (Or.inr (hwd27 hw)) (Or.inl (hwd37 hw)) (by decide) (t := .int) (t' := .long) (by decide) (by decide)))).other W16 (Or.inr (slot_ne (Or.inr (hwd27 hw)) (Or.inl (hwd46 hw)) (by decide) (t := .int) (t' := .long) (by decide) (by decide))))
  have f21_F_a_keptLength := (((Fw5.other W8 (Or.inl ne_a_ar)).other W12 (Or.inr (slot_ne (Or.inl (hwd44 hw)) (Or.inl (hwd37 hw)) (by decide) (t := .int) (t' := .long) (by decide) (by decide)))).other W16 (Or.inr (slot_ne (Or.inl (hwd44 hw)) (Or.inl (hwd46 hw)) (by decide) (t := .int) (t' := .long) (by decide) (by decide))))
  have f22_F_a_length := (Fw12.other W16 (Or.inr (slot_ne (Or.inl (hwd37 hw)) (Or.inl (hwd46 hw)) (by decide) (t := .long) (t' := .long) (by decide) (by decide))))
  have f23_A_ar := ((Aw8.other W12 (Ne.symm ne_a_ar)).other W16 (Ne.symm ne_a_ar))
  obtain ⟨fs, hr, hrun, hended, hW, hsame⟩ := X16.leave (v := none) (fun _ => rfl)
  refine ⟨_, _, pre0 _ ?_, hrun, hended, _, _, rfl, ?_, ⟨_, rfl⟩, hW, hsame.mono (by decide) (by decide)⟩
  · show Steps p.tables e below (s₁.setTop (mkF m 0 #[.val (.ref a), .val (.int ch), .unset] [])) _
    refine XS.iloadN X0.here hx rfl (hb hby d5_0) rfl ?_
    refine st1 _ ?_
    refine XS.istoreN X1.here hx rfl (hb hby d5_4) rfl (l' := #[.val (.ref a), .val (.int ch), .val (.int (own_bl ch))]) rfl ?_
    refine XS.iloadN X1.here hx rfl (hb hby d5_5) rfl ?_
    refine XS.ifYes X1.here hx rfl (pc0 := 6) (pc' := 18) rfl (hb hby d5_6) rfl ((if0 _ _).trans (teq (show (own_bl ch) = (0 : Int32) from hbk)).1) (by decide) (by decide) ?_
    refine XS.aloadN X1.here hx rfl (hb hby d5_18) rfl rfl ?_
    show Steps p.tables e below (T1.setTop (mkF m 19 #[.val (.ref a), .val (.int ch), .val (.int (own_bl ch))] [(.ref a)])) _
    refine XS.iconst X1.here hx rfl (hb hby d5_19) ?_
    refine st2.trans ?_
    refine XS.iconst X2.here hx rfl (hb hby d5_23) ?_
    refine XS.icmpNo X2.here hx rfl (hb hby d5_24) rfl (teq (show (1 : Int32) = (1 : Int32) from rfl)).2 ?_
    refine XS.aloadN X2.here hx rfl (hb hby d5_27) rfl rfl ?_
    refine st3 _ ?_
    show Steps p.tables e below (T3.setTop (mkF m 31 #[.val (.ref a), .val (.int ch), .val (.int (own_bl ch))] [(.ref ar)])) _
    refine XS.aloadN X3.here hx rfl (hb hby d5_31) rfl rfl ?_
    refine XS.dup X3.here hx rfl (hb hby d5_32) rfl rfl ?_
    refine st4 _ ?_
    refine XS.dupX1 X4.here hx rfl (hb hby d5_36) rfl rfl rfl ?_
    refine XS.iconst X4.here hx rfl (hb hby d5_37) ?_
    refine XS.iadd X4.here hx rfl (hb hby d5_38) rfl ?_
    show Steps p.tables e below (T4.setTop (mkF m 39 #[.val (.ref a), .val (.int ch), .val (.int (own_bl ch))] [(.int ((1 : Int32) + (1 : Int32))), (.ref a), (.int (1 : Int32)), (.ref ar)])) _
    rw [show (((1 : Int32) + (1 : Int32)) : Int32) = (2 : Int32) from by decide]
    refine st5 _ ?_
    refine XS.iloadN X5.here hx rfl (hb hby d5_42) rfl ?_
    refine st8 _ ?_
    refine XS.aloadN X8.here hx rfl (hb hby d5_44) rfl rfl ?_
    refine XS.dup X8.here hx rfl (hb hby d5_45) rfl rfl ?_
    show Steps p.tables e below (T8.setTop (mkF m 46 #[.val (.ref a), .val (.int ch), .val (.int (own_bl ch))] [(.ref a), (.ref a)])) _
    refine st10 _ ?_
    refine XS.lconst X10.here hx rfl (hb hby d5_49) ?_
    refine XS.ladd X10.here hx rfl (hb hby d5_50) rfl ?_
    refine st12 _ ?_
    refine XS.iloadN X12.here hx rfl (hb hby d5_54) rfl ?_
    refine XS.ifNo X12.here hx rfl (hb hby d5_55) rfl ((if0 _ _).trans (teq (show (own_bl ch) = (0 : Int32) from hbk)).2) ?_
    show Steps p.tables e below (T12.setTop (mkF m 58 #[.val (.ref a), .val (.int ch), .val (.int (own_bl ch))] [])) _
    refine XS.aloadN X12.here hx rfl (hb hby d5_58) rfl rfl ?_
    refine XS.aloadN X12.here hx rfl (hb hby d5_59) rfl rfl ?_
    refine st13 _ ?_
    refine st16 _ ?_
    exact X16.returnOut hx Bd.returns (hb hby d5_66) hr
  · show Qtk1n Z a ar ch kc f h0 n0 _ T16.heap _
    rw [e16]
    exact ⟨rfl, N16, kp17, f18_E_a, f19_F_a_kept, f20_F_a_keptChars, f21_F_a_keptLength, f22_F_a_length, Fw16, f23_A_ar⟩
theorem d7_0 : decode prog_46_method_9_code 0 = .ok (.aload_n 0, 1) := by decide +kernel
theorem d7_1 : decode prog_46_method_9_code 1 = .ok (.iconst 0, 1) := by decide +kernel
theorem d7_2 : decode prog_46_method_9_code 2 = .ok (.putfield 35, 3) := by decide +kernel
theorem d7_5 : decode prog_46_method_9_code 5 = .ok (.aload_n 0, 1) := by decide +kernel
theorem d7_6 : decode prog_46_method_9_code 6 = .ok (.lconst 0, 1) := by decide +kernel
theorem d7_7 : decode prog_46_method_9_code 7 = .ok (.putfield 27, 3) := by decide +kernel
theorem d7_10 : decode prog_46_method_9_code 10 = .ok (.aload_n 0, 1) := by decide +kernel
theorem d7_11 : decode prog_46_method_9_code 11 = .ok (.lconst 0, 1) := by decide +kernel
theorem d7_12 : decode prog_46_method_9_code 12 = .ok (.putfield 38, 3) := by decide +kernel
theorem d7_15 : decode prog_46_method_9_code 15 = .ok (.return_, 1) := by decide +kernel
theorem ef_7 (m : MethodId) (x0 : Addr) : entryFrame m #[(.ref x0)] 1 = mkF m 0 #[.val (.ref x0)] [] := by first | (simp [entryFrame, mkF, argsToLocals, Value.category]; done) | rfl
def Qcle (Z : State) (a : Addr) (ar : Addr) (kl : Int32) (ln : Int64) (vl : Int64) (kc : Int32) (f : Nat → Value) (h0 : Heap) (n0 : Nat) (v : Option Value) (h : Heap) (L : List Loc) : Prop := v = none ∧ Fr n0 L ∧ Keep h0 h [a] ∧ Exa Z h a "com/example/libsitemap/libsitemap/ValueText" ∧ Fld Z h a "com/example/libsitemap/libsitemap/ValueText" "kept" "[C" (.ref ar) ∧ Fld Z h a "com/example/libsitemap/libsitemap/ValueText" "keptChars" "I" (.int (kc + (1 : Int32))) ∧ Fld Z h a "com/example/libsitemap/libsitemap/ValueText" "keptLength" "I" (.int (0 : Int32)) ∧ Fld Z h a "com/example/libsitemap/libsitemap/ValueText" "length" "J" (.long (0 : Int64)) ∧ Fld Z h a "com/example/libsitemap/libsitemap/ValueText" "valueLength" "J" (.long (0 : Int64)) ∧ Av Z h ar .char 64 f
abbrev my8 : MethodName := ⟨"com/example/libsitemap/libsitemap/ValueText", "clear", "()V"⟩
abbrev Rm_cle : Room := { frames := 0, cells := 0, slots := 0, locals := 0 }
set_option maxRecDepth 65536 in
set_option maxHeartbeats 40000000 in
theorem cle (l : Launch) (Z : State) (a0 : Array Value) (hw : ∀ d ∈ tables_1, d.before a0 Z = true) (ws : List Jvm.Cond) (a : Addr) (ar : Addr) (kl : Int32) (ln : Int64) (vl : Int64) (kc : Int32) (f : Nat → Value) (h0 : Heap) (n0 : Nat) (Z0 : n0 ≤ h0.size) (E_a : Exa Z h0 a "com/example/libsitemap/libsitemap/ValueText") (F_kept_a : Fld Z h0 a "com/example/libsitemap/libsitemap/ValueText" "kept" "[C" (.ref ar)) (F_keptChars_a : Fld Z h0 a "com/example/libsitemap/libsitemap/ValueText" "keptChars" "I" (.int (kc + (1 : Int32)))) (F_keptLength_a : Fld Z h0 a "com/example/libsitemap/libsitemap/ValueText" "keptLength" "I" (.int kl)) (F_length_a : Fld Z h0 a "com/example/libsitemap/libsitemap/ValueText" "length" "J" (.long ln)) (F_valueLength_a : Fld Z h0 a "com/example/libsitemap/libsitemap/ValueText" "valueLength" "J" (.long vl)) (A_ar : Av Z h0 ar .char 64 f) (g_a : n0 ≤ a) (g_ar : n0 ≤ ar) (ne_a_ar : a ≠ ar) :
    MetFree l my8 (head1 (Jvm.Cond.code my8 prog_46_method_9_code 1 none :: ws) Rm_cle) (fun aa_ U => aa_ = #[(.ref a)] ∧ Z.Warmed39 U.vm ∧ U.heap = h0) (fun _ _ _ _ _ => True) (fun _ U oo_ U' => ∃ v L, oo_ = .returned v ∧ Qcle Z a ar kl ln vl kc f h0 n0 v U'.heap L ∧ FrameEnd U oo_ U' L Rm_cle.cells Rm_cle.slots) := by
  refine MetFree.of_bodySF (plainFor_of_name pn_1) hisR ?_
  intro p e s m args below meth c s₁ Bd hml0 hP hK
  obtain ⟨rfl, hZ, hh⟩ := hP
  have hx := Bd.exec
  have hby := Bd.bytes
  have hml : c.maxLocals = 1 := hml0
  have hown : s.vm.findClass "com/example/libsitemap/libsitemap/ValueText" = some m.cls := findClass_of_methodNamed Bd.named
  have hnm := (name_of_methodNamed Bd.named Bd.method).1
  have X0 : Stand p l e Rm_cle s m #[(.ref a)] below meth c s₁ [] 0 0 := Stand.of_body Bd
  have e0 : s₁.heap = h0 := by rw [← hh, Bd.state]; rfl
  have N0 := Fr.nil n0
  have pre0 : ∀ tt_, Steps p.tables e below (s₁.setTop (mkF m 0 #[.val (.ref a)] [])) tt_ → Steps p.tables e below (s₁.setTop (entryFrame m #[(.ref a)] 1)) tt_ := fun tt_ kk_ => castTop (ef_7 m a) kk_
  obtain ⟨T1, h1, X1, e1, W1, st1⟩ := putF X0 hx hZ hown (host := "") (Or.inl (hwd43 hw)) Via.refl e0 F_keptLength_a E_a (Or.inl (hwd44 hw)) (hwd8 hw) (ty := .int) (by decide) rfl rfl (g := (mkF m 2 #[.val (.ref a)] [(.int (0 : Int32)), (.ref a)])) rfl rfl (hb hby d7_2)
  have N1 := Fr.snoc X1 N0 g_a
  have Fw1 := F_keptLength_a.same W1
  have f2_E_a := (E_a.wr W1)
  have f3_F_a_length := (F_length_a.other W1 (Or.inr (slot_ne (Or.inl (hwd37 hw)) (Or.inl (hwd44 hw)) (by decide) (t := .long) (t' := .int) (by decide) (by decide))))
  obtain ⟨T4, h4, X4, e4, W4, st4⟩ := putF X1 hx hZ hown (host := "") (Or.inl (hwd36 hw)) Via.refl e1 f3_F_a_length f2_E_a (Or.inl (hwd37 hw)) (hwd8 hw) (ty := .long) (by decide) rfl rfl (g := (mkF m 7 #[.val (.ref a)] [(.long (0 : Int64)), (.ref a)])) rfl rfl (hb hby d7_7)
  have N4 := Fr.snoc X4 N1 g_a
  have Fw4 := f3_F_a_length.same W4
  have f5_E_a := (f2_E_a.wr W4)
  have f6_F_a_valueLength := ((F_valueLength_a.other W1 (Or.inr (slot_ne (Or.inl (hwd46 hw)) (Or.inl (hwd44 hw)) (by decide) (t := .long) (t' := .int) (by decide) (by decide)))).other W4 (Or.inr (slot_ne (Or.inl (hwd46 hw)) (Or.inl (hwd37 hw)) (by decide) (t := .long) (t' := .long) (by decide) (by decide))))
  obtain ⟨T7, h7, X7, e7, W7, st7⟩ := putF X4 hx hZ hown (host := "") (Or.inl (hwd45 hw)) Via.refl e4 f6_F_a_valueLength f5_E_a (Or.inl (hwd46 hw)) (hwd8 hw) (ty := .long) (by decide) rfl rfl (g := (mkF m 12 #[.val (.ref a)] [(.long (0 : Int64)), (.ref a)])) rfl rfl (hb hby d7_12)
  have N7 := Fr.snoc X7 N4 g_a
  have Fw7 := f6_F_a_valueLength.same W7
  have kp8 : Keep h0 h7 [a] := ((((Keep.refl h0 [a]).wr W1 (Or.inl (List.mem_of_getElem? (i := 0) rfl))).wr W4 (Or.inl (List.mem_of_getElem? (i := 0) rfl))).wr W7 (Or.inl (List.mem_of_getElem? (i := 0) rfl)))
  have f9_E_a := (f5_E_a.wr W7)
  have f10_F_a_kept := (((F_kept_a.other W1 (Or.inr (slot_ne (Or.inl (hwd18 hw)) (Or.inl (hwd44 hw)) (by decide) (t := (.array .char)) (t' := .int) (by decide) (by decide)))).other W4 (Or.inr (slot_ne (Or.inl (hwd18 hw)) (Or.inl (hwd37 hw)) (by decide) (t := (.array .char)) (t' := .long) (by decide) (by decide)))).other W7 (Or.inr (slot_ne (Or.inl (hwd18 hw)) (Or.inl (hwd46 hw)) (by decide) (t := (.array .char)) (t' := .long) (by decide) (by decide))))
  have f11_F_a_keptChars := (((F_keptChars_a.other W1 (Or.inr (slot_ne (Or.inr (hwd27 hw)) (Or.inl (hwd44 hw)) (by decide) (t := .int) (t' := .int) (by decide) (by decide)))).other W4 (Or.inr (slot_ne (Or.inr (hwd27 hw)) (Or.inl (hwd37 hw)) (by decide) (t := .int) (t' := .long) (by decide) (by decide)))).other W7 (Or.inr (slot_ne (Or.inr (hwd27 hw)) (Or.inl (hwd46 hw)) (by decide) (t := .int) (t' := .long) (by decide) (by decide))))
  have f12_F_a_keptLength := ((Fw1.other W4 (Or.inr (slot_ne (Or.inl (hwd44 hw)) (Or.inl (hwd37 hw)) (by decide) (t := .int) (t' := .long) (by decide) (by decide)))).other W7 (Or.inr (slot_ne (Or.inl (hwd44 hw)) (Or.inl (hwd46 hw)) (by decide) (t := .int) (t' := .long) (by decide) (by decide))))
  have f13_F_a_length := (Fw4.other W7 (Or.inr (slot_ne (Or.inl (hwd37 hw)) (Or.inl (hwd46 hw)) (by decide) (t := .long) (t' := .long) (by decide) (by decide))))
  have f14_A_ar := (((A_ar.other W1 (Ne.symm ne_a_ar)).other W4 (Ne.symm ne_a_ar)).other W7 (Ne.symm ne_a_ar))
  obtain ⟨fs, hr, hrun, hended, hW, hsame⟩ := X7.leave (v := none) (fun _ => rfl)
  refine ⟨_, _, pre0 _ ?_, hrun, hended, _, _, rfl, ?_, ⟨_, rfl⟩, hW, hsame.mono (by decide) (by decide)⟩
  · show Steps p.tables e below (s₁.setTop (mkF m 0 #[.val (.ref a)] [])) _
    refine XS.aloadN X0.here hx rfl (hb hby d7_0) rfl rfl ?_
    refine XS.iconst X0.here hx rfl (hb hby d7_1) ?_
    refine st1 _ ?_
    refine XS.aloadN X1.here hx rfl (hb hby d7_5) rfl rfl ?_
    refine XS.lconst X1.here hx rfl (hb hby d7_6) ?_
    refine st4 _ ?_
    show Steps p.tables e below (T4.setTop (mkF m 10 #[.val (.ref a)] [])) _
    refine XS.aloadN X4.here hx rfl (hb hby d7_10) rfl rfl ?_
    refine XS.lconst X4.here hx rfl (hb hby d7_11) ?_
    refine st7 _ ?_
    exact X7.returnOut hx Bd.returns (hb hby d7_15) hr
  · show Qcle Z a ar kl ln vl kc f h0 n0 _ T7.heap _
    rw [e7]
    exact ⟨rfl, N7, kp8, f9_E_a, f10_F_a_kept, f11_F_a_keptChars, f12_F_a_keptLength, f13_F_a_length, Fw7, f14_A_ar⟩
theorem d8_0 : decode prog_46_method_7_code 0 = .ok (.aload_n 0, 1) := by decide +kernel
theorem d8_1 : decode prog_46_method_7_code 1 = .ok (.getfield 38, 3) := by decide +kernel
theorem d8_4 : decode prog_46_method_7_code 4 = .ok (.lreturn, 1) := by decide +kernel
theorem ef_8 (m : MethodId) (x0 : Addr) : entryFrame m #[(.ref x0)] 1 = mkF m 0 #[.val (.ref x0)] [] := by first | (simp [entryFrame, mkF, argsToLocals, Value.category]; done) | rfl
def Qlen (Z : State) (a : Addr) (vl : Int64) (h0 : Heap) (n0 : Nat) (v : Option Value) (h : Heap) (L : List Loc) : Prop := v = some (.long vl) ∧ Fr n0 L ∧ h = h0
abbrev my9 : MethodName := ⟨"com/example/libsitemap/libsitemap/ValueText", "length", "()J"⟩
abbrev Rm_len : Room := { frames := 0, cells := 0, slots := 0, locals := 0 }
set_option maxRecDepth 65536 in
set_option maxHeartbeats 40000000 in
theorem len (l : Launch) (Z : State) (a0 : Array Value) (hw : ∀ d ∈ tables_1, d.before a0 Z = true) (ws : List Jvm.Cond) (a : Addr) (vl : Int64) (h0 : Heap) (n0 : Nat) (Z0 : n0 ≤ h0.size) (F_valueLength_a : Fld Z h0 a "com/example/libsitemap/libsitemap/ValueText" "valueLength" "J" (.long vl)) :
    MetFree l my9 (head1 (Jvm.Cond.code my9 prog_46_method_7_code 1 (some .long) :: ws) Rm_len) (fun aa_ U => aa_ = #[(.ref a)] ∧ Z.Warmed39 U.vm ∧ U.heap = h0) (fun _ _ _ _ _ => True) (fun _ U oo_ U' => ∃ v L, oo_ = .returned v ∧ Qlen Z a vl h0 n0 v U'.heap L ∧ FrameEnd U oo_ U' L Rm_len.cells Rm_len.slots) := by
  refine MetFree.of_bodySF (plainFor_of_name pn_1) hisR ?_
  intro p e s m args below meth c s₁ Bd hml0 hP hK
  obtain ⟨rfl, hZ, hh⟩ := hP
  have hx := Bd.exec
  have hby := Bd.bytes
  have hml : c.maxLocals = 1 := hml0
  have hown : s.vm.findClass "com/example/libsitemap/libsitemap/ValueText" = some m.cls := findClass_of_methodNamed Bd.named
  have hnm := (name_of_methodNamed Bd.named Bd.method).1
  have X0 : Stand p l e Rm_len s m #[(.ref a)] below meth c s₁ [] 0 0 := Stand.of_body Bd
  have e0 : s₁.heap = h0 := by rw [← hh, Bd.state]; rfl
  have N0 := Fr.nil n0
  have pre0 : ∀ tt_, Steps p.tables e below (s₁.setTop (mkF m 0 #[.val (.ref a)] [])) tt_ → Steps p.tables e below (s₁.setTop (entryFrame m #[(.ref a)] 1)) tt_ := fun tt_ kk_ => castTop (ef_8 m a) kk_
  obtain ⟨T1, X1, e1, st1⟩ := getF X0 hx hZ hown (host := "") (Or.inl (hwd45 hw)) Via.refl e0 F_valueLength_a (g := (mkF m 1 #[.val (.ref a)] [(.ref a)])) rfl rfl (hb hby d8_1)
  obtain ⟨fs, hr, hrun, hended, hW, hsame⟩ := X1.leave (v := some (.long vl)) (fun h => by rw [Bd.returns] at h; cases h)
  refine ⟨_, _, pre0 _ ?_, hrun, hended, _, _, rfl, ?_, ⟨_, rfl⟩, hW, hsame.mono (by decide) (by decide)⟩
  · show Steps p.tables e below (s₁.setTop (mkF m 0 #[.val (.ref a)] [])) _
    refine XS.aloadN X0.here hx rfl (hb hby d8_0) rfl rfl ?_
    refine st1 _ ?_
    exact X1.lreturnOut hx Bd.returns (hb hby d8_4) hr
  · show Qlen Z a vl h0 n0 _ T1.heap _
    rw [e1]
    exact ⟨rfl, N0, rfl⟩
theorem d9_0 : decode prog_46_method_5_code 0 = .ok (.aload_n 0, 1) := by decide +kernel
theorem d9_1 : decode prog_46_method_5_code 1 = .ok (.getfield 38, 3) := by decide +kernel
theorem d9_4 : decode prog_46_method_5_code 4 = .ok (.lconst 0, 1) := by decide +kernel
theorem d9_5 : decode prog_46_method_5_code 5 = .ok (.lcmp, 1) := by decide +kernel
theorem d9_6 : decode prog_46_method_5_code 6 = .ok (.ifCond .ne 7, 3) := by decide +kernel
theorem d9_9 : decode prog_46_method_5_code 9 = .ok (.iconst 1, 1) := by decide +kernel
theorem d9_10 : decode prog_46_method_5_code 10 = .ok (.goto 4, 3) := by decide +kernel
theorem d9_14 : decode prog_46_method_5_code 14 = .ok (.ireturn, 1) := by decide +kernel
theorem ef_9 (m : MethodId) (x0 : Addr) : entryFrame m #[(.ref x0)] 1 = mkF m 0 #[.val (.ref x0)] [] := by first | (simp [entryFrame, mkF, argsToLocals, Value.category]; done) | rfl
def Qemp (Z : State) (a : Addr) (h0 : Heap) (n0 : Nat) (v : Option Value) (h : Heap) (L : List Loc) : Prop := v = some (.int (1 : Int32)) ∧ Fr n0 L ∧ h = h0
abbrev my10 : MethodName := ⟨"com/example/libsitemap/libsitemap/ValueText", "isEmpty", "()Z"⟩
abbrev Rm_emp : Room := { frames := 0, cells := 0, slots := 0, locals := 0 }
set_option maxRecDepth 65536 in
set_option maxHeartbeats 40000000 in
theorem emp (l : Launch) (Z : State) (a0 : Array Value) (hw : ∀ d ∈ tables_1, d.before a0 Z = true) (ws : List Jvm.Cond) (a : Addr) (h0 : Heap) (n0 : Nat) (Z0 : n0 ≤ h0.size) (F_valueLength_a : Fld Z h0 a "com/example/libsitemap/libsitemap/ValueText" "valueLength" "J" (.long (0 : Int64))) :
    MetFree l my10 (head1 (Jvm.Cond.code my10 prog_46_method_5_code 1 (some .boolean) :: ws) Rm_emp) (fun aa_ U => aa_ = #[(.ref a)] ∧ Z.Warmed39 U.vm ∧ U.heap = h0) (fun _ _ _ _ _ => True) (fun _ U oo_ U' => ∃ v L, oo_ = .returned v ∧ Qemp Z a h0 n0 v U'.heap L ∧ FrameEnd U oo_ U' L Rm_emp.cells Rm_emp.slots) := by
  refine MetFree.of_bodySF (plainFor_of_name pn_1) hisR ?_
  intro p e s m args below meth c s₁ Bd hml0 hP hK
  obtain ⟨rfl, hZ, hh⟩ := hP
  have hx := Bd.exec
  have hby := Bd.bytes
  have hml : c.maxLocals = 1 := hml0
  have hown : s.vm.findClass "com/example/libsitemap/libsitemap/ValueText" = some m.cls := findClass_of_methodNamed Bd.named
  have hnm := (name_of_methodNamed Bd.named Bd.method).1
  have X0 : Stand p l e Rm_emp s m #[(.ref a)] below meth c s₁ [] 0 0 := Stand.of_body Bd
  have e0 : s₁.heap = h0 := by rw [← hh, Bd.state]; rfl
  have N0 := Fr.nil n0
  have pre0 : ∀ tt_, Steps p.tables e below (s₁.setTop (mkF m 0 #[.val (.ref a)] [])) tt_ → Steps p.tables e below (s₁.setTop (entryFrame m #[(.ref a)] 1)) tt_ := fun tt_ kk_ => castTop (ef_9 m a) kk_
  obtain ⟨T1, X1, e1, st1⟩ := getF X0 hx hZ hown (host := "") (Or.inl (hwd45 hw)) Via.refl e0 F_valueLength_a (g := (mkF m 1 #[.val (.ref a)] [(.ref a)])) rfl rfl (hb hby d9_1)
  obtain ⟨fs, hr, hrun, hended, hW, hsame⟩ := X1.leave (v := some (.int (1 : Int32))) (fun h => by rw [Bd.returns] at h; cases h)
  refine ⟨_, _, pre0 _ ?_, hrun, hended, _, _, rfl, ?_, ⟨_, rfl⟩, hW, hsame.mono (by decide) (by decide)⟩
  · show Steps p.tables e below (s₁.setTop (mkF m 0 #[.val (.ref a)] [])) _
    refine XS.aloadN X0.here hx rfl (hb hby d9_0) rfl rfl ?_
    refine st1 _ ?_
    refine XS.lconst X1.here hx rfl (hb hby d9_4) ?_
    refine XS.lcmp X1.here hx rfl (hb hby d9_5) rfl ?_
    refine XS.ifNo X1.here hx rfl (hb hby d9_6) rfl ((if0 _ _).trans (teq (show (lcmpW (0 : Int64) (0 : Int64)) = (0 : Int32) from (by decide))).2) ?_
    refine XS.iconst X1.here hx rfl (hb hby d9_9) ?_
    show Steps p.tables e below (T1.setTop (mkF m 10 #[.val (.ref a)] [(.int (1 : Int32))])) _
    refine XS.goto X1.here hx rfl (pc0 := 10) (pc' := 14) rfl (hb hby d9_10) (by decide) (by decide) ?_
    exact retN X1 hx (t := .boolean) Bd.returns (by simp) (hb hby d9_14) hr
  · show Qemp Z a h0 n0 _ T1.heap _
    rw [e1]
    exact ⟨rfl, N0, rfl⟩
theorem d15_0 : decode jdk_41_method_13_code 0 = .ok (.iload_n 2, 1) := by decide +kernel
theorem d15_1 : decode jdk_41_method_13_code 1 = .ok (.iload_n 0, 1) := by decide +kernel
theorem d15_2 : decode jdk_41_method_13_code 2 = .ok (.ior, 1) := by decide +kernel
theorem d15_3 : decode jdk_41_method_13_code 3 = .ok (.iload_n 1, 1) := by decide +kernel
theorem d15_4 : decode jdk_41_method_13_code 4 = .ok (.ior, 1) := by decide +kernel
theorem d15_5 : decode jdk_41_method_13_code 5 = .ok (.ifCond .lt 10, 3) := by decide +kernel
theorem d15_8 : decode jdk_41_method_13_code 8 = .ok (.iload_n 1, 1) := by decide +kernel
theorem d15_9 : decode jdk_41_method_13_code 9 = .ok (.iload_n 2, 1) := by decide +kernel
theorem d15_10 : decode jdk_41_method_13_code 10 = .ok (.iload_n 0, 1) := by decide +kernel
theorem d15_11 : decode jdk_41_method_13_code 11 = .ok (.isub, 1) := by decide +kernel
theorem d15_12 : decode jdk_41_method_13_code 12 = .ok (.if_icmp .le 11, 3) := by decide +kernel
theorem d15_23 : decode jdk_41_method_13_code 23 = .ok (.iload_n 0, 1) := by decide +kernel
theorem d15_24 : decode jdk_41_method_13_code 24 = .ok (.ireturn, 1) := by decide +kernel
theorem pn_4 : plainName "jdk/internal/util/Preconditions" = true := by first | (simp [plainName, overriddenIn]; done) | decide +kernel
theorem ef_15 (m : MethodId) (x0 : Int32) (x1 : Int32) (x2 : Int32) (x3 : Value) (hx3 : x3.isRef = true) : entryFrame m #[(.int x0), (.int x1), (.int x2), x3] 4 = mkF m 0 #[.val (.int x0), .val (.int x1), .val (.int x2), .val x3] [] := by cases x3 <;> first | rfl | (simp [Value.isRef] at hx3)
def Qcfis0 (Z : State) (sf : Value) (h0 : Heap) (n0 : Nat) (v : Option Value) (h : Heap) (L : List Loc) : Prop := v = some (.int (0 : Int32)) ∧ Fr n0 L ∧ h = h0
abbrev my11 : MethodName := ⟨"jdk/internal/util/Preconditions", "checkFromIndexSize", "(IIILjava/util/function/BiFunction;)I"⟩
abbrev Rm_cfis0 : Room := { frames := 0, cells := 0, slots := 0, locals := 0 }
set_option maxRecDepth 65536 in
set_option maxHeartbeats 40000000 in
theorem cfis0 (l : Launch) (Z : State) (a0 : Array Value) (hw : ∀ d ∈ tables_1, d.before a0 Z = true) (ws : List Jvm.Cond) (sf : Value) (h0 : Heap) (n0 : Nat) (Z0 : n0 ≤ h0.size) (hsf : sf.isRef = true) :
    MetFree l my11 (head1 (Jvm.Cond.code my11 jdk_41_method_13_code 4 (some .int) :: ws) Rm_cfis0) (fun aa_ U => aa_ = #[(.int (0 : Int32)), (.int (0 : Int32)), (.int (64 : Int32)), sf] ∧ Z.Warmed39 U.vm ∧ U.heap = h0) (fun _ _ _ _ _ => True) (fun _ U oo_ U' => ∃ v L, oo_ = .returned v ∧ Qcfis0 Z sf h0 n0 v U'.heap L ∧ FrameEnd U oo_ U' L Rm_cfis0.cells Rm_cfis0.slots) := by
  refine MetFree.of_bodySF (plainFor_of_name pn_4) hisR ?_
  intro p e s m args below meth c s₁ Bd hml0 hP hK
  obtain ⟨rfl, hZ, hh⟩ := hP
  have hx := Bd.exec
  have hby := Bd.bytes
  have hml : c.maxLocals = 4 := hml0
  have hown : s.vm.findClass "jdk/internal/util/Preconditions" = some m.cls := findClass_of_methodNamed Bd.named
  have hnm := (name_of_methodNamed Bd.named Bd.method).1
  have X0 : Stand p l e Rm_cfis0 s m #[(.int (0 : Int32)), (.int (0 : Int32)), (.int (64 : Int32)), sf] below meth c s₁ [] 0 0 := Stand.of_body Bd
  have e0 : s₁.heap = h0 := by rw [← hh, Bd.state]; rfl
  have N0 := Fr.nil n0
  have pre0 : ∀ tt_, Steps p.tables e below (s₁.setTop (mkF m 0 #[.val (.int (0 : Int32)), .val (.int (0 : Int32)), .val (.int (64 : Int32)), .val sf] [])) tt_ → Steps p.tables e below (s₁.setTop (entryFrame m #[(.int (0 : Int32)), (.int (0 : Int32)), (.int (64 : Int32)), sf] 4)) tt_ := fun tt_ kk_ => castTop (ef_15 m (0 : Int32) (0 : Int32) (64 : Int32) sf hsf) kk_
  obtain ⟨fs, hr, hrun, hended, hW, hsame⟩ := X0.leave (v := some (.int (0 : Int32))) (fun h => by rw [Bd.returns] at h; cases h)
  refine ⟨_, _, pre0 _ ?_, hrun, hended, _, _, rfl, ?_, ⟨_, rfl⟩, hW, hsame.mono (by decide) (by decide)⟩
  · show Steps p.tables e below (s₁.setTop (mkF m 0 #[.val (.int (0 : Int32)), .val (.int (0 : Int32)), .val (.int (64 : Int32)), .val sf] [])) _
    refine XS.iloadN X0.here hx rfl (hb hby d15_0) rfl ?_
    refine XS.iloadN X0.here hx rfl (hb hby d15_1) rfl ?_
    refine XS.ior X0.here hx rfl (hb hby d15_2) rfl ?_
    refine XS.iloadN X0.here hx rfl (hb hby d15_3) rfl ?_
    refine XS.ior X0.here hx rfl (hb hby d15_4) rfl ?_
    refine XS.ifNo X0.here hx rfl (hb hby d15_5) rfl ((if0 _ _).trans (flt (show ¬ ((((64 : Int32) ||| (0 : Int32)) ||| (0 : Int32)) < (0 : Int32)) from (by decide))).1) ?_
    show Steps p.tables e below (s₁.setTop (mkF m 8 #[.val (.int (0 : Int32)), .val (.int (0 : Int32)), .val (.int (64 : Int32)), .val sf] [])) _
    refine XS.iloadN X0.here hx rfl (hb hby d15_8) rfl ?_
    refine XS.iloadN X0.here hx rfl (hb hby d15_9) rfl ?_
    refine XS.iloadN X0.here hx rfl (hb hby d15_10) rfl ?_
    refine XS.isub X0.here hx rfl (hb hby d15_11) rfl ?_
    show Steps p.tables e below (s₁.setTop (mkF m 12 #[.val (.int (0 : Int32)), .val (.int (0 : Int32)), .val (.int (64 : Int32)), .val sf] [(.int ((64 : Int32) - (0 : Int32))), (.int (0 : Int32))])) _
    rw [show (((64 : Int32) - (0 : Int32)) : Int32) = (64 : Int32) from by decide]
    refine XS.icmpYes X0.here hx rfl (pc0 := 12) (pc' := 23) rfl (hb hby d15_12) rfl (flt (show ¬ ((64 : Int32) < (0 : Int32)) from (by decide))).2.2.2 (by decide) (by decide) ?_
    refine XS.iloadN X0.here hx rfl (hb hby d15_23) rfl ?_
    exact retI X0 hx Bd.returns (hb hby d15_24) hr
  · show Qcfis0 Z sf h0 n0 _ s₁.heap _
    rw [e0]
    exact ⟨rfl, N0, rfl⟩
theorem hwd78 {Z : State} {a0 : Array Value} (hw : ∀ d ∈ tables_1, d.before a0 Z = true) : (Jvm.Cond.fieldLink "java/lang/String" (1053 : Nat) "jdk/internal/util/Preconditions" "SIOOBE_FORMATTER" "Ljava/util/function/BiFunction;").before a0 Z = true := hw _ (List.mem_of_getElem? (i := 78) rfl)
theorem hwd80 {Z : State} {a0 : Array Value} (hw : ∀ d ∈ tables_1, d.before a0 Z = true) : (Jvm.Cond.methodLink "java/lang/String" (1065 : Nat) ({ cls := "jdk/internal/util/Preconditions", name := "checkFromIndexSize", desc := "(IIILjava/util/function/BiFunction;)I" } : Jvm.MethodName)).before a0 Z = true := hw _ (List.mem_of_getElem? (i := 80) rfl)
theorem hwd82 {Z : State} {a0 : Array Value} (hw : ∀ d ∈ tables_1, d.before a0 Z = true) : (Jvm.Cond.code ({ cls := "jdk/internal/util/Preconditions", name := "checkFromIndexSize", desc := "(IIILjava/util/function/BiFunction;)I" } : Jvm.MethodName) jdk_41_method_13_code (4 : Nat) (Option.some Jvm.ClassFile.FieldType.int)).before a0 Z = true := hw _ (List.mem_of_getElem? (i := 82) rfl)
theorem hwd79 {Z : State} {a0 : Array Value} (hw : ∀ d ∈ tables_1, d.before a0 Z = true) : (Jvm.Cond.initialized "jdk/internal/util/Preconditions").before a0 Z = true := hw _ (List.mem_of_getElem? (i := 79) rfl)
theorem pd_4 : parseMethodDescriptor "(IIILjava/util/function/BiFunction;)I" = some ⟨[.int, .int, .int, (.object "java/util/function/BiFunction")], some .int⟩ := by decide +kernel
theorem hwd81 {Z : State} {a0 : Array Value} (hw : ∀ d ∈ tables_1, d.before a0 Z = true) : (Jvm.Cond.static ({ cls := "jdk/internal/util/Preconditions", name := "checkFromIndexSize", desc := "(IIILjava/util/function/BiFunction;)I" } : Jvm.MethodName)).before a0 Z = true := hw _ (List.mem_of_getElem? (i := 81) rfl)
theorem d14_0 : decode jdk_42_method_157_code 0 = .ok (.iload_n 0, 1) := by decide +kernel
theorem d14_1 : decode jdk_42_method_157_code 1 = .ok (.iload_n 1, 1) := by decide +kernel
theorem d14_2 : decode jdk_42_method_157_code 2 = .ok (.iload_n 2, 1) := by decide +kernel
theorem d14_3 : decode jdk_42_method_157_code 3 = .ok (.getstatic 1053, 3) := by decide +kernel
theorem d14_6 : decode jdk_42_method_157_code 6 = .ok (.invokestatic 1065, 3) := by decide +kernel
theorem d14_9 : decode jdk_42_method_157_code 9 = .ok (.ireturn, 1) := by decide +kernel
theorem pn_5 : plainName "java/lang/String" = true := by first | (simp [plainName, overriddenIn]; done) | decide +kernel
theorem ef_14 (m : MethodId) (x0 : Int32) (x1 : Int32) (x2 : Int32) : entryFrame m #[(.int x0), (.int x1), (.int x2)] 3 = mkF m 0 #[.val (.int x0), .val (.int x1), .val (.int x2)] [] := by first | (simp [entryFrame, mkF, argsToLocals, Value.category]; done) | rfl
def Qcbo0 (Z : State) (sf : Value) (h0 : Heap) (n0 : Nat) (v : Option Value) (h : Heap) (L : List Loc) : Prop := v = some (.int (0 : Int32)) ∧ Fr n0 L ∧ h = h0
abbrev my12 : MethodName := ⟨"java/lang/String", "checkBoundsOffCount", "(III)I"⟩
abbrev Rm_cbo0 : Room := { frames := 1, cells := 0, slots := 0, locals := 15 }
set_option maxRecDepth 65536 in
set_option maxHeartbeats 40000000 in
theorem cbo0 (l : Launch) (Z : State) (a0 : Array Value) (hw : ∀ d ∈ tables_1, d.before a0 Z = true) (ws : List Jvm.Cond) (sf : Value) (h0 : Heap) (n0 : Nat) (Z0 : n0 ≤ h0.size) (O_S : Sta Z Z.heap "jdk/internal/util/Preconditions" "SIOOBE_FORMATTER" "Ljava/util/function/BiFunction;" sf) (hsf : sf.isRef = true) (X00 : Old Z n0 h0) :
    MetFree l my12 (head1 (Jvm.Cond.code my12 jdk_42_method_157_code 3 (some .int) :: ws) Rm_cbo0) (fun aa_ U => aa_ = #[(.int (0 : Int32)), (.int (0 : Int32)), (.int (64 : Int32))] ∧ Z.Warmed39 U.vm ∧ U.heap = h0) (fun _ _ _ _ _ => True) (fun _ U oo_ U' => ∃ v L, oo_ = .returned v ∧ Qcbo0 Z sf h0 n0 v U'.heap L ∧ FrameEnd U oo_ U' L Rm_cbo0.cells Rm_cbo0.slots) := by
  refine MetFree.of_bodySF (plainFor_of_name pn_5) hisR ?_
  intro p e s m args below meth c s₁ Bd hml0 hP hK
  obtain ⟨rfl, hZ, hh⟩ := hP
  have hx := Bd.exec
  have hby := Bd.bytes
  have hml : c.maxLocals = 3 := hml0
  have hown : s.vm.findClass "java/lang/String" = some m.cls := findClass_of_methodNamed Bd.named
  have hnm := (name_of_methodNamed Bd.named Bd.method).1
  have X0 : Stand p l e Rm_cbo0 s m #[(.int (0 : Int32)), (.int (0 : Int32)), (.int (64 : Int32))] below meth c s₁ [] 0 0 := Stand.of_body Bd
  have e0 : s₁.heap = h0 := by rw [← hh, Bd.state]; rfl
  have N0 := Fr.nil n0
  have pre0 : ∀ tt_, Steps p.tables e below (s₁.setTop (mkF m 0 #[.val (.int (0 : Int32)), .val (.int (0 : Int32)), .val (.int (64 : Int32))] [])) tt_ → Steps p.tables e below (s₁.setTop (entryFrame m #[(.int (0 : Int32)), (.int (0 : Int32)), (.int (64 : Int32))] 3)) tt_ := fun tt_ kk_ => castTop (ef_14 m (0 : Int32) (0 : Int32) (64 : Int32)) kk_
  obtain ⟨T1, X1, e1, st1⟩ := getS2 X0 hx hZ hown (host := "") (Or.inl (hwd78 hw)) Via.refl e0 (O_S.ext X00.2) (g := (mkF m 3 #[.val (.int (0 : Int32)), .val (.int (0 : Int32)), .val (.int (64 : Int32))] [(.int (64 : Int32)), (.int (0 : Int32)), (.int (0 : Int32))])) rfl (hb hby d14_3)
  obtain ⟨_, _, ⟨T2, L2, k2, n2⟩, -, X2, ⟨Lc2, hQ2, l2, y2, z2⟩, st2⟩ := Jvm.LawKit.callS X1 hx (y := my11) hown (mvT hZ (hwd80 hw)) (mvT hZ (hwd81 hw)) (mvT hZ (hwd79 hw)) (mvT hZ (hwd82 hw)) (by decide) (backOf (W := 0) (cfis0 l Z a0 hw [] sf h0 n0 Z0 hsf) hZ (hwd82 hw) (hwd79 hw) (by decide) (by decide)) (g := (mkF m 6 #[.val (.int (0 : Int32)), .val (.int (0 : Int32)), .val (.int (64 : Int32))] [sf, (.int (64 : Int32)), (.int (0 : Int32)), (.int (0 : Int32))])) rfl (by rw [hml]; rfl) (argsL := [(.int (0 : Int32)), (.int (0 : Int32)), (.int (64 : Int32)), sf]) (rest := []) (lenOf pd_4 rfl) rfl (by show 2 * 0 + _ ≤ _; exact Nat.le_of_eq rfl) (hb hby d14_6) (fun _ _ => ⟨rfl, e1, (by decide : 0 + 0 ≤ _), (by decide : 0 + 0 ≤ _)⟩)
  dsimp only [Pt.U, Pt.locs, Pt.cells, Pt.slots] at X2 l2 y2 z2 st2 hQ2
  subst l2 y2 z2
  obtain ⟨rfl, N2q, e2q⟩ := hQ2
  have N2 := Fr.app N0 N2q
  obtain ⟨fs, hr, hrun, hended, hW, hsame⟩ := X2.leave (v := some (.int (0 : Int32))) (fun h => by rw [Bd.returns] at h; cases h)
  refine ⟨_, _, pre0 _ ?_, hrun, hended, _, _, rfl, ?_, ⟨_, rfl⟩, hW, hsame.mono (by decide) (by decide)⟩
  · show Steps p.tables e below (s₁.setTop (mkF m 0 #[.val (.int (0 : Int32)), .val (.int (0 : Int32)), .val (.int (64 : Int32))] [])) _
    refine XS.iloadN X0.here hx rfl (hb hby d14_0) rfl ?_
    refine XS.iloadN X0.here hx rfl (hb hby d14_1) rfl ?_
    refine XS.iloadN X0.here hx rfl (hb hby d14_2) rfl ?_
    refine st1 _ ?_
    refine st2 _ ?_
    exact retI X2 hx Bd.returns (hb hby d14_9) hr
  · show Qcbo0 Z sf h0 n0 _ T2.heap _
    rw [e2q]
    exact ⟨rfl, N2, rfl⟩
theorem hwd75 {Z : State} {a0 : Array Value} (hw : ∀ d ∈ tables_1, d.before a0 Z = true) : (Jvm.Cond.methodLink "java/lang/String" (34 : Nat) ({ cls := "java/lang/String", name := "checkBoundsOffCount", desc := "(III)I" } : Jvm.MethodName)).before a0 Z = true := hw _ (List.mem_of_getElem? (i := 75) rfl)
theorem hwd77 {Z : State} {a0 : Array Value} (hw : ∀ d ∈ tables_1, d.before a0 Z = true) : (Jvm.Cond.code ({ cls := "java/lang/String", name := "checkBoundsOffCount", desc := "(III)I" } : Jvm.MethodName) jdk_42_method_157_code (3 : Nat) (Option.some Jvm.ClassFile.FieldType.int)).before a0 Z = true := hw _ (List.mem_of_getElem? (i := 77) rfl)
theorem hwd64 {Z : State} {a0 : Array Value} (hw : ∀ d ∈ tables_1, d.before a0 Z = true) : (Jvm.Cond.initialized "java/lang/String").before a0 Z = true := hw _ (List.mem_of_getElem? (i := 64) rfl)
theorem pd_5 : parseMethodDescriptor "(III)I" = some ⟨[.int, .int, .int], some .int⟩ := by decide +kernel
theorem hwd76 {Z : State} {a0 : Array Value} (hw : ∀ d ∈ tables_1, d.before a0 Z = true) : (Jvm.Cond.static ({ cls := "java/lang/String", name := "checkBoundsOffCount", desc := "(III)I" } : Jvm.MethodName)).before a0 Z = true := hw _ (List.mem_of_getElem? (i := 76) rfl)
theorem d13_0 : decode jdk_42_method_5_code 0 = .ok (.iload_n 1, 1) := by decide +kernel
theorem d13_1 : decode jdk_42_method_5_code 1 = .ok (.iload_n 2, 1) := by decide +kernel
theorem d13_2 : decode jdk_42_method_5_code 2 = .ok (.aload_n 0, 1) := by decide +kernel
theorem d13_3 : decode jdk_42_method_5_code 3 = .ok (.arraylength, 1) := by decide +kernel
theorem d13_4 : decode jdk_42_method_5_code 4 = .ok (.invokestatic 34, 3) := by decide +kernel
theorem d13_7 : decode jdk_42_method_5_code 7 = .ok (.pop, 1) := by decide +kernel
theorem d13_8 : decode jdk_42_method_5_code 8 = .ok (.aconst_null, 1) := by decide +kernel
theorem d13_9 : decode jdk_42_method_5_code 9 = .ok (.areturn, 1) := by decide +kernel
theorem ef_13 (m : MethodId) (x0 : Addr) (x1 : Int32) (x2 : Int32) : entryFrame m #[(.ref x0), (.int x1), (.int x2)] 3 = mkF m 0 #[.val (.ref x0), .val (.int x1), .val (.int x2)] [] := by first | (simp [entryFrame, mkF, argsToLocals, Value.category]; done) | rfl
def Qrc0 (Z : State) (ar : Addr) (f : Nat → Value) (sf : Value) (h0 : Heap) (n0 : Nat) (v : Option Value) (h : Heap) (L : List Loc) : Prop := v = some .null ∧ Fr n0 L ∧ h = h0
abbrev my13 : MethodName := ⟨"java/lang/String", "rangeCheck", "([CII)Ljava/lang/Void;"⟩
abbrev Rm_rc0 : Room := { frames := 2, cells := 0, slots := 0, locals := 29 }
set_option maxRecDepth 65536 in
set_option maxHeartbeats 40000000 in
theorem rc0 (l : Launch) (Z : State) (a0 : Array Value) (hw : ∀ d ∈ tables_1, d.before a0 Z = true) (ws : List Jvm.Cond) (ar : Addr) (f : Nat → Value) (sf : Value) (h0 : Heap) (n0 : Nat) (Z0 : n0 ≤ h0.size) (A_ar : Av Z h0 ar .char 64 f) (O_S : Sta Z Z.heap "jdk/internal/util/Preconditions" "SIOOBE_FORMATTER" "Ljava/util/function/BiFunction;" sf) (hsf : sf.isRef = true) (X00 : Old Z n0 h0) :
    MetFree l my13 (head1 (Jvm.Cond.code my13 jdk_42_method_5_code 3 (some (.object "java/lang/Void")) :: ws) Rm_rc0) (fun aa_ U => aa_ = #[(.ref ar), (.int (0 : Int32)), (.int (0 : Int32))] ∧ Z.Warmed39 U.vm ∧ U.heap = h0) (fun _ _ _ _ _ => True) (fun _ U oo_ U' => ∃ v L, oo_ = .returned v ∧ Qrc0 Z ar f sf h0 n0 v U'.heap L ∧ FrameEnd U oo_ U' L Rm_rc0.cells Rm_rc0.slots) := by
  refine MetFree.of_bodySF (plainFor_of_name pn_5) hisR ?_
  intro p e s m args below meth c s₁ Bd hml0 hP hK
  obtain ⟨rfl, hZ, hh⟩ := hP
  have hx := Bd.exec
  have hby := Bd.bytes
  have hml : c.maxLocals = 3 := hml0
  have hown : s.vm.findClass "java/lang/String" = some m.cls := findClass_of_methodNamed Bd.named
  have hnm := (name_of_methodNamed Bd.named Bd.method).1
  have X0 : Stand p l e Rm_rc0 s m #[(.ref ar), (.int (0 : Int32)), (.int (0 : Int32))] below meth c s₁ [] 0 0 := Stand.of_body Bd
  have e0 : s₁.heap = h0 := by rw [← hh, Bd.state]; rfl
  have N0 := Fr.nil n0
  have pre0 : ∀ tt_, Steps p.tables e below (s₁.setTop (mkF m 0 #[.val (.ref ar), .val (.int (0 : Int32)), .val (.int (0 : Int32))] [])) tt_ → Steps p.tables e below (s₁.setTop (entryFrame m #[(.ref ar), (.int (0 : Int32)), (.int (0 : Int32))] 3)) tt_ := fun tt_ kk_ => castTop (ef_13 m ar (0 : Int32) (0 : Int32)) kk_
  obtain ⟨cl1, Ar1, S1, -⟩ := id A_ar
  obtain ⟨_, _, ⟨T2, L2, k2, n2⟩, -, X2, ⟨Lc2, hQ2, l2, y2, z2⟩, st2⟩ := Jvm.LawKit.callS X0 hx (y := my12) hown (mvT hZ (hwd75 hw)) (mvT hZ (hwd76 hw)) (mvT hZ (hwd64 hw)) (mvT hZ (hwd77 hw)) (by decide) (backOf (W := 0) (cbo0 l Z a0 hw [] sf h0 n0 Z0 O_S hsf X00) hZ (hwd77 hw) (hwd64 hw) (by decide) (by decide)) (g := (mkF m 4 #[.val (.ref ar), .val (.int (0 : Int32)), .val (.int (0 : Int32))] [(.int (64 : Int32)), (.int (0 : Int32)), (.int (0 : Int32))])) rfl (by rw [hml]; rfl) (argsL := [(.int (0 : Int32)), (.int (0 : Int32)), (.int (64 : Int32))]) (rest := []) (lenOf pd_5 rfl) rfl (by show 2 * 0 + _ ≤ _; exact Nat.le_of_eq rfl) (hb hby d13_4) (fun _ _ => ⟨rfl, e0, (by decide : 0 + 0 ≤ _), (by decide : 0 + 0 ≤ _)⟩)
  dsimp only [Pt.U, Pt.locs, Pt.cells, Pt.slots] at X2 l2 y2 z2 st2 hQ2
  subst l2 y2 z2
  obtain ⟨rfl, N2q, e2q⟩ := hQ2
  have N2 := Fr.app N0 N2q
  obtain ⟨fs, hr, hrun, hended, hW, hsame⟩ := X2.leave (v := some .null) (fun h => by rw [Bd.returns] at h; cases h)
  refine ⟨_, _, pre0 _ ?_, hrun, hended, _, _, rfl, ?_, ⟨_, rfl⟩, hW, hsame.mono (by decide) (by decide)⟩
  · show Steps p.tables e below (s₁.setTop (mkF m 0 #[.val (.ref ar), .val (.int (0 : Int32)), .val (.int (0 : Int32))] [])) _
    refine XS.iloadN X0.here hx rfl (hb hby d13_0) rfl ?_
    refine XS.iloadN X0.here hx rfl (hb hby d13_1) rfl ?_
    refine XS.aloadN X0.here hx rfl (hb hby d13_2) rfl rfl ?_
    refine X0.arraylength hx (by rw [e0]; exact Ar1.1) (State.isArrayOf_alike hZ.alike Ar1.2.1) (g := (mkF m 3 #[.val (.ref ar), .val (.int (0 : Int32)), .val (.int (0 : Int32))] [(.ref ar), (.int (0 : Int32)), (.int (0 : Int32))])) rfl rfl (hb hby d13_3) _ ?_
    rw [S1]
    show Steps p.tables e below (s₁.setTop (mkF m 4 #[.val (.ref ar), .val (.int (0 : Int32)), .val (.int (0 : Int32))] [(.int (Nat.toInt32 64)), (.int (0 : Int32)), (.int (0 : Int32))])) _
    rw [show ((Nat.toInt32 64) : Int32) = (64 : Int32) from by decide]
    refine st2 _ ?_
    refine XS.pop X2.here hx rfl (hb hby d13_7) rfl rfl ?_
    refine XS.aconstNull X2.here hx rfl (hb hby d13_8) ?_
    jvm_step X2.here [X2.here.top, hx, (hb hby d13_9), X2.method', Bd.returns, Value.isRef, FieldType.isReference]
    first | (intro acts; rw [hr _ acts rfl rfl rfl]) | rw [hr _ _ rfl rfl rfl]
    exact Steps.refl _
  · show Qrc0 Z ar f sf h0 n0 _ T2.heap _
    rw [e2q]
    exact ⟨rfl, N2, rfl⟩
theorem hwd87 {Z : State} {a0 : Array Value} (hw : ∀ d ∈ tables_1, d.before a0 Z = true) : (Jvm.Cond.methodLink "java/lang/String" (1 : Nat) ({ cls := "java/lang/Object", name := "<init>", desc := "()V" } : Jvm.MethodName)).before a0 Z = true := hw _ (List.mem_of_getElem? (i := 87) rfl)
theorem hwd94 {Z : State} {a0 : Array Value} (hw : ∀ d ∈ tables_1, d.before a0 Z = true) : (Jvm.Cond.fieldLink "java/lang/String" (9 : Nat) "java/lang/String" "value" "[B").before a0 Z = true := hw _ (List.mem_of_getElem? (i := 94) rfl)
theorem hwd90 {Z : State} {a0 : Array Value} (hw : ∀ d ∈ tables_1, d.before a0 Z = true) : (Jvm.Cond.laysFinal "java/lang/String" "java/lang/String" "value" "[B").before a0 Z = true := hw _ (List.mem_of_getElem? (i := 90) rfl)
theorem hwd63 {Z : State} {a0 : Array Value} (hw : ∀ d ∈ tables_1, d.before a0 Z = true) : (Jvm.Cond.instantiable "java/lang/String" (4 : Nat)).before a0 Z = true := hw _ (List.mem_of_getElem? (i := 63) rfl)
theorem hwd95 {Z : State} {a0 : Array Value} (hw : ∀ d ∈ tables_1, d.before a0 Z = true) : (Jvm.Cond.fieldLink "java/lang/String" (15 : Nat) "java/lang/String" "coder" "B").before a0 Z = true := hw _ (List.mem_of_getElem? (i := 95) rfl)
theorem hwd91 {Z : State} {a0 : Array Value} (hw : ∀ d ∈ tables_1, d.before a0 Z = true) : (Jvm.Cond.laysFinal "java/lang/String" "java/lang/String" "coder" "B").before a0 Z = true := hw _ (List.mem_of_getElem? (i := 91) rfl)
theorem d16_0 : decode jdk_42_method_149_code 0 = .ok (.aload_n 0, 1) := by decide +kernel
theorem d16_1 : decode jdk_42_method_149_code 1 = .ok (.invokespecial 1, 3) := by decide +kernel
theorem d16_4 : decode jdk_42_method_149_code 4 = .ok (.iload_n 3, 1) := by decide +kernel
theorem d16_5 : decode jdk_42_method_149_code 5 = .ok (.ifCond .ne 22, 3) := by decide +kernel
theorem d16_8 : decode jdk_42_method_149_code 8 = .ok (.aload_n 0, 1) := by decide +kernel
theorem d16_9 : decode jdk_42_method_149_code 9 = .ok (.ldc 7, 2) := by decide +kernel
theorem d16_11 : decode jdk_42_method_149_code 11 = .ok (.getfield 9, 3) := by decide +kernel
theorem d16_14 : decode jdk_42_method_149_code 14 = .ok (.putfield 9, 3) := by decide +kernel
theorem d16_17 : decode jdk_42_method_149_code 17 = .ok (.aload_n 0, 1) := by decide +kernel
theorem d16_18 : decode jdk_42_method_149_code 18 = .ok (.ldc 7, 2) := by decide +kernel
theorem d16_20 : decode jdk_42_method_149_code 20 = .ok (.getfield 15, 3) := by decide +kernel
theorem d16_23 : decode jdk_42_method_149_code 23 = .ok (.putfield 15, 3) := by decide +kernel
theorem d16_26 : decode jdk_42_method_149_code 26 = .ok (.return_, 1) := by decide +kernel
theorem ef_16n4 (m : MethodId) (x0 : Addr) (x1 : Addr) (x2 : Int32) (x3 : Int32) : entryFrame m #[(.ref x0), (.ref x1), (.int x2), (.int x3), .null] 6 = mkF m 0 #[.val (.ref x0), .val (.ref x1), .val (.int x2), .val (.int x3), .val .null, .unset] [] := by first | (simp [entryFrame, mkF, argsToLocals, Value.category]; done) | rfl
def Qsv0 (Z : State) (a : Addr) (ar : Addr) (f : Nat → Value) (cz : Int32) (h0 : Heap) (n0 : Nat) (v : Option Value) (h : Heap) (L : List Loc) : Prop := ∃ b : Addr, ∃ kb : ClassId, v = none ∧ Fr n0 L ∧ Keep h0 h [a] ∧ Exa Z h a "java/lang/String" ∧ Fld Z h a "java/lang/String" "value" "[B" (.ref b) ∧ Fld Z h a "java/lang/String" "coder" "B" (.int (0 : Int32)) ∧ Arv Z h b kb .byte (0 : Int32) [] (.int 0)
abbrev my14 : MethodName := ⟨"java/lang/String", "<init>", "([CIILjava/lang/Void;)V"⟩
abbrev Rm_sv0 : Room := { frames := 1, cells := 2, slots := 4, locals := 12 }
set_option maxRecDepth 65536 in
set_option maxHeartbeats 40000000 in
theorem sv0 (l : Launch) (Z : State) (a0 : Array Value) (hw : ∀ d ∈ tables_1, d.before a0 Z = true) (ws : List Jvm.Cond) (a : Addr) (ar : Addr) (f : Nat → Value) (cz : Int32) (h0 : Heap) (n0 : Nat) (Z0 : n0 ≤ h0.size) (E_a : Exa Z h0 a "java/lang/String") (F_value_a : Fld Z h0 a "java/lang/String" "value" "[B" .null) (F_coder_a : Fld Z h0 a "java/lang/String" "coder" "B" (.int (0 : Int32))) (A_ar : Av Z h0 ar .char 64 f) (g_a : n0 ≤ a) (ne_a_ar : a ≠ ar) (O_C : Sta Z Z.heap "java/lang/String" "COMPACT_STRINGS" "Z" (.int cz)) (hcz : ¬ (cz = (0 : Int32))) (X00 : Old Z n0 h0) :
    MetFree l my14 (head1 (Jvm.Cond.code my14 jdk_42_method_149_code 6 none :: ws) Rm_sv0) (fun aa_ U => aa_ = #[(.ref a), (.ref ar), (.int (0 : Int32)), (.int (0 : Int32)), .null] ∧ Z.Warmed39 U.vm ∧ U.heap = h0 ∧ CHv Z consts_1 U.vm h0) (fun _ _ _ _ _ => True) (fun _ U oo_ U' => ∃ v L, oo_ = .returned v ∧ Qsv0 Z a ar f cz h0 n0 v U'.heap L ∧ CHr Z consts_1 U.vm U.heap U'.vm U'.heap ∧ ReturnedEndW U oo_ U' L Rm_sv0.cells Rm_sv0.slots) := by
  refine MetFree.of_bodySF (plainFor_of_name pn_5) hisR ?_
  intro p e s m args below meth c s₁ Bd hml0 hP hK
  obtain ⟨rfl, hZ, hh, hC0⟩ := hP
  have hx := Bd.exec
  have hby := Bd.bytes
  have hml : c.maxLocals = 6 := hml0
  have hown : s.vm.findClass "java/lang/String" = some m.cls := findClass_of_methodNamed Bd.named
  have hZ : Z.Warmed39 (s.setVm s.vm).vm := hZ
  have hown : (s.setVm s.vm).vm.findClass "java/lang/String" = some m.cls := hown
  have hS0 : s.Since s.vm s.heap.size := (State.WarmedH.refl s).since _
  have hk0 : s.heap.size ≤ h0.size := Nat.le_of_eq (by rw [hh])
  have CR0 : CHr Z consts_1 s.vm h0 s.vm h0 := CHr.refl hC0
  have hnm := (name_of_methodNamed Bd.named Bd.method).1
  have X0 : Stand p l e Rm_sv0 (s.setVm s.vm) m #[(.ref a), (.ref ar), (.int (0 : Int32)), (.int (0 : Int32)), .null] below meth c s₁ [] 0 0 := Stand.of_body Bd
  have e0 : s₁.heap = h0 := by rw [← hh, Bd.state]; rfl
  have N0 := Fr.nil n0
  have pre0 : ∀ tt_, Steps p.tables e below (s₁.setTop (mkF m 0 #[.val (.ref a), .val (.ref ar), .val (.int (0 : Int32)), .val (.int (0 : Int32)), .val .null, .unset] [])) tt_ → Steps p.tables e below (s₁.setTop (entryFrame m #[(.ref a), (.ref ar), (.int (0 : Int32)), (.int (0 : Int32)), .null] 6)) tt_ := fun tt_ kk_ => castTop (ef_16n4 m a ar (0 : Int32) (0 : Int32)) kk_
  obtain ⟨T1, X1, e1, st1⟩ := initO X0 hx hZ hown (hwd87 hw) (hwd14 hw) (hwd15 hw) e0 (g := (mkF m 1 #[.val (.ref a), .val (.ref ar), .val (.int (0 : Int32)), .val (.int (0 : Int32)), .val .null, .unset] [(.ref a)])) rfl (by rw [hml]; rfl) rfl (hb hby d16_1) (by decide) (W := 0) (by show 2 * 0 + _ ≤ _; exact Nat.le_of_eq rfl) (by decide)
  have Sf0 : Safe Z consts_1 s.vm h0 a := own_safe hZ.alike E_a F_value_a
  obtain ⟨a2, T2, h2, kk2, b2, kb2, X2, e2, E2, hS2, hk2, hZ2, hown2, Es2, Cs2, Vs2, As2, la2, lb2, CR2q, Lt2, sf2, st2⟩ := ldcCH X1 hx hZ hown (hwd88 hw) (own_ws hw) e1 hS0 hk0 (own_EL hw) (List.mem_of_getElem? (i := 0) rfl) CR0.1 (vs := []) (z := (0 : Int32)) ⟨(fun _ q => nomatch q), rfl⟩ (by decide) rfl (g := (mkF m 9 #[.val (.ref a), .val (.ref ar), .val (.int (0 : Int32)), .val (.int (0 : Int32)), .val .null, .unset] [(.ref a)])) rfl (hb hby d16_9) (n := 0) (by decide) (by decide) (by decide) (by decide)
  have CR2 := CR0.trans CR2q
  have Sf2_a := CR2q.safe E_a.lt Sf0
  obtain ⟨T3, X3, e3, st3⟩ := getF X2 hx hZ2 hown2 (host := "") (Or.inl (hwd94 hw)) Via.refl e2 Vs2 (g := (mkF m 11 #[.val (.ref a), .val (.ref ar), .val (.int (0 : Int32)), .val (.int (0 : Int32)), .val .null, .unset] [(.ref a2), (.ref a)])) rfl rfl (hb hby d16_11)
  have f4_E_a := (E_a.ext E2)
  have f5_F_a_value := (F_value_a.ext E2)
  obtain ⟨T6, h6, X6, e6, W6, st6⟩ := putF X3 hx hZ2 hown2 (host := "") (Or.inl (hwd94 hw)) Via.refl e3 f5_F_a_value f4_E_a (Or.inr ⟨(hwd90 hw), rfl, hnm⟩) (hwd63 hw) (ty := (.array .byte)) (by decide) rfl rfl (g := (mkF m 14 #[.val (.ref a), .val (.ref ar), .val (.int (0 : Int32)), .val (.int (0 : Int32)), .val .null, .unset] [(.ref b2), (.ref a)])) rfl rfl (hb hby d16_14)
  have N6 := Fr.snoc X6 N0 g_a
  have Fw6 := f5_F_a_value.same W6
  have f7_F_a2_coder := (Cs2.other W6 (Or.inl (Ne.symm (sf2 _ Sf2_a).1)))
  obtain ⟨T8, X8, e8, st8⟩ := getF X6 hx hZ2 hown2 (host := "") (Or.inl (hwd95 hw)) Via.refl e6 f7_F_a2_coder (g := (mkF m 20 #[.val (.ref a), .val (.ref ar), .val (.int (0 : Int32)), .val (.int (0 : Int32)), .val .null, .unset] [(.ref a2), (.ref a)])) rfl rfl (hb hby d16_20)
  have f9_E_a := (f4_E_a.wr W6)
  have f10_F_a_coder := ((F_coder_a.ext E2).other W6 (Or.inr (slot_ne (Or.inr (hwd91 hw)) (Or.inr (hwd90 hw)) (by decide) (t := .byte) (t' := (.array .byte)) (by decide) (by decide))))
  obtain ⟨T11, h11, X11, e11, W11, st11⟩ := putFN X8 hx hZ2 hown2 (hwd95 hw) Via.refl e8 f10_F_a_coder f9_E_a (Or.inr ⟨(hwd91 hw), rfl, hnm⟩) (hwd63 hw) (ty := .byte) (v' := (.int (0 : Int32))) (by decide) rfl (by first | exact fits_nar_byte _ | rfl) (g := (mkF m 23 #[.val (.ref a), .val (.ref ar), .val (.int (0 : Int32)), .val (.int (0 : Int32)), .val .null, .unset] [(.int (0 : Int32)), (.ref a)])) rfl rfl (hb hby d16_23)
  have N11 := Fr.snoc X11 N6 g_a
  have Fw11 := f10_F_a_coder.same W11
  have kp12 : Keep h0 h11 [a] := ((((Keep.refl h0 [a]).ext E2).wr W6 (Or.inl (List.mem_of_getElem? (i := 0) rfl))).wr W11 (Or.inl (List.mem_of_getElem? (i := 0) rfl)))
  have f13_E_a := (f9_E_a.wr W11)
  have f14_F_a_value := (Fw6.other W11 (Or.inr (slot_ne (Or.inr (hwd90 hw)) (Or.inr (hwd91 hw)) (by decide) (t := (.array .byte)) (t' := .byte) (by decide) (by decide))))
  have f15_V_b2 := ((As2.other W6 (Ne.symm (sf2 _ Sf2_a).2)).other W11 (Ne.symm (sf2 _ Sf2_a).2))
  have CR16h : CHr Z consts_1 s.vm h0 T2.vm h11 := CR2.trans (CHr.keep (((Keep.refl h2 [a]).wr W6 (Or.inl (List.mem_of_getElem? (i := 0) rfl))).wr W11 (Or.inl (List.mem_of_getElem? (i := 0) rfl))) (sfS Sf2_a sf0) CR2.1)
  have hk17 : _ ≤ h11.size := (Nat.le_trans (Nat.le_trans hk2 (Keep.of_wr W6).1) (Keep.of_wr W11).1)
  have hkE := Nat.le_trans hk17 (Nat.le_of_eq (congrArg Array.size (show h11 = T11.heap from Eq.symm e11)))
  obtain ⟨fs, hr, hrun, hended, hRE⟩ := X11.leaveW hS2 hkE (v := none) (fun _ => rfl)
  refine ⟨_, _, pre0 _ ?_, hrun, hended, _, _, rfl, ?_, ?_, hRE.1, hRE.2.1, hRE.2.2.1, hRE.2.2.2.mono (by decide) (by decide)⟩
  · show Steps p.tables e below (s₁.setTop (mkF m 0 #[.val (.ref a), .val (.ref ar), .val (.int (0 : Int32)), .val (.int (0 : Int32)), .val .null, .unset] [])) _
    refine XS.aloadN X0.here hx rfl (hb hby d16_0) rfl rfl ?_
    refine st1 _ ?_
    refine XS.iloadN X1.here hx rfl (hb hby d16_4) rfl ?_
    refine XS.ifNo X1.here hx rfl (hb hby d16_5) rfl ((if0 _ _).trans (teq (show (0 : Int32) = (0 : Int32) from rfl)).2) ?_
    refine XS.aloadN X1.here hx rfl (hb hby d16_8) rfl rfl ?_
    refine st2 _ ?_
    show Steps p.tables e below (T2.setTop (mkF m 11 #[.val (.ref a), .val (.ref ar), .val (.int (0 : Int32)), .val (.int (0 : Int32)), .val .null, .unset] [(.ref a2), (.ref a)])) _
    refine st3 _ ?_
    refine st6 _ ?_
    refine XS.aloadN X6.here hx rfl (hb hby d16_17) rfl rfl ?_
    refine ldcAgain X6 hx hZ2 hown2 (hwd88 hw) Lt2 (g := (mkF m 18 #[.val (.ref a), .val (.ref ar), .val (.int (0 : Int32)), .val (.int (0 : Int32)), .val .null, .unset] [(.ref a)])) rfl (hb hby d16_18) _ ?_
    refine st8 _ ?_
    refine st11 _ ?_
    show Steps p.tables e below (T11.setTop (mkF m 26 #[.val (.ref a), .val (.ref ar), .val (.int (0 : Int32)), .val (.int (0 : Int32)), .val .null, .unset] [])) _
    exact X11.returnOut hx Bd.returns (hb hby d16_26) hr
  · show Qsv0 Z a ar f cz h0 n0 _ T11.heap _
    rw [e11]
    exact ⟨b2, kb2, rfl, N11, kp12, f13_E_a, f14_F_a_value, Fw11, f15_V_b2⟩
  · show CHr Z consts_1 s.vm s.heap T11.vm T11.heap
    rw [hh, e11]
    exact CR16h.trans (CHv.at X11 hZ2 (own_EL hw) CR16h.1)
theorem hwd72 {Z : State} {a0 : Array Value} (hw : ∀ d ∈ tables_1, d.before a0 Z = true) : (Jvm.Cond.methodLink "java/lang/String" (30 : Nat) ({ cls := "java/lang/String", name := "rangeCheck", desc := "([CII)Ljava/lang/Void;" } : Jvm.MethodName)).before a0 Z = true := hw _ (List.mem_of_getElem? (i := 72) rfl)
theorem hwd74 {Z : State} {a0 : Array Value} (hw : ∀ d ∈ tables_1, d.before a0 Z = true) : (Jvm.Cond.code ({ cls := "java/lang/String", name := "rangeCheck", desc := "([CII)Ljava/lang/Void;" } : Jvm.MethodName) jdk_42_method_5_code (3 : Nat) (Option.some (Jvm.ClassFile.FieldType.object "java/lang/Void"))).before a0 Z = true := hw _ (List.mem_of_getElem? (i := 74) rfl)
theorem pd_6 : parseMethodDescriptor "([CII)Ljava/lang/Void;" = some ⟨[(.array .char), .int, .int], some (.object "java/lang/Void")⟩ := by decide +kernel
theorem hwd73 {Z : State} {a0 : Array Value} (hw : ∀ d ∈ tables_1, d.before a0 Z = true) : (Jvm.Cond.static ({ cls := "java/lang/String", name := "rangeCheck", desc := "([CII)Ljava/lang/Void;" } : Jvm.MethodName)).before a0 Z = true := hw _ (List.mem_of_getElem? (i := 73) rfl)
theorem hwd83 {Z : State} {a0 : Array Value} (hw : ∀ d ∈ tables_1, d.before a0 Z = true) : (Jvm.Cond.methodLink "java/lang/String" (27 : Nat) ({ cls := "java/lang/String", name := "<init>", desc := "([CIILjava/lang/Void;)V" } : Jvm.MethodName)).before a0 Z = true := hw _ (List.mem_of_getElem? (i := 83) rfl)
theorem hwd86 {Z : State} {a0 : Array Value} (hw : ∀ d ∈ tables_1, d.before a0 Z = true) : (Jvm.Cond.code ({ cls := "java/lang/String", name := "<init>", desc := "([CIILjava/lang/Void;)V" } : Jvm.MethodName) jdk_42_method_149_code (6 : Nat) (Option.none : Option Jvm.ClassFile.FieldType)).before a0 Z = true := hw _ (List.mem_of_getElem? (i := 86) rfl)
theorem pd_7 : parseMethodDescriptor "([CIILjava/lang/Void;)V" = some ⟨[(.array .char), .int, .int, (.object "java/lang/Void")], none⟩ := by decide +kernel
theorem hwd84 {Z : State} {a0 : Array Value} (hw : ∀ d ∈ tables_1, d.before a0 Z = true) : (Jvm.Cond.instanceMethod ({ cls := "java/lang/String", name := "<init>", desc := "([CIILjava/lang/Void;)V" } : Jvm.MethodName)).before a0 Z = true := hw _ (List.mem_of_getElem? (i := 84) rfl)
theorem d12_0 : decode jdk_42_method_4_code 0 = .ok (.aload_n 0, 1) := by decide +kernel
theorem d12_1 : decode jdk_42_method_4_code 1 = .ok (.aload_n 1, 1) := by decide +kernel
theorem d12_2 : decode jdk_42_method_4_code 2 = .ok (.iload_n 2, 1) := by decide +kernel
theorem d12_3 : decode jdk_42_method_4_code 3 = .ok (.iload_n 3, 1) := by decide +kernel
theorem d12_4 : decode jdk_42_method_4_code 4 = .ok (.aload_n 1, 1) := by decide +kernel
theorem d12_5 : decode jdk_42_method_4_code 5 = .ok (.iload_n 2, 1) := by decide +kernel
theorem d12_6 : decode jdk_42_method_4_code 6 = .ok (.iload_n 3, 1) := by decide +kernel
theorem d12_7 : decode jdk_42_method_4_code 7 = .ok (.invokestatic 30, 3) := by decide +kernel
theorem d12_10 : decode jdk_42_method_4_code 10 = .ok (.invokespecial 27, 3) := by decide +kernel
theorem d12_13 : decode jdk_42_method_4_code 13 = .ok (.return_, 1) := by decide +kernel
theorem ef_12 (m : MethodId) (x0 : Addr) (x1 : Addr) (x2 : Int32) (x3 : Int32) : entryFrame m #[(.ref x0), (.ref x1), (.int x2), (.int x3)] 4 = mkF m 0 #[.val (.ref x0), .val (.ref x1), .val (.int x2), .val (.int x3)] [] := by first | (simp [entryFrame, mkF, argsToLocals, Value.category]; done) | rfl
def Qsc0 (Z : State) (a : Addr) (ar : Addr) (f : Nat → Value) (cz : Int32) (sf : Value) (h0 : Heap) (n0 : Nat) (v : Option Value) (h : Heap) (L : List Loc) : Prop := ∃ b : Addr, ∃ kb : ClassId, v = none ∧ Fr n0 L ∧ Keep h0 h [a] ∧ Exa Z h a "java/lang/String" ∧ Fld Z h a "java/lang/String" "value" "[B" (.ref b) ∧ Fld Z h a "java/lang/String" "coder" "B" (.int (0 : Int32)) ∧ Arv Z h b kb .byte (0 : Int32) [] (.int 0)
abbrev my15 : MethodName := ⟨"java/lang/String", "<init>", "([CII)V"⟩
abbrev Rm_sc0 : Room := { frames := 3, cells := 2, slots := 4, locals := 47 }
set_option maxRecDepth 65536 in
set_option maxHeartbeats 40000000 in
theorem sc0 (l : Launch) (Z : State) (a0 : Array Value) (hw : ∀ d ∈ tables_1, d.before a0 Z = true) (ws : List Jvm.Cond) (a : Addr) (ar : Addr) (f : Nat → Value) (cz : Int32) (sf : Value) (h0 : Heap) (n0 : Nat) (Z0 : n0 ≤ h0.size) (E_a : Exa Z h0 a "java/lang/String") (F_value_a : Fld Z h0 a "java/lang/String" "value" "[B" .null) (F_coder_a : Fld Z h0 a "java/lang/String" "coder" "B" (.int (0 : Int32))) (A_ar : Av Z h0 ar .char 64 f) (g_a : n0 ≤ a) (ne_a_ar : a ≠ ar) (O_C : Sta Z Z.heap "java/lang/String" "COMPACT_STRINGS" "Z" (.int cz)) (hcz : ¬ (cz = (0 : Int32))) (X00 : Old Z n0 h0) (O_S : Sta Z Z.heap "jdk/internal/util/Preconditions" "SIOOBE_FORMATTER" "Ljava/util/function/BiFunction;" sf) (hsf : sf.isRef = true) :
    MetFree l my15 (head1 (Jvm.Cond.code my15 jdk_42_method_4_code 4 none :: ws) Rm_sc0) (fun aa_ U => aa_ = #[(.ref a), (.ref ar), (.int (0 : Int32)), (.int (0 : Int32))] ∧ Z.Warmed39 U.vm ∧ U.heap = h0 ∧ CHv Z consts_1 U.vm h0) (fun _ _ _ _ _ => True) (fun _ U oo_ U' => ∃ v L, oo_ = .returned v ∧ Qsc0 Z a ar f cz sf h0 n0 v U'.heap L ∧ CHr Z consts_1 U.vm U.heap U'.vm U'.heap ∧ ReturnedEndW U oo_ U' L Rm_sc0.cells Rm_sc0.slots) := by
  refine MetFree.of_bodySF (plainFor_of_name pn_5) hisR ?_
  intro p e s m args below meth c s₁ Bd hml0 hP hK
  obtain ⟨rfl, hZ, hh, hC0⟩ := hP
  have hx := Bd.exec
  have hby := Bd.bytes
  have hml : c.maxLocals = 4 := hml0
  have hown : s.vm.findClass "java/lang/String" = some m.cls := findClass_of_methodNamed Bd.named
  have hZ : Z.Warmed39 (s.setVm s.vm).vm := hZ
  have hown : (s.setVm s.vm).vm.findClass "java/lang/String" = some m.cls := hown
  have hS0 : s.Since s.vm s.heap.size := (State.WarmedH.refl s).since _
  have hk0 : s.heap.size ≤ h0.size := Nat.le_of_eq (by rw [hh])
  have CR0 : CHr Z consts_1 s.vm h0 s.vm h0 := CHr.refl hC0
  have hnm := (name_of_methodNamed Bd.named Bd.method).1
  have X0 : Stand p l e Rm_sc0 (s.setVm s.vm) m #[(.ref a), (.ref ar), (.int (0 : Int32)), (.int (0 : Int32))] below meth c s₁ [] 0 0 := Stand.of_body Bd
  have e0 : s₁.heap = h0 := by rw [← hh, Bd.state]; rfl
  have N0 := Fr.nil n0
  have pre0 : ∀ tt_, Steps p.tables e below (s₁.setTop (mkF m 0 #[.val (.ref a), .val (.ref ar), .val (.int (0 : Int32)), .val (.int (0 : Int32))] [])) tt_ → Steps p.tables e below (s₁.setTop (entryFrame m #[(.ref a), (.ref ar), (.int (0 : Int32)), (.int (0 : Int32))] 4)) tt_ := fun tt_ kk_ => castTop (ef_12 m a ar (0 : Int32) (0 : Int32)) kk_
  obtain ⟨_, _, ⟨T1, L1, k1, n1⟩, -, X1, ⟨Lc1, hQ1, l1, y1, z1⟩, st1⟩ := Jvm.LawKit.callS X0 hx (y := my13) hown (mvT hZ (hwd72 hw)) (mvT hZ (hwd73 hw)) (mvT hZ (hwd64 hw)) (mvT hZ (hwd74 hw)) (by decide) (backOf (W := 4) (rc0 l Z a0 hw [] ar f sf h0 n0 Z0 A_ar O_S hsf X00) hZ (hwd74 hw) (hwd64 hw) (by decide) (by decide)) (g := (mkF m 7 #[.val (.ref a), .val (.ref ar), .val (.int (0 : Int32)), .val (.int (0 : Int32))] [(.int (0 : Int32)), (.int (0 : Int32)), (.ref ar), (.int (0 : Int32)), (.int (0 : Int32)), (.ref ar), (.ref a)])) rfl (by rw [hml]; rfl) (argsL := [(.ref ar), (.int (0 : Int32)), (.int (0 : Int32))]) (rest := [(.int (0 : Int32)), (.int (0 : Int32)), (.ref ar), (.ref a)]) (lenOf pd_6 rfl) rfl (by show 2 * 0 + _ ≤ _; exact Nat.le_of_eq rfl) (hb hby d12_7) (fun _ _ => ⟨rfl, e0, (by decide : 0 + 0 ≤ _), (by decide : 0 + 0 ≤ _)⟩)
  dsimp only [Pt.U, Pt.locs, Pt.cells, Pt.slots] at X1 l1 y1 z1 st1 hQ1
  subst l1 y1 z1
  obtain ⟨rfl, N1q, e1q⟩ := hQ1
  have N1 := Fr.app N0 N1q
  obtain ⟨_, _, ⟨T2, L2, k2, n2⟩, -, X2q, hS2q, hg2q, ⟨Lc2, hQ2, l2, y2, z2, CR2q⟩, st2⟩ := X1.specialBackS hx (y := my14) rfl hown (mvT hZ (hwd83 hw)) (mvT hZ (hwd84 hw)) (mvT hZ (hwd86 hw)) (by decide) (backOfSH (W := 0) (EL := consts_1) (s := s) (vm0 := s.vm) (sv0 l Z a0 hw [] a ar f cz h0 n0 Z0 E_a F_value_a F_coder_a A_ar g_a ne_a_ar O_C hcz X00) hZ (hwd86 hw) (hwd64 hw) (by decide) (by decide) (own_EL hw) CR0.1) (g := (mkF m 10 #[.val (.ref a), .val (.ref ar), .val (.int (0 : Int32)), .val (.int (0 : Int32))] [.null, (.int (0 : Int32)), (.int (0 : Int32)), (.ref ar), (.ref a)])) rfl (by rw [hml]; rfl) (Steps.refl _) (a := a) (argsL := [(.ref ar), (.int (0 : Int32)), (.int (0 : Int32)), .null]) (rest := []) (lenOf pd_7 rfl) rfl (by show 2 * 0 + _ ≤ _; exact Nat.le_of_eq rfl) (hb hby d12_10) (fun _ _ => ⟨rfl, e1q, (by decide : 0 + 2 ≤ _), (by decide : 0 + 4 ≤ _)⟩)
  dsimp only [Pt.U, Pt.locs, Pt.cells, Pt.slots] at X2q l2 y2 z2 st2 hQ2 hS2q hg2q CR2q
  subst l2 y2 z2
  obtain ⟨X2, hS2, hZ2, hown2⟩ := rebS hS0 (by rw [show T1.heap = h0 from e1q]; exact hk0) X2q hS2q hg2q hZ hown
  have hk2 : T2.heap.size ≤ T2.heap.size := Nat.le_refl _
  have CR2 := CR0.trans CR2q
  obtain ⟨b_e2, kb_e2, rfl, N2q, K2, p2_1, p2_2, p2_3, p2_4⟩ := hQ2
  have N2 := Fr.app N1 N2q
  have kp3 : Keep h0 T2.heap [a] := ((Keep.refl h0 [a]).trans K2 (allS (Or.inl (List.mem_of_getElem? (i := 0) rfl)) all0))
  have hkE := Nat.le_trans hk2 (Nat.le_of_eq (congrArg Array.size (show T2.heap = T2.heap from Eq.symm rfl)))
  obtain ⟨fs, hr, hrun, hended, hRE⟩ := X2.leaveW hS2 hkE (v := none) (fun _ => rfl)
  refine ⟨_, _, pre0 _ ?_, hrun, hended, _, _, rfl, ?_, ?_, hRE.1, hRE.2.1, hRE.2.2.1, hRE.2.2.2.mono (by decide) (by decide)⟩
  · show Steps p.tables e below (s₁.setTop (mkF m 0 #[.val (.ref a), .val (.ref ar), .val (.int (0 : Int32)), .val (.int (0 : Int32))] [])) _
    refine XS.aloadN X0.here hx rfl (hb hby d12_0) rfl rfl ?_
    refine XS.aloadN X0.here hx rfl (hb hby d12_1) rfl rfl ?_
    refine XS.iloadN X0.here hx rfl (hb hby d12_2) rfl ?_
    refine XS.iloadN X0.here hx rfl (hb hby d12_3) rfl ?_
    refine XS.aloadN X0.here hx rfl (hb hby d12_4) rfl rfl ?_
    refine XS.iloadN X0.here hx rfl (hb hby d12_5) rfl ?_
    show Steps p.tables e below (s₁.setTop (mkF m 6 #[.val (.ref a), .val (.ref ar), .val (.int (0 : Int32)), .val (.int (0 : Int32))] [(.int (0 : Int32)), (.ref ar), (.int (0 : Int32)), (.int (0 : Int32)), (.ref ar), (.ref a)])) _
    refine XS.iloadN X0.here hx rfl (hb hby d12_6) rfl ?_
    refine st1 _ ?_
    refine st2.trans ?_
    exact X2.returnOut hx Bd.returns (hb hby d12_13) hr
  · show Qsc0 Z a ar f cz sf h0 n0 _ T2.heap _
    exact ⟨b_e2, kb_e2, rfl, N2, kp3, p2_1, p2_2, p2_3, p2_4⟩
  · show CHr Z consts_1 s.vm s.heap T2.vm T2.heap
    rw [hh]
    exact CR2.trans (CHv.at X2 hZ2 (own_EL hw) CR2.1)
def Qcfis1 (Z : State) (sf : Value) (h0 : Heap) (n0 : Nat) (v : Option Value) (h : Heap) (L : List Loc) : Prop := v = some (.int (0 : Int32)) ∧ Fr n0 L ∧ h = h0
abbrev Rm_cfis1 : Room := { frames := 0, cells := 0, slots := 0, locals := 0 }
set_option maxRecDepth 65536 in
set_option maxHeartbeats 40000000 in
theorem cfis1 (l : Launch) (Z : State) (a0 : Array Value) (hw : ∀ d ∈ tables_1, d.before a0 Z = true) (ws : List Jvm.Cond) (sf : Value) (h0 : Heap) (n0 : Nat) (Z0 : n0 ≤ h0.size) (hsf : sf.isRef = true) :
    MetFree l my11 (head1 (Jvm.Cond.code my11 jdk_41_method_13_code 4 (some .int) :: ws) Rm_cfis1) (fun aa_ U => aa_ = #[(.int (0 : Int32)), (.int (1 : Int32)), (.int (64 : Int32)), sf] ∧ Z.Warmed39 U.vm ∧ U.heap = h0) (fun _ _ _ _ _ => True) (fun _ U oo_ U' => ∃ v L, oo_ = .returned v ∧ Qcfis1 Z sf h0 n0 v U'.heap L ∧ FrameEnd U oo_ U' L Rm_cfis1.cells Rm_cfis1.slots) := by
  refine MetFree.of_bodySF (plainFor_of_name pn_4) hisR ?_
  intro p e s m args below meth c s₁ Bd hml0 hP hK
  obtain ⟨rfl, hZ, hh⟩ := hP
  have hx := Bd.exec
  have hby := Bd.bytes
  have hml : c.maxLocals = 4 := hml0
  have hown : s.vm.findClass "jdk/internal/util/Preconditions" = some m.cls := findClass_of_methodNamed Bd.named
  have hnm := (name_of_methodNamed Bd.named Bd.method).1
  have X0 : Stand p l e Rm_cfis1 s m #[(.int (0 : Int32)), (.int (1 : Int32)), (.int (64 : Int32)), sf] below meth c s₁ [] 0 0 := Stand.of_body Bd
  have e0 : s₁.heap = h0 := by rw [← hh, Bd.state]; rfl
  have N0 := Fr.nil n0
  have pre0 : ∀ tt_, Steps p.tables e below (s₁.setTop (mkF m 0 #[.val (.int (0 : Int32)), .val (.int (1 : Int32)), .val (.int (64 : Int32)), .val sf] [])) tt_ → Steps p.tables e below (s₁.setTop (entryFrame m #[(.int (0 : Int32)), (.int (1 : Int32)), (.int (64 : Int32)), sf] 4)) tt_ := fun tt_ kk_ => castTop (ef_15 m (0 : Int32) (1 : Int32) (64 : Int32) sf hsf) kk_
  obtain ⟨fs, hr, hrun, hended, hW, hsame⟩ := X0.leave (v := some (.int (0 : Int32))) (fun h => by rw [Bd.returns] at h; cases h)
  refine ⟨_, _, pre0 _ ?_, hrun, hended, _, _, rfl, ?_, ⟨_, rfl⟩, hW, hsame.mono (by decide) (by decide)⟩
  · show Steps p.tables e below (s₁.setTop (mkF m 0 #[.val (.int (0 : Int32)), .val (.int (1 : Int32)), .val (.int (64 : Int32)), .val sf] [])) _
    refine XS.iloadN X0.here hx rfl (hb hby d15_0) rfl ?_
    refine XS.iloadN X0.here hx rfl (hb hby d15_1) rfl ?_
    refine XS.ior X0.here hx rfl (hb hby d15_2) rfl ?_
    refine XS.iloadN X0.here hx rfl (hb hby d15_3) rfl ?_
    refine XS.ior X0.here hx rfl (hb hby d15_4) rfl ?_
    refine XS.ifNo X0.here hx rfl (hb hby d15_5) rfl ((if0 _ _).trans (flt (show ¬ ((((64 : Int32) ||| (0 : Int32)) ||| (1 : Int32)) < (0 : Int32)) from (by decide))).1) ?_
    show Steps p.tables e below (s₁.setTop (mkF m 8 #[.val (.int (0 : Int32)), .val (.int (1 : Int32)), .val (.int (64 : Int32)), .val sf] [])) _
    refine XS.iloadN X0.here hx rfl (hb hby d15_8) rfl ?_
    refine XS.iloadN X0.here hx rfl (hb hby d15_9) rfl ?_
    refine XS.iloadN X0.here hx rfl (hb hby d15_10) rfl ?_
    refine XS.isub X0.here hx rfl (hb hby d15_11) rfl ?_
    show Steps p.tables e below (s₁.setTop (mkF m 12 #[.val (.int (0 : Int32)), .val (.int (1 : Int32)), .val (.int (64 : Int32)), .val sf] [(.int ((64 : Int32) - (0 : Int32))), (.int (1 : Int32))])) _
    rw [show (((64 : Int32) - (0 : Int32)) : Int32) = (64 : Int32) from by decide]
    refine XS.icmpYes X0.here hx rfl (pc0 := 12) (pc' := 23) rfl (hb hby d15_12) rfl (flt (show ¬ ((64 : Int32) < (1 : Int32)) from (by decide))).2.2.2 (by decide) (by decide) ?_
    refine XS.iloadN X0.here hx rfl (hb hby d15_23) rfl ?_
    exact retI X0 hx Bd.returns (hb hby d15_24) hr
  · show Qcfis1 Z sf h0 n0 _ s₁.heap _
    rw [e0]
    exact ⟨rfl, N0, rfl⟩
def Qcbo1 (Z : State) (sf : Value) (h0 : Heap) (n0 : Nat) (v : Option Value) (h : Heap) (L : List Loc) : Prop := v = some (.int (0 : Int32)) ∧ Fr n0 L ∧ h = h0
abbrev Rm_cbo1 : Room := { frames := 1, cells := 0, slots := 0, locals := 15 }
set_option maxRecDepth 65536 in
set_option maxHeartbeats 40000000 in
theorem cbo1 (l : Launch) (Z : State) (a0 : Array Value) (hw : ∀ d ∈ tables_1, d.before a0 Z = true) (ws : List Jvm.Cond) (sf : Value) (h0 : Heap) (n0 : Nat) (Z0 : n0 ≤ h0.size) (O_S : Sta Z Z.heap "jdk/internal/util/Preconditions" "SIOOBE_FORMATTER" "Ljava/util/function/BiFunction;" sf) (hsf : sf.isRef = true) (X00 : Old Z n0 h0) :
    MetFree l my12 (head1 (Jvm.Cond.code my12 jdk_42_method_157_code 3 (some .int) :: ws) Rm_cbo1) (fun aa_ U => aa_ = #[(.int (0 : Int32)), (.int (1 : Int32)), (.int (64 : Int32))] ∧ Z.Warmed39 U.vm ∧ U.heap = h0) (fun _ _ _ _ _ => True) (fun _ U oo_ U' => ∃ v L, oo_ = .returned v ∧ Qcbo1 Z sf h0 n0 v U'.heap L ∧ FrameEnd U oo_ U' L Rm_cbo1.cells Rm_cbo1.slots) := by
  refine MetFree.of_bodySF (plainFor_of_name pn_5) hisR ?_
  intro p e s m args below meth c s₁ Bd hml0 hP hK
  obtain ⟨rfl, hZ, hh⟩ := hP
  have hx := Bd.exec
  have hby := Bd.bytes
  have hml : c.maxLocals = 3 := hml0
  have hown : s.vm.findClass "java/lang/String" = some m.cls := findClass_of_methodNamed Bd.named
  have hnm := (name_of_methodNamed Bd.named Bd.method).1
  have X0 : Stand p l e Rm_cbo1 s m #[(.int (0 : Int32)), (.int (1 : Int32)), (.int (64 : Int32))] below meth c s₁ [] 0 0 := Stand.of_body Bd
  have e0 : s₁.heap = h0 := by rw [← hh, Bd.state]; rfl
  have N0 := Fr.nil n0
  have pre0 : ∀ tt_, Steps p.tables e below (s₁.setTop (mkF m 0 #[.val (.int (0 : Int32)), .val (.int (1 : Int32)), .val (.int (64 : Int32))] [])) tt_ → Steps p.tables e below (s₁.setTop (entryFrame m #[(.int (0 : Int32)), (.int (1 : Int32)), (.int (64 : Int32))] 3)) tt_ := fun tt_ kk_ => castTop (ef_14 m (0 : Int32) (1 : Int32) (64 : Int32)) kk_
  obtain ⟨T1, X1, e1, st1⟩ := getS2 X0 hx hZ hown (host := "") (Or.inl (hwd78 hw)) Via.refl e0 (O_S.ext X00.2) (g := (mkF m 3 #[.val (.int (0 : Int32)), .val (.int (1 : Int32)), .val (.int (64 : Int32))] [(.int (64 : Int32)), (.int (1 : Int32)), (.int (0 : Int32))])) rfl (hb hby d14_3)
  obtain ⟨_, _, ⟨T2, L2, k2, n2⟩, -, X2, ⟨Lc2, hQ2, l2, y2, z2⟩, st2⟩ := Jvm.LawKit.callS X1 hx (y := my11) hown (mvT hZ (hwd80 hw)) (mvT hZ (hwd81 hw)) (mvT hZ (hwd79 hw)) (mvT hZ (hwd82 hw)) (by decide) (backOf (W := 0) (cfis1 l Z a0 hw [] sf h0 n0 Z0 hsf) hZ (hwd82 hw) (hwd79 hw) (by decide) (by decide)) (g := (mkF m 6 #[.val (.int (0 : Int32)), .val (.int (1 : Int32)), .val (.int (64 : Int32))] [sf, (.int (64 : Int32)), (.int (1 : Int32)), (.int (0 : Int32))])) rfl (by rw [hml]; rfl) (argsL := [(.int (0 : Int32)), (.int (1 : Int32)), (.int (64 : Int32)), sf]) (rest := []) (lenOf pd_4 rfl) rfl (by show 2 * 0 + _ ≤ _; exact Nat.le_of_eq rfl) (hb hby d14_6) (fun _ _ => ⟨rfl, e1, (by decide : 0 + 0 ≤ _), (by decide : 0 + 0 ≤ _)⟩)
  dsimp only [Pt.U, Pt.locs, Pt.cells, Pt.slots] at X2 l2 y2 z2 st2 hQ2
  subst l2 y2 z2
  obtain ⟨rfl, N2q, e2q⟩ := hQ2
  have N2 := Fr.app N0 N2q
  obtain ⟨fs, hr, hrun, hended, hW, hsame⟩ := X2.leave (v := some (.int (0 : Int32))) (fun h => by rw [Bd.returns] at h; cases h)
  refine ⟨_, _, pre0 _ ?_, hrun, hended, _, _, rfl, ?_, ⟨_, rfl⟩, hW, hsame.mono (by decide) (by decide)⟩
  · show Steps p.tables e below (s₁.setTop (mkF m 0 #[.val (.int (0 : Int32)), .val (.int (1 : Int32)), .val (.int (64 : Int32))] [])) _
    refine XS.iloadN X0.here hx rfl (hb hby d14_0) rfl ?_
    refine XS.iloadN X0.here hx rfl (hb hby d14_1) rfl ?_
    refine XS.iloadN X0.here hx rfl (hb hby d14_2) rfl ?_
    refine st1 _ ?_
    refine st2 _ ?_
    exact retI X2 hx Bd.returns (hb hby d14_9) hr
  · show Qcbo1 Z sf h0 n0 _ T2.heap _
    rw [e2q]
    exact ⟨rfl, N2, rfl⟩
def Qrc1 (Z : State) (ar : Addr) (f : Nat → Value) (sf : Value) (h0 : Heap) (n0 : Nat) (v : Option Value) (h : Heap) (L : List Loc) : Prop := v = some .null ∧ Fr n0 L ∧ h = h0
abbrev Rm_rc1 : Room := { frames := 2, cells := 0, slots := 0, locals := 29 }
set_option maxRecDepth 65536 in
set_option maxHeartbeats 40000000 in
theorem rc1 (l : Launch) (Z : State) (a0 : Array Value) (hw : ∀ d ∈ tables_1, d.before a0 Z = true) (ws : List Jvm.Cond) (ar : Addr) (f : Nat → Value) (sf : Value) (h0 : Heap) (n0 : Nat) (Z0 : n0 ≤ h0.size) (A_ar : Av Z h0 ar .char 64 f) (O_S : Sta Z Z.heap "jdk/internal/util/Preconditions" "SIOOBE_FORMATTER" "Ljava/util/function/BiFunction;" sf) (hsf : sf.isRef = true) (X00 : Old Z n0 h0) :
    MetFree l my13 (head1 (Jvm.Cond.code my13 jdk_42_method_5_code 3 (some (.object "java/lang/Void")) :: ws) Rm_rc1) (fun aa_ U => aa_ = #[(.ref ar), (.int (0 : Int32)), (.int (1 : Int32))] ∧ Z.Warmed39 U.vm ∧ U.heap = h0) (fun _ _ _ _ _ => True) (fun _ U oo_ U' => ∃ v L, oo_ = .returned v ∧ Qrc1 Z ar f sf h0 n0 v U'.heap L ∧ FrameEnd U oo_ U' L Rm_rc1.cells Rm_rc1.slots) := by
  refine MetFree.of_bodySF (plainFor_of_name pn_5) hisR ?_
  intro p e s m args below meth c s₁ Bd hml0 hP hK
  obtain ⟨rfl, hZ, hh⟩ := hP
  have hx := Bd.exec
  have hby := Bd.bytes
  have hml : c.maxLocals = 3 := hml0
  have hown : s.vm.findClass "java/lang/String" = some m.cls := findClass_of_methodNamed Bd.named
  have hnm := (name_of_methodNamed Bd.named Bd.method).1
  have X0 : Stand p l e Rm_rc1 s m #[(.ref ar), (.int (0 : Int32)), (.int (1 : Int32))] below meth c s₁ [] 0 0 := Stand.of_body Bd
  have e0 : s₁.heap = h0 := by rw [← hh, Bd.state]; rfl
  have N0 := Fr.nil n0
  have pre0 : ∀ tt_, Steps p.tables e below (s₁.setTop (mkF m 0 #[.val (.ref ar), .val (.int (0 : Int32)), .val (.int (1 : Int32))] [])) tt_ → Steps p.tables e below (s₁.setTop (entryFrame m #[(.ref ar), (.int (0 : Int32)), (.int (1 : Int32))] 3)) tt_ := fun tt_ kk_ => castTop (ef_13 m ar (0 : Int32) (1 : Int32)) kk_
  obtain ⟨cl1, Ar1, S1, -⟩ := id A_ar
  obtain ⟨_, _, ⟨T2, L2, k2, n2⟩, -, X2, ⟨Lc2, hQ2, l2, y2, z2⟩, st2⟩ := Jvm.LawKit.callS X0 hx (y := my12) hown (mvT hZ (hwd75 hw)) (mvT hZ (hwd76 hw)) (mvT hZ (hwd64 hw)) (mvT hZ (hwd77 hw)) (by decide) (backOf (W := 0) (cbo1 l Z a0 hw [] sf h0 n0 Z0 O_S hsf X00) hZ (hwd77 hw) (hwd64 hw) (by decide) (by decide)) (g := (mkF m 4 #[.val (.ref ar), .val (.int (0 : Int32)), .val (.int (1 : Int32))] [(.int (64 : Int32)), (.int (1 : Int32)), (.int (0 : Int32))])) rfl (by rw [hml]; rfl) (argsL := [(.int (0 : Int32)), (.int (1 : Int32)), (.int (64 : Int32))]) (rest := []) (lenOf pd_5 rfl) rfl (by show 2 * 0 + _ ≤ _; exact Nat.le_of_eq rfl) (hb hby d13_4) (fun _ _ => ⟨rfl, e0, (by decide : 0 + 0 ≤ _), (by decide : 0 + 0 ≤ _)⟩)
  dsimp only [Pt.U, Pt.locs, Pt.cells, Pt.slots] at X2 l2 y2 z2 st2 hQ2
  subst l2 y2 z2
  obtain ⟨rfl, N2q, e2q⟩ := hQ2
  have N2 := Fr.app N0 N2q
  obtain ⟨fs, hr, hrun, hended, hW, hsame⟩ := X2.leave (v := some .null) (fun h => by rw [Bd.returns] at h; cases h)
  refine ⟨_, _, pre0 _ ?_, hrun, hended, _, _, rfl, ?_, ⟨_, rfl⟩, hW, hsame.mono (by decide) (by decide)⟩
  · show Steps p.tables e below (s₁.setTop (mkF m 0 #[.val (.ref ar), .val (.int (0 : Int32)), .val (.int (1 : Int32))] [])) _
    refine XS.iloadN X0.here hx rfl (hb hby d13_0) rfl ?_
    refine XS.iloadN X0.here hx rfl (hb hby d13_1) rfl ?_
    refine XS.aloadN X0.here hx rfl (hb hby d13_2) rfl rfl ?_
    refine X0.arraylength hx (by rw [e0]; exact Ar1.1) (State.isArrayOf_alike hZ.alike Ar1.2.1) (g := (mkF m 3 #[.val (.ref ar), .val (.int (0 : Int32)), .val (.int (1 : Int32))] [(.ref ar), (.int (1 : Int32)), (.int (0 : Int32))])) rfl rfl (hb hby d13_3) _ ?_
    rw [S1]
    show Steps p.tables e below (s₁.setTop (mkF m 4 #[.val (.ref ar), .val (.int (0 : Int32)), .val (.int (1 : Int32))] [(.int (Nat.toInt32 64)), (.int (1 : Int32)), (.int (0 : Int32))])) _
    rw [show ((Nat.toInt32 64) : Int32) = (64 : Int32) from by decide]
    refine st2 _ ?_
    refine XS.pop X2.here hx rfl (hb hby d13_7) rfl rfl ?_
    refine XS.aconstNull X2.here hx rfl (hb hby d13_8) ?_
    jvm_step X2.here [X2.here.top, hx, (hb hby d13_9), X2.method', Bd.returns, Value.isRef, FieldType.isReference]
    first | (intro acts; rw [hr _ acts rfl rfl rfl]) | rw [hr _ _ rfl rfl rfl]
    exact Steps.refl _
  · show Qrc1 Z ar f sf h0 n0 _ T2.heap _
    rw [e2q]
    exact ⟨rfl, N2, rfl⟩
theorem d22_0 : decode jdk_52_method_21_code 0 = .ok (.iconst 0, 1) := by decide +kernel
theorem d22_1 : decode jdk_52_method_21_code 1 = .ok (.istore 5, 2) := by decide +kernel
theorem d22_3 : decode jdk_52_method_21_code 3 = .ok (.iload 5, 2) := by decide +kernel
theorem d22_5 : decode jdk_52_method_21_code 5 = .ok (.iload 4, 2) := by decide +kernel
theorem d22_7 : decode jdk_52_method_21_code 7 = .ok (.if_icmp .ge 37, 3) := by decide +kernel
theorem d22_10 : decode jdk_52_method_21_code 10 = .ok (.aload_n 0, 1) := by decide +kernel
theorem d22_11 : decode jdk_52_method_21_code 11 = .ok (.iload_n 1, 1) := by decide +kernel
theorem d22_12 : decode jdk_52_method_21_code 12 = .ok (.caload, 1) := by decide +kernel
theorem d22_13 : decode jdk_52_method_21_code 13 = .ok (.istore 6, 2) := by decide +kernel
theorem d22_15 : decode jdk_52_method_21_code 15 = .ok (.iload 6, 2) := by decide +kernel
theorem d22_17 : decode jdk_52_method_21_code 17 = .ok (.sipush 255, 3) := by decide +kernel
theorem d22_20 : decode jdk_52_method_21_code 20 = .ok (.if_icmp .le 6, 3) := by decide +kernel
theorem d22_26 : decode jdk_52_method_21_code 26 = .ok (.aload_n 2, 1) := by decide +kernel
theorem d22_27 : decode jdk_52_method_21_code 27 = .ok (.iload_n 3, 1) := by decide +kernel
theorem d22_28 : decode jdk_52_method_21_code 28 = .ok (.iload 6, 2) := by decide +kernel
theorem d22_30 : decode jdk_52_method_21_code 30 = .ok (.i2b, 1) := by decide +kernel
theorem d22_31 : decode jdk_52_method_21_code 31 = .ok (.bastore, 1) := by decide +kernel
theorem d22_32 : decode jdk_52_method_21_code 32 = .ok (.iinc 1 1, 3) := by decide +kernel
theorem d22_35 : decode jdk_52_method_21_code 35 = .ok (.iinc 3 1, 3) := by decide +kernel
theorem d22_38 : decode jdk_52_method_21_code 38 = .ok (.iinc 5 1, 3) := by decide +kernel
theorem d22_41 : decode jdk_52_method_21_code 41 = .ok (.goto (-38), 3) := by decide +kernel
theorem d22_44 : decode jdk_52_method_21_code 44 = .ok (.iload 4, 2) := by decide +kernel
theorem d22_46 : decode jdk_52_method_21_code 46 = .ok (.ireturn, 1) := by decide +kernel
theorem pn_6 : plainName "java/lang/StringUTF16" = true := by first | (simp [plainName, overriddenIn]; done) | decide +kernel
theorem ef_22 (m : MethodId) (x0 : Addr) (x1 : Int32) (x2 : Addr) (x3 : Int32) (x4 : Int32) : entryFrame m #[(.ref x0), (.int x1), (.ref x2), (.int x3), (.int x4)] 7 = mkF m 0 #[.val (.ref x0), .val (.int x1), .val (.ref x2), .val (.int x3), .val (.int x4), .unset, .unset] [] := by first | (simp [entryFrame, mkF, argsToLocals, Value.category]; done) | rfl
def Qcmq1 (Z : State) (ar : Addr) (bt : Addr) (kb : ClassId) (f : Nat → Value) (c0 : Int32) (h0 : Heap) (n0 : Nat) (v : Option Value) (h : Heap) (L : List Loc) : Prop := v = some (.int (1 : Int32)) ∧ Fr n0 L ∧ Keep h0 h [bt] ∧ Arv Z h bt kb .byte (1 : Int32) [(.int (nar .byte (c0.toInt8.toInt32)))] (.int 0)
abbrev my16 : MethodName := ⟨"java/lang/StringUTF16", "compress", "([CI[BII)I"⟩
abbrev Rm_cmq1 : Room := { frames := 0, cells := 0, slots := 0, locals := 0 }
set_option maxRecDepth 65536 in
set_option maxHeartbeats 40000000 in
theorem cmq1 (l : Launch) (Z : State) (a0 : Array Value) (hw : ∀ d ∈ tables_1, d.before a0 Z = true) (ws : List Jvm.Cond) (ar : Addr) (bt : Addr) (kb : ClassId) (f : Nat → Value) (c0 : Int32) (h0 : Heap) (n0 : Nat) (Z0 : n0 ≤ h0.size) (A_ar : Av Z h0 ar .char 64 f) (hf0 : f 0 = (.int c0)) (hl0 : Lat c0) (V_bt : Arv Z h0 bt kb .byte (1 : Int32) [(.int (0 : Int32))] (.int (0 : Int32))) (g_bt : n0 ≤ bt) (ne_ar_bt : ar ≠ bt) :
    MetFree l my16 (head1 (Jvm.Cond.code my16 jdk_52_method_21_code 7 (some .int) :: ws) Rm_cmq1) (fun aa_ U => aa_ = #[(.ref ar), (.int (0 : Int32)), (.ref bt), (.int (0 : Int32)), (.int (1 : Int32))] ∧ Z.Warmed39 U.vm ∧ U.heap = h0) (fun _ _ _ _ _ => True) (fun _ U oo_ U' => ∃ v L, oo_ = .returned v ∧ Qcmq1 Z ar bt kb f c0 h0 n0 v U'.heap L ∧ FrameEnd U oo_ U' L Rm_cmq1.cells Rm_cmq1.slots) := by
  refine MetFree.of_bodySF (plainFor_of_name pn_6) hisR ?_
  intro p e s m args below meth c s₁ Bd hml0 hP hK
  obtain ⟨rfl, hZ, hh⟩ := hP
  have hx := Bd.exec
  have hby := Bd.bytes
  have hml : c.maxLocals = 7 := hml0
  have hown : s.vm.findClass "java/lang/StringUTF16" = some m.cls := findClass_of_methodNamed Bd.named
  have hnm := (name_of_methodNamed Bd.named Bd.method).1
  have X0 : Stand p l e Rm_cmq1 s m #[(.ref ar), (.int (0 : Int32)), (.ref bt), (.int (0 : Int32)), (.int (1 : Int32))] below meth c s₁ [] 0 0 := Stand.of_body Bd
  have e0 : s₁.heap = h0 := by rw [← hh, Bd.state]; rfl
  have N0 := Fr.nil n0
  have pre0 : ∀ tt_, Steps p.tables e below (s₁.setTop (mkF m 0 #[.val (.ref ar), .val (.int (0 : Int32)), .val (.ref bt), .val (.int (0 : Int32)), .val (.int (1 : Int32)), .unset, .unset] [])) tt_ → Steps p.tables e below (s₁.setTop (entryFrame m #[(.ref ar), (.int (0 : Int32)), (.ref bt), (.int (0 : Int32)), (.int (1 : Int32))] 7)) tt_ := fun tt_ kk_ => castTop (ef_22 m ar (0 : Int32) bt (0 : Int32) (1 : Int32)) kk_
  obtain ⟨cl1, Ar1, S1, H1⟩ := id A_ar
  have hj1 : (0 : Int32).toNatClampNeg = 0 := (by decide)
  have hin1 : ¬ ((0 : Int32) < 0 ∨ cl1.slots.size ≤ ((0 : Int32)).toNatClampNeg) := by rw [S1, hj1]; exact fun q => q.elim (by decide) (Nat.not_le.mpr (by decide : 0 < 64))
  have hat1 : cl1.slots[((0 : Int32)).toNatClampNeg]? = some (.int c0) := by rw [hj1, H1 _ (by decide : 0 < 64)]; exact congrArg some (hf0)
  obtain ⟨cl2, Ar2, q2, S2, M2, H2, G2⟩ := id V_bt
  obtain ⟨T3, h3, X3, e3, W3, st3⟩ := stB X0 hx hZ e0 Ar2 (j := (0 : Int32)) (inb_of S2 ⟨by decide, by decide⟩) (g := (mkF m 31 #[.val (.ref ar), .val (.int (0 : Int32)), .val (.ref bt), .val (.int (0 : Int32)), .val (.int (1 : Int32)), .val (.int (0 : Int32)), .val (.int c0)] [(.int (c0.toInt8.toInt32)), (.int (0 : Int32)), (.ref bt)])) rfl rfl (hb hby d22_31)
  have N3 := Fr.snoc X3 N0 g_bt
  have Vw3 : Arv Z h3 bt kb .byte (1 : Int32) [(.int (nar .byte (c0.toInt8.toInt32)))] (.int (0 : Int32)) := Arv.set Ar2 q2 S2 M2 H2 G2 (fits_nar_byte _) W3 0 rfl (Nat.le_of_ble_eq_true rfl)
  have kp4 : Keep h0 h3 [bt] := ((Keep.refl h0 [bt]).wr W3 (Or.inl (List.mem_of_getElem? (i := 0) rfl)))
  obtain ⟨fs, hr, hrun, hended, hW, hsame⟩ := X3.leave (v := some (.int (1 : Int32))) (fun h => by rw [Bd.returns] at h; cases h)
  refine ⟨_, _, pre0 _ ?_, hrun, hended, _, _, rfl, ?_, ⟨_, rfl⟩, hW, hsame.mono (by decide) (by decide)⟩
  · show Steps p.tables e below (s₁.setTop (mkF m 0 #[.val (.ref ar), .val (.int (0 : Int32)), .val (.ref bt), .val (.int (0 : Int32)), .val (.int (1 : Int32)), .unset, .unset] [])) _
    refine XS.iconst X0.here hx rfl (hb hby d22_0) ?_
    refine XS.istore X0.here hx rfl (hb hby d22_1) rfl (l' := #[.val (.ref ar), .val (.int (0 : Int32)), .val (.ref bt), .val (.int (0 : Int32)), .val (.int (1 : Int32)), .val (.int (0 : Int32)), .unset]) rfl ?_
    refine XS.iload X0.here hx rfl (hb hby d22_3) rfl ?_
    refine XS.iload X0.here hx rfl (hb hby d22_5) rfl ?_
    refine XS.icmpNo X0.here hx rfl (hb hby d22_7) rfl (tlt (show (0 : Int32) < (1 : Int32) from (by decide))).2.1 ?_
    refine XS.aloadN X0.here hx rfl (hb hby d22_10) rfl rfl ?_
    show Steps p.tables e below (s₁.setTop (mkF m 11 #[.val (.ref ar), .val (.int (0 : Int32)), .val (.ref bt), .val (.int (0 : Int32)), .val (.int (1 : Int32)), .val (.int (0 : Int32)), .unset] [(.ref ar)])) _
    refine XS.iloadN X0.here hx rfl (hb hby d22_11) rfl ?_
    refine X0.caload hx (j := (0 : Int32)) (v := (.int c0)) (by rw [e0]; exact Ar1.1) (State.isArrayOf_alike hZ.alike Ar1.2.1) Ar1.2.2 hin1 hat1 (g := (mkF m 12 #[.val (.ref ar), .val (.int (0 : Int32)), .val (.ref bt), .val (.int (0 : Int32)), .val (.int (1 : Int32)), .val (.int (0 : Int32)), .unset] [(.int (0 : Int32)), (.ref ar)])) rfl rfl (hb hby d22_12) _ ?_
    refine XS.istore X0.here hx rfl (hb hby d22_13) rfl (l' := #[.val (.ref ar), .val (.int (0 : Int32)), .val (.ref bt), .val (.int (0 : Int32)), .val (.int (1 : Int32)), .val (.int (0 : Int32)), .val (.int c0)]) rfl ?_
    refine XS.iload X0.here hx rfl (hb hby d22_15) rfl ?_
    refine XS.sipush X0.here hx rfl (hb hby d22_17) ?_
    show Steps p.tables e below (s₁.setTop (mkF m 20 #[.val (.ref ar), .val (.int (0 : Int32)), .val (.ref bt), .val (.int (0 : Int32)), .val (.int (1 : Int32)), .val (.int (0 : Int32)), .val (.int c0)] [(.int (255 : Int32)), (.int c0)])) _
    refine XS.icmpYes X0.here hx rfl (pc0 := 20) (pc' := 26) rfl (hb hby d22_20) rfl (flt (show ¬ ((255 : Int32) < c0) from hl0.2)).2.2.2 (by decide) (by decide) ?_
    refine XS.aloadN X0.here hx rfl (hb hby d22_26) rfl rfl ?_
    refine XS.iloadN X0.here hx rfl (hb hby d22_27) rfl ?_
    refine XS.iload X0.here hx rfl (hb hby d22_28) rfl ?_
    refine XS.i2b X0.here hx rfl (hb hby d22_30) rfl ?_
    refine st3 _ ?_
    show Steps p.tables e below (T3.setTop (mkF m 32 #[.val (.ref ar), .val (.int (0 : Int32)), .val (.ref bt), .val (.int (0 : Int32)), .val (.int (1 : Int32)), .val (.int (0 : Int32)), .val (.int c0)] [])) _
    refine XS.iinc X3.here hx rfl (hb hby d22_32) rfl (l' := #[.val (.ref ar), .val (.int ((0 : Int32) + (1 : Int32))), .val (.ref bt), .val (.int (0 : Int32)), .val (.int (1 : Int32)), .val (.int (0 : Int32)), .val (.int c0)]) rfl ?_
    show Steps p.tables e below (T3.setTop (mkF m 35 #[.val (.ref ar), .val (.int ((0 : Int32) + (1 : Int32))), .val (.ref bt), .val (.int (0 : Int32)), .val (.int (1 : Int32)), .val (.int (0 : Int32)), .val (.int c0)] [])) _
    rw [show (((0 : Int32) + (1 : Int32)) : Int32) = (1 : Int32) from by decide]
    refine XS.iinc X3.here hx rfl (hb hby d22_35) rfl (l' := #[.val (.ref ar), .val (.int (1 : Int32)), .val (.ref bt), .val (.int ((0 : Int32) + (1 : Int32))), .val (.int (1 : Int32)), .val (.int (0 : Int32)), .val (.int c0)]) rfl ?_
    show Steps p.tables e below (T3.setTop (mkF m 38 #[.val (.ref ar), .val (.int (1 : Int32)), .val (.ref bt), .val (.int ((0 : Int32) + (1 : Int32))), .val (.int (1 : Int32)), .val (.int (0 : Int32)), .val (.int c0)] [])) _
    rw [show (((0 : Int32) + (1 : Int32)) : Int32) = (1 : Int32) from by decide]
    refine XS.iinc X3.here hx rfl (hb hby d22_38) rfl (l' := #[.val (.ref ar), .val (.int (1 : Int32)), .val (.ref bt), .val (.int (1 : Int32)), .val (.int (1 : Int32)), .val (.int ((0 : Int32) + (1 : Int32))), .val (.int c0)]) rfl ?_
    show Steps p.tables e below (T3.setTop (mkF m 41 #[.val (.ref ar), .val (.int (1 : Int32)), .val (.ref bt), .val (.int (1 : Int32)), .val (.int (1 : Int32)), .val (.int ((0 : Int32) + (1 : Int32))), .val (.int c0)] [])) _
    rw [show (((0 : Int32) + (1 : Int32)) : Int32) = (1 : Int32) from by decide]
    refine XS.goto X3.here hx rfl (pc0 := 41) (pc' := 3) rfl (hb hby d22_41) (by decide) (by decide) ?_
    refine XS.iload X3.here hx rfl (hb hby d22_3) rfl ?_
    refine XS.iload X3.here hx rfl (hb hby d22_5) rfl ?_
    refine XS.icmpYes X3.here hx rfl (pc0 := 7) (pc' := 44) rfl (hb hby d22_7) rfl (flt (show ¬ ((1 : Int32) < (1 : Int32)) from (by decide))).2.1 (by decide) (by decide) ?_
    refine XS.iload X3.here hx rfl (hb hby d22_44) rfl ?_
    show Steps p.tables e below (T3.setTop (mkF m 46 #[.val (.ref ar), .val (.int (1 : Int32)), .val (.ref bt), .val (.int (1 : Int32)), .val (.int (1 : Int32)), .val (.int (1 : Int32)), .val (.int c0)] [(.int (1 : Int32))])) _
    exact retI X3 hx Bd.returns (hb hby d22_46) hr
  · show Qcmq1 Z ar bt kb f c0 h0 n0 _ T3.heap _
    rw [e3]
    exact ⟨rfl, N3, kp4, Vw3⟩
theorem hwd89 {Z : State} {a0 : Array Value} (hw : ∀ d ∈ tables_1, d.before a0 Z = true) : (Jvm.Cond.arrayClass Jvm.ClassFile.FieldType.byte).before a0 Z = true := hw _ (List.mem_of_getElem? (i := 89) rfl)
theorem hwd118 {Z : State} {a0 : Array Value} (hw : ∀ d ∈ tables_1, d.before a0 Z = true) : (Jvm.Cond.methodLink "java/lang/StringUTF16" (115 : Nat) ({ cls := "java/lang/StringUTF16", name := "compress", desc := "([CI[BII)I" } : Jvm.MethodName)).before a0 Z = true := hw _ (List.mem_of_getElem? (i := 118) rfl)
theorem hwd120 {Z : State} {a0 : Array Value} (hw : ∀ d ∈ tables_1, d.before a0 Z = true) : (Jvm.Cond.code ({ cls := "java/lang/StringUTF16", name := "compress", desc := "([CI[BII)I" } : Jvm.MethodName) jdk_52_method_21_code (7 : Nat) (Option.some Jvm.ClassFile.FieldType.int)).before a0 Z = true := hw _ (List.mem_of_getElem? (i := 120) rfl)
theorem hwd116 {Z : State} {a0 : Array Value} (hw : ∀ d ∈ tables_1, d.before a0 Z = true) : (Jvm.Cond.initialized "java/lang/StringUTF16").before a0 Z = true := hw _ (List.mem_of_getElem? (i := 116) rfl)
theorem pd_8 : parseMethodDescriptor "([CI[BII)I" = some ⟨[(.array .char), .int, (.array .byte), .int, .int], some .int⟩ := by decide +kernel
theorem hwd119 {Z : State} {a0 : Array Value} (hw : ∀ d ∈ tables_1, d.before a0 Z = true) : (Jvm.Cond.static ({ cls := "java/lang/StringUTF16", name := "compress", desc := "([CI[BII)I" } : Jvm.MethodName)).before a0 Z = true := hw _ (List.mem_of_getElem? (i := 119) rfl)
theorem d21_0 : decode jdk_52_method_16_code 0 = .ok (.iload_n 2, 1) := by decide +kernel
theorem d21_1 : decode jdk_52_method_16_code 1 = .ok (.newarray .byte, 2) := by decide +kernel
theorem d21_3 : decode jdk_52_method_16_code 3 = .ok (.astore_n 3, 1) := by decide +kernel
theorem d21_4 : decode jdk_52_method_16_code 4 = .ok (.aload_n 0, 1) := by decide +kernel
theorem d21_5 : decode jdk_52_method_16_code 5 = .ok (.iload_n 1, 1) := by decide +kernel
theorem d21_6 : decode jdk_52_method_16_code 6 = .ok (.aload_n 3, 1) := by decide +kernel
theorem d21_7 : decode jdk_52_method_16_code 7 = .ok (.iconst 0, 1) := by decide +kernel
theorem d21_8 : decode jdk_52_method_16_code 8 = .ok (.iload_n 2, 1) := by decide +kernel
theorem d21_9 : decode jdk_52_method_16_code 9 = .ok (.invokestatic 115, 3) := by decide +kernel
theorem d21_12 : decode jdk_52_method_16_code 12 = .ok (.istore 4, 2) := by decide +kernel
theorem d21_14 : decode jdk_52_method_16_code 14 = .ok (.iload 4, 2) := by decide +kernel
theorem d21_16 : decode jdk_52_method_16_code 16 = .ok (.iload_n 2, 1) := by decide +kernel
theorem d21_17 : decode jdk_52_method_16_code 17 = .ok (.if_icmp .eq 40, 3) := by decide +kernel
theorem d21_57 : decode jdk_52_method_16_code 57 = .ok (.aload_n 3, 1) := by decide +kernel
theorem d21_58 : decode jdk_52_method_16_code 58 = .ok (.areturn, 1) := by decide +kernel
theorem ef_21 (m : MethodId) (x0 : Addr) (x1 : Int32) (x2 : Int32) : entryFrame m #[(.ref x0), (.int x1), (.int x2)] 6 = mkF m 0 #[.val (.ref x0), .val (.int x1), .val (.int x2), .unset, .unset, .unset] [] := by first | (simp [entryFrame, mkF, argsToLocals, Value.category]; done) | rfl
def Qcmp1 (Z : State) (ar : Addr) (f : Nat → Value) (c0 : Int32) (h0 : Heap) (n0 : Nat) (v : Option Value) (h : Heap) (L : List Loc) : Prop := ∃ b : Addr, ∃ kb : ClassId, v = some (.ref b) ∧ Fr n0 L ∧ Keep h0 h [] ∧ Arv Z h b kb .byte (1 : Int32) [(.int (nar .byte (c0.toInt8.toInt32)))] (.int 0) ∧ h0.size ≤ b ∧ n0 ≤ b
abbrev my17 : MethodName := ⟨"java/lang/StringUTF16", "compress", "([CII)[B"⟩
abbrev Rm_cmp1 : Room := { frames := 1, cells := 1, slots := 1, locals := 18 }
set_option maxRecDepth 65536 in
set_option maxHeartbeats 40000000 in
theorem cmp1 (l : Launch) (Z : State) (a0 : Array Value) (hw : ∀ d ∈ tables_1, d.before a0 Z = true) (ws : List Jvm.Cond) (ar : Addr) (f : Nat → Value) (c0 : Int32) (h0 : Heap) (n0 : Nat) (Z0 : n0 ≤ h0.size) (A_ar : Av Z h0 ar .char 64 f) (hf0 : f 0 = (.int c0)) (hl0 : Lat c0) :
    MetFree l my17 (head1 (Jvm.Cond.code my17 jdk_52_method_16_code 6 (some (.array .byte)) :: ws) Rm_cmp1) (fun aa_ U => aa_ = #[(.ref ar), (.int (0 : Int32)), (.int (1 : Int32))] ∧ Z.Warmed39 U.vm ∧ U.heap = h0) (fun _ _ _ _ _ => True) (fun _ U oo_ U' => ∃ v L, oo_ = .returned v ∧ Qcmp1 Z ar f c0 h0 n0 v U'.heap L ∧ FrameEnd U oo_ U' L Rm_cmp1.cells Rm_cmp1.slots) := by
  refine MetFree.of_bodySF (plainFor_of_name pn_6) hisR ?_
  intro p e s m args below meth c s₁ Bd hml0 hP hK
  obtain ⟨rfl, hZ, hh⟩ := hP
  have hx := Bd.exec
  have hby := Bd.bytes
  have hml : c.maxLocals = 6 := hml0
  have hown : s.vm.findClass "java/lang/StringUTF16" = some m.cls := findClass_of_methodNamed Bd.named
  have hnm := (name_of_methodNamed Bd.named Bd.method).1
  have X0 : Stand p l e Rm_cmp1 s m #[(.ref ar), (.int (0 : Int32)), (.int (1 : Int32))] below meth c s₁ [] 0 0 := Stand.of_body Bd
  have e0 : s₁.heap = h0 := by rw [← hh, Bd.state]; rfl
  have N0 := Fr.nil n0
  have pre0 : ∀ tt_, Steps p.tables e below (s₁.setTop (mkF m 0 #[.val (.ref ar), .val (.int (0 : Int32)), .val (.int (1 : Int32)), .unset, .unset, .unset] [])) tt_ → Steps p.tables e below (s₁.setTop (entryFrame m #[(.ref ar), (.int (0 : Int32)), (.int (1 : Int32))] 6)) tt_ := fun tt_ kk_ => castTop (ef_21 m ar (0 : Int32) (1 : Int32)) kk_
  obtain ⟨T1, h1, k1, X1, e1, E1, A1, st1⟩ := newP (aty := .byte) X0 hx hZ (hwd89 hw) e0 (g := (mkF m 1 #[.val (.ref ar), .val (.int (0 : Int32)), .val (.int (1 : Int32)), .unset, .unset, .unset] [(.int (1 : Int32))])) rfl (hb hby d21_1) rfl (by decide) (cap := 1) (by decide) (by decide) (by decide) (by decide)
  obtain ⟨b1, g1⟩ : ∃ zz_, zz_ = h0.size := ⟨_, rfl⟩
  rw [← g1] at A1 st1
  have ne_ar_b1 : ar ≠ b1 := Nat.ne_of_lt (Nat.lt_of_lt_of_le A_ar.lt (Nat.le_of_eq g1.symm))
  have g_b1 : n0 ≤ b1 := Nat.le_trans Z0 (Nat.le_of_eq g1.symm)
  have sz_b1 : h0.size ≤ b1 := Nat.le_trans (Keep.refl h0 []).1 (Nat.le_of_eq g1.symm)
  have V_b1 : Arv Z h1 b1 k1 .byte (1 : Int32) [(.int (0 : Int32))] (.int (0 : Int32)) := (Arv.new A1 (by decide)).pad (pad_rep [] (.int (0 : Int32)) 1)
  have f3_A_ar := (A_ar.ext E1)
  have sz4 : n0 ≤ h1.size := (Nat.le_trans Z0 E1.1)
  obtain ⟨_, _, ⟨T2, L2, k2, n2⟩, -, X2, ⟨Lc2, hQ2, l2, y2, z2⟩, st2⟩ := Jvm.LawKit.callS X1 hx (y := my16) hown (mvT hZ (hwd118 hw)) (mvT hZ (hwd119 hw)) (mvT hZ (hwd116 hw)) (mvT hZ (hwd120 hw)) (by decide) (backOf (W := 0) (cmq1 l Z a0 hw [] ar b1 k1 f c0 h1 n0 sz4 f3_A_ar hf0 hl0 V_b1 g_b1 ne_ar_b1) hZ (hwd120 hw) (hwd116 hw) (by decide) (by decide)) (g := (mkF m 9 #[.val (.ref ar), .val (.int (0 : Int32)), .val (.int (1 : Int32)), .val (.ref b1), .unset, .unset] [(.int (1 : Int32)), (.int (0 : Int32)), (.ref b1), (.int (0 : Int32)), (.ref ar)])) rfl (by rw [hml]; rfl) (argsL := [(.ref ar), (.int (0 : Int32)), (.ref b1), (.int (0 : Int32)), (.int (1 : Int32))]) (rest := []) (lenOf pd_8 rfl) rfl (by show 2 * 0 + _ ≤ _; exact Nat.le_of_eq rfl) (hb hby d21_9) (fun _ _ => ⟨rfl, e1, (by decide : 1 + 0 ≤ _), (by decide : 1 + 0 ≤ _)⟩)
  dsimp only [Pt.U, Pt.locs, Pt.cells, Pt.slots] at X2 l2 y2 z2 st2 hQ2
  subst l2 y2 z2
  obtain ⟨rfl, N2q, K2, p2_1⟩ := hQ2
  have N2 := Fr.app N0 N2q
  have kp5 : Keep h0 T2.heap [] := (((Keep.refl h0 []).ext E1).trans K2 (allS (Or.inr sz_b1) all0))
  obtain ⟨fs, hr, hrun, hended, hW, hsame⟩ := X2.leave (v := some (.ref b1)) (fun h => by rw [Bd.returns] at h; cases h)
  refine ⟨_, _, pre0 _ ?_, hrun, hended, _, _, rfl, ?_, ⟨_, rfl⟩, hW, hsame.mono (by decide) (by decide)⟩
  · show Steps p.tables e below (s₁.setTop (mkF m 0 #[.val (.ref ar), .val (.int (0 : Int32)), .val (.int (1 : Int32)), .unset, .unset, .unset] [])) _
    refine XS.iloadN X0.here hx rfl (hb hby d21_0) rfl ?_
    refine st1 _ ?_
    refine XS.astoreN X1.here hx rfl (hb hby d21_3) rfl rfl (l' := #[.val (.ref ar), .val (.int (0 : Int32)), .val (.int (1 : Int32)), .val (.ref b1), .unset, .unset]) rfl ?_
    refine XS.aloadN X1.here hx rfl (hb hby d21_4) rfl rfl ?_
    refine XS.iloadN X1.here hx rfl (hb hby d21_5) rfl ?_
    refine XS.aloadN X1.here hx rfl (hb hby d21_6) rfl rfl ?_
    show Steps p.tables e below (T1.setTop (mkF m 7 #[.val (.ref ar), .val (.int (0 : Int32)), .val (.int (1 : Int32)), .val (.ref b1), .unset, .unset] [(.ref b1), (.int (0 : Int32)), (.ref ar)])) _
    refine XS.iconst X1.here hx rfl (hb hby d21_7) ?_
    refine XS.iloadN X1.here hx rfl (hb hby d21_8) rfl ?_
    refine st2 _ ?_
    refine XS.istore X2.here hx rfl (hb hby d21_12) rfl (l' := #[.val (.ref ar), .val (.int (0 : Int32)), .val (.int (1 : Int32)), .val (.ref b1), .val (.int (1 : Int32)), .unset]) rfl ?_
    refine XS.iload X2.here hx rfl (hb hby d21_14) rfl ?_
    refine XS.iloadN X2.here hx rfl (hb hby d21_16) rfl ?_
    show Steps p.tables e below (T2.setTop (mkF m 17 #[.val (.ref ar), .val (.int (0 : Int32)), .val (.int (1 : Int32)), .val (.ref b1), .val (.int (1 : Int32)), .unset] [(.int (1 : Int32)), (.int (1 : Int32))])) _
    refine XS.icmpYes X2.here hx rfl (pc0 := 17) (pc' := 57) rfl (hb hby d21_17) rfl (teq (show (1 : Int32) = (1 : Int32) from rfl)).1 (by decide) (by decide) ?_
    refine XS.aloadN X2.here hx rfl (hb hby d21_57) rfl rfl ?_
    jvm_step X2.here [X2.here.top, hx, (hb hby d21_58), X2.method', Bd.returns, Value.isRef, FieldType.isReference]
    first | (intro acts; rw [hr _ acts rfl rfl rfl]) | rw [hr _ _ rfl rfl rfl]
    exact Steps.refl _
  · show Qcmp1 Z ar f c0 h0 n0 _ T2.heap _
    exact ⟨b1, k1, rfl, N2, kp5, p2_1, sz_b1, g_b1⟩
theorem d23_0 : decode jdk_52_method_15_code 0 = .ok (.iload_n 1, 1) := by decide +kernel
theorem d23_1 : decode jdk_52_method_15_code 1 = .ok (.aload_n 0, 1) := by decide +kernel
theorem d23_2 : decode jdk_52_method_15_code 2 = .ok (.arraylength, 1) := by decide +kernel
theorem d23_3 : decode jdk_52_method_15_code 3 = .ok (.isub, 1) := by decide +kernel
theorem d23_4 : decode jdk_52_method_15_code 4 = .ok (.bipush 31, 2) := by decide +kernel
theorem d23_6 : decode jdk_52_method_15_code 6 = .ok (.iushr, 1) := by decide +kernel
theorem d23_7 : decode jdk_52_method_15_code 7 = .ok (.i2b, 1) := by decide +kernel
theorem d23_8 : decode jdk_52_method_15_code 8 = .ok (.ireturn, 1) := by decide +kernel
theorem ef_23 (m : MethodId) (x0 : Addr) (x1 : Int32) : entryFrame m #[(.ref x0), (.int x1)] 2 = mkF m 0 #[.val (.ref x0), .val (.int x1)] [] := by first | (simp [entryFrame, mkF, argsToLocals, Value.category]; done) | rfl
def Qcfa1 (Z : State) (bt : Addr) (kb : ClassId) (c0 : Int32) (h0 : Heap) (n0 : Nat) (v : Option Value) (h : Heap) (L : List Loc) : Prop := v = some (.int (0 : Int32)) ∧ Fr n0 L ∧ h = h0
abbrev my18 : MethodName := ⟨"java/lang/StringUTF16", "coderFromArrayLen", "([BI)B"⟩
abbrev Rm_cfa1 : Room := { frames := 0, cells := 0, slots := 0, locals := 0 }
set_option maxRecDepth 65536 in
set_option maxHeartbeats 40000000 in
theorem cfa1 (l : Launch) (Z : State) (a0 : Array Value) (hw : ∀ d ∈ tables_1, d.before a0 Z = true) (ws : List Jvm.Cond) (bt : Addr) (kb : ClassId) (c0 : Int32) (h0 : Heap) (n0 : Nat) (Z0 : n0 ≤ h0.size) (V_bt : Arv Z h0 bt kb .byte (1 : Int32) [(.int (nar .byte (c0.toInt8.toInt32)))] (.int 0)) :
    MetFree l my18 (head1 (Jvm.Cond.code my18 jdk_52_method_15_code 2 (some .byte) :: ws) Rm_cfa1) (fun aa_ U => aa_ = #[(.ref bt), (.int (1 : Int32))] ∧ Z.Warmed39 U.vm ∧ U.heap = h0) (fun _ _ _ _ _ => True) (fun _ U oo_ U' => ∃ v L, oo_ = .returned v ∧ Qcfa1 Z bt kb c0 h0 n0 v U'.heap L ∧ FrameEnd U oo_ U' L Rm_cfa1.cells Rm_cfa1.slots) := by
  refine MetFree.of_bodySF (plainFor_of_name pn_6) hisR ?_
  intro p e s m args below meth c s₁ Bd hml0 hP hK
  obtain ⟨rfl, hZ, hh⟩ := hP
  have hx := Bd.exec
  have hby := Bd.bytes
  have hml : c.maxLocals = 2 := hml0
  have hown : s.vm.findClass "java/lang/StringUTF16" = some m.cls := findClass_of_methodNamed Bd.named
  have hnm := (name_of_methodNamed Bd.named Bd.method).1
  have X0 : Stand p l e Rm_cfa1 s m #[(.ref bt), (.int (1 : Int32))] below meth c s₁ [] 0 0 := Stand.of_body Bd
  have e0 : s₁.heap = h0 := by rw [← hh, Bd.state]; rfl
  have N0 := Fr.nil n0
  have pre0 : ∀ tt_, Steps p.tables e below (s₁.setTop (mkF m 0 #[.val (.ref bt), .val (.int (1 : Int32))] [])) tt_ → Steps p.tables e below (s₁.setTop (entryFrame m #[(.ref bt), (.int (1 : Int32))] 2)) tt_ := fun tt_ kk_ => castTop (ef_23 m bt (1 : Int32)) kk_
  obtain ⟨cl1, Ar1, -, S1, M1, -, -⟩ := id V_bt
  obtain ⟨fs, hr, hrun, hended, hW, hsame⟩ := X0.leave (v := some (.int (nar .byte ((((0 : Int32).toUInt32 >>> ((31 : Int32) &&& 31).toUInt32).toInt32).toInt8.toInt32)))) (fun h => by rw [Bd.returns] at h; cases h)
  refine ⟨_, _, pre0 _ ?_, hrun, hended, _, _, rfl, ?_, ⟨_, rfl⟩, hW, hsame.mono (by decide) (by decide)⟩
  · show Steps p.tables e below (s₁.setTop (mkF m 0 #[.val (.ref bt), .val (.int (1 : Int32))] [])) _
    refine XS.iloadN X0.here hx rfl (hb hby d23_0) rfl ?_
    refine XS.aloadN X0.here hx rfl (hb hby d23_1) rfl rfl ?_
    refine X0.arraylength hx (by rw [e0]; exact Ar1.1) (State.isArrayOf_alike hZ.alike Ar1.2.1) (g := (mkF m 2 #[.val (.ref bt), .val (.int (1 : Int32))] [(.ref bt), (.int (1 : Int32))])) rfl rfl (hb hby d23_2) _ ?_
    rw [len_of S1 M1]
    refine XS.isub X0.here hx rfl (hb hby d23_3) rfl ?_
    show Steps p.tables e below (s₁.setTop (mkF m 4 #[.val (.ref bt), .val (.int (1 : Int32))] [(.int ((1 : Int32) - (1 : Int32)))])) _
    rw [show (((1 : Int32) - (1 : Int32)) : Int32) = (0 : Int32) from by decide]
    refine XS.bipush X0.here hx rfl (hb hby d23_4) ?_
    show Steps p.tables e below (s₁.setTop (mkF m 6 #[.val (.ref bt), .val (.int (1 : Int32))] [(.int (31 : Int32)), (.int (0 : Int32))])) _
    refine XS.iushr X0.here hx rfl (hb hby d23_6) rfl ?_
    refine XS.i2b X0.here hx rfl (hb hby d23_7) rfl ?_
    exact retN X0 hx (t := .byte) Bd.returns (by simp) (hb hby d23_8) hr
  · show Qcfa1 Z bt kb c0 h0 n0 _ s₁.heap _
    rw [e0]
    exact ⟨congrArg (fun z => some (Value.int z)) (by decide), N0, rfl⟩
theorem hwd113 {Z : State} {a0 : Array Value} (hw : ∀ d ∈ tables_1, d.before a0 Z = true) : (Jvm.Cond.fieldLink "java/lang/String" (38 : Nat) "java/lang/String" "COMPACT_STRINGS" "Z").before a0 Z = true := hw _ (List.mem_of_getElem? (i := 113) rfl)
theorem hwd114 {Z : State} {a0 : Array Value} (hw : ∀ d ∈ tables_1, d.before a0 Z = true) : (Jvm.Cond.methodLink "java/lang/String" (177 : Nat) ({ cls := "java/lang/StringUTF16", name := "compress", desc := "([CII)[B" } : Jvm.MethodName)).before a0 Z = true := hw _ (List.mem_of_getElem? (i := 114) rfl)
theorem hwd117 {Z : State} {a0 : Array Value} (hw : ∀ d ∈ tables_1, d.before a0 Z = true) : (Jvm.Cond.code ({ cls := "java/lang/StringUTF16", name := "compress", desc := "([CII)[B" } : Jvm.MethodName) jdk_52_method_16_code (6 : Nat) (Option.some (Jvm.ClassFile.FieldType.array Jvm.ClassFile.FieldType.byte))).before a0 Z = true := hw _ (List.mem_of_getElem? (i := 117) rfl)
theorem pd_9 : parseMethodDescriptor "([CII)[B" = some ⟨[(.array .char), .int, .int], some (.array .byte)⟩ := by decide +kernel
theorem hwd115 {Z : State} {a0 : Array Value} (hw : ∀ d ∈ tables_1, d.before a0 Z = true) : (Jvm.Cond.static ({ cls := "java/lang/StringUTF16", name := "compress", desc := "([CII)[B" } : Jvm.MethodName)).before a0 Z = true := hw _ (List.mem_of_getElem? (i := 115) rfl)
theorem hwd121 {Z : State} {a0 : Array Value} (hw : ∀ d ∈ tables_1, d.before a0 Z = true) : (Jvm.Cond.methodLink "java/lang/String" (47 : Nat) ({ cls := "java/lang/StringUTF16", name := "coderFromArrayLen", desc := "([BI)B" } : Jvm.MethodName)).before a0 Z = true := hw _ (List.mem_of_getElem? (i := 121) rfl)
theorem hwd123 {Z : State} {a0 : Array Value} (hw : ∀ d ∈ tables_1, d.before a0 Z = true) : (Jvm.Cond.code ({ cls := "java/lang/StringUTF16", name := "coderFromArrayLen", desc := "([BI)B" } : Jvm.MethodName) jdk_52_method_15_code (2 : Nat) (Option.some Jvm.ClassFile.FieldType.byte)).before a0 Z = true := hw _ (List.mem_of_getElem? (i := 123) rfl)
theorem pd_10 : parseMethodDescriptor "([BI)B" = some ⟨[(.array .byte), .int], some .byte⟩ := by decide +kernel
theorem hwd122 {Z : State} {a0 : Array Value} (hw : ∀ d ∈ tables_1, d.before a0 Z = true) : (Jvm.Cond.static ({ cls := "java/lang/StringUTF16", name := "coderFromArrayLen", desc := "([BI)B" } : Jvm.MethodName)).before a0 Z = true := hw _ (List.mem_of_getElem? (i := 122) rfl)
theorem d16_27 : decode jdk_42_method_149_code 27 = .ok (.getstatic 38, 3) := by decide +kernel
theorem d16_30 : decode jdk_42_method_149_code 30 = .ok (.ifCond .eq 28, 3) := by decide +kernel
theorem d16_33 : decode jdk_42_method_149_code 33 = .ok (.aload_n 1, 1) := by decide +kernel
theorem d16_34 : decode jdk_42_method_149_code 34 = .ok (.iload_n 2, 1) := by decide +kernel
theorem d16_35 : decode jdk_42_method_149_code 35 = .ok (.iload_n 3, 1) := by decide +kernel
theorem d16_36 : decode jdk_42_method_149_code 36 = .ok (.invokestatic 177, 3) := by decide +kernel
theorem d16_39 : decode jdk_42_method_149_code 39 = .ok (.astore 5, 2) := by decide +kernel
theorem d16_41 : decode jdk_42_method_149_code 41 = .ok (.aload_n 0, 1) := by decide +kernel
theorem d16_42 : decode jdk_42_method_149_code 42 = .ok (.aload 5, 2) := by decide +kernel
theorem d16_44 : decode jdk_42_method_149_code 44 = .ok (.iload_n 3, 1) := by decide +kernel
theorem d16_45 : decode jdk_42_method_149_code 45 = .ok (.invokestatic 47, 3) := by decide +kernel
theorem d16_48 : decode jdk_42_method_149_code 48 = .ok (.putfield 15, 3) := by decide +kernel
theorem d16_51 : decode jdk_42_method_149_code 51 = .ok (.aload_n 0, 1) := by decide +kernel
theorem d16_52 : decode jdk_42_method_149_code 52 = .ok (.aload 5, 2) := by decide +kernel
theorem d16_54 : decode jdk_42_method_149_code 54 = .ok (.putfield 9, 3) := by decide +kernel
theorem d16_57 : decode jdk_42_method_149_code 57 = .ok (.return_, 1) := by decide +kernel
def Qsv1 (Z : State) (a : Addr) (ar : Addr) (f : Nat → Value) (cz : Int32) (c0 : Int32) (h0 : Heap) (n0 : Nat) (v : Option Value) (h : Heap) (L : List Loc) : Prop := ∃ b : Addr, ∃ kb : ClassId, v = none ∧ Fr n0 L ∧ Keep h0 h [a] ∧ Exa Z h a "java/lang/String" ∧ Fld Z h a "java/lang/String" "value" "[B" (.ref b) ∧ Fld Z h a "java/lang/String" "coder" "B" (.int (0 : Int32)) ∧ Arv Z h b kb .byte (1 : Int32) [(.int (nar .byte (c0.toInt8.toInt32)))] (.int 0) ∧ h0.size ≤ b
abbrev Rm_sv1 : Room := { frames := 2, cells := 1, slots := 1, locals := 35 }
set_option maxRecDepth 65536 in
set_option maxHeartbeats 40000000 in
theorem sv1 (l : Launch) (Z : State) (a0 : Array Value) (hw : ∀ d ∈ tables_1, d.before a0 Z = true) (ws : List Jvm.Cond) (a : Addr) (ar : Addr) (f : Nat → Value) (cz : Int32) (c0 : Int32) (h0 : Heap) (n0 : Nat) (Z0 : n0 ≤ h0.size) (E_a : Exa Z h0 a "java/lang/String") (F_value_a : Fld Z h0 a "java/lang/String" "value" "[B" .null) (F_coder_a : Fld Z h0 a "java/lang/String" "coder" "B" (.int (0 : Int32))) (A_ar : Av Z h0 ar .char 64 f) (hf0 : f 0 = (.int c0)) (hl0 : Lat c0) (g_a : n0 ≤ a) (ne_a_ar : a ≠ ar) (O_C : Sta Z Z.heap "java/lang/String" "COMPACT_STRINGS" "Z" (.int cz)) (hcz : ¬ (cz = (0 : Int32))) (X00 : Old Z n0 h0) :
    MetFree l my14 (head1 (Jvm.Cond.code my14 jdk_42_method_149_code 6 none :: ws) Rm_sv1) (fun aa_ U => aa_ = #[(.ref a), (.ref ar), (.int (0 : Int32)), (.int (1 : Int32)), .null] ∧ Z.Warmed39 U.vm ∧ U.heap = h0) (fun _ _ _ _ _ => True) (fun _ U oo_ U' => ∃ v L, oo_ = .returned v ∧ Qsv1 Z a ar f cz c0 h0 n0 v U'.heap L ∧ FrameEnd U oo_ U' L Rm_sv1.cells Rm_sv1.slots) := by
  refine MetFree.of_bodySF (plainFor_of_name pn_5) hisR ?_
  intro p e s m args below meth c s₁ Bd hml0 hP hK
  obtain ⟨rfl, hZ, hh⟩ := hP
  have hx := Bd.exec
  have hby := Bd.bytes
  have hml : c.maxLocals = 6 := hml0
  have hown : s.vm.findClass "java/lang/String" = some m.cls := findClass_of_methodNamed Bd.named
  have hnm := (name_of_methodNamed Bd.named Bd.method).1
  have X0 : Stand p l e Rm_sv1 s m #[(.ref a), (.ref ar), (.int (0 : Int32)), (.int (1 : Int32)), .null] below meth c s₁ [] 0 0 := Stand.of_body Bd
  have e0 : s₁.heap = h0 := by rw [← hh, Bd.state]; rfl
  have N0 := Fr.nil n0
  have pre0 : ∀ tt_, Steps p.tables e below (s₁.setTop (mkF m 0 #[.val (.ref a), .val (.ref ar), .val (.int (0 : Int32)), .val (.int (1 : Int32)), .val .null, .unset] [])) tt_ → Steps p.tables e below (s₁.setTop (entryFrame m #[(.ref a), (.ref ar), (.int (0 : Int32)), (.int (1 : Int32)), .null] 6)) tt_ := fun tt_ kk_ => castTop (ef_16n4 m a ar (0 : Int32) (1 : Int32)) kk_
  obtain ⟨T1, X1, e1, st1⟩ := initO X0 hx hZ hown (hwd87 hw) (hwd14 hw) (hwd15 hw) e0 (g := (mkF m 1 #[.val (.ref a), .val (.ref ar), .val (.int (0 : Int32)), .val (.int (1 : Int32)), .val .null, .unset] [(.ref a)])) rfl (by rw [hml]; rfl) rfl (hb hby d16_1) (by decide) (W := 0) (by show 2 * 0 + _ ≤ _; exact Nat.le_of_eq rfl) (by decide)
  obtain ⟨T2, X2, e2, st2⟩ := getS2 X1 hx hZ hown (host := "") (Or.inl (hwd113 hw)) Via.refl e1 (O_C.ext X00.2) (g := (mkF m 27 #[.val (.ref a), .val (.ref ar), .val (.int (0 : Int32)), .val (.int (1 : Int32)), .val .null, .unset] [])) rfl (hb hby d16_27)
  obtain ⟨_, _, ⟨T3, L3, k3, n3⟩, -, X3, ⟨Lc3, hQ3, l3, y3, z3⟩, st3⟩ := Jvm.LawKit.callS X2 hx (y := my17) hown (mvT hZ (hwd114 hw)) (mvT hZ (hwd115 hw)) (mvT hZ (hwd116 hw)) (mvT hZ (hwd117 hw)) (by decide) (backOf (W := 0) (cmp1 l Z a0 hw [] ar f c0 h0 n0 Z0 A_ar hf0 hl0) hZ (hwd117 hw) (hwd116 hw) (by decide) (by decide)) (g := (mkF m 36 #[.val (.ref a), .val (.ref ar), .val (.int (0 : Int32)), .val (.int (1 : Int32)), .val .null, .unset] [(.int (1 : Int32)), (.int (0 : Int32)), (.ref ar)])) rfl (by rw [hml]; rfl) (argsL := [(.ref ar), (.int (0 : Int32)), (.int (1 : Int32))]) (rest := []) (lenOf pd_9 rfl) rfl (by show 2 * 0 + _ ≤ _; exact Nat.le_of_eq rfl) (hb hby d16_36) (fun _ _ => ⟨rfl, e2, (by decide : 0 + 1 ≤ _), (by decide : 0 + 1 ≤ _)⟩)
  dsimp only [Pt.U, Pt.locs, Pt.cells, Pt.slots] at X3 l3 y3 z3 st3 hQ3
  subst l3 y3 z3
  obtain ⟨b_e3, kb_e3, rfl, N3q, K3, p3_1, sz_b_3, g_b_3⟩ := hQ3
  have N3 := Fr.app N0 N3q
  have sz5 : n0 ≤ T3.heap.size := (Nat.le_trans Z0 K3.1)
  obtain ⟨_, _, ⟨T4, L4, k4, n4⟩, -, X4, ⟨Lc4, hQ4, l4, y4, z4⟩, st4⟩ := Jvm.LawKit.callS X3 hx (y := my18) hown (mvT hZ (hwd121 hw)) (mvT hZ (hwd122 hw)) (mvT hZ (hwd116 hw)) (mvT hZ (hwd123 hw)) (by decide) (backOf (W := 1) (cfa1 l Z a0 hw [] b_e3 kb_e3 c0 (T3.heap) n0 sz5 p3_1) hZ (hwd123 hw) (hwd116 hw) (by decide) (by decide)) (g := (mkF m 45 #[.val (.ref a), .val (.ref ar), .val (.int (0 : Int32)), .val (.int (1 : Int32)), .val .null, .val (.ref b_e3)] [(.int (1 : Int32)), (.ref b_e3), (.ref a)])) rfl (by rw [hml]; rfl) (argsL := [(.ref b_e3), (.int (1 : Int32))]) (rest := [(.ref a)]) (lenOf pd_10 rfl) rfl (by show 2 * 0 + _ ≤ _; exact Nat.le_of_eq rfl) (hb hby d16_45) (fun _ _ => ⟨rfl, rfl, (by decide : 1 + 0 ≤ _), (by decide : 1 + 0 ≤ _)⟩)
  dsimp only [Pt.U, Pt.locs, Pt.cells, Pt.slots] at X4 l4 y4 z4 st4 hQ4
  subst l4 y4 z4
  obtain ⟨rfl, N4q, e4q⟩ := hQ4
  have N4 := Fr.app N3 N4q
  have f6_E_a := (E_a.keep K3)
  have f7_F_a_coder := (F_coder_a.keep K3 nin0)
  obtain ⟨T8, h8, X8, e8, W8, st8⟩ := putFN X4 hx hZ hown (hwd95 hw) Via.refl e4q f7_F_a_coder f6_E_a (Or.inr ⟨(hwd91 hw), rfl, hnm⟩) (hwd63 hw) (ty := .byte) (v' := (.int (0 : Int32))) (by decide) rfl (by first | exact fits_nar_byte _ | rfl) (g := (mkF m 48 #[.val (.ref a), .val (.ref ar), .val (.int (0 : Int32)), .val (.int (1 : Int32)), .val .null, .val (.ref b_e3)] [(.int (0 : Int32)), (.ref a)])) rfl rfl (hb hby d16_48)
  have N8 := Fr.snoc X8 N4 g_a
  have Fw8 := f7_F_a_coder.same W8
  have f9_E_a := (f6_E_a.wr W8)
  have f10_F_a_value := ((F_value_a.keep K3 nin0).other W8 (Or.inr (slot_ne (Or.inr (hwd90 hw)) (Or.inr (hwd91 hw)) (by decide) (t := (.array .byte)) (t' := .byte) (by decide) (by decide))))
  obtain ⟨T11, h11, X11, e11, W11, st11⟩ := putF X8 hx hZ hown (host := "") (Or.inl (hwd94 hw)) Via.refl e8 f10_F_a_value f9_E_a (Or.inr ⟨(hwd90 hw), rfl, hnm⟩) (hwd63 hw) (ty := (.array .byte)) (by decide) rfl rfl (g := (mkF m 54 #[.val (.ref a), .val (.ref ar), .val (.int (0 : Int32)), .val (.int (1 : Int32)), .val .null, .val (.ref b_e3)] [(.ref b_e3), (.ref a)])) rfl rfl (hb hby d16_54)
  have N11 := Fr.snoc X11 N8 g_a
  have Fw11 := f10_F_a_value.same W11
  have kp12 : Keep h0 h11 [a] := ((((Keep.refl h0 [a]).trans K3 all0).wr W8 (Or.inl (List.mem_of_getElem? (i := 0) rfl))).wr W11 (Or.inl (List.mem_of_getElem? (i := 0) rfl)))
  have f13_E_a := (f9_E_a.wr W11)
  have f14_F_a_coder := (Fw8.other W11 (Or.inr (slot_ne (Or.inr (hwd91 hw)) (Or.inr (hwd90 hw)) (by decide) (t := .byte) (t' := (.array .byte)) (by decide) (by decide))))
  have ne15_q : a ≠ b_e3 := Nat.ne_of_lt (Nat.lt_of_lt_of_le E_a.lt (Nat.le_trans (Keep.refl h0 [a]).1 sz_b_3))
  have f16_V_b_e3 := ((p3_1.other W8 (Ne.symm ne15_q)).other W11 (Ne.symm ne15_q))
  obtain ⟨fs, hr, hrun, hended, hW, hsame⟩ := X11.leave (v := none) (fun _ => rfl)
  refine ⟨_, _, pre0 _ ?_, hrun, hended, _, _, rfl, ?_, ⟨_, rfl⟩, hW, hsame.mono (by decide) (by decide)⟩
  · show Steps p.tables e below (s₁.setTop (mkF m 0 #[.val (.ref a), .val (.ref ar), .val (.int (0 : Int32)), .val (.int (1 : Int32)), .val .null, .unset] [])) _
    refine XS.aloadN X0.here hx rfl (hb hby d16_0) rfl rfl ?_
    refine st1 _ ?_
    refine XS.iloadN X1.here hx rfl (hb hby d16_4) rfl ?_
    refine XS.ifYes X1.here hx rfl (pc0 := 5) (pc' := 27) rfl (hb hby d16_5) rfl ((if0 _ _).trans (feq (show ¬ ((1 : Int32) = (0 : Int32)) from (by decide))).2) (by decide) (by decide) ?_
    refine st2 _ ?_
    refine XS.ifNo X2.here hx rfl (hb hby d16_30) rfl ((if0 _ _).trans (feq (show ¬ (cz = (0 : Int32)) from hcz)).1) ?_
    show Steps p.tables e below (T2.setTop (mkF m 33 #[.val (.ref a), .val (.ref ar), .val (.int (0 : Int32)), .val (.int (1 : Int32)), .val .null, .unset] [])) _
    refine XS.aloadN X2.here hx rfl (hb hby d16_33) rfl rfl ?_
    refine XS.iloadN X2.here hx rfl (hb hby d16_34) rfl ?_
    refine XS.iloadN X2.here hx rfl (hb hby d16_35) rfl ?_
    refine st3 _ ?_
    refine XS.astore X3.here hx rfl (hb hby d16_39) rfl rfl (l' := #[.val (.ref a), .val (.ref ar), .val (.int (0 : Int32)), .val (.int (1 : Int32)), .val .null, .val (.ref b_e3)]) rfl ?_
    refine XS.aloadN X3.here hx rfl (hb hby d16_41) rfl rfl ?_
    show Steps p.tables e below (T3.setTop (mkF m 42 #[.val (.ref a), .val (.ref ar), .val (.int (0 : Int32)), .val (.int (1 : Int32)), .val .null, .val (.ref b_e3)] [(.ref a)])) _
    refine XS.aload X3.here hx rfl (hb hby d16_42) rfl rfl ?_
    refine XS.iloadN X3.here hx rfl (hb hby d16_44) rfl ?_
    refine st4 _ ?_
    refine st8 _ ?_
    refine XS.aloadN X8.here hx rfl (hb hby d16_51) rfl rfl ?_
    refine XS.aload X8.here hx rfl (hb hby d16_52) rfl rfl ?_
    show Steps p.tables e below (T8.setTop (mkF m 54 #[.val (.ref a), .val (.ref ar), .val (.int (0 : Int32)), .val (.int (1 : Int32)), .val .null, .val (.ref b_e3)] [(.ref b_e3), (.ref a)])) _
    refine st11 _ ?_
    exact X11.returnOut hx Bd.returns (hb hby d16_57) hr
  · show Qsv1 Z a ar f cz c0 h0 n0 _ T11.heap _
    rw [e11]
    exact ⟨b_e3, kb_e3, rfl, N11, kp12, f13_E_a, Fw11, f14_F_a_coder, f16_V_b_e3, (Nat.le_trans (Keep.refl h0 [a]).1 sz_b_3)⟩
def Qsc1 (Z : State) (a : Addr) (ar : Addr) (f : Nat → Value) (cz : Int32) (sf : Value) (c0 : Int32) (h0 : Heap) (n0 : Nat) (v : Option Value) (h : Heap) (L : List Loc) : Prop := ∃ b : Addr, ∃ kb : ClassId, v = none ∧ Fr n0 L ∧ Keep h0 h [a] ∧ Exa Z h a "java/lang/String" ∧ Fld Z h a "java/lang/String" "value" "[B" (.ref b) ∧ Fld Z h a "java/lang/String" "coder" "B" (.int (0 : Int32)) ∧ Arv Z h b kb .byte (1 : Int32) [(.int (nar .byte (c0.toInt8.toInt32)))] (.int 0) ∧ h0.size ≤ b
abbrev Rm_sc1 : Room := { frames := 3, cells := 1, slots := 1, locals := 52 }
set_option maxRecDepth 65536 in
set_option maxHeartbeats 40000000 in
theorem sc1 (l : Launch) (Z : State) (a0 : Array Value) (hw : ∀ d ∈ tables_1, d.before a0 Z = true) (ws : List Jvm.Cond) (a : Addr) (ar : Addr) (f : Nat → Value) (cz : Int32) (sf : Value) (c0 : Int32) (h0 : Heap) (n0 : Nat) (Z0 : n0 ≤ h0.size) (E_a : Exa Z h0 a "java/lang/String") (F_value_a : Fld Z h0 a "java/lang/String" "value" "[B" .null) (F_coder_a : Fld Z h0 a "java/lang/String" "coder" "B" (.int (0 : Int32))) (A_ar : Av Z h0 ar .char 64 f) (hf0 : f 0 = (.int c0)) (hl0 : Lat c0) (g_a : n0 ≤ a) (ne_a_ar : a ≠ ar) (O_C : Sta Z Z.heap "java/lang/String" "COMPACT_STRINGS" "Z" (.int cz)) (hcz : ¬ (cz = (0 : Int32))) (X00 : Old Z n0 h0) (O_S : Sta Z Z.heap "jdk/internal/util/Preconditions" "SIOOBE_FORMATTER" "Ljava/util/function/BiFunction;" sf) (hsf : sf.isRef = true) :
    MetFree l my15 (head1 (Jvm.Cond.code my15 jdk_42_method_4_code 4 none :: ws) Rm_sc1) (fun aa_ U => aa_ = #[(.ref a), (.ref ar), (.int (0 : Int32)), (.int (1 : Int32))] ∧ Z.Warmed39 U.vm ∧ U.heap = h0) (fun _ _ _ _ _ => True) (fun _ U oo_ U' => ∃ v L, oo_ = .returned v ∧ Qsc1 Z a ar f cz sf c0 h0 n0 v U'.heap L ∧ FrameEnd U oo_ U' L Rm_sc1.cells Rm_sc1.slots) := by
  refine MetFree.of_bodySF (plainFor_of_name pn_5) hisR ?_
  intro p e s m args below meth c s₁ Bd hml0 hP hK
  obtain ⟨rfl, hZ, hh⟩ := hP
  have hx := Bd.exec
  have hby := Bd.bytes
  have hml : c.maxLocals = 4 := hml0
  have hown : s.vm.findClass "java/lang/String" = some m.cls := findClass_of_methodNamed Bd.named
  have hnm := (name_of_methodNamed Bd.named Bd.method).1
  have X0 : Stand p l e Rm_sc1 s m #[(.ref a), (.ref ar), (.int (0 : Int32)), (.int (1 : Int32))] below meth c s₁ [] 0 0 := Stand.of_body Bd
  have e0 : s₁.heap = h0 := by rw [← hh, Bd.state]; rfl
  have N0 := Fr.nil n0
  have pre0 : ∀ tt_, Steps p.tables e below (s₁.setTop (mkF m 0 #[.val (.ref a), .val (.ref ar), .val (.int (0 : Int32)), .val (.int (1 : Int32))] [])) tt_ → Steps p.tables e below (s₁.setTop (entryFrame m #[(.ref a), (.ref ar), (.int (0 : Int32)), (.int (1 : Int32))] 4)) tt_ := fun tt_ kk_ => castTop (ef_12 m a ar (0 : Int32) (1 : Int32)) kk_
  obtain ⟨_, _, ⟨T1, L1, k1, n1⟩, -, X1, ⟨Lc1, hQ1, l1, y1, z1⟩, st1⟩ := Jvm.LawKit.callS X0 hx (y := my13) hown (mvT hZ (hwd72 hw)) (mvT hZ (hwd73 hw)) (mvT hZ (hwd64 hw)) (mvT hZ (hwd74 hw)) (by decide) (backOf (W := 4) (rc1 l Z a0 hw [] ar f sf h0 n0 Z0 A_ar O_S hsf X00) hZ (hwd74 hw) (hwd64 hw) (by decide) (by decide)) (g := (mkF m 7 #[.val (.ref a), .val (.ref ar), .val (.int (0 : Int32)), .val (.int (1 : Int32))] [(.int (1 : Int32)), (.int (0 : Int32)), (.ref ar), (.int (1 : Int32)), (.int (0 : Int32)), (.ref ar), (.ref a)])) rfl (by rw [hml]; rfl) (argsL := [(.ref ar), (.int (0 : Int32)), (.int (1 : Int32))]) (rest := [(.int (1 : Int32)), (.int (0 : Int32)), (.ref ar), (.ref a)]) (lenOf pd_6 rfl) rfl (by show 2 * 0 + _ ≤ _; exact Nat.le_of_eq rfl) (hb hby d12_7) (fun _ _ => ⟨rfl, e0, (by decide : 0 + 0 ≤ _), (by decide : 0 + 0 ≤ _)⟩)
  dsimp only [Pt.U, Pt.locs, Pt.cells, Pt.slots] at X1 l1 y1 z1 st1 hQ1
  subst l1 y1 z1
  obtain ⟨rfl, N1q, e1q⟩ := hQ1
  have N1 := Fr.app N0 N1q
  obtain ⟨_, _, ⟨T2, L2, k2, n2⟩, -, X2, ⟨Lc2, hQ2, l2, y2, z2⟩, st2⟩ := X1.specialBack hx (y := my14) rfl hown (mvT hZ (hwd83 hw)) (mvT hZ (hwd84 hw)) (mvT hZ (hwd86 hw)) (by decide) (backOf (W := 0) (sv1 l Z a0 hw [] a ar f cz c0 h0 n0 Z0 E_a F_value_a F_coder_a A_ar hf0 hl0 g_a ne_a_ar O_C hcz X00) hZ (hwd86 hw) (hwd64 hw) (by decide) (by decide)) (g := (mkF m 10 #[.val (.ref a), .val (.ref ar), .val (.int (0 : Int32)), .val (.int (1 : Int32))] [.null, (.int (1 : Int32)), (.int (0 : Int32)), (.ref ar), (.ref a)])) rfl (by rw [hml]; rfl) (Steps.refl _) (a := a) (argsL := [(.ref ar), (.int (0 : Int32)), (.int (1 : Int32)), .null]) (rest := []) (lenOf pd_7 rfl) rfl (by show 2 * 0 + _ ≤ _; exact Nat.le_of_eq rfl) (hb hby d12_10) (fun _ _ => ⟨rfl, e1q, (by decide : 0 + 1 ≤ _), (by decide : 0 + 1 ≤ _)⟩)
  dsimp only [Pt.U, Pt.locs, Pt.cells, Pt.slots] at X2 l2 y2 z2 st2 hQ2
  subst l2 y2 z2
  obtain ⟨b_e2, kb_e2, rfl, N2q, K2, p2_1, p2_2, p2_3, p2_4, sz_b_2⟩ := hQ2
  have N2 := Fr.app N1 N2q
  have kp3 : Keep h0 T2.heap [a] := ((Keep.refl h0 [a]).trans K2 (allS (Or.inl (List.mem_of_getElem? (i := 0) rfl)) all0))
  obtain ⟨fs, hr, hrun, hended, hW, hsame⟩ := X2.leave (v := none) (fun _ => rfl)
  refine ⟨_, _, pre0 _ ?_, hrun, hended, _, _, rfl, ?_, ⟨_, rfl⟩, hW, hsame.mono (by decide) (by decide)⟩
  · show Steps p.tables e below (s₁.setTop (mkF m 0 #[.val (.ref a), .val (.ref ar), .val (.int (0 : Int32)), .val (.int (1 : Int32))] [])) _
    refine XS.aloadN X0.here hx rfl (hb hby d12_0) rfl rfl ?_
    refine XS.aloadN X0.here hx rfl (hb hby d12_1) rfl rfl ?_
    refine XS.iloadN X0.here hx rfl (hb hby d12_2) rfl ?_
    refine XS.iloadN X0.here hx rfl (hb hby d12_3) rfl ?_
    refine XS.aloadN X0.here hx rfl (hb hby d12_4) rfl rfl ?_
    refine XS.iloadN X0.here hx rfl (hb hby d12_5) rfl ?_
    show Steps p.tables e below (s₁.setTop (mkF m 6 #[.val (.ref a), .val (.ref ar), .val (.int (0 : Int32)), .val (.int (1 : Int32))] [(.int (0 : Int32)), (.ref ar), (.int (1 : Int32)), (.int (0 : Int32)), (.ref ar), (.ref a)])) _
    refine XS.iloadN X0.here hx rfl (hb hby d12_6) rfl ?_
    refine st1 _ ?_
    refine st2.trans ?_
    exact X2.returnOut hx Bd.returns (hb hby d12_13) hr
  · show Qsc1 Z a ar f cz sf c0 h0 n0 _ T2.heap _
    exact ⟨b_e2, kb_e2, rfl, N2, kp3, p2_1, p2_2, p2_3, p2_4, (Nat.le_trans (Keep.refl h0 [a]).1 sz_b_2)⟩
def Qcfis2 (Z : State) (sf : Value) (h0 : Heap) (n0 : Nat) (v : Option Value) (h : Heap) (L : List Loc) : Prop := v = some (.int (0 : Int32)) ∧ Fr n0 L ∧ h = h0
abbrev Rm_cfis2 : Room := { frames := 0, cells := 0, slots := 0, locals := 0 }
set_option maxRecDepth 65536 in
set_option maxHeartbeats 40000000 in
theorem cfis2 (l : Launch) (Z : State) (a0 : Array Value) (hw : ∀ d ∈ tables_1, d.before a0 Z = true) (ws : List Jvm.Cond) (sf : Value) (h0 : Heap) (n0 : Nat) (Z0 : n0 ≤ h0.size) (hsf : sf.isRef = true) :
    MetFree l my11 (head1 (Jvm.Cond.code my11 jdk_41_method_13_code 4 (some .int) :: ws) Rm_cfis2) (fun aa_ U => aa_ = #[(.int (0 : Int32)), (.int (2 : Int32)), (.int (64 : Int32)), sf] ∧ Z.Warmed39 U.vm ∧ U.heap = h0) (fun _ _ _ _ _ => True) (fun _ U oo_ U' => ∃ v L, oo_ = .returned v ∧ Qcfis2 Z sf h0 n0 v U'.heap L ∧ FrameEnd U oo_ U' L Rm_cfis2.cells Rm_cfis2.slots) := by
  refine MetFree.of_bodySF (plainFor_of_name pn_4) hisR ?_
  intro p e s m args below meth c s₁ Bd hml0 hP hK
  obtain ⟨rfl, hZ, hh⟩ := hP
  have hx := Bd.exec
  have hby := Bd.bytes
  have hml : c.maxLocals = 4 := hml0
  have hown : s.vm.findClass "jdk/internal/util/Preconditions" = some m.cls := findClass_of_methodNamed Bd.named
  have hnm := (name_of_methodNamed Bd.named Bd.method).1
  have X0 : Stand p l e Rm_cfis2 s m #[(.int (0 : Int32)), (.int (2 : Int32)), (.int (64 : Int32)), sf] below meth c s₁ [] 0 0 := Stand.of_body Bd
  have e0 : s₁.heap = h0 := by rw [← hh, Bd.state]; rfl
  have N0 := Fr.nil n0
  have pre0 : ∀ tt_, Steps p.tables e below (s₁.setTop (mkF m 0 #[.val (.int (0 : Int32)), .val (.int (2 : Int32)), .val (.int (64 : Int32)), .val sf] [])) tt_ → Steps p.tables e below (s₁.setTop (entryFrame m #[(.int (0 : Int32)), (.int (2 : Int32)), (.int (64 : Int32)), sf] 4)) tt_ := fun tt_ kk_ => castTop (ef_15 m (0 : Int32) (2 : Int32) (64 : Int32) sf hsf) kk_
  obtain ⟨fs, hr, hrun, hended, hW, hsame⟩ := X0.leave (v := some (.int (0 : Int32))) (fun h => by rw [Bd.returns] at h; cases h)
  refine ⟨_, _, pre0 _ ?_, hrun, hended, _, _, rfl, ?_, ⟨_, rfl⟩, hW, hsame.mono (by decide) (by decide)⟩
  · show Steps p.tables e below (s₁.setTop (mkF m 0 #[.val (.int (0 : Int32)), .val (.int (2 : Int32)), .val (.int (64 : Int32)), .val sf] [])) _
    refine XS.iloadN X0.here hx rfl (hb hby d15_0) rfl ?_
    refine XS.iloadN X0.here hx rfl (hb hby d15_1) rfl ?_
    refine XS.ior X0.here hx rfl (hb hby d15_2) rfl ?_
    refine XS.iloadN X0.here hx rfl (hb hby d15_3) rfl ?_
    refine XS.ior X0.here hx rfl (hb hby d15_4) rfl ?_
    refine XS.ifNo X0.here hx rfl (hb hby d15_5) rfl ((if0 _ _).trans (flt (show ¬ ((((64 : Int32) ||| (0 : Int32)) ||| (2 : Int32)) < (0 : Int32)) from (by decide))).1) ?_
    show Steps p.tables e below (s₁.setTop (mkF m 8 #[.val (.int (0 : Int32)), .val (.int (2 : Int32)), .val (.int (64 : Int32)), .val sf] [])) _
    refine XS.iloadN X0.here hx rfl (hb hby d15_8) rfl ?_
    refine XS.iloadN X0.here hx rfl (hb hby d15_9) rfl ?_
    refine XS.iloadN X0.here hx rfl (hb hby d15_10) rfl ?_
    refine XS.isub X0.here hx rfl (hb hby d15_11) rfl ?_
    show Steps p.tables e below (s₁.setTop (mkF m 12 #[.val (.int (0 : Int32)), .val (.int (2 : Int32)), .val (.int (64 : Int32)), .val sf] [(.int ((64 : Int32) - (0 : Int32))), (.int (2 : Int32))])) _
    rw [show (((64 : Int32) - (0 : Int32)) : Int32) = (64 : Int32) from by decide]
    refine XS.icmpYes X0.here hx rfl (pc0 := 12) (pc' := 23) rfl (hb hby d15_12) rfl (flt (show ¬ ((64 : Int32) < (2 : Int32)) from (by decide))).2.2.2 (by decide) (by decide) ?_
    refine XS.iloadN X0.here hx rfl (hb hby d15_23) rfl ?_
    exact retI X0 hx Bd.returns (hb hby d15_24) hr
  · show Qcfis2 Z sf h0 n0 _ s₁.heap _
    rw [e0]
    exact ⟨rfl, N0, rfl⟩
def Qcbo2 (Z : State) (sf : Value) (h0 : Heap) (n0 : Nat) (v : Option Value) (h : Heap) (L : List Loc) : Prop := v = some (.int (0 : Int32)) ∧ Fr n0 L ∧ h = h0
abbrev Rm_cbo2 : Room := { frames := 1, cells := 0, slots := 0, locals := 15 }
set_option maxRecDepth 65536 in
set_option maxHeartbeats 40000000 in
theorem cbo2 (l : Launch) (Z : State) (a0 : Array Value) (hw : ∀ d ∈ tables_1, d.before a0 Z = true) (ws : List Jvm.Cond) (sf : Value) (h0 : Heap) (n0 : Nat) (Z0 : n0 ≤ h0.size) (O_S : Sta Z Z.heap "jdk/internal/util/Preconditions" "SIOOBE_FORMATTER" "Ljava/util/function/BiFunction;" sf) (hsf : sf.isRef = true) (X00 : Old Z n0 h0) :
    MetFree l my12 (head1 (Jvm.Cond.code my12 jdk_42_method_157_code 3 (some .int) :: ws) Rm_cbo2) (fun aa_ U => aa_ = #[(.int (0 : Int32)), (.int (2 : Int32)), (.int (64 : Int32))] ∧ Z.Warmed39 U.vm ∧ U.heap = h0) (fun _ _ _ _ _ => True) (fun _ U oo_ U' => ∃ v L, oo_ = .returned v ∧ Qcbo2 Z sf h0 n0 v U'.heap L ∧ FrameEnd U oo_ U' L Rm_cbo2.cells Rm_cbo2.slots) := by
  refine MetFree.of_bodySF (plainFor_of_name pn_5) hisR ?_
  intro p e s m args below meth c s₁ Bd hml0 hP hK
  obtain ⟨rfl, hZ, hh⟩ := hP
  have hx := Bd.exec
  have hby := Bd.bytes
  have hml : c.maxLocals = 3 := hml0
  have hown : s.vm.findClass "java/lang/String" = some m.cls := findClass_of_methodNamed Bd.named
  have hnm := (name_of_methodNamed Bd.named Bd.method).1
  have X0 : Stand p l e Rm_cbo2 s m #[(.int (0 : Int32)), (.int (2 : Int32)), (.int (64 : Int32))] below meth c s₁ [] 0 0 := Stand.of_body Bd
  have e0 : s₁.heap = h0 := by rw [← hh, Bd.state]; rfl
  have N0 := Fr.nil n0
  have pre0 : ∀ tt_, Steps p.tables e below (s₁.setTop (mkF m 0 #[.val (.int (0 : Int32)), .val (.int (2 : Int32)), .val (.int (64 : Int32))] [])) tt_ → Steps p.tables e below (s₁.setTop (entryFrame m #[(.int (0 : Int32)), (.int (2 : Int32)), (.int (64 : Int32))] 3)) tt_ := fun tt_ kk_ => castTop (ef_14 m (0 : Int32) (2 : Int32) (64 : Int32)) kk_
  obtain ⟨T1, X1, e1, st1⟩ := getS2 X0 hx hZ hown (host := "") (Or.inl (hwd78 hw)) Via.refl e0 (O_S.ext X00.2) (g := (mkF m 3 #[.val (.int (0 : Int32)), .val (.int (2 : Int32)), .val (.int (64 : Int32))] [(.int (64 : Int32)), (.int (2 : Int32)), (.int (0 : Int32))])) rfl (hb hby d14_3)
  obtain ⟨_, _, ⟨T2, L2, k2, n2⟩, -, X2, ⟨Lc2, hQ2, l2, y2, z2⟩, st2⟩ := Jvm.LawKit.callS X1 hx (y := my11) hown (mvT hZ (hwd80 hw)) (mvT hZ (hwd81 hw)) (mvT hZ (hwd79 hw)) (mvT hZ (hwd82 hw)) (by decide) (backOf (W := 0) (cfis2 l Z a0 hw [] sf h0 n0 Z0 hsf) hZ (hwd82 hw) (hwd79 hw) (by decide) (by decide)) (g := (mkF m 6 #[.val (.int (0 : Int32)), .val (.int (2 : Int32)), .val (.int (64 : Int32))] [sf, (.int (64 : Int32)), (.int (2 : Int32)), (.int (0 : Int32))])) rfl (by rw [hml]; rfl) (argsL := [(.int (0 : Int32)), (.int (2 : Int32)), (.int (64 : Int32)), sf]) (rest := []) (lenOf pd_4 rfl) rfl (by show 2 * 0 + _ ≤ _; exact Nat.le_of_eq rfl) (hb hby d14_6) (fun _ _ => ⟨rfl, e1, (by decide : 0 + 0 ≤ _), (by decide : 0 + 0 ≤ _)⟩)
  dsimp only [Pt.U, Pt.locs, Pt.cells, Pt.slots] at X2 l2 y2 z2 st2 hQ2
  subst l2 y2 z2
  obtain ⟨rfl, N2q, e2q⟩ := hQ2
  have N2 := Fr.app N0 N2q
  obtain ⟨fs, hr, hrun, hended, hW, hsame⟩ := X2.leave (v := some (.int (0 : Int32))) (fun h => by rw [Bd.returns] at h; cases h)
  refine ⟨_, _, pre0 _ ?_, hrun, hended, _, _, rfl, ?_, ⟨_, rfl⟩, hW, hsame.mono (by decide) (by decide)⟩
  · show Steps p.tables e below (s₁.setTop (mkF m 0 #[.val (.int (0 : Int32)), .val (.int (2 : Int32)), .val (.int (64 : Int32))] [])) _
    refine XS.iloadN X0.here hx rfl (hb hby d14_0) rfl ?_
    refine XS.iloadN X0.here hx rfl (hb hby d14_1) rfl ?_
    refine XS.iloadN X0.here hx rfl (hb hby d14_2) rfl ?_
    refine st1 _ ?_
    refine st2 _ ?_
    exact retI X2 hx Bd.returns (hb hby d14_9) hr
  · show Qcbo2 Z sf h0 n0 _ T2.heap _
    rw [e2q]
    exact ⟨rfl, N2, rfl⟩
def Qrc2 (Z : State) (ar : Addr) (f : Nat → Value) (sf : Value) (h0 : Heap) (n0 : Nat) (v : Option Value) (h : Heap) (L : List Loc) : Prop := v = some .null ∧ Fr n0 L ∧ h = h0
abbrev Rm_rc2 : Room := { frames := 2, cells := 0, slots := 0, locals := 29 }
set_option maxRecDepth 65536 in
set_option maxHeartbeats 40000000 in
theorem rc2 (l : Launch) (Z : State) (a0 : Array Value) (hw : ∀ d ∈ tables_1, d.before a0 Z = true) (ws : List Jvm.Cond) (ar : Addr) (f : Nat → Value) (sf : Value) (h0 : Heap) (n0 : Nat) (Z0 : n0 ≤ h0.size) (A_ar : Av Z h0 ar .char 64 f) (O_S : Sta Z Z.heap "jdk/internal/util/Preconditions" "SIOOBE_FORMATTER" "Ljava/util/function/BiFunction;" sf) (hsf : sf.isRef = true) (X00 : Old Z n0 h0) :
    MetFree l my13 (head1 (Jvm.Cond.code my13 jdk_42_method_5_code 3 (some (.object "java/lang/Void")) :: ws) Rm_rc2) (fun aa_ U => aa_ = #[(.ref ar), (.int (0 : Int32)), (.int (2 : Int32))] ∧ Z.Warmed39 U.vm ∧ U.heap = h0) (fun _ _ _ _ _ => True) (fun _ U oo_ U' => ∃ v L, oo_ = .returned v ∧ Qrc2 Z ar f sf h0 n0 v U'.heap L ∧ FrameEnd U oo_ U' L Rm_rc2.cells Rm_rc2.slots) := by
  refine MetFree.of_bodySF (plainFor_of_name pn_5) hisR ?_
  intro p e s m args below meth c s₁ Bd hml0 hP hK
  obtain ⟨rfl, hZ, hh⟩ := hP
  have hx := Bd.exec
  have hby := Bd.bytes
  have hml : c.maxLocals = 3 := hml0
  have hown : s.vm.findClass "java/lang/String" = some m.cls := findClass_of_methodNamed Bd.named
  have hnm := (name_of_methodNamed Bd.named Bd.method).1
  have X0 : Stand p l e Rm_rc2 s m #[(.ref ar), (.int (0 : Int32)), (.int (2 : Int32))] below meth c s₁ [] 0 0 := Stand.of_body Bd
  have e0 : s₁.heap = h0 := by rw [← hh, Bd.state]; rfl
  have N0 := Fr.nil n0
  have pre0 : ∀ tt_, Steps p.tables e below (s₁.setTop (mkF m 0 #[.val (.ref ar), .val (.int (0 : Int32)), .val (.int (2 : Int32))] [])) tt_ → Steps p.tables e below (s₁.setTop (entryFrame m #[(.ref ar), (.int (0 : Int32)), (.int (2 : Int32))] 3)) tt_ := fun tt_ kk_ => castTop (ef_13 m ar (0 : Int32) (2 : Int32)) kk_
  obtain ⟨cl1, Ar1, S1, -⟩ := id A_ar
  obtain ⟨_, _, ⟨T2, L2, k2, n2⟩, -, X2, ⟨Lc2, hQ2, l2, y2, z2⟩, st2⟩ := Jvm.LawKit.callS X0 hx (y := my12) hown (mvT hZ (hwd75 hw)) (mvT hZ (hwd76 hw)) (mvT hZ (hwd64 hw)) (mvT hZ (hwd77 hw)) (by decide) (backOf (W := 0) (cbo2 l Z a0 hw [] sf h0 n0 Z0 O_S hsf X00) hZ (hwd77 hw) (hwd64 hw) (by decide) (by decide)) (g := (mkF m 4 #[.val (.ref ar), .val (.int (0 : Int32)), .val (.int (2 : Int32))] [(.int (64 : Int32)), (.int (2 : Int32)), (.int (0 : Int32))])) rfl (by rw [hml]; rfl) (argsL := [(.int (0 : Int32)), (.int (2 : Int32)), (.int (64 : Int32))]) (rest := []) (lenOf pd_5 rfl) rfl (by show 2 * 0 + _ ≤ _; exact Nat.le_of_eq rfl) (hb hby d13_4) (fun _ _ => ⟨rfl, e0, (by decide : 0 + 0 ≤ _), (by decide : 0 + 0 ≤ _)⟩)
  dsimp only [Pt.U, Pt.locs, Pt.cells, Pt.slots] at X2 l2 y2 z2 st2 hQ2
  subst l2 y2 z2
  obtain ⟨rfl, N2q, e2q⟩ := hQ2
  have N2 := Fr.app N0 N2q
  obtain ⟨fs, hr, hrun, hended, hW, hsame⟩ := X2.leave (v := some .null) (fun h => by rw [Bd.returns] at h; cases h)
  refine ⟨_, _, pre0 _ ?_, hrun, hended, _, _, rfl, ?_, ⟨_, rfl⟩, hW, hsame.mono (by decide) (by decide)⟩
  · show Steps p.tables e below (s₁.setTop (mkF m 0 #[.val (.ref ar), .val (.int (0 : Int32)), .val (.int (2 : Int32))] [])) _
    refine XS.iloadN X0.here hx rfl (hb hby d13_0) rfl ?_
    refine XS.iloadN X0.here hx rfl (hb hby d13_1) rfl ?_
    refine XS.aloadN X0.here hx rfl (hb hby d13_2) rfl rfl ?_
    refine X0.arraylength hx (by rw [e0]; exact Ar1.1) (State.isArrayOf_alike hZ.alike Ar1.2.1) (g := (mkF m 3 #[.val (.ref ar), .val (.int (0 : Int32)), .val (.int (2 : Int32))] [(.ref ar), (.int (2 : Int32)), (.int (0 : Int32))])) rfl rfl (hb hby d13_3) _ ?_
    rw [S1]
    show Steps p.tables e below (s₁.setTop (mkF m 4 #[.val (.ref ar), .val (.int (0 : Int32)), .val (.int (2 : Int32))] [(.int (Nat.toInt32 64)), (.int (2 : Int32)), (.int (0 : Int32))])) _
    rw [show ((Nat.toInt32 64) : Int32) = (64 : Int32) from by decide]
    refine st2 _ ?_
    refine XS.pop X2.here hx rfl (hb hby d13_7) rfl rfl ?_
    refine XS.aconstNull X2.here hx rfl (hb hby d13_8) ?_
    jvm_step X2.here [X2.here.top, hx, (hb hby d13_9), X2.method', Bd.returns, Value.isRef, FieldType.isReference]
    first | (intro acts; rw [hr _ acts rfl rfl rfl]) | rw [hr _ _ rfl rfl rfl]
    exact Steps.refl _
  · show Qrc2 Z ar f sf h0 n0 _ T2.heap _
    rw [e2q]
    exact ⟨rfl, N2, rfl⟩
def Qcmq2 (Z : State) (ar : Addr) (bt : Addr) (kb : ClassId) (f : Nat → Value) (c0 : Int32) (c1 : Int32) (h0 : Heap) (n0 : Nat) (v : Option Value) (h : Heap) (L : List Loc) : Prop := v = some (.int (2 : Int32)) ∧ Fr n0 L ∧ Keep h0 h [bt] ∧ Arv Z h bt kb .byte (2 : Int32) [(.int (nar .byte (c0.toInt8.toInt32))), (.int (nar .byte (c1.toInt8.toInt32)))] (.int 0)
abbrev Rm_cmq2 : Room := { frames := 0, cells := 0, slots := 0, locals := 0 }
set_option maxRecDepth 65536 in
set_option maxHeartbeats 40000000 in
theorem cmq2 (l : Launch) (Z : State) (a0 : Array Value) (hw : ∀ d ∈ tables_1, d.before a0 Z = true) (ws : List Jvm.Cond) (ar : Addr) (bt : Addr) (kb : ClassId) (f : Nat → Value) (c0 : Int32) (c1 : Int32) (h0 : Heap) (n0 : Nat) (Z0 : n0 ≤ h0.size) (A_ar : Av Z h0 ar .char 64 f) (hf0 : f 0 = (.int c0)) (hf1 : f 1 = (.int c1)) (hl0 : Lat c0) (hl1 : Lat c1) (V_bt : Arv Z h0 bt kb .byte (2 : Int32) [(.int (0 : Int32)), (.int (0 : Int32))] (.int (0 : Int32))) (g_bt : n0 ≤ bt) (ne_ar_bt : ar ≠ bt) :
    MetFree l my16 (head1 (Jvm.Cond.code my16 jdk_52_method_21_code 7 (some .int) :: ws) Rm_cmq2) (fun aa_ U => aa_ = #[(.ref ar), (.int (0 : Int32)), (.ref bt), (.int (0 : Int32)), (.int (2 : Int32))] ∧ Z.Warmed39 U.vm ∧ U.heap = h0) (fun _ _ _ _ _ => True) (fun _ U oo_ U' => ∃ v L, oo_ = .returned v ∧ Qcmq2 Z ar bt kb f c0 c1 h0 n0 v U'.heap L ∧ FrameEnd U oo_ U' L Rm_cmq2.cells Rm_cmq2.slots) := by
  refine MetFree.of_bodySF (plainFor_of_name pn_6) hisR ?_
  intro p e s m args below meth c s₁ Bd hml0 hP hK
  obtain ⟨rfl, hZ, hh⟩ := hP
  have hx := Bd.exec
  have hby := Bd.bytes
  have hml : c.maxLocals = 7 := hml0
  have hown : s.vm.findClass "java/lang/StringUTF16" = some m.cls := findClass_of_methodNamed Bd.named
  have hnm := (name_of_methodNamed Bd.named Bd.method).1
  have X0 : Stand p l e Rm_cmq2 s m #[(.ref ar), (.int (0 : Int32)), (.ref bt), (.int (0 : Int32)), (.int (2 : Int32))] below meth c s₁ [] 0 0 := Stand.of_body Bd
  have e0 : s₁.heap = h0 := by rw [← hh, Bd.state]; rfl
  have N0 := Fr.nil n0
  have pre0 : ∀ tt_, Steps p.tables e below (s₁.setTop (mkF m 0 #[.val (.ref ar), .val (.int (0 : Int32)), .val (.ref bt), .val (.int (0 : Int32)), .val (.int (2 : Int32)), .unset, .unset] [])) tt_ → Steps p.tables e below (s₁.setTop (entryFrame m #[(.ref ar), (.int (0 : Int32)), (.ref bt), (.int (0 : Int32)), (.int (2 : Int32))] 7)) tt_ := fun tt_ kk_ => castTop (ef_22 m ar (0 : Int32) bt (0 : Int32) (2 : Int32)) kk_
  obtain ⟨cl1, Ar1, S1, H1⟩ := id A_ar
  have hj1 : (0 : Int32).toNatClampNeg = 0 := (by decide)
  have hin1 : ¬ ((0 : Int32) < 0 ∨ cl1.slots.size ≤ ((0 : Int32)).toNatClampNeg) := by rw [S1, hj1]; exact fun q => q.elim (by decide) (Nat.not_le.mpr (by decide : 0 < 64))
  have hat1 : cl1.slots[((0 : Int32)).toNatClampNeg]? = some (.int c0) := by rw [hj1, H1 _ (by decide : 0 < 64)]; exact congrArg some (hf0)
  obtain ⟨cl2, Ar2, q2, S2, M2, H2, G2⟩ := id V_bt
  obtain ⟨T3, h3, X3, e3, W3, st3⟩ := stB X0 hx hZ e0 Ar2 (j := (0 : Int32)) (inb_of S2 ⟨by decide, by decide⟩) (g := (mkF m 31 #[.val (.ref ar), .val (.int (0 : Int32)), .val (.ref bt), .val (.int (0 : Int32)), .val (.int (2 : Int32)), .val (.int (0 : Int32)), .val (.int c0)] [(.int (c0.toInt8.toInt32)), (.int (0 : Int32)), (.ref bt)])) rfl rfl (hb hby d22_31)
  have N3 := Fr.snoc X3 N0 g_bt
  have Vw3 : Arv Z h3 bt kb .byte (2 : Int32) [(.int (nar .byte (c0.toInt8.toInt32))), (.int (0 : Int32))] (.int (0 : Int32)) := Arv.set Ar2 q2 S2 M2 H2 G2 (fits_nar_byte _) W3 0 rfl (Nat.le_of_ble_eq_true rfl)
  have f4_A_ar := (A_ar.other W3 ne_ar_bt)
  obtain ⟨cl5, Ar5, S5, H5⟩ := id f4_A_ar
  have hj5 : (1 : Int32).toNatClampNeg = 1 := (by decide)
  have hin5 : ¬ ((1 : Int32) < 0 ∨ cl5.slots.size ≤ ((1 : Int32)).toNatClampNeg) := by rw [S5, hj5]; exact fun q => q.elim (by decide) (Nat.not_le.mpr (by decide : 1 < 64))
  have hat5 : cl5.slots[((1 : Int32)).toNatClampNeg]? = some (.int c1) := by rw [hj5, H5 _ (by decide : 1 < 64)]; exact congrArg some (hf1)
  obtain ⟨cl6, Ar6, q6, S6, M6, H6, G6⟩ := id Vw3
  obtain ⟨T7, h7, X7, e7, W7, st7⟩ := stB X3 hx hZ e3 Ar6 (j := (1 : Int32)) (inb_of S6 ⟨by decide, by decide⟩) (g := (mkF m 31 #[.val (.ref ar), .val (.int (1 : Int32)), .val (.ref bt), .val (.int (1 : Int32)), .val (.int (2 : Int32)), .val (.int (1 : Int32)), .val (.int c1)] [(.int (c1.toInt8.toInt32)), (.int (1 : Int32)), (.ref bt)])) rfl rfl (hb hby d22_31)
  have N7 := Fr.snoc X7 N3 g_bt
  have Vw7 : Arv Z h7 bt kb .byte (2 : Int32) [(.int (nar .byte (c0.toInt8.toInt32))), (.int (nar .byte (c1.toInt8.toInt32)))] (.int (0 : Int32)) := Arv.set Ar6 q6 S6 M6 H6 G6 (fits_nar_byte _) W7 1 rfl (Nat.le_of_ble_eq_true rfl)
  have kp8 : Keep h0 h7 [bt] := (((Keep.refl h0 [bt]).wr W3 (Or.inl (List.mem_of_getElem? (i := 0) rfl))).wr W7 (Or.inl (List.mem_of_getElem? (i := 0) rfl)))
  obtain ⟨fs, hr, hrun, hended, hW, hsame⟩ := X7.leave (v := some (.int (2 : Int32))) (fun h => by rw [Bd.returns] at h; cases h)
  refine ⟨_, _, pre0 _ ?_, hrun, hended, _, _, rfl, ?_, ⟨_, rfl⟩, hW, hsame.mono (by decide) (by decide)⟩
  · show Steps p.tables e below (s₁.setTop (mkF m 0 #[.val (.ref ar), .val (.int (0 : Int32)), .val (.ref bt), .val (.int (0 : Int32)), .val (.int (2 : Int32)), .unset, .unset] [])) _
    refine XS.iconst X0.here hx rfl (hb hby d22_0) ?_
    refine XS.istore X0.here hx rfl (hb hby d22_1) rfl (l' := #[.val (.ref ar), .val (.int (0 : Int32)), .val (.ref bt), .val (.int (0 : Int32)), .val (.int (2 : Int32)), .val (.int (0 : Int32)), .unset]) rfl ?_
    refine XS.iload X0.here hx rfl (hb hby d22_3) rfl ?_
    refine XS.iload X0.here hx rfl (hb hby d22_5) rfl ?_
    refine XS.icmpNo X0.here hx rfl (hb hby d22_7) rfl (tlt (show (0 : Int32) < (2 : Int32) from (by decide))).2.1 ?_
    refine XS.aloadN X0.here hx rfl (hb hby d22_10) rfl rfl ?_
    show Steps p.tables e below (s₁.setTop (mkF m 11 #[.val (.ref ar), .val (.int (0 : Int32)), .val (.ref bt), .val (.int (0 : Int32)), .val (.int (2 : Int32)), .val (.int (0 : Int32)), .unset] [(.ref ar)])) _
    refine XS.iloadN X0.here hx rfl (hb hby d22_11) rfl ?_
    refine X0.caload hx (j := (0 : Int32)) (v := (.int c0)) (by rw [e0]; exact Ar1.1) (State.isArrayOf_alike hZ.alike Ar1.2.1) Ar1.2.2 hin1 hat1 (g := (mkF m 12 #[.val (.ref ar), .val (.int (0 : Int32)), .val (.ref bt), .val (.int (0 : Int32)), .val (.int (2 : Int32)), .val (.int (0 : Int32)), .unset] [(.int (0 : Int32)), (.ref ar)])) rfl rfl (hb hby d22_12) _ ?_
    refine XS.istore X0.here hx rfl (hb hby d22_13) rfl (l' := #[.val (.ref ar), .val (.int (0 : Int32)), .val (.ref bt), .val (.int (0 : Int32)), .val (.int (2 : Int32)), .val (.int (0 : Int32)), .val (.int c0)]) rfl ?_
    refine XS.iload X0.here hx rfl (hb hby d22_15) rfl ?_
    refine XS.sipush X0.here hx rfl (hb hby d22_17) ?_
    show Steps p.tables e below (s₁.setTop (mkF m 20 #[.val (.ref ar), .val (.int (0 : Int32)), .val (.ref bt), .val (.int (0 : Int32)), .val (.int (2 : Int32)), .val (.int (0 : Int32)), .val (.int c0)] [(.int (255 : Int32)), (.int c0)])) _
    refine XS.icmpYes X0.here hx rfl (pc0 := 20) (pc' := 26) rfl (hb hby d22_20) rfl (flt (show ¬ ((255 : Int32) < c0) from hl0.2)).2.2.2 (by decide) (by decide) ?_
    refine XS.aloadN X0.here hx rfl (hb hby d22_26) rfl rfl ?_
    refine XS.iloadN X0.here hx rfl (hb hby d22_27) rfl ?_
    refine XS.iload X0.here hx rfl (hb hby d22_28) rfl ?_
    refine XS.i2b X0.here hx rfl (hb hby d22_30) rfl ?_
    refine st3 _ ?_
    show Steps p.tables e below (T3.setTop (mkF m 32 #[.val (.ref ar), .val (.int (0 : Int32)), .val (.ref bt), .val (.int (0 : Int32)), .val (.int (2 : Int32)), .val (.int (0 : Int32)), .val (.int c0)] [])) _
    refine XS.iinc X3.here hx rfl (hb hby d22_32) rfl (l' := #[.val (.ref ar), .val (.int ((0 : Int32) + (1 : Int32))), .val (.ref bt), .val (.int (0 : Int32)), .val (.int (2 : Int32)), .val (.int (0 : Int32)), .val (.int c0)]) rfl ?_
    show Steps p.tables e below (T3.setTop (mkF m 35 #[.val (.ref ar), .val (.int ((0 : Int32) + (1 : Int32))), .val (.ref bt), .val (.int (0 : Int32)), .val (.int (2 : Int32)), .val (.int (0 : Int32)), .val (.int c0)] [])) _
    rw [show (((0 : Int32) + (1 : Int32)) : Int32) = (1 : Int32) from by decide]
    refine XS.iinc X3.here hx rfl (hb hby d22_35) rfl (l' := #[.val (.ref ar), .val (.int (1 : Int32)), .val (.ref bt), .val (.int ((0 : Int32) + (1 : Int32))), .val (.int (2 : Int32)), .val (.int (0 : Int32)), .val (.int c0)]) rfl ?_
    show Steps p.tables e below (T3.setTop (mkF m 38 #[.val (.ref ar), .val (.int (1 : Int32)), .val (.ref bt), .val (.int ((0 : Int32) + (1 : Int32))), .val (.int (2 : Int32)), .val (.int (0 : Int32)), .val (.int c0)] [])) _
    rw [show (((0 : Int32) + (1 : Int32)) : Int32) = (1 : Int32) from by decide]
    refine XS.iinc X3.here hx rfl (hb hby d22_38) rfl (l' := #[.val (.ref ar), .val (.int (1 : Int32)), .val (.ref bt), .val (.int (1 : Int32)), .val (.int (2 : Int32)), .val (.int ((0 : Int32) + (1 : Int32))), .val (.int c0)]) rfl ?_
    show Steps p.tables e below (T3.setTop (mkF m 41 #[.val (.ref ar), .val (.int (1 : Int32)), .val (.ref bt), .val (.int (1 : Int32)), .val (.int (2 : Int32)), .val (.int ((0 : Int32) + (1 : Int32))), .val (.int c0)] [])) _
    rw [show (((0 : Int32) + (1 : Int32)) : Int32) = (1 : Int32) from by decide]
    refine XS.goto X3.here hx rfl (pc0 := 41) (pc' := 3) rfl (hb hby d22_41) (by decide) (by decide) ?_
    refine XS.iload X3.here hx rfl (hb hby d22_3) rfl ?_
    refine XS.iload X3.here hx rfl (hb hby d22_5) rfl ?_
    refine XS.icmpNo X3.here hx rfl (hb hby d22_7) rfl (tlt (show (1 : Int32) < (2 : Int32) from (by decide))).2.1 ?_
    refine XS.aloadN X3.here hx rfl (hb hby d22_10) rfl rfl ?_
    show Steps p.tables e below (T3.setTop (mkF m 11 #[.val (.ref ar), .val (.int (1 : Int32)), .val (.ref bt), .val (.int (1 : Int32)), .val (.int (2 : Int32)), .val (.int (1 : Int32)), .val (.int c0)] [(.ref ar)])) _
    refine XS.iloadN X3.here hx rfl (hb hby d22_11) rfl ?_
    refine X3.caload hx (j := (1 : Int32)) (v := (.int c1)) (by rw [e3]; exact Ar5.1) (State.isArrayOf_alike hZ.alike Ar5.2.1) Ar5.2.2 hin5 hat5 (g := (mkF m 12 #[.val (.ref ar), .val (.int (1 : Int32)), .val (.ref bt), .val (.int (1 : Int32)), .val (.int (2 : Int32)), .val (.int (1 : Int32)), .val (.int c0)] [(.int (1 : Int32)), (.ref ar)])) rfl rfl (hb hby d22_12) _ ?_
    refine XS.istore X3.here hx rfl (hb hby d22_13) rfl (l' := #[.val (.ref ar), .val (.int (1 : Int32)), .val (.ref bt), .val (.int (1 : Int32)), .val (.int (2 : Int32)), .val (.int (1 : Int32)), .val (.int c1)]) rfl ?_
    refine XS.iload X3.here hx rfl (hb hby d22_15) rfl ?_
    refine XS.sipush X3.here hx rfl (hb hby d22_17) ?_
    show Steps p.tables e below (T3.setTop (mkF m 20 #[.val (.ref ar), .val (.int (1 : Int32)), .val (.ref bt), .val (.int (1 : Int32)), .val (.int (2 : Int32)), .val (.int (1 : Int32)), .val (.int c1)] [(.int (255 : Int32)), (.int c1)])) _
    refine XS.icmpYes X3.here hx rfl (pc0 := 20) (pc' := 26) rfl (hb hby d22_20) rfl (flt (show ¬ ((255 : Int32) < c1) from hl1.2)).2.2.2 (by decide) (by decide) ?_
    refine XS.aloadN X3.here hx rfl (hb hby d22_26) rfl rfl ?_
    refine XS.iloadN X3.here hx rfl (hb hby d22_27) rfl ?_
    refine XS.iload X3.here hx rfl (hb hby d22_28) rfl ?_
    refine XS.i2b X3.here hx rfl (hb hby d22_30) rfl ?_
    refine st7 _ ?_
    show Steps p.tables e below (T7.setTop (mkF m 32 #[.val (.ref ar), .val (.int (1 : Int32)), .val (.ref bt), .val (.int (1 : Int32)), .val (.int (2 : Int32)), .val (.int (1 : Int32)), .val (.int c1)] [])) _
    refine XS.iinc X7.here hx rfl (hb hby d22_32) rfl (l' := #[.val (.ref ar), .val (.int ((1 : Int32) + (1 : Int32))), .val (.ref bt), .val (.int (1 : Int32)), .val (.int (2 : Int32)), .val (.int (1 : Int32)), .val (.int c1)]) rfl ?_
    show Steps p.tables e below (T7.setTop (mkF m 35 #[.val (.ref ar), .val (.int ((1 : Int32) + (1 : Int32))), .val (.ref bt), .val (.int (1 : Int32)), .val (.int (2 : Int32)), .val (.int (1 : Int32)), .val (.int c1)] [])) _
    rw [show (((1 : Int32) + (1 : Int32)) : Int32) = (2 : Int32) from by decide]
    refine XS.iinc X7.here hx rfl (hb hby d22_35) rfl (l' := #[.val (.ref ar), .val (.int (2 : Int32)), .val (.ref bt), .val (.int ((1 : Int32) + (1 : Int32))), .val (.int (2 : Int32)), .val (.int (1 : Int32)), .val (.int c1)]) rfl ?_
    show Steps p.tables e below (T7.setTop (mkF m 38 #[.val (.ref ar), .val (.int (2 : Int32)), .val (.ref bt), .val (.int ((1 : Int32) + (1 : Int32))), .val (.int (2 : Int32)), .val (.int (1 : Int32)), .val (.int c1)] [])) _
    rw [show (((1 : Int32) + (1 : Int32)) : Int32) = (2 : Int32) from by decide]
    refine XS.iinc X7.here hx rfl (hb hby d22_38) rfl (l' := #[.val (.ref ar), .val (.int (2 : Int32)), .val (.ref bt), .val (.int (2 : Int32)), .val (.int (2 : Int32)), .val (.int ((1 : Int32) + (1 : Int32))), .val (.int c1)]) rfl ?_
    show Steps p.tables e below (T7.setTop (mkF m 41 #[.val (.ref ar), .val (.int (2 : Int32)), .val (.ref bt), .val (.int (2 : Int32)), .val (.int (2 : Int32)), .val (.int ((1 : Int32) + (1 : Int32))), .val (.int c1)] [])) _
    rw [show (((1 : Int32) + (1 : Int32)) : Int32) = (2 : Int32) from by decide]
    refine XS.goto X7.here hx rfl (pc0 := 41) (pc' := 3) rfl (hb hby d22_41) (by decide) (by decide) ?_
    refine XS.iload X7.here hx rfl (hb hby d22_3) rfl ?_
    refine XS.iload X7.here hx rfl (hb hby d22_5) rfl ?_
    refine XS.icmpYes X7.here hx rfl (pc0 := 7) (pc' := 44) rfl (hb hby d22_7) rfl (flt (show ¬ ((2 : Int32) < (2 : Int32)) from (by decide))).2.1 (by decide) (by decide) ?_
    refine XS.iload X7.here hx rfl (hb hby d22_44) rfl ?_
    show Steps p.tables e below (T7.setTop (mkF m 46 #[.val (.ref ar), .val (.int (2 : Int32)), .val (.ref bt), .val (.int (2 : Int32)), .val (.int (2 : Int32)), .val (.int (2 : Int32)), .val (.int c1)] [(.int (2 : Int32))])) _
    exact retI X7 hx Bd.returns (hb hby d22_46) hr
  · show Qcmq2 Z ar bt kb f c0 c1 h0 n0 _ T7.heap _
    rw [e7]
    exact ⟨rfl, N7, kp8, Vw7⟩
def Qcmp2 (Z : State) (ar : Addr) (f : Nat → Value) (c0 : Int32) (c1 : Int32) (h0 : Heap) (n0 : Nat) (v : Option Value) (h : Heap) (L : List Loc) : Prop := ∃ b : Addr, ∃ kb : ClassId, v = some (.ref b) ∧ Fr n0 L ∧ Keep h0 h [] ∧ Arv Z h b kb .byte (2 : Int32) [(.int (nar .byte (c0.toInt8.toInt32))), (.int (nar .byte (c1.toInt8.toInt32)))] (.int 0) ∧ h0.size ≤ b ∧ n0 ≤ b
abbrev Rm_cmp2 : Room := { frames := 1, cells := 1, slots := 2, locals := 18 }
set_option maxRecDepth 65536 in
set_option maxHeartbeats 40000000 in
theorem cmp2 (l : Launch) (Z : State) (a0 : Array Value) (hw : ∀ d ∈ tables_1, d.before a0 Z = true) (ws : List Jvm.Cond) (ar : Addr) (f : Nat → Value) (c0 : Int32) (c1 : Int32) (h0 : Heap) (n0 : Nat) (Z0 : n0 ≤ h0.size) (A_ar : Av Z h0 ar .char 64 f) (hf0 : f 0 = (.int c0)) (hf1 : f 1 = (.int c1)) (hl0 : Lat c0) (hl1 : Lat c1) :
    MetFree l my17 (head1 (Jvm.Cond.code my17 jdk_52_method_16_code 6 (some (.array .byte)) :: ws) Rm_cmp2) (fun aa_ U => aa_ = #[(.ref ar), (.int (0 : Int32)), (.int (2 : Int32))] ∧ Z.Warmed39 U.vm ∧ U.heap = h0) (fun _ _ _ _ _ => True) (fun _ U oo_ U' => ∃ v L, oo_ = .returned v ∧ Qcmp2 Z ar f c0 c1 h0 n0 v U'.heap L ∧ FrameEnd U oo_ U' L Rm_cmp2.cells Rm_cmp2.slots) := by
  refine MetFree.of_bodySF (plainFor_of_name pn_6) hisR ?_
  intro p e s m args below meth c s₁ Bd hml0 hP hK
  obtain ⟨rfl, hZ, hh⟩ := hP
  have hx := Bd.exec
  have hby := Bd.bytes
  have hml : c.maxLocals = 6 := hml0
  have hown : s.vm.findClass "java/lang/StringUTF16" = some m.cls := findClass_of_methodNamed Bd.named
  have hnm := (name_of_methodNamed Bd.named Bd.method).1
  have X0 : Stand p l e Rm_cmp2 s m #[(.ref ar), (.int (0 : Int32)), (.int (2 : Int32))] below meth c s₁ [] 0 0 := Stand.of_body Bd
  have e0 : s₁.heap = h0 := by rw [← hh, Bd.state]; rfl
  have N0 := Fr.nil n0
  have pre0 : ∀ tt_, Steps p.tables e below (s₁.setTop (mkF m 0 #[.val (.ref ar), .val (.int (0 : Int32)), .val (.int (2 : Int32)), .unset, .unset, .unset] [])) tt_ → Steps p.tables e below (s₁.setTop (entryFrame m #[(.ref ar), (.int (0 : Int32)), (.int (2 : Int32))] 6)) tt_ := fun tt_ kk_ => castTop (ef_21 m ar (0 : Int32) (2 : Int32)) kk_
  obtain ⟨T1, h1, k1, X1, e1, E1, A1, st1⟩ := newP (aty := .byte) X0 hx hZ (hwd89 hw) e0 (g := (mkF m 1 #[.val (.ref ar), .val (.int (0 : Int32)), .val (.int (2 : Int32)), .unset, .unset, .unset] [(.int (2 : Int32))])) rfl (hb hby d21_1) rfl (by decide) (cap := 2) (by decide) (by decide) (by decide) (by decide)
  obtain ⟨b1, g1⟩ : ∃ zz_, zz_ = h0.size := ⟨_, rfl⟩
  rw [← g1] at A1 st1
  have ne_ar_b1 : ar ≠ b1 := Nat.ne_of_lt (Nat.lt_of_lt_of_le A_ar.lt (Nat.le_of_eq g1.symm))
  have g_b1 : n0 ≤ b1 := Nat.le_trans Z0 (Nat.le_of_eq g1.symm)
  have sz_b1 : h0.size ≤ b1 := Nat.le_trans (Keep.refl h0 []).1 (Nat.le_of_eq g1.symm)
  have V_b1 : Arv Z h1 b1 k1 .byte (2 : Int32) [(.int (0 : Int32)), (.int (0 : Int32))] (.int (0 : Int32)) := (Arv.new A1 (by decide)).pad (pad_rep [] (.int (0 : Int32)) 2)
  have f3_A_ar := (A_ar.ext E1)
  have sz4 : n0 ≤ h1.size := (Nat.le_trans Z0 E1.1)
  obtain ⟨_, _, ⟨T2, L2, k2, n2⟩, -, X2, ⟨Lc2, hQ2, l2, y2, z2⟩, st2⟩ := Jvm.LawKit.callS X1 hx (y := my16) hown (mvT hZ (hwd118 hw)) (mvT hZ (hwd119 hw)) (mvT hZ (hwd116 hw)) (mvT hZ (hwd120 hw)) (by decide) (backOf (W := 0) (cmq2 l Z a0 hw [] ar b1 k1 f c0 c1 h1 n0 sz4 f3_A_ar hf0 hf1 hl0 hl1 V_b1 g_b1 ne_ar_b1) hZ (hwd120 hw) (hwd116 hw) (by decide) (by decide)) (g := (mkF m 9 #[.val (.ref ar), .val (.int (0 : Int32)), .val (.int (2 : Int32)), .val (.ref b1), .unset, .unset] [(.int (2 : Int32)), (.int (0 : Int32)), (.ref b1), (.int (0 : Int32)), (.ref ar)])) rfl (by rw [hml]; rfl) (argsL := [(.ref ar), (.int (0 : Int32)), (.ref b1), (.int (0 : Int32)), (.int (2 : Int32))]) (rest := []) (lenOf pd_8 rfl) rfl (by show 2 * 0 + _ ≤ _; exact Nat.le_of_eq rfl) (hb hby d21_9) (fun _ _ => ⟨rfl, e1, (by decide : 1 + 0 ≤ _), (by decide : 2 + 0 ≤ _)⟩)
  dsimp only [Pt.U, Pt.locs, Pt.cells, Pt.slots] at X2 l2 y2 z2 st2 hQ2
  subst l2 y2 z2
  obtain ⟨rfl, N2q, K2, p2_1⟩ := hQ2
  have N2 := Fr.app N0 N2q
  have kp5 : Keep h0 T2.heap [] := (((Keep.refl h0 []).ext E1).trans K2 (allS (Or.inr sz_b1) all0))
  obtain ⟨fs, hr, hrun, hended, hW, hsame⟩ := X2.leave (v := some (.ref b1)) (fun h => by rw [Bd.returns] at h; cases h)
  refine ⟨_, _, pre0 _ ?_, hrun, hended, _, _, rfl, ?_, ⟨_, rfl⟩, hW, hsame.mono (by decide) (by decide)⟩
  · show Steps p.tables e below (s₁.setTop (mkF m 0 #[.val (.ref ar), .val (.int (0 : Int32)), .val (.int (2 : Int32)), .unset, .unset, .unset] [])) _
    refine XS.iloadN X0.here hx rfl (hb hby d21_0) rfl ?_
    refine st1 _ ?_
    refine XS.astoreN X1.here hx rfl (hb hby d21_3) rfl rfl (l' := #[.val (.ref ar), .val (.int (0 : Int32)), .val (.int (2 : Int32)), .val (.ref b1), .unset, .unset]) rfl ?_
    refine XS.aloadN X1.here hx rfl (hb hby d21_4) rfl rfl ?_
    refine XS.iloadN X1.here hx rfl (hb hby d21_5) rfl ?_
    refine XS.aloadN X1.here hx rfl (hb hby d21_6) rfl rfl ?_
    show Steps p.tables e below (T1.setTop (mkF m 7 #[.val (.ref ar), .val (.int (0 : Int32)), .val (.int (2 : Int32)), .val (.ref b1), .unset, .unset] [(.ref b1), (.int (0 : Int32)), (.ref ar)])) _
    refine XS.iconst X1.here hx rfl (hb hby d21_7) ?_
    refine XS.iloadN X1.here hx rfl (hb hby d21_8) rfl ?_
    refine st2 _ ?_
    refine XS.istore X2.here hx rfl (hb hby d21_12) rfl (l' := #[.val (.ref ar), .val (.int (0 : Int32)), .val (.int (2 : Int32)), .val (.ref b1), .val (.int (2 : Int32)), .unset]) rfl ?_
    refine XS.iload X2.here hx rfl (hb hby d21_14) rfl ?_
    refine XS.iloadN X2.here hx rfl (hb hby d21_16) rfl ?_
    show Steps p.tables e below (T2.setTop (mkF m 17 #[.val (.ref ar), .val (.int (0 : Int32)), .val (.int (2 : Int32)), .val (.ref b1), .val (.int (2 : Int32)), .unset] [(.int (2 : Int32)), (.int (2 : Int32))])) _
    refine XS.icmpYes X2.here hx rfl (pc0 := 17) (pc' := 57) rfl (hb hby d21_17) rfl (teq (show (2 : Int32) = (2 : Int32) from rfl)).1 (by decide) (by decide) ?_
    refine XS.aloadN X2.here hx rfl (hb hby d21_57) rfl rfl ?_
    jvm_step X2.here [X2.here.top, hx, (hb hby d21_58), X2.method', Bd.returns, Value.isRef, FieldType.isReference]
    first | (intro acts; rw [hr _ acts rfl rfl rfl]) | rw [hr _ _ rfl rfl rfl]
    exact Steps.refl _
  · show Qcmp2 Z ar f c0 c1 h0 n0 _ T2.heap _
    exact ⟨b1, k1, rfl, N2, kp5, p2_1, sz_b1, g_b1⟩
def Qcfa2 (Z : State) (bt : Addr) (kb : ClassId) (c0 : Int32) (c1 : Int32) (h0 : Heap) (n0 : Nat) (v : Option Value) (h : Heap) (L : List Loc) : Prop := v = some (.int (0 : Int32)) ∧ Fr n0 L ∧ h = h0
abbrev Rm_cfa2 : Room := { frames := 0, cells := 0, slots := 0, locals := 0 }
set_option maxRecDepth 65536 in
set_option maxHeartbeats 40000000 in
theorem cfa2 (l : Launch) (Z : State) (a0 : Array Value) (hw : ∀ d ∈ tables_1, d.before a0 Z = true) (ws : List Jvm.Cond) (bt : Addr) (kb : ClassId) (c0 : Int32) (c1 : Int32) (h0 : Heap) (n0 : Nat) (Z0 : n0 ≤ h0.size) (V_bt : Arv Z h0 bt kb .byte (2 : Int32) [(.int (nar .byte (c0.toInt8.toInt32))), (.int (nar .byte (c1.toInt8.toInt32)))] (.int 0)) :
    MetFree l my18 (head1 (Jvm.Cond.code my18 jdk_52_method_15_code 2 (some .byte) :: ws) Rm_cfa2) (fun aa_ U => aa_ = #[(.ref bt), (.int (2 : Int32))] ∧ Z.Warmed39 U.vm ∧ U.heap = h0) (fun _ _ _ _ _ => True) (fun _ U oo_ U' => ∃ v L, oo_ = .returned v ∧ Qcfa2 Z bt kb c0 c1 h0 n0 v U'.heap L ∧ FrameEnd U oo_ U' L Rm_cfa2.cells Rm_cfa2.slots) := by
  refine MetFree.of_bodySF (plainFor_of_name pn_6) hisR ?_
  intro p e s m args below meth c s₁ Bd hml0 hP hK
  obtain ⟨rfl, hZ, hh⟩ := hP
  have hx := Bd.exec
  have hby := Bd.bytes
  have hml : c.maxLocals = 2 := hml0
  have hown : s.vm.findClass "java/lang/StringUTF16" = some m.cls := findClass_of_methodNamed Bd.named
  have hnm := (name_of_methodNamed Bd.named Bd.method).1
  have X0 : Stand p l e Rm_cfa2 s m #[(.ref bt), (.int (2 : Int32))] below meth c s₁ [] 0 0 := Stand.of_body Bd
  have e0 : s₁.heap = h0 := by rw [← hh, Bd.state]; rfl
  have N0 := Fr.nil n0
  have pre0 : ∀ tt_, Steps p.tables e below (s₁.setTop (mkF m 0 #[.val (.ref bt), .val (.int (2 : Int32))] [])) tt_ → Steps p.tables e below (s₁.setTop (entryFrame m #[(.ref bt), (.int (2 : Int32))] 2)) tt_ := fun tt_ kk_ => castTop (ef_23 m bt (2 : Int32)) kk_
  obtain ⟨cl1, Ar1, -, S1, M1, -, -⟩ := id V_bt
  obtain ⟨fs, hr, hrun, hended, hW, hsame⟩ := X0.leave (v := some (.int (nar .byte ((((0 : Int32).toUInt32 >>> ((31 : Int32) &&& 31).toUInt32).toInt32).toInt8.toInt32)))) (fun h => by rw [Bd.returns] at h; cases h)
  refine ⟨_, _, pre0 _ ?_, hrun, hended, _, _, rfl, ?_, ⟨_, rfl⟩, hW, hsame.mono (by decide) (by decide)⟩
  · show Steps p.tables e below (s₁.setTop (mkF m 0 #[.val (.ref bt), .val (.int (2 : Int32))] [])) _
    refine XS.iloadN X0.here hx rfl (hb hby d23_0) rfl ?_
    refine XS.aloadN X0.here hx rfl (hb hby d23_1) rfl rfl ?_
    refine X0.arraylength hx (by rw [e0]; exact Ar1.1) (State.isArrayOf_alike hZ.alike Ar1.2.1) (g := (mkF m 2 #[.val (.ref bt), .val (.int (2 : Int32))] [(.ref bt), (.int (2 : Int32))])) rfl rfl (hb hby d23_2) _ ?_
    rw [len_of S1 M1]
    refine XS.isub X0.here hx rfl (hb hby d23_3) rfl ?_
    show Steps p.tables e below (s₁.setTop (mkF m 4 #[.val (.ref bt), .val (.int (2 : Int32))] [(.int ((2 : Int32) - (2 : Int32)))])) _
    rw [show (((2 : Int32) - (2 : Int32)) : Int32) = (0 : Int32) from by decide]
    refine XS.bipush X0.here hx rfl (hb hby d23_4) ?_
    show Steps p.tables e below (s₁.setTop (mkF m 6 #[.val (.ref bt), .val (.int (2 : Int32))] [(.int (31 : Int32)), (.int (0 : Int32))])) _
    refine XS.iushr X0.here hx rfl (hb hby d23_6) rfl ?_
    refine XS.i2b X0.here hx rfl (hb hby d23_7) rfl ?_
    exact retN X0 hx (t := .byte) Bd.returns (by simp) (hb hby d23_8) hr
  · show Qcfa2 Z bt kb c0 c1 h0 n0 _ s₁.heap _
    rw [e0]
    exact ⟨congrArg (fun z => some (Value.int z)) (by decide), N0, rfl⟩
def Qsv2 (Z : State) (a : Addr) (ar : Addr) (f : Nat → Value) (cz : Int32) (c0 : Int32) (c1 : Int32) (h0 : Heap) (n0 : Nat) (v : Option Value) (h : Heap) (L : List Loc) : Prop := ∃ b : Addr, ∃ kb : ClassId, v = none ∧ Fr n0 L ∧ Keep h0 h [a] ∧ Exa Z h a "java/lang/String" ∧ Fld Z h a "java/lang/String" "value" "[B" (.ref b) ∧ Fld Z h a "java/lang/String" "coder" "B" (.int (0 : Int32)) ∧ Arv Z h b kb .byte (2 : Int32) [(.int (nar .byte (c0.toInt8.toInt32))), (.int (nar .byte (c1.toInt8.toInt32)))] (.int 0) ∧ h0.size ≤ b
abbrev Rm_sv2 : Room := { frames := 2, cells := 1, slots := 2, locals := 35 }
set_option maxRecDepth 65536 in
set_option maxHeartbeats 40000000 in
theorem sv2 (l : Launch) (Z : State) (a0 : Array Value) (hw : ∀ d ∈ tables_1, d.before a0 Z = true) (ws : List Jvm.Cond) (a : Addr) (ar : Addr) (f : Nat → Value) (cz : Int32) (c0 : Int32) (c1 : Int32) (h0 : Heap) (n0 : Nat) (Z0 : n0 ≤ h0.size) (E_a : Exa Z h0 a "java/lang/String") (F_value_a : Fld Z h0 a "java/lang/String" "value" "[B" .null) (F_coder_a : Fld Z h0 a "java/lang/String" "coder" "B" (.int (0 : Int32))) (A_ar : Av Z h0 ar .char 64 f) (hf0 : f 0 = (.int c0)) (hf1 : f 1 = (.int c1)) (hl0 : Lat c0) (hl1 : Lat c1) (g_a : n0 ≤ a) (ne_a_ar : a ≠ ar) (O_C : Sta Z Z.heap "java/lang/String" "COMPACT_STRINGS" "Z" (.int cz)) (hcz : ¬ (cz = (0 : Int32))) (X00 : Old Z n0 h0) :
    MetFree l my14 (head1 (Jvm.Cond.code my14 jdk_42_method_149_code 6 none :: ws) Rm_sv2) (fun aa_ U => aa_ = #[(.ref a), (.ref ar), (.int (0 : Int32)), (.int (2 : Int32)), .null] ∧ Z.Warmed39 U.vm ∧ U.heap = h0) (fun _ _ _ _ _ => True) (fun _ U oo_ U' => ∃ v L, oo_ = .returned v ∧ Qsv2 Z a ar f cz c0 c1 h0 n0 v U'.heap L ∧ FrameEnd U oo_ U' L Rm_sv2.cells Rm_sv2.slots) := by
  refine MetFree.of_bodySF (plainFor_of_name pn_5) hisR ?_
  intro p e s m args below meth c s₁ Bd hml0 hP hK
  obtain ⟨rfl, hZ, hh⟩ := hP
  have hx := Bd.exec
  have hby := Bd.bytes
  have hml : c.maxLocals = 6 := hml0
  have hown : s.vm.findClass "java/lang/String" = some m.cls := findClass_of_methodNamed Bd.named
  have hnm := (name_of_methodNamed Bd.named Bd.method).1
  have X0 : Stand p l e Rm_sv2 s m #[(.ref a), (.ref ar), (.int (0 : Int32)), (.int (2 : Int32)), .null] below meth c s₁ [] 0 0 := Stand.of_body Bd
  have e0 : s₁.heap = h0 := by rw [← hh, Bd.state]; rfl
  have N0 := Fr.nil n0
  have pre0 : ∀ tt_, Steps p.tables e below (s₁.setTop (mkF m 0 #[.val (.ref a), .val (.ref ar), .val (.int (0 : Int32)), .val (.int (2 : Int32)), .val .null, .unset] [])) tt_ → Steps p.tables e below (s₁.setTop (entryFrame m #[(.ref a), (.ref ar), (.int (0 : Int32)), (.int (2 : Int32)), .null] 6)) tt_ := fun tt_ kk_ => castTop (ef_16n4 m a ar (0 : Int32) (2 : Int32)) kk_
  obtain ⟨T1, X1, e1, st1⟩ := initO X0 hx hZ hown (hwd87 hw) (hwd14 hw) (hwd15 hw) e0 (g := (mkF m 1 #[.val (.ref a), .val (.ref ar), .val (.int (0 : Int32)), .val (.int (2 : Int32)), .val .null, .unset] [(.ref a)])) rfl (by rw [hml]; rfl) rfl (hb hby d16_1) (by decide) (W := 0) (by show 2 * 0 + _ ≤ _; exact Nat.le_of_eq rfl) (by decide)
  obtain ⟨T2, X2, e2, st2⟩ := getS2 X1 hx hZ hown (host := "") (Or.inl (hwd113 hw)) Via.refl e1 (O_C.ext X00.2) (g := (mkF m 27 #[.val (.ref a), .val (.ref ar), .val (.int (0 : Int32)), .val (.int (2 : Int32)), .val .null, .unset] [])) rfl (hb hby d16_27)
  obtain ⟨_, _, ⟨T3, L3, k3, n3⟩, -, X3, ⟨Lc3, hQ3, l3, y3, z3⟩, st3⟩ := Jvm.LawKit.callS X2 hx (y := my17) hown (mvT hZ (hwd114 hw)) (mvT hZ (hwd115 hw)) (mvT hZ (hwd116 hw)) (mvT hZ (hwd117 hw)) (by decide) (backOf (W := 0) (cmp2 l Z a0 hw [] ar f c0 c1 h0 n0 Z0 A_ar hf0 hf1 hl0 hl1) hZ (hwd117 hw) (hwd116 hw) (by decide) (by decide)) (g := (mkF m 36 #[.val (.ref a), .val (.ref ar), .val (.int (0 : Int32)), .val (.int (2 : Int32)), .val .null, .unset] [(.int (2 : Int32)), (.int (0 : Int32)), (.ref ar)])) rfl (by rw [hml]; rfl) (argsL := [(.ref ar), (.int (0 : Int32)), (.int (2 : Int32))]) (rest := []) (lenOf pd_9 rfl) rfl (by show 2 * 0 + _ ≤ _; exact Nat.le_of_eq rfl) (hb hby d16_36) (fun _ _ => ⟨rfl, e2, (by decide : 0 + 1 ≤ _), (by decide : 0 + 2 ≤ _)⟩)
  dsimp only [Pt.U, Pt.locs, Pt.cells, Pt.slots] at X3 l3 y3 z3 st3 hQ3
  subst l3 y3 z3
  obtain ⟨b_e3, kb_e3, rfl, N3q, K3, p3_1, sz_b_3, g_b_3⟩ := hQ3
  have N3 := Fr.app N0 N3q
  have sz5 : n0 ≤ T3.heap.size := (Nat.le_trans Z0 K3.1)
  obtain ⟨_, _, ⟨T4, L4, k4, n4⟩, -, X4, ⟨Lc4, hQ4, l4, y4, z4⟩, st4⟩ := Jvm.LawKit.callS X3 hx (y := my18) hown (mvT hZ (hwd121 hw)) (mvT hZ (hwd122 hw)) (mvT hZ (hwd116 hw)) (mvT hZ (hwd123 hw)) (by decide) (backOf (W := 1) (cfa2 l Z a0 hw [] b_e3 kb_e3 c0 c1 (T3.heap) n0 sz5 p3_1) hZ (hwd123 hw) (hwd116 hw) (by decide) (by decide)) (g := (mkF m 45 #[.val (.ref a), .val (.ref ar), .val (.int (0 : Int32)), .val (.int (2 : Int32)), .val .null, .val (.ref b_e3)] [(.int (2 : Int32)), (.ref b_e3), (.ref a)])) rfl (by rw [hml]; rfl) (argsL := [(.ref b_e3), (.int (2 : Int32))]) (rest := [(.ref a)]) (lenOf pd_10 rfl) rfl (by show 2 * 0 + _ ≤ _; exact Nat.le_of_eq rfl) (hb hby d16_45) (fun _ _ => ⟨rfl, rfl, (by decide : 1 + 0 ≤ _), (by decide : 2 + 0 ≤ _)⟩)
  dsimp only [Pt.U, Pt.locs, Pt.cells, Pt.slots] at X4 l4 y4 z4 st4 hQ4
  subst l4 y4 z4
  obtain ⟨rfl, N4q, e4q⟩ := hQ4
  have N4 := Fr.app N3 N4q
  have f6_E_a := (E_a.keep K3)
  have f7_F_a_coder := (F_coder_a.keep K3 nin0)
  obtain ⟨T8, h8, X8, e8, W8, st8⟩ := putFN X4 hx hZ hown (hwd95 hw) Via.refl e4q f7_F_a_coder f6_E_a (Or.inr ⟨(hwd91 hw), rfl, hnm⟩) (hwd63 hw) (ty := .byte) (v' := (.int (0 : Int32))) (by decide) rfl (by first | exact fits_nar_byte _ | rfl) (g := (mkF m 48 #[.val (.ref a), .val (.ref ar), .val (.int (0 : Int32)), .val (.int (2 : Int32)), .val .null, .val (.ref b_e3)] [(.int (0 : Int32)), (.ref a)])) rfl rfl (hb hby d16_48)
  have N8 := Fr.snoc X8 N4 g_a
  have Fw8 := f7_F_a_coder.same W8
  have f9_E_a := (f6_E_a.wr W8)
  have f10_F_a_value := ((F_value_a.keep K3 nin0).other W8 (Or.inr (slot_ne (Or.inr (hwd90 hw)) (Or.inr (hwd91 hw)) (by decide) (t := (.array .byte)) (t' := .byte) (by decide) (by decide))))
  obtain ⟨T11, h11, X11, e11, W11, st11⟩ := putF X8 hx hZ hown (host := "") (Or.inl (hwd94 hw)) Via.refl e8 f10_F_a_value f9_E_a (Or.inr ⟨(hwd90 hw), rfl, hnm⟩) (hwd63 hw) (ty := (.array .byte)) (by decide) rfl rfl (g := (mkF m 54 #[.val (.ref a), .val (.ref ar), .val (.int (0 : Int32)), .val (.int (2 : Int32)), .val .null, .val (.ref b_e3)] [(.ref b_e3), (.ref a)])) rfl rfl (hb hby d16_54)
  have N11 := Fr.snoc X11 N8 g_a
  have Fw11 := f10_F_a_value.same W11
  have kp12 : Keep h0 h11 [a] := ((((Keep.refl h0 [a]).trans K3 all0).wr W8 (Or.inl (List.mem_of_getElem? (i := 0) rfl))).wr W11 (Or.inl (List.mem_of_getElem? (i := 0) rfl)))
  have f13_E_a := (f9_E_a.wr W11)
  have f14_F_a_coder := (Fw8.other W11 (Or.inr (slot_ne (Or.inr (hwd91 hw)) (Or.inr (hwd90 hw)) (by decide) (t := .byte) (t' := (.array .byte)) (by decide) (by decide))))
  have ne15_q : a ≠ b_e3 := Nat.ne_of_lt (Nat.lt_of_lt_of_le E_a.lt (Nat.le_trans (Keep.refl h0 [a]).1 sz_b_3))
  have f16_V_b_e3 := ((p3_1.other W8 (Ne.symm ne15_q)).other W11 (Ne.symm ne15_q))
  obtain ⟨fs, hr, hrun, hended, hW, hsame⟩ := X11.leave (v := none) (fun _ => rfl)
  refine ⟨_, _, pre0 _ ?_, hrun, hended, _, _, rfl, ?_, ⟨_, rfl⟩, hW, hsame.mono (by decide) (by decide)⟩
  · show Steps p.tables e below (s₁.setTop (mkF m 0 #[.val (.ref a), .val (.ref ar), .val (.int (0 : Int32)), .val (.int (2 : Int32)), .val .null, .unset] [])) _
    refine XS.aloadN X0.here hx rfl (hb hby d16_0) rfl rfl ?_
    refine st1 _ ?_
    refine XS.iloadN X1.here hx rfl (hb hby d16_4) rfl ?_
    refine XS.ifYes X1.here hx rfl (pc0 := 5) (pc' := 27) rfl (hb hby d16_5) rfl ((if0 _ _).trans (feq (show ¬ ((2 : Int32) = (0 : Int32)) from (by decide))).2) (by decide) (by decide) ?_
    refine st2 _ ?_
    refine XS.ifNo X2.here hx rfl (hb hby d16_30) rfl ((if0 _ _).trans (feq (show ¬ (cz = (0 : Int32)) from hcz)).1) ?_
    show Steps p.tables e below (T2.setTop (mkF m 33 #[.val (.ref a), .val (.ref ar), .val (.int (0 : Int32)), .val (.int (2 : Int32)), .val .null, .unset] [])) _
    refine XS.aloadN X2.here hx rfl (hb hby d16_33) rfl rfl ?_
    refine XS.iloadN X2.here hx rfl (hb hby d16_34) rfl ?_
    refine XS.iloadN X2.here hx rfl (hb hby d16_35) rfl ?_
    refine st3 _ ?_
    refine XS.astore X3.here hx rfl (hb hby d16_39) rfl rfl (l' := #[.val (.ref a), .val (.ref ar), .val (.int (0 : Int32)), .val (.int (2 : Int32)), .val .null, .val (.ref b_e3)]) rfl ?_
    refine XS.aloadN X3.here hx rfl (hb hby d16_41) rfl rfl ?_
    show Steps p.tables e below (T3.setTop (mkF m 42 #[.val (.ref a), .val (.ref ar), .val (.int (0 : Int32)), .val (.int (2 : Int32)), .val .null, .val (.ref b_e3)] [(.ref a)])) _
    refine XS.aload X3.here hx rfl (hb hby d16_42) rfl rfl ?_
    refine XS.iloadN X3.here hx rfl (hb hby d16_44) rfl ?_
    refine st4 _ ?_
    refine st8 _ ?_
    refine XS.aloadN X8.here hx rfl (hb hby d16_51) rfl rfl ?_
    refine XS.aload X8.here hx rfl (hb hby d16_52) rfl rfl ?_
    show Steps p.tables e below (T8.setTop (mkF m 54 #[.val (.ref a), .val (.ref ar), .val (.int (0 : Int32)), .val (.int (2 : Int32)), .val .null, .val (.ref b_e3)] [(.ref b_e3), (.ref a)])) _
    refine st11 _ ?_
    exact X11.returnOut hx Bd.returns (hb hby d16_57) hr
  · show Qsv2 Z a ar f cz c0 c1 h0 n0 _ T11.heap _
    rw [e11]
    exact ⟨b_e3, kb_e3, rfl, N11, kp12, f13_E_a, Fw11, f14_F_a_coder, f16_V_b_e3, (Nat.le_trans (Keep.refl h0 [a]).1 sz_b_3)⟩
def Qsc2 (Z : State) (a : Addr) (ar : Addr) (f : Nat → Value) (cz : Int32) (sf : Value) (c0 : Int32) (c1 : Int32) (h0 : Heap) (n0 : Nat) (v : Option Value) (h : Heap) (L : List Loc) : Prop := ∃ b : Addr, ∃ kb : ClassId, v = none ∧ Fr n0 L ∧ Keep h0 h [a] ∧ Exa Z h a "java/lang/String" ∧ Fld Z h a "java/lang/String" "value" "[B" (.ref b) ∧ Fld Z h a "java/lang/String" "coder" "B" (.int (0 : Int32)) ∧ Arv Z h b kb .byte (2 : Int32) [(.int (nar .byte (c0.toInt8.toInt32))), (.int (nar .byte (c1.toInt8.toInt32)))] (.int 0) ∧ h0.size ≤ b
abbrev Rm_sc2 : Room := { frames := 3, cells := 1, slots := 2, locals := 52 }
set_option maxRecDepth 65536 in
set_option maxHeartbeats 40000000 in
theorem sc2 (l : Launch) (Z : State) (a0 : Array Value) (hw : ∀ d ∈ tables_1, d.before a0 Z = true) (ws : List Jvm.Cond) (a : Addr) (ar : Addr) (f : Nat → Value) (cz : Int32) (sf : Value) (c0 : Int32) (c1 : Int32) (h0 : Heap) (n0 : Nat) (Z0 : n0 ≤ h0.size) (E_a : Exa Z h0 a "java/lang/String") (F_value_a : Fld Z h0 a "java/lang/String" "value" "[B" .null) (F_coder_a : Fld Z h0 a "java/lang/String" "coder" "B" (.int (0 : Int32))) (A_ar : Av Z h0 ar .char 64 f) (hf0 : f 0 = (.int c0)) (hf1 : f 1 = (.int c1)) (hl0 : Lat c0) (hl1 : Lat c1) (g_a : n0 ≤ a) (ne_a_ar : a ≠ ar) (O_C : Sta Z Z.heap "java/lang/String" "COMPACT_STRINGS" "Z" (.int cz)) (hcz : ¬ (cz = (0 : Int32))) (X00 : Old Z n0 h0) (O_S : Sta Z Z.heap "jdk/internal/util/Preconditions" "SIOOBE_FORMATTER" "Ljava/util/function/BiFunction;" sf) (hsf : sf.isRef = true) :
    MetFree l my15 (head1 (Jvm.Cond.code my15 jdk_42_method_4_code 4 none :: ws) Rm_sc2) (fun aa_ U => aa_ = #[(.ref a), (.ref ar), (.int (0 : Int32)), (.int (2 : Int32))] ∧ Z.Warmed39 U.vm ∧ U.heap = h0) (fun _ _ _ _ _ => True) (fun _ U oo_ U' => ∃ v L, oo_ = .returned v ∧ Qsc2 Z a ar f cz sf c0 c1 h0 n0 v U'.heap L ∧ FrameEnd U oo_ U' L Rm_sc2.cells Rm_sc2.slots) := by
  refine MetFree.of_bodySF (plainFor_of_name pn_5) hisR ?_
  intro p e s m args below meth c s₁ Bd hml0 hP hK
  obtain ⟨rfl, hZ, hh⟩ := hP
  have hx := Bd.exec
  have hby := Bd.bytes
  have hml : c.maxLocals = 4 := hml0
  have hown : s.vm.findClass "java/lang/String" = some m.cls := findClass_of_methodNamed Bd.named
  have hnm := (name_of_methodNamed Bd.named Bd.method).1
  have X0 : Stand p l e Rm_sc2 s m #[(.ref a), (.ref ar), (.int (0 : Int32)), (.int (2 : Int32))] below meth c s₁ [] 0 0 := Stand.of_body Bd
  have e0 : s₁.heap = h0 := by rw [← hh, Bd.state]; rfl
  have N0 := Fr.nil n0
  have pre0 : ∀ tt_, Steps p.tables e below (s₁.setTop (mkF m 0 #[.val (.ref a), .val (.ref ar), .val (.int (0 : Int32)), .val (.int (2 : Int32))] [])) tt_ → Steps p.tables e below (s₁.setTop (entryFrame m #[(.ref a), (.ref ar), (.int (0 : Int32)), (.int (2 : Int32))] 4)) tt_ := fun tt_ kk_ => castTop (ef_12 m a ar (0 : Int32) (2 : Int32)) kk_
  obtain ⟨_, _, ⟨T1, L1, k1, n1⟩, -, X1, ⟨Lc1, hQ1, l1, y1, z1⟩, st1⟩ := Jvm.LawKit.callS X0 hx (y := my13) hown (mvT hZ (hwd72 hw)) (mvT hZ (hwd73 hw)) (mvT hZ (hwd64 hw)) (mvT hZ (hwd74 hw)) (by decide) (backOf (W := 4) (rc2 l Z a0 hw [] ar f sf h0 n0 Z0 A_ar O_S hsf X00) hZ (hwd74 hw) (hwd64 hw) (by decide) (by decide)) (g := (mkF m 7 #[.val (.ref a), .val (.ref ar), .val (.int (0 : Int32)), .val (.int (2 : Int32))] [(.int (2 : Int32)), (.int (0 : Int32)), (.ref ar), (.int (2 : Int32)), (.int (0 : Int32)), (.ref ar), (.ref a)])) rfl (by rw [hml]; rfl) (argsL := [(.ref ar), (.int (0 : Int32)), (.int (2 : Int32))]) (rest := [(.int (2 : Int32)), (.int (0 : Int32)), (.ref ar), (.ref a)]) (lenOf pd_6 rfl) rfl (by show 2 * 0 + _ ≤ _; exact Nat.le_of_eq rfl) (hb hby d12_7) (fun _ _ => ⟨rfl, e0, (by decide : 0 + 0 ≤ _), (by decide : 0 + 0 ≤ _)⟩)
  dsimp only [Pt.U, Pt.locs, Pt.cells, Pt.slots] at X1 l1 y1 z1 st1 hQ1
  subst l1 y1 z1
  obtain ⟨rfl, N1q, e1q⟩ := hQ1
  have N1 := Fr.app N0 N1q
  obtain ⟨_, _, ⟨T2, L2, k2, n2⟩, -, X2, ⟨Lc2, hQ2, l2, y2, z2⟩, st2⟩ := X1.specialBack hx (y := my14) rfl hown (mvT hZ (hwd83 hw)) (mvT hZ (hwd84 hw)) (mvT hZ (hwd86 hw)) (by decide) (backOf (W := 0) (sv2 l Z a0 hw [] a ar f cz c0 c1 h0 n0 Z0 E_a F_value_a F_coder_a A_ar hf0 hf1 hl0 hl1 g_a ne_a_ar O_C hcz X00) hZ (hwd86 hw) (hwd64 hw) (by decide) (by decide)) (g := (mkF m 10 #[.val (.ref a), .val (.ref ar), .val (.int (0 : Int32)), .val (.int (2 : Int32))] [.null, (.int (2 : Int32)), (.int (0 : Int32)), (.ref ar), (.ref a)])) rfl (by rw [hml]; rfl) (Steps.refl _) (a := a) (argsL := [(.ref ar), (.int (0 : Int32)), (.int (2 : Int32)), .null]) (rest := []) (lenOf pd_7 rfl) rfl (by show 2 * 0 + _ ≤ _; exact Nat.le_of_eq rfl) (hb hby d12_10) (fun _ _ => ⟨rfl, e1q, (by decide : 0 + 1 ≤ _), (by decide : 0 + 2 ≤ _)⟩)
  dsimp only [Pt.U, Pt.locs, Pt.cells, Pt.slots] at X2 l2 y2 z2 st2 hQ2
  subst l2 y2 z2
  obtain ⟨b_e2, kb_e2, rfl, N2q, K2, p2_1, p2_2, p2_3, p2_4, sz_b_2⟩ := hQ2
  have N2 := Fr.app N1 N2q
  have kp3 : Keep h0 T2.heap [a] := ((Keep.refl h0 [a]).trans K2 (allS (Or.inl (List.mem_of_getElem? (i := 0) rfl)) all0))
  obtain ⟨fs, hr, hrun, hended, hW, hsame⟩ := X2.leave (v := none) (fun _ => rfl)
  refine ⟨_, _, pre0 _ ?_, hrun, hended, _, _, rfl, ?_, ⟨_, rfl⟩, hW, hsame.mono (by decide) (by decide)⟩
  · show Steps p.tables e below (s₁.setTop (mkF m 0 #[.val (.ref a), .val (.ref ar), .val (.int (0 : Int32)), .val (.int (2 : Int32))] [])) _
    refine XS.aloadN X0.here hx rfl (hb hby d12_0) rfl rfl ?_
    refine XS.aloadN X0.here hx rfl (hb hby d12_1) rfl rfl ?_
    refine XS.iloadN X0.here hx rfl (hb hby d12_2) rfl ?_
    refine XS.iloadN X0.here hx rfl (hb hby d12_3) rfl ?_
    refine XS.aloadN X0.here hx rfl (hb hby d12_4) rfl rfl ?_
    refine XS.iloadN X0.here hx rfl (hb hby d12_5) rfl ?_
    show Steps p.tables e below (s₁.setTop (mkF m 6 #[.val (.ref a), .val (.ref ar), .val (.int (0 : Int32)), .val (.int (2 : Int32))] [(.int (0 : Int32)), (.ref ar), (.int (2 : Int32)), (.int (0 : Int32)), (.ref ar), (.ref a)])) _
    refine XS.iloadN X0.here hx rfl (hb hby d12_6) rfl ?_
    refine st1 _ ?_
    refine st2.trans ?_
    exact X2.returnOut hx Bd.returns (hb hby d12_13) hr
  · show Qsc2 Z a ar f cz sf c0 c1 h0 n0 _ T2.heap _
    exact ⟨b_e2, kb_e2, rfl, N2, kp3, p2_1, p2_2, p2_3, p2_4, (Nat.le_trans (Keep.refl h0 [a]).1 sz_b_2)⟩
theorem d11_0 : decode jdk_29_method_70_code 0 = .ok (.lload_n 0, 1) := by decide +kernel
theorem d11_1 : decode jdk_29_method_70_code 1 = .ok (.lload_n 2, 1) := by decide +kernel
theorem d11_2 : decode jdk_29_method_70_code 2 = .ok (.lcmp, 1) := by decide +kernel
theorem d11_3 : decode jdk_29_method_70_code 3 = .ok (.ifCond .gt 7, 3) := by decide +kernel
theorem d11_6 : decode jdk_29_method_70_code 6 = .ok (.lload_n 0, 1) := by decide +kernel
theorem d11_7 : decode jdk_29_method_70_code 7 = .ok (.goto 4, 3) := by decide +kernel
theorem d11_11 : decode jdk_29_method_70_code 11 = .ok (.lreturn, 1) := by decide +kernel
theorem ef_11 (m : MethodId) (x0 : Int64) (x1 : Int64) : entryFrame m #[(.long x0), (.long x1)] 4 = mkF m 0 #[.val (.long x0), .second, .val (.long x1), .second] [] := by first | (simp [entryFrame, mkF, argsToLocals, Value.category]; done) | rfl
def QminJa (Z : State) (u : Int64) (w : Int64) (h0 : Heap) (n0 : Nat) (v : Option Value) (h : Heap) (L : List Loc) : Prop := v = some (.long u) ∧ Fr n0 L ∧ h = h0
abbrev my19 : MethodName := ⟨"java/lang/Math", "min", "(JJ)J"⟩
abbrev Rm_minJa : Room := { frames := 0, cells := 0, slots := 0, locals := 0 }
set_option maxRecDepth 65536 in
set_option maxHeartbeats 40000000 in
theorem minJa (l : Launch) (Z : State) (a0 : Array Value) (hw : ∀ d ∈ tables_1, d.before a0 Z = true) (ws : List Jvm.Cond) (u : Int64) (w : Int64) (h0 : Heap) (n0 : Nat) (Z0 : n0 ≤ h0.size) (hu : ¬ ((0 : Int32) < (lcmpW u w))) :
    MetFree l my19 (head1 (Jvm.Cond.code my19 jdk_29_method_70_code 4 (some .long) :: ws) Rm_minJa) (fun aa_ U => aa_ = #[(.long u), (.long w)] ∧ Z.Warmed39 U.vm ∧ U.heap = h0) (fun _ _ _ _ _ => True) (fun _ U oo_ U' => ∃ v L, oo_ = .returned v ∧ QminJa Z u w h0 n0 v U'.heap L ∧ FrameEnd U oo_ U' L Rm_minJa.cells Rm_minJa.slots) := by
  refine MetFree.of_bodySF (Jvm.Free.JP.mathPlain rfl (by decide +kernel)) hisR ?_
  intro p e s m args below meth c s₁ Bd hml0 hP hK
  obtain ⟨rfl, hZ, hh⟩ := hP
  have hx := Bd.exec
  have hby := Bd.bytes
  have hml : c.maxLocals = 4 := hml0
  have hown : s.vm.findClass "java/lang/Math" = some m.cls := findClass_of_methodNamed Bd.named
  have hnm := (name_of_methodNamed Bd.named Bd.method).1
  have X0 : Stand p l e Rm_minJa s m #[(.long u), (.long w)] below meth c s₁ [] 0 0 := Stand.of_body Bd
  have e0 : s₁.heap = h0 := by rw [← hh, Bd.state]; rfl
  have N0 := Fr.nil n0
  have pre0 : ∀ tt_, Steps p.tables e below (s₁.setTop (mkF m 0 #[.val (.long u), .second, .val (.long w), .second] [])) tt_ → Steps p.tables e below (s₁.setTop (entryFrame m #[(.long u), (.long w)] 4)) tt_ := fun tt_ kk_ => castTop (ef_11 m u w) kk_
  obtain ⟨fs, hr, hrun, hended, hW, hsame⟩ := X0.leave (v := some (.long u)) (fun h => by rw [Bd.returns] at h; cases h)
  refine ⟨_, _, pre0 _ ?_, hrun, hended, _, _, rfl, ?_, ⟨_, rfl⟩, hW, hsame.mono (by decide) (by decide)⟩
  · show Steps p.tables e below (s₁.setTop (mkF m 0 #[.val (.long u), .second, .val (.long w), .second] [])) _
    refine XS.lloadN X0.here hx rfl (hb hby d11_0) rfl ?_
    refine XS.lloadN X0.here hx rfl (hb hby d11_1) rfl ?_
    refine XS.lcmp X0.here hx rfl (hb hby d11_2) rfl ?_
    refine XS.ifNo X0.here hx rfl (hb hby d11_3) rfl ((if0 _ _).trans (flt (show ¬ ((0 : Int32) < (lcmpW u w)) from hu)).2.2.1) ?_
    refine XS.lloadN X0.here hx rfl (hb hby d11_6) rfl ?_
    refine XS.goto X0.here hx rfl (pc0 := 7) (pc' := 11) rfl (hb hby d11_7) (by decide) (by decide) ?_
    show Steps p.tables e below (s₁.setTop (mkF m 11 #[.val (.long u), .second, .val (.long w), .second] [(.long u)])) _
    exact X0.lreturnOut hx Bd.returns (hb hby d11_11) hr
  · show QminJa Z u w h0 n0 _ s₁.heap _
    rw [e0]
    exact ⟨rfl, N0, rfl⟩
theorem d11_10 : decode jdk_29_method_70_code 10 = .ok (.lload_n 2, 1) := by decide +kernel
def QminJb (Z : State) (u : Int64) (w : Int64) (h0 : Heap) (n0 : Nat) (v : Option Value) (h : Heap) (L : List Loc) : Prop := v = some (.long w) ∧ Fr n0 L ∧ h = h0
abbrev Rm_minJb : Room := { frames := 0, cells := 0, slots := 0, locals := 0 }
set_option maxRecDepth 65536 in
set_option maxHeartbeats 40000000 in
theorem minJb (l : Launch) (Z : State) (a0 : Array Value) (hw : ∀ d ∈ tables_1, d.before a0 Z = true) (ws : List Jvm.Cond) (u : Int64) (w : Int64) (h0 : Heap) (n0 : Nat) (Z0 : n0 ≤ h0.size) (hu : (0 : Int32) < (lcmpW u w)) :
    MetFree l my19 (head1 (Jvm.Cond.code my19 jdk_29_method_70_code 4 (some .long) :: ws) Rm_minJb) (fun aa_ U => aa_ = #[(.long u), (.long w)] ∧ Z.Warmed39 U.vm ∧ U.heap = h0) (fun _ _ _ _ _ => True) (fun _ U oo_ U' => ∃ v L, oo_ = .returned v ∧ QminJb Z u w h0 n0 v U'.heap L ∧ FrameEnd U oo_ U' L Rm_minJb.cells Rm_minJb.slots) := by
  refine MetFree.of_bodySF (Jvm.Free.JP.mathPlain rfl (by decide +kernel)) hisR ?_
  intro p e s m args below meth c s₁ Bd hml0 hP hK
  obtain ⟨rfl, hZ, hh⟩ := hP
  have hx := Bd.exec
  have hby := Bd.bytes
  have hml : c.maxLocals = 4 := hml0
  have hown : s.vm.findClass "java/lang/Math" = some m.cls := findClass_of_methodNamed Bd.named
  have hnm := (name_of_methodNamed Bd.named Bd.method).1
  have X0 : Stand p l e Rm_minJb s m #[(.long u), (.long w)] below meth c s₁ [] 0 0 := Stand.of_body Bd
  have e0 : s₁.heap = h0 := by rw [← hh, Bd.state]; rfl
  have N0 := Fr.nil n0
  have pre0 : ∀ tt_, Steps p.tables e below (s₁.setTop (mkF m 0 #[.val (.long u), .second, .val (.long w), .second] [])) tt_ → Steps p.tables e below (s₁.setTop (entryFrame m #[(.long u), (.long w)] 4)) tt_ := fun tt_ kk_ => castTop (ef_11 m u w) kk_
  obtain ⟨fs, hr, hrun, hended, hW, hsame⟩ := X0.leave (v := some (.long w)) (fun h => by rw [Bd.returns] at h; cases h)
  refine ⟨_, _, pre0 _ ?_, hrun, hended, _, _, rfl, ?_, ⟨_, rfl⟩, hW, hsame.mono (by decide) (by decide)⟩
  · show Steps p.tables e below (s₁.setTop (mkF m 0 #[.val (.long u), .second, .val (.long w), .second] [])) _
    refine XS.lloadN X0.here hx rfl (hb hby d11_0) rfl ?_
    refine XS.lloadN X0.here hx rfl (hb hby d11_1) rfl ?_
    refine XS.lcmp X0.here hx rfl (hb hby d11_2) rfl ?_
    refine XS.ifYes X0.here hx rfl (pc0 := 3) (pc' := 10) rfl (hb hby d11_3) rfl ((if0 _ _).trans (tlt (show (0 : Int32) < (lcmpW u w) from hu)).2.2.1) (by decide) (by decide) ?_
    refine XS.lloadN X0.here hx rfl (hb hby d11_10) rfl ?_
    exact X0.lreturnOut hx Bd.returns (hb hby d11_11) hr
  · show QminJb Z u w h0 n0 _ s₁.heap _
    rw [e0]
    exact ⟨rfl, N0, rfl⟩
theorem hwd62 {Z : State} {a0 : Array Value} (hw : ∀ d ∈ tables_1, d.before a0 Z = true) : (Jvm.Cond.classLink "com/example/libsitemap/libsitemap/ValueText" (47 : Nat) "java/lang/String").before a0 Z = true := hw _ (List.mem_of_getElem? (i := 62) rfl)
theorem hwd65 {Z : State} {a0 : Array Value} (hw : ∀ d ∈ tables_1, d.before a0 Z = true) : (Jvm.Cond.methodLink "com/example/libsitemap/libsitemap/ValueText" (49 : Nat) ({ cls := "java/lang/Math", name := "min", desc := "(JJ)J" } : Jvm.MethodName)).before a0 Z = true := hw _ (List.mem_of_getElem? (i := 65) rfl)
theorem hwd68 {Z : State} {a0 : Array Value} (hw : ∀ d ∈ tables_1, d.before a0 Z = true) : (Jvm.Cond.code ({ cls := "java/lang/Math", name := "min", desc := "(JJ)J" } : Jvm.MethodName) jdk_29_method_70_code (4 : Nat) (Option.some Jvm.ClassFile.FieldType.long)).before a0 Z = true := hw _ (List.mem_of_getElem? (i := 68) rfl)
theorem pd_11 : parseMethodDescriptor "(JJ)J" = some ⟨[.long, .long], some .long⟩ := by decide +kernel
theorem hwd66 {Z : State} {a0 : Array Value} (hw : ∀ d ∈ tables_1, d.before a0 Z = true) : (Jvm.Cond.static ({ cls := "java/lang/Math", name := "min", desc := "(JJ)J" } : Jvm.MethodName)).before a0 Z = true := hw _ (List.mem_of_getElem? (i := 66) rfl)
theorem hwd69 {Z : State} {a0 : Array Value} (hw : ∀ d ∈ tables_1, d.before a0 Z = true) : (Jvm.Cond.methodLink "com/example/libsitemap/libsitemap/ValueText" (55 : Nat) ({ cls := "java/lang/String", name := "<init>", desc := "([CII)V" } : Jvm.MethodName)).before a0 Z = true := hw _ (List.mem_of_getElem? (i := 69) rfl)
theorem hwd71 {Z : State} {a0 : Array Value} (hw : ∀ d ∈ tables_1, d.before a0 Z = true) : (Jvm.Cond.code ({ cls := "java/lang/String", name := "<init>", desc := "([CII)V" } : Jvm.MethodName) jdk_42_method_4_code (4 : Nat) (Option.none : Option Jvm.ClassFile.FieldType)).before a0 Z = true := hw _ (List.mem_of_getElem? (i := 71) rfl)
theorem pd_12 : parseMethodDescriptor "([CII)V" = some ⟨[(.array .char), .int, .int], none⟩ := by decide +kernel
theorem hwd70 {Z : State} {a0 : Array Value} (hw : ∀ d ∈ tables_1, d.before a0 Z = true) : (Jvm.Cond.instanceMethod ({ cls := "java/lang/String", name := "<init>", desc := "([CII)V" } : Jvm.MethodName)).before a0 Z = true := hw _ (List.mem_of_getElem? (i := 70) rfl)
theorem d10_0 : decode prog_46_method_6_code 0 = .ok (.new 47, 3) := by decide +kernel
theorem d10_3 : decode prog_46_method_6_code 3 = .ok (.dup, 1) := by decide +kernel
theorem d10_4 : decode prog_46_method_6_code 4 = .ok (.aload_n 0, 1) := by decide +kernel
theorem d10_5 : decode prog_46_method_6_code 5 = .ok (.getfield 9, 3) := by decide +kernel
theorem d10_8 : decode prog_46_method_6_code 8 = .ok (.iconst 0, 1) := by decide +kernel
theorem d10_9 : decode prog_46_method_6_code 9 = .ok (.aload_n 0, 1) := by decide +kernel
theorem d10_10 : decode prog_46_method_6_code 10 = .ok (.getfield 35, 3) := by decide +kernel
theorem d10_13 : decode prog_46_method_6_code 13 = .ok (.i2l, 1) := by decide +kernel
theorem d10_14 : decode prog_46_method_6_code 14 = .ok (.aload_n 0, 1) := by decide +kernel
theorem d10_15 : decode prog_46_method_6_code 15 = .ok (.getfield 38, 3) := by decide +kernel
theorem d10_18 : decode prog_46_method_6_code 18 = .ok (.invokestatic 49, 3) := by decide +kernel
theorem d10_21 : decode prog_46_method_6_code 21 = .ok (.l2i, 1) := by decide +kernel
theorem d10_22 : decode prog_46_method_6_code 22 = .ok (.invokespecial 55, 3) := by decide +kernel
theorem d10_25 : decode prog_46_method_6_code 25 = .ok (.areturn, 1) := by decide +kernel
theorem ef_10 (m : MethodId) (x0 : Addr) : entryFrame m #[(.ref x0)] 1 = mkF m 0 #[.val (.ref x0)] [] := by first | (simp [entryFrame, mkF, argsToLocals, Value.category]; done) | rfl
def Qtx00 (Z : State) (a : Addr) (ar : Addr) (f : Nat → Value) (cz : Int32) (sf : Value) (h0 : Heap) (n0 : Nat) (v : Option Value) (h : Heap) (L : List Loc) : Prop := ∃ so : Addr, ∃ b : Addr, ∃ kb : ClassId, v = some (.ref so) ∧ Fr n0 L ∧ Keep h0 h [] ∧ Exa Z h so "java/lang/String" ∧ Fld Z h so "java/lang/String" "value" "[B" (.ref b) ∧ Fld Z h so "java/lang/String" "coder" "B" (.int (0 : Int32)) ∧ Arv Z h b kb .byte (0 : Int32) [] (.int 0)
abbrev my20 : MethodName := ⟨"com/example/libsitemap/libsitemap/ValueText", "text", "()Ljava/lang/String;"⟩
abbrev Rm_tx00 : Room := { frames := 4, cells := 3, slots := 8, locals := 63 }
set_option maxRecDepth 65536 in
set_option maxHeartbeats 40000000 in
theorem tx00 (l : Launch) (Z : State) (a0 : Array Value) (hw : ∀ d ∈ tables_1, d.before a0 Z = true) (ws : List Jvm.Cond) (a : Addr) (ar : Addr) (f : Nat → Value) (cz : Int32) (sf : Value) (h0 : Heap) (n0 : Nat) (Z0 : n0 ≤ h0.size) (F_kept_a : Fld Z h0 a "com/example/libsitemap/libsitemap/ValueText" "kept" "[C" (.ref ar)) (F_keptLength_a : Fld Z h0 a "com/example/libsitemap/libsitemap/ValueText" "keptLength" "I" (.int (0 : Int32))) (F_valueLength_a : Fld Z h0 a "com/example/libsitemap/libsitemap/ValueText" "valueLength" "J" (.long (0 : Int64))) (A_ar : Av Z h0 ar .char 64 f) (O_C : Sta Z Z.heap "java/lang/String" "COMPACT_STRINGS" "Z" (.int cz)) (hcz : ¬ (cz = (0 : Int32))) (O_S : Sta Z Z.heap "jdk/internal/util/Preconditions" "SIOOBE_FORMATTER" "Ljava/util/function/BiFunction;" sf) (hsf : sf.isRef = true) (X00 : Old Z n0 h0) :
    MetFree l my20 (head1 (Jvm.Cond.code my20 prog_46_method_6_code 1 (some (.object "java/lang/String")) :: ws) Rm_tx00) (fun aa_ U => aa_ = #[(.ref a)] ∧ Z.Warmed39 U.vm ∧ U.heap = h0 ∧ CHv Z consts_1 U.vm h0) (fun _ _ _ _ _ => True) (fun _ U oo_ U' => ∃ v L, oo_ = .returned v ∧ Qtx00 Z a ar f cz sf h0 n0 v U'.heap L ∧ CHr Z consts_1 U.vm U.heap U'.vm U'.heap ∧ ReturnedEndW U oo_ U' L Rm_tx00.cells Rm_tx00.slots) := by
  refine MetFree.of_bodySF (plainFor_of_name pn_1) hisR ?_
  intro p e s m args below meth c s₁ Bd hml0 hP hK
  obtain ⟨rfl, hZ, hh, hC0⟩ := hP
  have hx := Bd.exec
  have hby := Bd.bytes
  have hml : c.maxLocals = 1 := hml0
  have hown : s.vm.findClass "com/example/libsitemap/libsitemap/ValueText" = some m.cls := findClass_of_methodNamed Bd.named
  have hZ : Z.Warmed39 (s.setVm s.vm).vm := hZ
  have hown : (s.setVm s.vm).vm.findClass "com/example/libsitemap/libsitemap/ValueText" = some m.cls := hown
  have hS0 : s.Since s.vm s.heap.size := (State.WarmedH.refl s).since _
  have hk0 : s.heap.size ≤ h0.size := Nat.le_of_eq (by rw [hh])
  have CR0 : CHr Z consts_1 s.vm h0 s.vm h0 := CHr.refl hC0
  have hnm := (name_of_methodNamed Bd.named Bd.method).1
  have X0 : Stand p l e Rm_tx00 (s.setVm s.vm) m #[(.ref a)] below meth c s₁ [] 0 0 := Stand.of_body Bd
  have e0 : s₁.heap = h0 := by rw [← hh, Bd.state]; rfl
  have N0 := Fr.nil n0
  have pre0 : ∀ tt_, Steps p.tables e below (s₁.setTop (mkF m 0 #[.val (.ref a)] [])) tt_ → Steps p.tables e below (s₁.setTop (entryFrame m #[(.ref a)] 1)) tt_ := fun tt_ kk_ => castTop (ef_10 m a) kk_
  obtain ⟨T1, h1, X1, e1, E1, A1, D1, -, st1⟩ := newO X0 hx hZ hown (hwd62 hw) (hwd63 hw) (hwd64 hw) e0 (g := (mkF m 0 #[.val (.ref a)] [])) rfl (hb hby d10_0) (by decide) (by decide)
  obtain ⟨b1, g1⟩ : ∃ zz_, zz_ = h0.size := ⟨_, rfl⟩
  rw [← g1] at A1 D1 st1
  have ne_a_b1 : a ≠ b1 := Nat.ne_of_lt (Nat.lt_of_lt_of_le F_kept_a.lt (Nat.le_of_eq g1.symm))
  have ne_ar_b1 : ar ≠ b1 := Nat.ne_of_lt (Nat.lt_of_lt_of_le A_ar.lt (Nat.le_of_eq g1.symm))
  have g_b1 : n0 ≤ b1 := Nat.le_trans Z0 (Nat.le_of_eq g1.symm)
  have sz_b1 : h0.size ≤ b1 := Nat.le_trans (Keep.refl h0 []).1 (Nat.le_of_eq g1.symm)
  have F_value_b1 : Fld Z h1 b1 "java/lang/String" "value" "[B" .null := D1 (Or.inr (hwd90 hw)) (ty := (.array .byte)) (by decide)
  have F_coder_b1 : Fld Z h1 b1 "java/lang/String" "coder" "B" (.int (0 : Int32)) := D1 (Or.inr (hwd91 hw)) (ty := .byte) (by decide)
  have f2_F_a_kept := (F_kept_a.ext E1)
  obtain ⟨T3, X3, e3, st3⟩ := getF X1 hx hZ hown (host := "") (Or.inl (hwd17 hw)) Via.refl e1 f2_F_a_kept (g := (mkF m 5 #[.val (.ref a)] [(.ref a), (.ref b1), (.ref b1)])) rfl rfl (hb hby d10_5)
  have f4_F_a_keptLength := (F_keptLength_a.ext E1)
  obtain ⟨T5, X5, e5, st5⟩ := getF X3 hx hZ hown (host := "") (Or.inl (hwd43 hw)) Via.refl e3 f4_F_a_keptLength (g := (mkF m 10 #[.val (.ref a)] [(.ref a), (.int (0 : Int32)), (.ref ar), (.ref b1), (.ref b1)])) rfl rfl (hb hby d10_10)
  have f6_F_a_valueLength := (F_valueLength_a.ext E1)
  obtain ⟨T7, X7, e7, st7⟩ := getF X5 hx hZ hown (host := "") (Or.inl (hwd45 hw)) Via.refl e5 f6_F_a_valueLength (g := (mkF m 15 #[.val (.ref a)] [(.ref a), (.long ((0 : Int32).toInt64)), (.int (0 : Int32)), (.ref ar), (.ref b1), (.ref b1)])) rfl rfl (hb hby d10_15)
  have sz9 : n0 ≤ h1.size := (Nat.le_trans Z0 E1.1)
  obtain ⟨_, _, ⟨T8, L8, k8, n8⟩, -, X8, ⟨Lc8, hQ8, l8, y8, z8⟩, st8⟩ := Jvm.LawKit.callS X7 hx (y := my19) hown (mvT hZ (hwd65 hw)) (mvT hZ (hwd66 hw)) (mvT hZ (hwd67 hw)) (mvT hZ (hwd68 hw)) (by decide) (backOf (W := 4) (minJa l Z a0 hw [] ((0 : Int32).toInt64) (0 : Int64) h1 n0 sz9 (by decide)) hZ (hwd68 hw) (hwd67 hw) (by decide) (by decide)) (g := (mkF m 18 #[.val (.ref a)] [(.long (0 : Int64)), (.long ((0 : Int32).toInt64)), (.int (0 : Int32)), (.ref ar), (.ref b1), (.ref b1)])) rfl (by rw [hml]; rfl) (argsL := [(.long ((0 : Int32).toInt64)), (.long (0 : Int64))]) (rest := [(.int (0 : Int32)), (.ref ar), (.ref b1), (.ref b1)]) (lenOf pd_11 rfl) rfl (by show 2 * 0 + _ ≤ _; exact Nat.le_of_eq rfl) (hb hby d10_18) (fun _ _ => ⟨rfl, e7, (by decide : 1 + 0 ≤ _), (by decide : 4 + 0 ≤ _)⟩)
  dsimp only [Pt.U, Pt.locs, Pt.cells, Pt.slots] at X8 l8 y8 z8 st8 hQ8
  subst l8 y8 z8
  obtain ⟨rfl, N8q, e8q⟩ := hQ8
  have N8 := Fr.app N0 N8q
  have f11_A_ar := (A_ar.ext E1)
  have old12 : Old Z n0 h1 := (X00.ext E1)
  have kp13 : Keep h0 h1 [] := ((Keep.refl h0 []).ext E1)
  have CR14h : CHr Z consts_1 s.vm h0 s.vm h1 := CR0.trans (CHr.keep kp13 sf0 CR0.1)
  have hk15 : _ ≤ h1.size := (Nat.le_trans hk0 E1.1)
  obtain ⟨_, _, ⟨T10, L10, k10, n10⟩, -, X10q, hS10q, hg10q, ⟨Lc10, hQ10, l10, y10, z10, CR10q⟩, st10⟩ := X8.specialBackS hx (y := my15) rfl hown (mvT hZ (hwd69 hw)) (mvT hZ (hwd70 hw)) (mvT hZ (hwd71 hw)) (by decide) (backOfSH (W := 1) (EL := consts_1) (s := s) (vm0 := s.vm) (sc0 l Z a0 hw [] b1 ar f cz sf h1 n0 sz9 A1 F_value_b1 F_coder_b1 f11_A_ar g_b1 (Ne.symm ne_ar_b1) O_C hcz old12 O_S hsf) hZ (hwd71 hw) (hwd64 hw) (by decide) (by decide) (own_EL hw) CR14h.1) (g := (mkF m 22 #[.val (.ref a)] [(.int (0 : Int32)), (.int (0 : Int32)), (.ref ar), (.ref b1), (.ref b1)])) rfl (by rw [hml]; rfl) (Steps.refl _) (a := b1) (argsL := [(.ref ar), (.int (0 : Int32)), (.int (0 : Int32))]) (rest := [(.ref b1)]) (lenOf pd_12 rfl) rfl (by show 2 * 0 + _ ≤ _; exact Nat.le_of_eq rfl) (hb hby d10_22) (fun _ _ => ⟨rfl, e8q, (by decide : 1 + 2 ≤ _), (by decide : 4 + 4 ≤ _)⟩)
  dsimp only [Pt.U, Pt.locs, Pt.cells, Pt.slots] at X10q l10 y10 z10 st10 hQ10 hS10q hg10q CR10q
  subst l10 y10 z10
  obtain ⟨X10, hS10, hZ10, hown10⟩ := rebS hS0 (by rw [show T8.heap = h1 from e8q]; exact hk15) X10q hS10q hg10q hZ hown
  have hk10 : T10.heap.size ≤ T10.heap.size := Nat.le_refl _
  have CR10 := CR14h.trans CR10q
  obtain ⟨b_e10, kb_e10, rfl, N10q, K10, p10_1, p10_2, p10_3, p10_4⟩ := hQ10
  have N10 := Fr.app N8 N10q
  have kp16 : Keep h0 T10.heap [] := (kp13.trans K10 (allS (Or.inr sz_b1) all0))
  have hkE := Nat.le_trans hk10 (Nat.le_of_eq (congrArg Array.size (show T10.heap = T10.heap from Eq.symm rfl)))
  obtain ⟨fs, hr, hrun, hended, hRE⟩ := X10.leaveW hS10 hkE (v := some (.ref b1)) (fun h => by rw [Bd.returns] at h; cases h)
  refine ⟨_, _, pre0 _ ?_, hrun, hended, _, _, rfl, ?_, ?_, hRE.1, hRE.2.1, hRE.2.2.1, hRE.2.2.2.mono (by decide) (by decide)⟩
  · show Steps p.tables e below (s₁.setTop (mkF m 0 #[.val (.ref a)] [])) _
    refine st1 _ ?_
    refine XS.dup X1.here hx rfl (hb hby d10_3) rfl rfl ?_
    refine XS.aloadN X1.here hx rfl (hb hby d10_4) rfl rfl ?_
    refine st3 _ ?_
    refine XS.iconst X3.here hx rfl (hb hby d10_8) ?_
    refine XS.aloadN X3.here hx rfl (hb hby d10_9) rfl rfl ?_
    show Steps p.tables e below (T3.setTop (mkF m 10 #[.val (.ref a)] [(.ref a), (.int (0 : Int32)), (.ref ar), (.ref b1), (.ref b1)])) _
    refine st5 _ ?_
    refine XS.i2l X5.here hx rfl (hb hby d10_13) rfl ?_
    refine XS.aloadN X5.here hx rfl (hb hby d10_14) rfl rfl ?_
    refine st7 _ ?_
    refine st8 _ ?_
    refine XS.l2i X8.here hx rfl (hb hby d10_21) rfl ?_
    show Steps p.tables e below (T8.setTop (mkF m 22 #[.val (.ref a)] [(.int (((0 : Int32).toInt64).toInt32)), (.int (0 : Int32)), (.ref ar), (.ref b1), (.ref b1)])) _
    rw [show ((((0 : Int32).toInt64).toInt32) : Int32) = (0 : Int32) from by decide]
    refine st10.trans ?_
    jvm_step X10.here [X10.here.top, hx, (hb hby d10_25), X10.method', Bd.returns, Value.isRef, FieldType.isReference]
    first | (intro acts; rw [hr _ acts rfl rfl rfl]) | rw [hr _ _ rfl rfl rfl]
    exact Steps.refl _
  · show Qtx00 Z a ar f cz sf h0 n0 _ T10.heap _
    exact ⟨b1, b_e10, kb_e10, rfl, N10, kp16, p10_1, p10_2, p10_3, p10_4⟩
  · show CHr Z consts_1 s.vm s.heap T10.vm T10.heap
    rw [hh]
    exact CR10.trans (CHv.at X10 hZ10 (own_EL hw) CR10.1)
def Qtx11 (Z : State) (a : Addr) (ar : Addr) (f : Nat → Value) (cz : Int32) (sf : Value) (c0 : Int32) (h0 : Heap) (n0 : Nat) (v : Option Value) (h : Heap) (L : List Loc) : Prop := ∃ so : Addr, ∃ b : Addr, ∃ kb : ClassId, v = some (.ref so) ∧ Fr n0 L ∧ Keep h0 h [] ∧ Exa Z h so "java/lang/String" ∧ Fld Z h so "java/lang/String" "value" "[B" (.ref b) ∧ Fld Z h so "java/lang/String" "coder" "B" (.int (0 : Int32)) ∧ Arv Z h b kb .byte (1 : Int32) [(.int (nar .byte (c0.toInt8.toInt32)))] (.int 0)
abbrev Rm_tx11 : Room := { frames := 4, cells := 2, slots := 5, locals := 68 }
set_option maxRecDepth 65536 in
set_option maxHeartbeats 40000000 in
theorem tx11 (l : Launch) (Z : State) (a0 : Array Value) (hw : ∀ d ∈ tables_1, d.before a0 Z = true) (ws : List Jvm.Cond) (a : Addr) (ar : Addr) (f : Nat → Value) (cz : Int32) (sf : Value) (c0 : Int32) (h0 : Heap) (n0 : Nat) (Z0 : n0 ≤ h0.size) (F_kept_a : Fld Z h0 a "com/example/libsitemap/libsitemap/ValueText" "kept" "[C" (.ref ar)) (F_keptLength_a : Fld Z h0 a "com/example/libsitemap/libsitemap/ValueText" "keptLength" "I" (.int (1 : Int32))) (F_valueLength_a : Fld Z h0 a "com/example/libsitemap/libsitemap/ValueText" "valueLength" "J" (.long (1 : Int64))) (A_ar : Av Z h0 ar .char 64 f) (hf0 : f 0 = (.int c0)) (hl0 : Lat c0) (O_C : Sta Z Z.heap "java/lang/String" "COMPACT_STRINGS" "Z" (.int cz)) (hcz : ¬ (cz = (0 : Int32))) (O_S : Sta Z Z.heap "jdk/internal/util/Preconditions" "SIOOBE_FORMATTER" "Ljava/util/function/BiFunction;" sf) (hsf : sf.isRef = true) (X00 : Old Z n0 h0) :
    MetFree l my20 (head1 (Jvm.Cond.code my20 prog_46_method_6_code 1 (some (.object "java/lang/String")) :: ws) Rm_tx11) (fun aa_ U => aa_ = #[(.ref a)] ∧ Z.Warmed39 U.vm ∧ U.heap = h0) (fun _ _ _ _ _ => True) (fun _ U oo_ U' => ∃ v L, oo_ = .returned v ∧ Qtx11 Z a ar f cz sf c0 h0 n0 v U'.heap L ∧ FrameEnd U oo_ U' L Rm_tx11.cells Rm_tx11.slots) := by
  refine MetFree.of_bodySF (plainFor_of_name pn_1) hisR ?_
  intro p e s m args below meth c s₁ Bd hml0 hP hK
  obtain ⟨rfl, hZ, hh⟩ := hP
  have hx := Bd.exec
  have hby := Bd.bytes
  have hml : c.maxLocals = 1 := hml0
  have hown : s.vm.findClass "com/example/libsitemap/libsitemap/ValueText" = some m.cls := findClass_of_methodNamed Bd.named
  have hnm := (name_of_methodNamed Bd.named Bd.method).1
  have X0 : Stand p l e Rm_tx11 s m #[(.ref a)] below meth c s₁ [] 0 0 := Stand.of_body Bd
  have e0 : s₁.heap = h0 := by rw [← hh, Bd.state]; rfl
  have N0 := Fr.nil n0
  have pre0 : ∀ tt_, Steps p.tables e below (s₁.setTop (mkF m 0 #[.val (.ref a)] [])) tt_ → Steps p.tables e below (s₁.setTop (entryFrame m #[(.ref a)] 1)) tt_ := fun tt_ kk_ => castTop (ef_10 m a) kk_
  obtain ⟨T1, h1, X1, e1, E1, A1, D1, -, st1⟩ := newO X0 hx hZ hown (hwd62 hw) (hwd63 hw) (hwd64 hw) e0 (g := (mkF m 0 #[.val (.ref a)] [])) rfl (hb hby d10_0) (by decide) (by decide)
  obtain ⟨b1, g1⟩ : ∃ zz_, zz_ = h0.size := ⟨_, rfl⟩
  rw [← g1] at A1 D1 st1
  have ne_a_b1 : a ≠ b1 := Nat.ne_of_lt (Nat.lt_of_lt_of_le F_kept_a.lt (Nat.le_of_eq g1.symm))
  have ne_ar_b1 : ar ≠ b1 := Nat.ne_of_lt (Nat.lt_of_lt_of_le A_ar.lt (Nat.le_of_eq g1.symm))
  have g_b1 : n0 ≤ b1 := Nat.le_trans Z0 (Nat.le_of_eq g1.symm)
  have sz_b1 : h0.size ≤ b1 := Nat.le_trans (Keep.refl h0 []).1 (Nat.le_of_eq g1.symm)
  have F_value_b1 : Fld Z h1 b1 "java/lang/String" "value" "[B" .null := D1 (Or.inr (hwd90 hw)) (ty := (.array .byte)) (by decide)
  have F_coder_b1 : Fld Z h1 b1 "java/lang/String" "coder" "B" (.int (0 : Int32)) := D1 (Or.inr (hwd91 hw)) (ty := .byte) (by decide)
  have f2_F_a_kept := (F_kept_a.ext E1)
  obtain ⟨T3, X3, e3, st3⟩ := getF X1 hx hZ hown (host := "") (Or.inl (hwd17 hw)) Via.refl e1 f2_F_a_kept (g := (mkF m 5 #[.val (.ref a)] [(.ref a), (.ref b1), (.ref b1)])) rfl rfl (hb hby d10_5)
  have f4_F_a_keptLength := (F_keptLength_a.ext E1)
  obtain ⟨T5, X5, e5, st5⟩ := getF X3 hx hZ hown (host := "") (Or.inl (hwd43 hw)) Via.refl e3 f4_F_a_keptLength (g := (mkF m 10 #[.val (.ref a)] [(.ref a), (.int (0 : Int32)), (.ref ar), (.ref b1), (.ref b1)])) rfl rfl (hb hby d10_10)
  have f6_F_a_valueLength := (F_valueLength_a.ext E1)
  obtain ⟨T7, X7, e7, st7⟩ := getF X5 hx hZ hown (host := "") (Or.inl (hwd45 hw)) Via.refl e5 f6_F_a_valueLength (g := (mkF m 15 #[.val (.ref a)] [(.ref a), (.long ((1 : Int32).toInt64)), (.int (0 : Int32)), (.ref ar), (.ref b1), (.ref b1)])) rfl rfl (hb hby d10_15)
  have sz9 : n0 ≤ h1.size := (Nat.le_trans Z0 E1.1)
  obtain ⟨_, _, ⟨T8, L8, k8, n8⟩, -, X8, ⟨Lc8, hQ8, l8, y8, z8⟩, st8⟩ := Jvm.LawKit.callS X7 hx (y := my19) hown (mvT hZ (hwd65 hw)) (mvT hZ (hwd66 hw)) (mvT hZ (hwd67 hw)) (mvT hZ (hwd68 hw)) (by decide) (backOf (W := 4) (minJa l Z a0 hw [] ((1 : Int32).toInt64) (1 : Int64) h1 n0 sz9 (by decide)) hZ (hwd68 hw) (hwd67 hw) (by decide) (by decide)) (g := (mkF m 18 #[.val (.ref a)] [(.long (1 : Int64)), (.long ((1 : Int32).toInt64)), (.int (0 : Int32)), (.ref ar), (.ref b1), (.ref b1)])) rfl (by rw [hml]; rfl) (argsL := [(.long ((1 : Int32).toInt64)), (.long (1 : Int64))]) (rest := [(.int (0 : Int32)), (.ref ar), (.ref b1), (.ref b1)]) (lenOf pd_11 rfl) rfl (by show 2 * 0 + _ ≤ _; exact Nat.le_of_eq rfl) (hb hby d10_18) (fun _ _ => ⟨rfl, e7, (by decide : 1 + 0 ≤ _), (by decide : 4 + 0 ≤ _)⟩)
  dsimp only [Pt.U, Pt.locs, Pt.cells, Pt.slots] at X8 l8 y8 z8 st8 hQ8
  subst l8 y8 z8
  obtain ⟨rfl, N8q, e8q⟩ := hQ8
  have N8 := Fr.app N0 N8q
  have f11_A_ar := (A_ar.ext E1)
  have old12 : Old Z n0 h1 := (X00.ext E1)
  have kp13 : Keep h0 h1 [] := ((Keep.refl h0 []).ext E1)
  obtain ⟨_, _, ⟨T10, L10, k10, n10⟩, -, X10, ⟨Lc10, hQ10, l10, y10, z10⟩, st10⟩ := X8.specialBack hx (y := my15) rfl hown (mvT hZ (hwd69 hw)) (mvT hZ (hwd70 hw)) (mvT hZ (hwd71 hw)) (by decide) (backOf (W := 1) (sc1 l Z a0 hw [] b1 ar f cz sf c0 h1 n0 sz9 A1 F_value_b1 F_coder_b1 f11_A_ar hf0 hl0 g_b1 (Ne.symm ne_ar_b1) O_C hcz old12 O_S hsf) hZ (hwd71 hw) (hwd64 hw) (by decide) (by decide)) (g := (mkF m 22 #[.val (.ref a)] [(.int (1 : Int32)), (.int (0 : Int32)), (.ref ar), (.ref b1), (.ref b1)])) rfl (by rw [hml]; rfl) (Steps.refl _) (a := b1) (argsL := [(.ref ar), (.int (0 : Int32)), (.int (1 : Int32))]) (rest := [(.ref b1)]) (lenOf pd_12 rfl) rfl (by show 2 * 0 + _ ≤ _; exact Nat.le_of_eq rfl) (hb hby d10_22) (fun _ _ => ⟨rfl, e8q, (by decide : 1 + 1 ≤ _), (by decide : 4 + 1 ≤ _)⟩)
  dsimp only [Pt.U, Pt.locs, Pt.cells, Pt.slots] at X10 l10 y10 z10 st10 hQ10
  subst l10 y10 z10
  obtain ⟨b_e10, kb_e10, rfl, N10q, K10, p10_1, p10_2, p10_3, p10_4, sz_b_10⟩ := hQ10
  have N10 := Fr.app N8 N10q
  have kp14 : Keep h0 T10.heap [] := (kp13.trans K10 (allS (Or.inr sz_b1) all0))
  obtain ⟨fs, hr, hrun, hended, hW, hsame⟩ := X10.leave (v := some (.ref b1)) (fun h => by rw [Bd.returns] at h; cases h)
  refine ⟨_, _, pre0 _ ?_, hrun, hended, _, _, rfl, ?_, ⟨_, rfl⟩, hW, hsame.mono (by decide) (by decide)⟩
  · show Steps p.tables e below (s₁.setTop (mkF m 0 #[.val (.ref a)] [])) _
    refine st1 _ ?_
    refine XS.dup X1.here hx rfl (hb hby d10_3) rfl rfl ?_
    refine XS.aloadN X1.here hx rfl (hb hby d10_4) rfl rfl ?_
    refine st3 _ ?_
    refine XS.iconst X3.here hx rfl (hb hby d10_8) ?_
    refine XS.aloadN X3.here hx rfl (hb hby d10_9) rfl rfl ?_
    show Steps p.tables e below (T3.setTop (mkF m 10 #[.val (.ref a)] [(.ref a), (.int (0 : Int32)), (.ref ar), (.ref b1), (.ref b1)])) _
    refine st5 _ ?_
    refine XS.i2l X5.here hx rfl (hb hby d10_13) rfl ?_
    refine XS.aloadN X5.here hx rfl (hb hby d10_14) rfl rfl ?_
    refine st7 _ ?_
    refine st8 _ ?_
    refine XS.l2i X8.here hx rfl (hb hby d10_21) rfl ?_
    show Steps p.tables e below (T8.setTop (mkF m 22 #[.val (.ref a)] [(.int (((1 : Int32).toInt64).toInt32)), (.int (0 : Int32)), (.ref ar), (.ref b1), (.ref b1)])) _
    rw [show ((((1 : Int32).toInt64).toInt32) : Int32) = (1 : Int32) from by decide]
    refine st10.trans ?_
    jvm_step X10.here [X10.here.top, hx, (hb hby d10_25), X10.method', Bd.returns, Value.isRef, FieldType.isReference]
    first | (intro acts; rw [hr _ acts rfl rfl rfl]) | rw [hr _ _ rfl rfl rfl]
    exact Steps.refl _
  · show Qtx11 Z a ar f cz sf c0 h0 n0 _ T10.heap _
    exact ⟨b1, b_e10, kb_e10, rfl, N10, kp14, p10_1, p10_2, p10_3, p10_4⟩
def Qtx21 (Z : State) (a : Addr) (ar : Addr) (f : Nat → Value) (cz : Int32) (sf : Value) (c0 : Int32) (h0 : Heap) (n0 : Nat) (v : Option Value) (h : Heap) (L : List Loc) : Prop := ∃ so : Addr, ∃ b : Addr, ∃ kb : ClassId, v = some (.ref so) ∧ Fr n0 L ∧ Keep h0 h [] ∧ Exa Z h so "java/lang/String" ∧ Fld Z h so "java/lang/String" "value" "[B" (.ref b) ∧ Fld Z h so "java/lang/String" "coder" "B" (.int (0 : Int32)) ∧ Arv Z h b kb .byte (1 : Int32) [(.int (nar .byte (c0.toInt8.toInt32)))] (.int 0)
abbrev Rm_tx21 : Room := { frames := 4, cells := 2, slots := 5, locals := 68 }
set_option maxRecDepth 65536 in
set_option maxHeartbeats 40000000 in
theorem tx21 (l : Launch) (Z : State) (a0 : Array Value) (hw : ∀ d ∈ tables_1, d.before a0 Z = true) (ws : List Jvm.Cond) (a : Addr) (ar : Addr) (f : Nat → Value) (cz : Int32) (sf : Value) (c0 : Int32) (h0 : Heap) (n0 : Nat) (Z0 : n0 ≤ h0.size) (F_kept_a : Fld Z h0 a "com/example/libsitemap/libsitemap/ValueText" "kept" "[C" (.ref ar)) (F_keptLength_a : Fld Z h0 a "com/example/libsitemap/libsitemap/ValueText" "keptLength" "I" (.int (2 : Int32))) (F_valueLength_a : Fld Z h0 a "com/example/libsitemap/libsitemap/ValueText" "valueLength" "J" (.long (1 : Int64))) (A_ar : Av Z h0 ar .char 64 f) (hf0 : f 0 = (.int c0)) (hl0 : Lat c0) (O_C : Sta Z Z.heap "java/lang/String" "COMPACT_STRINGS" "Z" (.int cz)) (hcz : ¬ (cz = (0 : Int32))) (O_S : Sta Z Z.heap "jdk/internal/util/Preconditions" "SIOOBE_FORMATTER" "Ljava/util/function/BiFunction;" sf) (hsf : sf.isRef = true) (X00 : Old Z n0 h0) :
    MetFree l my20 (head1 (Jvm.Cond.code my20 prog_46_method_6_code 1 (some (.object "java/lang/String")) :: ws) Rm_tx21) (fun aa_ U => aa_ = #[(.ref a)] ∧ Z.Warmed39 U.vm ∧ U.heap = h0) (fun _ _ _ _ _ => True) (fun _ U oo_ U' => ∃ v L, oo_ = .returned v ∧ Qtx21 Z a ar f cz sf c0 h0 n0 v U'.heap L ∧ FrameEnd U oo_ U' L Rm_tx21.cells Rm_tx21.slots) := by
  refine MetFree.of_bodySF (plainFor_of_name pn_1) hisR ?_
  intro p e s m args below meth c s₁ Bd hml0 hP hK
  obtain ⟨rfl, hZ, hh⟩ := hP
  have hx := Bd.exec
  have hby := Bd.bytes
  have hml : c.maxLocals = 1 := hml0
  have hown : s.vm.findClass "com/example/libsitemap/libsitemap/ValueText" = some m.cls := findClass_of_methodNamed Bd.named
  have hnm := (name_of_methodNamed Bd.named Bd.method).1
  have X0 : Stand p l e Rm_tx21 s m #[(.ref a)] below meth c s₁ [] 0 0 := Stand.of_body Bd
  have e0 : s₁.heap = h0 := by rw [← hh, Bd.state]; rfl
  have N0 := Fr.nil n0
  have pre0 : ∀ tt_, Steps p.tables e below (s₁.setTop (mkF m 0 #[.val (.ref a)] [])) tt_ → Steps p.tables e below (s₁.setTop (entryFrame m #[(.ref a)] 1)) tt_ := fun tt_ kk_ => castTop (ef_10 m a) kk_
  obtain ⟨T1, h1, X1, e1, E1, A1, D1, -, st1⟩ := newO X0 hx hZ hown (hwd62 hw) (hwd63 hw) (hwd64 hw) e0 (g := (mkF m 0 #[.val (.ref a)] [])) rfl (hb hby d10_0) (by decide) (by decide)
  obtain ⟨b1, g1⟩ : ∃ zz_, zz_ = h0.size := ⟨_, rfl⟩
  rw [← g1] at A1 D1 st1
  have ne_a_b1 : a ≠ b1 := Nat.ne_of_lt (Nat.lt_of_lt_of_le F_kept_a.lt (Nat.le_of_eq g1.symm))
  have ne_ar_b1 : ar ≠ b1 := Nat.ne_of_lt (Nat.lt_of_lt_of_le A_ar.lt (Nat.le_of_eq g1.symm))
  have g_b1 : n0 ≤ b1 := Nat.le_trans Z0 (Nat.le_of_eq g1.symm)
  have sz_b1 : h0.size ≤ b1 := Nat.le_trans (Keep.refl h0 []).1 (Nat.le_of_eq g1.symm)
  have F_value_b1 : Fld Z h1 b1 "java/lang/String" "value" "[B" .null := D1 (Or.inr (hwd90 hw)) (ty := (.array .byte)) (by decide)
  have F_coder_b1 : Fld Z h1 b1 "java/lang/String" "coder" "B" (.int (0 : Int32)) := D1 (Or.inr (hwd91 hw)) (ty := .byte) (by decide)
  have f2_F_a_kept := (F_kept_a.ext E1)
  obtain ⟨T3, X3, e3, st3⟩ := getF X1 hx hZ hown (host := "") (Or.inl (hwd17 hw)) Via.refl e1 f2_F_a_kept (g := (mkF m 5 #[.val (.ref a)] [(.ref a), (.ref b1), (.ref b1)])) rfl rfl (hb hby d10_5)
  have f4_F_a_keptLength := (F_keptLength_a.ext E1)
  obtain ⟨T5, X5, e5, st5⟩ := getF X3 hx hZ hown (host := "") (Or.inl (hwd43 hw)) Via.refl e3 f4_F_a_keptLength (g := (mkF m 10 #[.val (.ref a)] [(.ref a), (.int (0 : Int32)), (.ref ar), (.ref b1), (.ref b1)])) rfl rfl (hb hby d10_10)
  have f6_F_a_valueLength := (F_valueLength_a.ext E1)
  obtain ⟨T7, X7, e7, st7⟩ := getF X5 hx hZ hown (host := "") (Or.inl (hwd45 hw)) Via.refl e5 f6_F_a_valueLength (g := (mkF m 15 #[.val (.ref a)] [(.ref a), (.long ((2 : Int32).toInt64)), (.int (0 : Int32)), (.ref ar), (.ref b1), (.ref b1)])) rfl rfl (hb hby d10_15)
  have sz9 : n0 ≤ h1.size := (Nat.le_trans Z0 E1.1)
  obtain ⟨_, _, ⟨T8, L8, k8, n8⟩, -, X8, ⟨Lc8, hQ8, l8, y8, z8⟩, st8⟩ := Jvm.LawKit.callS X7 hx (y := my19) hown (mvT hZ (hwd65 hw)) (mvT hZ (hwd66 hw)) (mvT hZ (hwd67 hw)) (mvT hZ (hwd68 hw)) (by decide) (backOf (W := 4) (minJb l Z a0 hw [] ((2 : Int32).toInt64) (1 : Int64) h1 n0 sz9 (by decide)) hZ (hwd68 hw) (hwd67 hw) (by decide) (by decide)) (g := (mkF m 18 #[.val (.ref a)] [(.long (1 : Int64)), (.long ((2 : Int32).toInt64)), (.int (0 : Int32)), (.ref ar), (.ref b1), (.ref b1)])) rfl (by rw [hml]; rfl) (argsL := [(.long ((2 : Int32).toInt64)), (.long (1 : Int64))]) (rest := [(.int (0 : Int32)), (.ref ar), (.ref b1), (.ref b1)]) (lenOf pd_11 rfl) rfl (by show 2 * 0 + _ ≤ _; exact Nat.le_of_eq rfl) (hb hby d10_18) (fun _ _ => ⟨rfl, e7, (by decide : 1 + 0 ≤ _), (by decide : 4 + 0 ≤ _)⟩)
  dsimp only [Pt.U, Pt.locs, Pt.cells, Pt.slots] at X8 l8 y8 z8 st8 hQ8
  subst l8 y8 z8
  obtain ⟨rfl, N8q, e8q⟩ := hQ8
  have N8 := Fr.app N0 N8q
  have f11_A_ar := (A_ar.ext E1)
  have old12 : Old Z n0 h1 := (X00.ext E1)
  have kp13 : Keep h0 h1 [] := ((Keep.refl h0 []).ext E1)
  obtain ⟨_, _, ⟨T10, L10, k10, n10⟩, -, X10, ⟨Lc10, hQ10, l10, y10, z10⟩, st10⟩ := X8.specialBack hx (y := my15) rfl hown (mvT hZ (hwd69 hw)) (mvT hZ (hwd70 hw)) (mvT hZ (hwd71 hw)) (by decide) (backOf (W := 1) (sc1 l Z a0 hw [] b1 ar f cz sf c0 h1 n0 sz9 A1 F_value_b1 F_coder_b1 f11_A_ar hf0 hl0 g_b1 (Ne.symm ne_ar_b1) O_C hcz old12 O_S hsf) hZ (hwd71 hw) (hwd64 hw) (by decide) (by decide)) (g := (mkF m 22 #[.val (.ref a)] [(.int (1 : Int32)), (.int (0 : Int32)), (.ref ar), (.ref b1), (.ref b1)])) rfl (by rw [hml]; rfl) (Steps.refl _) (a := b1) (argsL := [(.ref ar), (.int (0 : Int32)), (.int (1 : Int32))]) (rest := [(.ref b1)]) (lenOf pd_12 rfl) rfl (by show 2 * 0 + _ ≤ _; exact Nat.le_of_eq rfl) (hb hby d10_22) (fun _ _ => ⟨rfl, e8q, (by decide : 1 + 1 ≤ _), (by decide : 4 + 1 ≤ _)⟩)
  dsimp only [Pt.U, Pt.locs, Pt.cells, Pt.slots] at X10 l10 y10 z10 st10 hQ10
  subst l10 y10 z10
  obtain ⟨b_e10, kb_e10, rfl, N10q, K10, p10_1, p10_2, p10_3, p10_4, sz_b_10⟩ := hQ10
  have N10 := Fr.app N8 N10q
  have kp14 : Keep h0 T10.heap [] := (kp13.trans K10 (allS (Or.inr sz_b1) all0))
  obtain ⟨fs, hr, hrun, hended, hW, hsame⟩ := X10.leave (v := some (.ref b1)) (fun h => by rw [Bd.returns] at h; cases h)
  refine ⟨_, _, pre0 _ ?_, hrun, hended, _, _, rfl, ?_, ⟨_, rfl⟩, hW, hsame.mono (by decide) (by decide)⟩
  · show Steps p.tables e below (s₁.setTop (mkF m 0 #[.val (.ref a)] [])) _
    refine st1 _ ?_
    refine XS.dup X1.here hx rfl (hb hby d10_3) rfl rfl ?_
    refine XS.aloadN X1.here hx rfl (hb hby d10_4) rfl rfl ?_
    refine st3 _ ?_
    refine XS.iconst X3.here hx rfl (hb hby d10_8) ?_
    refine XS.aloadN X3.here hx rfl (hb hby d10_9) rfl rfl ?_
    show Steps p.tables e below (T3.setTop (mkF m 10 #[.val (.ref a)] [(.ref a), (.int (0 : Int32)), (.ref ar), (.ref b1), (.ref b1)])) _
    refine st5 _ ?_
    refine XS.i2l X5.here hx rfl (hb hby d10_13) rfl ?_
    refine XS.aloadN X5.here hx rfl (hb hby d10_14) rfl rfl ?_
    refine st7 _ ?_
    refine st8 _ ?_
    refine XS.l2i X8.here hx rfl (hb hby d10_21) rfl ?_
    show Steps p.tables e below (T8.setTop (mkF m 22 #[.val (.ref a)] [(.int ((1 : Int64).toInt32)), (.int (0 : Int32)), (.ref ar), (.ref b1), (.ref b1)])) _
    rw [show (((1 : Int64).toInt32) : Int32) = (1 : Int32) from by decide]
    refine st10.trans ?_
    jvm_step X10.here [X10.here.top, hx, (hb hby d10_25), X10.method', Bd.returns, Value.isRef, FieldType.isReference]
    first | (intro acts; rw [hr _ acts rfl rfl rfl]) | rw [hr _ _ rfl rfl rfl]
    exact Steps.refl _
  · show Qtx21 Z a ar f cz sf c0 h0 n0 _ T10.heap _
    exact ⟨b1, b_e10, kb_e10, rfl, N10, kp14, p10_1, p10_2, p10_3, p10_4⟩
def Qtx22 (Z : State) (a : Addr) (ar : Addr) (f : Nat → Value) (cz : Int32) (sf : Value) (c0 : Int32) (c1 : Int32) (h0 : Heap) (n0 : Nat) (v : Option Value) (h : Heap) (L : List Loc) : Prop := ∃ so : Addr, ∃ b : Addr, ∃ kb : ClassId, v = some (.ref so) ∧ Fr n0 L ∧ Keep h0 h [] ∧ Exa Z h so "java/lang/String" ∧ Fld Z h so "java/lang/String" "value" "[B" (.ref b) ∧ Fld Z h so "java/lang/String" "coder" "B" (.int (0 : Int32)) ∧ Arv Z h b kb .byte (2 : Int32) [(.int (nar .byte (c0.toInt8.toInt32))), (.int (nar .byte (c1.toInt8.toInt32)))] (.int 0)
abbrev Rm_tx22 : Room := { frames := 4, cells := 2, slots := 6, locals := 68 }
set_option maxRecDepth 65536 in
set_option maxHeartbeats 40000000 in
theorem tx22 (l : Launch) (Z : State) (a0 : Array Value) (hw : ∀ d ∈ tables_1, d.before a0 Z = true) (ws : List Jvm.Cond) (a : Addr) (ar : Addr) (f : Nat → Value) (cz : Int32) (sf : Value) (c0 : Int32) (c1 : Int32) (h0 : Heap) (n0 : Nat) (Z0 : n0 ≤ h0.size) (F_kept_a : Fld Z h0 a "com/example/libsitemap/libsitemap/ValueText" "kept" "[C" (.ref ar)) (F_keptLength_a : Fld Z h0 a "com/example/libsitemap/libsitemap/ValueText" "keptLength" "I" (.int (2 : Int32))) (F_valueLength_a : Fld Z h0 a "com/example/libsitemap/libsitemap/ValueText" "valueLength" "J" (.long (2 : Int64))) (A_ar : Av Z h0 ar .char 64 f) (hf0 : f 0 = (.int c0)) (hf1 : f 1 = (.int c1)) (hl0 : Lat c0) (hl1 : Lat c1) (O_C : Sta Z Z.heap "java/lang/String" "COMPACT_STRINGS" "Z" (.int cz)) (hcz : ¬ (cz = (0 : Int32))) (O_S : Sta Z Z.heap "jdk/internal/util/Preconditions" "SIOOBE_FORMATTER" "Ljava/util/function/BiFunction;" sf) (hsf : sf.isRef = true) (X00 : Old Z n0 h0) :
    MetFree l my20 (head1 (Jvm.Cond.code my20 prog_46_method_6_code 1 (some (.object "java/lang/String")) :: ws) Rm_tx22) (fun aa_ U => aa_ = #[(.ref a)] ∧ Z.Warmed39 U.vm ∧ U.heap = h0) (fun _ _ _ _ _ => True) (fun _ U oo_ U' => ∃ v L, oo_ = .returned v ∧ Qtx22 Z a ar f cz sf c0 c1 h0 n0 v U'.heap L ∧ FrameEnd U oo_ U' L Rm_tx22.cells Rm_tx22.slots) := by
  refine MetFree.of_bodySF (plainFor_of_name pn_1) hisR ?_
  intro p e s m args below meth c s₁ Bd hml0 hP hK
  obtain ⟨rfl, hZ, hh⟩ := hP
  have hx := Bd.exec
  have hby := Bd.bytes
  have hml : c.maxLocals = 1 := hml0
  have hown : s.vm.findClass "com/example/libsitemap/libsitemap/ValueText" = some m.cls := findClass_of_methodNamed Bd.named
  have hnm := (name_of_methodNamed Bd.named Bd.method).1
  have X0 : Stand p l e Rm_tx22 s m #[(.ref a)] below meth c s₁ [] 0 0 := Stand.of_body Bd
  have e0 : s₁.heap = h0 := by rw [← hh, Bd.state]; rfl
  have N0 := Fr.nil n0
  have pre0 : ∀ tt_, Steps p.tables e below (s₁.setTop (mkF m 0 #[.val (.ref a)] [])) tt_ → Steps p.tables e below (s₁.setTop (entryFrame m #[(.ref a)] 1)) tt_ := fun tt_ kk_ => castTop (ef_10 m a) kk_
  obtain ⟨T1, h1, X1, e1, E1, A1, D1, -, st1⟩ := newO X0 hx hZ hown (hwd62 hw) (hwd63 hw) (hwd64 hw) e0 (g := (mkF m 0 #[.val (.ref a)] [])) rfl (hb hby d10_0) (by decide) (by decide)
  obtain ⟨b1, g1⟩ : ∃ zz_, zz_ = h0.size := ⟨_, rfl⟩
  rw [← g1] at A1 D1 st1
  have ne_a_b1 : a ≠ b1 := Nat.ne_of_lt (Nat.lt_of_lt_of_le F_kept_a.lt (Nat.le_of_eq g1.symm))
  have ne_ar_b1 : ar ≠ b1 := Nat.ne_of_lt (Nat.lt_of_lt_of_le A_ar.lt (Nat.le_of_eq g1.symm))
  have g_b1 : n0 ≤ b1 := Nat.le_trans Z0 (Nat.le_of_eq g1.symm)
  have sz_b1 : h0.size ≤ b1 := Nat.le_trans (Keep.refl h0 []).1 (Nat.le_of_eq g1.symm)
  have F_value_b1 : Fld Z h1 b1 "java/lang/String" "value" "[B" .null := D1 (Or.inr (hwd90 hw)) (ty := (.array .byte)) (by decide)
  have F_coder_b1 : Fld Z h1 b1 "java/lang/String" "coder" "B" (.int (0 : Int32)) := D1 (Or.inr (hwd91 hw)) (ty := .byte) (by decide)
  have f2_F_a_kept := (F_kept_a.ext E1)
  obtain ⟨T3, X3, e3, st3⟩ := getF X1 hx hZ hown (host := "") (Or.inl (hwd17 hw)) Via.refl e1 f2_F_a_kept (g := (mkF m 5 #[.val (.ref a)] [(.ref a), (.ref b1), (.ref b1)])) rfl rfl (hb hby d10_5)
  have f4_F_a_keptLength := (F_keptLength_a.ext E1)
  obtain ⟨T5, X5, e5, st5⟩ := getF X3 hx hZ hown (host := "") (Or.inl (hwd43 hw)) Via.refl e3 f4_F_a_keptLength (g := (mkF m 10 #[.val (.ref a)] [(.ref a), (.int (0 : Int32)), (.ref ar), (.ref b1), (.ref b1)])) rfl rfl (hb hby d10_10)
  have f6_F_a_valueLength := (F_valueLength_a.ext E1)
  obtain ⟨T7, X7, e7, st7⟩ := getF X5 hx hZ hown (host := "") (Or.inl (hwd45 hw)) Via.refl e5 f6_F_a_valueLength (g := (mkF m 15 #[.val (.ref a)] [(.ref a), (.long ((2 : Int32).toInt64)), (.int (0 : Int32)), (.ref ar), (.ref b1), (.ref b1)])) rfl rfl (hb hby d10_15)
  have sz9 : n0 ≤ h1.size := (Nat.le_trans Z0 E1.1)
  obtain ⟨_, _, ⟨T8, L8, k8, n8⟩, -, X8, ⟨Lc8, hQ8, l8, y8, z8⟩, st8⟩ := Jvm.LawKit.callS X7 hx (y := my19) hown (mvT hZ (hwd65 hw)) (mvT hZ (hwd66 hw)) (mvT hZ (hwd67 hw)) (mvT hZ (hwd68 hw)) (by decide) (backOf (W := 4) (minJa l Z a0 hw [] ((2 : Int32).toInt64) (2 : Int64) h1 n0 sz9 (by decide)) hZ (hwd68 hw) (hwd67 hw) (by decide) (by decide)) (g := (mkF m 18 #[.val (.ref a)] [(.long (2 : Int64)), (.long ((2 : Int32).toInt64)), (.int (0 : Int32)), (.ref ar), (.ref b1), (.ref b1)])) rfl (by rw [hml]; rfl) (argsL := [(.long ((2 : Int32).toInt64)), (.long (2 : Int64))]) (rest := [(.int (0 : Int32)), (.ref ar), (.ref b1), (.ref b1)]) (lenOf pd_11 rfl) rfl (by show 2 * 0 + _ ≤ _; exact Nat.le_of_eq rfl) (hb hby d10_18) (fun _ _ => ⟨rfl, e7, (by decide : 1 + 0 ≤ _), (by decide : 4 + 0 ≤ _)⟩)
  dsimp only [Pt.U, Pt.locs, Pt.cells, Pt.slots] at X8 l8 y8 z8 st8 hQ8
  subst l8 y8 z8
  obtain ⟨rfl, N8q, e8q⟩ := hQ8
  have N8 := Fr.app N0 N8q
  have f11_A_ar := (A_ar.ext E1)
  have old12 : Old Z n0 h1 := (X00.ext E1)
  have kp13 : Keep h0 h1 [] := ((Keep.refl h0 []).ext E1)
  obtain ⟨_, _, ⟨T10, L10, k10, n10⟩, -, X10, ⟨Lc10, hQ10, l10, y10, z10⟩, st10⟩ := X8.specialBack hx (y := my15) rfl hown (mvT hZ (hwd69 hw)) (mvT hZ (hwd70 hw)) (mvT hZ (hwd71 hw)) (by decide) (backOf (W := 1) (sc2 l Z a0 hw [] b1 ar f cz sf c0 c1 h1 n0 sz9 A1 F_value_b1 F_coder_b1 f11_A_ar hf0 hf1 hl0 hl1 g_b1 (Ne.symm ne_ar_b1) O_C hcz old12 O_S hsf) hZ (hwd71 hw) (hwd64 hw) (by decide) (by decide)) (g := (mkF m 22 #[.val (.ref a)] [(.int (2 : Int32)), (.int (0 : Int32)), (.ref ar), (.ref b1), (.ref b1)])) rfl (by rw [hml]; rfl) (Steps.refl _) (a := b1) (argsL := [(.ref ar), (.int (0 : Int32)), (.int (2 : Int32))]) (rest := [(.ref b1)]) (lenOf pd_12 rfl) rfl (by show 2 * 0 + _ ≤ _; exact Nat.le_of_eq rfl) (hb hby d10_22) (fun _ _ => ⟨rfl, e8q, (by decide : 1 + 1 ≤ _), (by decide : 4 + 2 ≤ _)⟩)
  dsimp only [Pt.U, Pt.locs, Pt.cells, Pt.slots] at X10 l10 y10 z10 st10 hQ10
  subst l10 y10 z10
  obtain ⟨b_e10, kb_e10, rfl, N10q, K10, p10_1, p10_2, p10_3, p10_4, sz_b_10⟩ := hQ10
  have N10 := Fr.app N8 N10q
  have kp14 : Keep h0 T10.heap [] := (kp13.trans K10 (allS (Or.inr sz_b1) all0))
  obtain ⟨fs, hr, hrun, hended, hW, hsame⟩ := X10.leave (v := some (.ref b1)) (fun h => by rw [Bd.returns] at h; cases h)
  refine ⟨_, _, pre0 _ ?_, hrun, hended, _, _, rfl, ?_, ⟨_, rfl⟩, hW, hsame.mono (by decide) (by decide)⟩
  · show Steps p.tables e below (s₁.setTop (mkF m 0 #[.val (.ref a)] [])) _
    refine st1 _ ?_
    refine XS.dup X1.here hx rfl (hb hby d10_3) rfl rfl ?_
    refine XS.aloadN X1.here hx rfl (hb hby d10_4) rfl rfl ?_
    refine st3 _ ?_
    refine XS.iconst X3.here hx rfl (hb hby d10_8) ?_
    refine XS.aloadN X3.here hx rfl (hb hby d10_9) rfl rfl ?_
    show Steps p.tables e below (T3.setTop (mkF m 10 #[.val (.ref a)] [(.ref a), (.int (0 : Int32)), (.ref ar), (.ref b1), (.ref b1)])) _
    refine st5 _ ?_
    refine XS.i2l X5.here hx rfl (hb hby d10_13) rfl ?_
    refine XS.aloadN X5.here hx rfl (hb hby d10_14) rfl rfl ?_
    refine st7 _ ?_
    refine st8 _ ?_
    refine XS.l2i X8.here hx rfl (hb hby d10_21) rfl ?_
    show Steps p.tables e below (T8.setTop (mkF m 22 #[.val (.ref a)] [(.int (((2 : Int32).toInt64).toInt32)), (.int (0 : Int32)), (.ref ar), (.ref b1), (.ref b1)])) _
    rw [show ((((2 : Int32).toInt64).toInt32) : Int32) = (2 : Int32) from by decide]
    refine st10.trans ?_
    jvm_step X10.here [X10.here.top, hx, (hb hby d10_25), X10.method', Bd.returns, Value.isRef, FieldType.isReference]
    first | (intro acts; rw [hr _ acts rfl rfl rfl]) | rw [hr _ _ rfl rfl rfl]
    exact Steps.refl _
  · show Qtx22 Z a ar f cz sf c0 c1 h0 n0 _ T10.heap _
    exact ⟨b1, b_e10, kb_e10, rfl, N10, kp14, p10_1, p10_2, p10_3, p10_4⟩
theorem d25_0 : decode jdk_42_method_152_code 0 = .ok (.getstatic 38, 3) := by decide +kernel
theorem d25_3 : decode jdk_42_method_152_code 3 = .ok (.ifCond .eq 10, 3) := by decide +kernel
theorem d25_6 : decode jdk_42_method_152_code 6 = .ok (.aload_n 0, 1) := by decide +kernel
theorem d25_7 : decode jdk_42_method_152_code 7 = .ok (.getfield 15, 3) := by decide +kernel
theorem d25_10 : decode jdk_42_method_152_code 10 = .ok (.goto 4, 3) := by decide +kernel
theorem d25_14 : decode jdk_42_method_152_code 14 = .ok (.ireturn, 1) := by decide +kernel
theorem ef_25 (m : MethodId) (x0 : Addr) : entryFrame m #[(.ref x0)] 1 = mkF m 0 #[.val (.ref x0)] [] := by first | (simp [entryFrame, mkF, argsToLocals, Value.category]; done) | rfl
def Qcod (Z : State) (so : Addr) (cz : Int32) (h0 : Heap) (n0 : Nat) (v : Option Value) (h : Heap) (L : List Loc) : Prop := v = some (.int (0 : Int32)) ∧ Fr n0 L ∧ h = h0
abbrev my21 : MethodName := ⟨"java/lang/String", "coder", "()B"⟩
abbrev Rm_cod : Room := { frames := 0, cells := 0, slots := 0, locals := 0 }
set_option maxRecDepth 65536 in
set_option maxHeartbeats 40000000 in
theorem cod (l : Launch) (Z : State) (a0 : Array Value) (hw : ∀ d ∈ tables_1, d.before a0 Z = true) (ws : List Jvm.Cond) (so : Addr) (cz : Int32) (h0 : Heap) (n0 : Nat) (Z0 : n0 ≤ h0.size) (F_coder_so : Fld Z h0 so "java/lang/String" "coder" "B" (.int (0 : Int32))) (O_C : Sta Z Z.heap "java/lang/String" "COMPACT_STRINGS" "Z" (.int cz)) (hcz : ¬ (cz = (0 : Int32))) (X00 : Old Z n0 h0) :
    MetFree l my21 (head1 (Jvm.Cond.code my21 jdk_42_method_152_code 1 (some .byte) :: ws) Rm_cod) (fun aa_ U => aa_ = #[(.ref so)] ∧ Z.Warmed39 U.vm ∧ U.heap = h0) (fun _ _ _ _ _ => True) (fun _ U oo_ U' => ∃ v L, oo_ = .returned v ∧ Qcod Z so cz h0 n0 v U'.heap L ∧ FrameEnd U oo_ U' L Rm_cod.cells Rm_cod.slots) := by
  refine MetFree.of_bodySF (plainFor_of_name pn_5) hisR ?_
  intro p e s m args below meth c s₁ Bd hml0 hP hK
  obtain ⟨rfl, hZ, hh⟩ := hP
  have hx := Bd.exec
  have hby := Bd.bytes
  have hml : c.maxLocals = 1 := hml0
  have hown : s.vm.findClass "java/lang/String" = some m.cls := findClass_of_methodNamed Bd.named
  have hnm := (name_of_methodNamed Bd.named Bd.method).1
  have X0 : Stand p l e Rm_cod s m #[(.ref so)] below meth c s₁ [] 0 0 := Stand.of_body Bd
  have e0 : s₁.heap = h0 := by rw [← hh, Bd.state]; rfl
  have N0 := Fr.nil n0
  have pre0 : ∀ tt_, Steps p.tables e below (s₁.setTop (mkF m 0 #[.val (.ref so)] [])) tt_ → Steps p.tables e below (s₁.setTop (entryFrame m #[(.ref so)] 1)) tt_ := fun tt_ kk_ => castTop (ef_25 m so) kk_
  obtain ⟨T1, X1, e1, st1⟩ := getS2 X0 hx hZ hown (host := "") (Or.inl (hwd113 hw)) Via.refl e0 (O_C.ext X00.2) (g := (mkF m 0 #[.val (.ref so)] [])) rfl (hb hby d25_0)
  obtain ⟨T2, X2, e2, st2⟩ := getF X1 hx hZ hown (host := "") (Or.inl (hwd95 hw)) Via.refl e1 F_coder_so (g := (mkF m 7 #[.val (.ref so)] [(.ref so)])) rfl rfl (hb hby d25_7)
  obtain ⟨fs, hr, hrun, hended, hW, hsame⟩ := X2.leave (v := some (.int (0 : Int32))) (fun h => by rw [Bd.returns] at h; cases h)
  refine ⟨_, _, pre0 _ ?_, hrun, hended, _, _, rfl, ?_, ⟨_, rfl⟩, hW, hsame.mono (by decide) (by decide)⟩
  · show Steps p.tables e below (s₁.setTop (mkF m 0 #[.val (.ref so)] [])) _
    refine st1 _ ?_
    refine XS.ifNo X1.here hx rfl (hb hby d25_3) rfl ((if0 _ _).trans (feq (show ¬ (cz = (0 : Int32)) from hcz)).1) ?_
    refine XS.aloadN X1.here hx rfl (hb hby d25_6) rfl rfl ?_
    refine st2 _ ?_
    refine XS.goto X2.here hx rfl (pc0 := 10) (pc' := 14) rfl (hb hby d25_10) (by decide) (by decide) ?_
    exact retN X2 hx (t := .byte) Bd.returns (by simp) (hb hby d25_14) hr
  · show Qcod Z so cz h0 n0 _ T2.heap _
    rw [e2]
    exact ⟨rfl, N0, rfl⟩
theorem d27_0 : decode jdk_42_method_154_code 0 = .ok (.getstatic 38, 3) := by decide +kernel
theorem d27_3 : decode jdk_42_method_154_code 3 = .ok (.ifCond .eq 14, 3) := by decide +kernel
theorem d27_6 : decode jdk_42_method_154_code 6 = .ok (.aload_n 0, 1) := by decide +kernel
theorem d27_7 : decode jdk_42_method_154_code 7 = .ok (.getfield 15, 3) := by decide +kernel
theorem d27_10 : decode jdk_42_method_154_code 10 = .ok (.ifCond .ne 7, 3) := by decide +kernel
theorem d27_13 : decode jdk_42_method_154_code 13 = .ok (.iconst 1, 1) := by decide +kernel
theorem d27_14 : decode jdk_42_method_154_code 14 = .ok (.goto 4, 3) := by decide +kernel
theorem d27_18 : decode jdk_42_method_154_code 18 = .ok (.ireturn, 1) := by decide +kernel
theorem ef_27 (m : MethodId) (x0 : Addr) : entryFrame m #[(.ref x0)] 1 = mkF m 0 #[.val (.ref x0)] [] := by first | (simp [entryFrame, mkF, argsToLocals, Value.category]; done) | rfl
def Qlat (Z : State) (so : Addr) (cz : Int32) (h0 : Heap) (n0 : Nat) (v : Option Value) (h : Heap) (L : List Loc) : Prop := v = some (.int (1 : Int32)) ∧ Fr n0 L ∧ h = h0
abbrev my22 : MethodName := ⟨"java/lang/String", "isLatin1", "()Z"⟩
abbrev Rm_lat : Room := { frames := 0, cells := 0, slots := 0, locals := 0 }
set_option maxRecDepth 65536 in
set_option maxHeartbeats 40000000 in
theorem lat (l : Launch) (Z : State) (a0 : Array Value) (hw : ∀ d ∈ tables_1, d.before a0 Z = true) (ws : List Jvm.Cond) (so : Addr) (cz : Int32) (h0 : Heap) (n0 : Nat) (Z0 : n0 ≤ h0.size) (F_coder_so : Fld Z h0 so "java/lang/String" "coder" "B" (.int (0 : Int32))) (O_C : Sta Z Z.heap "java/lang/String" "COMPACT_STRINGS" "Z" (.int cz)) (hcz : ¬ (cz = (0 : Int32))) (X00 : Old Z n0 h0) :
    MetFree l my22 (head1 (Jvm.Cond.code my22 jdk_42_method_154_code 1 (some .boolean) :: ws) Rm_lat) (fun aa_ U => aa_ = #[(.ref so)] ∧ Z.Warmed39 U.vm ∧ U.heap = h0) (fun _ _ _ _ _ => True) (fun _ U oo_ U' => ∃ v L, oo_ = .returned v ∧ Qlat Z so cz h0 n0 v U'.heap L ∧ FrameEnd U oo_ U' L Rm_lat.cells Rm_lat.slots) := by
  refine MetFree.of_bodySF (plainFor_of_name pn_5) hisR ?_
  intro p e s m args below meth c s₁ Bd hml0 hP hK
  obtain ⟨rfl, hZ, hh⟩ := hP
  have hx := Bd.exec
  have hby := Bd.bytes
  have hml : c.maxLocals = 1 := hml0
  have hown : s.vm.findClass "java/lang/String" = some m.cls := findClass_of_methodNamed Bd.named
  have hnm := (name_of_methodNamed Bd.named Bd.method).1
  have X0 : Stand p l e Rm_lat s m #[(.ref so)] below meth c s₁ [] 0 0 := Stand.of_body Bd
  have e0 : s₁.heap = h0 := by rw [← hh, Bd.state]; rfl
  have N0 := Fr.nil n0
  have pre0 : ∀ tt_, Steps p.tables e below (s₁.setTop (mkF m 0 #[.val (.ref so)] [])) tt_ → Steps p.tables e below (s₁.setTop (entryFrame m #[(.ref so)] 1)) tt_ := fun tt_ kk_ => castTop (ef_27 m so) kk_
  obtain ⟨T1, X1, e1, st1⟩ := getS2 X0 hx hZ hown (host := "") (Or.inl (hwd113 hw)) Via.refl e0 (O_C.ext X00.2) (g := (mkF m 0 #[.val (.ref so)] [])) rfl (hb hby d27_0)
  obtain ⟨T2, X2, e2, st2⟩ := getF X1 hx hZ hown (host := "") (Or.inl (hwd95 hw)) Via.refl e1 F_coder_so (g := (mkF m 7 #[.val (.ref so)] [(.ref so)])) rfl rfl (hb hby d27_7)
  obtain ⟨fs, hr, hrun, hended, hW, hsame⟩ := X2.leave (v := some (.int (1 : Int32))) (fun h => by rw [Bd.returns] at h; cases h)
  refine ⟨_, _, pre0 _ ?_, hrun, hended, _, _, rfl, ?_, ⟨_, rfl⟩, hW, hsame.mono (by decide) (by decide)⟩
  · show Steps p.tables e below (s₁.setTop (mkF m 0 #[.val (.ref so)] [])) _
    refine st1 _ ?_
    refine XS.ifNo X1.here hx rfl (hb hby d27_3) rfl ((if0 _ _).trans (feq (show ¬ (cz = (0 : Int32)) from hcz)).1) ?_
    refine XS.aloadN X1.here hx rfl (hb hby d27_6) rfl rfl ?_
    refine st2 _ ?_
    refine XS.ifNo X2.here hx rfl (hb hby d27_10) rfl ((if0 _ _).trans (teq (show (0 : Int32) = (0 : Int32) from rfl)).2) ?_
    refine XS.iconst X2.here hx rfl (hb hby d27_13) ?_
    show Steps p.tables e below (T2.setTop (mkF m 14 #[.val (.ref so)] [(.int (1 : Int32))])) _
    refine XS.goto X2.here hx rfl (pc0 := 14) (pc' := 18) rfl (hb hby d27_14) (by decide) (by decide) ?_
    exact retN X2 hx (t := .boolean) Bd.returns (by simp) (hb hby d27_18) hr
  · show Qlat Z so cz h0 n0 _ T2.heap _
    rw [e2]
    exact ⟨rfl, N0, rfl⟩
theorem d17_0 : decode jdk_42_method_55_code 0 = .ok (.aload_n 0, 1) := by decide +kernel
theorem d17_1 : decode jdk_42_method_55_code 1 = .ok (.getfield 9, 3) := by decide +kernel
theorem d17_4 : decode jdk_42_method_55_code 4 = .ok (.arraylength, 1) := by decide +kernel
theorem d17_5 : decode jdk_42_method_55_code 5 = .ok (.ifCond .ne 7, 3) := by decide +kernel
theorem d17_8 : decode jdk_42_method_55_code 8 = .ok (.iconst 1, 1) := by decide +kernel
theorem d17_9 : decode jdk_42_method_55_code 9 = .ok (.goto 4, 3) := by decide +kernel
theorem d17_13 : decode jdk_42_method_55_code 13 = .ok (.ireturn, 1) := by decide +kernel
theorem ef_17 (m : MethodId) (x0 : Addr) : entryFrame m #[(.ref x0)] 1 = mkF m 0 #[.val (.ref x0)] [] := by first | (simp [entryFrame, mkF, argsToLocals, Value.category]; done) | rfl
def Qsem (Z : State) (so : Addr) (b : Addr) (kb : ClassId) (h0 : Heap) (n0 : Nat) (v : Option Value) (h : Heap) (L : List Loc) : Prop := v = some (.int (1 : Int32)) ∧ Fr n0 L ∧ h = h0
abbrev my23 : MethodName := ⟨"java/lang/String", "isEmpty", "()Z"⟩
abbrev Rm_sem : Room := { frames := 0, cells := 0, slots := 0, locals := 0 }
set_option maxRecDepth 65536 in
set_option maxHeartbeats 40000000 in
theorem sem (l : Launch) (Z : State) (a0 : Array Value) (hw : ∀ d ∈ tables_1, d.before a0 Z = true) (ws : List Jvm.Cond) (so : Addr) (b : Addr) (kb : ClassId) (h0 : Heap) (n0 : Nat) (Z0 : n0 ≤ h0.size) (F_value_so : Fld Z h0 so "java/lang/String" "value" "[B" (.ref b)) (V_b : Arv Z h0 b kb .byte (0 : Int32) [] (.int 0)) :
    MetFree l my23 (head1 (Jvm.Cond.code my23 jdk_42_method_55_code 1 (some .boolean) :: ws) Rm_sem) (fun aa_ U => aa_ = #[(.ref so)] ∧ Z.Warmed39 U.vm ∧ U.heap = h0) (fun _ _ _ _ _ => True) (fun _ U oo_ U' => ∃ v L, oo_ = .returned v ∧ Qsem Z so b kb h0 n0 v U'.heap L ∧ FrameEnd U oo_ U' L Rm_sem.cells Rm_sem.slots) := by
  refine MetFree.of_bodySF (plainFor_of_name pn_5) hisR ?_
  intro p e s m args below meth c s₁ Bd hml0 hP hK
  obtain ⟨rfl, hZ, hh⟩ := hP
  have hx := Bd.exec
  have hby := Bd.bytes
  have hml : c.maxLocals = 1 := hml0
  have hown : s.vm.findClass "java/lang/String" = some m.cls := findClass_of_methodNamed Bd.named
  have hnm := (name_of_methodNamed Bd.named Bd.method).1
  have X0 : Stand p l e Rm_sem s m #[(.ref so)] below meth c s₁ [] 0 0 := Stand.of_body Bd
  have e0 : s₁.heap = h0 := by rw [← hh, Bd.state]; rfl
  have N0 := Fr.nil n0
  have pre0 : ∀ tt_, Steps p.tables e below (s₁.setTop (mkF m 0 #[.val (.ref so)] [])) tt_ → Steps p.tables e below (s₁.setTop (entryFrame m #[(.ref so)] 1)) tt_ := fun tt_ kk_ => castTop (ef_17 m so) kk_
  obtain ⟨T1, X1, e1, st1⟩ := getF X0 hx hZ hown (host := "") (Or.inl (hwd94 hw)) Via.refl e0 F_value_so (g := (mkF m 1 #[.val (.ref so)] [(.ref so)])) rfl rfl (hb hby d17_1)
  obtain ⟨cl2, Ar2, -, S2, M2, -, -⟩ := id V_b
  obtain ⟨fs, hr, hrun, hended, hW, hsame⟩ := X1.leave (v := some (.int (1 : Int32))) (fun h => by rw [Bd.returns] at h; cases h)
  refine ⟨_, _, pre0 _ ?_, hrun, hended, _, _, rfl, ?_, ⟨_, rfl⟩, hW, hsame.mono (by decide) (by decide)⟩
  · show Steps p.tables e below (s₁.setTop (mkF m 0 #[.val (.ref so)] [])) _
    refine XS.aloadN X0.here hx rfl (hb hby d17_0) rfl rfl ?_
    refine st1 _ ?_
    refine X1.arraylength hx (by rw [e1]; exact Ar2.1) (State.isArrayOf_alike hZ.alike Ar2.2.1) (g := (mkF m 4 #[.val (.ref so)] [(.ref b)])) rfl rfl (hb hby d17_4) _ ?_
    rw [len_of S2 M2]
    refine XS.ifNo X1.here hx rfl (hb hby d17_5) rfl ((if0 _ _).trans (teq (show (0 : Int32) = (0 : Int32) from rfl)).2) ?_
    refine XS.iconst X1.here hx rfl (hb hby d17_8) ?_
    refine XS.goto X1.here hx rfl (pc0 := 9) (pc' := 13) rfl (hb hby d17_9) (by decide) (by decide) ?_
    show Steps p.tables e below (T1.setTop (mkF m 13 #[.val (.ref so)] [(.int (1 : Int32))])) _
    exact retN X1 hx (t := .boolean) Bd.returns (by simp) (hb hby d17_13) hr
  · show Qsem Z so b kb h0 n0 _ T1.heap _
    rw [e1]
    exact ⟨rfl, N0, rfl⟩
theorem hwd129 {Z : State} {a0 : Array Value} (hw : ∀ d ∈ tables_1, d.before a0 Z = true) : (Jvm.Cond.methodLink "java/lang/String" (335 : Nat) ({ cls := "java/lang/String", name := "coder", desc := "()B" } : Jvm.MethodName)).before a0 Z = true := hw _ (List.mem_of_getElem? (i := 129) rfl)
theorem hwd133 {Z : State} {a0 : Array Value} (hw : ∀ d ∈ tables_1, d.before a0 Z = true) : (Jvm.Cond.code ({ cls := "java/lang/String", name := "coder", desc := "()B" } : Jvm.MethodName) jdk_42_method_152_code (1 : Nat) (Option.some Jvm.ClassFile.FieldType.byte)).before a0 Z = true := hw _ (List.mem_of_getElem? (i := 133) rfl)
theorem pd_13 : parseMethodDescriptor "()B" = some ⟨[], some .byte⟩ := by decide +kernel
theorem hwd132 {Z : State} {a0 : Array Value} (hw : ∀ d ∈ tables_1, d.before a0 Z = true) : (Jvm.Cond.selects "java/lang/String" ({ cls := "java/lang/String", name := "coder", desc := "()B" } : Jvm.MethodName) ({ cls := "java/lang/String", name := "coder", desc := "()B" } : Jvm.MethodName)).before a0 Z = true := hw _ (List.mem_of_getElem? (i := 132) rfl)
theorem hwd130 {Z : State} {a0 : Array Value} (hw : ∀ d ∈ tables_1, d.before a0 Z = true) : (Jvm.Cond.declares ({ cls := "java/lang/String", name := "coder", desc := "()B" } : Jvm.MethodName)).before a0 Z = true := hw _ (List.mem_of_getElem? (i := 130) rfl)
theorem hwd131 {Z : State} {a0 : Array Value} (hw : ∀ d ∈ tables_1, d.before a0 Z = true) : (Jvm.Cond.instanceMethod ({ cls := "java/lang/String", name := "coder", desc := "()B" } : Jvm.MethodName)).before a0 Z = true := hw _ (List.mem_of_getElem? (i := 131) rfl)
theorem d24_0 : decode jdk_42_method_54_code 0 = .ok (.aload_n 0, 1) := by decide +kernel
theorem d24_1 : decode jdk_42_method_54_code 1 = .ok (.getfield 9, 3) := by decide +kernel
theorem d24_4 : decode jdk_42_method_54_code 4 = .ok (.arraylength, 1) := by decide +kernel
theorem d24_5 : decode jdk_42_method_54_code 5 = .ok (.aload_n 0, 1) := by decide +kernel
theorem d24_6 : decode jdk_42_method_54_code 6 = .ok (.invokevirtual 335, 3) := by decide +kernel
theorem d24_9 : decode jdk_42_method_54_code 9 = .ok (.ishr, 1) := by decide +kernel
theorem d24_10 : decode jdk_42_method_54_code 10 = .ok (.ireturn, 1) := by decide +kernel
theorem ef_24 (m : MethodId) (x0 : Addr) : entryFrame m #[(.ref x0)] 1 = mkF m 0 #[.val (.ref x0)] [] := by first | (simp [entryFrame, mkF, argsToLocals, Value.category]; done) | rfl
def Qsle1 (Z : State) (so : Addr) (b : Addr) (kb : ClassId) (cz : Int32) (c0 : Int32) (h0 : Heap) (n0 : Nat) (v : Option Value) (h : Heap) (L : List Loc) : Prop := v = some (.int (1 : Int32)) ∧ Fr n0 L ∧ h = h0
abbrev my24 : MethodName := ⟨"java/lang/String", "length", "()I"⟩
abbrev Rm_sle1 : Room := { frames := 1, cells := 0, slots := 0, locals := 13 }
set_option maxRecDepth 65536 in
set_option maxHeartbeats 40000000 in
theorem sle1 (l : Launch) (Z : State) (a0 : Array Value) (hw : ∀ d ∈ tables_1, d.before a0 Z = true) (ws : List Jvm.Cond) (so : Addr) (b : Addr) (kb : ClassId) (cz : Int32) (c0 : Int32) (h0 : Heap) (n0 : Nat) (Z0 : n0 ≤ h0.size) (E_so : Exa Z h0 so "java/lang/String") (F_value_so : Fld Z h0 so "java/lang/String" "value" "[B" (.ref b)) (F_coder_so : Fld Z h0 so "java/lang/String" "coder" "B" (.int (0 : Int32))) (V_b : Arv Z h0 b kb .byte (1 : Int32) [(.int (nar .byte (c0.toInt8.toInt32)))] (.int 0)) (O_C : Sta Z Z.heap "java/lang/String" "COMPACT_STRINGS" "Z" (.int cz)) (hcz : ¬ (cz = (0 : Int32))) (X00 : Old Z n0 h0) :
    MetFree l my24 (head1 (Jvm.Cond.code my24 jdk_42_method_54_code 1 (some .int) :: ws) Rm_sle1) (fun aa_ U => aa_ = #[(.ref so)] ∧ Z.Warmed39 U.vm ∧ U.heap = h0) (fun _ _ _ _ _ => True) (fun _ U oo_ U' => ∃ v L, oo_ = .returned v ∧ Qsle1 Z so b kb cz c0 h0 n0 v U'.heap L ∧ FrameEnd U oo_ U' L Rm_sle1.cells Rm_sle1.slots) := by
  refine MetFree.of_bodySF (plainFor_of_name pn_5) hisR ?_
  intro p e s m args below meth c s₁ Bd hml0 hP hK
  obtain ⟨rfl, hZ, hh⟩ := hP
  have hx := Bd.exec
  have hby := Bd.bytes
  have hml : c.maxLocals = 1 := hml0
  have hown : s.vm.findClass "java/lang/String" = some m.cls := findClass_of_methodNamed Bd.named
  have hnm := (name_of_methodNamed Bd.named Bd.method).1
  have X0 : Stand p l e Rm_sle1 s m #[(.ref so)] below meth c s₁ [] 0 0 := Stand.of_body Bd
  have e0 : s₁.heap = h0 := by rw [← hh, Bd.state]; rfl
  have N0 := Fr.nil n0
  have pre0 : ∀ tt_, Steps p.tables e below (s₁.setTop (mkF m 0 #[.val (.ref so)] [])) tt_ → Steps p.tables e below (s₁.setTop (entryFrame m #[(.ref so)] 1)) tt_ := fun tt_ kk_ => castTop (ef_24 m so) kk_
  obtain ⟨T1, X1, e1, st1⟩ := getF X0 hx hZ hown (host := "") (Or.inl (hwd94 hw)) Via.refl e0 F_value_so (g := (mkF m 1 #[.val (.ref so)] [(.ref so)])) rfl rfl (hb hby d24_1)
  obtain ⟨cl2, Ar2, -, S2, M2, -, -⟩ := id V_b
  obtain ⟨cq3, kq3, q3a, q3b, q3c⟩ := isOf hZ e1 E_so
  obtain ⟨_, _, ⟨T3, L3, k3, n3⟩, -, X3, ⟨Lc3, hQ3, l3, y3, z3⟩, st3⟩ := X1.virtualBack hx (y := my21) (z := my21) hown (mvT hZ (hwd129 hw)) (mvT hZ (hwd130 hw)) (notFace_of_selects (args := #[]) (mvT hZ (hwd132 hw))) (mvT hZ (hwd132 hw)) (mvT hZ (hwd131 hw)) (by decide) (backOf (W := 1) (cod l Z a0 hw [] so cz h0 n0 Z0 F_coder_so O_C hcz X00) hZ (hwd133 hw) (hwd64 hw) (by decide) (by decide)) q3a q3c (g := (mkF m 6 #[.val (.ref so)] [(.ref so), (.int (1 : Int32))])) rfl (by rw [hml]; rfl) (Steps.refl _) (argsL := []) (rest := [(.int (1 : Int32))]) (lenOf pd_13 rfl) rfl (by show 2 * 0 + _ ≤ _; exact Nat.le_of_eq rfl) (hb hby d24_6) (fun _ _ => ⟨rfl, e1, (by decide : 0 + 0 ≤ _), (by decide : 0 + 0 ≤ _)⟩)
  dsimp only [Pt.U, Pt.locs, Pt.cells, Pt.slots] at X3 l3 y3 z3 st3 hQ3
  subst l3 y3 z3
  obtain ⟨rfl, N3q, e3q⟩ := hQ3
  have N3 := Fr.app N0 N3q
  obtain ⟨fs, hr, hrun, hended, hW, hsame⟩ := X3.leave (v := some (.int ((1 : Int32) >>> ((0 : Int32) &&& 31)))) (fun h => by rw [Bd.returns] at h; cases h)
  refine ⟨_, _, pre0 _ ?_, hrun, hended, _, _, rfl, ?_, ⟨_, rfl⟩, hW, hsame.mono (by decide) (by decide)⟩
  · show Steps p.tables e below (s₁.setTop (mkF m 0 #[.val (.ref so)] [])) _
    refine XS.aloadN X0.here hx rfl (hb hby d24_0) rfl rfl ?_
    refine st1 _ ?_
    refine X1.arraylength hx (by rw [e1]; exact Ar2.1) (State.isArrayOf_alike hZ.alike Ar2.2.1) (g := (mkF m 4 #[.val (.ref so)] [(.ref b)])) rfl rfl (hb hby d24_4) _ ?_
    rw [len_of S2 M2]
    refine XS.aloadN X1.here hx rfl (hb hby d24_5) rfl rfl ?_
    refine st3.trans ?_
    refine XS.ishr X3.here hx rfl (hb hby d24_9) rfl ?_
    show Steps p.tables e below (T3.setTop (mkF m 10 #[.val (.ref so)] [(.int ((1 : Int32) >>> ((0 : Int32) &&& 31)))])) _
    exact retI X3 hx Bd.returns (hb hby d24_10) hr
  · show Qsle1 Z so b kb cz c0 h0 n0 _ T3.heap _
    rw [e3q]
    exact ⟨congrArg (fun z => some (Value.int z)) (by decide), N3, rfl⟩
theorem d30_0 : decode jdk_41_method_11_code 0 = .ok (.iload_n 0, 1) := by decide +kernel
theorem d30_1 : decode jdk_41_method_11_code 1 = .ok (.ifCond .lt 8, 3) := by decide +kernel
theorem d30_4 : decode jdk_41_method_11_code 4 = .ok (.iload_n 0, 1) := by decide +kernel
theorem d30_5 : decode jdk_41_method_11_code 5 = .ok (.iload_n 1, 1) := by decide +kernel
theorem d30_6 : decode jdk_41_method_11_code 6 = .ok (.if_icmp .lt 10, 3) := by decide +kernel
theorem d30_16 : decode jdk_41_method_11_code 16 = .ok (.iload_n 0, 1) := by decide +kernel
theorem d30_17 : decode jdk_41_method_11_code 17 = .ok (.ireturn, 1) := by decide +kernel
theorem ef_30 (m : MethodId) (x0 : Int32) (x1 : Int32) (x2 : Value) (hx2 : x2.isRef = true) : entryFrame m #[(.int x0), (.int x1), x2] 3 = mkF m 0 #[.val (.int x0), .val (.int x1), .val x2] [] := by cases x2 <;> first | rfl | (simp [Value.isRef] at hx2)
def Qpci01 (Z : State) (sf : Value) (h0 : Heap) (n0 : Nat) (v : Option Value) (h : Heap) (L : List Loc) : Prop := v = some (.int (0 : Int32)) ∧ Fr n0 L ∧ h = h0
abbrev my25 : MethodName := ⟨"jdk/internal/util/Preconditions", "checkIndex", "(IILjava/util/function/BiFunction;)I"⟩
abbrev Rm_pci01 : Room := { frames := 0, cells := 0, slots := 0, locals := 0 }
set_option maxRecDepth 65536 in
set_option maxHeartbeats 40000000 in
theorem pci01 (l : Launch) (Z : State) (a0 : Array Value) (hw : ∀ d ∈ tables_1, d.before a0 Z = true) (ws : List Jvm.Cond) (sf : Value) (h0 : Heap) (n0 : Nat) (Z0 : n0 ≤ h0.size) (hsf : sf.isRef = true) :
    MetFree l my25 (head1 (Jvm.Cond.code my25 jdk_41_method_11_code 3 (some .int) :: ws) Rm_pci01) (fun aa_ U => aa_ = #[(.int (0 : Int32)), (.int (1 : Int32)), sf] ∧ Z.Warmed39 U.vm ∧ U.heap = h0) (fun _ _ _ _ _ => True) (fun _ U oo_ U' => ∃ v L, oo_ = .returned v ∧ Qpci01 Z sf h0 n0 v U'.heap L ∧ FrameEnd U oo_ U' L Rm_pci01.cells Rm_pci01.slots) := by
  refine MetFree.of_bodySF (plainFor_of_name pn_4) hisR ?_
  intro p e s m args below meth c s₁ Bd hml0 hP hK
  obtain ⟨rfl, hZ, hh⟩ := hP
  have hx := Bd.exec
  have hby := Bd.bytes
  have hml : c.maxLocals = 3 := hml0
  have hown : s.vm.findClass "jdk/internal/util/Preconditions" = some m.cls := findClass_of_methodNamed Bd.named
  have hnm := (name_of_methodNamed Bd.named Bd.method).1
  have X0 : Stand p l e Rm_pci01 s m #[(.int (0 : Int32)), (.int (1 : Int32)), sf] below meth c s₁ [] 0 0 := Stand.of_body Bd
  have e0 : s₁.heap = h0 := by rw [← hh, Bd.state]; rfl
  have N0 := Fr.nil n0
  have pre0 : ∀ tt_, Steps p.tables e below (s₁.setTop (mkF m 0 #[.val (.int (0 : Int32)), .val (.int (1 : Int32)), .val sf] [])) tt_ → Steps p.tables e below (s₁.setTop (entryFrame m #[(.int (0 : Int32)), (.int (1 : Int32)), sf] 3)) tt_ := fun tt_ kk_ => castTop (ef_30 m (0 : Int32) (1 : Int32) sf hsf) kk_
  obtain ⟨fs, hr, hrun, hended, hW, hsame⟩ := X0.leave (v := some (.int (0 : Int32))) (fun h => by rw [Bd.returns] at h; cases h)
  refine ⟨_, _, pre0 _ ?_, hrun, hended, _, _, rfl, ?_, ⟨_, rfl⟩, hW, hsame.mono (by decide) (by decide)⟩
  · show Steps p.tables e below (s₁.setTop (mkF m 0 #[.val (.int (0 : Int32)), .val (.int (1 : Int32)), .val sf] [])) _
    refine XS.iloadN X0.here hx rfl (hb hby d30_0) rfl ?_
    refine XS.ifNo X0.here hx rfl (hb hby d30_1) rfl ((if0 _ _).trans (flt (show ¬ ((0 : Int32) < (0 : Int32)) from (by decide))).1) ?_
    refine XS.iloadN X0.here hx rfl (hb hby d30_4) rfl ?_
    refine XS.iloadN X0.here hx rfl (hb hby d30_5) rfl ?_
    refine XS.icmpYes X0.here hx rfl (pc0 := 6) (pc' := 16) rfl (hb hby d30_6) rfl (tlt (show (0 : Int32) < (1 : Int32) from (by decide))).1 (by decide) (by decide) ?_
    refine XS.iloadN X0.here hx rfl (hb hby d30_16) rfl ?_
    show Steps p.tables e below (s₁.setTop (mkF m 17 #[.val (.int (0 : Int32)), .val (.int (1 : Int32)), .val sf] [(.int (0 : Int32))])) _
    exact retI X0 hx Bd.returns (hb hby d30_17) hr
  · show Qpci01 Z sf h0 n0 _ s₁.heap _
    rw [e0]
    exact ⟨rfl, N0, rfl⟩
theorem hwd151 {Z : State} {a0 : Array Value} (hw : ∀ d ∈ tables_1, d.before a0 Z = true) : (Jvm.Cond.methodLink "java/lang/String" (1059 : Nat) ({ cls := "jdk/internal/util/Preconditions", name := "checkIndex", desc := "(IILjava/util/function/BiFunction;)I" } : Jvm.MethodName)).before a0 Z = true := hw _ (List.mem_of_getElem? (i := 151) rfl)
theorem hwd153 {Z : State} {a0 : Array Value} (hw : ∀ d ∈ tables_1, d.before a0 Z = true) : (Jvm.Cond.code ({ cls := "jdk/internal/util/Preconditions", name := "checkIndex", desc := "(IILjava/util/function/BiFunction;)I" } : Jvm.MethodName) jdk_41_method_11_code (3 : Nat) (Option.some Jvm.ClassFile.FieldType.int)).before a0 Z = true := hw _ (List.mem_of_getElem? (i := 153) rfl)
theorem pd_14 : parseMethodDescriptor "(IILjava/util/function/BiFunction;)I" = some ⟨[.int, .int, (.object "java/util/function/BiFunction")], some .int⟩ := by decide +kernel
theorem hwd152 {Z : State} {a0 : Array Value} (hw : ∀ d ∈ tables_1, d.before a0 Z = true) : (Jvm.Cond.static ({ cls := "jdk/internal/util/Preconditions", name := "checkIndex", desc := "(IILjava/util/function/BiFunction;)I" } : Jvm.MethodName)).before a0 Z = true := hw _ (List.mem_of_getElem? (i := 152) rfl)
theorem d29_0 : decode jdk_42_method_155_code 0 = .ok (.iload_n 0, 1) := by decide +kernel
theorem d29_1 : decode jdk_42_method_155_code 1 = .ok (.iload_n 1, 1) := by decide +kernel
theorem d29_2 : decode jdk_42_method_155_code 2 = .ok (.getstatic 1053, 3) := by decide +kernel
theorem d29_5 : decode jdk_42_method_155_code 5 = .ok (.invokestatic 1059, 3) := by decide +kernel
theorem d29_8 : decode jdk_42_method_155_code 8 = .ok (.pop, 1) := by decide +kernel
theorem d29_9 : decode jdk_42_method_155_code 9 = .ok (.return_, 1) := by decide +kernel
theorem ef_29 (m : MethodId) (x0 : Int32) (x1 : Int32) : entryFrame m #[(.int x0), (.int x1)] 2 = mkF m 0 #[.val (.int x0), .val (.int x1)] [] := by first | (simp [entryFrame, mkF, argsToLocals, Value.category]; done) | rfl
def Qsci01 (Z : State) (sf : Value) (h0 : Heap) (n0 : Nat) (v : Option Value) (h : Heap) (L : List Loc) : Prop := v = none ∧ Fr n0 L ∧ h = h0
abbrev my26 : MethodName := ⟨"java/lang/String", "checkIndex", "(II)V"⟩
abbrev Rm_sci01 : Room := { frames := 1, cells := 0, slots := 0, locals := 14 }
set_option maxRecDepth 65536 in
set_option maxHeartbeats 40000000 in
theorem sci01 (l : Launch) (Z : State) (a0 : Array Value) (hw : ∀ d ∈ tables_1, d.before a0 Z = true) (ws : List Jvm.Cond) (sf : Value) (h0 : Heap) (n0 : Nat) (Z0 : n0 ≤ h0.size) (O_S : Sta Z Z.heap "jdk/internal/util/Preconditions" "SIOOBE_FORMATTER" "Ljava/util/function/BiFunction;" sf) (hsf : sf.isRef = true) (X00 : Old Z n0 h0) :
    MetFree l my26 (head1 (Jvm.Cond.code my26 jdk_42_method_155_code 2 none :: ws) Rm_sci01) (fun aa_ U => aa_ = #[(.int (0 : Int32)), (.int (1 : Int32))] ∧ Z.Warmed39 U.vm ∧ U.heap = h0) (fun _ _ _ _ _ => True) (fun _ U oo_ U' => ∃ v L, oo_ = .returned v ∧ Qsci01 Z sf h0 n0 v U'.heap L ∧ FrameEnd U oo_ U' L Rm_sci01.cells Rm_sci01.slots) := by
  refine MetFree.of_bodySF (plainFor_of_name pn_5) hisR ?_
  intro p e s m args below meth c s₁ Bd hml0 hP hK
  obtain ⟨rfl, hZ, hh⟩ := hP
  have hx := Bd.exec
  have hby := Bd.bytes
  have hml : c.maxLocals = 2 := hml0
  have hown : s.vm.findClass "java/lang/String" = some m.cls := findClass_of_methodNamed Bd.named
  have hnm := (name_of_methodNamed Bd.named Bd.method).1
  have X0 : Stand p l e Rm_sci01 s m #[(.int (0 : Int32)), (.int (1 : Int32))] below meth c s₁ [] 0 0 := Stand.of_body Bd
  have e0 : s₁.heap = h0 := by rw [← hh, Bd.state]; rfl
  have N0 := Fr.nil n0
  have pre0 : ∀ tt_, Steps p.tables e below (s₁.setTop (mkF m 0 #[.val (.int (0 : Int32)), .val (.int (1 : Int32))] [])) tt_ → Steps p.tables e below (s₁.setTop (entryFrame m #[(.int (0 : Int32)), (.int (1 : Int32))] 2)) tt_ := fun tt_ kk_ => castTop (ef_29 m (0 : Int32) (1 : Int32)) kk_
  obtain ⟨T1, X1, e1, st1⟩ := getS2 X0 hx hZ hown (host := "") (Or.inl (hwd78 hw)) Via.refl e0 (O_S.ext X00.2) (g := (mkF m 2 #[.val (.int (0 : Int32)), .val (.int (1 : Int32))] [(.int (1 : Int32)), (.int (0 : Int32))])) rfl (hb hby d29_2)
  obtain ⟨_, _, ⟨T2, L2, k2, n2⟩, -, X2, ⟨Lc2, hQ2, l2, y2, z2⟩, st2⟩ := Jvm.LawKit.callS X1 hx (y := my25) hown (mvT hZ (hwd151 hw)) (mvT hZ (hwd152 hw)) (mvT hZ (hwd79 hw)) (mvT hZ (hwd153 hw)) (by decide) (backOf (W := 0) (pci01 l Z a0 hw [] sf h0 n0 Z0 hsf) hZ (hwd153 hw) (hwd79 hw) (by decide) (by decide)) (g := (mkF m 5 #[.val (.int (0 : Int32)), .val (.int (1 : Int32))] [sf, (.int (1 : Int32)), (.int (0 : Int32))])) rfl (by rw [hml]; rfl) (argsL := [(.int (0 : Int32)), (.int (1 : Int32)), sf]) (rest := []) (lenOf pd_14 rfl) rfl (by show 2 * 0 + _ ≤ _; exact Nat.le_of_eq rfl) (hb hby d29_5) (fun _ _ => ⟨rfl, e1, (by decide : 0 + 0 ≤ _), (by decide : 0 + 0 ≤ _)⟩)
  dsimp only [Pt.U, Pt.locs, Pt.cells, Pt.slots] at X2 l2 y2 z2 st2 hQ2
  subst l2 y2 z2
  obtain ⟨rfl, N2q, e2q⟩ := hQ2
  have N2 := Fr.app N0 N2q
  obtain ⟨fs, hr, hrun, hended, hW, hsame⟩ := X2.leave (v := none) (fun _ => rfl)
  refine ⟨_, _, pre0 _ ?_, hrun, hended, _, _, rfl, ?_, ⟨_, rfl⟩, hW, hsame.mono (by decide) (by decide)⟩
  · show Steps p.tables e below (s₁.setTop (mkF m 0 #[.val (.int (0 : Int32)), .val (.int (1 : Int32))] [])) _
    refine XS.iloadN X0.here hx rfl (hb hby d29_0) rfl ?_
    refine XS.iloadN X0.here hx rfl (hb hby d29_1) rfl ?_
    refine st1 _ ?_
    refine st2 _ ?_
    refine XS.pop X2.here hx rfl (hb hby d29_8) rfl rfl ?_
    exact X2.returnOut hx Bd.returns (hb hby d29_9) hr
  · show Qsci01 Z sf h0 n0 _ T2.heap _
    rw [e2q]
    exact ⟨rfl, N2, rfl⟩
theorem hwd148 {Z : State} {a0 : Array Value} (hw : ∀ d ∈ tables_1, d.before a0 Z = true) : (Jvm.Cond.methodLink "java/lang/StringLatin1" (9 : Nat) ({ cls := "java/lang/String", name := "checkIndex", desc := "(II)V" } : Jvm.MethodName)).before a0 Z = true := hw _ (List.mem_of_getElem? (i := 148) rfl)
theorem hwd150 {Z : State} {a0 : Array Value} (hw : ∀ d ∈ tables_1, d.before a0 Z = true) : (Jvm.Cond.code ({ cls := "java/lang/String", name := "checkIndex", desc := "(II)V" } : Jvm.MethodName) jdk_42_method_155_code (2 : Nat) (Option.none : Option Jvm.ClassFile.FieldType)).before a0 Z = true := hw _ (List.mem_of_getElem? (i := 150) rfl)
theorem pd_15 : parseMethodDescriptor "(II)V" = some ⟨[.int, .int], none⟩ := by decide +kernel
theorem hwd149 {Z : State} {a0 : Array Value} (hw : ∀ d ∈ tables_1, d.before a0 Z = true) : (Jvm.Cond.static ({ cls := "java/lang/String", name := "checkIndex", desc := "(II)V" } : Jvm.MethodName)).before a0 Z = true := hw _ (List.mem_of_getElem? (i := 149) rfl)
theorem d28_0 : decode jdk_43_method_2_code 0 = .ok (.iload_n 1, 1) := by decide +kernel
theorem d28_1 : decode jdk_43_method_2_code 1 = .ok (.aload_n 0, 1) := by decide +kernel
theorem d28_2 : decode jdk_43_method_2_code 2 = .ok (.arraylength, 1) := by decide +kernel
theorem d28_3 : decode jdk_43_method_2_code 3 = .ok (.invokestatic 9, 3) := by decide +kernel
theorem d28_6 : decode jdk_43_method_2_code 6 = .ok (.aload_n 0, 1) := by decide +kernel
theorem d28_7 : decode jdk_43_method_2_code 7 = .ok (.iload_n 1, 1) := by decide +kernel
theorem d28_8 : decode jdk_43_method_2_code 8 = .ok (.baload, 1) := by decide +kernel
theorem d28_9 : decode jdk_43_method_2_code 9 = .ok (.sipush 255, 3) := by decide +kernel
theorem d28_12 : decode jdk_43_method_2_code 12 = .ok (.iand, 1) := by decide +kernel
theorem d28_13 : decode jdk_43_method_2_code 13 = .ok (.i2c, 1) := by decide +kernel
theorem d28_14 : decode jdk_43_method_2_code 14 = .ok (.ireturn, 1) := by decide +kernel
theorem pn_8 : plainName "java/lang/StringLatin1" = true := by first | (simp [plainName, overriddenIn]; done) | decide +kernel
theorem ef_28 (m : MethodId) (x0 : Addr) (x1 : Int32) : entryFrame m #[(.ref x0), (.int x1)] 2 = mkF m 0 #[.val (.ref x0), .val (.int x1)] [] := by first | (simp [entryFrame, mkF, argsToLocals, Value.category]; done) | rfl
def Qlca01 (Z : State) (b : Addr) (kb : ClassId) (sf : Value) (c0 : Int32) (h0 : Heap) (n0 : Nat) (v : Option Value) (h : Heap) (L : List Loc) : Prop := v = some (.int c0) ∧ Fr n0 L ∧ h = h0
abbrev my27 : MethodName := ⟨"java/lang/StringLatin1", "charAt", "([BI)C"⟩
abbrev Rm_lca01 : Room := { frames := 2, cells := 0, slots := 0, locals := 27 }
set_option maxRecDepth 65536 in
set_option maxHeartbeats 40000000 in
theorem lca01 (l : Launch) (Z : State) (a0 : Array Value) (hw : ∀ d ∈ tables_1, d.before a0 Z = true) (ws : List Jvm.Cond) (b : Addr) (kb : ClassId) (sf : Value) (c0 : Int32) (h0 : Heap) (n0 : Nat) (Z0 : n0 ≤ h0.size) (V_b : Arv Z h0 b kb .byte (1 : Int32) [(.int (nar .byte (c0.toInt8.toInt32)))] (.int 0)) (hl0 : Lat c0) (O_S : Sta Z Z.heap "jdk/internal/util/Preconditions" "SIOOBE_FORMATTER" "Ljava/util/function/BiFunction;" sf) (hsf : sf.isRef = true) (X00 : Old Z n0 h0) :
    MetFree l my27 (head1 (Jvm.Cond.code my27 jdk_43_method_2_code 2 (some .char) :: ws) Rm_lca01) (fun aa_ U => aa_ = #[(.ref b), (.int (0 : Int32))] ∧ Z.Warmed39 U.vm ∧ U.heap = h0) (fun _ _ _ _ _ => True) (fun _ U oo_ U' => ∃ v L, oo_ = .returned v ∧ Qlca01 Z b kb sf c0 h0 n0 v U'.heap L ∧ FrameEnd U oo_ U' L Rm_lca01.cells Rm_lca01.slots) := by
  refine MetFree.of_bodySF (plainFor_of_name pn_8) hisR ?_
  intro p e s m args below meth c s₁ Bd hml0 hP hK
  obtain ⟨rfl, hZ, hh⟩ := hP
  have hx := Bd.exec
  have hby := Bd.bytes
  have hml : c.maxLocals = 2 := hml0
  have hown : s.vm.findClass "java/lang/StringLatin1" = some m.cls := findClass_of_methodNamed Bd.named
  have hnm := (name_of_methodNamed Bd.named Bd.method).1
  have X0 : Stand p l e Rm_lca01 s m #[(.ref b), (.int (0 : Int32))] below meth c s₁ [] 0 0 := Stand.of_body Bd
  have e0 : s₁.heap = h0 := by rw [← hh, Bd.state]; rfl
  have N0 := Fr.nil n0
  have pre0 : ∀ tt_, Steps p.tables e below (s₁.setTop (mkF m 0 #[.val (.ref b), .val (.int (0 : Int32))] [])) tt_ → Steps p.tables e below (s₁.setTop (entryFrame m #[(.ref b), (.int (0 : Int32))] 2)) tt_ := fun tt_ kk_ => castTop (ef_28 m b (0 : Int32)) kk_
  obtain ⟨cl1, Ar1, -, S1, M1, -, -⟩ := id V_b
  obtain ⟨_, _, ⟨T2, L2, k2, n2⟩, -, X2, ⟨Lc2, hQ2, l2, y2, z2⟩, st2⟩ := Jvm.LawKit.callS X0 hx (y := my26) hown (mvT hZ (hwd148 hw)) (mvT hZ (hwd149 hw)) (mvT hZ (hwd64 hw)) (mvT hZ (hwd150 hw)) (by decide) (backOf (W := 0) (sci01 l Z a0 hw [] sf h0 n0 Z0 O_S hsf X00) hZ (hwd150 hw) (hwd64 hw) (by decide) (by decide)) (g := (mkF m 3 #[.val (.ref b), .val (.int (0 : Int32))] [(.int (1 : Int32)), (.int (0 : Int32))])) rfl (by rw [hml]; rfl) (argsL := [(.int (0 : Int32)), (.int (1 : Int32))]) (rest := []) (lenOf pd_15 rfl) rfl (by show 2 * 0 + _ ≤ _; exact Nat.le_of_eq rfl) (hb hby d28_3) (fun _ _ => ⟨rfl, e0, (by decide : 0 + 0 ≤ _), (by decide : 0 + 0 ≤ _)⟩)
  dsimp only [Pt.U, Pt.locs, Pt.cells, Pt.slots] at X2 l2 y2 z2 st2 hQ2
  subst l2 y2 z2
  obtain ⟨rfl, N2q, e2q⟩ := hQ2
  have N2 := Fr.app N0 N2q
  obtain ⟨cl3, Ar3, q3, S3, M3, H3, G3⟩ := id V_b
  have hin3 : ¬ ((0 : Int32) < 0 ∨ cl3.slots.size ≤ ((0 : Int32)).toNatClampNeg) := inb_of S3 ⟨by decide, by decide⟩
  have hat3 : cl3.slots[((0 : Int32)).toNatClampNeg]? = some (.int (nar .byte (c0.toInt8.toInt32))) := H3.at hin3 rfl
  obtain ⟨fs, hr, hrun, hended, hW, hsame⟩ := X2.leave (v := some (.int (nar .char (((nar .byte (c0.toInt8.toInt32)) &&& (255 : Int32)).toUInt32.toUInt16.toUInt32.toInt32)))) (fun h => by rw [Bd.returns] at h; cases h)
  refine ⟨_, _, pre0 _ ?_, hrun, hended, _, _, rfl, ?_, ⟨_, rfl⟩, hW, hsame.mono (by decide) (by decide)⟩
  · show Steps p.tables e below (s₁.setTop (mkF m 0 #[.val (.ref b), .val (.int (0 : Int32))] [])) _
    refine XS.iloadN X0.here hx rfl (hb hby d28_0) rfl ?_
    refine XS.aloadN X0.here hx rfl (hb hby d28_1) rfl rfl ?_
    refine X0.arraylength hx (by rw [e0]; exact Ar1.1) (State.isArrayOf_alike hZ.alike Ar1.2.1) (g := (mkF m 2 #[.val (.ref b), .val (.int (0 : Int32))] [(.ref b), (.int (0 : Int32))])) rfl rfl (hb hby d28_2) _ ?_
    rw [len_of S1 M1]
    refine st2 _ ?_
    refine XS.aloadN X2.here hx rfl (hb hby d28_6) rfl rfl ?_
    refine XS.iloadN X2.here hx rfl (hb hby d28_7) rfl ?_
    show Steps p.tables e below (T2.setTop (mkF m 8 #[.val (.ref b), .val (.int (0 : Int32))] [(.int (0 : Int32)), (.ref b)])) _
    refine X2.baloadBytes hx (j := (0 : Int32)) (v := (.int (nar .byte (c0.toInt8.toInt32)))) (by rw [e2q]; exact Ar3.1) (State.isArrayOf_alike hZ.alike Ar3.2.1) Ar3.2.2 hin3 hat3 (g := (mkF m 8 #[.val (.ref b), .val (.int (0 : Int32))] [(.int (0 : Int32)), (.ref b)])) rfl rfl (hb hby d28_8) _ ?_
    refine XS.sipush X2.here hx rfl (hb hby d28_9) ?_
    show Steps p.tables e below (T2.setTop (mkF m 12 #[.val (.ref b), .val (.int (0 : Int32))] [(.int (255 : Int32)), (.int (nar .byte (c0.toInt8.toInt32)))])) _
    refine XS.iand X2.here hx rfl (hb hby d28_12) rfl ?_
    refine XS.i2c X2.here hx rfl (hb hby d28_13) rfl ?_
    exact retN X2 hx (t := .char) Bd.returns (by simp) (hb hby d28_14) hr
  · show Qlca01 Z b kb sf c0 h0 n0 _ T2.heap _
    rw [e2q]
    exact ⟨congrArg (fun z => some (Value.int z)) (own_ca hl0), N2, rfl⟩
theorem hwd139 {Z : State} {a0 : Array Value} (hw : ∀ d ∈ tables_1, d.before a0 Z = true) : (Jvm.Cond.methodLink "java/lang/String" (492 : Nat) ({ cls := "java/lang/String", name := "isLatin1", desc := "()Z" } : Jvm.MethodName)).before a0 Z = true := hw _ (List.mem_of_getElem? (i := 139) rfl)
theorem hwd143 {Z : State} {a0 : Array Value} (hw : ∀ d ∈ tables_1, d.before a0 Z = true) : (Jvm.Cond.code ({ cls := "java/lang/String", name := "isLatin1", desc := "()Z" } : Jvm.MethodName) jdk_42_method_154_code (1 : Nat) (Option.some Jvm.ClassFile.FieldType.boolean)).before a0 Z = true := hw _ (List.mem_of_getElem? (i := 143) rfl)
theorem pd_16 : parseMethodDescriptor "()Z" = some ⟨[], some .boolean⟩ := by decide +kernel
theorem hwd142 {Z : State} {a0 : Array Value} (hw : ∀ d ∈ tables_1, d.before a0 Z = true) : (Jvm.Cond.selects "java/lang/String" ({ cls := "java/lang/String", name := "isLatin1", desc := "()Z" } : Jvm.MethodName) ({ cls := "java/lang/String", name := "isLatin1", desc := "()Z" } : Jvm.MethodName)).before a0 Z = true := hw _ (List.mem_of_getElem? (i := 142) rfl)
theorem hwd140 {Z : State} {a0 : Array Value} (hw : ∀ d ∈ tables_1, d.before a0 Z = true) : (Jvm.Cond.declares ({ cls := "java/lang/String", name := "isLatin1", desc := "()Z" } : Jvm.MethodName)).before a0 Z = true := hw _ (List.mem_of_getElem? (i := 140) rfl)
theorem hwd141 {Z : State} {a0 : Array Value} (hw : ∀ d ∈ tables_1, d.before a0 Z = true) : (Jvm.Cond.instanceMethod ({ cls := "java/lang/String", name := "isLatin1", desc := "()Z" } : Jvm.MethodName)).before a0 Z = true := hw _ (List.mem_of_getElem? (i := 141) rfl)
theorem hwd144 {Z : State} {a0 : Array Value} (hw : ∀ d ∈ tables_1, d.before a0 Z = true) : (Jvm.Cond.methodLink "java/lang/String" (495 : Nat) ({ cls := "java/lang/StringLatin1", name := "charAt", desc := "([BI)C" } : Jvm.MethodName)).before a0 Z = true := hw _ (List.mem_of_getElem? (i := 144) rfl)
theorem hwd147 {Z : State} {a0 : Array Value} (hw : ∀ d ∈ tables_1, d.before a0 Z = true) : (Jvm.Cond.code ({ cls := "java/lang/StringLatin1", name := "charAt", desc := "([BI)C" } : Jvm.MethodName) jdk_43_method_2_code (2 : Nat) (Option.some Jvm.ClassFile.FieldType.char)).before a0 Z = true := hw _ (List.mem_of_getElem? (i := 147) rfl)
theorem hwd146 {Z : State} {a0 : Array Value} (hw : ∀ d ∈ tables_1, d.before a0 Z = true) : (Jvm.Cond.initialized "java/lang/StringLatin1").before a0 Z = true := hw _ (List.mem_of_getElem? (i := 146) rfl)
theorem pd_17 : parseMethodDescriptor "([BI)C" = some ⟨[(.array .byte), .int], some .char⟩ := by decide +kernel
theorem hwd145 {Z : State} {a0 : Array Value} (hw : ∀ d ∈ tables_1, d.before a0 Z = true) : (Jvm.Cond.static ({ cls := "java/lang/StringLatin1", name := "charAt", desc := "([BI)C" } : Jvm.MethodName)).before a0 Z = true := hw _ (List.mem_of_getElem? (i := 145) rfl)
theorem d26_0 : decode jdk_42_method_56_code 0 = .ok (.aload_n 0, 1) := by decide +kernel
theorem d26_1 : decode jdk_42_method_56_code 1 = .ok (.invokevirtual 492, 3) := by decide +kernel
theorem d26_4 : decode jdk_42_method_56_code 4 = .ok (.ifCond .eq 12, 3) := by decide +kernel
theorem d26_7 : decode jdk_42_method_56_code 7 = .ok (.aload_n 0, 1) := by decide +kernel
theorem d26_8 : decode jdk_42_method_56_code 8 = .ok (.getfield 9, 3) := by decide +kernel
theorem d26_11 : decode jdk_42_method_56_code 11 = .ok (.iload_n 1, 1) := by decide +kernel
theorem d26_12 : decode jdk_42_method_56_code 12 = .ok (.invokestatic 495, 3) := by decide +kernel
theorem d26_15 : decode jdk_42_method_56_code 15 = .ok (.ireturn, 1) := by decide +kernel
theorem ef_26 (m : MethodId) (x0 : Addr) (x1 : Int32) : entryFrame m #[(.ref x0), (.int x1)] 2 = mkF m 0 #[.val (.ref x0), .val (.int x1)] [] := by first | (simp [entryFrame, mkF, argsToLocals, Value.category]; done) | rfl
def Qsca01 (Z : State) (so : Addr) (b : Addr) (kb : ClassId) (cz : Int32) (sf : Value) (c0 : Int32) (h0 : Heap) (n0 : Nat) (v : Option Value) (h : Heap) (L : List Loc) : Prop := v = some (.int c0) ∧ Fr n0 L ∧ h = h0
abbrev my28 : MethodName := ⟨"java/lang/String", "charAt", "(I)C"⟩
abbrev Rm_sca01 : Room := { frames := 3, cells := 0, slots := 0, locals := 40 }
set_option maxRecDepth 65536 in
set_option maxHeartbeats 40000000 in
theorem sca01 (l : Launch) (Z : State) (a0 : Array Value) (hw : ∀ d ∈ tables_1, d.before a0 Z = true) (ws : List Jvm.Cond) (so : Addr) (b : Addr) (kb : ClassId) (cz : Int32) (sf : Value) (c0 : Int32) (h0 : Heap) (n0 : Nat) (Z0 : n0 ≤ h0.size) (E_so : Exa Z h0 so "java/lang/String") (F_value_so : Fld Z h0 so "java/lang/String" "value" "[B" (.ref b)) (F_coder_so : Fld Z h0 so "java/lang/String" "coder" "B" (.int (0 : Int32))) (V_b : Arv Z h0 b kb .byte (1 : Int32) [(.int (nar .byte (c0.toInt8.toInt32)))] (.int 0)) (hl0 : Lat c0) (O_C : Sta Z Z.heap "java/lang/String" "COMPACT_STRINGS" "Z" (.int cz)) (hcz : ¬ (cz = (0 : Int32))) (X00 : Old Z n0 h0) (O_S : Sta Z Z.heap "jdk/internal/util/Preconditions" "SIOOBE_FORMATTER" "Ljava/util/function/BiFunction;" sf) (hsf : sf.isRef = true) :
    MetFree l my28 (head1 (Jvm.Cond.code my28 jdk_42_method_56_code 2 (some .char) :: ws) Rm_sca01) (fun aa_ U => aa_ = #[(.ref so), (.int (0 : Int32))] ∧ Z.Warmed39 U.vm ∧ U.heap = h0) (fun _ _ _ _ _ => True) (fun _ U oo_ U' => ∃ v L, oo_ = .returned v ∧ Qsca01 Z so b kb cz sf c0 h0 n0 v U'.heap L ∧ FrameEnd U oo_ U' L Rm_sca01.cells Rm_sca01.slots) := by
  refine MetFree.of_bodySF (plainFor_of_name pn_5) hisR ?_
  intro p e s m args below meth c s₁ Bd hml0 hP hK
  obtain ⟨rfl, hZ, hh⟩ := hP
  have hx := Bd.exec
  have hby := Bd.bytes
  have hml : c.maxLocals = 2 := hml0
  have hown : s.vm.findClass "java/lang/String" = some m.cls := findClass_of_methodNamed Bd.named
  have hnm := (name_of_methodNamed Bd.named Bd.method).1
  have X0 : Stand p l e Rm_sca01 s m #[(.ref so), (.int (0 : Int32))] below meth c s₁ [] 0 0 := Stand.of_body Bd
  have e0 : s₁.heap = h0 := by rw [← hh, Bd.state]; rfl
  have N0 := Fr.nil n0
  have pre0 : ∀ tt_, Steps p.tables e below (s₁.setTop (mkF m 0 #[.val (.ref so), .val (.int (0 : Int32))] [])) tt_ → Steps p.tables e below (s₁.setTop (entryFrame m #[(.ref so), (.int (0 : Int32))] 2)) tt_ := fun tt_ kk_ => castTop (ef_26 m so (0 : Int32)) kk_
  obtain ⟨cq1, kq1, q1a, q1b, q1c⟩ := isOf hZ e0 E_so
  obtain ⟨_, _, ⟨T1, L1, k1, n1⟩, -, X1, ⟨Lc1, hQ1, l1, y1, z1⟩, st1⟩ := X0.virtualBack hx (y := my22) (z := my22) hown (mvT hZ (hwd139 hw)) (mvT hZ (hwd140 hw)) (notFace_of_selects (args := #[]) (mvT hZ (hwd142 hw))) (mvT hZ (hwd142 hw)) (mvT hZ (hwd141 hw)) (by decide) (backOf (W := 0) (lat l Z a0 hw [] so cz h0 n0 Z0 F_coder_so O_C hcz X00) hZ (hwd143 hw) (hwd64 hw) (by decide) (by decide)) q1a q1c (g := (mkF m 1 #[.val (.ref so), .val (.int (0 : Int32))] [(.ref so)])) rfl (by rw [hml]; rfl) (Steps.refl _) (argsL := []) (rest := []) (lenOf pd_16 rfl) rfl (by show 2 * 0 + _ ≤ _; exact Nat.le_of_eq rfl) (hb hby d26_1) (fun _ _ => ⟨rfl, e0, (by decide : 0 + 0 ≤ _), (by decide : 0 + 0 ≤ _)⟩)
  dsimp only [Pt.U, Pt.locs, Pt.cells, Pt.slots] at X1 l1 y1 z1 st1 hQ1
  subst l1 y1 z1
  obtain ⟨rfl, N1q, e1q⟩ := hQ1
  have N1 := Fr.app N0 N1q
  obtain ⟨T2, X2, e2, st2⟩ := getF X1 hx hZ hown (host := "") (Or.inl (hwd94 hw)) Via.refl e1q F_value_so (g := (mkF m 8 #[.val (.ref so), .val (.int (0 : Int32))] [(.ref so)])) rfl rfl (hb hby d26_8)
  obtain ⟨_, _, ⟨T3, L3, k3, n3⟩, -, X3, ⟨Lc3, hQ3, l3, y3, z3⟩, st3⟩ := Jvm.LawKit.callS X2 hx (y := my27) hown (mvT hZ (hwd144 hw)) (mvT hZ (hwd145 hw)) (mvT hZ (hwd146 hw)) (mvT hZ (hwd147 hw)) (by decide) (backOf (W := 0) (lca01 l Z a0 hw [] b kb sf c0 h0 n0 Z0 V_b hl0 O_S hsf X00) hZ (hwd147 hw) (hwd146 hw) (by decide) (by decide)) (g := (mkF m 12 #[.val (.ref so), .val (.int (0 : Int32))] [(.int (0 : Int32)), (.ref b)])) rfl (by rw [hml]; rfl) (argsL := [(.ref b), (.int (0 : Int32))]) (rest := []) (lenOf pd_17 rfl) rfl (by show 2 * 0 + _ ≤ _; exact Nat.le_of_eq rfl) (hb hby d26_12) (fun _ _ => ⟨rfl, e2, (by decide : 0 + 0 ≤ _), (by decide : 0 + 0 ≤ _)⟩)
  dsimp only [Pt.U, Pt.locs, Pt.cells, Pt.slots] at X3 l3 y3 z3 st3 hQ3
  subst l3 y3 z3
  obtain ⟨rfl, N3q, e3q⟩ := hQ3
  have N3 := Fr.app N1 N3q
  obtain ⟨fs, hr, hrun, hended, hW, hsame⟩ := X3.leave (v := some (.int (nar .char c0))) (fun h => by rw [Bd.returns] at h; cases h)
  refine ⟨_, _, pre0 _ ?_, hrun, hended, _, _, rfl, ?_, ⟨_, rfl⟩, hW, hsame.mono (by decide) (by decide)⟩
  · show Steps p.tables e below (s₁.setTop (mkF m 0 #[.val (.ref so), .val (.int (0 : Int32))] [])) _
    refine XS.aloadN X0.here hx rfl (hb hby d26_0) rfl rfl ?_
    refine st1.trans ?_
    refine XS.ifNo X1.here hx rfl (hb hby d26_4) rfl ((if0 _ _).trans (feq (show ¬ ((1 : Int32) = (0 : Int32)) from (by decide))).1) ?_
    refine XS.aloadN X1.here hx rfl (hb hby d26_7) rfl rfl ?_
    refine st2 _ ?_
    refine XS.iloadN X2.here hx rfl (hb hby d26_11) rfl ?_
    show Steps p.tables e below (T2.setTop (mkF m 12 #[.val (.ref so), .val (.int (0 : Int32))] [(.int (0 : Int32)), (.ref b)])) _
    refine st3 _ ?_
    exact retN X3 hx (t := .char) Bd.returns (by simp) (hb hby d26_15) hr
  · show Qsca01 Z so b kb cz sf c0 h0 n0 _ T3.heap _
    rw [e3q]
    exact ⟨congrArg (fun z => some (Value.int z)) (own_narc hl0), N3, rfl⟩
def Qsle2 (Z : State) (so : Addr) (b : Addr) (kb : ClassId) (cz : Int32) (c0 : Int32) (c1 : Int32) (h0 : Heap) (n0 : Nat) (v : Option Value) (h : Heap) (L : List Loc) : Prop := v = some (.int (2 : Int32)) ∧ Fr n0 L ∧ h = h0
abbrev Rm_sle2 : Room := { frames := 1, cells := 0, slots := 0, locals := 13 }
set_option maxRecDepth 65536 in
set_option maxHeartbeats 40000000 in
theorem sle2 (l : Launch) (Z : State) (a0 : Array Value) (hw : ∀ d ∈ tables_1, d.before a0 Z = true) (ws : List Jvm.Cond) (so : Addr) (b : Addr) (kb : ClassId) (cz : Int32) (c0 : Int32) (c1 : Int32) (h0 : Heap) (n0 : Nat) (Z0 : n0 ≤ h0.size) (E_so : Exa Z h0 so "java/lang/String") (F_value_so : Fld Z h0 so "java/lang/String" "value" "[B" (.ref b)) (F_coder_so : Fld Z h0 so "java/lang/String" "coder" "B" (.int (0 : Int32))) (V_b : Arv Z h0 b kb .byte (2 : Int32) [(.int (nar .byte (c0.toInt8.toInt32))), (.int (nar .byte (c1.toInt8.toInt32)))] (.int 0)) (O_C : Sta Z Z.heap "java/lang/String" "COMPACT_STRINGS" "Z" (.int cz)) (hcz : ¬ (cz = (0 : Int32))) (X00 : Old Z n0 h0) :
    MetFree l my24 (head1 (Jvm.Cond.code my24 jdk_42_method_54_code 1 (some .int) :: ws) Rm_sle2) (fun aa_ U => aa_ = #[(.ref so)] ∧ Z.Warmed39 U.vm ∧ U.heap = h0) (fun _ _ _ _ _ => True) (fun _ U oo_ U' => ∃ v L, oo_ = .returned v ∧ Qsle2 Z so b kb cz c0 c1 h0 n0 v U'.heap L ∧ FrameEnd U oo_ U' L Rm_sle2.cells Rm_sle2.slots) := by
  refine MetFree.of_bodySF (plainFor_of_name pn_5) hisR ?_
  intro p e s m args below meth c s₁ Bd hml0 hP hK
  obtain ⟨rfl, hZ, hh⟩ := hP
  have hx := Bd.exec
  have hby := Bd.bytes
  have hml : c.maxLocals = 1 := hml0
  have hown : s.vm.findClass "java/lang/String" = some m.cls := findClass_of_methodNamed Bd.named
  have hnm := (name_of_methodNamed Bd.named Bd.method).1
  have X0 : Stand p l e Rm_sle2 s m #[(.ref so)] below meth c s₁ [] 0 0 := Stand.of_body Bd
  have e0 : s₁.heap = h0 := by rw [← hh, Bd.state]; rfl
  have N0 := Fr.nil n0
  have pre0 : ∀ tt_, Steps p.tables e below (s₁.setTop (mkF m 0 #[.val (.ref so)] [])) tt_ → Steps p.tables e below (s₁.setTop (entryFrame m #[(.ref so)] 1)) tt_ := fun tt_ kk_ => castTop (ef_24 m so) kk_
  obtain ⟨T1, X1, e1, st1⟩ := getF X0 hx hZ hown (host := "") (Or.inl (hwd94 hw)) Via.refl e0 F_value_so (g := (mkF m 1 #[.val (.ref so)] [(.ref so)])) rfl rfl (hb hby d24_1)
  obtain ⟨cl2, Ar2, -, S2, M2, -, -⟩ := id V_b
  obtain ⟨cq3, kq3, q3a, q3b, q3c⟩ := isOf hZ e1 E_so
  obtain ⟨_, _, ⟨T3, L3, k3, n3⟩, -, X3, ⟨Lc3, hQ3, l3, y3, z3⟩, st3⟩ := X1.virtualBack hx (y := my21) (z := my21) hown (mvT hZ (hwd129 hw)) (mvT hZ (hwd130 hw)) (notFace_of_selects (args := #[]) (mvT hZ (hwd132 hw))) (mvT hZ (hwd132 hw)) (mvT hZ (hwd131 hw)) (by decide) (backOf (W := 1) (cod l Z a0 hw [] so cz h0 n0 Z0 F_coder_so O_C hcz X00) hZ (hwd133 hw) (hwd64 hw) (by decide) (by decide)) q3a q3c (g := (mkF m 6 #[.val (.ref so)] [(.ref so), (.int (2 : Int32))])) rfl (by rw [hml]; rfl) (Steps.refl _) (argsL := []) (rest := [(.int (2 : Int32))]) (lenOf pd_13 rfl) rfl (by show 2 * 0 + _ ≤ _; exact Nat.le_of_eq rfl) (hb hby d24_6) (fun _ _ => ⟨rfl, e1, (by decide : 0 + 0 ≤ _), (by decide : 0 + 0 ≤ _)⟩)
  dsimp only [Pt.U, Pt.locs, Pt.cells, Pt.slots] at X3 l3 y3 z3 st3 hQ3
  subst l3 y3 z3
  obtain ⟨rfl, N3q, e3q⟩ := hQ3
  have N3 := Fr.app N0 N3q
  obtain ⟨fs, hr, hrun, hended, hW, hsame⟩ := X3.leave (v := some (.int ((2 : Int32) >>> ((0 : Int32) &&& 31)))) (fun h => by rw [Bd.returns] at h; cases h)
  refine ⟨_, _, pre0 _ ?_, hrun, hended, _, _, rfl, ?_, ⟨_, rfl⟩, hW, hsame.mono (by decide) (by decide)⟩
  · show Steps p.tables e below (s₁.setTop (mkF m 0 #[.val (.ref so)] [])) _
    refine XS.aloadN X0.here hx rfl (hb hby d24_0) rfl rfl ?_
    refine st1 _ ?_
    refine X1.arraylength hx (by rw [e1]; exact Ar2.1) (State.isArrayOf_alike hZ.alike Ar2.2.1) (g := (mkF m 4 #[.val (.ref so)] [(.ref b)])) rfl rfl (hb hby d24_4) _ ?_
    rw [len_of S2 M2]
    refine XS.aloadN X1.here hx rfl (hb hby d24_5) rfl rfl ?_
    refine st3.trans ?_
    refine XS.ishr X3.here hx rfl (hb hby d24_9) rfl ?_
    show Steps p.tables e below (T3.setTop (mkF m 10 #[.val (.ref so)] [(.int ((2 : Int32) >>> ((0 : Int32) &&& 31)))])) _
    exact retI X3 hx Bd.returns (hb hby d24_10) hr
  · show Qsle2 Z so b kb cz c0 c1 h0 n0 _ T3.heap _
    rw [e3q]
    exact ⟨congrArg (fun z => some (Value.int z)) (by decide), N3, rfl⟩
def Qpci02 (Z : State) (sf : Value) (h0 : Heap) (n0 : Nat) (v : Option Value) (h : Heap) (L : List Loc) : Prop := v = some (.int (0 : Int32)) ∧ Fr n0 L ∧ h = h0
abbrev Rm_pci02 : Room := { frames := 0, cells := 0, slots := 0, locals := 0 }
set_option maxRecDepth 65536 in
set_option maxHeartbeats 40000000 in
theorem pci02 (l : Launch) (Z : State) (a0 : Array Value) (hw : ∀ d ∈ tables_1, d.before a0 Z = true) (ws : List Jvm.Cond) (sf : Value) (h0 : Heap) (n0 : Nat) (Z0 : n0 ≤ h0.size) (hsf : sf.isRef = true) :
    MetFree l my25 (head1 (Jvm.Cond.code my25 jdk_41_method_11_code 3 (some .int) :: ws) Rm_pci02) (fun aa_ U => aa_ = #[(.int (0 : Int32)), (.int (2 : Int32)), sf] ∧ Z.Warmed39 U.vm ∧ U.heap = h0) (fun _ _ _ _ _ => True) (fun _ U oo_ U' => ∃ v L, oo_ = .returned v ∧ Qpci02 Z sf h0 n0 v U'.heap L ∧ FrameEnd U oo_ U' L Rm_pci02.cells Rm_pci02.slots) := by
  refine MetFree.of_bodySF (plainFor_of_name pn_4) hisR ?_
  intro p e s m args below meth c s₁ Bd hml0 hP hK
  obtain ⟨rfl, hZ, hh⟩ := hP
  have hx := Bd.exec
  have hby := Bd.bytes
  have hml : c.maxLocals = 3 := hml0
  have hown : s.vm.findClass "jdk/internal/util/Preconditions" = some m.cls := findClass_of_methodNamed Bd.named
  have hnm := (name_of_methodNamed Bd.named Bd.method).1
  have X0 : Stand p l e Rm_pci02 s m #[(.int (0 : Int32)), (.int (2 : Int32)), sf] below meth c s₁ [] 0 0 := Stand.of_body Bd
  have e0 : s₁.heap = h0 := by rw [← hh, Bd.state]; rfl
  have N0 := Fr.nil n0
  have pre0 : ∀ tt_, Steps p.tables e below (s₁.setTop (mkF m 0 #[.val (.int (0 : Int32)), .val (.int (2 : Int32)), .val sf] [])) tt_ → Steps p.tables e below (s₁.setTop (entryFrame m #[(.int (0 : Int32)), (.int (2 : Int32)), sf] 3)) tt_ := fun tt_ kk_ => castTop (ef_30 m (0 : Int32) (2 : Int32) sf hsf) kk_
  obtain ⟨fs, hr, hrun, hended, hW, hsame⟩ := X0.leave (v := some (.int (0 : Int32))) (fun h => by rw [Bd.returns] at h; cases h)
  refine ⟨_, _, pre0 _ ?_, hrun, hended, _, _, rfl, ?_, ⟨_, rfl⟩, hW, hsame.mono (by decide) (by decide)⟩
  · show Steps p.tables e below (s₁.setTop (mkF m 0 #[.val (.int (0 : Int32)), .val (.int (2 : Int32)), .val sf] [])) _
    refine XS.iloadN X0.here hx rfl (hb hby d30_0) rfl ?_
    refine XS.ifNo X0.here hx rfl (hb hby d30_1) rfl ((if0 _ _).trans (flt (show ¬ ((0 : Int32) < (0 : Int32)) from (by decide))).1) ?_
    refine XS.iloadN X0.here hx rfl (hb hby d30_4) rfl ?_
    refine XS.iloadN X0.here hx rfl (hb hby d30_5) rfl ?_
    refine XS.icmpYes X0.here hx rfl (pc0 := 6) (pc' := 16) rfl (hb hby d30_6) rfl (tlt (show (0 : Int32) < (2 : Int32) from (by decide))).1 (by decide) (by decide) ?_
    refine XS.iloadN X0.here hx rfl (hb hby d30_16) rfl ?_
    show Steps p.tables e below (s₁.setTop (mkF m 17 #[.val (.int (0 : Int32)), .val (.int (2 : Int32)), .val sf] [(.int (0 : Int32))])) _
    exact retI X0 hx Bd.returns (hb hby d30_17) hr
  · show Qpci02 Z sf h0 n0 _ s₁.heap _
    rw [e0]
    exact ⟨rfl, N0, rfl⟩
def Qsci02 (Z : State) (sf : Value) (h0 : Heap) (n0 : Nat) (v : Option Value) (h : Heap) (L : List Loc) : Prop := v = none ∧ Fr n0 L ∧ h = h0
abbrev Rm_sci02 : Room := { frames := 1, cells := 0, slots := 0, locals := 14 }
set_option maxRecDepth 65536 in
set_option maxHeartbeats 40000000 in
theorem sci02 (l : Launch) (Z : State) (a0 : Array Value) (hw : ∀ d ∈ tables_1, d.before a0 Z = true) (ws : List Jvm.Cond) (sf : Value) (h0 : Heap) (n0 : Nat) (Z0 : n0 ≤ h0.size) (O_S : Sta Z Z.heap "jdk/internal/util/Preconditions" "SIOOBE_FORMATTER" "Ljava/util/function/BiFunction;" sf) (hsf : sf.isRef = true) (X00 : Old Z n0 h0) :
    MetFree l my26 (head1 (Jvm.Cond.code my26 jdk_42_method_155_code 2 none :: ws) Rm_sci02) (fun aa_ U => aa_ = #[(.int (0 : Int32)), (.int (2 : Int32))] ∧ Z.Warmed39 U.vm ∧ U.heap = h0) (fun _ _ _ _ _ => True) (fun _ U oo_ U' => ∃ v L, oo_ = .returned v ∧ Qsci02 Z sf h0 n0 v U'.heap L ∧ FrameEnd U oo_ U' L Rm_sci02.cells Rm_sci02.slots) := by
  refine MetFree.of_bodySF (plainFor_of_name pn_5) hisR ?_
  intro p e s m args below meth c s₁ Bd hml0 hP hK
  obtain ⟨rfl, hZ, hh⟩ := hP
  have hx := Bd.exec
  have hby := Bd.bytes
  have hml : c.maxLocals = 2 := hml0
  have hown : s.vm.findClass "java/lang/String" = some m.cls := findClass_of_methodNamed Bd.named
  have hnm := (name_of_methodNamed Bd.named Bd.method).1
  have X0 : Stand p l e Rm_sci02 s m #[(.int (0 : Int32)), (.int (2 : Int32))] below meth c s₁ [] 0 0 := Stand.of_body Bd
  have e0 : s₁.heap = h0 := by rw [← hh, Bd.state]; rfl
  have N0 := Fr.nil n0
  have pre0 : ∀ tt_, Steps p.tables e below (s₁.setTop (mkF m 0 #[.val (.int (0 : Int32)), .val (.int (2 : Int32))] [])) tt_ → Steps p.tables e below (s₁.setTop (entryFrame m #[(.int (0 : Int32)), (.int (2 : Int32))] 2)) tt_ := fun tt_ kk_ => castTop (ef_29 m (0 : Int32) (2 : Int32)) kk_
  obtain ⟨T1, X1, e1, st1⟩ := getS2 X0 hx hZ hown (host := "") (Or.inl (hwd78 hw)) Via.refl e0 (O_S.ext X00.2) (g := (mkF m 2 #[.val (.int (0 : Int32)), .val (.int (2 : Int32))] [(.int (2 : Int32)), (.int (0 : Int32))])) rfl (hb hby d29_2)
  obtain ⟨_, _, ⟨T2, L2, k2, n2⟩, -, X2, ⟨Lc2, hQ2, l2, y2, z2⟩, st2⟩ := Jvm.LawKit.callS X1 hx (y := my25) hown (mvT hZ (hwd151 hw)) (mvT hZ (hwd152 hw)) (mvT hZ (hwd79 hw)) (mvT hZ (hwd153 hw)) (by decide) (backOf (W := 0) (pci02 l Z a0 hw [] sf h0 n0 Z0 hsf) hZ (hwd153 hw) (hwd79 hw) (by decide) (by decide)) (g := (mkF m 5 #[.val (.int (0 : Int32)), .val (.int (2 : Int32))] [sf, (.int (2 : Int32)), (.int (0 : Int32))])) rfl (by rw [hml]; rfl) (argsL := [(.int (0 : Int32)), (.int (2 : Int32)), sf]) (rest := []) (lenOf pd_14 rfl) rfl (by show 2 * 0 + _ ≤ _; exact Nat.le_of_eq rfl) (hb hby d29_5) (fun _ _ => ⟨rfl, e1, (by decide : 0 + 0 ≤ _), (by decide : 0 + 0 ≤ _)⟩)
  dsimp only [Pt.U, Pt.locs, Pt.cells, Pt.slots] at X2 l2 y2 z2 st2 hQ2
  subst l2 y2 z2
  obtain ⟨rfl, N2q, e2q⟩ := hQ2
  have N2 := Fr.app N0 N2q
  obtain ⟨fs, hr, hrun, hended, hW, hsame⟩ := X2.leave (v := none) (fun _ => rfl)
  refine ⟨_, _, pre0 _ ?_, hrun, hended, _, _, rfl, ?_, ⟨_, rfl⟩, hW, hsame.mono (by decide) (by decide)⟩
  · show Steps p.tables e below (s₁.setTop (mkF m 0 #[.val (.int (0 : Int32)), .val (.int (2 : Int32))] [])) _
    refine XS.iloadN X0.here hx rfl (hb hby d29_0) rfl ?_
    refine XS.iloadN X0.here hx rfl (hb hby d29_1) rfl ?_
    refine st1 _ ?_
    refine st2 _ ?_
    refine XS.pop X2.here hx rfl (hb hby d29_8) rfl rfl ?_
    exact X2.returnOut hx Bd.returns (hb hby d29_9) hr
  · show Qsci02 Z sf h0 n0 _ T2.heap _
    rw [e2q]
    exact ⟨rfl, N2, rfl⟩
def Qlca02 (Z : State) (b : Addr) (kb : ClassId) (sf : Value) (c0 : Int32) (c1 : Int32) (h0 : Heap) (n0 : Nat) (v : Option Value) (h : Heap) (L : List Loc) : Prop := v = some (.int c0) ∧ Fr n0 L ∧ h = h0
abbrev Rm_lca02 : Room := { frames := 2, cells := 0, slots := 0, locals := 27 }
set_option maxRecDepth 65536 in
set_option maxHeartbeats 40000000 in
theorem lca02 (l : Launch) (Z : State) (a0 : Array Value) (hw : ∀ d ∈ tables_1, d.before a0 Z = true) (ws : List Jvm.Cond) (b : Addr) (kb : ClassId) (sf : Value) (c0 : Int32) (c1 : Int32) (h0 : Heap) (n0 : Nat) (Z0 : n0 ≤ h0.size) (V_b : Arv Z h0 b kb .byte (2 : Int32) [(.int (nar .byte (c0.toInt8.toInt32))), (.int (nar .byte (c1.toInt8.toInt32)))] (.int 0)) (hl0 : Lat c0) (hl1 : Lat c1) (O_S : Sta Z Z.heap "jdk/internal/util/Preconditions" "SIOOBE_FORMATTER" "Ljava/util/function/BiFunction;" sf) (hsf : sf.isRef = true) (X00 : Old Z n0 h0) :
    MetFree l my27 (head1 (Jvm.Cond.code my27 jdk_43_method_2_code 2 (some .char) :: ws) Rm_lca02) (fun aa_ U => aa_ = #[(.ref b), (.int (0 : Int32))] ∧ Z.Warmed39 U.vm ∧ U.heap = h0) (fun _ _ _ _ _ => True) (fun _ U oo_ U' => ∃ v L, oo_ = .returned v ∧ Qlca02 Z b kb sf c0 c1 h0 n0 v U'.heap L ∧ FrameEnd U oo_ U' L Rm_lca02.cells Rm_lca02.slots) := by
  refine MetFree.of_bodySF (plainFor_of_name pn_8) hisR ?_
  intro p e s m args below meth c s₁ Bd hml0 hP hK
  obtain ⟨rfl, hZ, hh⟩ := hP
  have hx := Bd.exec
  have hby := Bd.bytes
  have hml : c.maxLocals = 2 := hml0
  have hown : s.vm.findClass "java/lang/StringLatin1" = some m.cls := findClass_of_methodNamed Bd.named
  have hnm := (name_of_methodNamed Bd.named Bd.method).1
  have X0 : Stand p l e Rm_lca02 s m #[(.ref b), (.int (0 : Int32))] below meth c s₁ [] 0 0 := Stand.of_body Bd
  have e0 : s₁.heap = h0 := by rw [← hh, Bd.state]; rfl
  have N0 := Fr.nil n0
  have pre0 : ∀ tt_, Steps p.tables e below (s₁.setTop (mkF m 0 #[.val (.ref b), .val (.int (0 : Int32))] [])) tt_ → Steps p.tables e below (s₁.setTop (entryFrame m #[(.ref b), (.int (0 : Int32))] 2)) tt_ := fun tt_ kk_ => castTop (ef_28 m b (0 : Int32)) kk_
  obtain ⟨cl1, Ar1, -, S1, M1, -, -⟩ := id V_b
  obtain ⟨_, _, ⟨T2, L2, k2, n2⟩, -, X2, ⟨Lc2, hQ2, l2, y2, z2⟩, st2⟩ := Jvm.LawKit.callS X0 hx (y := my26) hown (mvT hZ (hwd148 hw)) (mvT hZ (hwd149 hw)) (mvT hZ (hwd64 hw)) (mvT hZ (hwd150 hw)) (by decide) (backOf (W := 0) (sci02 l Z a0 hw [] sf h0 n0 Z0 O_S hsf X00) hZ (hwd150 hw) (hwd64 hw) (by decide) (by decide)) (g := (mkF m 3 #[.val (.ref b), .val (.int (0 : Int32))] [(.int (2 : Int32)), (.int (0 : Int32))])) rfl (by rw [hml]; rfl) (argsL := [(.int (0 : Int32)), (.int (2 : Int32))]) (rest := []) (lenOf pd_15 rfl) rfl (by show 2 * 0 + _ ≤ _; exact Nat.le_of_eq rfl) (hb hby d28_3) (fun _ _ => ⟨rfl, e0, (by decide : 0 + 0 ≤ _), (by decide : 0 + 0 ≤ _)⟩)
  dsimp only [Pt.U, Pt.locs, Pt.cells, Pt.slots] at X2 l2 y2 z2 st2 hQ2
  subst l2 y2 z2
  obtain ⟨rfl, N2q, e2q⟩ := hQ2
  have N2 := Fr.app N0 N2q
  obtain ⟨cl3, Ar3, q3, S3, M3, H3, G3⟩ := id V_b
  have hin3 : ¬ ((0 : Int32) < 0 ∨ cl3.slots.size ≤ ((0 : Int32)).toNatClampNeg) := inb_of S3 ⟨by decide, by decide⟩
  have hat3 : cl3.slots[((0 : Int32)).toNatClampNeg]? = some (.int (nar .byte (c0.toInt8.toInt32))) := H3.at hin3 rfl
  obtain ⟨fs, hr, hrun, hended, hW, hsame⟩ := X2.leave (v := some (.int (nar .char (((nar .byte (c0.toInt8.toInt32)) &&& (255 : Int32)).toUInt32.toUInt16.toUInt32.toInt32)))) (fun h => by rw [Bd.returns] at h; cases h)
  refine ⟨_, _, pre0 _ ?_, hrun, hended, _, _, rfl, ?_, ⟨_, rfl⟩, hW, hsame.mono (by decide) (by decide)⟩
  · show Steps p.tables e below (s₁.setTop (mkF m 0 #[.val (.ref b), .val (.int (0 : Int32))] [])) _
    refine XS.iloadN X0.here hx rfl (hb hby d28_0) rfl ?_
    refine XS.aloadN X0.here hx rfl (hb hby d28_1) rfl rfl ?_
    refine X0.arraylength hx (by rw [e0]; exact Ar1.1) (State.isArrayOf_alike hZ.alike Ar1.2.1) (g := (mkF m 2 #[.val (.ref b), .val (.int (0 : Int32))] [(.ref b), (.int (0 : Int32))])) rfl rfl (hb hby d28_2) _ ?_
    rw [len_of S1 M1]
    refine st2 _ ?_
    refine XS.aloadN X2.here hx rfl (hb hby d28_6) rfl rfl ?_
    refine XS.iloadN X2.here hx rfl (hb hby d28_7) rfl ?_
    show Steps p.tables e below (T2.setTop (mkF m 8 #[.val (.ref b), .val (.int (0 : Int32))] [(.int (0 : Int32)), (.ref b)])) _
    refine X2.baloadBytes hx (j := (0 : Int32)) (v := (.int (nar .byte (c0.toInt8.toInt32)))) (by rw [e2q]; exact Ar3.1) (State.isArrayOf_alike hZ.alike Ar3.2.1) Ar3.2.2 hin3 hat3 (g := (mkF m 8 #[.val (.ref b), .val (.int (0 : Int32))] [(.int (0 : Int32)), (.ref b)])) rfl rfl (hb hby d28_8) _ ?_
    refine XS.sipush X2.here hx rfl (hb hby d28_9) ?_
    show Steps p.tables e below (T2.setTop (mkF m 12 #[.val (.ref b), .val (.int (0 : Int32))] [(.int (255 : Int32)), (.int (nar .byte (c0.toInt8.toInt32)))])) _
    refine XS.iand X2.here hx rfl (hb hby d28_12) rfl ?_
    refine XS.i2c X2.here hx rfl (hb hby d28_13) rfl ?_
    exact retN X2 hx (t := .char) Bd.returns (by simp) (hb hby d28_14) hr
  · show Qlca02 Z b kb sf c0 c1 h0 n0 _ T2.heap _
    rw [e2q]
    exact ⟨congrArg (fun z => some (Value.int z)) (own_ca hl0), N2, rfl⟩
def Qsca02 (Z : State) (so : Addr) (b : Addr) (kb : ClassId) (cz : Int32) (sf : Value) (c0 : Int32) (c1 : Int32) (h0 : Heap) (n0 : Nat) (v : Option Value) (h : Heap) (L : List Loc) : Prop := v = some (.int c0) ∧ Fr n0 L ∧ h = h0
abbrev Rm_sca02 : Room := { frames := 3, cells := 0, slots := 0, locals := 40 }
set_option maxRecDepth 65536 in
set_option maxHeartbeats 40000000 in
theorem sca02 (l : Launch) (Z : State) (a0 : Array Value) (hw : ∀ d ∈ tables_1, d.before a0 Z = true) (ws : List Jvm.Cond) (so : Addr) (b : Addr) (kb : ClassId) (cz : Int32) (sf : Value) (c0 : Int32) (c1 : Int32) (h0 : Heap) (n0 : Nat) (Z0 : n0 ≤ h0.size) (E_so : Exa Z h0 so "java/lang/String") (F_value_so : Fld Z h0 so "java/lang/String" "value" "[B" (.ref b)) (F_coder_so : Fld Z h0 so "java/lang/String" "coder" "B" (.int (0 : Int32))) (V_b : Arv Z h0 b kb .byte (2 : Int32) [(.int (nar .byte (c0.toInt8.toInt32))), (.int (nar .byte (c1.toInt8.toInt32)))] (.int 0)) (hl0 : Lat c0) (hl1 : Lat c1) (O_C : Sta Z Z.heap "java/lang/String" "COMPACT_STRINGS" "Z" (.int cz)) (hcz : ¬ (cz = (0 : Int32))) (X00 : Old Z n0 h0) (O_S : Sta Z Z.heap "jdk/internal/util/Preconditions" "SIOOBE_FORMATTER" "Ljava/util/function/BiFunction;" sf) (hsf : sf.isRef = true) :
    MetFree l my28 (head1 (Jvm.Cond.code my28 jdk_42_method_56_code 2 (some .char) :: ws) Rm_sca02) (fun aa_ U => aa_ = #[(.ref so), (.int (0 : Int32))] ∧ Z.Warmed39 U.vm ∧ U.heap = h0) (fun _ _ _ _ _ => True) (fun _ U oo_ U' => ∃ v L, oo_ = .returned v ∧ Qsca02 Z so b kb cz sf c0 c1 h0 n0 v U'.heap L ∧ FrameEnd U oo_ U' L Rm_sca02.cells Rm_sca02.slots) := by
  refine MetFree.of_bodySF (plainFor_of_name pn_5) hisR ?_
  intro p e s m args below meth c s₁ Bd hml0 hP hK
  obtain ⟨rfl, hZ, hh⟩ := hP
  have hx := Bd.exec
  have hby := Bd.bytes
  have hml : c.maxLocals = 2 := hml0
  have hown : s.vm.findClass "java/lang/String" = some m.cls := findClass_of_methodNamed Bd.named
  have hnm := (name_of_methodNamed Bd.named Bd.method).1
  have X0 : Stand p l e Rm_sca02 s m #[(.ref so), (.int (0 : Int32))] below meth c s₁ [] 0 0 := Stand.of_body Bd
  have e0 : s₁.heap = h0 := by rw [← hh, Bd.state]; rfl
  have N0 := Fr.nil n0
  have pre0 : ∀ tt_, Steps p.tables e below (s₁.setTop (mkF m 0 #[.val (.ref so), .val (.int (0 : Int32))] [])) tt_ → Steps p.tables e below (s₁.setTop (entryFrame m #[(.ref so), (.int (0 : Int32))] 2)) tt_ := fun tt_ kk_ => castTop (ef_26 m so (0 : Int32)) kk_
  obtain ⟨cq1, kq1, q1a, q1b, q1c⟩ := isOf hZ e0 E_so
  obtain ⟨_, _, ⟨T1, L1, k1, n1⟩, -, X1, ⟨Lc1, hQ1, l1, y1, z1⟩, st1⟩ := X0.virtualBack hx (y := my22) (z := my22) hown (mvT hZ (hwd139 hw)) (mvT hZ (hwd140 hw)) (notFace_of_selects (args := #[]) (mvT hZ (hwd142 hw))) (mvT hZ (hwd142 hw)) (mvT hZ (hwd141 hw)) (by decide) (backOf (W := 0) (lat l Z a0 hw [] so cz h0 n0 Z0 F_coder_so O_C hcz X00) hZ (hwd143 hw) (hwd64 hw) (by decide) (by decide)) q1a q1c (g := (mkF m 1 #[.val (.ref so), .val (.int (0 : Int32))] [(.ref so)])) rfl (by rw [hml]; rfl) (Steps.refl _) (argsL := []) (rest := []) (lenOf pd_16 rfl) rfl (by show 2 * 0 + _ ≤ _; exact Nat.le_of_eq rfl) (hb hby d26_1) (fun _ _ => ⟨rfl, e0, (by decide : 0 + 0 ≤ _), (by decide : 0 + 0 ≤ _)⟩)
  dsimp only [Pt.U, Pt.locs, Pt.cells, Pt.slots] at X1 l1 y1 z1 st1 hQ1
  subst l1 y1 z1
  obtain ⟨rfl, N1q, e1q⟩ := hQ1
  have N1 := Fr.app N0 N1q
  obtain ⟨T2, X2, e2, st2⟩ := getF X1 hx hZ hown (host := "") (Or.inl (hwd94 hw)) Via.refl e1q F_value_so (g := (mkF m 8 #[.val (.ref so), .val (.int (0 : Int32))] [(.ref so)])) rfl rfl (hb hby d26_8)
  obtain ⟨_, _, ⟨T3, L3, k3, n3⟩, -, X3, ⟨Lc3, hQ3, l3, y3, z3⟩, st3⟩ := Jvm.LawKit.callS X2 hx (y := my27) hown (mvT hZ (hwd144 hw)) (mvT hZ (hwd145 hw)) (mvT hZ (hwd146 hw)) (mvT hZ (hwd147 hw)) (by decide) (backOf (W := 0) (lca02 l Z a0 hw [] b kb sf c0 c1 h0 n0 Z0 V_b hl0 hl1 O_S hsf X00) hZ (hwd147 hw) (hwd146 hw) (by decide) (by decide)) (g := (mkF m 12 #[.val (.ref so), .val (.int (0 : Int32))] [(.int (0 : Int32)), (.ref b)])) rfl (by rw [hml]; rfl) (argsL := [(.ref b), (.int (0 : Int32))]) (rest := []) (lenOf pd_17 rfl) rfl (by show 2 * 0 + _ ≤ _; exact Nat.le_of_eq rfl) (hb hby d26_12) (fun _ _ => ⟨rfl, e2, (by decide : 0 + 0 ≤ _), (by decide : 0 + 0 ≤ _)⟩)
  dsimp only [Pt.U, Pt.locs, Pt.cells, Pt.slots] at X3 l3 y3 z3 st3 hQ3
  subst l3 y3 z3
  obtain ⟨rfl, N3q, e3q⟩ := hQ3
  have N3 := Fr.app N1 N3q
  obtain ⟨fs, hr, hrun, hended, hW, hsame⟩ := X3.leave (v := some (.int (nar .char c0))) (fun h => by rw [Bd.returns] at h; cases h)
  refine ⟨_, _, pre0 _ ?_, hrun, hended, _, _, rfl, ?_, ⟨_, rfl⟩, hW, hsame.mono (by decide) (by decide)⟩
  · show Steps p.tables e below (s₁.setTop (mkF m 0 #[.val (.ref so), .val (.int (0 : Int32))] [])) _
    refine XS.aloadN X0.here hx rfl (hb hby d26_0) rfl rfl ?_
    refine st1.trans ?_
    refine XS.ifNo X1.here hx rfl (hb hby d26_4) rfl ((if0 _ _).trans (feq (show ¬ ((1 : Int32) = (0 : Int32)) from (by decide))).1) ?_
    refine XS.aloadN X1.here hx rfl (hb hby d26_7) rfl rfl ?_
    refine st2 _ ?_
    refine XS.iloadN X2.here hx rfl (hb hby d26_11) rfl ?_
    show Steps p.tables e below (T2.setTop (mkF m 12 #[.val (.ref so), .val (.int (0 : Int32))] [(.int (0 : Int32)), (.ref b)])) _
    refine st3 _ ?_
    exact retN X3 hx (t := .char) Bd.returns (by simp) (hb hby d26_15) hr
  · show Qsca02 Z so b kb cz sf c0 c1 h0 n0 _ T3.heap _
    rw [e3q]
    exact ⟨congrArg (fun z => some (Value.int z)) (own_narc hl0), N3, rfl⟩
def Qpci12 (Z : State) (sf : Value) (h0 : Heap) (n0 : Nat) (v : Option Value) (h : Heap) (L : List Loc) : Prop := v = some (.int (1 : Int32)) ∧ Fr n0 L ∧ h = h0
abbrev Rm_pci12 : Room := { frames := 0, cells := 0, slots := 0, locals := 0 }
set_option maxRecDepth 65536 in
set_option maxHeartbeats 40000000 in
theorem pci12 (l : Launch) (Z : State) (a0 : Array Value) (hw : ∀ d ∈ tables_1, d.before a0 Z = true) (ws : List Jvm.Cond) (sf : Value) (h0 : Heap) (n0 : Nat) (Z0 : n0 ≤ h0.size) (hsf : sf.isRef = true) :
    MetFree l my25 (head1 (Jvm.Cond.code my25 jdk_41_method_11_code 3 (some .int) :: ws) Rm_pci12) (fun aa_ U => aa_ = #[(.int (1 : Int32)), (.int (2 : Int32)), sf] ∧ Z.Warmed39 U.vm ∧ U.heap = h0) (fun _ _ _ _ _ => True) (fun _ U oo_ U' => ∃ v L, oo_ = .returned v ∧ Qpci12 Z sf h0 n0 v U'.heap L ∧ FrameEnd U oo_ U' L Rm_pci12.cells Rm_pci12.slots) := by
  refine MetFree.of_bodySF (plainFor_of_name pn_4) hisR ?_
  intro p e s m args below meth c s₁ Bd hml0 hP hK
  obtain ⟨rfl, hZ, hh⟩ := hP
  have hx := Bd.exec
  have hby := Bd.bytes
  have hml : c.maxLocals = 3 := hml0
  have hown : s.vm.findClass "jdk/internal/util/Preconditions" = some m.cls := findClass_of_methodNamed Bd.named
  have hnm := (name_of_methodNamed Bd.named Bd.method).1
  have X0 : Stand p l e Rm_pci12 s m #[(.int (1 : Int32)), (.int (2 : Int32)), sf] below meth c s₁ [] 0 0 := Stand.of_body Bd
  have e0 : s₁.heap = h0 := by rw [← hh, Bd.state]; rfl
  have N0 := Fr.nil n0
  have pre0 : ∀ tt_, Steps p.tables e below (s₁.setTop (mkF m 0 #[.val (.int (1 : Int32)), .val (.int (2 : Int32)), .val sf] [])) tt_ → Steps p.tables e below (s₁.setTop (entryFrame m #[(.int (1 : Int32)), (.int (2 : Int32)), sf] 3)) tt_ := fun tt_ kk_ => castTop (ef_30 m (1 : Int32) (2 : Int32) sf hsf) kk_
  obtain ⟨fs, hr, hrun, hended, hW, hsame⟩ := X0.leave (v := some (.int (1 : Int32))) (fun h => by rw [Bd.returns] at h; cases h)
  refine ⟨_, _, pre0 _ ?_, hrun, hended, _, _, rfl, ?_, ⟨_, rfl⟩, hW, hsame.mono (by decide) (by decide)⟩
  · show Steps p.tables e below (s₁.setTop (mkF m 0 #[.val (.int (1 : Int32)), .val (.int (2 : Int32)), .val sf] [])) _
    refine XS.iloadN X0.here hx rfl (hb hby d30_0) rfl ?_
    refine XS.ifNo X0.here hx rfl (hb hby d30_1) rfl ((if0 _ _).trans (flt (show ¬ ((1 : Int32) < (0 : Int32)) from (by decide))).1) ?_
    refine XS.iloadN X0.here hx rfl (hb hby d30_4) rfl ?_
    refine XS.iloadN X0.here hx rfl (hb hby d30_5) rfl ?_
    refine XS.icmpYes X0.here hx rfl (pc0 := 6) (pc' := 16) rfl (hb hby d30_6) rfl (tlt (show (1 : Int32) < (2 : Int32) from (by decide))).1 (by decide) (by decide) ?_
    refine XS.iloadN X0.here hx rfl (hb hby d30_16) rfl ?_
    show Steps p.tables e below (s₁.setTop (mkF m 17 #[.val (.int (1 : Int32)), .val (.int (2 : Int32)), .val sf] [(.int (1 : Int32))])) _
    exact retI X0 hx Bd.returns (hb hby d30_17) hr
  · show Qpci12 Z sf h0 n0 _ s₁.heap _
    rw [e0]
    exact ⟨rfl, N0, rfl⟩
def Qsci12 (Z : State) (sf : Value) (h0 : Heap) (n0 : Nat) (v : Option Value) (h : Heap) (L : List Loc) : Prop := v = none ∧ Fr n0 L ∧ h = h0
abbrev Rm_sci12 : Room := { frames := 1, cells := 0, slots := 0, locals := 14 }
set_option maxRecDepth 65536 in
set_option maxHeartbeats 40000000 in
theorem sci12 (l : Launch) (Z : State) (a0 : Array Value) (hw : ∀ d ∈ tables_1, d.before a0 Z = true) (ws : List Jvm.Cond) (sf : Value) (h0 : Heap) (n0 : Nat) (Z0 : n0 ≤ h0.size) (O_S : Sta Z Z.heap "jdk/internal/util/Preconditions" "SIOOBE_FORMATTER" "Ljava/util/function/BiFunction;" sf) (hsf : sf.isRef = true) (X00 : Old Z n0 h0) :
    MetFree l my26 (head1 (Jvm.Cond.code my26 jdk_42_method_155_code 2 none :: ws) Rm_sci12) (fun aa_ U => aa_ = #[(.int (1 : Int32)), (.int (2 : Int32))] ∧ Z.Warmed39 U.vm ∧ U.heap = h0) (fun _ _ _ _ _ => True) (fun _ U oo_ U' => ∃ v L, oo_ = .returned v ∧ Qsci12 Z sf h0 n0 v U'.heap L ∧ FrameEnd U oo_ U' L Rm_sci12.cells Rm_sci12.slots) := by
  refine MetFree.of_bodySF (plainFor_of_name pn_5) hisR ?_
  intro p e s m args below meth c s₁ Bd hml0 hP hK
  obtain ⟨rfl, hZ, hh⟩ := hP
  have hx := Bd.exec
  have hby := Bd.bytes
  have hml : c.maxLocals = 2 := hml0
  have hown : s.vm.findClass "java/lang/String" = some m.cls := findClass_of_methodNamed Bd.named
  have hnm := (name_of_methodNamed Bd.named Bd.method).1
  have X0 : Stand p l e Rm_sci12 s m #[(.int (1 : Int32)), (.int (2 : Int32))] below meth c s₁ [] 0 0 := Stand.of_body Bd
  have e0 : s₁.heap = h0 := by rw [← hh, Bd.state]; rfl
  have N0 := Fr.nil n0
  have pre0 : ∀ tt_, Steps p.tables e below (s₁.setTop (mkF m 0 #[.val (.int (1 : Int32)), .val (.int (2 : Int32))] [])) tt_ → Steps p.tables e below (s₁.setTop (entryFrame m #[(.int (1 : Int32)), (.int (2 : Int32))] 2)) tt_ := fun tt_ kk_ => castTop (ef_29 m (1 : Int32) (2 : Int32)) kk_
  obtain ⟨T1, X1, e1, st1⟩ := getS2 X0 hx hZ hown (host := "") (Or.inl (hwd78 hw)) Via.refl e0 (O_S.ext X00.2) (g := (mkF m 2 #[.val (.int (1 : Int32)), .val (.int (2 : Int32))] [(.int (2 : Int32)), (.int (1 : Int32))])) rfl (hb hby d29_2)
  obtain ⟨_, _, ⟨T2, L2, k2, n2⟩, -, X2, ⟨Lc2, hQ2, l2, y2, z2⟩, st2⟩ := Jvm.LawKit.callS X1 hx (y := my25) hown (mvT hZ (hwd151 hw)) (mvT hZ (hwd152 hw)) (mvT hZ (hwd79 hw)) (mvT hZ (hwd153 hw)) (by decide) (backOf (W := 0) (pci12 l Z a0 hw [] sf h0 n0 Z0 hsf) hZ (hwd153 hw) (hwd79 hw) (by decide) (by decide)) (g := (mkF m 5 #[.val (.int (1 : Int32)), .val (.int (2 : Int32))] [sf, (.int (2 : Int32)), (.int (1 : Int32))])) rfl (by rw [hml]; rfl) (argsL := [(.int (1 : Int32)), (.int (2 : Int32)), sf]) (rest := []) (lenOf pd_14 rfl) rfl (by show 2 * 0 + _ ≤ _; exact Nat.le_of_eq rfl) (hb hby d29_5) (fun _ _ => ⟨rfl, e1, (by decide : 0 + 0 ≤ _), (by decide : 0 + 0 ≤ _)⟩)
  dsimp only [Pt.U, Pt.locs, Pt.cells, Pt.slots] at X2 l2 y2 z2 st2 hQ2
  subst l2 y2 z2
  obtain ⟨rfl, N2q, e2q⟩ := hQ2
  have N2 := Fr.app N0 N2q
  obtain ⟨fs, hr, hrun, hended, hW, hsame⟩ := X2.leave (v := none) (fun _ => rfl)
  refine ⟨_, _, pre0 _ ?_, hrun, hended, _, _, rfl, ?_, ⟨_, rfl⟩, hW, hsame.mono (by decide) (by decide)⟩
  · show Steps p.tables e below (s₁.setTop (mkF m 0 #[.val (.int (1 : Int32)), .val (.int (2 : Int32))] [])) _
    refine XS.iloadN X0.here hx rfl (hb hby d29_0) rfl ?_
    refine XS.iloadN X0.here hx rfl (hb hby d29_1) rfl ?_
    refine st1 _ ?_
    refine st2 _ ?_
    refine XS.pop X2.here hx rfl (hb hby d29_8) rfl rfl ?_
    exact X2.returnOut hx Bd.returns (hb hby d29_9) hr
  · show Qsci12 Z sf h0 n0 _ T2.heap _
    rw [e2q]
    exact ⟨rfl, N2, rfl⟩
def Qlca12 (Z : State) (b : Addr) (kb : ClassId) (sf : Value) (c0 : Int32) (c1 : Int32) (h0 : Heap) (n0 : Nat) (v : Option Value) (h : Heap) (L : List Loc) : Prop := v = some (.int c1) ∧ Fr n0 L ∧ h = h0
abbrev Rm_lca12 : Room := { frames := 2, cells := 0, slots := 0, locals := 27 }
set_option maxRecDepth 65536 in
set_option maxHeartbeats 40000000 in
theorem lca12 (l : Launch) (Z : State) (a0 : Array Value) (hw : ∀ d ∈ tables_1, d.before a0 Z = true) (ws : List Jvm.Cond) (b : Addr) (kb : ClassId) (sf : Value) (c0 : Int32) (c1 : Int32) (h0 : Heap) (n0 : Nat) (Z0 : n0 ≤ h0.size) (V_b : Arv Z h0 b kb .byte (2 : Int32) [(.int (nar .byte (c0.toInt8.toInt32))), (.int (nar .byte (c1.toInt8.toInt32)))] (.int 0)) (hl0 : Lat c0) (hl1 : Lat c1) (O_S : Sta Z Z.heap "jdk/internal/util/Preconditions" "SIOOBE_FORMATTER" "Ljava/util/function/BiFunction;" sf) (hsf : sf.isRef = true) (X00 : Old Z n0 h0) :
    MetFree l my27 (head1 (Jvm.Cond.code my27 jdk_43_method_2_code 2 (some .char) :: ws) Rm_lca12) (fun aa_ U => aa_ = #[(.ref b), (.int (1 : Int32))] ∧ Z.Warmed39 U.vm ∧ U.heap = h0) (fun _ _ _ _ _ => True) (fun _ U oo_ U' => ∃ v L, oo_ = .returned v ∧ Qlca12 Z b kb sf c0 c1 h0 n0 v U'.heap L ∧ FrameEnd U oo_ U' L Rm_lca12.cells Rm_lca12.slots) := by
  refine MetFree.of_bodySF (plainFor_of_name pn_8) hisR ?_
  intro p e s m args below meth c s₁ Bd hml0 hP hK
  obtain ⟨rfl, hZ, hh⟩ := hP
  have hx := Bd.exec
  have hby := Bd.bytes
  have hml : c.maxLocals = 2 := hml0
  have hown : s.vm.findClass "java/lang/StringLatin1" = some m.cls := findClass_of_methodNamed Bd.named
  have hnm := (name_of_methodNamed Bd.named Bd.method).1
  have X0 : Stand p l e Rm_lca12 s m #[(.ref b), (.int (1 : Int32))] below meth c s₁ [] 0 0 := Stand.of_body Bd
  have e0 : s₁.heap = h0 := by rw [← hh, Bd.state]; rfl
  have N0 := Fr.nil n0
  have pre0 : ∀ tt_, Steps p.tables e below (s₁.setTop (mkF m 0 #[.val (.ref b), .val (.int (1 : Int32))] [])) tt_ → Steps p.tables e below (s₁.setTop (entryFrame m #[(.ref b), (.int (1 : Int32))] 2)) tt_ := fun tt_ kk_ => castTop (ef_28 m b (1 : Int32)) kk_
  obtain ⟨cl1, Ar1, -, S1, M1, -, -⟩ := id V_b
  obtain ⟨_, _, ⟨T2, L2, k2, n2⟩, -, X2, ⟨Lc2, hQ2, l2, y2, z2⟩, st2⟩ := Jvm.LawKit.callS X0 hx (y := my26) hown (mvT hZ (hwd148 hw)) (mvT hZ (hwd149 hw)) (mvT hZ (hwd64 hw)) (mvT hZ (hwd150 hw)) (by decide) (backOf (W := 0) (sci12 l Z a0 hw [] sf h0 n0 Z0 O_S hsf X00) hZ (hwd150 hw) (hwd64 hw) (by decide) (by decide)) (g := (mkF m 3 #[.val (.ref b), .val (.int (1 : Int32))] [(.int (2 : Int32)), (.int (1 : Int32))])) rfl (by rw [hml]; rfl) (argsL := [(.int (1 : Int32)), (.int (2 : Int32))]) (rest := []) (lenOf pd_15 rfl) rfl (by show 2 * 0 + _ ≤ _; exact Nat.le_of_eq rfl) (hb hby d28_3) (fun _ _ => ⟨rfl, e0, (by decide : 0 + 0 ≤ _), (by decide : 0 + 0 ≤ _)⟩)
  dsimp only [Pt.U, Pt.locs, Pt.cells, Pt.slots] at X2 l2 y2 z2 st2 hQ2
  subst l2 y2 z2
  obtain ⟨rfl, N2q, e2q⟩ := hQ2
  have N2 := Fr.app N0 N2q
  obtain ⟨cl3, Ar3, q3, S3, M3, H3, G3⟩ := id V_b
  have hin3 : ¬ ((1 : Int32) < 0 ∨ cl3.slots.size ≤ ((1 : Int32)).toNatClampNeg) := inb_of S3 ⟨by decide, by decide⟩
  have hat3 : cl3.slots[((1 : Int32)).toNatClampNeg]? = some (.int (nar .byte (c1.toInt8.toInt32))) := H3.at hin3 rfl
  obtain ⟨fs, hr, hrun, hended, hW, hsame⟩ := X2.leave (v := some (.int (nar .char (((nar .byte (c1.toInt8.toInt32)) &&& (255 : Int32)).toUInt32.toUInt16.toUInt32.toInt32)))) (fun h => by rw [Bd.returns] at h; cases h)
  refine ⟨_, _, pre0 _ ?_, hrun, hended, _, _, rfl, ?_, ⟨_, rfl⟩, hW, hsame.mono (by decide) (by decide)⟩
  · show Steps p.tables e below (s₁.setTop (mkF m 0 #[.val (.ref b), .val (.int (1 : Int32))] [])) _
    refine XS.iloadN X0.here hx rfl (hb hby d28_0) rfl ?_
    refine XS.aloadN X0.here hx rfl (hb hby d28_1) rfl rfl ?_
    refine X0.arraylength hx (by rw [e0]; exact Ar1.1) (State.isArrayOf_alike hZ.alike Ar1.2.1) (g := (mkF m 2 #[.val (.ref b), .val (.int (1 : Int32))] [(.ref b), (.int (1 : Int32))])) rfl rfl (hb hby d28_2) _ ?_
    rw [len_of S1 M1]
    refine st2 _ ?_
    refine XS.aloadN X2.here hx rfl (hb hby d28_6) rfl rfl ?_
    refine XS.iloadN X2.here hx rfl (hb hby d28_7) rfl ?_
    show Steps p.tables e below (T2.setTop (mkF m 8 #[.val (.ref b), .val (.int (1 : Int32))] [(.int (1 : Int32)), (.ref b)])) _
    refine X2.baloadBytes hx (j := (1 : Int32)) (v := (.int (nar .byte (c1.toInt8.toInt32)))) (by rw [e2q]; exact Ar3.1) (State.isArrayOf_alike hZ.alike Ar3.2.1) Ar3.2.2 hin3 hat3 (g := (mkF m 8 #[.val (.ref b), .val (.int (1 : Int32))] [(.int (1 : Int32)), (.ref b)])) rfl rfl (hb hby d28_8) _ ?_
    refine XS.sipush X2.here hx rfl (hb hby d28_9) ?_
    show Steps p.tables e below (T2.setTop (mkF m 12 #[.val (.ref b), .val (.int (1 : Int32))] [(.int (255 : Int32)), (.int (nar .byte (c1.toInt8.toInt32)))])) _
    refine XS.iand X2.here hx rfl (hb hby d28_12) rfl ?_
    refine XS.i2c X2.here hx rfl (hb hby d28_13) rfl ?_
    exact retN X2 hx (t := .char) Bd.returns (by simp) (hb hby d28_14) hr
  · show Qlca12 Z b kb sf c0 c1 h0 n0 _ T2.heap _
    rw [e2q]
    exact ⟨congrArg (fun z => some (Value.int z)) (own_ca hl1), N2, rfl⟩
def Qsca12 (Z : State) (so : Addr) (b : Addr) (kb : ClassId) (cz : Int32) (sf : Value) (c0 : Int32) (c1 : Int32) (h0 : Heap) (n0 : Nat) (v : Option Value) (h : Heap) (L : List Loc) : Prop := v = some (.int c1) ∧ Fr n0 L ∧ h = h0
abbrev Rm_sca12 : Room := { frames := 3, cells := 0, slots := 0, locals := 40 }
set_option maxRecDepth 65536 in
set_option maxHeartbeats 40000000 in
theorem sca12 (l : Launch) (Z : State) (a0 : Array Value) (hw : ∀ d ∈ tables_1, d.before a0 Z = true) (ws : List Jvm.Cond) (so : Addr) (b : Addr) (kb : ClassId) (cz : Int32) (sf : Value) (c0 : Int32) (c1 : Int32) (h0 : Heap) (n0 : Nat) (Z0 : n0 ≤ h0.size) (E_so : Exa Z h0 so "java/lang/String") (F_value_so : Fld Z h0 so "java/lang/String" "value" "[B" (.ref b)) (F_coder_so : Fld Z h0 so "java/lang/String" "coder" "B" (.int (0 : Int32))) (V_b : Arv Z h0 b kb .byte (2 : Int32) [(.int (nar .byte (c0.toInt8.toInt32))), (.int (nar .byte (c1.toInt8.toInt32)))] (.int 0)) (hl0 : Lat c0) (hl1 : Lat c1) (O_C : Sta Z Z.heap "java/lang/String" "COMPACT_STRINGS" "Z" (.int cz)) (hcz : ¬ (cz = (0 : Int32))) (X00 : Old Z n0 h0) (O_S : Sta Z Z.heap "jdk/internal/util/Preconditions" "SIOOBE_FORMATTER" "Ljava/util/function/BiFunction;" sf) (hsf : sf.isRef = true) :
    MetFree l my28 (head1 (Jvm.Cond.code my28 jdk_42_method_56_code 2 (some .char) :: ws) Rm_sca12) (fun aa_ U => aa_ = #[(.ref so), (.int (1 : Int32))] ∧ Z.Warmed39 U.vm ∧ U.heap = h0) (fun _ _ _ _ _ => True) (fun _ U oo_ U' => ∃ v L, oo_ = .returned v ∧ Qsca12 Z so b kb cz sf c0 c1 h0 n0 v U'.heap L ∧ FrameEnd U oo_ U' L Rm_sca12.cells Rm_sca12.slots) := by
  refine MetFree.of_bodySF (plainFor_of_name pn_5) hisR ?_
  intro p e s m args below meth c s₁ Bd hml0 hP hK
  obtain ⟨rfl, hZ, hh⟩ := hP
  have hx := Bd.exec
  have hby := Bd.bytes
  have hml : c.maxLocals = 2 := hml0
  have hown : s.vm.findClass "java/lang/String" = some m.cls := findClass_of_methodNamed Bd.named
  have hnm := (name_of_methodNamed Bd.named Bd.method).1
  have X0 : Stand p l e Rm_sca12 s m #[(.ref so), (.int (1 : Int32))] below meth c s₁ [] 0 0 := Stand.of_body Bd
  have e0 : s₁.heap = h0 := by rw [← hh, Bd.state]; rfl
  have N0 := Fr.nil n0
  have pre0 : ∀ tt_, Steps p.tables e below (s₁.setTop (mkF m 0 #[.val (.ref so), .val (.int (1 : Int32))] [])) tt_ → Steps p.tables e below (s₁.setTop (entryFrame m #[(.ref so), (.int (1 : Int32))] 2)) tt_ := fun tt_ kk_ => castTop (ef_26 m so (1 : Int32)) kk_
  obtain ⟨cq1, kq1, q1a, q1b, q1c⟩ := isOf hZ e0 E_so
  obtain ⟨_, _, ⟨T1, L1, k1, n1⟩, -, X1, ⟨Lc1, hQ1, l1, y1, z1⟩, st1⟩ := X0.virtualBack hx (y := my22) (z := my22) hown (mvT hZ (hwd139 hw)) (mvT hZ (hwd140 hw)) (notFace_of_selects (args := #[]) (mvT hZ (hwd142 hw))) (mvT hZ (hwd142 hw)) (mvT hZ (hwd141 hw)) (by decide) (backOf (W := 0) (lat l Z a0 hw [] so cz h0 n0 Z0 F_coder_so O_C hcz X00) hZ (hwd143 hw) (hwd64 hw) (by decide) (by decide)) q1a q1c (g := (mkF m 1 #[.val (.ref so), .val (.int (1 : Int32))] [(.ref so)])) rfl (by rw [hml]; rfl) (Steps.refl _) (argsL := []) (rest := []) (lenOf pd_16 rfl) rfl (by show 2 * 0 + _ ≤ _; exact Nat.le_of_eq rfl) (hb hby d26_1) (fun _ _ => ⟨rfl, e0, (by decide : 0 + 0 ≤ _), (by decide : 0 + 0 ≤ _)⟩)
  dsimp only [Pt.U, Pt.locs, Pt.cells, Pt.slots] at X1 l1 y1 z1 st1 hQ1
  subst l1 y1 z1
  obtain ⟨rfl, N1q, e1q⟩ := hQ1
  have N1 := Fr.app N0 N1q
  obtain ⟨T2, X2, e2, st2⟩ := getF X1 hx hZ hown (host := "") (Or.inl (hwd94 hw)) Via.refl e1q F_value_so (g := (mkF m 8 #[.val (.ref so), .val (.int (1 : Int32))] [(.ref so)])) rfl rfl (hb hby d26_8)
  obtain ⟨_, _, ⟨T3, L3, k3, n3⟩, -, X3, ⟨Lc3, hQ3, l3, y3, z3⟩, st3⟩ := Jvm.LawKit.callS X2 hx (y := my27) hown (mvT hZ (hwd144 hw)) (mvT hZ (hwd145 hw)) (mvT hZ (hwd146 hw)) (mvT hZ (hwd147 hw)) (by decide) (backOf (W := 0) (lca12 l Z a0 hw [] b kb sf c0 c1 h0 n0 Z0 V_b hl0 hl1 O_S hsf X00) hZ (hwd147 hw) (hwd146 hw) (by decide) (by decide)) (g := (mkF m 12 #[.val (.ref so), .val (.int (1 : Int32))] [(.int (1 : Int32)), (.ref b)])) rfl (by rw [hml]; rfl) (argsL := [(.ref b), (.int (1 : Int32))]) (rest := []) (lenOf pd_17 rfl) rfl (by show 2 * 0 + _ ≤ _; exact Nat.le_of_eq rfl) (hb hby d26_12) (fun _ _ => ⟨rfl, e2, (by decide : 0 + 0 ≤ _), (by decide : 0 + 0 ≤ _)⟩)
  dsimp only [Pt.U, Pt.locs, Pt.cells, Pt.slots] at X3 l3 y3 z3 st3 hQ3
  subst l3 y3 z3
  obtain ⟨rfl, N3q, e3q⟩ := hQ3
  have N3 := Fr.app N1 N3q
  obtain ⟨fs, hr, hrun, hended, hW, hsame⟩ := X3.leave (v := some (.int (nar .char c1))) (fun h => by rw [Bd.returns] at h; cases h)
  refine ⟨_, _, pre0 _ ?_, hrun, hended, _, _, rfl, ?_, ⟨_, rfl⟩, hW, hsame.mono (by decide) (by decide)⟩
  · show Steps p.tables e below (s₁.setTop (mkF m 0 #[.val (.ref so), .val (.int (1 : Int32))] [])) _
    refine XS.aloadN X0.here hx rfl (hb hby d26_0) rfl rfl ?_
    refine st1.trans ?_
    refine XS.ifNo X1.here hx rfl (hb hby d26_4) rfl ((if0 _ _).trans (feq (show ¬ ((1 : Int32) = (0 : Int32)) from (by decide))).1) ?_
    refine XS.aloadN X1.here hx rfl (hb hby d26_7) rfl rfl ?_
    refine st2 _ ?_
    refine XS.iloadN X2.here hx rfl (hb hby d26_11) rfl ?_
    show Steps p.tables e below (T2.setTop (mkF m 12 #[.val (.ref so), .val (.int (1 : Int32))] [(.int (1 : Int32)), (.ref b)])) _
    refine st3 _ ?_
    exact retN X3 hx (t := .char) Bd.returns (by simp) (hb hby d26_15) hr
  · show Qsca12 Z so b kb cz sf c0 c1 h0 n0 _ T3.heap _
    rw [e3q]
    exact ⟨congrArg (fun z => some (Value.int z)) (own_narc hl1), N3, rfl⟩
theorem hwd104 {Z : State} {a0 : Array Value} (hw : ∀ d ∈ tables_1, d.before a0 Z = true) : (Jvm.Cond.fieldLink "com/example/libsitemap/libsitemap/ValueTextClearPinLaw" (7 : Nat) "com/example/libsitemap/libsitemap/FieldFormat$TextLimit" "LOC" "Lcom/example/libsitemap/libsitemap/FieldFormat$TextLimit;").before a0 Z = true := hw _ (List.mem_of_getElem? (i := 104) rfl)
set_option maxRecDepth 65536 in
set_option maxHeartbeats 40000000 in
theorem P0f {p : Program} {l : Launch} {e : Env} {R : Room} {s : State} {m : MethodId} {args : Array Value} {below : List Frame} {meth : Method} {c : Code} {T0 : State} {locs : List Loc} {cells slots : Nat} {Z : State} {a0 : Array Value} {h0 : Heap} {n0 : Nat} (p1 : Int32) (p2 : Int32) (p3 : Int32) (p4 : Int32) (p5 : Int32) (vo : Addr) (lq : Addr)
    (X0 : Stand p l e R s m args below meth c T0 locs cells slots) (hx : p.tables.exec = Jvm.exec) (hZ : Z.Warmed39 s.vm) (hw : ∀ d ∈ tables_1, d.before a0 Z = true) (hby : c.code = code) (hml : c.maxLocals = 20) (hown : s.vm.findClass "com/example/libsitemap/libsitemap/ValueTextClearPinLaw" = some m.cls) (e0 : T0.heap = h0) (N0 : Fr n0 locs) (Z0 : n0 ≤ h0.size) (O_V : Sta Z Z.heap "com/example/libsitemap/libsitemap/FieldFormat$TextLimit" "VALUE" "Lcom/example/libsitemap/libsitemap/FieldFormat$TextLimit;" (.ref vo)) (O_L : Sta Z Z.heap "com/example/libsitemap/libsitemap/FieldFormat$TextLimit" "LOC" "Lcom/example/libsitemap/libsitemap/FieldFormat$TextLimit;" (.ref lq)) (E_vo : Exa Z h0 vo "com/example/libsitemap/libsitemap/FieldFormat$TextLimit") (F_chars_vo : Fld Z h0 vo "com/example/libsitemap/libsitemap/FieldFormat$TextLimit" "chars" "I" (.int (128 : Int32))) (E_lq : Exa Z h0 lq "com/example/libsitemap/libsitemap/FieldFormat$TextLimit") (F_chars_lq : Fld Z h0 lq "com/example/libsitemap/libsitemap/FieldFormat$TextLimit" "chars" "I" (.int (2047 : Int32))) (X00 : Old Z n0 h0) (hfl : ¬ ((p5 &&& (1 : Int32)) = (0 : Int32))) :
    ∃ (lim : Addr) (kc : Int32) (T' : State) (locs' : List Loc) (h' : Heap), Stand p l e R s m args below meth c T' locs' cells slots ∧ T'.heap = h' ∧ Fr n0 locs' ∧ Keep h0 h' [] ∧ Exa Z h' lim "com/example/libsitemap/libsitemap/FieldFormat$TextLimit" ∧ Fld Z h' lim "com/example/libsitemap/libsitemap/FieldFormat$TextLimit" "chars" "I" (.int kc) ∧ (kc = 128 ∨ kc = 2047) ∧ ∀ target, Steps p.tables e below (T'.setTop (mkF m 16 #[.val (.int p1), .val (.int p2), .val (.int p3), .val (.int p4), .val (.int p5), .unset, .unset, .unset, .unset, .unset, .unset, .unset, .unset, .unset, .unset, .unset, .unset, .unset, .unset, .unset] [(.ref lim)])) target → Steps p.tables e below (T0.setTop (mkF m 0 #[.val (.int p1), .val (.int p2), .val (.int p3), .val (.int p4), .val (.int p5), .unset, .unset, .unset, .unset, .unset, .unset, .unset, .unset, .unset, .unset, .unset, .unset, .unset, .unset, .unset] [])) target := by
  obtain ⟨T1, X1, e1, st1⟩ := getS2 X0 hx hZ hown (host := "") (Or.inl (hwd104 hw)) Via.refl e0 (O_L.ext X00.2) (g := (mkF m 7 #[.val (.int p1), .val (.int p2), .val (.int p3), .val (.int p4), .val (.int p5), .unset, .unset, .unset, .unset, .unset, .unset, .unset, .unset, .unset, .unset, .unset, .unset, .unset, .unset, .unset] [])) rfl (hb hby at_7)
  refine ⟨lq, (2047 : Int32), T1, _, _, X1, e1, N0, (Keep.refl h0 []), E_lq, F_chars_lq, (Or.inr rfl), fun target kt => ?_⟩
  show Steps p.tables e below (T0.setTop (mkF m 0 #[.val (.int p1), .val (.int p2), .val (.int p3), .val (.int p4), .val (.int p5), .unset, .unset, .unset, .unset, .unset, .unset, .unset, .unset, .unset, .unset, .unset, .unset, .unset, .unset, .unset] [])) _
  refine XS.iload X0.here hx rfl (hb hby at_0) rfl ?_
  refine XS.iconst X0.here hx rfl (hb hby at_2) ?_
  refine XS.iand X0.here hx rfl (hb hby at_3) rfl ?_
  refine XS.ifNo X0.here hx rfl (hb hby at_4) rfl ((if0 _ _).trans (feq (show ¬ ((p5 &&& (1 : Int32)) = (0 : Int32)) from hfl)).1) ?_
  refine st1 _ ?_
  refine XS.goto X1.here hx rfl (pc0 := 10) (pc' := 16) rfl (hb hby at_10) (by decide) (by decide) ?_
  show Steps p.tables e below (T1.setTop (mkF m 16 #[.val (.int p1), .val (.int p2), .val (.int p3), .val (.int p4), .val (.int p5), .unset, .unset, .unset, .unset, .unset, .unset, .unset, .unset, .unset, .unset, .unset, .unset, .unset, .unset, .unset] [(.ref lq)])) _
  exact kt
theorem hwd0 {Z : State} {a0 : Array Value} (hw : ∀ d ∈ tables_1, d.before a0 Z = true) : (Jvm.Cond.fieldLink "com/example/libsitemap/libsitemap/ValueTextClearPinLaw" (13 : Nat) "com/example/libsitemap/libsitemap/FieldFormat$TextLimit" "VALUE" "Lcom/example/libsitemap/libsitemap/FieldFormat$TextLimit;").before a0 Z = true := hw _ (List.mem_of_getElem? (i := 0) rfl)
set_option maxRecDepth 65536 in
set_option maxHeartbeats 40000000 in
theorem P0t {p : Program} {l : Launch} {e : Env} {R : Room} {s : State} {m : MethodId} {args : Array Value} {below : List Frame} {meth : Method} {c : Code} {T0 : State} {locs : List Loc} {cells slots : Nat} {Z : State} {a0 : Array Value} {h0 : Heap} {n0 : Nat} (p1 : Int32) (p2 : Int32) (p3 : Int32) (p4 : Int32) (p5 : Int32) (vo : Addr) (lq : Addr)
    (X0 : Stand p l e R s m args below meth c T0 locs cells slots) (hx : p.tables.exec = Jvm.exec) (hZ : Z.Warmed39 s.vm) (hw : ∀ d ∈ tables_1, d.before a0 Z = true) (hby : c.code = code) (hml : c.maxLocals = 20) (hown : s.vm.findClass "com/example/libsitemap/libsitemap/ValueTextClearPinLaw" = some m.cls) (e0 : T0.heap = h0) (N0 : Fr n0 locs) (Z0 : n0 ≤ h0.size) (O_V : Sta Z Z.heap "com/example/libsitemap/libsitemap/FieldFormat$TextLimit" "VALUE" "Lcom/example/libsitemap/libsitemap/FieldFormat$TextLimit;" (.ref vo)) (O_L : Sta Z Z.heap "com/example/libsitemap/libsitemap/FieldFormat$TextLimit" "LOC" "Lcom/example/libsitemap/libsitemap/FieldFormat$TextLimit;" (.ref lq)) (E_vo : Exa Z h0 vo "com/example/libsitemap/libsitemap/FieldFormat$TextLimit") (F_chars_vo : Fld Z h0 vo "com/example/libsitemap/libsitemap/FieldFormat$TextLimit" "chars" "I" (.int (128 : Int32))) (E_lq : Exa Z h0 lq "com/example/libsitemap/libsitemap/FieldFormat$TextLimit") (F_chars_lq : Fld Z h0 lq "com/example/libsitemap/libsitemap/FieldFormat$TextLimit" "chars" "I" (.int (2047 : Int32))) (X00 : Old Z n0 h0) (hfl : (p5 &&& (1 : Int32)) = (0 : Int32)) :
    ∃ (lim : Addr) (kc : Int32) (T' : State) (locs' : List Loc) (h' : Heap), Stand p l e R s m args below meth c T' locs' cells slots ∧ T'.heap = h' ∧ Fr n0 locs' ∧ Keep h0 h' [] ∧ Exa Z h' lim "com/example/libsitemap/libsitemap/FieldFormat$TextLimit" ∧ Fld Z h' lim "com/example/libsitemap/libsitemap/FieldFormat$TextLimit" "chars" "I" (.int kc) ∧ (kc = 128 ∨ kc = 2047) ∧ ∀ target, Steps p.tables e below (T'.setTop (mkF m 16 #[.val (.int p1), .val (.int p2), .val (.int p3), .val (.int p4), .val (.int p5), .unset, .unset, .unset, .unset, .unset, .unset, .unset, .unset, .unset, .unset, .unset, .unset, .unset, .unset, .unset] [(.ref lim)])) target → Steps p.tables e below (T0.setTop (mkF m 0 #[.val (.int p1), .val (.int p2), .val (.int p3), .val (.int p4), .val (.int p5), .unset, .unset, .unset, .unset, .unset, .unset, .unset, .unset, .unset, .unset, .unset, .unset, .unset, .unset, .unset] [])) target := by
  obtain ⟨T1, X1, e1, st1⟩ := getS2 X0 hx hZ hown (host := "") (Or.inl (hwd0 hw)) Via.refl e0 (O_V.ext X00.2) (g := (mkF m 13 #[.val (.int p1), .val (.int p2), .val (.int p3), .val (.int p4), .val (.int p5), .unset, .unset, .unset, .unset, .unset, .unset, .unset, .unset, .unset, .unset, .unset, .unset, .unset, .unset, .unset] [])) rfl (hb hby at_13)
  refine ⟨vo, (128 : Int32), T1, _, _, X1, e1, N0, (Keep.refl h0 []), E_vo, F_chars_vo, (Or.inl rfl), fun target kt => ?_⟩
  show Steps p.tables e below (T0.setTop (mkF m 0 #[.val (.int p1), .val (.int p2), .val (.int p3), .val (.int p4), .val (.int p5), .unset, .unset, .unset, .unset, .unset, .unset, .unset, .unset, .unset, .unset, .unset, .unset, .unset, .unset, .unset] [])) _
  refine XS.iload X0.here hx rfl (hb hby at_0) rfl ?_
  refine XS.iconst X0.here hx rfl (hb hby at_2) ?_
  refine XS.iand X0.here hx rfl (hb hby at_3) rfl ?_
  refine XS.ifYes X0.here hx rfl (pc0 := 4) (pc' := 13) rfl (hb hby at_4) rfl ((if0 _ _).trans (teq (show (p5 &&& (1 : Int32)) = (0 : Int32) from hfl)).1) (by decide) (by decide) ?_
  refine st1 _ ?_
  show Steps p.tables e below (T1.setTop (mkF m 16 #[.val (.int p1), .val (.int p2), .val (.int p3), .val (.int p4), .val (.int p5), .unset, .unset, .unset, .unset, .unset, .unset, .unset, .unset, .unset, .unset, .unset, .unset, .unset, .unset, .unset] [(.ref vo)])) _
  exact kt
theorem P0 {p : Program} {l : Launch} {e : Env} {R : Room} {s : State} {m : MethodId} {args : Array Value} {below : List Frame} {meth : Method} {c : Code} {T0 : State} {locs : List Loc} {cells slots : Nat} {Z : State} {a0 : Array Value} {h0 : Heap} {n0 : Nat} (p1 : Int32) (p2 : Int32) (p3 : Int32) (p4 : Int32) (p5 : Int32) (vo : Addr) (lq : Addr)
    (X0 : Stand p l e R s m args below meth c T0 locs cells slots) (hx : p.tables.exec = Jvm.exec) (hZ : Z.Warmed39 s.vm) (hw : ∀ d ∈ tables_1, d.before a0 Z = true) (hby : c.code = code) (hml : c.maxLocals = 20) (hown : s.vm.findClass "com/example/libsitemap/libsitemap/ValueTextClearPinLaw" = some m.cls) (e0 : T0.heap = h0) (N0 : Fr n0 locs) (Z0 : n0 ≤ h0.size) (O_V : Sta Z Z.heap "com/example/libsitemap/libsitemap/FieldFormat$TextLimit" "VALUE" "Lcom/example/libsitemap/libsitemap/FieldFormat$TextLimit;" (.ref vo)) (O_L : Sta Z Z.heap "com/example/libsitemap/libsitemap/FieldFormat$TextLimit" "LOC" "Lcom/example/libsitemap/libsitemap/FieldFormat$TextLimit;" (.ref lq)) (E_vo : Exa Z h0 vo "com/example/libsitemap/libsitemap/FieldFormat$TextLimit") (F_chars_vo : Fld Z h0 vo "com/example/libsitemap/libsitemap/FieldFormat$TextLimit" "chars" "I" (.int (128 : Int32))) (E_lq : Exa Z h0 lq "com/example/libsitemap/libsitemap/FieldFormat$TextLimit") (F_chars_lq : Fld Z h0 lq "com/example/libsitemap/libsitemap/FieldFormat$TextLimit" "chars" "I" (.int (2047 : Int32))) (X00 : Old Z n0 h0) :
    ∃ (lim : Addr) (kc : Int32) (T' : State) (locs' : List Loc) (h' : Heap), Stand p l e R s m args below meth c T' locs' cells slots ∧ T'.heap = h' ∧ Fr n0 locs' ∧ Keep h0 h' [] ∧ Exa Z h' lim "com/example/libsitemap/libsitemap/FieldFormat$TextLimit" ∧ Fld Z h' lim "com/example/libsitemap/libsitemap/FieldFormat$TextLimit" "chars" "I" (.int kc) ∧ (kc = 128 ∨ kc = 2047) ∧ ∀ target, Steps p.tables e below (T'.setTop (mkF m 16 #[.val (.int p1), .val (.int p2), .val (.int p3), .val (.int p4), .val (.int p5), .unset, .unset, .unset, .unset, .unset, .unset, .unset, .unset, .unset, .unset, .unset, .unset, .unset, .unset, .unset] [(.ref lim)])) target → Steps p.tables e below (T0.setTop (mkF m 0 #[.val (.int p1), .val (.int p2), .val (.int p3), .val (.int p4), .val (.int p5), .unset, .unset, .unset, .unset, .unset, .unset, .unset, .unset, .unset, .unset, .unset, .unset, .unset, .unset, .unset] [])) target := by
  by_cases hfl : (p5 &&& (1 : Int32)) = (0 : Int32)
  · exact P0t p1 p2 p3 p4 p5 vo lq X0 hx hZ hw hby hml hown e0 N0 Z0 O_V O_L E_vo F_chars_vo E_lq F_chars_lq X00 hfl
  · exact P0f p1 p2 p3 p4 p5 vo lq X0 hx hZ hw hby hml hown e0 N0 Z0 O_V O_L E_vo F_chars_vo E_lq F_chars_lq X00 hfl
theorem hwd28 {Z : State} {a0 : Array Value} (hw : ∀ d ∈ tables_1, d.before a0 Z = true) : (Jvm.Cond.methodLink "com/example/libsitemap/libsitemap/ValueTextClearPinLaw" (27 : Nat) ({ cls := "com/example/libsitemap/libsitemap/ValueText", name := "take", desc := "(C)V" } : Jvm.MethodName)).before a0 Z = true := hw _ (List.mem_of_getElem? (i := 28) rfl)
theorem hwd32 {Z : State} {a0 : Array Value} (hw : ∀ d ∈ tables_1, d.before a0 Z = true) : (Jvm.Cond.code ({ cls := "com/example/libsitemap/libsitemap/ValueText", name := "take", desc := "(C)V" } : Jvm.MethodName) prog_46_method_3_code (3 : Nat) (Option.none : Option Jvm.ClassFile.FieldType)).before a0 Z = true := hw _ (List.mem_of_getElem? (i := 32) rfl)
theorem pd_18 : parseMethodDescriptor "(C)V" = some ⟨[.char], none⟩ := by decide +kernel
theorem hwd31 {Z : State} {a0 : Array Value} (hw : ∀ d ∈ tables_1, d.before a0 Z = true) : (Jvm.Cond.selects "com/example/libsitemap/libsitemap/ValueText" ({ cls := "com/example/libsitemap/libsitemap/ValueText", name := "take", desc := "(C)V" } : Jvm.MethodName) ({ cls := "com/example/libsitemap/libsitemap/ValueText", name := "take", desc := "(C)V" } : Jvm.MethodName)).before a0 Z = true := hw _ (List.mem_of_getElem? (i := 31) rfl)
theorem hwd29 {Z : State} {a0 : Array Value} (hw : ∀ d ∈ tables_1, d.before a0 Z = true) : (Jvm.Cond.declares ({ cls := "com/example/libsitemap/libsitemap/ValueText", name := "take", desc := "(C)V" } : Jvm.MethodName)).before a0 Z = true := hw _ (List.mem_of_getElem? (i := 29) rfl)
theorem hwd30 {Z : State} {a0 : Array Value} (hw : ∀ d ∈ tables_1, d.before a0 Z = true) : (Jvm.Cond.instanceMethod ({ cls := "com/example/libsitemap/libsitemap/ValueText", name := "take", desc := "(C)V" } : Jvm.MethodName)).before a0 Z = true := hw _ (List.mem_of_getElem? (i := 30) rfl)
theorem hwd38 {Z : State} {a0 : Array Value} (hw : ∀ d ∈ tables_1, d.before a0 Z = true) : (Jvm.Cond.methodLink "com/example/libsitemap/libsitemap/ValueTextClearPinLaw" (31 : Nat) ({ cls := "com/example/libsitemap/libsitemap/ValueText", name := "clear", desc := "()V" } : Jvm.MethodName)).before a0 Z = true := hw _ (List.mem_of_getElem? (i := 38) rfl)
theorem hwd42 {Z : State} {a0 : Array Value} (hw : ∀ d ∈ tables_1, d.before a0 Z = true) : (Jvm.Cond.code ({ cls := "com/example/libsitemap/libsitemap/ValueText", name := "clear", desc := "()V" } : Jvm.MethodName) prog_46_method_9_code (1 : Nat) (Option.none : Option Jvm.ClassFile.FieldType)).before a0 Z = true := hw _ (List.mem_of_getElem? (i := 42) rfl)
theorem pd_19 : parseMethodDescriptor "()V" = some ⟨[], none⟩ := by decide +kernel
theorem hwd41 {Z : State} {a0 : Array Value} (hw : ∀ d ∈ tables_1, d.before a0 Z = true) : (Jvm.Cond.selects "com/example/libsitemap/libsitemap/ValueText" ({ cls := "com/example/libsitemap/libsitemap/ValueText", name := "clear", desc := "()V" } : Jvm.MethodName) ({ cls := "com/example/libsitemap/libsitemap/ValueText", name := "clear", desc := "()V" } : Jvm.MethodName)).before a0 Z = true := hw _ (List.mem_of_getElem? (i := 41) rfl)
theorem hwd39 {Z : State} {a0 : Array Value} (hw : ∀ d ∈ tables_1, d.before a0 Z = true) : (Jvm.Cond.declares ({ cls := "com/example/libsitemap/libsitemap/ValueText", name := "clear", desc := "()V" } : Jvm.MethodName)).before a0 Z = true := hw _ (List.mem_of_getElem? (i := 39) rfl)
theorem hwd40 {Z : State} {a0 : Array Value} (hw : ∀ d ∈ tables_1, d.before a0 Z = true) : (Jvm.Cond.instanceMethod ({ cls := "com/example/libsitemap/libsitemap/ValueText", name := "clear", desc := "()V" } : Jvm.MethodName)).before a0 Z = true := hw _ (List.mem_of_getElem? (i := 40) rfl)
set_option maxRecDepth 65536 in
set_option maxHeartbeats 40000000 in
theorem P1_11 {p : Program} {l : Launch} {e : Env} {s : State} {m : MethodId} {args : Array Value} {below : List Frame} {meth : Method} {c : Code} {T0 : State} {locs : List Loc} {Z : State} {a0 : Array Value} {h0 : Heap} {n0 : Nat} (p1 : Int32) (p2 : Int32) (p3 : Int32) (p4 : Int32) (p5 : Int32) (lim : Addr) (vt : Addr) (ar : Addr) (ca : Int32) (cb : Int32) (cc : Int32) (cd : Int32) (kc : Int32) (f : Nat → Value)
    (X0 : Stand p l e room_1 s m args below meth c T0 locs 2 69) (hx : p.tables.exec = Jvm.exec) (hZ : Z.Warmed39 s.vm) (hw : ∀ d ∈ tables_1, d.before a0 Z = true) (hby : c.code = code) (hml : c.maxLocals = 20) (hown : s.vm.findClass "com/example/libsitemap/libsitemap/ValueTextClearPinLaw" = some m.cls) (e0 : T0.heap = h0) (N0 : Fr n0 locs) (Z0 : n0 ≤ h0.size) (E_vt : Exa Z h0 vt "com/example/libsitemap/libsitemap/ValueText") (F_kept_vt : Fld Z h0 vt "com/example/libsitemap/libsitemap/ValueText" "kept" "[C" (.ref ar)) (F_keptChars_vt : Fld Z h0 vt "com/example/libsitemap/libsitemap/ValueText" "keptChars" "I" (.int (kc + (1 : Int32)))) (F_keptLength_vt : Fld Z h0 vt "com/example/libsitemap/libsitemap/ValueText" "keptLength" "I" (.int (0 : Int32))) (F_length_vt : Fld Z h0 vt "com/example/libsitemap/libsitemap/ValueText" "length" "J" (.long (0 : Int64))) (F_valueLength_vt : Fld Z h0 vt "com/example/libsitemap/libsitemap/ValueText" "valueLength" "J" (.long (0 : Int64))) (A_ar : Av Z h0 ar .char 64 f) (g_vt : n0 ≤ vt) (g_ar : n0 ≤ ar) (ne_vt_ar : vt ≠ ar) (hLa : Lat ca) (hLb : Lat cb) (hkc : (kc = 128 ∨ kc = 2047)) (hb1 : ¬ (own_bl ca = (0 : Int32))) (hb2 : ¬ (own_bl cb = (0 : Int32))) :
    ∃ (f2 : Nat → Value) (T' : State) (locs' : List Loc) (h' : Heap), Stand p l e room_1 s m args below meth c T' locs' 2 69 ∧ T'.heap = h' ∧ Fr n0 locs' ∧ Keep h0 h' [vt, ar] ∧ Exa Z h' vt "com/example/libsitemap/libsitemap/ValueText" ∧ Fld Z h' vt "com/example/libsitemap/libsitemap/ValueText" "kept" "[C" (.ref ar) ∧ Fld Z h' vt "com/example/libsitemap/libsitemap/ValueText" "keptChars" "I" (.int (kc + (1 : Int32))) ∧ Fld Z h' vt "com/example/libsitemap/libsitemap/ValueText" "keptLength" "I" (.int (0 : Int32)) ∧ Fld Z h' vt "com/example/libsitemap/libsitemap/ValueText" "length" "J" (.long (0 : Int64)) ∧ Fld Z h' vt "com/example/libsitemap/libsitemap/ValueText" "valueLength" "J" (.long (0 : Int64)) ∧ Av Z h' ar .char 64 f2 ∧ ∀ target, Steps p.tables e below (T'.setTop (mkF m 72 #[.val (.int p1), .val (.int p2), .val (.int p3), .val (.int p4), .val (.int p5), .val (.ref lim), .val (.int ca), .val (.int cb), .val (.int cc), .val (.int cd), .val (.ref vt), .unset, .unset, .unset, .unset, .unset, .unset, .unset, .unset, .unset] [])) target → Steps p.tables e below (T0.setTop (mkF m 53 #[.val (.int p1), .val (.int p2), .val (.int p3), .val (.int p4), .val (.int p5), .val (.ref lim), .val (.int ca), .val (.int cb), .val (.int cc), .val (.int cd), .val (.ref vt), .unset, .unset, .unset, .unset, .unset, .unset, .unset, .unset, .unset] [])) target := by
  obtain ⟨cq1, kq1, q1a, q1b, q1c⟩ := isOf hZ e0 E_vt
  obtain ⟨_, _, ⟨T1, L1, k1, n1⟩, -, X1, ⟨Lc1, hQ1, l1, y1, z1⟩, st1⟩ := X0.virtualBack hx (y := my7) (z := my7) hown (mvT hZ (hwd28 hw)) (mvT hZ (hwd29 hw)) (notFace_of_selects (args := #[]) (mvT hZ (hwd31 hw))) (mvT hZ (hwd31 hw)) (mvT hZ (hwd30 hw)) (by decide) (backOf (W := 0) (tk0b l Z a0 hw [] vt ar ca kc f h0 n0 Z0 E_vt F_kept_vt F_keptChars_vt F_keptLength_vt F_length_vt F_valueLength_vt A_ar g_vt g_ar ne_vt_ar hLa hb1 hkc) hZ (hwd32 hw) (hwd9 hw) (by decide) (by decide)) q1a q1c (g := (mkF m 57 #[.val (.int p1), .val (.int p2), .val (.int p3), .val (.int p4), .val (.int p5), .val (.ref lim), .val (.int ca), .val (.int cb), .val (.int cc), .val (.int cd), .val (.ref vt), .unset, .unset, .unset, .unset, .unset, .unset, .unset, .unset, .unset] [(.int ca), (.ref vt)])) rfl (by rw [hml]; rfl) (Steps.refl _) (argsL := [(.int ca)]) (rest := []) (lenOf pd_18 rfl) rfl (by show 2 * 0 + _ ≤ _; exact Nat.le_of_eq rfl) (hb hby at_57) (fun _ _ => ⟨rfl, e0, (by decide : 2 + 0 ≤ _), (by decide : 69 + 0 ≤ _)⟩)
  dsimp only [Pt.U, Pt.locs, Pt.cells, Pt.slots] at X1 l1 y1 z1 st1 hQ1
  subst l1 y1 z1
  obtain ⟨rfl, N1q, e1q⟩ := hQ1
  have N1 := Fr.app N0 N1q
  obtain ⟨cq2, kq2, q2a, q2b, q2c⟩ := isOf hZ e1q E_vt
  obtain ⟨_, _, ⟨T2, L2, k2, n2⟩, -, X2, ⟨Lc2, hQ2, l2, y2, z2⟩, st2⟩ := X1.virtualBack hx (y := my7) (z := my7) hown (mvT hZ (hwd28 hw)) (mvT hZ (hwd29 hw)) (notFace_of_selects (args := #[]) (mvT hZ (hwd31 hw))) (mvT hZ (hwd31 hw)) (mvT hZ (hwd30 hw)) (by decide) (backOf (W := 0) (tk0b l Z a0 hw [] vt ar cb kc f h0 n0 Z0 E_vt F_kept_vt F_keptChars_vt F_keptLength_vt F_length_vt F_valueLength_vt A_ar g_vt g_ar ne_vt_ar hLb hb2 hkc) hZ (hwd32 hw) (hwd9 hw) (by decide) (by decide)) q2a q2c (g := (mkF m 64 #[.val (.int p1), .val (.int p2), .val (.int p3), .val (.int p4), .val (.int p5), .val (.ref lim), .val (.int ca), .val (.int cb), .val (.int cc), .val (.int cd), .val (.ref vt), .unset, .unset, .unset, .unset, .unset, .unset, .unset, .unset, .unset] [(.int cb), (.ref vt)])) rfl (by rw [hml]; rfl) (Steps.refl _) (argsL := [(.int cb)]) (rest := []) (lenOf pd_18 rfl) rfl (by show 2 * 0 + _ ≤ _; exact Nat.le_of_eq rfl) (hb hby at_64) (fun _ _ => ⟨rfl, e1q, (by decide : 2 + 0 ≤ _), (by decide : 69 + 0 ≤ _)⟩)
  dsimp only [Pt.U, Pt.locs, Pt.cells, Pt.slots] at X2 l2 y2 z2 st2 hQ2
  subst l2 y2 z2
  obtain ⟨rfl, N2q, e2q⟩ := hQ2
  have N2 := Fr.app N1 N2q
  obtain ⟨cq3, kq3, q3a, q3b, q3c⟩ := isOf hZ e2q E_vt
  obtain ⟨_, _, ⟨T3, L3, k3, n3⟩, -, X3, ⟨Lc3, hQ3, l3, y3, z3⟩, st3⟩ := X2.virtualBack hx (y := my8) (z := my8) hown (mvT hZ (hwd38 hw)) (mvT hZ (hwd39 hw)) (notFace_of_selects (args := #[]) (mvT hZ (hwd41 hw))) (mvT hZ (hwd41 hw)) (mvT hZ (hwd40 hw)) (by decide) (backOf (W := 0) (cle l Z a0 hw [] vt ar (0 : Int32) (0 : Int64) (0 : Int64) kc f h0 n0 Z0 E_vt F_kept_vt F_keptChars_vt F_keptLength_vt F_length_vt F_valueLength_vt A_ar g_vt g_ar ne_vt_ar) hZ (hwd42 hw) (hwd9 hw) (by decide) (by decide)) q3a q3c (g := (mkF m 69 #[.val (.int p1), .val (.int p2), .val (.int p3), .val (.int p4), .val (.int p5), .val (.ref lim), .val (.int ca), .val (.int cb), .val (.int cc), .val (.int cd), .val (.ref vt), .unset, .unset, .unset, .unset, .unset, .unset, .unset, .unset, .unset] [(.ref vt)])) rfl (by rw [hml]; rfl) (Steps.refl _) (argsL := []) (rest := []) (lenOf pd_19 rfl) rfl (by show 2 * 0 + _ ≤ _; exact Nat.le_of_eq rfl) (hb hby at_69) (fun _ _ => ⟨rfl, e2q, (by decide : 2 + 0 ≤ _), (by decide : 69 + 0 ≤ _)⟩)
  dsimp only [Pt.U, Pt.locs, Pt.cells, Pt.slots] at X3 l3 y3 z3 st3 hQ3
  subst l3 y3 z3
  obtain ⟨rfl, N3q, K3, p3_1, p3_2, p3_3, p3_4, p3_5, p3_6, p3_7⟩ := hQ3
  have N3 := Fr.app N2 N3q
  have kp4 : Keep h0 T3.heap [vt, ar] := ((Keep.refl h0 [vt, ar]).trans K3 (allS (Or.inl (List.mem_of_getElem? (i := 0) rfl)) all0))
  refine ⟨f, T3, _, _, X3, rfl, N3, kp4, p3_1, p3_2, p3_3, p3_4, p3_5, p3_6, p3_7, fun target kt => ?_⟩
  show Steps p.tables e below (T0.setTop (mkF m 53 #[.val (.int p1), .val (.int p2), .val (.int p3), .val (.int p4), .val (.int p5), .val (.ref lim), .val (.int ca), .val (.int cb), .val (.int cc), .val (.int cd), .val (.ref vt), .unset, .unset, .unset, .unset, .unset, .unset, .unset, .unset, .unset] [])) _
  refine XS.aload X0.here hx rfl (hb hby at_53) rfl rfl ?_
  refine XS.iload X0.here hx rfl (hb hby at_55) rfl ?_
  refine st1.trans ?_
  refine XS.aload X1.here hx rfl (hb hby at_60) rfl rfl ?_
  refine XS.iload X1.here hx rfl (hb hby at_62) rfl ?_
  refine st2.trans ?_
  show Steps p.tables e below (T2.setTop (mkF m 67 #[.val (.int p1), .val (.int p2), .val (.int p3), .val (.int p4), .val (.int p5), .val (.ref lim), .val (.int ca), .val (.int cb), .val (.int cc), .val (.int cd), .val (.ref vt), .unset, .unset, .unset, .unset, .unset, .unset, .unset, .unset, .unset] [])) _
  refine XS.aload X2.here hx rfl (hb hby at_67) rfl rfl ?_
  refine st3.trans ?_
  show Steps p.tables e below (T3.setTop (mkF m 72 #[.val (.int p1), .val (.int p2), .val (.int p3), .val (.int p4), .val (.int p5), .val (.ref lim), .val (.int ca), .val (.int cb), .val (.int cc), .val (.int cd), .val (.ref vt), .unset, .unset, .unset, .unset, .unset, .unset, .unset, .unset, .unset] [])) _
  exact kt
set_option maxRecDepth 65536 in
set_option maxHeartbeats 40000000 in
theorem P1_10 {p : Program} {l : Launch} {e : Env} {s : State} {m : MethodId} {args : Array Value} {below : List Frame} {meth : Method} {c : Code} {T0 : State} {locs : List Loc} {Z : State} {a0 : Array Value} {h0 : Heap} {n0 : Nat} (p1 : Int32) (p2 : Int32) (p3 : Int32) (p4 : Int32) (p5 : Int32) (lim : Addr) (vt : Addr) (ar : Addr) (ca : Int32) (cb : Int32) (cc : Int32) (cd : Int32) (kc : Int32) (f : Nat → Value)
    (X0 : Stand p l e room_1 s m args below meth c T0 locs 2 69) (hx : p.tables.exec = Jvm.exec) (hZ : Z.Warmed39 s.vm) (hw : ∀ d ∈ tables_1, d.before a0 Z = true) (hby : c.code = code) (hml : c.maxLocals = 20) (hown : s.vm.findClass "com/example/libsitemap/libsitemap/ValueTextClearPinLaw" = some m.cls) (e0 : T0.heap = h0) (N0 : Fr n0 locs) (Z0 : n0 ≤ h0.size) (E_vt : Exa Z h0 vt "com/example/libsitemap/libsitemap/ValueText") (F_kept_vt : Fld Z h0 vt "com/example/libsitemap/libsitemap/ValueText" "kept" "[C" (.ref ar)) (F_keptChars_vt : Fld Z h0 vt "com/example/libsitemap/libsitemap/ValueText" "keptChars" "I" (.int (kc + (1 : Int32)))) (F_keptLength_vt : Fld Z h0 vt "com/example/libsitemap/libsitemap/ValueText" "keptLength" "I" (.int (0 : Int32))) (F_length_vt : Fld Z h0 vt "com/example/libsitemap/libsitemap/ValueText" "length" "J" (.long (0 : Int64))) (F_valueLength_vt : Fld Z h0 vt "com/example/libsitemap/libsitemap/ValueText" "valueLength" "J" (.long (0 : Int64))) (A_ar : Av Z h0 ar .char 64 f) (g_vt : n0 ≤ vt) (g_ar : n0 ≤ ar) (ne_vt_ar : vt ≠ ar) (hLa : Lat ca) (hLb : Lat cb) (hkc : (kc = 128 ∨ kc = 2047)) (hb1 : ¬ (own_bl ca = (0 : Int32))) (hb2 : own_bl cb = (0 : Int32)) :
    ∃ (f2 : Nat → Value) (T' : State) (locs' : List Loc) (h' : Heap), Stand p l e room_1 s m args below meth c T' locs' 2 69 ∧ T'.heap = h' ∧ Fr n0 locs' ∧ Keep h0 h' [vt, ar] ∧ Exa Z h' vt "com/example/libsitemap/libsitemap/ValueText" ∧ Fld Z h' vt "com/example/libsitemap/libsitemap/ValueText" "kept" "[C" (.ref ar) ∧ Fld Z h' vt "com/example/libsitemap/libsitemap/ValueText" "keptChars" "I" (.int (kc + (1 : Int32))) ∧ Fld Z h' vt "com/example/libsitemap/libsitemap/ValueText" "keptLength" "I" (.int (0 : Int32)) ∧ Fld Z h' vt "com/example/libsitemap/libsitemap/ValueText" "length" "J" (.long (0 : Int64)) ∧ Fld Z h' vt "com/example/libsitemap/libsitemap/ValueText" "valueLength" "J" (.long (0 : Int64)) ∧ Av Z h' ar .char 64 f2 ∧ ∀ target, Steps p.tables e below (T'.setTop (mkF m 72 #[.val (.int p1), .val (.int p2), .val (.int p3), .val (.int p4), .val (.int p5), .val (.ref lim), .val (.int ca), .val (.int cb), .val (.int cc), .val (.int cd), .val (.ref vt), .unset, .unset, .unset, .unset, .unset, .unset, .unset, .unset, .unset] [])) target → Steps p.tables e below (T0.setTop (mkF m 53 #[.val (.int p1), .val (.int p2), .val (.int p3), .val (.int p4), .val (.int p5), .val (.ref lim), .val (.int ca), .val (.int cb), .val (.int cc), .val (.int cd), .val (.ref vt), .unset, .unset, .unset, .unset, .unset, .unset, .unset, .unset, .unset] [])) target := by
  obtain ⟨cq1, kq1, q1a, q1b, q1c⟩ := isOf hZ e0 E_vt
  obtain ⟨_, _, ⟨T1, L1, k1, n1⟩, -, X1, ⟨Lc1, hQ1, l1, y1, z1⟩, st1⟩ := X0.virtualBack hx (y := my7) (z := my7) hown (mvT hZ (hwd28 hw)) (mvT hZ (hwd29 hw)) (notFace_of_selects (args := #[]) (mvT hZ (hwd31 hw))) (mvT hZ (hwd31 hw)) (mvT hZ (hwd30 hw)) (by decide) (backOf (W := 0) (tk0b l Z a0 hw [] vt ar ca kc f h0 n0 Z0 E_vt F_kept_vt F_keptChars_vt F_keptLength_vt F_length_vt F_valueLength_vt A_ar g_vt g_ar ne_vt_ar hLa hb1 hkc) hZ (hwd32 hw) (hwd9 hw) (by decide) (by decide)) q1a q1c (g := (mkF m 57 #[.val (.int p1), .val (.int p2), .val (.int p3), .val (.int p4), .val (.int p5), .val (.ref lim), .val (.int ca), .val (.int cb), .val (.int cc), .val (.int cd), .val (.ref vt), .unset, .unset, .unset, .unset, .unset, .unset, .unset, .unset, .unset] [(.int ca), (.ref vt)])) rfl (by rw [hml]; rfl) (Steps.refl _) (argsL := [(.int ca)]) (rest := []) (lenOf pd_18 rfl) rfl (by show 2 * 0 + _ ≤ _; exact Nat.le_of_eq rfl) (hb hby at_57) (fun _ _ => ⟨rfl, e0, (by decide : 2 + 0 ≤ _), (by decide : 69 + 0 ≤ _)⟩)
  dsimp only [Pt.U, Pt.locs, Pt.cells, Pt.slots] at X1 l1 y1 z1 st1 hQ1
  subst l1 y1 z1
  obtain ⟨rfl, N1q, e1q⟩ := hQ1
  have N1 := Fr.app N0 N1q
  obtain ⟨cq2, kq2, q2a, q2b, q2c⟩ := isOf hZ e1q E_vt
  obtain ⟨_, _, ⟨T2, L2, k2, n2⟩, -, X2, ⟨Lc2, hQ2, l2, y2, z2⟩, st2⟩ := X1.virtualBack hx (y := my7) (z := my7) hown (mvT hZ (hwd28 hw)) (mvT hZ (hwd29 hw)) (notFace_of_selects (args := #[]) (mvT hZ (hwd31 hw))) (mvT hZ (hwd31 hw)) (mvT hZ (hwd30 hw)) (by decide) (backOf (W := 0) (tk0n l Z a0 hw [] vt ar cb kc f h0 n0 Z0 E_vt F_kept_vt F_keptChars_vt F_keptLength_vt F_length_vt F_valueLength_vt A_ar g_vt g_ar ne_vt_ar hLb hb2 hkc) hZ (hwd32 hw) (hwd9 hw) (by decide) (by decide)) q2a q2c (g := (mkF m 64 #[.val (.int p1), .val (.int p2), .val (.int p3), .val (.int p4), .val (.int p5), .val (.ref lim), .val (.int ca), .val (.int cb), .val (.int cc), .val (.int cd), .val (.ref vt), .unset, .unset, .unset, .unset, .unset, .unset, .unset, .unset, .unset] [(.int cb), (.ref vt)])) rfl (by rw [hml]; rfl) (Steps.refl _) (argsL := [(.int cb)]) (rest := []) (lenOf pd_18 rfl) rfl (by show 2 * 0 + _ ≤ _; exact Nat.le_of_eq rfl) (hb hby at_64) (fun _ _ => ⟨rfl, e1q, (by decide : 2 + 0 ≤ _), (by decide : 69 + 0 ≤ _)⟩)
  dsimp only [Pt.U, Pt.locs, Pt.cells, Pt.slots] at X2 l2 y2 z2 st2 hQ2
  subst l2 y2 z2
  obtain ⟨rfl, N2q, K2, p2_1, p2_2, p2_3, p2_4, p2_5, p2_6, p2_7⟩ := hQ2
  have N2 := Fr.app N1 N2q
  have sz4 : n0 ≤ T2.heap.size := (Nat.le_trans Z0 K2.1)
  obtain ⟨cq3, kq3, q3a, q3b, q3c⟩ := isOf hZ rfl p2_1
  obtain ⟨_, _, ⟨T3, L3, k3, n3⟩, -, X3, ⟨Lc3, hQ3, l3, y3, z3⟩, st3⟩ := X2.virtualBack hx (y := my8) (z := my8) hown (mvT hZ (hwd38 hw)) (mvT hZ (hwd39 hw)) (notFace_of_selects (args := #[]) (mvT hZ (hwd41 hw))) (mvT hZ (hwd41 hw)) (mvT hZ (hwd40 hw)) (by decide) (backOf (W := 0) (cle l Z a0 hw [] vt ar (1 : Int32) (1 : Int64) (1 : Int64) kc (fun jj_ => if jj_ = 0 then (.int cb) else f jj_) (T2.heap) n0 sz4 p2_1 p2_2 p2_3 p2_4 p2_5 p2_6 p2_7 g_vt g_ar ne_vt_ar) hZ (hwd42 hw) (hwd9 hw) (by decide) (by decide)) q3a q3c (g := (mkF m 69 #[.val (.int p1), .val (.int p2), .val (.int p3), .val (.int p4), .val (.int p5), .val (.ref lim), .val (.int ca), .val (.int cb), .val (.int cc), .val (.int cd), .val (.ref vt), .unset, .unset, .unset, .unset, .unset, .unset, .unset, .unset, .unset] [(.ref vt)])) rfl (by rw [hml]; rfl) (Steps.refl _) (argsL := []) (rest := []) (lenOf pd_19 rfl) rfl (by show 2 * 0 + _ ≤ _; exact Nat.le_of_eq rfl) (hb hby at_69) (fun _ _ => ⟨rfl, rfl, (by decide : 2 + 0 ≤ _), (by decide : 69 + 0 ≤ _)⟩)
  dsimp only [Pt.U, Pt.locs, Pt.cells, Pt.slots] at X3 l3 y3 z3 st3 hQ3
  subst l3 y3 z3
  obtain ⟨rfl, N3q, K3, p3_1, p3_2, p3_3, p3_4, p3_5, p3_6, p3_7⟩ := hQ3
  have N3 := Fr.app N2 N3q
  have kp5 : Keep h0 T3.heap [vt, ar] := (((Keep.refl h0 [vt, ar]).trans K2 (allS (Or.inl (List.mem_of_getElem? (i := 0) rfl)) (allS (Or.inl (List.mem_of_getElem? (i := 1) rfl)) all0))).trans K3 (allS (Or.inl (List.mem_of_getElem? (i := 0) rfl)) all0))
  refine ⟨(fun jj_ => if jj_ = 0 then (.int cb) else f jj_), T3, _, _, X3, rfl, N3, kp5, p3_1, p3_2, p3_3, p3_4, p3_5, p3_6, p3_7, fun target kt => ?_⟩
  show Steps p.tables e below (T0.setTop (mkF m 53 #[.val (.int p1), .val (.int p2), .val (.int p3), .val (.int p4), .val (.int p5), .val (.ref lim), .val (.int ca), .val (.int cb), .val (.int cc), .val (.int cd), .val (.ref vt), .unset, .unset, .unset, .unset, .unset, .unset, .unset, .unset, .unset] [])) _
  refine XS.aload X0.here hx rfl (hb hby at_53) rfl rfl ?_
  refine XS.iload X0.here hx rfl (hb hby at_55) rfl ?_
  refine st1.trans ?_
  refine XS.aload X1.here hx rfl (hb hby at_60) rfl rfl ?_
  refine XS.iload X1.here hx rfl (hb hby at_62) rfl ?_
  refine st2.trans ?_
  show Steps p.tables e below (T2.setTop (mkF m 67 #[.val (.int p1), .val (.int p2), .val (.int p3), .val (.int p4), .val (.int p5), .val (.ref lim), .val (.int ca), .val (.int cb), .val (.int cc), .val (.int cd), .val (.ref vt), .unset, .unset, .unset, .unset, .unset, .unset, .unset, .unset, .unset] [])) _
  refine XS.aload X2.here hx rfl (hb hby at_67) rfl rfl ?_
  refine st3.trans ?_
  show Steps p.tables e below (T3.setTop (mkF m 72 #[.val (.int p1), .val (.int p2), .val (.int p3), .val (.int p4), .val (.int p5), .val (.ref lim), .val (.int ca), .val (.int cb), .val (.int cc), .val (.int cd), .val (.ref vt), .unset, .unset, .unset, .unset, .unset, .unset, .unset, .unset, .unset] [])) _
  exact kt
set_option maxRecDepth 65536 in
set_option maxHeartbeats 40000000 in
theorem P1_01 {p : Program} {l : Launch} {e : Env} {s : State} {m : MethodId} {args : Array Value} {below : List Frame} {meth : Method} {c : Code} {T0 : State} {locs : List Loc} {Z : State} {a0 : Array Value} {h0 : Heap} {n0 : Nat} (p1 : Int32) (p2 : Int32) (p3 : Int32) (p4 : Int32) (p5 : Int32) (lim : Addr) (vt : Addr) (ar : Addr) (ca : Int32) (cb : Int32) (cc : Int32) (cd : Int32) (kc : Int32) (f : Nat → Value)
    (X0 : Stand p l e room_1 s m args below meth c T0 locs 2 69) (hx : p.tables.exec = Jvm.exec) (hZ : Z.Warmed39 s.vm) (hw : ∀ d ∈ tables_1, d.before a0 Z = true) (hby : c.code = code) (hml : c.maxLocals = 20) (hown : s.vm.findClass "com/example/libsitemap/libsitemap/ValueTextClearPinLaw" = some m.cls) (e0 : T0.heap = h0) (N0 : Fr n0 locs) (Z0 : n0 ≤ h0.size) (E_vt : Exa Z h0 vt "com/example/libsitemap/libsitemap/ValueText") (F_kept_vt : Fld Z h0 vt "com/example/libsitemap/libsitemap/ValueText" "kept" "[C" (.ref ar)) (F_keptChars_vt : Fld Z h0 vt "com/example/libsitemap/libsitemap/ValueText" "keptChars" "I" (.int (kc + (1 : Int32)))) (F_keptLength_vt : Fld Z h0 vt "com/example/libsitemap/libsitemap/ValueText" "keptLength" "I" (.int (0 : Int32))) (F_length_vt : Fld Z h0 vt "com/example/libsitemap/libsitemap/ValueText" "length" "J" (.long (0 : Int64))) (F_valueLength_vt : Fld Z h0 vt "com/example/libsitemap/libsitemap/ValueText" "valueLength" "J" (.long (0 : Int64))) (A_ar : Av Z h0 ar .char 64 f) (g_vt : n0 ≤ vt) (g_ar : n0 ≤ ar) (ne_vt_ar : vt ≠ ar) (hLa : Lat ca) (hLb : Lat cb) (hkc : (kc = 128 ∨ kc = 2047)) (hb1 : own_bl ca = (0 : Int32)) (hb2 : ¬ (own_bl cb = (0 : Int32))) :
    ∃ (f2 : Nat → Value) (T' : State) (locs' : List Loc) (h' : Heap), Stand p l e room_1 s m args below meth c T' locs' 2 69 ∧ T'.heap = h' ∧ Fr n0 locs' ∧ Keep h0 h' [vt, ar] ∧ Exa Z h' vt "com/example/libsitemap/libsitemap/ValueText" ∧ Fld Z h' vt "com/example/libsitemap/libsitemap/ValueText" "kept" "[C" (.ref ar) ∧ Fld Z h' vt "com/example/libsitemap/libsitemap/ValueText" "keptChars" "I" (.int (kc + (1 : Int32))) ∧ Fld Z h' vt "com/example/libsitemap/libsitemap/ValueText" "keptLength" "I" (.int (0 : Int32)) ∧ Fld Z h' vt "com/example/libsitemap/libsitemap/ValueText" "length" "J" (.long (0 : Int64)) ∧ Fld Z h' vt "com/example/libsitemap/libsitemap/ValueText" "valueLength" "J" (.long (0 : Int64)) ∧ Av Z h' ar .char 64 f2 ∧ ∀ target, Steps p.tables e below (T'.setTop (mkF m 72 #[.val (.int p1), .val (.int p2), .val (.int p3), .val (.int p4), .val (.int p5), .val (.ref lim), .val (.int ca), .val (.int cb), .val (.int cc), .val (.int cd), .val (.ref vt), .unset, .unset, .unset, .unset, .unset, .unset, .unset, .unset, .unset] [])) target → Steps p.tables e below (T0.setTop (mkF m 53 #[.val (.int p1), .val (.int p2), .val (.int p3), .val (.int p4), .val (.int p5), .val (.ref lim), .val (.int ca), .val (.int cb), .val (.int cc), .val (.int cd), .val (.ref vt), .unset, .unset, .unset, .unset, .unset, .unset, .unset, .unset, .unset] [])) target := by
  obtain ⟨cq1, kq1, q1a, q1b, q1c⟩ := isOf hZ e0 E_vt
  obtain ⟨_, _, ⟨T1, L1, k1, n1⟩, -, X1, ⟨Lc1, hQ1, l1, y1, z1⟩, st1⟩ := X0.virtualBack hx (y := my7) (z := my7) hown (mvT hZ (hwd28 hw)) (mvT hZ (hwd29 hw)) (notFace_of_selects (args := #[]) (mvT hZ (hwd31 hw))) (mvT hZ (hwd31 hw)) (mvT hZ (hwd30 hw)) (by decide) (backOf (W := 0) (tk0n l Z a0 hw [] vt ar ca kc f h0 n0 Z0 E_vt F_kept_vt F_keptChars_vt F_keptLength_vt F_length_vt F_valueLength_vt A_ar g_vt g_ar ne_vt_ar hLa hb1 hkc) hZ (hwd32 hw) (hwd9 hw) (by decide) (by decide)) q1a q1c (g := (mkF m 57 #[.val (.int p1), .val (.int p2), .val (.int p3), .val (.int p4), .val (.int p5), .val (.ref lim), .val (.int ca), .val (.int cb), .val (.int cc), .val (.int cd), .val (.ref vt), .unset, .unset, .unset, .unset, .unset, .unset, .unset, .unset, .unset] [(.int ca), (.ref vt)])) rfl (by rw [hml]; rfl) (Steps.refl _) (argsL := [(.int ca)]) (rest := []) (lenOf pd_18 rfl) rfl (by show 2 * 0 + _ ≤ _; exact Nat.le_of_eq rfl) (hb hby at_57) (fun _ _ => ⟨rfl, e0, (by decide : 2 + 0 ≤ _), (by decide : 69 + 0 ≤ _)⟩)
  dsimp only [Pt.U, Pt.locs, Pt.cells, Pt.slots] at X1 l1 y1 z1 st1 hQ1
  subst l1 y1 z1
  obtain ⟨rfl, N1q, K1, p1_1, p1_2, p1_3, p1_4, p1_5, p1_6, p1_7⟩ := hQ1
  have N1 := Fr.app N0 N1q
  have sz3 : n0 ≤ T1.heap.size := (Nat.le_trans Z0 K1.1)
  obtain ⟨cq2, kq2, q2a, q2b, q2c⟩ := isOf hZ rfl p1_1
  obtain ⟨_, _, ⟨T2, L2, k2, n2⟩, -, X2, ⟨Lc2, hQ2, l2, y2, z2⟩, st2⟩ := X1.virtualBack hx (y := my7) (z := my7) hown (mvT hZ (hwd28 hw)) (mvT hZ (hwd29 hw)) (notFace_of_selects (args := #[]) (mvT hZ (hwd31 hw))) (mvT hZ (hwd31 hw)) (mvT hZ (hwd30 hw)) (by decide) (backOf (W := 0) (tk1b l Z a0 hw [] vt ar cb kc (fun jj_ => if jj_ = 0 then (.int ca) else f jj_) (T1.heap) n0 sz3 p1_1 p1_2 p1_3 p1_4 p1_5 p1_6 p1_7 g_vt g_ar ne_vt_ar hLb hb2 hkc) hZ (hwd32 hw) (hwd9 hw) (by decide) (by decide)) q2a q2c (g := (mkF m 64 #[.val (.int p1), .val (.int p2), .val (.int p3), .val (.int p4), .val (.int p5), .val (.ref lim), .val (.int ca), .val (.int cb), .val (.int cc), .val (.int cd), .val (.ref vt), .unset, .unset, .unset, .unset, .unset, .unset, .unset, .unset, .unset] [(.int cb), (.ref vt)])) rfl (by rw [hml]; rfl) (Steps.refl _) (argsL := [(.int cb)]) (rest := []) (lenOf pd_18 rfl) rfl (by show 2 * 0 + _ ≤ _; exact Nat.le_of_eq rfl) (hb hby at_64) (fun _ _ => ⟨rfl, rfl, (by decide : 2 + 0 ≤ _), (by decide : 69 + 0 ≤ _)⟩)
  dsimp only [Pt.U, Pt.locs, Pt.cells, Pt.slots] at X2 l2 y2 z2 st2 hQ2
  subst l2 y2 z2
  obtain ⟨rfl, N2q, K2, p2_1, p2_2, p2_3, p2_4, p2_5, p2_6, p2_7⟩ := hQ2
  have N2 := Fr.app N1 N2q
  have sz5 : n0 ≤ T2.heap.size := (Nat.le_trans sz3 K2.1)
  obtain ⟨cq4, kq4, q4a, q4b, q4c⟩ := isOf hZ rfl p2_1
  obtain ⟨_, _, ⟨T4, L4, k4, n4⟩, -, X4, ⟨Lc4, hQ4, l4, y4, z4⟩, st4⟩ := X2.virtualBack hx (y := my8) (z := my8) hown (mvT hZ (hwd38 hw)) (mvT hZ (hwd39 hw)) (notFace_of_selects (args := #[]) (mvT hZ (hwd41 hw))) (mvT hZ (hwd41 hw)) (mvT hZ (hwd40 hw)) (by decide) (backOf (W := 0) (cle l Z a0 hw [] vt ar (2 : Int32) (2 : Int64) (1 : Int64) kc (fun jj_ => if jj_ = 1 then (.int cb) else (fun jj_ => if jj_ = 0 then (.int ca) else f jj_) jj_) (T2.heap) n0 sz5 p2_1 p2_2 p2_3 p2_4 p2_5 p2_6 p2_7 g_vt g_ar ne_vt_ar) hZ (hwd42 hw) (hwd9 hw) (by decide) (by decide)) q4a q4c (g := (mkF m 69 #[.val (.int p1), .val (.int p2), .val (.int p3), .val (.int p4), .val (.int p5), .val (.ref lim), .val (.int ca), .val (.int cb), .val (.int cc), .val (.int cd), .val (.ref vt), .unset, .unset, .unset, .unset, .unset, .unset, .unset, .unset, .unset] [(.ref vt)])) rfl (by rw [hml]; rfl) (Steps.refl _) (argsL := []) (rest := []) (lenOf pd_19 rfl) rfl (by show 2 * 0 + _ ≤ _; exact Nat.le_of_eq rfl) (hb hby at_69) (fun _ _ => ⟨rfl, rfl, (by decide : 2 + 0 ≤ _), (by decide : 69 + 0 ≤ _)⟩)
  dsimp only [Pt.U, Pt.locs, Pt.cells, Pt.slots] at X4 l4 y4 z4 st4 hQ4
  subst l4 y4 z4
  obtain ⟨rfl, N4q, K4, p4_1, p4_2, p4_3, p4_4, p4_5, p4_6, p4_7⟩ := hQ4
  have N4 := Fr.app N2 N4q
  have kp6 : Keep h0 T4.heap [vt, ar] := ((((Keep.refl h0 [vt, ar]).trans K1 (allS (Or.inl (List.mem_of_getElem? (i := 0) rfl)) (allS (Or.inl (List.mem_of_getElem? (i := 1) rfl)) all0))).trans K2 (allS (Or.inl (List.mem_of_getElem? (i := 0) rfl)) (allS (Or.inl (List.mem_of_getElem? (i := 1) rfl)) all0))).trans K4 (allS (Or.inl (List.mem_of_getElem? (i := 0) rfl)) all0))
  refine ⟨(fun jj_ => if jj_ = 1 then (.int cb) else (fun jj_ => if jj_ = 0 then (.int ca) else f jj_) jj_), T4, _, _, X4, rfl, N4, kp6, p4_1, p4_2, p4_3, p4_4, p4_5, p4_6, p4_7, fun target kt => ?_⟩
  show Steps p.tables e below (T0.setTop (mkF m 53 #[.val (.int p1), .val (.int p2), .val (.int p3), .val (.int p4), .val (.int p5), .val (.ref lim), .val (.int ca), .val (.int cb), .val (.int cc), .val (.int cd), .val (.ref vt), .unset, .unset, .unset, .unset, .unset, .unset, .unset, .unset, .unset] [])) _
  refine XS.aload X0.here hx rfl (hb hby at_53) rfl rfl ?_
  refine XS.iload X0.here hx rfl (hb hby at_55) rfl ?_
  refine st1.trans ?_
  refine XS.aload X1.here hx rfl (hb hby at_60) rfl rfl ?_
  refine XS.iload X1.here hx rfl (hb hby at_62) rfl ?_
  refine st2.trans ?_
  show Steps p.tables e below (T2.setTop (mkF m 67 #[.val (.int p1), .val (.int p2), .val (.int p3), .val (.int p4), .val (.int p5), .val (.ref lim), .val (.int ca), .val (.int cb), .val (.int cc), .val (.int cd), .val (.ref vt), .unset, .unset, .unset, .unset, .unset, .unset, .unset, .unset, .unset] [])) _
  refine XS.aload X2.here hx rfl (hb hby at_67) rfl rfl ?_
  refine st4.trans ?_
  show Steps p.tables e below (T4.setTop (mkF m 72 #[.val (.int p1), .val (.int p2), .val (.int p3), .val (.int p4), .val (.int p5), .val (.ref lim), .val (.int ca), .val (.int cb), .val (.int cc), .val (.int cd), .val (.ref vt), .unset, .unset, .unset, .unset, .unset, .unset, .unset, .unset, .unset] [])) _
  exact kt
set_option maxRecDepth 65536 in
set_option maxHeartbeats 40000000 in
theorem P1_00 {p : Program} {l : Launch} {e : Env} {s : State} {m : MethodId} {args : Array Value} {below : List Frame} {meth : Method} {c : Code} {T0 : State} {locs : List Loc} {Z : State} {a0 : Array Value} {h0 : Heap} {n0 : Nat} (p1 : Int32) (p2 : Int32) (p3 : Int32) (p4 : Int32) (p5 : Int32) (lim : Addr) (vt : Addr) (ar : Addr) (ca : Int32) (cb : Int32) (cc : Int32) (cd : Int32) (kc : Int32) (f : Nat → Value)
    (X0 : Stand p l e room_1 s m args below meth c T0 locs 2 69) (hx : p.tables.exec = Jvm.exec) (hZ : Z.Warmed39 s.vm) (hw : ∀ d ∈ tables_1, d.before a0 Z = true) (hby : c.code = code) (hml : c.maxLocals = 20) (hown : s.vm.findClass "com/example/libsitemap/libsitemap/ValueTextClearPinLaw" = some m.cls) (e0 : T0.heap = h0) (N0 : Fr n0 locs) (Z0 : n0 ≤ h0.size) (E_vt : Exa Z h0 vt "com/example/libsitemap/libsitemap/ValueText") (F_kept_vt : Fld Z h0 vt "com/example/libsitemap/libsitemap/ValueText" "kept" "[C" (.ref ar)) (F_keptChars_vt : Fld Z h0 vt "com/example/libsitemap/libsitemap/ValueText" "keptChars" "I" (.int (kc + (1 : Int32)))) (F_keptLength_vt : Fld Z h0 vt "com/example/libsitemap/libsitemap/ValueText" "keptLength" "I" (.int (0 : Int32))) (F_length_vt : Fld Z h0 vt "com/example/libsitemap/libsitemap/ValueText" "length" "J" (.long (0 : Int64))) (F_valueLength_vt : Fld Z h0 vt "com/example/libsitemap/libsitemap/ValueText" "valueLength" "J" (.long (0 : Int64))) (A_ar : Av Z h0 ar .char 64 f) (g_vt : n0 ≤ vt) (g_ar : n0 ≤ ar) (ne_vt_ar : vt ≠ ar) (hLa : Lat ca) (hLb : Lat cb) (hkc : (kc = 128 ∨ kc = 2047)) (hb1 : own_bl ca = (0 : Int32)) (hb2 : own_bl cb = (0 : Int32)) :
    ∃ (f2 : Nat → Value) (T' : State) (locs' : List Loc) (h' : Heap), Stand p l e room_1 s m args below meth c T' locs' 2 69 ∧ T'.heap = h' ∧ Fr n0 locs' ∧ Keep h0 h' [vt, ar] ∧ Exa Z h' vt "com/example/libsitemap/libsitemap/ValueText" ∧ Fld Z h' vt "com/example/libsitemap/libsitemap/ValueText" "kept" "[C" (.ref ar) ∧ Fld Z h' vt "com/example/libsitemap/libsitemap/ValueText" "keptChars" "I" (.int (kc + (1 : Int32))) ∧ Fld Z h' vt "com/example/libsitemap/libsitemap/ValueText" "keptLength" "I" (.int (0 : Int32)) ∧ Fld Z h' vt "com/example/libsitemap/libsitemap/ValueText" "length" "J" (.long (0 : Int64)) ∧ Fld Z h' vt "com/example/libsitemap/libsitemap/ValueText" "valueLength" "J" (.long (0 : Int64)) ∧ Av Z h' ar .char 64 f2 ∧ ∀ target, Steps p.tables e below (T'.setTop (mkF m 72 #[.val (.int p1), .val (.int p2), .val (.int p3), .val (.int p4), .val (.int p5), .val (.ref lim), .val (.int ca), .val (.int cb), .val (.int cc), .val (.int cd), .val (.ref vt), .unset, .unset, .unset, .unset, .unset, .unset, .unset, .unset, .unset] [])) target → Steps p.tables e below (T0.setTop (mkF m 53 #[.val (.int p1), .val (.int p2), .val (.int p3), .val (.int p4), .val (.int p5), .val (.ref lim), .val (.int ca), .val (.int cb), .val (.int cc), .val (.int cd), .val (.ref vt), .unset, .unset, .unset, .unset, .unset, .unset, .unset, .unset, .unset] [])) target := by
  obtain ⟨cq1, kq1, q1a, q1b, q1c⟩ := isOf hZ e0 E_vt
  obtain ⟨_, _, ⟨T1, L1, k1, n1⟩, -, X1, ⟨Lc1, hQ1, l1, y1, z1⟩, st1⟩ := X0.virtualBack hx (y := my7) (z := my7) hown (mvT hZ (hwd28 hw)) (mvT hZ (hwd29 hw)) (notFace_of_selects (args := #[]) (mvT hZ (hwd31 hw))) (mvT hZ (hwd31 hw)) (mvT hZ (hwd30 hw)) (by decide) (backOf (W := 0) (tk0n l Z a0 hw [] vt ar ca kc f h0 n0 Z0 E_vt F_kept_vt F_keptChars_vt F_keptLength_vt F_length_vt F_valueLength_vt A_ar g_vt g_ar ne_vt_ar hLa hb1 hkc) hZ (hwd32 hw) (hwd9 hw) (by decide) (by decide)) q1a q1c (g := (mkF m 57 #[.val (.int p1), .val (.int p2), .val (.int p3), .val (.int p4), .val (.int p5), .val (.ref lim), .val (.int ca), .val (.int cb), .val (.int cc), .val (.int cd), .val (.ref vt), .unset, .unset, .unset, .unset, .unset, .unset, .unset, .unset, .unset] [(.int ca), (.ref vt)])) rfl (by rw [hml]; rfl) (Steps.refl _) (argsL := [(.int ca)]) (rest := []) (lenOf pd_18 rfl) rfl (by show 2 * 0 + _ ≤ _; exact Nat.le_of_eq rfl) (hb hby at_57) (fun _ _ => ⟨rfl, e0, (by decide : 2 + 0 ≤ _), (by decide : 69 + 0 ≤ _)⟩)
  dsimp only [Pt.U, Pt.locs, Pt.cells, Pt.slots] at X1 l1 y1 z1 st1 hQ1
  subst l1 y1 z1
  obtain ⟨rfl, N1q, K1, p1_1, p1_2, p1_3, p1_4, p1_5, p1_6, p1_7⟩ := hQ1
  have N1 := Fr.app N0 N1q
  have sz3 : n0 ≤ T1.heap.size := (Nat.le_trans Z0 K1.1)
  obtain ⟨cq2, kq2, q2a, q2b, q2c⟩ := isOf hZ rfl p1_1
  obtain ⟨_, _, ⟨T2, L2, k2, n2⟩, -, X2, ⟨Lc2, hQ2, l2, y2, z2⟩, st2⟩ := X1.virtualBack hx (y := my7) (z := my7) hown (mvT hZ (hwd28 hw)) (mvT hZ (hwd29 hw)) (notFace_of_selects (args := #[]) (mvT hZ (hwd31 hw))) (mvT hZ (hwd31 hw)) (mvT hZ (hwd30 hw)) (by decide) (backOf (W := 0) (tk1n l Z a0 hw [] vt ar cb kc (fun jj_ => if jj_ = 0 then (.int ca) else f jj_) (T1.heap) n0 sz3 p1_1 p1_2 p1_3 p1_4 p1_5 p1_6 p1_7 g_vt g_ar ne_vt_ar hLb hb2 hkc) hZ (hwd32 hw) (hwd9 hw) (by decide) (by decide)) q2a q2c (g := (mkF m 64 #[.val (.int p1), .val (.int p2), .val (.int p3), .val (.int p4), .val (.int p5), .val (.ref lim), .val (.int ca), .val (.int cb), .val (.int cc), .val (.int cd), .val (.ref vt), .unset, .unset, .unset, .unset, .unset, .unset, .unset, .unset, .unset] [(.int cb), (.ref vt)])) rfl (by rw [hml]; rfl) (Steps.refl _) (argsL := [(.int cb)]) (rest := []) (lenOf pd_18 rfl) rfl (by show 2 * 0 + _ ≤ _; exact Nat.le_of_eq rfl) (hb hby at_64) (fun _ _ => ⟨rfl, rfl, (by decide : 2 + 0 ≤ _), (by decide : 69 + 0 ≤ _)⟩)
  dsimp only [Pt.U, Pt.locs, Pt.cells, Pt.slots] at X2 l2 y2 z2 st2 hQ2
  subst l2 y2 z2
  obtain ⟨rfl, N2q, K2, p2_1, p2_2, p2_3, p2_4, p2_5, p2_6, p2_7⟩ := hQ2
  have N2 := Fr.app N1 N2q
  have sz5 : n0 ≤ T2.heap.size := (Nat.le_trans sz3 K2.1)
  obtain ⟨cq4, kq4, q4a, q4b, q4c⟩ := isOf hZ rfl p2_1
  obtain ⟨_, _, ⟨T4, L4, k4, n4⟩, -, X4, ⟨Lc4, hQ4, l4, y4, z4⟩, st4⟩ := X2.virtualBack hx (y := my8) (z := my8) hown (mvT hZ (hwd38 hw)) (mvT hZ (hwd39 hw)) (notFace_of_selects (args := #[]) (mvT hZ (hwd41 hw))) (mvT hZ (hwd41 hw)) (mvT hZ (hwd40 hw)) (by decide) (backOf (W := 0) (cle l Z a0 hw [] vt ar (2 : Int32) (2 : Int64) (2 : Int64) kc (fun jj_ => if jj_ = 1 then (.int cb) else (fun jj_ => if jj_ = 0 then (.int ca) else f jj_) jj_) (T2.heap) n0 sz5 p2_1 p2_2 p2_3 p2_4 p2_5 p2_6 p2_7 g_vt g_ar ne_vt_ar) hZ (hwd42 hw) (hwd9 hw) (by decide) (by decide)) q4a q4c (g := (mkF m 69 #[.val (.int p1), .val (.int p2), .val (.int p3), .val (.int p4), .val (.int p5), .val (.ref lim), .val (.int ca), .val (.int cb), .val (.int cc), .val (.int cd), .val (.ref vt), .unset, .unset, .unset, .unset, .unset, .unset, .unset, .unset, .unset] [(.ref vt)])) rfl (by rw [hml]; rfl) (Steps.refl _) (argsL := []) (rest := []) (lenOf pd_19 rfl) rfl (by show 2 * 0 + _ ≤ _; exact Nat.le_of_eq rfl) (hb hby at_69) (fun _ _ => ⟨rfl, rfl, (by decide : 2 + 0 ≤ _), (by decide : 69 + 0 ≤ _)⟩)
  dsimp only [Pt.U, Pt.locs, Pt.cells, Pt.slots] at X4 l4 y4 z4 st4 hQ4
  subst l4 y4 z4
  obtain ⟨rfl, N4q, K4, p4_1, p4_2, p4_3, p4_4, p4_5, p4_6, p4_7⟩ := hQ4
  have N4 := Fr.app N2 N4q
  have kp6 : Keep h0 T4.heap [vt, ar] := ((((Keep.refl h0 [vt, ar]).trans K1 (allS (Or.inl (List.mem_of_getElem? (i := 0) rfl)) (allS (Or.inl (List.mem_of_getElem? (i := 1) rfl)) all0))).trans K2 (allS (Or.inl (List.mem_of_getElem? (i := 0) rfl)) (allS (Or.inl (List.mem_of_getElem? (i := 1) rfl)) all0))).trans K4 (allS (Or.inl (List.mem_of_getElem? (i := 0) rfl)) all0))
  refine ⟨(fun jj_ => if jj_ = 1 then (.int cb) else (fun jj_ => if jj_ = 0 then (.int ca) else f jj_) jj_), T4, _, _, X4, rfl, N4, kp6, p4_1, p4_2, p4_3, p4_4, p4_5, p4_6, p4_7, fun target kt => ?_⟩
  show Steps p.tables e below (T0.setTop (mkF m 53 #[.val (.int p1), .val (.int p2), .val (.int p3), .val (.int p4), .val (.int p5), .val (.ref lim), .val (.int ca), .val (.int cb), .val (.int cc), .val (.int cd), .val (.ref vt), .unset, .unset, .unset, .unset, .unset, .unset, .unset, .unset, .unset] [])) _
  refine XS.aload X0.here hx rfl (hb hby at_53) rfl rfl ?_
  refine XS.iload X0.here hx rfl (hb hby at_55) rfl ?_
  refine st1.trans ?_
  refine XS.aload X1.here hx rfl (hb hby at_60) rfl rfl ?_
  refine XS.iload X1.here hx rfl (hb hby at_62) rfl ?_
  refine st2.trans ?_
  show Steps p.tables e below (T2.setTop (mkF m 67 #[.val (.int p1), .val (.int p2), .val (.int p3), .val (.int p4), .val (.int p5), .val (.ref lim), .val (.int ca), .val (.int cb), .val (.int cc), .val (.int cd), .val (.ref vt), .unset, .unset, .unset, .unset, .unset, .unset, .unset, .unset, .unset] [])) _
  refine XS.aload X2.here hx rfl (hb hby at_67) rfl rfl ?_
  refine st4.trans ?_
  show Steps p.tables e below (T4.setTop (mkF m 72 #[.val (.int p1), .val (.int p2), .val (.int p3), .val (.int p4), .val (.int p5), .val (.ref lim), .val (.int ca), .val (.int cb), .val (.int cc), .val (.int cd), .val (.ref vt), .unset, .unset, .unset, .unset, .unset, .unset, .unset, .unset, .unset] [])) _
  exact kt
theorem P1 {p : Program} {l : Launch} {e : Env} {s : State} {m : MethodId} {args : Array Value} {below : List Frame} {meth : Method} {c : Code} {T0 : State} {locs : List Loc} {Z : State} {a0 : Array Value} {h0 : Heap} {n0 : Nat} (p1 : Int32) (p2 : Int32) (p3 : Int32) (p4 : Int32) (p5 : Int32) (lim : Addr) (vt : Addr) (ar : Addr) (ca : Int32) (cb : Int32) (cc : Int32) (cd : Int32) (kc : Int32) (f : Nat → Value)
    (X0 : Stand p l e room_1 s m args below meth c T0 locs 2 69) (hx : p.tables.exec = Jvm.exec) (hZ : Z.Warmed39 s.vm) (hw : ∀ d ∈ tables_1, d.before a0 Z = true) (hby : c.code = code) (hml : c.maxLocals = 20) (hown : s.vm.findClass "com/example/libsitemap/libsitemap/ValueTextClearPinLaw" = some m.cls) (e0 : T0.heap = h0) (N0 : Fr n0 locs) (Z0 : n0 ≤ h0.size) (E_vt : Exa Z h0 vt "com/example/libsitemap/libsitemap/ValueText") (F_kept_vt : Fld Z h0 vt "com/example/libsitemap/libsitemap/ValueText" "kept" "[C" (.ref ar)) (F_keptChars_vt : Fld Z h0 vt "com/example/libsitemap/libsitemap/ValueText" "keptChars" "I" (.int (kc + (1 : Int32)))) (F_keptLength_vt : Fld Z h0 vt "com/example/libsitemap/libsitemap/ValueText" "keptLength" "I" (.int (0 : Int32))) (F_length_vt : Fld Z h0 vt "com/example/libsitemap/libsitemap/ValueText" "length" "J" (.long (0 : Int64))) (F_valueLength_vt : Fld Z h0 vt "com/example/libsitemap/libsitemap/ValueText" "valueLength" "J" (.long (0 : Int64))) (A_ar : Av Z h0 ar .char 64 f) (g_vt : n0 ≤ vt) (g_ar : n0 ≤ ar) (ne_vt_ar : vt ≠ ar) (hLa : Lat ca) (hLb : Lat cb) (hkc : (kc = 128 ∨ kc = 2047)) :
    ∃ (f2 : Nat → Value) (T' : State) (locs' : List Loc) (h' : Heap), Stand p l e room_1 s m args below meth c T' locs' 2 69 ∧ T'.heap = h' ∧ Fr n0 locs' ∧ Keep h0 h' [vt, ar] ∧ Exa Z h' vt "com/example/libsitemap/libsitemap/ValueText" ∧ Fld Z h' vt "com/example/libsitemap/libsitemap/ValueText" "kept" "[C" (.ref ar) ∧ Fld Z h' vt "com/example/libsitemap/libsitemap/ValueText" "keptChars" "I" (.int (kc + (1 : Int32))) ∧ Fld Z h' vt "com/example/libsitemap/libsitemap/ValueText" "keptLength" "I" (.int (0 : Int32)) ∧ Fld Z h' vt "com/example/libsitemap/libsitemap/ValueText" "length" "J" (.long (0 : Int64)) ∧ Fld Z h' vt "com/example/libsitemap/libsitemap/ValueText" "valueLength" "J" (.long (0 : Int64)) ∧ Av Z h' ar .char 64 f2 ∧ ∀ target, Steps p.tables e below (T'.setTop (mkF m 72 #[.val (.int p1), .val (.int p2), .val (.int p3), .val (.int p4), .val (.int p5), .val (.ref lim), .val (.int ca), .val (.int cb), .val (.int cc), .val (.int cd), .val (.ref vt), .unset, .unset, .unset, .unset, .unset, .unset, .unset, .unset, .unset] [])) target → Steps p.tables e below (T0.setTop (mkF m 53 #[.val (.int p1), .val (.int p2), .val (.int p3), .val (.int p4), .val (.int p5), .val (.ref lim), .val (.int ca), .val (.int cb), .val (.int cc), .val (.int cd), .val (.ref vt), .unset, .unset, .unset, .unset, .unset, .unset, .unset, .unset, .unset] [])) target := by
  by_cases hb1 : own_bl ca = (0 : Int32)
  · by_cases hb2 : own_bl cb = (0 : Int32)
    · exact P1_00 p1 p2 p3 p4 p5 lim vt ar ca cb cc cd kc f X0 hx hZ hw hby hml hown e0 N0 Z0 E_vt F_kept_vt F_keptChars_vt F_keptLength_vt F_length_vt F_valueLength_vt A_ar g_vt g_ar ne_vt_ar hLa hLb hkc hb1 hb2
    · exact P1_01 p1 p2 p3 p4 p5 lim vt ar ca cb cc cd kc f X0 hx hZ hw hby hml hown e0 N0 Z0 E_vt F_kept_vt F_keptChars_vt F_keptLength_vt F_length_vt F_valueLength_vt A_ar g_vt g_ar ne_vt_ar hLa hLb hkc hb1 hb2
  · by_cases hb2 : own_bl cb = (0 : Int32)
    · exact P1_10 p1 p2 p3 p4 p5 lim vt ar ca cb cc cd kc f X0 hx hZ hw hby hml hown e0 N0 Z0 E_vt F_kept_vt F_keptChars_vt F_keptLength_vt F_length_vt F_valueLength_vt A_ar g_vt g_ar ne_vt_ar hLa hLb hkc hb1 hb2
    · exact P1_11 p1 p2 p3 p4 p5 lim vt ar ca cb cc cd kc f X0 hx hZ hw hby hml hown e0 N0 Z0 E_vt F_kept_vt F_keptChars_vt F_keptLength_vt F_length_vt F_valueLength_vt A_ar g_vt g_ar ne_vt_ar hLa hLb hkc hb1 hb2
theorem hwd3 {Z : State} {a0 : Array Value} (hw : ∀ d ∈ tables_1, d.before a0 Z = true) : (Jvm.Cond.methodLink "com/example/libsitemap/libsitemap/ValueTextClearPinLaw" (16 : Nat) ({ cls := "com/example/libsitemap/libsitemap/ValueTextClearPinLaw", name := "draw", desc := "(I)C" } : Jvm.MethodName)).before a0 Z = true := hw _ (List.mem_of_getElem? (i := 3) rfl)
theorem hwd6 {Z : State} {a0 : Array Value} (hw : ∀ d ∈ tables_1, d.before a0 Z = true) : (Jvm.Cond.code ({ cls := "com/example/libsitemap/libsitemap/ValueTextClearPinLaw", name := "draw", desc := "(I)C" } : Jvm.MethodName) method_2_code (2 : Nat) (Option.some Jvm.ClassFile.FieldType.char)).before a0 Z = true := hw _ (List.mem_of_getElem? (i := 6) rfl)
theorem hwd5 {Z : State} {a0 : Array Value} (hw : ∀ d ∈ tables_1, d.before a0 Z = true) : (Jvm.Cond.initialized "com/example/libsitemap/libsitemap/ValueTextClearPinLaw").before a0 Z = true := hw _ (List.mem_of_getElem? (i := 5) rfl)
theorem pd_20 : parseMethodDescriptor "(I)C" = some ⟨[.int], some .char⟩ := by decide +kernel
theorem hwd4 {Z : State} {a0 : Array Value} (hw : ∀ d ∈ tables_1, d.before a0 Z = true) : (Jvm.Cond.static ({ cls := "com/example/libsitemap/libsitemap/ValueTextClearPinLaw", name := "draw", desc := "(I)C" } : Jvm.MethodName)).before a0 Z = true := hw _ (List.mem_of_getElem? (i := 4) rfl)
theorem hwd7 {Z : State} {a0 : Array Value} (hw : ∀ d ∈ tables_1, d.before a0 Z = true) : (Jvm.Cond.classLink "com/example/libsitemap/libsitemap/ValueTextClearPinLaw" (22 : Nat) "com/example/libsitemap/libsitemap/ValueText").before a0 Z = true := hw _ (List.mem_of_getElem? (i := 7) rfl)
theorem hwd10 {Z : State} {a0 : Array Value} (hw : ∀ d ∈ tables_1, d.before a0 Z = true) : (Jvm.Cond.methodLink "com/example/libsitemap/libsitemap/ValueTextClearPinLaw" (24 : Nat) ({ cls := "com/example/libsitemap/libsitemap/ValueText", name := "<init>", desc := "(Lcom/example/libsitemap/libsitemap/FieldFormat$TextLimit;)V" } : Jvm.MethodName)).before a0 Z = true := hw _ (List.mem_of_getElem? (i := 10) rfl)
theorem hwd12 {Z : State} {a0 : Array Value} (hw : ∀ d ∈ tables_1, d.before a0 Z = true) : (Jvm.Cond.code ({ cls := "com/example/libsitemap/libsitemap/ValueText", name := "<init>", desc := "(Lcom/example/libsitemap/libsitemap/FieldFormat$TextLimit;)V" } : Jvm.MethodName) prog_46_method_1_code (2 : Nat) (Option.none : Option Jvm.ClassFile.FieldType)).before a0 Z = true := hw _ (List.mem_of_getElem? (i := 12) rfl)
theorem pd_21 : parseMethodDescriptor "(Lcom/example/libsitemap/libsitemap/FieldFormat$TextLimit;)V" = some ⟨[(.object "com/example/libsitemap/libsitemap/FieldFormat$TextLimit")], none⟩ := by decide +kernel
theorem hwd11 {Z : State} {a0 : Array Value} (hw : ∀ d ∈ tables_1, d.before a0 Z = true) : (Jvm.Cond.instanceMethod ({ cls := "com/example/libsitemap/libsitemap/ValueText", name := "<init>", desc := "(Lcom/example/libsitemap/libsitemap/FieldFormat$TextLimit;)V" } : Jvm.MethodName)).before a0 Z = true := hw _ (List.mem_of_getElem? (i := 11) rfl)
theorem hwd47 {Z : State} {a0 : Array Value} (hw : ∀ d ∈ tables_1, d.before a0 Z = true) : (Jvm.Cond.methodLink "com/example/libsitemap/libsitemap/ValueTextClearPinLaw" (34 : Nat) ({ cls := "com/example/libsitemap/libsitemap/ValueText", name := "length", desc := "()J" } : Jvm.MethodName)).before a0 Z = true := hw _ (List.mem_of_getElem? (i := 47) rfl)
theorem hwd51 {Z : State} {a0 : Array Value} (hw : ∀ d ∈ tables_1, d.before a0 Z = true) : (Jvm.Cond.code ({ cls := "com/example/libsitemap/libsitemap/ValueText", name := "length", desc := "()J" } : Jvm.MethodName) prog_46_method_7_code (1 : Nat) (Option.some Jvm.ClassFile.FieldType.long)).before a0 Z = true := hw _ (List.mem_of_getElem? (i := 51) rfl)
theorem pd_22 : parseMethodDescriptor "()J" = some ⟨[], some .long⟩ := by decide +kernel
theorem hwd50 {Z : State} {a0 : Array Value} (hw : ∀ d ∈ tables_1, d.before a0 Z = true) : (Jvm.Cond.selects "com/example/libsitemap/libsitemap/ValueText" ({ cls := "com/example/libsitemap/libsitemap/ValueText", name := "length", desc := "()J" } : Jvm.MethodName) ({ cls := "com/example/libsitemap/libsitemap/ValueText", name := "length", desc := "()J" } : Jvm.MethodName)).before a0 Z = true := hw _ (List.mem_of_getElem? (i := 50) rfl)
theorem hwd48 {Z : State} {a0 : Array Value} (hw : ∀ d ∈ tables_1, d.before a0 Z = true) : (Jvm.Cond.declares ({ cls := "com/example/libsitemap/libsitemap/ValueText", name := "length", desc := "()J" } : Jvm.MethodName)).before a0 Z = true := hw _ (List.mem_of_getElem? (i := 48) rfl)
theorem hwd49 {Z : State} {a0 : Array Value} (hw : ∀ d ∈ tables_1, d.before a0 Z = true) : (Jvm.Cond.instanceMethod ({ cls := "com/example/libsitemap/libsitemap/ValueText", name := "length", desc := "()J" } : Jvm.MethodName)).before a0 Z = true := hw _ (List.mem_of_getElem? (i := 49) rfl)
theorem hwd52 {Z : State} {a0 : Array Value} (hw : ∀ d ∈ tables_1, d.before a0 Z = true) : (Jvm.Cond.methodLink "com/example/libsitemap/libsitemap/ValueTextClearPinLaw" (38 : Nat) ({ cls := "com/example/libsitemap/libsitemap/ValueText", name := "isEmpty", desc := "()Z" } : Jvm.MethodName)).before a0 Z = true := hw _ (List.mem_of_getElem? (i := 52) rfl)
theorem hwd56 {Z : State} {a0 : Array Value} (hw : ∀ d ∈ tables_1, d.before a0 Z = true) : (Jvm.Cond.code ({ cls := "com/example/libsitemap/libsitemap/ValueText", name := "isEmpty", desc := "()Z" } : Jvm.MethodName) prog_46_method_5_code (1 : Nat) (Option.some Jvm.ClassFile.FieldType.boolean)).before a0 Z = true := hw _ (List.mem_of_getElem? (i := 56) rfl)
theorem hwd55 {Z : State} {a0 : Array Value} (hw : ∀ d ∈ tables_1, d.before a0 Z = true) : (Jvm.Cond.selects "com/example/libsitemap/libsitemap/ValueText" ({ cls := "com/example/libsitemap/libsitemap/ValueText", name := "isEmpty", desc := "()Z" } : Jvm.MethodName) ({ cls := "com/example/libsitemap/libsitemap/ValueText", name := "isEmpty", desc := "()Z" } : Jvm.MethodName)).before a0 Z = true := hw _ (List.mem_of_getElem? (i := 55) rfl)
theorem hwd53 {Z : State} {a0 : Array Value} (hw : ∀ d ∈ tables_1, d.before a0 Z = true) : (Jvm.Cond.declares ({ cls := "com/example/libsitemap/libsitemap/ValueText", name := "isEmpty", desc := "()Z" } : Jvm.MethodName)).before a0 Z = true := hw _ (List.mem_of_getElem? (i := 53) rfl)
theorem hwd54 {Z : State} {a0 : Array Value} (hw : ∀ d ∈ tables_1, d.before a0 Z = true) : (Jvm.Cond.instanceMethod ({ cls := "com/example/libsitemap/libsitemap/ValueText", name := "isEmpty", desc := "()Z" } : Jvm.MethodName)).before a0 Z = true := hw _ (List.mem_of_getElem? (i := 54) rfl)
theorem hwd57 {Z : State} {a0 : Array Value} (hw : ∀ d ∈ tables_1, d.before a0 Z = true) : (Jvm.Cond.methodLink "com/example/libsitemap/libsitemap/ValueTextClearPinLaw" (42 : Nat) ({ cls := "com/example/libsitemap/libsitemap/ValueText", name := "text", desc := "()Ljava/lang/String;" } : Jvm.MethodName)).before a0 Z = true := hw _ (List.mem_of_getElem? (i := 57) rfl)
theorem hwd61 {Z : State} {a0 : Array Value} (hw : ∀ d ∈ tables_1, d.before a0 Z = true) : (Jvm.Cond.code ({ cls := "com/example/libsitemap/libsitemap/ValueText", name := "text", desc := "()Ljava/lang/String;" } : Jvm.MethodName) prog_46_method_6_code (1 : Nat) (Option.some (Jvm.ClassFile.FieldType.object "java/lang/String"))).before a0 Z = true := hw _ (List.mem_of_getElem? (i := 61) rfl)
theorem pd_23 : parseMethodDescriptor "()Ljava/lang/String;" = some ⟨[], some (.object "java/lang/String")⟩ := by decide +kernel
theorem hwd60 {Z : State} {a0 : Array Value} (hw : ∀ d ∈ tables_1, d.before a0 Z = true) : (Jvm.Cond.selects "com/example/libsitemap/libsitemap/ValueText" ({ cls := "com/example/libsitemap/libsitemap/ValueText", name := "text", desc := "()Ljava/lang/String;" } : Jvm.MethodName) ({ cls := "com/example/libsitemap/libsitemap/ValueText", name := "text", desc := "()Ljava/lang/String;" } : Jvm.MethodName)).before a0 Z = true := hw _ (List.mem_of_getElem? (i := 60) rfl)
theorem hwd58 {Z : State} {a0 : Array Value} (hw : ∀ d ∈ tables_1, d.before a0 Z = true) : (Jvm.Cond.declares ({ cls := "com/example/libsitemap/libsitemap/ValueText", name := "text", desc := "()Ljava/lang/String;" } : Jvm.MethodName)).before a0 Z = true := hw _ (List.mem_of_getElem? (i := 58) rfl)
theorem hwd59 {Z : State} {a0 : Array Value} (hw : ∀ d ∈ tables_1, d.before a0 Z = true) : (Jvm.Cond.instanceMethod ({ cls := "com/example/libsitemap/libsitemap/ValueText", name := "text", desc := "()Ljava/lang/String;" } : Jvm.MethodName)).before a0 Z = true := hw _ (List.mem_of_getElem? (i := 59) rfl)
theorem hwd96 {Z : State} {a0 : Array Value} (hw : ∀ d ∈ tables_1, d.before a0 Z = true) : (Jvm.Cond.methodLink "com/example/libsitemap/libsitemap/ValueTextClearPinLaw" (46 : Nat) ({ cls := "java/lang/String", name := "isEmpty", desc := "()Z" } : Jvm.MethodName)).before a0 Z = true := hw _ (List.mem_of_getElem? (i := 96) rfl)
theorem hwd100 {Z : State} {a0 : Array Value} (hw : ∀ d ∈ tables_1, d.before a0 Z = true) : (Jvm.Cond.code ({ cls := "java/lang/String", name := "isEmpty", desc := "()Z" } : Jvm.MethodName) jdk_42_method_55_code (1 : Nat) (Option.some Jvm.ClassFile.FieldType.boolean)).before a0 Z = true := hw _ (List.mem_of_getElem? (i := 100) rfl)
theorem hwd99 {Z : State} {a0 : Array Value} (hw : ∀ d ∈ tables_1, d.before a0 Z = true) : (Jvm.Cond.selects "java/lang/String" ({ cls := "java/lang/String", name := "isEmpty", desc := "()Z" } : Jvm.MethodName) ({ cls := "java/lang/String", name := "isEmpty", desc := "()Z" } : Jvm.MethodName)).before a0 Z = true := hw _ (List.mem_of_getElem? (i := 99) rfl)
theorem hwd97 {Z : State} {a0 : Array Value} (hw : ∀ d ∈ tables_1, d.before a0 Z = true) : (Jvm.Cond.declares ({ cls := "java/lang/String", name := "isEmpty", desc := "()Z" } : Jvm.MethodName)).before a0 Z = true := hw _ (List.mem_of_getElem? (i := 97) rfl)
theorem hwd98 {Z : State} {a0 : Array Value} (hw : ∀ d ∈ tables_1, d.before a0 Z = true) : (Jvm.Cond.instanceMethod ({ cls := "java/lang/String", name := "isEmpty", desc := "()Z" } : Jvm.MethodName)).before a0 Z = true := hw _ (List.mem_of_getElem? (i := 98) rfl)
theorem hwd101 {Z : State} {a0 : Array Value} (hw : ∀ d ∈ tables_1, d.before a0 Z = true) : (Jvm.Cond.methodLink "com/example/libsitemap/libsitemap/ValueTextClearPinLaw" (49 : Nat) ({ cls := "com/example/libsitemap/libsitemap/ValueTextClearPinLaw", name := "blank", desc := "(C)Z" } : Jvm.MethodName)).before a0 Z = true := hw _ (List.mem_of_getElem? (i := 101) rfl)
theorem hwd103 {Z : State} {a0 : Array Value} (hw : ∀ d ∈ tables_1, d.before a0 Z = true) : (Jvm.Cond.code ({ cls := "com/example/libsitemap/libsitemap/ValueTextClearPinLaw", name := "blank", desc := "(C)Z" } : Jvm.MethodName) method_3_code (1 : Nat) (Option.some Jvm.ClassFile.FieldType.boolean)).before a0 Z = true := hw _ (List.mem_of_getElem? (i := 103) rfl)
theorem hwd102 {Z : State} {a0 : Array Value} (hw : ∀ d ∈ tables_1, d.before a0 Z = true) : (Jvm.Cond.static ({ cls := "com/example/libsitemap/libsitemap/ValueTextClearPinLaw", name := "blank", desc := "(C)Z" } : Jvm.MethodName)).before a0 Z = true := hw _ (List.mem_of_getElem? (i := 102) rfl)
theorem ef_0 (m : MethodId) (x0 : Int32) (x1 : Int32) (x2 : Int32) (x3 : Int32) (x4 : Int32) : entryFrame m #[(.int x0), (.int x1), (.int x2), (.int x3), (.int x4)] maxLocals = mkF m 0 #[.val (.int x0), .val (.int x1), .val (.int x2), .val (.int x3), .val (.int x4), .unset, .unset, .unset, .unset, .unset, .unset, .unset, .unset, .unset, .unset, .unset, .unset, .unset, .unset, .unset] [] := by first | (simp [entryFrame, mkF, argsToLocals, Value.category, maxLocals]; done) | rfl
def Qrm0 (Z : State) (p1 : Int32) (p2 : Int32) (p3 : Int32) (p4 : Int32) (p5 : Int32) (vo : Addr) (lq : Addr) (cz : Int32) (sf : Value) (h0 : Heap) (n0 : Nat) (v : Option Value) (h : Heap) (L : List Loc) : Prop := v = some (.int (1 : Int32)) ∧ Fr n0 L
set_option maxRecDepth 65536 in
set_option maxHeartbeats 40000000 in
theorem law_11 (l : Launch) (Z : State) (a0 : Array Value) (hw : ∀ d ∈ tables_1, d.before a0 Z = true) (ws : List Jvm.Cond) (p1 : Int32) (p2 : Int32) (p3 : Int32) (p4 : Int32) (p5 : Int32) (vo : Addr) (lq : Addr) (cz : Int32) (sf : Value) (h0 : Heap) (n0 : Nat) (Z0 : n0 ≤ h0.size) (O_V : Sta Z Z.heap "com/example/libsitemap/libsitemap/FieldFormat$TextLimit" "VALUE" "Lcom/example/libsitemap/libsitemap/FieldFormat$TextLimit;" (.ref vo)) (O_L : Sta Z Z.heap "com/example/libsitemap/libsitemap/FieldFormat$TextLimit" "LOC" "Lcom/example/libsitemap/libsitemap/FieldFormat$TextLimit;" (.ref lq)) (E_vo : Exa Z h0 vo "com/example/libsitemap/libsitemap/FieldFormat$TextLimit") (F_chars_vo : Fld Z h0 vo "com/example/libsitemap/libsitemap/FieldFormat$TextLimit" "chars" "I" (.int (128 : Int32))) (E_lq : Exa Z h0 lq "com/example/libsitemap/libsitemap/FieldFormat$TextLimit") (F_chars_lq : Fld Z h0 lq "com/example/libsitemap/libsitemap/FieldFormat$TextLimit" "chars" "I" (.int (2047 : Int32))) (O_C : Sta Z Z.heap "java/lang/String" "COMPACT_STRINGS" "Z" (.int cz)) (hcz : ¬ (cz = (0 : Int32))) (O_S : Sta Z Z.heap "jdk/internal/util/Preconditions" "SIOOBE_FORMATTER" "Ljava/util/function/BiFunction;" sf) (hsf : sf.isRef = true) (X00 : Old Z n0 h0) (hb3 : ¬ (own_bl (own_draw p3) = (0 : Int32))) (hb4 : ¬ (own_bl (own_draw p4) = (0 : Int32))) :
    MetFree l x (head1 (Jvm.Cond.code x code maxLocals ret :: ws) room_1) (fun aa_ U => aa_ = #[(.int p1), (.int p2), (.int p3), (.int p4), (.int p5)] ∧ Z.Warmed39 U.vm ∧ U.heap = h0 ∧ CHv Z consts_1 U.vm h0) (fun _ _ _ _ _ => True) (fun _ U oo_ U' => ∃ v L, oo_ = .returned v ∧ Qrm0 Z p1 p2 p3 p4 p5 vo lq cz sf h0 n0 v U'.heap L ∧ CHr Z consts_1 U.vm U.heap U'.vm U'.heap ∧ ReturnedEndW U oo_ U' L room_1.cells room_1.slots) := by
  refine MetFree.of_bodySF (plainFor_of_name pn_0) hisR ?_
  intro p e s m args below meth c s₁ Bd hml0 hP hK
  obtain ⟨rfl, hZ, hh, hC0⟩ := hP
  have hx := Bd.exec
  have hby := Bd.bytes
  have hml : c.maxLocals = 20 := hml0
  have hown : s.vm.findClass "com/example/libsitemap/libsitemap/ValueTextClearPinLaw" = some m.cls := findClass_of_methodNamed Bd.named
  have hZ : Z.Warmed39 (s.setVm s.vm).vm := hZ
  have hown : (s.setVm s.vm).vm.findClass "com/example/libsitemap/libsitemap/ValueTextClearPinLaw" = some m.cls := hown
  have hS0 : s.Since s.vm s.heap.size := (State.WarmedH.refl s).since _
  have hk0 : s.heap.size ≤ h0.size := Nat.le_of_eq (by rw [hh])
  have CR0 : CHr Z consts_1 s.vm h0 s.vm h0 := CHr.refl hC0
  have hnm := (name_of_methodNamed Bd.named Bd.method).1
  have X0 : Stand p l e room_1 (s.setVm s.vm) m #[(.int p1), (.int p2), (.int p3), (.int p4), (.int p5)] below meth c s₁ [] 0 0 := Stand.of_body Bd
  have e0 : s₁.heap = h0 := by rw [← hh, Bd.state]; rfl
  have N0 := Fr.nil n0
  have pre0 : ∀ tt_, Steps p.tables e below (s₁.setTop (mkF m 0 #[.val (.int p1), .val (.int p2), .val (.int p3), .val (.int p4), .val (.int p5), .unset, .unset, .unset, .unset, .unset, .unset, .unset, .unset, .unset, .unset, .unset, .unset, .unset, .unset, .unset] [])) tt_ → Steps p.tables e below (s₁.setTop (entryFrame m #[(.int p1), (.int p2), (.int p3), (.int p4), (.int p5)] maxLocals)) tt_ := fun tt_ kk_ => castTop (ef_0 m p1 p2 p3 p4 p5) kk_
  obtain ⟨lim_e1, kc_e1, T1, L1, h1, X1, e1, N1, K1, p1_1, p1_2, hkc_1, st1⟩ := P0 p1 p2 p3 p4 p5 vo lq X0 hx hZ hw hby hml hown e0 N0 Z0 O_V O_L E_vo F_chars_vo E_lq F_chars_lq X00
  have sz3 : n0 ≤ h1.size := (Nat.le_trans Z0 K1.1)
  obtain ⟨_, _, ⟨T2, L2, k2, n2⟩, -, X2, ⟨Lc2, hQ2, l2, y2, z2⟩, st2⟩ := Jvm.LawKit.callS X1 hx (y := my0) hown (mvT hZ (hwd3 hw)) (mvT hZ (hwd4 hw)) (mvT hZ (hwd5 hw)) (mvT hZ (hwd6 hw)) (by decide) (backOf (W := 0) (draw l Z a0 hw [] p1 h1 n0 sz3 ) hZ (hwd6 hw) (hwd5 hw) (by decide) (by decide)) (g := (mkF m 19 #[.val (.int p1), .val (.int p2), .val (.int p3), .val (.int p4), .val (.int p5), .val (.ref lim_e1), .unset, .unset, .unset, .unset, .unset, .unset, .unset, .unset, .unset, .unset, .unset, .unset, .unset, .unset] [(.int p1)])) rfl (by rw [hml]; rfl) (argsL := [(.int p1)]) (rest := []) (lenOf pd_20 rfl) rfl (by show 2 * 0 + _ ≤ _; exact Nat.le_of_eq rfl) (hb hby at_19) (fun _ _ => ⟨rfl, e1, (by decide : 0 + 0 ≤ _), (by decide : 0 + 0 ≤ _)⟩)
  dsimp only [Pt.U, Pt.locs, Pt.cells, Pt.slots] at X2 l2 y2 z2 st2 hQ2
  subst l2 y2 z2
  obtain ⟨rfl, N2q, e2q⟩ := hQ2
  have N2 := Fr.app N1 N2q
  obtain ⟨_, _, ⟨T4, L4, k4, n4⟩, -, X4, ⟨Lc4, hQ4, l4, y4, z4⟩, st4⟩ := Jvm.LawKit.callS X2 hx (y := my0) hown (mvT hZ (hwd3 hw)) (mvT hZ (hwd4 hw)) (mvT hZ (hwd5 hw)) (mvT hZ (hwd6 hw)) (by decide) (backOf (W := 0) (draw l Z a0 hw [] p2 h1 n0 sz3 ) hZ (hwd6 hw) (hwd5 hw) (by decide) (by decide)) (g := (mkF m 25 #[.val (.int p1), .val (.int p2), .val (.int p3), .val (.int p4), .val (.int p5), .val (.ref lim_e1), .val (.int (own_draw p1)), .unset, .unset, .unset, .unset, .unset, .unset, .unset, .unset, .unset, .unset, .unset, .unset, .unset] [(.int p2)])) rfl (by rw [hml]; rfl) (argsL := [(.int p2)]) (rest := []) (lenOf pd_20 rfl) rfl (by show 2 * 0 + _ ≤ _; exact Nat.le_of_eq rfl) (hb hby at_25) (fun _ _ => ⟨rfl, e2q, (by decide : 0 + 0 ≤ _), (by decide : 0 + 0 ≤ _)⟩)
  dsimp only [Pt.U, Pt.locs, Pt.cells, Pt.slots] at X4 l4 y4 z4 st4 hQ4
  subst l4 y4 z4
  obtain ⟨rfl, N4q, e4q⟩ := hQ4
  have N4 := Fr.app N2 N4q
  obtain ⟨_, _, ⟨T5, L5, k5, n5⟩, -, X5, ⟨Lc5, hQ5, l5, y5, z5⟩, st5⟩ := Jvm.LawKit.callS X4 hx (y := my0) hown (mvT hZ (hwd3 hw)) (mvT hZ (hwd4 hw)) (mvT hZ (hwd5 hw)) (mvT hZ (hwd6 hw)) (by decide) (backOf (W := 0) (draw l Z a0 hw [] p3 h1 n0 sz3 ) hZ (hwd6 hw) (hwd5 hw) (by decide) (by decide)) (g := (mkF m 31 #[.val (.int p1), .val (.int p2), .val (.int p3), .val (.int p4), .val (.int p5), .val (.ref lim_e1), .val (.int (own_draw p1)), .val (.int (own_draw p2)), .unset, .unset, .unset, .unset, .unset, .unset, .unset, .unset, .unset, .unset, .unset, .unset] [(.int p3)])) rfl (by rw [hml]; rfl) (argsL := [(.int p3)]) (rest := []) (lenOf pd_20 rfl) rfl (by show 2 * 0 + _ ≤ _; exact Nat.le_of_eq rfl) (hb hby at_31) (fun _ _ => ⟨rfl, e4q, (by decide : 0 + 0 ≤ _), (by decide : 0 + 0 ≤ _)⟩)
  dsimp only [Pt.U, Pt.locs, Pt.cells, Pt.slots] at X5 l5 y5 z5 st5 hQ5
  subst l5 y5 z5
  obtain ⟨rfl, N5q, e5q⟩ := hQ5
  have N5 := Fr.app N4 N5q
  obtain ⟨_, _, ⟨T6, L6, k6, n6⟩, -, X6, ⟨Lc6, hQ6, l6, y6, z6⟩, st6⟩ := Jvm.LawKit.callS X5 hx (y := my0) hown (mvT hZ (hwd3 hw)) (mvT hZ (hwd4 hw)) (mvT hZ (hwd5 hw)) (mvT hZ (hwd6 hw)) (by decide) (backOf (W := 0) (draw l Z a0 hw [] p4 h1 n0 sz3 ) hZ (hwd6 hw) (hwd5 hw) (by decide) (by decide)) (g := (mkF m 37 #[.val (.int p1), .val (.int p2), .val (.int p3), .val (.int p4), .val (.int p5), .val (.ref lim_e1), .val (.int (own_draw p1)), .val (.int (own_draw p2)), .val (.int (own_draw p3)), .unset, .unset, .unset, .unset, .unset, .unset, .unset, .unset, .unset, .unset, .unset] [(.int p4)])) rfl (by rw [hml]; rfl) (argsL := [(.int p4)]) (rest := []) (lenOf pd_20 rfl) rfl (by show 2 * 0 + _ ≤ _; exact Nat.le_of_eq rfl) (hb hby at_37) (fun _ _ => ⟨rfl, e5q, (by decide : 0 + 0 ≤ _), (by decide : 0 + 0 ≤ _)⟩)
  dsimp only [Pt.U, Pt.locs, Pt.cells, Pt.slots] at X6 l6 y6 z6 st6 hQ6
  subst l6 y6 z6
  obtain ⟨rfl, N6q, e6q⟩ := hQ6
  have N6 := Fr.app N5 N6q
  obtain ⟨T7, h7, X7, e7, E7, A7, D7, -, st7⟩ := newO X6 hx hZ hown (hwd7 hw) (hwd8 hw) (hwd9 hw) e6q (g := (mkF m 42 #[.val (.int p1), .val (.int p2), .val (.int p3), .val (.int p4), .val (.int p5), .val (.ref lim_e1), .val (.int (own_draw p1)), .val (.int (own_draw p2)), .val (.int (own_draw p3)), .val (.int (own_draw p4)), .unset, .unset, .unset, .unset, .unset, .unset, .unset, .unset, .unset, .unset] [])) rfl (hb hby at_42) (by decide) (by decide)
  obtain ⟨b7, g7⟩ : ∃ zz_, zz_ = h1.size := ⟨_, rfl⟩
  rw [← g7] at A7 D7 st7
  have f8_E_vo := (E_vo.keep K1)
  have ne_vo_b7 : vo ≠ b7 := Nat.ne_of_lt (Nat.lt_of_lt_of_le f8_E_vo.lt (Nat.le_of_eq g7.symm))
  have f9_E_lq := (E_lq.keep K1)
  have ne_lq_b7 : lq ≠ b7 := Nat.ne_of_lt (Nat.lt_of_lt_of_le f9_E_lq.lt (Nat.le_of_eq g7.symm))
  have ne_lim_e1_b7 : lim_e1 ≠ b7 := Nat.ne_of_lt (Nat.lt_of_lt_of_le p1_1.lt (Nat.le_of_eq g7.symm))
  have g_b7 : n0 ≤ b7 := Nat.le_trans sz3 (Nat.le_of_eq g7.symm)
  have kp10 : Keep h0 h1 [] := ((Keep.refl h0 []).trans K1 all0)
  have sz_b7 : h0.size ≤ b7 := Nat.le_trans kp10.1 (Nat.le_of_eq g7.symm)
  have F_kept_b7 : Fld Z h7 b7 "com/example/libsitemap/libsitemap/ValueText" "kept" "[C" .null := D7 (Or.inl (hwd18 hw)) (ty := (.array .char)) (by decide)
  have F_keptChars_b7 : Fld Z h7 b7 "com/example/libsitemap/libsitemap/ValueText" "keptChars" "I" (.int (0 : Int32)) := D7 (Or.inr (hwd27 hw)) (ty := .int) (by decide)
  have F_length_b7 : Fld Z h7 b7 "com/example/libsitemap/libsitemap/ValueText" "length" "J" (.long (0 : Int64)) := D7 (Or.inl (hwd37 hw)) (ty := .long) (by decide)
  have F_keptLength_b7 : Fld Z h7 b7 "com/example/libsitemap/libsitemap/ValueText" "keptLength" "I" (.int (0 : Int32)) := D7 (Or.inl (hwd44 hw)) (ty := .int) (by decide)
  have F_valueLength_b7 : Fld Z h7 b7 "com/example/libsitemap/libsitemap/ValueText" "valueLength" "J" (.long (0 : Int64)) := D7 (Or.inl (hwd46 hw)) (ty := .long) (by decide)
  have f12_E_lim_e1 := (p1_1.ext E7)
  have f13_F_lim_e1_chars := (p1_2.ext E7)
  have sz14 : n0 ≤ h7.size := (Nat.le_trans sz3 E7.1)
  have kp15 : Keep h0 h7 [] := (kp10.ext E7)
  obtain ⟨_, _, ⟨T11, L11, k11, n11⟩, -, X11, ⟨Lc11, hQ11, l11, y11, z11⟩, st11⟩ := X7.specialBack hx (y := my4) rfl hown (mvT hZ (hwd10 hw)) (mvT hZ (hwd11 hw)) (mvT hZ (hwd12 hw)) (by decide) (backOf (W := 1) (ini l Z a0 hw [] b7 lim_e1 kc_e1 h7 n0 sz14 A7 F_kept_b7 F_keptChars_b7 F_keptLength_b7 F_length_b7 F_valueLength_b7 f12_E_lim_e1 f13_F_lim_e1_chars g_b7 (Ne.symm ne_lim_e1_b7)) hZ (hwd12 hw) (hwd9 hw) (by decide) (by decide)) (g := (mkF m 48 #[.val (.int p1), .val (.int p2), .val (.int p3), .val (.int p4), .val (.int p5), .val (.ref lim_e1), .val (.int (own_draw p1)), .val (.int (own_draw p2)), .val (.int (own_draw p3)), .val (.int (own_draw p4)), .unset, .unset, .unset, .unset, .unset, .unset, .unset, .unset, .unset, .unset] [(.ref lim_e1), (.ref b7), (.ref b7)])) rfl (by rw [hml]; rfl) (Steps.refl _) (a := b7) (argsL := [(.ref lim_e1)]) (rest := [(.ref b7)]) (lenOf pd_21 rfl) rfl (by show 2 * 0 + _ ≤ _; exact Nat.le_of_eq rfl) (hb hby at_48) (fun _ _ => ⟨rfl, e7, (by decide : 1 + 1 ≤ _), (by decide : 5 + 64 ≤ _)⟩)
  dsimp only [Pt.U, Pt.locs, Pt.cells, Pt.slots] at X11 l11 y11 z11 st11 hQ11
  subst l11 y11 z11
  obtain ⟨ar_e11, rfl, N11q, K11, p11_1, p11_2, p11_3, p11_4, p11_5, p11_6, p11_7, sz_ar_11, g_ar_11, ne_a_ar_11⟩ := hQ11
  have N11 := Fr.app N6 N11q
  have sz17 : n0 ≤ T11.heap.size := (Nat.le_trans sz14 K11.1)
  obtain ⟨f2_e16, T16, L16, h16, X16, e16, N16, K16, p16_1, p16_2, p16_3, p16_4, p16_5, p16_6, p16_7, st16⟩ := P1 p1 p2 p3 p4 p5 lim_e1 b7 ar_e11 (own_draw p1) (own_draw p2) (own_draw p3) (own_draw p4) kc_e1 (fun _ => (.int (0 : Int32))) X11 hx hZ hw hby hml hown rfl N11 sz17 p11_1 p11_2 p11_3 p11_4 p11_5 p11_6 p11_7 g_b7 g_ar_11 ne_a_ar_11 (own_dl p1) (own_dl p2) hkc_1
  have sz19 : n0 ≤ h16.size := (Nat.le_trans sz17 K16.1)
  obtain ⟨cq18, kq18, q18a, q18b, q18c⟩ := isOf hZ e16 p16_1
  obtain ⟨_, _, ⟨T18, L18, k18, n18⟩, -, X18, ⟨Lc18, hQ18, l18, y18, z18⟩, st18⟩ := X16.virtualBack hx (y := my9) (z := my9) hown (mvT hZ (hwd47 hw)) (mvT hZ (hwd48 hw)) (notFace_of_selects (args := #[]) (mvT hZ (hwd50 hw))) (mvT hZ (hwd50 hw)) (mvT hZ (hwd49 hw)) (by decide) (backOf (W := 0) (len l Z a0 hw [] b7 (0 : Int64) h16 n0 sz19 p16_6) hZ (hwd51 hw) (hwd9 hw) (by decide) (by decide)) q18a q18c (g := (mkF m 74 #[.val (.int p1), .val (.int p2), .val (.int p3), .val (.int p4), .val (.int p5), .val (.ref lim_e1), .val (.int (own_draw p1)), .val (.int (own_draw p2)), .val (.int (own_draw p3)), .val (.int (own_draw p4)), .val (.ref b7), .unset, .unset, .unset, .unset, .unset, .unset, .unset, .unset, .unset] [(.ref b7)])) rfl (by rw [hml]; rfl) (Steps.refl _) (argsL := []) (rest := []) (lenOf pd_22 rfl) rfl (by show 2 * 0 + _ ≤ _; exact Nat.le_of_eq rfl) (hb hby at_74) (fun _ _ => ⟨rfl, e16, (by decide : 2 + 0 ≤ _), (by decide : 69 + 0 ≤ _)⟩)
  dsimp only [Pt.U, Pt.locs, Pt.cells, Pt.slots] at X18 l18 y18 z18 st18 hQ18
  subst l18 y18 z18
  obtain ⟨rfl, N18q, e18q⟩ := hQ18
  have N18 := Fr.app N16 N18q
  obtain ⟨cq20, kq20, q20a, q20b, q20c⟩ := isOf hZ e18q p16_1
  obtain ⟨_, _, ⟨T20, L20, k20, n20⟩, -, X20, ⟨Lc20, hQ20, l20, y20, z20⟩, st20⟩ := X18.virtualBack hx (y := my10) (z := my10) hown (mvT hZ (hwd52 hw)) (mvT hZ (hwd53 hw)) (notFace_of_selects (args := #[]) (mvT hZ (hwd55 hw))) (mvT hZ (hwd55 hw)) (mvT hZ (hwd54 hw)) (by decide) (backOf (W := 0) (emp l Z a0 hw [] b7 h16 n0 sz19 p16_6) hZ (hwd56 hw) (hwd9 hw) (by decide) (by decide)) q20a q20c (g := (mkF m 81 #[.val (.int p1), .val (.int p2), .val (.int p3), .val (.int p4), .val (.int p5), .val (.ref lim_e1), .val (.int (own_draw p1)), .val (.int (own_draw p2)), .val (.int (own_draw p3)), .val (.int (own_draw p4)), .val (.ref b7), .val (.long (0 : Int64)), .second, .unset, .unset, .unset, .unset, .unset, .unset, .unset] [(.ref b7)])) rfl (by rw [hml]; rfl) (Steps.refl _) (argsL := []) (rest := []) (lenOf pd_16 rfl) rfl (by show 2 * 0 + _ ≤ _; exact Nat.le_of_eq rfl) (hb hby at_81) (fun _ _ => ⟨rfl, e18q, (by decide : 2 + 0 ≤ _), (by decide : 69 + 0 ≤ _)⟩)
  dsimp only [Pt.U, Pt.locs, Pt.cells, Pt.slots] at X20 l20 y20 z20 st20 hQ20
  subst l20 y20 z20
  obtain ⟨rfl, N20q, e20q⟩ := hQ20
  have N20 := Fr.app N18 N20q
  have old22 : Old Z n0 h16 := ((((X00.keep K1 all0).ext E7).keep K11 (allS g_b7 all0)).keep K16 (allS g_b7 (allS g_ar_11 all0)))
  have kp23 : Keep h0 h16 [] := ((kp15.trans K11 (allS (Or.inr sz_b7) all0)).trans K16 (allS (Or.inr sz_b7) (allS (Or.inr (Nat.le_trans kp15.1 sz_ar_11)) all0)))
  have CR24h : CHr Z consts_1 s.vm h0 s.vm h16 := CR0.trans (CHr.keep kp23 sf0 CR0.1)
  have hk25 : _ ≤ h16.size := (Nat.le_trans (Nat.le_trans (Nat.le_trans (Nat.le_trans hk0 K1.1) E7.1) K11.1) K16.1)
  obtain ⟨cq21, kq21, q21a, q21b, q21c⟩ := isOf hZ e20q p16_1
  obtain ⟨_, _, ⟨T21, L21, k21, n21⟩, -, X21q, hS21q, hg21q, ⟨Lc21, hQ21, l21, y21, z21, CR21q⟩, st21⟩ := X20.virtualBackS hx (y := my20) (z := my20) hown (mvT hZ (hwd57 hw)) (mvT hZ (hwd58 hw)) (notFace_of_selects (args := #[]) (mvT hZ (hwd60 hw))) (mvT hZ (hwd60 hw)) (mvT hZ (hwd59 hw)) (by decide) (backOfSH (W := 0) (EL := consts_1) (s := s) (vm0 := s.vm) (tx00 l Z a0 hw [] b7 ar_e11 f2_e16 cz sf h16 n0 sz19 p16_2 p16_4 p16_6 p16_7 O_C hcz O_S hsf old22) hZ (hwd61 hw) (hwd9 hw) (by decide) (by decide) (own_EL hw) CR24h.1) q21a q21c (g := (mkF m 88 #[.val (.int p1), .val (.int p2), .val (.int p3), .val (.int p4), .val (.int p5), .val (.ref lim_e1), .val (.int (own_draw p1)), .val (.int (own_draw p2)), .val (.int (own_draw p3)), .val (.int (own_draw p4)), .val (.ref b7), .val (.long (0 : Int64)), .second, .val (.int (1 : Int32)), .unset, .unset, .unset, .unset, .unset, .unset] [(.ref b7)])) rfl (by rw [hml]; rfl) (Steps.refl _) (argsL := []) (rest := []) (lenOf pd_23 rfl) rfl (by show 2 * 0 + _ ≤ _; exact Nat.le_of_eq rfl) (hb hby at_88) (fun _ _ => ⟨rfl, e20q, (by decide : 2 + 3 ≤ _), (by decide : 69 + 8 ≤ _)⟩)
  dsimp only [Pt.U, Pt.locs, Pt.cells, Pt.slots] at X21q l21 y21 z21 st21 hQ21 hS21q hg21q CR21q
  subst l21 y21 z21
  obtain ⟨X21, hS21, hZ21, hown21⟩ := rebS hS0 (by rw [show T20.heap = h16 from e20q]; exact hk25) X21q hS21q hg21q hZ hown
  have hk21 : T21.heap.size ≤ T21.heap.size := Nat.le_refl _
  have CR21 := CR24h.trans CR21q
  obtain ⟨so_e21, b_e21, kb_e21, rfl, N21q, K21, p21_1, p21_2, p21_3, p21_4⟩ := hQ21
  have N21 := Fr.app N20 N21q
  have f26_E_b7 := (p16_1.keep K21)
  have f27_A_ar_e11 := (p16_7.keep K21 nin0)
  have sz29 : n0 ≤ T21.heap.size := (Nat.le_trans sz19 K21.1)
  obtain ⟨cq28, kq28, q28a, q28b, q28c⟩ := isOf hZ21 rfl p21_1
  obtain ⟨_, _, ⟨T28, L28, k28, n28⟩, -, X28, ⟨Lc28, hQ28, l28, y28, z28⟩, st28⟩ := X21.virtualBack hx (y := my23) (z := my23) hown21 (mvT hZ21 (hwd96 hw)) (mvT hZ21 (hwd97 hw)) (notFace_of_selects (args := #[]) (mvT hZ21 (hwd99 hw))) (mvT hZ21 (hwd99 hw)) (mvT hZ21 (hwd98 hw)) (by decide) (backOf (W := 0) (sem l Z a0 hw [] so_e21 b_e21 kb_e21 (T21.heap) n0 sz29 p21_2 p21_4) hZ21 (hwd100 hw) (hwd64 hw) (by decide) (by decide)) q28a q28c (g := (mkF m 107 #[.val (.int p1), .val (.int p2), .val (.int p3), .val (.int p4), .val (.int p5), .val (.ref lim_e1), .val (.int (own_draw p1)), .val (.int (own_draw p2)), .val (.int (own_draw p3)), .val (.int (own_draw p4)), .val (.ref b7), .val (.long (0 : Int64)), .second, .val (.int (1 : Int32)), .val (.ref so_e21), .unset, .unset, .unset, .unset, .unset] [(.ref so_e21)])) rfl (by rw [hml]; rfl) (Steps.refl _) (argsL := []) (rest := []) (lenOf pd_16 rfl) rfl (by show 2 * 0 + _ ≤ _; exact Nat.le_of_eq rfl) (hb hby at_107) (fun _ _ => ⟨rfl, rfl, (by decide : 5 + 0 ≤ _), (by decide : 77 + 0 ≤ _)⟩)
  dsimp only [Pt.U, Pt.locs, Pt.cells, Pt.slots] at X28 l28 y28 z28 st28 hQ28
  subst l28 y28 z28
  obtain ⟨rfl, N28q, e28q⟩ := hQ28
  have N28 := Fr.app N21 N28q
  have f31_F_b7_kept := (p16_2.keep K21 nin0)
  have f32_F_b7_keptChars := (p16_3.keep K21 nin0)
  have f33_F_b7_keptLength := (p16_4.keep K21 nin0)
  have f34_F_b7_length := (p16_5.keep K21 nin0)
  have f35_F_b7_valueLength := (p16_6.keep K21 nin0)
  obtain ⟨cq30, kq30, q30a, q30b, q30c⟩ := isOf hZ21 e28q f26_E_b7
  obtain ⟨_, _, ⟨T30, L30, k30, n30⟩, -, X30, ⟨Lc30, hQ30, l30, y30, z30⟩, st30⟩ := X28.virtualBack hx (y := my7) (z := my7) hown21 (mvT hZ21 (hwd28 hw)) (mvT hZ21 (hwd29 hw)) (notFace_of_selects (args := #[]) (mvT hZ21 (hwd31 hw))) (mvT hZ21 (hwd31 hw)) (mvT hZ21 (hwd30 hw)) (by decide) (backOf (W := 0) (tk0b l Z a0 hw [] b7 ar_e11 (own_draw p3) kc_e1 f2_e16 (T21.heap) n0 sz29 f26_E_b7 f31_F_b7_kept f32_F_b7_keptChars f33_F_b7_keptLength f34_F_b7_length f35_F_b7_valueLength f27_A_ar_e11 g_b7 g_ar_11 ne_a_ar_11 (own_dl p3) hb3 hkc_1) hZ21 (hwd32 hw) (hwd9 hw) (by decide) (by decide)) q30a q30c (g := (mkF m 119 #[.val (.int p1), .val (.int p2), .val (.int p3), .val (.int p4), .val (.int p5), .val (.ref lim_e1), .val (.int (own_draw p1)), .val (.int (own_draw p2)), .val (.int (own_draw p3)), .val (.int (own_draw p4)), .val (.ref b7), .val (.long (0 : Int64)), .second, .val (.int (1 : Int32)), .val (.ref so_e21), .unset, .unset, .unset, .unset, .unset] [(.int (own_draw p3)), (.ref b7)])) rfl (by rw [hml]; rfl) (Steps.refl _) (argsL := [(.int (own_draw p3))]) (rest := []) (lenOf pd_18 rfl) rfl (by show 2 * 0 + _ ≤ _; exact Nat.le_of_eq rfl) (hb hby at_119) (fun _ _ => ⟨rfl, e28q, (by decide : 5 + 0 ≤ _), (by decide : 77 + 0 ≤ _)⟩)
  dsimp only [Pt.U, Pt.locs, Pt.cells, Pt.slots] at X30 l30 y30 z30 st30 hQ30
  subst l30 y30 z30
  obtain ⟨rfl, N30q, e30q⟩ := hQ30
  have N30 := Fr.app N28 N30q
  obtain ⟨cq36, kq36, q36a, q36b, q36c⟩ := isOf hZ21 e30q f26_E_b7
  obtain ⟨_, _, ⟨T36, L36, k36, n36⟩, -, X36, ⟨Lc36, hQ36, l36, y36, z36⟩, st36⟩ := X30.virtualBack hx (y := my7) (z := my7) hown21 (mvT hZ21 (hwd28 hw)) (mvT hZ21 (hwd29 hw)) (notFace_of_selects (args := #[]) (mvT hZ21 (hwd31 hw))) (mvT hZ21 (hwd31 hw)) (mvT hZ21 (hwd30 hw)) (by decide) (backOf (W := 0) (tk0b l Z a0 hw [] b7 ar_e11 (own_draw p4) kc_e1 f2_e16 (T21.heap) n0 sz29 f26_E_b7 f31_F_b7_kept f32_F_b7_keptChars f33_F_b7_keptLength f34_F_b7_length f35_F_b7_valueLength f27_A_ar_e11 g_b7 g_ar_11 ne_a_ar_11 (own_dl p4) hb4 hkc_1) hZ21 (hwd32 hw) (hwd9 hw) (by decide) (by decide)) q36a q36c (g := (mkF m 126 #[.val (.int p1), .val (.int p2), .val (.int p3), .val (.int p4), .val (.int p5), .val (.ref lim_e1), .val (.int (own_draw p1)), .val (.int (own_draw p2)), .val (.int (own_draw p3)), .val (.int (own_draw p4)), .val (.ref b7), .val (.long (0 : Int64)), .second, .val (.int (1 : Int32)), .val (.ref so_e21), .unset, .unset, .unset, .unset, .unset] [(.int (own_draw p4)), (.ref b7)])) rfl (by rw [hml]; rfl) (Steps.refl _) (argsL := [(.int (own_draw p4))]) (rest := []) (lenOf pd_18 rfl) rfl (by show 2 * 0 + _ ≤ _; exact Nat.le_of_eq rfl) (hb hby at_126) (fun _ _ => ⟨rfl, e30q, (by decide : 5 + 0 ≤ _), (by decide : 77 + 0 ≤ _)⟩)
  dsimp only [Pt.U, Pt.locs, Pt.cells, Pt.slots] at X36 l36 y36 z36 st36 hQ36
  subst l36 y36 z36
  obtain ⟨rfl, N36q, e36q⟩ := hQ36
  have N36 := Fr.app N30 N36q
  have old38 : Old Z n0 T21.heap := (old22.keep K21 all0)
  obtain ⟨cq37, kq37, q37a, q37b, q37c⟩ := isOf hZ21 e36q f26_E_b7
  obtain ⟨_, _, ⟨T37, L37, k37, n37⟩, -, X37q, hS37q, hg37q, ⟨Lc37, hQ37, l37, y37, z37, CR37q⟩, st37⟩ := X36.virtualBackS hx (y := my20) (z := my20) hown21 (mvT hZ21 (hwd57 hw)) (mvT hZ21 (hwd58 hw)) (notFace_of_selects (args := #[]) (mvT hZ21 (hwd60 hw))) (mvT hZ21 (hwd60 hw)) (mvT hZ21 (hwd59 hw)) (by decide) (backOfSH (W := 0) (EL := consts_1) (s := s) (vm0 := T21.vm) (tx00 l Z a0 hw [] b7 ar_e11 f2_e16 cz sf (T21.heap) n0 sz29 f31_F_b7_kept f33_F_b7_keptLength f35_F_b7_valueLength f27_A_ar_e11 O_C hcz O_S hsf old38) hZ21 (hwd61 hw) (hwd9 hw) (by decide) (by decide) (own_EL hw) CR21.1) q37a q37c (g := (mkF m 131 #[.val (.int p1), .val (.int p2), .val (.int p3), .val (.int p4), .val (.int p5), .val (.ref lim_e1), .val (.int (own_draw p1)), .val (.int (own_draw p2)), .val (.int (own_draw p3)), .val (.int (own_draw p4)), .val (.ref b7), .val (.long (0 : Int64)), .second, .val (.int (1 : Int32)), .val (.ref so_e21), .unset, .unset, .unset, .unset, .unset] [(.ref b7)])) rfl (by rw [hml]; rfl) (Steps.refl _) (argsL := []) (rest := []) (lenOf pd_23 rfl) rfl (by show 2 * 0 + _ ≤ _; exact Nat.le_of_eq rfl) (hb hby at_131) (fun _ _ => ⟨rfl, e36q, (by decide : 5 + 3 ≤ _), (by decide : 77 + 8 ≤ _)⟩)
  dsimp only [Pt.U, Pt.locs, Pt.cells, Pt.slots] at X37q l37 y37 z37 st37 hQ37 hS37q hg37q CR37q
  subst l37 y37 z37
  obtain ⟨X37, hS37, hZ37, hown37⟩ := rebS hS21 (by rw [show T36.heap = T21.heap from e36q]; exact hk21) X37q hS37q hg37q hZ21 hown21
  have hk37 : T37.heap.size ≤ T37.heap.size := Nat.le_refl _
  have CR37 := CR21.trans CR37q
  obtain ⟨so_e37, b_e37, kb_e37, rfl, N37q, K37, p37_1, p37_2, p37_3, p37_4⟩ := hQ37
  have N37 := Fr.app N36 N37q
  have f40_F_b7_valueLength := (f35_F_b7_valueLength.keep K37 nin0)
  have sz41 : n0 ≤ T37.heap.size := (Nat.le_trans sz29 K37.1)
  have f42_E_b7 := (f26_E_b7.keep K37)
  obtain ⟨cq39, kq39, q39a, q39b, q39c⟩ := isOf hZ37 rfl f42_E_b7
  obtain ⟨_, _, ⟨T39, L39, k39, n39⟩, -, X39, ⟨Lc39, hQ39, l39, y39, z39⟩, st39⟩ := X37.virtualBack hx (y := my9) (z := my9) hown37 (mvT hZ37 (hwd47 hw)) (mvT hZ37 (hwd48 hw)) (notFace_of_selects (args := #[]) (mvT hZ37 (hwd50 hw))) (mvT hZ37 (hwd50 hw)) (mvT hZ37 (hwd49 hw)) (by decide) (backOf (W := 0) (len l Z a0 hw [] b7 (0 : Int64) (T37.heap) n0 sz41 f40_F_b7_valueLength) hZ37 (hwd51 hw) (hwd9 hw) (by decide) (by decide)) q39a q39c (g := (mkF m 138 #[.val (.int p1), .val (.int p2), .val (.int p3), .val (.int p4), .val (.int p5), .val (.ref lim_e1), .val (.int (own_draw p1)), .val (.int (own_draw p2)), .val (.int (own_draw p3)), .val (.int (own_draw p4)), .val (.ref b7), .val (.long (0 : Int64)), .second, .val (.int (1 : Int32)), .val (.ref so_e21), .val (.ref so_e37), .unset, .unset, .unset, .unset] [(.ref b7)])) rfl (by rw [hml]; rfl) (Steps.refl _) (argsL := []) (rest := []) (lenOf pd_22 rfl) rfl (by show 2 * 0 + _ ≤ _; exact Nat.le_of_eq rfl) (hb hby at_138) (fun _ _ => ⟨rfl, rfl, (by decide : 8 + 0 ≤ _), (by decide : 85 + 0 ≤ _)⟩)
  dsimp only [Pt.U, Pt.locs, Pt.cells, Pt.slots] at X39 l39 y39 z39 st39 hQ39
  subst l39 y39 z39
  obtain ⟨rfl, N39q, e39q⟩ := hQ39
  have N39 := Fr.app N37 N39q
  obtain ⟨_, _, ⟨T43, L43, k43, n43⟩, -, X43, ⟨Lc43, hQ43, l43, y43, z43⟩, st43⟩ := Jvm.LawKit.callS X39 hx (y := my2) hown37 (mvT hZ37 (hwd101 hw)) (mvT hZ37 (hwd102 hw)) (mvT hZ37 (hwd5 hw)) (mvT hZ37 (hwd103 hw)) (by decide) (backOf (W := 0) (bla l Z a0 hw [] (own_draw p3) (T37.heap) n0 sz41 ) hZ37 (hwd103 hw) (hwd5 hw) (by decide) (by decide)) (g := (mkF m 145 #[.val (.int p1), .val (.int p2), .val (.int p3), .val (.int p4), .val (.int p5), .val (.ref lim_e1), .val (.int (own_draw p1)), .val (.int (own_draw p2)), .val (.int (own_draw p3)), .val (.int (own_draw p4)), .val (.ref b7), .val (.long (0 : Int64)), .second, .val (.int (1 : Int32)), .val (.ref so_e21), .val (.ref so_e37), .val (.long (0 : Int64)), .second, .unset, .unset] [(.int (own_draw p3))])) rfl (by rw [hml]; rfl) (argsL := [(.int (own_draw p3))]) (rest := []) (lenOf pd_2 rfl) rfl (by show 2 * 0 + _ ≤ _; exact Nat.le_of_eq rfl) (hb hby at_145) (fun _ _ => ⟨rfl, e39q, (by decide : 8 + 0 ≤ _), (by decide : 85 + 0 ≤ _)⟩)
  dsimp only [Pt.U, Pt.locs, Pt.cells, Pt.slots] at X43 l43 y43 z43 st43 hQ43
  subst l43 y43 z43
  obtain ⟨rfl, N43q, e43q⟩ := hQ43
  have N43 := Fr.app N39 N43q
  obtain ⟨_, _, ⟨T44, L44, k44, n44⟩, -, X44, ⟨Lc44, hQ44, l44, y44, z44⟩, st44⟩ := Jvm.LawKit.callS X43 hx (y := my2) hown37 (mvT hZ37 (hwd101 hw)) (mvT hZ37 (hwd102 hw)) (mvT hZ37 (hwd5 hw)) (mvT hZ37 (hwd103 hw)) (by decide) (backOf (W := 0) (bla l Z a0 hw [] (own_draw p4) (T37.heap) n0 sz41 ) hZ37 (hwd103 hw) (hwd5 hw) (by decide) (by decide)) (g := (mkF m 152 #[.val (.int p1), .val (.int p2), .val (.int p3), .val (.int p4), .val (.int p5), .val (.ref lim_e1), .val (.int (own_draw p1)), .val (.int (own_draw p2)), .val (.int (own_draw p3)), .val (.int (own_draw p4)), .val (.ref b7), .val (.long (0 : Int64)), .second, .val (.int (1 : Int32)), .val (.ref so_e21), .val (.ref so_e37), .val (.long (0 : Int64)), .second, .val (.int (own_bl (own_draw p3))), .unset] [(.int (own_draw p4))])) rfl (by rw [hml]; rfl) (argsL := [(.int (own_draw p4))]) (rest := []) (lenOf pd_2 rfl) rfl (by show 2 * 0 + _ ≤ _; exact Nat.le_of_eq rfl) (hb hby at_152) (fun _ _ => ⟨rfl, e43q, (by decide : 8 + 0 ≤ _), (by decide : 85 + 0 ≤ _)⟩)
  dsimp only [Pt.U, Pt.locs, Pt.cells, Pt.slots] at X44 l44 y44 z44 st44 hQ44
  subst l44 y44 z44
  obtain ⟨rfl, N44q, e44q⟩ := hQ44
  have N44 := Fr.app N43 N44q
  obtain ⟨cq45, kq45, q45a, q45b, q45c⟩ := isOf hZ37 e44q p37_1
  obtain ⟨_, _, ⟨T45, L45, k45, n45⟩, -, X45, ⟨Lc45, hQ45, l45, y45, z45⟩, st45⟩ := X44.virtualBack hx (y := my23) (z := my23) hown37 (mvT hZ37 (hwd96 hw)) (mvT hZ37 (hwd97 hw)) (notFace_of_selects (args := #[]) (mvT hZ37 (hwd99 hw))) (mvT hZ37 (hwd99 hw)) (mvT hZ37 (hwd98 hw)) (by decide) (backOf (W := 0) (sem l Z a0 hw [] so_e37 b_e37 kb_e37 (T37.heap) n0 sz41 p37_2 p37_4) hZ37 (hwd100 hw) (hwd64 hw) (by decide) (by decide)) q45a q45c (g := (mkF m 298 #[.val (.int p1), .val (.int p2), .val (.int p3), .val (.int p4), .val (.int p5), .val (.ref lim_e1), .val (.int (own_draw p1)), .val (.int (own_draw p2)), .val (.int (own_draw p3)), .val (.int (own_draw p4)), .val (.ref b7), .val (.long (0 : Int64)), .second, .val (.int (1 : Int32)), .val (.ref so_e21), .val (.ref so_e37), .val (.long (0 : Int64)), .second, .val (.int (own_bl (own_draw p3))), .val (.int (own_bl (own_draw p4)))] [(.ref so_e37)])) rfl (by rw [hml]; rfl) (Steps.refl _) (argsL := []) (rest := []) (lenOf pd_16 rfl) rfl (by show 2 * 0 + _ ≤ _; exact Nat.le_of_eq rfl) (hb hby at_298) (fun _ _ => ⟨rfl, e44q, (by decide : 8 + 0 ≤ _), (by decide : 85 + 0 ≤ _)⟩)
  dsimp only [Pt.U, Pt.locs, Pt.cells, Pt.slots] at X45 l45 y45 z45 st45 hQ45
  subst l45 y45 z45
  obtain ⟨rfl, N45q, e45q⟩ := hQ45
  have N45 := Fr.app N44 N45q
  have hkE := Nat.le_trans hk37 (Nat.le_of_eq (congrArg Array.size (show T37.heap = T45.heap from Eq.symm e45q)))
  obtain ⟨fs, hr, hrun, hended, hRE⟩ := X45.leaveW hS37 hkE (v := some (.int (1 : Int32))) (fun h => by rw [Bd.returns] at h; cases h)
  refine ⟨_, _, pre0 _ ?_, hrun, hended, _, _, rfl, ?_, ?_, hRE.1, hRE.2.1, hRE.2.2.1, hRE.2.2.2.mono (by decide) (by decide)⟩
  · show Steps p.tables e below (s₁.setTop (mkF m 0 #[.val (.int p1), .val (.int p2), .val (.int p3), .val (.int p4), .val (.int p5), .unset, .unset, .unset, .unset, .unset, .unset, .unset, .unset, .unset, .unset, .unset, .unset, .unset, .unset, .unset] [])) _
    refine st1 _ ?_
    refine XS.astore X1.here hx rfl (hb hby at_16) rfl rfl (l' := #[.val (.int p1), .val (.int p2), .val (.int p3), .val (.int p4), .val (.int p5), .val (.ref lim_e1), .unset, .unset, .unset, .unset, .unset, .unset, .unset, .unset, .unset, .unset, .unset, .unset, .unset, .unset]) rfl ?_
    refine XS.iloadN X1.here hx rfl (hb hby at_18) rfl ?_
    refine st2 _ ?_
    refine XS.istore X2.here hx rfl (hb hby at_22) rfl (l' := #[.val (.int p1), .val (.int p2), .val (.int p3), .val (.int p4), .val (.int p5), .val (.ref lim_e1), .val (.int (own_draw p1)), .unset, .unset, .unset, .unset, .unset, .unset, .unset, .unset, .unset, .unset, .unset, .unset, .unset]) rfl ?_
    refine XS.iloadN X2.here hx rfl (hb hby at_24) rfl ?_
    show Steps p.tables e below (T2.setTop (mkF m 25 #[.val (.int p1), .val (.int p2), .val (.int p3), .val (.int p4), .val (.int p5), .val (.ref lim_e1), .val (.int (own_draw p1)), .unset, .unset, .unset, .unset, .unset, .unset, .unset, .unset, .unset, .unset, .unset, .unset, .unset] [(.int p2)])) _
    refine st4 _ ?_
    refine XS.istore X4.here hx rfl (hb hby at_28) rfl (l' := #[.val (.int p1), .val (.int p2), .val (.int p3), .val (.int p4), .val (.int p5), .val (.ref lim_e1), .val (.int (own_draw p1)), .val (.int (own_draw p2)), .unset, .unset, .unset, .unset, .unset, .unset, .unset, .unset, .unset, .unset, .unset, .unset]) rfl ?_
    refine XS.iloadN X4.here hx rfl (hb hby at_30) rfl ?_
    refine st5 _ ?_
    refine XS.istore X5.here hx rfl (hb hby at_34) rfl (l' := #[.val (.int p1), .val (.int p2), .val (.int p3), .val (.int p4), .val (.int p5), .val (.ref lim_e1), .val (.int (own_draw p1)), .val (.int (own_draw p2)), .val (.int (own_draw p3)), .unset, .unset, .unset, .unset, .unset, .unset, .unset, .unset, .unset, .unset, .unset]) rfl ?_
    refine XS.iloadN X5.here hx rfl (hb hby at_36) rfl ?_
    show Steps p.tables e below (T5.setTop (mkF m 37 #[.val (.int p1), .val (.int p2), .val (.int p3), .val (.int p4), .val (.int p5), .val (.ref lim_e1), .val (.int (own_draw p1)), .val (.int (own_draw p2)), .val (.int (own_draw p3)), .unset, .unset, .unset, .unset, .unset, .unset, .unset, .unset, .unset, .unset, .unset] [(.int p4)])) _
    refine st6 _ ?_
    refine XS.istore X6.here hx rfl (hb hby at_40) rfl (l' := #[.val (.int p1), .val (.int p2), .val (.int p3), .val (.int p4), .val (.int p5), .val (.ref lim_e1), .val (.int (own_draw p1)), .val (.int (own_draw p2)), .val (.int (own_draw p3)), .val (.int (own_draw p4)), .unset, .unset, .unset, .unset, .unset, .unset, .unset, .unset, .unset, .unset]) rfl ?_
    refine st7 _ ?_
    refine XS.dup X7.here hx rfl (hb hby at_45) rfl rfl ?_
    refine XS.aload X7.here hx rfl (hb hby at_46) rfl rfl ?_
    refine st11.trans ?_
    show Steps p.tables e below (T11.setTop (mkF m 51 #[.val (.int p1), .val (.int p2), .val (.int p3), .val (.int p4), .val (.int p5), .val (.ref lim_e1), .val (.int (own_draw p1)), .val (.int (own_draw p2)), .val (.int (own_draw p3)), .val (.int (own_draw p4)), .unset, .unset, .unset, .unset, .unset, .unset, .unset, .unset, .unset, .unset] [(.ref b7)])) _
    refine XS.astore X11.here hx rfl (hb hby at_51) rfl rfl (l' := #[.val (.int p1), .val (.int p2), .val (.int p3), .val (.int p4), .val (.int p5), .val (.ref lim_e1), .val (.int (own_draw p1)), .val (.int (own_draw p2)), .val (.int (own_draw p3)), .val (.int (own_draw p4)), .val (.ref b7), .unset, .unset, .unset, .unset, .unset, .unset, .unset, .unset, .unset]) rfl ?_
    show Steps p.tables e below (T11.setTop (mkF m 53 #[.val (.int p1), .val (.int p2), .val (.int p3), .val (.int p4), .val (.int p5), .val (.ref lim_e1), .val (.int (own_draw p1)), .val (.int (own_draw p2)), .val (.int (own_draw p3)), .val (.int (own_draw p4)), .val (.ref b7), .unset, .unset, .unset, .unset, .unset, .unset, .unset, .unset, .unset] [])) _
    refine st16 _ ?_
    refine XS.aload X16.here hx rfl (hb hby at_72) rfl rfl ?_
    refine st18.trans ?_
    refine XS.lstore X18.here hx rfl (hb hby at_77) rfl (l' := #[.val (.int p1), .val (.int p2), .val (.int p3), .val (.int p4), .val (.int p5), .val (.ref lim_e1), .val (.int (own_draw p1)), .val (.int (own_draw p2)), .val (.int (own_draw p3)), .val (.int (own_draw p4)), .val (.ref b7), .val (.long (0 : Int64)), .second, .unset, .unset, .unset, .unset, .unset, .unset, .unset]) rfl ?_
    refine XS.aload X18.here hx rfl (hb hby at_79) rfl rfl ?_
    refine st20.trans ?_
    show Steps p.tables e below (T20.setTop (mkF m 84 #[.val (.int p1), .val (.int p2), .val (.int p3), .val (.int p4), .val (.int p5), .val (.ref lim_e1), .val (.int (own_draw p1)), .val (.int (own_draw p2)), .val (.int (own_draw p3)), .val (.int (own_draw p4)), .val (.ref b7), .val (.long (0 : Int64)), .second, .unset, .unset, .unset, .unset, .unset, .unset, .unset] [(.int (1 : Int32))])) _
    refine XS.istore X20.here hx rfl (hb hby at_84) rfl (l' := #[.val (.int p1), .val (.int p2), .val (.int p3), .val (.int p4), .val (.int p5), .val (.ref lim_e1), .val (.int (own_draw p1)), .val (.int (own_draw p2)), .val (.int (own_draw p3)), .val (.int (own_draw p4)), .val (.ref b7), .val (.long (0 : Int64)), .second, .val (.int (1 : Int32)), .unset, .unset, .unset, .unset, .unset, .unset]) rfl ?_
    refine XS.aload X20.here hx rfl (hb hby at_86) rfl rfl ?_
    refine st21.trans ?_
    refine XS.astore X21.here hx rfl (hb hby at_91) rfl rfl (l' := #[.val (.int p1), .val (.int p2), .val (.int p3), .val (.int p4), .val (.int p5), .val (.ref lim_e1), .val (.int (own_draw p1)), .val (.int (own_draw p2)), .val (.int (own_draw p3)), .val (.int (own_draw p4)), .val (.ref b7), .val (.long (0 : Int64)), .second, .val (.int (1 : Int32)), .val (.ref so_e21), .unset, .unset, .unset, .unset, .unset]) rfl ?_
    refine XS.lload X21.here hx rfl (hb hby at_93) rfl ?_
    refine XS.lconst X21.here hx rfl (hb hby at_95) ?_
    show Steps p.tables e below (T21.setTop (mkF m 96 #[.val (.int p1), .val (.int p2), .val (.int p3), .val (.int p4), .val (.int p5), .val (.ref lim_e1), .val (.int (own_draw p1)), .val (.int (own_draw p2)), .val (.int (own_draw p3)), .val (.int (own_draw p4)), .val (.ref b7), .val (.long (0 : Int64)), .second, .val (.int (1 : Int32)), .val (.ref so_e21), .unset, .unset, .unset, .unset, .unset] [(.long (0 : Int64)), (.long (0 : Int64))])) _
    refine XS.lcmp X21.here hx rfl (hb hby at_96) rfl ?_
    refine XS.ifNo X21.here hx rfl (hb hby at_97) rfl ((if0 _ _).trans (teq (show (lcmpW (0 : Int64) (0 : Int64)) = (0 : Int32) from (by decide))).2) ?_
    refine XS.iload X21.here hx rfl (hb hby at_100) rfl ?_
    refine XS.ifNo X21.here hx rfl (hb hby at_102) rfl ((if0 _ _).trans (feq (show ¬ ((1 : Int32) = (0 : Int32)) from (by decide))).1) ?_
    refine XS.aload X21.here hx rfl (hb hby at_105) rfl rfl ?_
    refine st28.trans ?_
    show Steps p.tables e below (T28.setTop (mkF m 110 #[.val (.int p1), .val (.int p2), .val (.int p3), .val (.int p4), .val (.int p5), .val (.ref lim_e1), .val (.int (own_draw p1)), .val (.int (own_draw p2)), .val (.int (own_draw p3)), .val (.int (own_draw p4)), .val (.ref b7), .val (.long (0 : Int64)), .second, .val (.int (1 : Int32)), .val (.ref so_e21), .unset, .unset, .unset, .unset, .unset] [(.int (1 : Int32))])) _
    refine XS.ifYes X28.here hx rfl (pc0 := 110) (pc' := 115) rfl (hb hby at_110) rfl ((if0 _ _).trans (feq (show ¬ ((1 : Int32) = (0 : Int32)) from (by decide))).2) (by decide) (by decide) ?_
    refine XS.aload X28.here hx rfl (hb hby at_115) rfl rfl ?_
    refine XS.iload X28.here hx rfl (hb hby at_117) rfl ?_
    refine st30.trans ?_
    refine XS.aload X30.here hx rfl (hb hby at_122) rfl rfl ?_
    refine XS.iload X30.here hx rfl (hb hby at_124) rfl ?_
    show Steps p.tables e below (T30.setTop (mkF m 126 #[.val (.int p1), .val (.int p2), .val (.int p3), .val (.int p4), .val (.int p5), .val (.ref lim_e1), .val (.int (own_draw p1)), .val (.int (own_draw p2)), .val (.int (own_draw p3)), .val (.int (own_draw p4)), .val (.ref b7), .val (.long (0 : Int64)), .second, .val (.int (1 : Int32)), .val (.ref so_e21), .unset, .unset, .unset, .unset, .unset] [(.int (own_draw p4)), (.ref b7)])) _
    refine st36.trans ?_
    refine XS.aload X36.here hx rfl (hb hby at_129) rfl rfl ?_
    refine st37.trans ?_
    refine XS.astore X37.here hx rfl (hb hby at_134) rfl rfl (l' := #[.val (.int p1), .val (.int p2), .val (.int p3), .val (.int p4), .val (.int p5), .val (.ref lim_e1), .val (.int (own_draw p1)), .val (.int (own_draw p2)), .val (.int (own_draw p3)), .val (.int (own_draw p4)), .val (.ref b7), .val (.long (0 : Int64)), .second, .val (.int (1 : Int32)), .val (.ref so_e21), .val (.ref so_e37), .unset, .unset, .unset, .unset]) rfl ?_
    refine XS.aload X37.here hx rfl (hb hby at_136) rfl rfl ?_
    refine st39.trans ?_
    show Steps p.tables e below (T39.setTop (mkF m 141 #[.val (.int p1), .val (.int p2), .val (.int p3), .val (.int p4), .val (.int p5), .val (.ref lim_e1), .val (.int (own_draw p1)), .val (.int (own_draw p2)), .val (.int (own_draw p3)), .val (.int (own_draw p4)), .val (.ref b7), .val (.long (0 : Int64)), .second, .val (.int (1 : Int32)), .val (.ref so_e21), .val (.ref so_e37), .unset, .unset, .unset, .unset] [(.long (0 : Int64))])) _
    refine XS.lstore X39.here hx rfl (hb hby at_141) rfl (l' := #[.val (.int p1), .val (.int p2), .val (.int p3), .val (.int p4), .val (.int p5), .val (.ref lim_e1), .val (.int (own_draw p1)), .val (.int (own_draw p2)), .val (.int (own_draw p3)), .val (.int (own_draw p4)), .val (.ref b7), .val (.long (0 : Int64)), .second, .val (.int (1 : Int32)), .val (.ref so_e21), .val (.ref so_e37), .val (.long (0 : Int64)), .second, .unset, .unset]) rfl ?_
    refine XS.iload X39.here hx rfl (hb hby at_143) rfl ?_
    refine st43 _ ?_
    refine XS.istore X43.here hx rfl (hb hby at_148) rfl (l' := #[.val (.int p1), .val (.int p2), .val (.int p3), .val (.int p4), .val (.int p5), .val (.ref lim_e1), .val (.int (own_draw p1)), .val (.int (own_draw p2)), .val (.int (own_draw p3)), .val (.int (own_draw p4)), .val (.ref b7), .val (.long (0 : Int64)), .second, .val (.int (1 : Int32)), .val (.ref so_e21), .val (.ref so_e37), .val (.long (0 : Int64)), .second, .val (.int (own_bl (own_draw p3))), .unset]) rfl ?_
    refine XS.iload X43.here hx rfl (hb hby at_150) rfl ?_
    refine st44 _ ?_
    show Steps p.tables e below (T44.setTop (mkF m 155 #[.val (.int p1), .val (.int p2), .val (.int p3), .val (.int p4), .val (.int p5), .val (.ref lim_e1), .val (.int (own_draw p1)), .val (.int (own_draw p2)), .val (.int (own_draw p3)), .val (.int (own_draw p4)), .val (.ref b7), .val (.long (0 : Int64)), .second, .val (.int (1 : Int32)), .val (.ref so_e21), .val (.ref so_e37), .val (.long (0 : Int64)), .second, .val (.int (own_bl (own_draw p3))), .unset] [(.int (own_bl (own_draw p4)))])) _
    refine XS.istore X44.here hx rfl (hb hby at_155) rfl (l' := #[.val (.int p1), .val (.int p2), .val (.int p3), .val (.int p4), .val (.int p5), .val (.ref lim_e1), .val (.int (own_draw p1)), .val (.int (own_draw p2)), .val (.int (own_draw p3)), .val (.int (own_draw p4)), .val (.ref b7), .val (.long (0 : Int64)), .second, .val (.int (1 : Int32)), .val (.ref so_e21), .val (.ref so_e37), .val (.long (0 : Int64)), .second, .val (.int (own_bl (own_draw p3))), .val (.int (own_bl (own_draw p4)))]) rfl ?_
    refine XS.iload X44.here hx rfl (hb hby at_157) rfl ?_
    refine XS.ifYes X44.here hx rfl (pc0 := 159) (pc' := 213) rfl (hb hby at_159) rfl ((if0 _ _).trans (feq (show ¬ ((own_bl (own_draw p3)) = (0 : Int32)) from hb3)).2) (by decide) (by decide) ?_
    refine XS.iload X44.here hx rfl (hb hby at_213) rfl ?_
    refine XS.ifYes X44.here hx rfl (pc0 := 215) (pc' := 251) rfl (hb hby at_215) rfl ((if0 _ _).trans (feq (show ¬ ((own_bl (own_draw p3)) = (0 : Int32)) from hb3)).2) (by decide) (by decide) ?_
    refine XS.iload X44.here hx rfl (hb hby at_251) rfl ?_
    show Steps p.tables e below (T44.setTop (mkF m 253 #[.val (.int p1), .val (.int p2), .val (.int p3), .val (.int p4), .val (.int p5), .val (.ref lim_e1), .val (.int (own_draw p1)), .val (.int (own_draw p2)), .val (.int (own_draw p3)), .val (.int (own_draw p4)), .val (.ref b7), .val (.long (0 : Int64)), .second, .val (.int (1 : Int32)), .val (.ref so_e21), .val (.ref so_e37), .val (.long (0 : Int64)), .second, .val (.int (own_bl (own_draw p3))), .val (.int (own_bl (own_draw p4)))] [(.int (own_bl (own_draw p4)))])) _
    refine XS.ifYes X44.here hx rfl (pc0 := 253) (pc' := 289) rfl (hb hby at_253) rfl ((if0 _ _).trans (feq (show ¬ ((own_bl (own_draw p4)) = (0 : Int32)) from hb4)).2) (by decide) (by decide) ?_
    refine XS.lload X44.here hx rfl (hb hby at_289) rfl ?_
    refine XS.lconst X44.here hx rfl (hb hby at_291) ?_
    refine XS.lcmp X44.here hx rfl (hb hby at_292) rfl ?_
    refine XS.ifNo X44.here hx rfl (hb hby at_293) rfl ((if0 _ _).trans (teq (show (lcmpW (0 : Int64) (0 : Int64)) = (0 : Int32) from (by decide))).2) ?_
    refine XS.aload X44.here hx rfl (hb hby at_296) rfl rfl ?_
    show Steps p.tables e below (T44.setTop (mkF m 298 #[.val (.int p1), .val (.int p2), .val (.int p3), .val (.int p4), .val (.int p5), .val (.ref lim_e1), .val (.int (own_draw p1)), .val (.int (own_draw p2)), .val (.int (own_draw p3)), .val (.int (own_draw p4)), .val (.ref b7), .val (.long (0 : Int64)), .second, .val (.int (1 : Int32)), .val (.ref so_e21), .val (.ref so_e37), .val (.long (0 : Int64)), .second, .val (.int (own_bl (own_draw p3))), .val (.int (own_bl (own_draw p4)))] [(.ref so_e37)])) _
    refine st45.trans ?_
    refine XS.ifNo X45.here hx rfl (hb hby at_301) rfl ((if0 _ _).trans (feq (show ¬ ((1 : Int32) = (0 : Int32)) from (by decide))).1) ?_
    refine XS.iconst X45.here hx rfl (hb hby at_304) ?_
    refine XS.goto X45.here hx rfl (pc0 := 305) (pc' := 309) rfl (hb hby at_305) (by decide) (by decide) ?_
    exact retN X45 hx (t := .boolean) Bd.returns (by simp) (hb hby at_309) hr
  · show Qrm0 Z p1 p2 p3 p4 p5 vo lq cz sf h0 n0 _ T45.heap _
    rw [e45q]
    exact ⟨rfl, N45⟩
  · show CHr Z consts_1 s.vm s.heap T45.vm T45.heap
    rw [hh, e45q]
    exact CR37.trans (CHv.at X45 hZ37 (own_EL hw) CR37.1)
theorem hwd124 {Z : State} {a0 : Array Value} (hw : ∀ d ∈ tables_1, d.before a0 Z = true) : (Jvm.Cond.methodLink "com/example/libsitemap/libsitemap/ValueTextClearPinLaw" (55 : Nat) ({ cls := "java/lang/String", name := "length", desc := "()I" } : Jvm.MethodName)).before a0 Z = true := hw _ (List.mem_of_getElem? (i := 124) rfl)
theorem hwd128 {Z : State} {a0 : Array Value} (hw : ∀ d ∈ tables_1, d.before a0 Z = true) : (Jvm.Cond.code ({ cls := "java/lang/String", name := "length", desc := "()I" } : Jvm.MethodName) jdk_42_method_54_code (1 : Nat) (Option.some Jvm.ClassFile.FieldType.int)).before a0 Z = true := hw _ (List.mem_of_getElem? (i := 128) rfl)
theorem hwd127 {Z : State} {a0 : Array Value} (hw : ∀ d ∈ tables_1, d.before a0 Z = true) : (Jvm.Cond.selects "java/lang/String" ({ cls := "java/lang/String", name := "length", desc := "()I" } : Jvm.MethodName) ({ cls := "java/lang/String", name := "length", desc := "()I" } : Jvm.MethodName)).before a0 Z = true := hw _ (List.mem_of_getElem? (i := 127) rfl)
theorem hwd125 {Z : State} {a0 : Array Value} (hw : ∀ d ∈ tables_1, d.before a0 Z = true) : (Jvm.Cond.declares ({ cls := "java/lang/String", name := "length", desc := "()I" } : Jvm.MethodName)).before a0 Z = true := hw _ (List.mem_of_getElem? (i := 125) rfl)
theorem hwd126 {Z : State} {a0 : Array Value} (hw : ∀ d ∈ tables_1, d.before a0 Z = true) : (Jvm.Cond.instanceMethod ({ cls := "java/lang/String", name := "length", desc := "()I" } : Jvm.MethodName)).before a0 Z = true := hw _ (List.mem_of_getElem? (i := 126) rfl)
theorem hwd134 {Z : State} {a0 : Array Value} (hw : ∀ d ∈ tables_1, d.before a0 Z = true) : (Jvm.Cond.methodLink "com/example/libsitemap/libsitemap/ValueTextClearPinLaw" (58 : Nat) ({ cls := "java/lang/String", name := "charAt", desc := "(I)C" } : Jvm.MethodName)).before a0 Z = true := hw _ (List.mem_of_getElem? (i := 134) rfl)
theorem hwd138 {Z : State} {a0 : Array Value} (hw : ∀ d ∈ tables_1, d.before a0 Z = true) : (Jvm.Cond.code ({ cls := "java/lang/String", name := "charAt", desc := "(I)C" } : Jvm.MethodName) jdk_42_method_56_code (2 : Nat) (Option.some Jvm.ClassFile.FieldType.char)).before a0 Z = true := hw _ (List.mem_of_getElem? (i := 138) rfl)
theorem hwd137 {Z : State} {a0 : Array Value} (hw : ∀ d ∈ tables_1, d.before a0 Z = true) : (Jvm.Cond.selects "java/lang/String" ({ cls := "java/lang/String", name := "charAt", desc := "(I)C" } : Jvm.MethodName) ({ cls := "java/lang/String", name := "charAt", desc := "(I)C" } : Jvm.MethodName)).before a0 Z = true := hw _ (List.mem_of_getElem? (i := 137) rfl)
theorem hwd135 {Z : State} {a0 : Array Value} (hw : ∀ d ∈ tables_1, d.before a0 Z = true) : (Jvm.Cond.declares ({ cls := "java/lang/String", name := "charAt", desc := "(I)C" } : Jvm.MethodName)).before a0 Z = true := hw _ (List.mem_of_getElem? (i := 135) rfl)
theorem hwd136 {Z : State} {a0 : Array Value} (hw : ∀ d ∈ tables_1, d.before a0 Z = true) : (Jvm.Cond.instanceMethod ({ cls := "java/lang/String", name := "charAt", desc := "(I)C" } : Jvm.MethodName)).before a0 Z = true := hw _ (List.mem_of_getElem? (i := 136) rfl)
set_option maxRecDepth 65536 in
set_option maxHeartbeats 40000000 in
theorem law_10 (l : Launch) (Z : State) (a0 : Array Value) (hw : ∀ d ∈ tables_1, d.before a0 Z = true) (ws : List Jvm.Cond) (p1 : Int32) (p2 : Int32) (p3 : Int32) (p4 : Int32) (p5 : Int32) (vo : Addr) (lq : Addr) (cz : Int32) (sf : Value) (h0 : Heap) (n0 : Nat) (Z0 : n0 ≤ h0.size) (O_V : Sta Z Z.heap "com/example/libsitemap/libsitemap/FieldFormat$TextLimit" "VALUE" "Lcom/example/libsitemap/libsitemap/FieldFormat$TextLimit;" (.ref vo)) (O_L : Sta Z Z.heap "com/example/libsitemap/libsitemap/FieldFormat$TextLimit" "LOC" "Lcom/example/libsitemap/libsitemap/FieldFormat$TextLimit;" (.ref lq)) (E_vo : Exa Z h0 vo "com/example/libsitemap/libsitemap/FieldFormat$TextLimit") (F_chars_vo : Fld Z h0 vo "com/example/libsitemap/libsitemap/FieldFormat$TextLimit" "chars" "I" (.int (128 : Int32))) (E_lq : Exa Z h0 lq "com/example/libsitemap/libsitemap/FieldFormat$TextLimit") (F_chars_lq : Fld Z h0 lq "com/example/libsitemap/libsitemap/FieldFormat$TextLimit" "chars" "I" (.int (2047 : Int32))) (O_C : Sta Z Z.heap "java/lang/String" "COMPACT_STRINGS" "Z" (.int cz)) (hcz : ¬ (cz = (0 : Int32))) (O_S : Sta Z Z.heap "jdk/internal/util/Preconditions" "SIOOBE_FORMATTER" "Ljava/util/function/BiFunction;" sf) (hsf : sf.isRef = true) (X00 : Old Z n0 h0) (hb3 : ¬ (own_bl (own_draw p3) = (0 : Int32))) (hb4 : own_bl (own_draw p4) = (0 : Int32)) :
    MetFree l x (head1 (Jvm.Cond.code x code maxLocals ret :: ws) room_1) (fun aa_ U => aa_ = #[(.int p1), (.int p2), (.int p3), (.int p4), (.int p5)] ∧ Z.Warmed39 U.vm ∧ U.heap = h0 ∧ CHv Z consts_1 U.vm h0) (fun _ _ _ _ _ => True) (fun _ U oo_ U' => ∃ v L, oo_ = .returned v ∧ Qrm0 Z p1 p2 p3 p4 p5 vo lq cz sf h0 n0 v U'.heap L ∧ CHr Z consts_1 U.vm U.heap U'.vm U'.heap ∧ ReturnedEndW U oo_ U' L room_1.cells room_1.slots) := by
  refine MetFree.of_bodySF (plainFor_of_name pn_0) hisR ?_
  intro p e s m args below meth c s₁ Bd hml0 hP hK
  obtain ⟨rfl, hZ, hh, hC0⟩ := hP
  have hx := Bd.exec
  have hby := Bd.bytes
  have hml : c.maxLocals = 20 := hml0
  have hown : s.vm.findClass "com/example/libsitemap/libsitemap/ValueTextClearPinLaw" = some m.cls := findClass_of_methodNamed Bd.named
  have hZ : Z.Warmed39 (s.setVm s.vm).vm := hZ
  have hown : (s.setVm s.vm).vm.findClass "com/example/libsitemap/libsitemap/ValueTextClearPinLaw" = some m.cls := hown
  have hS0 : s.Since s.vm s.heap.size := (State.WarmedH.refl s).since _
  have hk0 : s.heap.size ≤ h0.size := Nat.le_of_eq (by rw [hh])
  have CR0 : CHr Z consts_1 s.vm h0 s.vm h0 := CHr.refl hC0
  have hnm := (name_of_methodNamed Bd.named Bd.method).1
  have X0 : Stand p l e room_1 (s.setVm s.vm) m #[(.int p1), (.int p2), (.int p3), (.int p4), (.int p5)] below meth c s₁ [] 0 0 := Stand.of_body Bd
  have e0 : s₁.heap = h0 := by rw [← hh, Bd.state]; rfl
  have N0 := Fr.nil n0
  have pre0 : ∀ tt_, Steps p.tables e below (s₁.setTop (mkF m 0 #[.val (.int p1), .val (.int p2), .val (.int p3), .val (.int p4), .val (.int p5), .unset, .unset, .unset, .unset, .unset, .unset, .unset, .unset, .unset, .unset, .unset, .unset, .unset, .unset, .unset] [])) tt_ → Steps p.tables e below (s₁.setTop (entryFrame m #[(.int p1), (.int p2), (.int p3), (.int p4), (.int p5)] maxLocals)) tt_ := fun tt_ kk_ => castTop (ef_0 m p1 p2 p3 p4 p5) kk_
  obtain ⟨lim_e1, kc_e1, T1, L1, h1, X1, e1, N1, K1, p1_1, p1_2, hkc_1, st1⟩ := P0 p1 p2 p3 p4 p5 vo lq X0 hx hZ hw hby hml hown e0 N0 Z0 O_V O_L E_vo F_chars_vo E_lq F_chars_lq X00
  have sz3 : n0 ≤ h1.size := (Nat.le_trans Z0 K1.1)
  obtain ⟨_, _, ⟨T2, L2, k2, n2⟩, -, X2, ⟨Lc2, hQ2, l2, y2, z2⟩, st2⟩ := Jvm.LawKit.callS X1 hx (y := my0) hown (mvT hZ (hwd3 hw)) (mvT hZ (hwd4 hw)) (mvT hZ (hwd5 hw)) (mvT hZ (hwd6 hw)) (by decide) (backOf (W := 0) (draw l Z a0 hw [] p1 h1 n0 sz3 ) hZ (hwd6 hw) (hwd5 hw) (by decide) (by decide)) (g := (mkF m 19 #[.val (.int p1), .val (.int p2), .val (.int p3), .val (.int p4), .val (.int p5), .val (.ref lim_e1), .unset, .unset, .unset, .unset, .unset, .unset, .unset, .unset, .unset, .unset, .unset, .unset, .unset, .unset] [(.int p1)])) rfl (by rw [hml]; rfl) (argsL := [(.int p1)]) (rest := []) (lenOf pd_20 rfl) rfl (by show 2 * 0 + _ ≤ _; exact Nat.le_of_eq rfl) (hb hby at_19) (fun _ _ => ⟨rfl, e1, (by decide : 0 + 0 ≤ _), (by decide : 0 + 0 ≤ _)⟩)
  dsimp only [Pt.U, Pt.locs, Pt.cells, Pt.slots] at X2 l2 y2 z2 st2 hQ2
  subst l2 y2 z2
  obtain ⟨rfl, N2q, e2q⟩ := hQ2
  have N2 := Fr.app N1 N2q
  obtain ⟨_, _, ⟨T4, L4, k4, n4⟩, -, X4, ⟨Lc4, hQ4, l4, y4, z4⟩, st4⟩ := Jvm.LawKit.callS X2 hx (y := my0) hown (mvT hZ (hwd3 hw)) (mvT hZ (hwd4 hw)) (mvT hZ (hwd5 hw)) (mvT hZ (hwd6 hw)) (by decide) (backOf (W := 0) (draw l Z a0 hw [] p2 h1 n0 sz3 ) hZ (hwd6 hw) (hwd5 hw) (by decide) (by decide)) (g := (mkF m 25 #[.val (.int p1), .val (.int p2), .val (.int p3), .val (.int p4), .val (.int p5), .val (.ref lim_e1), .val (.int (own_draw p1)), .unset, .unset, .unset, .unset, .unset, .unset, .unset, .unset, .unset, .unset, .unset, .unset, .unset] [(.int p2)])) rfl (by rw [hml]; rfl) (argsL := [(.int p2)]) (rest := []) (lenOf pd_20 rfl) rfl (by show 2 * 0 + _ ≤ _; exact Nat.le_of_eq rfl) (hb hby at_25) (fun _ _ => ⟨rfl, e2q, (by decide : 0 + 0 ≤ _), (by decide : 0 + 0 ≤ _)⟩)
  dsimp only [Pt.U, Pt.locs, Pt.cells, Pt.slots] at X4 l4 y4 z4 st4 hQ4
  subst l4 y4 z4
  obtain ⟨rfl, N4q, e4q⟩ := hQ4
  have N4 := Fr.app N2 N4q
  obtain ⟨_, _, ⟨T5, L5, k5, n5⟩, -, X5, ⟨Lc5, hQ5, l5, y5, z5⟩, st5⟩ := Jvm.LawKit.callS X4 hx (y := my0) hown (mvT hZ (hwd3 hw)) (mvT hZ (hwd4 hw)) (mvT hZ (hwd5 hw)) (mvT hZ (hwd6 hw)) (by decide) (backOf (W := 0) (draw l Z a0 hw [] p3 h1 n0 sz3 ) hZ (hwd6 hw) (hwd5 hw) (by decide) (by decide)) (g := (mkF m 31 #[.val (.int p1), .val (.int p2), .val (.int p3), .val (.int p4), .val (.int p5), .val (.ref lim_e1), .val (.int (own_draw p1)), .val (.int (own_draw p2)), .unset, .unset, .unset, .unset, .unset, .unset, .unset, .unset, .unset, .unset, .unset, .unset] [(.int p3)])) rfl (by rw [hml]; rfl) (argsL := [(.int p3)]) (rest := []) (lenOf pd_20 rfl) rfl (by show 2 * 0 + _ ≤ _; exact Nat.le_of_eq rfl) (hb hby at_31) (fun _ _ => ⟨rfl, e4q, (by decide : 0 + 0 ≤ _), (by decide : 0 + 0 ≤ _)⟩)
  dsimp only [Pt.U, Pt.locs, Pt.cells, Pt.slots] at X5 l5 y5 z5 st5 hQ5
  subst l5 y5 z5
  obtain ⟨rfl, N5q, e5q⟩ := hQ5
  have N5 := Fr.app N4 N5q
  obtain ⟨_, _, ⟨T6, L6, k6, n6⟩, -, X6, ⟨Lc6, hQ6, l6, y6, z6⟩, st6⟩ := Jvm.LawKit.callS X5 hx (y := my0) hown (mvT hZ (hwd3 hw)) (mvT hZ (hwd4 hw)) (mvT hZ (hwd5 hw)) (mvT hZ (hwd6 hw)) (by decide) (backOf (W := 0) (draw l Z a0 hw [] p4 h1 n0 sz3 ) hZ (hwd6 hw) (hwd5 hw) (by decide) (by decide)) (g := (mkF m 37 #[.val (.int p1), .val (.int p2), .val (.int p3), .val (.int p4), .val (.int p5), .val (.ref lim_e1), .val (.int (own_draw p1)), .val (.int (own_draw p2)), .val (.int (own_draw p3)), .unset, .unset, .unset, .unset, .unset, .unset, .unset, .unset, .unset, .unset, .unset] [(.int p4)])) rfl (by rw [hml]; rfl) (argsL := [(.int p4)]) (rest := []) (lenOf pd_20 rfl) rfl (by show 2 * 0 + _ ≤ _; exact Nat.le_of_eq rfl) (hb hby at_37) (fun _ _ => ⟨rfl, e5q, (by decide : 0 + 0 ≤ _), (by decide : 0 + 0 ≤ _)⟩)
  dsimp only [Pt.U, Pt.locs, Pt.cells, Pt.slots] at X6 l6 y6 z6 st6 hQ6
  subst l6 y6 z6
  obtain ⟨rfl, N6q, e6q⟩ := hQ6
  have N6 := Fr.app N5 N6q
  obtain ⟨T7, h7, X7, e7, E7, A7, D7, -, st7⟩ := newO X6 hx hZ hown (hwd7 hw) (hwd8 hw) (hwd9 hw) e6q (g := (mkF m 42 #[.val (.int p1), .val (.int p2), .val (.int p3), .val (.int p4), .val (.int p5), .val (.ref lim_e1), .val (.int (own_draw p1)), .val (.int (own_draw p2)), .val (.int (own_draw p3)), .val (.int (own_draw p4)), .unset, .unset, .unset, .unset, .unset, .unset, .unset, .unset, .unset, .unset] [])) rfl (hb hby at_42) (by decide) (by decide)
  obtain ⟨b7, g7⟩ : ∃ zz_, zz_ = h1.size := ⟨_, rfl⟩
  rw [← g7] at A7 D7 st7
  have f8_E_vo := (E_vo.keep K1)
  have ne_vo_b7 : vo ≠ b7 := Nat.ne_of_lt (Nat.lt_of_lt_of_le f8_E_vo.lt (Nat.le_of_eq g7.symm))
  have f9_E_lq := (E_lq.keep K1)
  have ne_lq_b7 : lq ≠ b7 := Nat.ne_of_lt (Nat.lt_of_lt_of_le f9_E_lq.lt (Nat.le_of_eq g7.symm))
  have ne_lim_e1_b7 : lim_e1 ≠ b7 := Nat.ne_of_lt (Nat.lt_of_lt_of_le p1_1.lt (Nat.le_of_eq g7.symm))
  have g_b7 : n0 ≤ b7 := Nat.le_trans sz3 (Nat.le_of_eq g7.symm)
  have kp10 : Keep h0 h1 [] := ((Keep.refl h0 []).trans K1 all0)
  have sz_b7 : h0.size ≤ b7 := Nat.le_trans kp10.1 (Nat.le_of_eq g7.symm)
  have F_kept_b7 : Fld Z h7 b7 "com/example/libsitemap/libsitemap/ValueText" "kept" "[C" .null := D7 (Or.inl (hwd18 hw)) (ty := (.array .char)) (by decide)
  have F_keptChars_b7 : Fld Z h7 b7 "com/example/libsitemap/libsitemap/ValueText" "keptChars" "I" (.int (0 : Int32)) := D7 (Or.inr (hwd27 hw)) (ty := .int) (by decide)
  have F_length_b7 : Fld Z h7 b7 "com/example/libsitemap/libsitemap/ValueText" "length" "J" (.long (0 : Int64)) := D7 (Or.inl (hwd37 hw)) (ty := .long) (by decide)
  have F_keptLength_b7 : Fld Z h7 b7 "com/example/libsitemap/libsitemap/ValueText" "keptLength" "I" (.int (0 : Int32)) := D7 (Or.inl (hwd44 hw)) (ty := .int) (by decide)
  have F_valueLength_b7 : Fld Z h7 b7 "com/example/libsitemap/libsitemap/ValueText" "valueLength" "J" (.long (0 : Int64)) := D7 (Or.inl (hwd46 hw)) (ty := .long) (by decide)
  have f12_E_lim_e1 := (p1_1.ext E7)
  have f13_F_lim_e1_chars := (p1_2.ext E7)
  have sz14 : n0 ≤ h7.size := (Nat.le_trans sz3 E7.1)
  have kp15 : Keep h0 h7 [] := (kp10.ext E7)
  obtain ⟨_, _, ⟨T11, L11, k11, n11⟩, -, X11, ⟨Lc11, hQ11, l11, y11, z11⟩, st11⟩ := X7.specialBack hx (y := my4) rfl hown (mvT hZ (hwd10 hw)) (mvT hZ (hwd11 hw)) (mvT hZ (hwd12 hw)) (by decide) (backOf (W := 1) (ini l Z a0 hw [] b7 lim_e1 kc_e1 h7 n0 sz14 A7 F_kept_b7 F_keptChars_b7 F_keptLength_b7 F_length_b7 F_valueLength_b7 f12_E_lim_e1 f13_F_lim_e1_chars g_b7 (Ne.symm ne_lim_e1_b7)) hZ (hwd12 hw) (hwd9 hw) (by decide) (by decide)) (g := (mkF m 48 #[.val (.int p1), .val (.int p2), .val (.int p3), .val (.int p4), .val (.int p5), .val (.ref lim_e1), .val (.int (own_draw p1)), .val (.int (own_draw p2)), .val (.int (own_draw p3)), .val (.int (own_draw p4)), .unset, .unset, .unset, .unset, .unset, .unset, .unset, .unset, .unset, .unset] [(.ref lim_e1), (.ref b7), (.ref b7)])) rfl (by rw [hml]; rfl) (Steps.refl _) (a := b7) (argsL := [(.ref lim_e1)]) (rest := [(.ref b7)]) (lenOf pd_21 rfl) rfl (by show 2 * 0 + _ ≤ _; exact Nat.le_of_eq rfl) (hb hby at_48) (fun _ _ => ⟨rfl, e7, (by decide : 1 + 1 ≤ _), (by decide : 5 + 64 ≤ _)⟩)
  dsimp only [Pt.U, Pt.locs, Pt.cells, Pt.slots] at X11 l11 y11 z11 st11 hQ11
  subst l11 y11 z11
  obtain ⟨ar_e11, rfl, N11q, K11, p11_1, p11_2, p11_3, p11_4, p11_5, p11_6, p11_7, sz_ar_11, g_ar_11, ne_a_ar_11⟩ := hQ11
  have N11 := Fr.app N6 N11q
  have sz17 : n0 ≤ T11.heap.size := (Nat.le_trans sz14 K11.1)
  obtain ⟨f2_e16, T16, L16, h16, X16, e16, N16, K16, p16_1, p16_2, p16_3, p16_4, p16_5, p16_6, p16_7, st16⟩ := P1 p1 p2 p3 p4 p5 lim_e1 b7 ar_e11 (own_draw p1) (own_draw p2) (own_draw p3) (own_draw p4) kc_e1 (fun _ => (.int (0 : Int32))) X11 hx hZ hw hby hml hown rfl N11 sz17 p11_1 p11_2 p11_3 p11_4 p11_5 p11_6 p11_7 g_b7 g_ar_11 ne_a_ar_11 (own_dl p1) (own_dl p2) hkc_1
  have sz19 : n0 ≤ h16.size := (Nat.le_trans sz17 K16.1)
  obtain ⟨cq18, kq18, q18a, q18b, q18c⟩ := isOf hZ e16 p16_1
  obtain ⟨_, _, ⟨T18, L18, k18, n18⟩, -, X18, ⟨Lc18, hQ18, l18, y18, z18⟩, st18⟩ := X16.virtualBack hx (y := my9) (z := my9) hown (mvT hZ (hwd47 hw)) (mvT hZ (hwd48 hw)) (notFace_of_selects (args := #[]) (mvT hZ (hwd50 hw))) (mvT hZ (hwd50 hw)) (mvT hZ (hwd49 hw)) (by decide) (backOf (W := 0) (len l Z a0 hw [] b7 (0 : Int64) h16 n0 sz19 p16_6) hZ (hwd51 hw) (hwd9 hw) (by decide) (by decide)) q18a q18c (g := (mkF m 74 #[.val (.int p1), .val (.int p2), .val (.int p3), .val (.int p4), .val (.int p5), .val (.ref lim_e1), .val (.int (own_draw p1)), .val (.int (own_draw p2)), .val (.int (own_draw p3)), .val (.int (own_draw p4)), .val (.ref b7), .unset, .unset, .unset, .unset, .unset, .unset, .unset, .unset, .unset] [(.ref b7)])) rfl (by rw [hml]; rfl) (Steps.refl _) (argsL := []) (rest := []) (lenOf pd_22 rfl) rfl (by show 2 * 0 + _ ≤ _; exact Nat.le_of_eq rfl) (hb hby at_74) (fun _ _ => ⟨rfl, e16, (by decide : 2 + 0 ≤ _), (by decide : 69 + 0 ≤ _)⟩)
  dsimp only [Pt.U, Pt.locs, Pt.cells, Pt.slots] at X18 l18 y18 z18 st18 hQ18
  subst l18 y18 z18
  obtain ⟨rfl, N18q, e18q⟩ := hQ18
  have N18 := Fr.app N16 N18q
  obtain ⟨cq20, kq20, q20a, q20b, q20c⟩ := isOf hZ e18q p16_1
  obtain ⟨_, _, ⟨T20, L20, k20, n20⟩, -, X20, ⟨Lc20, hQ20, l20, y20, z20⟩, st20⟩ := X18.virtualBack hx (y := my10) (z := my10) hown (mvT hZ (hwd52 hw)) (mvT hZ (hwd53 hw)) (notFace_of_selects (args := #[]) (mvT hZ (hwd55 hw))) (mvT hZ (hwd55 hw)) (mvT hZ (hwd54 hw)) (by decide) (backOf (W := 0) (emp l Z a0 hw [] b7 h16 n0 sz19 p16_6) hZ (hwd56 hw) (hwd9 hw) (by decide) (by decide)) q20a q20c (g := (mkF m 81 #[.val (.int p1), .val (.int p2), .val (.int p3), .val (.int p4), .val (.int p5), .val (.ref lim_e1), .val (.int (own_draw p1)), .val (.int (own_draw p2)), .val (.int (own_draw p3)), .val (.int (own_draw p4)), .val (.ref b7), .val (.long (0 : Int64)), .second, .unset, .unset, .unset, .unset, .unset, .unset, .unset] [(.ref b7)])) rfl (by rw [hml]; rfl) (Steps.refl _) (argsL := []) (rest := []) (lenOf pd_16 rfl) rfl (by show 2 * 0 + _ ≤ _; exact Nat.le_of_eq rfl) (hb hby at_81) (fun _ _ => ⟨rfl, e18q, (by decide : 2 + 0 ≤ _), (by decide : 69 + 0 ≤ _)⟩)
  dsimp only [Pt.U, Pt.locs, Pt.cells, Pt.slots] at X20 l20 y20 z20 st20 hQ20
  subst l20 y20 z20
  obtain ⟨rfl, N20q, e20q⟩ := hQ20
  have N20 := Fr.app N18 N20q
  have old22 : Old Z n0 h16 := ((((X00.keep K1 all0).ext E7).keep K11 (allS g_b7 all0)).keep K16 (allS g_b7 (allS g_ar_11 all0)))
  have kp23 : Keep h0 h16 [] := ((kp15.trans K11 (allS (Or.inr sz_b7) all0)).trans K16 (allS (Or.inr sz_b7) (allS (Or.inr (Nat.le_trans kp15.1 sz_ar_11)) all0)))
  have CR24h : CHr Z consts_1 s.vm h0 s.vm h16 := CR0.trans (CHr.keep kp23 sf0 CR0.1)
  have hk25 : _ ≤ h16.size := (Nat.le_trans (Nat.le_trans (Nat.le_trans (Nat.le_trans hk0 K1.1) E7.1) K11.1) K16.1)
  obtain ⟨cq21, kq21, q21a, q21b, q21c⟩ := isOf hZ e20q p16_1
  obtain ⟨_, _, ⟨T21, L21, k21, n21⟩, -, X21q, hS21q, hg21q, ⟨Lc21, hQ21, l21, y21, z21, CR21q⟩, st21⟩ := X20.virtualBackS hx (y := my20) (z := my20) hown (mvT hZ (hwd57 hw)) (mvT hZ (hwd58 hw)) (notFace_of_selects (args := #[]) (mvT hZ (hwd60 hw))) (mvT hZ (hwd60 hw)) (mvT hZ (hwd59 hw)) (by decide) (backOfSH (W := 0) (EL := consts_1) (s := s) (vm0 := s.vm) (tx00 l Z a0 hw [] b7 ar_e11 f2_e16 cz sf h16 n0 sz19 p16_2 p16_4 p16_6 p16_7 O_C hcz O_S hsf old22) hZ (hwd61 hw) (hwd9 hw) (by decide) (by decide) (own_EL hw) CR24h.1) q21a q21c (g := (mkF m 88 #[.val (.int p1), .val (.int p2), .val (.int p3), .val (.int p4), .val (.int p5), .val (.ref lim_e1), .val (.int (own_draw p1)), .val (.int (own_draw p2)), .val (.int (own_draw p3)), .val (.int (own_draw p4)), .val (.ref b7), .val (.long (0 : Int64)), .second, .val (.int (1 : Int32)), .unset, .unset, .unset, .unset, .unset, .unset] [(.ref b7)])) rfl (by rw [hml]; rfl) (Steps.refl _) (argsL := []) (rest := []) (lenOf pd_23 rfl) rfl (by show 2 * 0 + _ ≤ _; exact Nat.le_of_eq rfl) (hb hby at_88) (fun _ _ => ⟨rfl, e20q, (by decide : 2 + 3 ≤ _), (by decide : 69 + 8 ≤ _)⟩)
  dsimp only [Pt.U, Pt.locs, Pt.cells, Pt.slots] at X21q l21 y21 z21 st21 hQ21 hS21q hg21q CR21q
  subst l21 y21 z21
  obtain ⟨X21, hS21, hZ21, hown21⟩ := rebS hS0 (by rw [show T20.heap = h16 from e20q]; exact hk25) X21q hS21q hg21q hZ hown
  have hk21 : T21.heap.size ≤ T21.heap.size := Nat.le_refl _
  have CR21 := CR24h.trans CR21q
  obtain ⟨so_e21, b_e21, kb_e21, rfl, N21q, K21, p21_1, p21_2, p21_3, p21_4⟩ := hQ21
  have N21 := Fr.app N20 N21q
  have f26_E_b7 := (p16_1.keep K21)
  have f27_A_ar_e11 := (p16_7.keep K21 nin0)
  have sz29 : n0 ≤ T21.heap.size := (Nat.le_trans sz19 K21.1)
  obtain ⟨cq28, kq28, q28a, q28b, q28c⟩ := isOf hZ21 rfl p21_1
  obtain ⟨_, _, ⟨T28, L28, k28, n28⟩, -, X28, ⟨Lc28, hQ28, l28, y28, z28⟩, st28⟩ := X21.virtualBack hx (y := my23) (z := my23) hown21 (mvT hZ21 (hwd96 hw)) (mvT hZ21 (hwd97 hw)) (notFace_of_selects (args := #[]) (mvT hZ21 (hwd99 hw))) (mvT hZ21 (hwd99 hw)) (mvT hZ21 (hwd98 hw)) (by decide) (backOf (W := 0) (sem l Z a0 hw [] so_e21 b_e21 kb_e21 (T21.heap) n0 sz29 p21_2 p21_4) hZ21 (hwd100 hw) (hwd64 hw) (by decide) (by decide)) q28a q28c (g := (mkF m 107 #[.val (.int p1), .val (.int p2), .val (.int p3), .val (.int p4), .val (.int p5), .val (.ref lim_e1), .val (.int (own_draw p1)), .val (.int (own_draw p2)), .val (.int (own_draw p3)), .val (.int (own_draw p4)), .val (.ref b7), .val (.long (0 : Int64)), .second, .val (.int (1 : Int32)), .val (.ref so_e21), .unset, .unset, .unset, .unset, .unset] [(.ref so_e21)])) rfl (by rw [hml]; rfl) (Steps.refl _) (argsL := []) (rest := []) (lenOf pd_16 rfl) rfl (by show 2 * 0 + _ ≤ _; exact Nat.le_of_eq rfl) (hb hby at_107) (fun _ _ => ⟨rfl, rfl, (by decide : 5 + 0 ≤ _), (by decide : 77 + 0 ≤ _)⟩)
  dsimp only [Pt.U, Pt.locs, Pt.cells, Pt.slots] at X28 l28 y28 z28 st28 hQ28
  subst l28 y28 z28
  obtain ⟨rfl, N28q, e28q⟩ := hQ28
  have N28 := Fr.app N21 N28q
  have f31_F_b7_kept := (p16_2.keep K21 nin0)
  have f32_F_b7_keptChars := (p16_3.keep K21 nin0)
  have f33_F_b7_keptLength := (p16_4.keep K21 nin0)
  have f34_F_b7_length := (p16_5.keep K21 nin0)
  have f35_F_b7_valueLength := (p16_6.keep K21 nin0)
  obtain ⟨cq30, kq30, q30a, q30b, q30c⟩ := isOf hZ21 e28q f26_E_b7
  obtain ⟨_, _, ⟨T30, L30, k30, n30⟩, -, X30, ⟨Lc30, hQ30, l30, y30, z30⟩, st30⟩ := X28.virtualBack hx (y := my7) (z := my7) hown21 (mvT hZ21 (hwd28 hw)) (mvT hZ21 (hwd29 hw)) (notFace_of_selects (args := #[]) (mvT hZ21 (hwd31 hw))) (mvT hZ21 (hwd31 hw)) (mvT hZ21 (hwd30 hw)) (by decide) (backOf (W := 0) (tk0b l Z a0 hw [] b7 ar_e11 (own_draw p3) kc_e1 f2_e16 (T21.heap) n0 sz29 f26_E_b7 f31_F_b7_kept f32_F_b7_keptChars f33_F_b7_keptLength f34_F_b7_length f35_F_b7_valueLength f27_A_ar_e11 g_b7 g_ar_11 ne_a_ar_11 (own_dl p3) hb3 hkc_1) hZ21 (hwd32 hw) (hwd9 hw) (by decide) (by decide)) q30a q30c (g := (mkF m 119 #[.val (.int p1), .val (.int p2), .val (.int p3), .val (.int p4), .val (.int p5), .val (.ref lim_e1), .val (.int (own_draw p1)), .val (.int (own_draw p2)), .val (.int (own_draw p3)), .val (.int (own_draw p4)), .val (.ref b7), .val (.long (0 : Int64)), .second, .val (.int (1 : Int32)), .val (.ref so_e21), .unset, .unset, .unset, .unset, .unset] [(.int (own_draw p3)), (.ref b7)])) rfl (by rw [hml]; rfl) (Steps.refl _) (argsL := [(.int (own_draw p3))]) (rest := []) (lenOf pd_18 rfl) rfl (by show 2 * 0 + _ ≤ _; exact Nat.le_of_eq rfl) (hb hby at_119) (fun _ _ => ⟨rfl, e28q, (by decide : 5 + 0 ≤ _), (by decide : 77 + 0 ≤ _)⟩)
  dsimp only [Pt.U, Pt.locs, Pt.cells, Pt.slots] at X30 l30 y30 z30 st30 hQ30
  subst l30 y30 z30
  obtain ⟨rfl, N30q, e30q⟩ := hQ30
  have N30 := Fr.app N28 N30q
  obtain ⟨cq36, kq36, q36a, q36b, q36c⟩ := isOf hZ21 e30q f26_E_b7
  obtain ⟨_, _, ⟨T36, L36, k36, n36⟩, -, X36, ⟨Lc36, hQ36, l36, y36, z36⟩, st36⟩ := X30.virtualBack hx (y := my7) (z := my7) hown21 (mvT hZ21 (hwd28 hw)) (mvT hZ21 (hwd29 hw)) (notFace_of_selects (args := #[]) (mvT hZ21 (hwd31 hw))) (mvT hZ21 (hwd31 hw)) (mvT hZ21 (hwd30 hw)) (by decide) (backOf (W := 0) (tk0n l Z a0 hw [] b7 ar_e11 (own_draw p4) kc_e1 f2_e16 (T21.heap) n0 sz29 f26_E_b7 f31_F_b7_kept f32_F_b7_keptChars f33_F_b7_keptLength f34_F_b7_length f35_F_b7_valueLength f27_A_ar_e11 g_b7 g_ar_11 ne_a_ar_11 (own_dl p4) hb4 hkc_1) hZ21 (hwd32 hw) (hwd9 hw) (by decide) (by decide)) q36a q36c (g := (mkF m 126 #[.val (.int p1), .val (.int p2), .val (.int p3), .val (.int p4), .val (.int p5), .val (.ref lim_e1), .val (.int (own_draw p1)), .val (.int (own_draw p2)), .val (.int (own_draw p3)), .val (.int (own_draw p4)), .val (.ref b7), .val (.long (0 : Int64)), .second, .val (.int (1 : Int32)), .val (.ref so_e21), .unset, .unset, .unset, .unset, .unset] [(.int (own_draw p4)), (.ref b7)])) rfl (by rw [hml]; rfl) (Steps.refl _) (argsL := [(.int (own_draw p4))]) (rest := []) (lenOf pd_18 rfl) rfl (by show 2 * 0 + _ ≤ _; exact Nat.le_of_eq rfl) (hb hby at_126) (fun _ _ => ⟨rfl, e30q, (by decide : 5 + 0 ≤ _), (by decide : 77 + 0 ≤ _)⟩)
  dsimp only [Pt.U, Pt.locs, Pt.cells, Pt.slots] at X36 l36 y36 z36 st36 hQ36
  subst l36 y36 z36
  obtain ⟨rfl, N36q, K36, p36_1, p36_2, p36_3, p36_4, p36_5, p36_6, p36_7⟩ := hQ36
  have N36 := Fr.app N30 N36q
  have old38 : Old Z n0 T36.heap := ((old22.keep K21 all0).keep K36 (allS g_b7 (allS g_ar_11 all0)))
  have sz39 : n0 ≤ T36.heap.size := (Nat.le_trans sz29 K36.1)
  obtain ⟨cq37, kq37, q37a, q37b, q37c⟩ := isOf hZ21 rfl p36_1
  obtain ⟨_, _, ⟨T37, L37, k37, n37⟩, -, X37, ⟨Lc37, hQ37, l37, y37, z37⟩, st37⟩ := X36.virtualBack hx (y := my20) (z := my20) hown21 (mvT hZ21 (hwd57 hw)) (mvT hZ21 (hwd58 hw)) (notFace_of_selects (args := #[]) (mvT hZ21 (hwd60 hw))) (mvT hZ21 (hwd60 hw)) (mvT hZ21 (hwd59 hw)) (by decide) (backOf (W := 0) (tx11 l Z a0 hw [] b7 ar_e11 (fun jj_ => if jj_ = 0 then (.int (own_draw p4)) else f2_e16 jj_) cz sf (own_draw p4) (T36.heap) n0 sz39 p36_2 p36_4 p36_6 p36_7 rfl (own_dl p4) O_C hcz O_S hsf old38) hZ21 (hwd61 hw) (hwd9 hw) (by decide) (by decide)) q37a q37c (g := (mkF m 131 #[.val (.int p1), .val (.int p2), .val (.int p3), .val (.int p4), .val (.int p5), .val (.ref lim_e1), .val (.int (own_draw p1)), .val (.int (own_draw p2)), .val (.int (own_draw p3)), .val (.int (own_draw p4)), .val (.ref b7), .val (.long (0 : Int64)), .second, .val (.int (1 : Int32)), .val (.ref so_e21), .unset, .unset, .unset, .unset, .unset] [(.ref b7)])) rfl (by rw [hml]; rfl) (Steps.refl _) (argsL := []) (rest := []) (lenOf pd_23 rfl) rfl (by show 2 * 0 + _ ≤ _; exact Nat.le_of_eq rfl) (hb hby at_131) (fun _ _ => ⟨rfl, rfl, (by decide : 5 + 2 ≤ _), (by decide : 77 + 5 ≤ _)⟩)
  dsimp only [Pt.U, Pt.locs, Pt.cells, Pt.slots] at X37 l37 y37 z37 st37 hQ37
  subst l37 y37 z37
  obtain ⟨so_e37, b_e37, kb_e37, rfl, N37q, K37, p37_1, p37_2, p37_3, p37_4⟩ := hQ37
  have N37 := Fr.app N36 N37q
  have f41_F_b7_valueLength := (p36_6.keep K37 nin0)
  have sz42 : n0 ≤ T37.heap.size := (Nat.le_trans sz39 K37.1)
  have f43_E_b7 := (p36_1.keep K37)
  obtain ⟨cq40, kq40, q40a, q40b, q40c⟩ := isOf hZ21 rfl f43_E_b7
  obtain ⟨_, _, ⟨T40, L40, k40, n40⟩, -, X40, ⟨Lc40, hQ40, l40, y40, z40⟩, st40⟩ := X37.virtualBack hx (y := my9) (z := my9) hown21 (mvT hZ21 (hwd47 hw)) (mvT hZ21 (hwd48 hw)) (notFace_of_selects (args := #[]) (mvT hZ21 (hwd50 hw))) (mvT hZ21 (hwd50 hw)) (mvT hZ21 (hwd49 hw)) (by decide) (backOf (W := 0) (len l Z a0 hw [] b7 (1 : Int64) (T37.heap) n0 sz42 f41_F_b7_valueLength) hZ21 (hwd51 hw) (hwd9 hw) (by decide) (by decide)) q40a q40c (g := (mkF m 138 #[.val (.int p1), .val (.int p2), .val (.int p3), .val (.int p4), .val (.int p5), .val (.ref lim_e1), .val (.int (own_draw p1)), .val (.int (own_draw p2)), .val (.int (own_draw p3)), .val (.int (own_draw p4)), .val (.ref b7), .val (.long (0 : Int64)), .second, .val (.int (1 : Int32)), .val (.ref so_e21), .val (.ref so_e37), .unset, .unset, .unset, .unset] [(.ref b7)])) rfl (by rw [hml]; rfl) (Steps.refl _) (argsL := []) (rest := []) (lenOf pd_22 rfl) rfl (by show 2 * 0 + _ ≤ _; exact Nat.le_of_eq rfl) (hb hby at_138) (fun _ _ => ⟨rfl, rfl, (by decide : 7 + 0 ≤ _), (by decide : 82 + 0 ≤ _)⟩)
  dsimp only [Pt.U, Pt.locs, Pt.cells, Pt.slots] at X40 l40 y40 z40 st40 hQ40
  subst l40 y40 z40
  obtain ⟨rfl, N40q, e40q⟩ := hQ40
  have N40 := Fr.app N37 N40q
  obtain ⟨_, _, ⟨T44, L44, k44, n44⟩, -, X44, ⟨Lc44, hQ44, l44, y44, z44⟩, st44⟩ := Jvm.LawKit.callS X40 hx (y := my2) hown21 (mvT hZ21 (hwd101 hw)) (mvT hZ21 (hwd102 hw)) (mvT hZ21 (hwd5 hw)) (mvT hZ21 (hwd103 hw)) (by decide) (backOf (W := 0) (bla l Z a0 hw [] (own_draw p3) (T37.heap) n0 sz42 ) hZ21 (hwd103 hw) (hwd5 hw) (by decide) (by decide)) (g := (mkF m 145 #[.val (.int p1), .val (.int p2), .val (.int p3), .val (.int p4), .val (.int p5), .val (.ref lim_e1), .val (.int (own_draw p1)), .val (.int (own_draw p2)), .val (.int (own_draw p3)), .val (.int (own_draw p4)), .val (.ref b7), .val (.long (0 : Int64)), .second, .val (.int (1 : Int32)), .val (.ref so_e21), .val (.ref so_e37), .val (.long (1 : Int64)), .second, .unset, .unset] [(.int (own_draw p3))])) rfl (by rw [hml]; rfl) (argsL := [(.int (own_draw p3))]) (rest := []) (lenOf pd_2 rfl) rfl (by show 2 * 0 + _ ≤ _; exact Nat.le_of_eq rfl) (hb hby at_145) (fun _ _ => ⟨rfl, e40q, (by decide : 7 + 0 ≤ _), (by decide : 82 + 0 ≤ _)⟩)
  dsimp only [Pt.U, Pt.locs, Pt.cells, Pt.slots] at X44 l44 y44 z44 st44 hQ44
  subst l44 y44 z44
  obtain ⟨rfl, N44q, e44q⟩ := hQ44
  have N44 := Fr.app N40 N44q
  obtain ⟨_, _, ⟨T45, L45, k45, n45⟩, -, X45, ⟨Lc45, hQ45, l45, y45, z45⟩, st45⟩ := Jvm.LawKit.callS X44 hx (y := my2) hown21 (mvT hZ21 (hwd101 hw)) (mvT hZ21 (hwd102 hw)) (mvT hZ21 (hwd5 hw)) (mvT hZ21 (hwd103 hw)) (by decide) (backOf (W := 0) (bla l Z a0 hw [] (own_draw p4) (T37.heap) n0 sz42 ) hZ21 (hwd103 hw) (hwd5 hw) (by decide) (by decide)) (g := (mkF m 152 #[.val (.int p1), .val (.int p2), .val (.int p3), .val (.int p4), .val (.int p5), .val (.ref lim_e1), .val (.int (own_draw p1)), .val (.int (own_draw p2)), .val (.int (own_draw p3)), .val (.int (own_draw p4)), .val (.ref b7), .val (.long (0 : Int64)), .second, .val (.int (1 : Int32)), .val (.ref so_e21), .val (.ref so_e37), .val (.long (1 : Int64)), .second, .val (.int (own_bl (own_draw p3))), .unset] [(.int (own_draw p4))])) rfl (by rw [hml]; rfl) (argsL := [(.int (own_draw p4))]) (rest := []) (lenOf pd_2 rfl) rfl (by show 2 * 0 + _ ≤ _; exact Nat.le_of_eq rfl) (hb hby at_152) (fun _ _ => ⟨rfl, e44q, (by decide : 7 + 0 ≤ _), (by decide : 82 + 0 ≤ _)⟩)
  dsimp only [Pt.U, Pt.locs, Pt.cells, Pt.slots] at X45 l45 y45 z45 st45 hQ45
  subst l45 y45 z45
  obtain ⟨rfl, N45q, e45q⟩ := hQ45
  have N45 := Fr.app N44 N45q
  have old47 : Old Z n0 T37.heap := (old38.keep K37 all0)
  obtain ⟨cq46, kq46, q46a, q46b, q46c⟩ := isOf hZ21 e45q p37_1
  obtain ⟨_, _, ⟨T46, L46, k46, n46⟩, -, X46, ⟨Lc46, hQ46, l46, y46, z46⟩, st46⟩ := X45.virtualBack hx (y := my24) (z := my24) hown21 (mvT hZ21 (hwd124 hw)) (mvT hZ21 (hwd125 hw)) (notFace_of_selects (args := #[]) (mvT hZ21 (hwd127 hw))) (mvT hZ21 (hwd127 hw)) (mvT hZ21 (hwd126 hw)) (by decide) (backOf (W := 0) (sle1 l Z a0 hw [] so_e37 b_e37 kb_e37 cz (own_draw p4) (T37.heap) n0 sz42 p37_1 p37_2 p37_3 p37_4 O_C hcz old47) hZ21 (hwd128 hw) (hwd64 hw) (by decide) (by decide)) q46a q46c (g := (mkF m 265 #[.val (.int p1), .val (.int p2), .val (.int p3), .val (.int p4), .val (.int p5), .val (.ref lim_e1), .val (.int (own_draw p1)), .val (.int (own_draw p2)), .val (.int (own_draw p3)), .val (.int (own_draw p4)), .val (.ref b7), .val (.long (0 : Int64)), .second, .val (.int (1 : Int32)), .val (.ref so_e21), .val (.ref so_e37), .val (.long (1 : Int64)), .second, .val (.int (own_bl (own_draw p3))), .val (.int (own_bl (own_draw p4)))] [(.ref so_e37)])) rfl (by rw [hml]; rfl) (Steps.refl _) (argsL := []) (rest := []) (lenOf pd_0 rfl) rfl (by show 2 * 0 + _ ≤ _; exact Nat.le_of_eq rfl) (hb hby at_265) (fun _ _ => ⟨rfl, e45q, (by decide : 7 + 0 ≤ _), (by decide : 82 + 0 ≤ _)⟩)
  dsimp only [Pt.U, Pt.locs, Pt.cells, Pt.slots] at X46 l46 y46 z46 st46 hQ46
  subst l46 y46 z46
  obtain ⟨rfl, N46q, e46q⟩ := hQ46
  have N46 := Fr.app N45 N46q
  obtain ⟨cq48, kq48, q48a, q48b, q48c⟩ := isOf hZ21 e46q p37_1
  obtain ⟨_, _, ⟨T48, L48, k48, n48⟩, -, X48, ⟨Lc48, hQ48, l48, y48, z48⟩, st48⟩ := X46.virtualBack hx (y := my28) (z := my28) hown21 (mvT hZ21 (hwd134 hw)) (mvT hZ21 (hwd135 hw)) (notFace_of_selects (args := #[]) (mvT hZ21 (hwd137 hw))) (mvT hZ21 (hwd137 hw)) (mvT hZ21 (hwd136 hw)) (by decide) (backOf (W := 0) (sca01 l Z a0 hw [] so_e37 b_e37 kb_e37 cz sf (own_draw p4) (T37.heap) n0 sz42 p37_1 p37_2 p37_3 p37_4 (own_dl p4) O_C hcz old47 O_S hsf) hZ21 (hwd138 hw) (hwd64 hw) (by decide) (by decide)) q48a q48c (g := (mkF m 275 #[.val (.int p1), .val (.int p2), .val (.int p3), .val (.int p4), .val (.int p5), .val (.ref lim_e1), .val (.int (own_draw p1)), .val (.int (own_draw p2)), .val (.int (own_draw p3)), .val (.int (own_draw p4)), .val (.ref b7), .val (.long (0 : Int64)), .second, .val (.int (1 : Int32)), .val (.ref so_e21), .val (.ref so_e37), .val (.long (1 : Int64)), .second, .val (.int (own_bl (own_draw p3))), .val (.int (own_bl (own_draw p4)))] [(.int (0 : Int32)), (.ref so_e37)])) rfl (by rw [hml]; rfl) (Steps.refl _) (argsL := [(.int (0 : Int32))]) (rest := []) (lenOf pd_20 rfl) rfl (by show 2 * 0 + _ ≤ _; exact Nat.le_of_eq rfl) (hb hby at_275) (fun _ _ => ⟨rfl, e46q, (by decide : 7 + 0 ≤ _), (by decide : 82 + 0 ≤ _)⟩)
  dsimp only [Pt.U, Pt.locs, Pt.cells, Pt.slots] at X48 l48 y48 z48 st48 hQ48
  subst l48 y48 z48
  obtain ⟨rfl, N48q, e48q⟩ := hQ48
  have N48 := Fr.app N46 N48q
  have CR49h : CHr Z consts_1 s.vm h0 T21.vm T37.heap := CR21.trans (CHr.keep (((Keep.refl T21.heap [b7, ar_e11]).trans K36 (allS (Or.inl (List.mem_of_getElem? (i := 0) rfl)) (allS (Or.inl (List.mem_of_getElem? (i := 1) rfl)) all0))).trans K37 all0) (sfS (Safe.exa hZ21.alike f26_E_b7 (by decide) (by decide)) (sfS (own_safeA hZ21.alike f27_A_ar_e11 (by decide)) sf0)) CR21.1)
  have hk50 : _ ≤ T37.heap.size := (Nat.le_trans (Nat.le_trans hk21 K36.1) K37.1)
  have hkE := Nat.le_trans hk50 (Nat.le_of_eq (congrArg Array.size (show T37.heap = T48.heap from Eq.symm e48q)))
  obtain ⟨fs, hr, hrun, hended, hRE⟩ := X48.leaveW hS21 hkE (v := some (.int (1 : Int32))) (fun h => by rw [Bd.returns] at h; cases h)
  refine ⟨_, _, pre0 _ ?_, hrun, hended, _, _, rfl, ?_, ?_, hRE.1, hRE.2.1, hRE.2.2.1, hRE.2.2.2.mono (by decide) (by decide)⟩
  · show Steps p.tables e below (s₁.setTop (mkF m 0 #[.val (.int p1), .val (.int p2), .val (.int p3), .val (.int p4), .val (.int p5), .unset, .unset, .unset, .unset, .unset, .unset, .unset, .unset, .unset, .unset, .unset, .unset, .unset, .unset, .unset] [])) _
    refine st1 _ ?_
    refine XS.astore X1.here hx rfl (hb hby at_16) rfl rfl (l' := #[.val (.int p1), .val (.int p2), .val (.int p3), .val (.int p4), .val (.int p5), .val (.ref lim_e1), .unset, .unset, .unset, .unset, .unset, .unset, .unset, .unset, .unset, .unset, .unset, .unset, .unset, .unset]) rfl ?_
    refine XS.iloadN X1.here hx rfl (hb hby at_18) rfl ?_
    refine st2 _ ?_
    refine XS.istore X2.here hx rfl (hb hby at_22) rfl (l' := #[.val (.int p1), .val (.int p2), .val (.int p3), .val (.int p4), .val (.int p5), .val (.ref lim_e1), .val (.int (own_draw p1)), .unset, .unset, .unset, .unset, .unset, .unset, .unset, .unset, .unset, .unset, .unset, .unset, .unset]) rfl ?_
    refine XS.iloadN X2.here hx rfl (hb hby at_24) rfl ?_
    show Steps p.tables e below (T2.setTop (mkF m 25 #[.val (.int p1), .val (.int p2), .val (.int p3), .val (.int p4), .val (.int p5), .val (.ref lim_e1), .val (.int (own_draw p1)), .unset, .unset, .unset, .unset, .unset, .unset, .unset, .unset, .unset, .unset, .unset, .unset, .unset] [(.int p2)])) _
    refine st4 _ ?_
    refine XS.istore X4.here hx rfl (hb hby at_28) rfl (l' := #[.val (.int p1), .val (.int p2), .val (.int p3), .val (.int p4), .val (.int p5), .val (.ref lim_e1), .val (.int (own_draw p1)), .val (.int (own_draw p2)), .unset, .unset, .unset, .unset, .unset, .unset, .unset, .unset, .unset, .unset, .unset, .unset]) rfl ?_
    refine XS.iloadN X4.here hx rfl (hb hby at_30) rfl ?_
    refine st5 _ ?_
    refine XS.istore X5.here hx rfl (hb hby at_34) rfl (l' := #[.val (.int p1), .val (.int p2), .val (.int p3), .val (.int p4), .val (.int p5), .val (.ref lim_e1), .val (.int (own_draw p1)), .val (.int (own_draw p2)), .val (.int (own_draw p3)), .unset, .unset, .unset, .unset, .unset, .unset, .unset, .unset, .unset, .unset, .unset]) rfl ?_
    refine XS.iloadN X5.here hx rfl (hb hby at_36) rfl ?_
    show Steps p.tables e below (T5.setTop (mkF m 37 #[.val (.int p1), .val (.int p2), .val (.int p3), .val (.int p4), .val (.int p5), .val (.ref lim_e1), .val (.int (own_draw p1)), .val (.int (own_draw p2)), .val (.int (own_draw p3)), .unset, .unset, .unset, .unset, .unset, .unset, .unset, .unset, .unset, .unset, .unset] [(.int p4)])) _
    refine st6 _ ?_
    refine XS.istore X6.here hx rfl (hb hby at_40) rfl (l' := #[.val (.int p1), .val (.int p2), .val (.int p3), .val (.int p4), .val (.int p5), .val (.ref lim_e1), .val (.int (own_draw p1)), .val (.int (own_draw p2)), .val (.int (own_draw p3)), .val (.int (own_draw p4)), .unset, .unset, .unset, .unset, .unset, .unset, .unset, .unset, .unset, .unset]) rfl ?_
    refine st7 _ ?_
    refine XS.dup X7.here hx rfl (hb hby at_45) rfl rfl ?_
    refine XS.aload X7.here hx rfl (hb hby at_46) rfl rfl ?_
    refine st11.trans ?_
    show Steps p.tables e below (T11.setTop (mkF m 51 #[.val (.int p1), .val (.int p2), .val (.int p3), .val (.int p4), .val (.int p5), .val (.ref lim_e1), .val (.int (own_draw p1)), .val (.int (own_draw p2)), .val (.int (own_draw p3)), .val (.int (own_draw p4)), .unset, .unset, .unset, .unset, .unset, .unset, .unset, .unset, .unset, .unset] [(.ref b7)])) _
    refine XS.astore X11.here hx rfl (hb hby at_51) rfl rfl (l' := #[.val (.int p1), .val (.int p2), .val (.int p3), .val (.int p4), .val (.int p5), .val (.ref lim_e1), .val (.int (own_draw p1)), .val (.int (own_draw p2)), .val (.int (own_draw p3)), .val (.int (own_draw p4)), .val (.ref b7), .unset, .unset, .unset, .unset, .unset, .unset, .unset, .unset, .unset]) rfl ?_
    show Steps p.tables e below (T11.setTop (mkF m 53 #[.val (.int p1), .val (.int p2), .val (.int p3), .val (.int p4), .val (.int p5), .val (.ref lim_e1), .val (.int (own_draw p1)), .val (.int (own_draw p2)), .val (.int (own_draw p3)), .val (.int (own_draw p4)), .val (.ref b7), .unset, .unset, .unset, .unset, .unset, .unset, .unset, .unset, .unset] [])) _
    refine st16 _ ?_
    refine XS.aload X16.here hx rfl (hb hby at_72) rfl rfl ?_
    refine st18.trans ?_
    refine XS.lstore X18.here hx rfl (hb hby at_77) rfl (l' := #[.val (.int p1), .val (.int p2), .val (.int p3), .val (.int p4), .val (.int p5), .val (.ref lim_e1), .val (.int (own_draw p1)), .val (.int (own_draw p2)), .val (.int (own_draw p3)), .val (.int (own_draw p4)), .val (.ref b7), .val (.long (0 : Int64)), .second, .unset, .unset, .unset, .unset, .unset, .unset, .unset]) rfl ?_
    refine XS.aload X18.here hx rfl (hb hby at_79) rfl rfl ?_
    refine st20.trans ?_
    show Steps p.tables e below (T20.setTop (mkF m 84 #[.val (.int p1), .val (.int p2), .val (.int p3), .val (.int p4), .val (.int p5), .val (.ref lim_e1), .val (.int (own_draw p1)), .val (.int (own_draw p2)), .val (.int (own_draw p3)), .val (.int (own_draw p4)), .val (.ref b7), .val (.long (0 : Int64)), .second, .unset, .unset, .unset, .unset, .unset, .unset, .unset] [(.int (1 : Int32))])) _
    refine XS.istore X20.here hx rfl (hb hby at_84) rfl (l' := #[.val (.int p1), .val (.int p2), .val (.int p3), .val (.int p4), .val (.int p5), .val (.ref lim_e1), .val (.int (own_draw p1)), .val (.int (own_draw p2)), .val (.int (own_draw p3)), .val (.int (own_draw p4)), .val (.ref b7), .val (.long (0 : Int64)), .second, .val (.int (1 : Int32)), .unset, .unset, .unset, .unset, .unset, .unset]) rfl ?_
    refine XS.aload X20.here hx rfl (hb hby at_86) rfl rfl ?_
    refine st21.trans ?_
    refine XS.astore X21.here hx rfl (hb hby at_91) rfl rfl (l' := #[.val (.int p1), .val (.int p2), .val (.int p3), .val (.int p4), .val (.int p5), .val (.ref lim_e1), .val (.int (own_draw p1)), .val (.int (own_draw p2)), .val (.int (own_draw p3)), .val (.int (own_draw p4)), .val (.ref b7), .val (.long (0 : Int64)), .second, .val (.int (1 : Int32)), .val (.ref so_e21), .unset, .unset, .unset, .unset, .unset]) rfl ?_
    refine XS.lload X21.here hx rfl (hb hby at_93) rfl ?_
    refine XS.lconst X21.here hx rfl (hb hby at_95) ?_
    show Steps p.tables e below (T21.setTop (mkF m 96 #[.val (.int p1), .val (.int p2), .val (.int p3), .val (.int p4), .val (.int p5), .val (.ref lim_e1), .val (.int (own_draw p1)), .val (.int (own_draw p2)), .val (.int (own_draw p3)), .val (.int (own_draw p4)), .val (.ref b7), .val (.long (0 : Int64)), .second, .val (.int (1 : Int32)), .val (.ref so_e21), .unset, .unset, .unset, .unset, .unset] [(.long (0 : Int64)), (.long (0 : Int64))])) _
    refine XS.lcmp X21.here hx rfl (hb hby at_96) rfl ?_
    refine XS.ifNo X21.here hx rfl (hb hby at_97) rfl ((if0 _ _).trans (teq (show (lcmpW (0 : Int64) (0 : Int64)) = (0 : Int32) from (by decide))).2) ?_
    refine XS.iload X21.here hx rfl (hb hby at_100) rfl ?_
    refine XS.ifNo X21.here hx rfl (hb hby at_102) rfl ((if0 _ _).trans (feq (show ¬ ((1 : Int32) = (0 : Int32)) from (by decide))).1) ?_
    refine XS.aload X21.here hx rfl (hb hby at_105) rfl rfl ?_
    refine st28.trans ?_
    show Steps p.tables e below (T28.setTop (mkF m 110 #[.val (.int p1), .val (.int p2), .val (.int p3), .val (.int p4), .val (.int p5), .val (.ref lim_e1), .val (.int (own_draw p1)), .val (.int (own_draw p2)), .val (.int (own_draw p3)), .val (.int (own_draw p4)), .val (.ref b7), .val (.long (0 : Int64)), .second, .val (.int (1 : Int32)), .val (.ref so_e21), .unset, .unset, .unset, .unset, .unset] [(.int (1 : Int32))])) _
    refine XS.ifYes X28.here hx rfl (pc0 := 110) (pc' := 115) rfl (hb hby at_110) rfl ((if0 _ _).trans (feq (show ¬ ((1 : Int32) = (0 : Int32)) from (by decide))).2) (by decide) (by decide) ?_
    refine XS.aload X28.here hx rfl (hb hby at_115) rfl rfl ?_
    refine XS.iload X28.here hx rfl (hb hby at_117) rfl ?_
    refine st30.trans ?_
    refine XS.aload X30.here hx rfl (hb hby at_122) rfl rfl ?_
    refine XS.iload X30.here hx rfl (hb hby at_124) rfl ?_
    show Steps p.tables e below (T30.setTop (mkF m 126 #[.val (.int p1), .val (.int p2), .val (.int p3), .val (.int p4), .val (.int p5), .val (.ref lim_e1), .val (.int (own_draw p1)), .val (.int (own_draw p2)), .val (.int (own_draw p3)), .val (.int (own_draw p4)), .val (.ref b7), .val (.long (0 : Int64)), .second, .val (.int (1 : Int32)), .val (.ref so_e21), .unset, .unset, .unset, .unset, .unset] [(.int (own_draw p4)), (.ref b7)])) _
    refine st36.trans ?_
    refine XS.aload X36.here hx rfl (hb hby at_129) rfl rfl ?_
    refine st37.trans ?_
    refine XS.astore X37.here hx rfl (hb hby at_134) rfl rfl (l' := #[.val (.int p1), .val (.int p2), .val (.int p3), .val (.int p4), .val (.int p5), .val (.ref lim_e1), .val (.int (own_draw p1)), .val (.int (own_draw p2)), .val (.int (own_draw p3)), .val (.int (own_draw p4)), .val (.ref b7), .val (.long (0 : Int64)), .second, .val (.int (1 : Int32)), .val (.ref so_e21), .val (.ref so_e37), .unset, .unset, .unset, .unset]) rfl ?_
    refine XS.aload X37.here hx rfl (hb hby at_136) rfl rfl ?_
    refine st40.trans ?_
    show Steps p.tables e below (T40.setTop (mkF m 141 #[.val (.int p1), .val (.int p2), .val (.int p3), .val (.int p4), .val (.int p5), .val (.ref lim_e1), .val (.int (own_draw p1)), .val (.int (own_draw p2)), .val (.int (own_draw p3)), .val (.int (own_draw p4)), .val (.ref b7), .val (.long (0 : Int64)), .second, .val (.int (1 : Int32)), .val (.ref so_e21), .val (.ref so_e37), .unset, .unset, .unset, .unset] [(.long (1 : Int64))])) _
    refine XS.lstore X40.here hx rfl (hb hby at_141) rfl (l' := #[.val (.int p1), .val (.int p2), .val (.int p3), .val (.int p4), .val (.int p5), .val (.ref lim_e1), .val (.int (own_draw p1)), .val (.int (own_draw p2)), .val (.int (own_draw p3)), .val (.int (own_draw p4)), .val (.ref b7), .val (.long (0 : Int64)), .second, .val (.int (1 : Int32)), .val (.ref so_e21), .val (.ref so_e37), .val (.long (1 : Int64)), .second, .unset, .unset]) rfl ?_
    refine XS.iload X40.here hx rfl (hb hby at_143) rfl ?_
    refine st44 _ ?_
    refine XS.istore X44.here hx rfl (hb hby at_148) rfl (l' := #[.val (.int p1), .val (.int p2), .val (.int p3), .val (.int p4), .val (.int p5), .val (.ref lim_e1), .val (.int (own_draw p1)), .val (.int (own_draw p2)), .val (.int (own_draw p3)), .val (.int (own_draw p4)), .val (.ref b7), .val (.long (0 : Int64)), .second, .val (.int (1 : Int32)), .val (.ref so_e21), .val (.ref so_e37), .val (.long (1 : Int64)), .second, .val (.int (own_bl (own_draw p3))), .unset]) rfl ?_
    refine XS.iload X44.here hx rfl (hb hby at_150) rfl ?_
    refine st45 _ ?_
    show Steps p.tables e below (T45.setTop (mkF m 155 #[.val (.int p1), .val (.int p2), .val (.int p3), .val (.int p4), .val (.int p5), .val (.ref lim_e1), .val (.int (own_draw p1)), .val (.int (own_draw p2)), .val (.int (own_draw p3)), .val (.int (own_draw p4)), .val (.ref b7), .val (.long (0 : Int64)), .second, .val (.int (1 : Int32)), .val (.ref so_e21), .val (.ref so_e37), .val (.long (1 : Int64)), .second, .val (.int (own_bl (own_draw p3))), .unset] [(.int (own_bl (own_draw p4)))])) _
    refine XS.istore X45.here hx rfl (hb hby at_155) rfl (l' := #[.val (.int p1), .val (.int p2), .val (.int p3), .val (.int p4), .val (.int p5), .val (.ref lim_e1), .val (.int (own_draw p1)), .val (.int (own_draw p2)), .val (.int (own_draw p3)), .val (.int (own_draw p4)), .val (.ref b7), .val (.long (0 : Int64)), .second, .val (.int (1 : Int32)), .val (.ref so_e21), .val (.ref so_e37), .val (.long (1 : Int64)), .second, .val (.int (own_bl (own_draw p3))), .val (.int (own_bl (own_draw p4)))]) rfl ?_
    refine XS.iload X45.here hx rfl (hb hby at_157) rfl ?_
    refine XS.ifYes X45.here hx rfl (pc0 := 159) (pc' := 213) rfl (hb hby at_159) rfl ((if0 _ _).trans (feq (show ¬ ((own_bl (own_draw p3)) = (0 : Int32)) from hb3)).2) (by decide) (by decide) ?_
    refine XS.iload X45.here hx rfl (hb hby at_213) rfl ?_
    refine XS.ifYes X45.here hx rfl (pc0 := 215) (pc' := 251) rfl (hb hby at_215) rfl ((if0 _ _).trans (feq (show ¬ ((own_bl (own_draw p3)) = (0 : Int32)) from hb3)).2) (by decide) (by decide) ?_
    refine XS.iload X45.here hx rfl (hb hby at_251) rfl ?_
    show Steps p.tables e below (T45.setTop (mkF m 253 #[.val (.int p1), .val (.int p2), .val (.int p3), .val (.int p4), .val (.int p5), .val (.ref lim_e1), .val (.int (own_draw p1)), .val (.int (own_draw p2)), .val (.int (own_draw p3)), .val (.int (own_draw p4)), .val (.ref b7), .val (.long (0 : Int64)), .second, .val (.int (1 : Int32)), .val (.ref so_e21), .val (.ref so_e37), .val (.long (1 : Int64)), .second, .val (.int (own_bl (own_draw p3))), .val (.int (own_bl (own_draw p4)))] [(.int (own_bl (own_draw p4)))])) _
    refine XS.ifNo X45.here hx rfl (hb hby at_253) rfl ((if0 _ _).trans (teq (show (own_bl (own_draw p4)) = (0 : Int32) from hb4)).2) ?_
    refine XS.lload X45.here hx rfl (hb hby at_256) rfl ?_
    refine XS.lconst X45.here hx rfl (hb hby at_258) ?_
    refine XS.lcmp X45.here hx rfl (hb hby at_259) rfl ?_
    refine XS.ifNo X45.here hx rfl (hb hby at_260) rfl ((if0 _ _).trans (teq (show (lcmpW (1 : Int64) (1 : Int64)) = (0 : Int32) from (by decide))).2) ?_
    refine XS.aload X45.here hx rfl (hb hby at_263) rfl rfl ?_
    show Steps p.tables e below (T45.setTop (mkF m 265 #[.val (.int p1), .val (.int p2), .val (.int p3), .val (.int p4), .val (.int p5), .val (.ref lim_e1), .val (.int (own_draw p1)), .val (.int (own_draw p2)), .val (.int (own_draw p3)), .val (.int (own_draw p4)), .val (.ref b7), .val (.long (0 : Int64)), .second, .val (.int (1 : Int32)), .val (.ref so_e21), .val (.ref so_e37), .val (.long (1 : Int64)), .second, .val (.int (own_bl (own_draw p3))), .val (.int (own_bl (own_draw p4)))] [(.ref so_e37)])) _
    refine st46.trans ?_
    refine XS.iconst X46.here hx rfl (hb hby at_268) ?_
    refine XS.icmpNo X46.here hx rfl (hb hby at_269) rfl (teq (show (1 : Int32) = (1 : Int32) from rfl)).2 ?_
    refine XS.aload X46.here hx rfl (hb hby at_272) rfl rfl ?_
    refine XS.iconst X46.here hx rfl (hb hby at_274) ?_
    refine st48.trans ?_
    show Steps p.tables e below (T48.setTop (mkF m 278 #[.val (.int p1), .val (.int p2), .val (.int p3), .val (.int p4), .val (.int p5), .val (.ref lim_e1), .val (.int (own_draw p1)), .val (.int (own_draw p2)), .val (.int (own_draw p3)), .val (.int (own_draw p4)), .val (.ref b7), .val (.long (0 : Int64)), .second, .val (.int (1 : Int32)), .val (.ref so_e21), .val (.ref so_e37), .val (.long (1 : Int64)), .second, .val (.int (own_bl (own_draw p3))), .val (.int (own_bl (own_draw p4)))] [(.int (own_draw p4))])) _
    refine XS.iload X48.here hx rfl (hb hby at_278) rfl ?_
    refine XS.icmpNo X48.here hx rfl (hb hby at_280) rfl (teq (show (own_draw p4) = (own_draw p4) from rfl)).2 ?_
    refine XS.iconst X48.here hx rfl (hb hby at_283) ?_
    refine XS.goto X48.here hx rfl (pc0 := 284) (pc' := 288) rfl (hb hby at_284) (by decide) (by decide) ?_
    exact retN X48 hx (t := .boolean) Bd.returns (by simp) (hb hby at_288) hr
  · show Qrm0 Z p1 p2 p3 p4 p5 vo lq cz sf h0 n0 _ T48.heap _
    rw [e48q]
    exact ⟨rfl, N48⟩
  · show CHr Z consts_1 s.vm s.heap T48.vm T48.heap
    rw [hh, e48q]
    exact CR49h.trans (CHv.at X48 hZ21 (own_EL hw) CR49h.1)
set_option maxRecDepth 65536 in
set_option maxHeartbeats 40000000 in
theorem law_01 (l : Launch) (Z : State) (a0 : Array Value) (hw : ∀ d ∈ tables_1, d.before a0 Z = true) (ws : List Jvm.Cond) (p1 : Int32) (p2 : Int32) (p3 : Int32) (p4 : Int32) (p5 : Int32) (vo : Addr) (lq : Addr) (cz : Int32) (sf : Value) (h0 : Heap) (n0 : Nat) (Z0 : n0 ≤ h0.size) (O_V : Sta Z Z.heap "com/example/libsitemap/libsitemap/FieldFormat$TextLimit" "VALUE" "Lcom/example/libsitemap/libsitemap/FieldFormat$TextLimit;" (.ref vo)) (O_L : Sta Z Z.heap "com/example/libsitemap/libsitemap/FieldFormat$TextLimit" "LOC" "Lcom/example/libsitemap/libsitemap/FieldFormat$TextLimit;" (.ref lq)) (E_vo : Exa Z h0 vo "com/example/libsitemap/libsitemap/FieldFormat$TextLimit") (F_chars_vo : Fld Z h0 vo "com/example/libsitemap/libsitemap/FieldFormat$TextLimit" "chars" "I" (.int (128 : Int32))) (E_lq : Exa Z h0 lq "com/example/libsitemap/libsitemap/FieldFormat$TextLimit") (F_chars_lq : Fld Z h0 lq "com/example/libsitemap/libsitemap/FieldFormat$TextLimit" "chars" "I" (.int (2047 : Int32))) (O_C : Sta Z Z.heap "java/lang/String" "COMPACT_STRINGS" "Z" (.int cz)) (hcz : ¬ (cz = (0 : Int32))) (O_S : Sta Z Z.heap "jdk/internal/util/Preconditions" "SIOOBE_FORMATTER" "Ljava/util/function/BiFunction;" sf) (hsf : sf.isRef = true) (X00 : Old Z n0 h0) (hb3 : own_bl (own_draw p3) = (0 : Int32)) (hb4 : ¬ (own_bl (own_draw p4) = (0 : Int32))) :
    MetFree l x (head1 (Jvm.Cond.code x code maxLocals ret :: ws) room_1) (fun aa_ U => aa_ = #[(.int p1), (.int p2), (.int p3), (.int p4), (.int p5)] ∧ Z.Warmed39 U.vm ∧ U.heap = h0 ∧ CHv Z consts_1 U.vm h0) (fun _ _ _ _ _ => True) (fun _ U oo_ U' => ∃ v L, oo_ = .returned v ∧ Qrm0 Z p1 p2 p3 p4 p5 vo lq cz sf h0 n0 v U'.heap L ∧ CHr Z consts_1 U.vm U.heap U'.vm U'.heap ∧ ReturnedEndW U oo_ U' L room_1.cells room_1.slots) := by
  refine MetFree.of_bodySF (plainFor_of_name pn_0) hisR ?_
  intro p e s m args below meth c s₁ Bd hml0 hP hK
  obtain ⟨rfl, hZ, hh, hC0⟩ := hP
  have hx := Bd.exec
  have hby := Bd.bytes
  have hml : c.maxLocals = 20 := hml0
  have hown : s.vm.findClass "com/example/libsitemap/libsitemap/ValueTextClearPinLaw" = some m.cls := findClass_of_methodNamed Bd.named
  have hZ : Z.Warmed39 (s.setVm s.vm).vm := hZ
  have hown : (s.setVm s.vm).vm.findClass "com/example/libsitemap/libsitemap/ValueTextClearPinLaw" = some m.cls := hown
  have hS0 : s.Since s.vm s.heap.size := (State.WarmedH.refl s).since _
  have hk0 : s.heap.size ≤ h0.size := Nat.le_of_eq (by rw [hh])
  have CR0 : CHr Z consts_1 s.vm h0 s.vm h0 := CHr.refl hC0
  have hnm := (name_of_methodNamed Bd.named Bd.method).1
  have X0 : Stand p l e room_1 (s.setVm s.vm) m #[(.int p1), (.int p2), (.int p3), (.int p4), (.int p5)] below meth c s₁ [] 0 0 := Stand.of_body Bd
  have e0 : s₁.heap = h0 := by rw [← hh, Bd.state]; rfl
  have N0 := Fr.nil n0
  have pre0 : ∀ tt_, Steps p.tables e below (s₁.setTop (mkF m 0 #[.val (.int p1), .val (.int p2), .val (.int p3), .val (.int p4), .val (.int p5), .unset, .unset, .unset, .unset, .unset, .unset, .unset, .unset, .unset, .unset, .unset, .unset, .unset, .unset, .unset] [])) tt_ → Steps p.tables e below (s₁.setTop (entryFrame m #[(.int p1), (.int p2), (.int p3), (.int p4), (.int p5)] maxLocals)) tt_ := fun tt_ kk_ => castTop (ef_0 m p1 p2 p3 p4 p5) kk_
  obtain ⟨lim_e1, kc_e1, T1, L1, h1, X1, e1, N1, K1, p1_1, p1_2, hkc_1, st1⟩ := P0 p1 p2 p3 p4 p5 vo lq X0 hx hZ hw hby hml hown e0 N0 Z0 O_V O_L E_vo F_chars_vo E_lq F_chars_lq X00
  have sz3 : n0 ≤ h1.size := (Nat.le_trans Z0 K1.1)
  obtain ⟨_, _, ⟨T2, L2, k2, n2⟩, -, X2, ⟨Lc2, hQ2, l2, y2, z2⟩, st2⟩ := Jvm.LawKit.callS X1 hx (y := my0) hown (mvT hZ (hwd3 hw)) (mvT hZ (hwd4 hw)) (mvT hZ (hwd5 hw)) (mvT hZ (hwd6 hw)) (by decide) (backOf (W := 0) (draw l Z a0 hw [] p1 h1 n0 sz3 ) hZ (hwd6 hw) (hwd5 hw) (by decide) (by decide)) (g := (mkF m 19 #[.val (.int p1), .val (.int p2), .val (.int p3), .val (.int p4), .val (.int p5), .val (.ref lim_e1), .unset, .unset, .unset, .unset, .unset, .unset, .unset, .unset, .unset, .unset, .unset, .unset, .unset, .unset] [(.int p1)])) rfl (by rw [hml]; rfl) (argsL := [(.int p1)]) (rest := []) (lenOf pd_20 rfl) rfl (by show 2 * 0 + _ ≤ _; exact Nat.le_of_eq rfl) (hb hby at_19) (fun _ _ => ⟨rfl, e1, (by decide : 0 + 0 ≤ _), (by decide : 0 + 0 ≤ _)⟩)
  dsimp only [Pt.U, Pt.locs, Pt.cells, Pt.slots] at X2 l2 y2 z2 st2 hQ2
  subst l2 y2 z2
  obtain ⟨rfl, N2q, e2q⟩ := hQ2
  have N2 := Fr.app N1 N2q
  obtain ⟨_, _, ⟨T4, L4, k4, n4⟩, -, X4, ⟨Lc4, hQ4, l4, y4, z4⟩, st4⟩ := Jvm.LawKit.callS X2 hx (y := my0) hown (mvT hZ (hwd3 hw)) (mvT hZ (hwd4 hw)) (mvT hZ (hwd5 hw)) (mvT hZ (hwd6 hw)) (by decide) (backOf (W := 0) (draw l Z a0 hw [] p2 h1 n0 sz3 ) hZ (hwd6 hw) (hwd5 hw) (by decide) (by decide)) (g := (mkF m 25 #[.val (.int p1), .val (.int p2), .val (.int p3), .val (.int p4), .val (.int p5), .val (.ref lim_e1), .val (.int (own_draw p1)), .unset, .unset, .unset, .unset, .unset, .unset, .unset, .unset, .unset, .unset, .unset, .unset, .unset] [(.int p2)])) rfl (by rw [hml]; rfl) (argsL := [(.int p2)]) (rest := []) (lenOf pd_20 rfl) rfl (by show 2 * 0 + _ ≤ _; exact Nat.le_of_eq rfl) (hb hby at_25) (fun _ _ => ⟨rfl, e2q, (by decide : 0 + 0 ≤ _), (by decide : 0 + 0 ≤ _)⟩)
  dsimp only [Pt.U, Pt.locs, Pt.cells, Pt.slots] at X4 l4 y4 z4 st4 hQ4
  subst l4 y4 z4
  obtain ⟨rfl, N4q, e4q⟩ := hQ4
  have N4 := Fr.app N2 N4q
  obtain ⟨_, _, ⟨T5, L5, k5, n5⟩, -, X5, ⟨Lc5, hQ5, l5, y5, z5⟩, st5⟩ := Jvm.LawKit.callS X4 hx (y := my0) hown (mvT hZ (hwd3 hw)) (mvT hZ (hwd4 hw)) (mvT hZ (hwd5 hw)) (mvT hZ (hwd6 hw)) (by decide) (backOf (W := 0) (draw l Z a0 hw [] p3 h1 n0 sz3 ) hZ (hwd6 hw) (hwd5 hw) (by decide) (by decide)) (g := (mkF m 31 #[.val (.int p1), .val (.int p2), .val (.int p3), .val (.int p4), .val (.int p5), .val (.ref lim_e1), .val (.int (own_draw p1)), .val (.int (own_draw p2)), .unset, .unset, .unset, .unset, .unset, .unset, .unset, .unset, .unset, .unset, .unset, .unset] [(.int p3)])) rfl (by rw [hml]; rfl) (argsL := [(.int p3)]) (rest := []) (lenOf pd_20 rfl) rfl (by show 2 * 0 + _ ≤ _; exact Nat.le_of_eq rfl) (hb hby at_31) (fun _ _ => ⟨rfl, e4q, (by decide : 0 + 0 ≤ _), (by decide : 0 + 0 ≤ _)⟩)
  dsimp only [Pt.U, Pt.locs, Pt.cells, Pt.slots] at X5 l5 y5 z5 st5 hQ5
  subst l5 y5 z5
  obtain ⟨rfl, N5q, e5q⟩ := hQ5
  have N5 := Fr.app N4 N5q
  obtain ⟨_, _, ⟨T6, L6, k6, n6⟩, -, X6, ⟨Lc6, hQ6, l6, y6, z6⟩, st6⟩ := Jvm.LawKit.callS X5 hx (y := my0) hown (mvT hZ (hwd3 hw)) (mvT hZ (hwd4 hw)) (mvT hZ (hwd5 hw)) (mvT hZ (hwd6 hw)) (by decide) (backOf (W := 0) (draw l Z a0 hw [] p4 h1 n0 sz3 ) hZ (hwd6 hw) (hwd5 hw) (by decide) (by decide)) (g := (mkF m 37 #[.val (.int p1), .val (.int p2), .val (.int p3), .val (.int p4), .val (.int p5), .val (.ref lim_e1), .val (.int (own_draw p1)), .val (.int (own_draw p2)), .val (.int (own_draw p3)), .unset, .unset, .unset, .unset, .unset, .unset, .unset, .unset, .unset, .unset, .unset] [(.int p4)])) rfl (by rw [hml]; rfl) (argsL := [(.int p4)]) (rest := []) (lenOf pd_20 rfl) rfl (by show 2 * 0 + _ ≤ _; exact Nat.le_of_eq rfl) (hb hby at_37) (fun _ _ => ⟨rfl, e5q, (by decide : 0 + 0 ≤ _), (by decide : 0 + 0 ≤ _)⟩)
  dsimp only [Pt.U, Pt.locs, Pt.cells, Pt.slots] at X6 l6 y6 z6 st6 hQ6
  subst l6 y6 z6
  obtain ⟨rfl, N6q, e6q⟩ := hQ6
  have N6 := Fr.app N5 N6q
  obtain ⟨T7, h7, X7, e7, E7, A7, D7, -, st7⟩ := newO X6 hx hZ hown (hwd7 hw) (hwd8 hw) (hwd9 hw) e6q (g := (mkF m 42 #[.val (.int p1), .val (.int p2), .val (.int p3), .val (.int p4), .val (.int p5), .val (.ref lim_e1), .val (.int (own_draw p1)), .val (.int (own_draw p2)), .val (.int (own_draw p3)), .val (.int (own_draw p4)), .unset, .unset, .unset, .unset, .unset, .unset, .unset, .unset, .unset, .unset] [])) rfl (hb hby at_42) (by decide) (by decide)
  obtain ⟨b7, g7⟩ : ∃ zz_, zz_ = h1.size := ⟨_, rfl⟩
  rw [← g7] at A7 D7 st7
  have f8_E_vo := (E_vo.keep K1)
  have ne_vo_b7 : vo ≠ b7 := Nat.ne_of_lt (Nat.lt_of_lt_of_le f8_E_vo.lt (Nat.le_of_eq g7.symm))
  have f9_E_lq := (E_lq.keep K1)
  have ne_lq_b7 : lq ≠ b7 := Nat.ne_of_lt (Nat.lt_of_lt_of_le f9_E_lq.lt (Nat.le_of_eq g7.symm))
  have ne_lim_e1_b7 : lim_e1 ≠ b7 := Nat.ne_of_lt (Nat.lt_of_lt_of_le p1_1.lt (Nat.le_of_eq g7.symm))
  have g_b7 : n0 ≤ b7 := Nat.le_trans sz3 (Nat.le_of_eq g7.symm)
  have kp10 : Keep h0 h1 [] := ((Keep.refl h0 []).trans K1 all0)
  have sz_b7 : h0.size ≤ b7 := Nat.le_trans kp10.1 (Nat.le_of_eq g7.symm)
  have F_kept_b7 : Fld Z h7 b7 "com/example/libsitemap/libsitemap/ValueText" "kept" "[C" .null := D7 (Or.inl (hwd18 hw)) (ty := (.array .char)) (by decide)
  have F_keptChars_b7 : Fld Z h7 b7 "com/example/libsitemap/libsitemap/ValueText" "keptChars" "I" (.int (0 : Int32)) := D7 (Or.inr (hwd27 hw)) (ty := .int) (by decide)
  have F_length_b7 : Fld Z h7 b7 "com/example/libsitemap/libsitemap/ValueText" "length" "J" (.long (0 : Int64)) := D7 (Or.inl (hwd37 hw)) (ty := .long) (by decide)
  have F_keptLength_b7 : Fld Z h7 b7 "com/example/libsitemap/libsitemap/ValueText" "keptLength" "I" (.int (0 : Int32)) := D7 (Or.inl (hwd44 hw)) (ty := .int) (by decide)
  have F_valueLength_b7 : Fld Z h7 b7 "com/example/libsitemap/libsitemap/ValueText" "valueLength" "J" (.long (0 : Int64)) := D7 (Or.inl (hwd46 hw)) (ty := .long) (by decide)
  have f12_E_lim_e1 := (p1_1.ext E7)
  have f13_F_lim_e1_chars := (p1_2.ext E7)
  have sz14 : n0 ≤ h7.size := (Nat.le_trans sz3 E7.1)
  have kp15 : Keep h0 h7 [] := (kp10.ext E7)
  obtain ⟨_, _, ⟨T11, L11, k11, n11⟩, -, X11, ⟨Lc11, hQ11, l11, y11, z11⟩, st11⟩ := X7.specialBack hx (y := my4) rfl hown (mvT hZ (hwd10 hw)) (mvT hZ (hwd11 hw)) (mvT hZ (hwd12 hw)) (by decide) (backOf (W := 1) (ini l Z a0 hw [] b7 lim_e1 kc_e1 h7 n0 sz14 A7 F_kept_b7 F_keptChars_b7 F_keptLength_b7 F_length_b7 F_valueLength_b7 f12_E_lim_e1 f13_F_lim_e1_chars g_b7 (Ne.symm ne_lim_e1_b7)) hZ (hwd12 hw) (hwd9 hw) (by decide) (by decide)) (g := (mkF m 48 #[.val (.int p1), .val (.int p2), .val (.int p3), .val (.int p4), .val (.int p5), .val (.ref lim_e1), .val (.int (own_draw p1)), .val (.int (own_draw p2)), .val (.int (own_draw p3)), .val (.int (own_draw p4)), .unset, .unset, .unset, .unset, .unset, .unset, .unset, .unset, .unset, .unset] [(.ref lim_e1), (.ref b7), (.ref b7)])) rfl (by rw [hml]; rfl) (Steps.refl _) (a := b7) (argsL := [(.ref lim_e1)]) (rest := [(.ref b7)]) (lenOf pd_21 rfl) rfl (by show 2 * 0 + _ ≤ _; exact Nat.le_of_eq rfl) (hb hby at_48) (fun _ _ => ⟨rfl, e7, (by decide : 1 + 1 ≤ _), (by decide : 5 + 64 ≤ _)⟩)
  dsimp only [Pt.U, Pt.locs, Pt.cells, Pt.slots] at X11 l11 y11 z11 st11 hQ11
  subst l11 y11 z11
  obtain ⟨ar_e11, rfl, N11q, K11, p11_1, p11_2, p11_3, p11_4, p11_5, p11_6, p11_7, sz_ar_11, g_ar_11, ne_a_ar_11⟩ := hQ11
  have N11 := Fr.app N6 N11q
  have sz17 : n0 ≤ T11.heap.size := (Nat.le_trans sz14 K11.1)
  obtain ⟨f2_e16, T16, L16, h16, X16, e16, N16, K16, p16_1, p16_2, p16_3, p16_4, p16_5, p16_6, p16_7, st16⟩ := P1 p1 p2 p3 p4 p5 lim_e1 b7 ar_e11 (own_draw p1) (own_draw p2) (own_draw p3) (own_draw p4) kc_e1 (fun _ => (.int (0 : Int32))) X11 hx hZ hw hby hml hown rfl N11 sz17 p11_1 p11_2 p11_3 p11_4 p11_5 p11_6 p11_7 g_b7 g_ar_11 ne_a_ar_11 (own_dl p1) (own_dl p2) hkc_1
  have sz19 : n0 ≤ h16.size := (Nat.le_trans sz17 K16.1)
  obtain ⟨cq18, kq18, q18a, q18b, q18c⟩ := isOf hZ e16 p16_1
  obtain ⟨_, _, ⟨T18, L18, k18, n18⟩, -, X18, ⟨Lc18, hQ18, l18, y18, z18⟩, st18⟩ := X16.virtualBack hx (y := my9) (z := my9) hown (mvT hZ (hwd47 hw)) (mvT hZ (hwd48 hw)) (notFace_of_selects (args := #[]) (mvT hZ (hwd50 hw))) (mvT hZ (hwd50 hw)) (mvT hZ (hwd49 hw)) (by decide) (backOf (W := 0) (len l Z a0 hw [] b7 (0 : Int64) h16 n0 sz19 p16_6) hZ (hwd51 hw) (hwd9 hw) (by decide) (by decide)) q18a q18c (g := (mkF m 74 #[.val (.int p1), .val (.int p2), .val (.int p3), .val (.int p4), .val (.int p5), .val (.ref lim_e1), .val (.int (own_draw p1)), .val (.int (own_draw p2)), .val (.int (own_draw p3)), .val (.int (own_draw p4)), .val (.ref b7), .unset, .unset, .unset, .unset, .unset, .unset, .unset, .unset, .unset] [(.ref b7)])) rfl (by rw [hml]; rfl) (Steps.refl _) (argsL := []) (rest := []) (lenOf pd_22 rfl) rfl (by show 2 * 0 + _ ≤ _; exact Nat.le_of_eq rfl) (hb hby at_74) (fun _ _ => ⟨rfl, e16, (by decide : 2 + 0 ≤ _), (by decide : 69 + 0 ≤ _)⟩)
  dsimp only [Pt.U, Pt.locs, Pt.cells, Pt.slots] at X18 l18 y18 z18 st18 hQ18
  subst l18 y18 z18
  obtain ⟨rfl, N18q, e18q⟩ := hQ18
  have N18 := Fr.app N16 N18q
  obtain ⟨cq20, kq20, q20a, q20b, q20c⟩ := isOf hZ e18q p16_1
  obtain ⟨_, _, ⟨T20, L20, k20, n20⟩, -, X20, ⟨Lc20, hQ20, l20, y20, z20⟩, st20⟩ := X18.virtualBack hx (y := my10) (z := my10) hown (mvT hZ (hwd52 hw)) (mvT hZ (hwd53 hw)) (notFace_of_selects (args := #[]) (mvT hZ (hwd55 hw))) (mvT hZ (hwd55 hw)) (mvT hZ (hwd54 hw)) (by decide) (backOf (W := 0) (emp l Z a0 hw [] b7 h16 n0 sz19 p16_6) hZ (hwd56 hw) (hwd9 hw) (by decide) (by decide)) q20a q20c (g := (mkF m 81 #[.val (.int p1), .val (.int p2), .val (.int p3), .val (.int p4), .val (.int p5), .val (.ref lim_e1), .val (.int (own_draw p1)), .val (.int (own_draw p2)), .val (.int (own_draw p3)), .val (.int (own_draw p4)), .val (.ref b7), .val (.long (0 : Int64)), .second, .unset, .unset, .unset, .unset, .unset, .unset, .unset] [(.ref b7)])) rfl (by rw [hml]; rfl) (Steps.refl _) (argsL := []) (rest := []) (lenOf pd_16 rfl) rfl (by show 2 * 0 + _ ≤ _; exact Nat.le_of_eq rfl) (hb hby at_81) (fun _ _ => ⟨rfl, e18q, (by decide : 2 + 0 ≤ _), (by decide : 69 + 0 ≤ _)⟩)
  dsimp only [Pt.U, Pt.locs, Pt.cells, Pt.slots] at X20 l20 y20 z20 st20 hQ20
  subst l20 y20 z20
  obtain ⟨rfl, N20q, e20q⟩ := hQ20
  have N20 := Fr.app N18 N20q
  have old22 : Old Z n0 h16 := ((((X00.keep K1 all0).ext E7).keep K11 (allS g_b7 all0)).keep K16 (allS g_b7 (allS g_ar_11 all0)))
  have kp23 : Keep h0 h16 [] := ((kp15.trans K11 (allS (Or.inr sz_b7) all0)).trans K16 (allS (Or.inr sz_b7) (allS (Or.inr (Nat.le_trans kp15.1 sz_ar_11)) all0)))
  have CR24h : CHr Z consts_1 s.vm h0 s.vm h16 := CR0.trans (CHr.keep kp23 sf0 CR0.1)
  have hk25 : _ ≤ h16.size := (Nat.le_trans (Nat.le_trans (Nat.le_trans (Nat.le_trans hk0 K1.1) E7.1) K11.1) K16.1)
  obtain ⟨cq21, kq21, q21a, q21b, q21c⟩ := isOf hZ e20q p16_1
  obtain ⟨_, _, ⟨T21, L21, k21, n21⟩, -, X21q, hS21q, hg21q, ⟨Lc21, hQ21, l21, y21, z21, CR21q⟩, st21⟩ := X20.virtualBackS hx (y := my20) (z := my20) hown (mvT hZ (hwd57 hw)) (mvT hZ (hwd58 hw)) (notFace_of_selects (args := #[]) (mvT hZ (hwd60 hw))) (mvT hZ (hwd60 hw)) (mvT hZ (hwd59 hw)) (by decide) (backOfSH (W := 0) (EL := consts_1) (s := s) (vm0 := s.vm) (tx00 l Z a0 hw [] b7 ar_e11 f2_e16 cz sf h16 n0 sz19 p16_2 p16_4 p16_6 p16_7 O_C hcz O_S hsf old22) hZ (hwd61 hw) (hwd9 hw) (by decide) (by decide) (own_EL hw) CR24h.1) q21a q21c (g := (mkF m 88 #[.val (.int p1), .val (.int p2), .val (.int p3), .val (.int p4), .val (.int p5), .val (.ref lim_e1), .val (.int (own_draw p1)), .val (.int (own_draw p2)), .val (.int (own_draw p3)), .val (.int (own_draw p4)), .val (.ref b7), .val (.long (0 : Int64)), .second, .val (.int (1 : Int32)), .unset, .unset, .unset, .unset, .unset, .unset] [(.ref b7)])) rfl (by rw [hml]; rfl) (Steps.refl _) (argsL := []) (rest := []) (lenOf pd_23 rfl) rfl (by show 2 * 0 + _ ≤ _; exact Nat.le_of_eq rfl) (hb hby at_88) (fun _ _ => ⟨rfl, e20q, (by decide : 2 + 3 ≤ _), (by decide : 69 + 8 ≤ _)⟩)
  dsimp only [Pt.U, Pt.locs, Pt.cells, Pt.slots] at X21q l21 y21 z21 st21 hQ21 hS21q hg21q CR21q
  subst l21 y21 z21
  obtain ⟨X21, hS21, hZ21, hown21⟩ := rebS hS0 (by rw [show T20.heap = h16 from e20q]; exact hk25) X21q hS21q hg21q hZ hown
  have hk21 : T21.heap.size ≤ T21.heap.size := Nat.le_refl _
  have CR21 := CR24h.trans CR21q
  obtain ⟨so_e21, b_e21, kb_e21, rfl, N21q, K21, p21_1, p21_2, p21_3, p21_4⟩ := hQ21
  have N21 := Fr.app N20 N21q
  have f26_E_b7 := (p16_1.keep K21)
  have f27_A_ar_e11 := (p16_7.keep K21 nin0)
  have sz29 : n0 ≤ T21.heap.size := (Nat.le_trans sz19 K21.1)
  obtain ⟨cq28, kq28, q28a, q28b, q28c⟩ := isOf hZ21 rfl p21_1
  obtain ⟨_, _, ⟨T28, L28, k28, n28⟩, -, X28, ⟨Lc28, hQ28, l28, y28, z28⟩, st28⟩ := X21.virtualBack hx (y := my23) (z := my23) hown21 (mvT hZ21 (hwd96 hw)) (mvT hZ21 (hwd97 hw)) (notFace_of_selects (args := #[]) (mvT hZ21 (hwd99 hw))) (mvT hZ21 (hwd99 hw)) (mvT hZ21 (hwd98 hw)) (by decide) (backOf (W := 0) (sem l Z a0 hw [] so_e21 b_e21 kb_e21 (T21.heap) n0 sz29 p21_2 p21_4) hZ21 (hwd100 hw) (hwd64 hw) (by decide) (by decide)) q28a q28c (g := (mkF m 107 #[.val (.int p1), .val (.int p2), .val (.int p3), .val (.int p4), .val (.int p5), .val (.ref lim_e1), .val (.int (own_draw p1)), .val (.int (own_draw p2)), .val (.int (own_draw p3)), .val (.int (own_draw p4)), .val (.ref b7), .val (.long (0 : Int64)), .second, .val (.int (1 : Int32)), .val (.ref so_e21), .unset, .unset, .unset, .unset, .unset] [(.ref so_e21)])) rfl (by rw [hml]; rfl) (Steps.refl _) (argsL := []) (rest := []) (lenOf pd_16 rfl) rfl (by show 2 * 0 + _ ≤ _; exact Nat.le_of_eq rfl) (hb hby at_107) (fun _ _ => ⟨rfl, rfl, (by decide : 5 + 0 ≤ _), (by decide : 77 + 0 ≤ _)⟩)
  dsimp only [Pt.U, Pt.locs, Pt.cells, Pt.slots] at X28 l28 y28 z28 st28 hQ28
  subst l28 y28 z28
  obtain ⟨rfl, N28q, e28q⟩ := hQ28
  have N28 := Fr.app N21 N28q
  have f31_F_b7_kept := (p16_2.keep K21 nin0)
  have f32_F_b7_keptChars := (p16_3.keep K21 nin0)
  have f33_F_b7_keptLength := (p16_4.keep K21 nin0)
  have f34_F_b7_length := (p16_5.keep K21 nin0)
  have f35_F_b7_valueLength := (p16_6.keep K21 nin0)
  obtain ⟨cq30, kq30, q30a, q30b, q30c⟩ := isOf hZ21 e28q f26_E_b7
  obtain ⟨_, _, ⟨T30, L30, k30, n30⟩, -, X30, ⟨Lc30, hQ30, l30, y30, z30⟩, st30⟩ := X28.virtualBack hx (y := my7) (z := my7) hown21 (mvT hZ21 (hwd28 hw)) (mvT hZ21 (hwd29 hw)) (notFace_of_selects (args := #[]) (mvT hZ21 (hwd31 hw))) (mvT hZ21 (hwd31 hw)) (mvT hZ21 (hwd30 hw)) (by decide) (backOf (W := 0) (tk0n l Z a0 hw [] b7 ar_e11 (own_draw p3) kc_e1 f2_e16 (T21.heap) n0 sz29 f26_E_b7 f31_F_b7_kept f32_F_b7_keptChars f33_F_b7_keptLength f34_F_b7_length f35_F_b7_valueLength f27_A_ar_e11 g_b7 g_ar_11 ne_a_ar_11 (own_dl p3) hb3 hkc_1) hZ21 (hwd32 hw) (hwd9 hw) (by decide) (by decide)) q30a q30c (g := (mkF m 119 #[.val (.int p1), .val (.int p2), .val (.int p3), .val (.int p4), .val (.int p5), .val (.ref lim_e1), .val (.int (own_draw p1)), .val (.int (own_draw p2)), .val (.int (own_draw p3)), .val (.int (own_draw p4)), .val (.ref b7), .val (.long (0 : Int64)), .second, .val (.int (1 : Int32)), .val (.ref so_e21), .unset, .unset, .unset, .unset, .unset] [(.int (own_draw p3)), (.ref b7)])) rfl (by rw [hml]; rfl) (Steps.refl _) (argsL := [(.int (own_draw p3))]) (rest := []) (lenOf pd_18 rfl) rfl (by show 2 * 0 + _ ≤ _; exact Nat.le_of_eq rfl) (hb hby at_119) (fun _ _ => ⟨rfl, e28q, (by decide : 5 + 0 ≤ _), (by decide : 77 + 0 ≤ _)⟩)
  dsimp only [Pt.U, Pt.locs, Pt.cells, Pt.slots] at X30 l30 y30 z30 st30 hQ30
  subst l30 y30 z30
  obtain ⟨rfl, N30q, K30, p30_1, p30_2, p30_3, p30_4, p30_5, p30_6, p30_7⟩ := hQ30
  have N30 := Fr.app N28 N30q
  have sz37 : n0 ≤ T30.heap.size := (Nat.le_trans sz29 K30.1)
  obtain ⟨cq36, kq36, q36a, q36b, q36c⟩ := isOf hZ21 rfl p30_1
  obtain ⟨_, _, ⟨T36, L36, k36, n36⟩, -, X36, ⟨Lc36, hQ36, l36, y36, z36⟩, st36⟩ := X30.virtualBack hx (y := my7) (z := my7) hown21 (mvT hZ21 (hwd28 hw)) (mvT hZ21 (hwd29 hw)) (notFace_of_selects (args := #[]) (mvT hZ21 (hwd31 hw))) (mvT hZ21 (hwd31 hw)) (mvT hZ21 (hwd30 hw)) (by decide) (backOf (W := 0) (tk1b l Z a0 hw [] b7 ar_e11 (own_draw p4) kc_e1 (fun jj_ => if jj_ = 0 then (.int (own_draw p3)) else f2_e16 jj_) (T30.heap) n0 sz37 p30_1 p30_2 p30_3 p30_4 p30_5 p30_6 p30_7 g_b7 g_ar_11 ne_a_ar_11 (own_dl p4) hb4 hkc_1) hZ21 (hwd32 hw) (hwd9 hw) (by decide) (by decide)) q36a q36c (g := (mkF m 126 #[.val (.int p1), .val (.int p2), .val (.int p3), .val (.int p4), .val (.int p5), .val (.ref lim_e1), .val (.int (own_draw p1)), .val (.int (own_draw p2)), .val (.int (own_draw p3)), .val (.int (own_draw p4)), .val (.ref b7), .val (.long (0 : Int64)), .second, .val (.int (1 : Int32)), .val (.ref so_e21), .unset, .unset, .unset, .unset, .unset] [(.int (own_draw p4)), (.ref b7)])) rfl (by rw [hml]; rfl) (Steps.refl _) (argsL := [(.int (own_draw p4))]) (rest := []) (lenOf pd_18 rfl) rfl (by show 2 * 0 + _ ≤ _; exact Nat.le_of_eq rfl) (hb hby at_126) (fun _ _ => ⟨rfl, rfl, (by decide : 5 + 0 ≤ _), (by decide : 77 + 0 ≤ _)⟩)
  dsimp only [Pt.U, Pt.locs, Pt.cells, Pt.slots] at X36 l36 y36 z36 st36 hQ36
  subst l36 y36 z36
  obtain ⟨rfl, N36q, K36, p36_1, p36_2, p36_3, p36_4, p36_5, p36_6, p36_7⟩ := hQ36
  have N36 := Fr.app N30 N36q
  have old39 : Old Z n0 T36.heap := (((old22.keep K21 all0).keep K30 (allS g_b7 (allS g_ar_11 all0))).keep K36 (allS g_b7 (allS g_ar_11 all0)))
  have sz40 : n0 ≤ T36.heap.size := (Nat.le_trans sz37 K36.1)
  obtain ⟨cq38, kq38, q38a, q38b, q38c⟩ := isOf hZ21 rfl p36_1
  obtain ⟨_, _, ⟨T38, L38, k38, n38⟩, -, X38, ⟨Lc38, hQ38, l38, y38, z38⟩, st38⟩ := X36.virtualBack hx (y := my20) (z := my20) hown21 (mvT hZ21 (hwd57 hw)) (mvT hZ21 (hwd58 hw)) (notFace_of_selects (args := #[]) (mvT hZ21 (hwd60 hw))) (mvT hZ21 (hwd60 hw)) (mvT hZ21 (hwd59 hw)) (by decide) (backOf (W := 0) (tx21 l Z a0 hw [] b7 ar_e11 (fun jj_ => if jj_ = 1 then (.int (own_draw p4)) else (fun jj_ => if jj_ = 0 then (.int (own_draw p3)) else f2_e16 jj_) jj_) cz sf (own_draw p3) (T36.heap) n0 sz40 p36_2 p36_4 p36_6 p36_7 rfl (own_dl p3) O_C hcz O_S hsf old39) hZ21 (hwd61 hw) (hwd9 hw) (by decide) (by decide)) q38a q38c (g := (mkF m 131 #[.val (.int p1), .val (.int p2), .val (.int p3), .val (.int p4), .val (.int p5), .val (.ref lim_e1), .val (.int (own_draw p1)), .val (.int (own_draw p2)), .val (.int (own_draw p3)), .val (.int (own_draw p4)), .val (.ref b7), .val (.long (0 : Int64)), .second, .val (.int (1 : Int32)), .val (.ref so_e21), .unset, .unset, .unset, .unset, .unset] [(.ref b7)])) rfl (by rw [hml]; rfl) (Steps.refl _) (argsL := []) (rest := []) (lenOf pd_23 rfl) rfl (by show 2 * 0 + _ ≤ _; exact Nat.le_of_eq rfl) (hb hby at_131) (fun _ _ => ⟨rfl, rfl, (by decide : 5 + 2 ≤ _), (by decide : 77 + 5 ≤ _)⟩)
  dsimp only [Pt.U, Pt.locs, Pt.cells, Pt.slots] at X38 l38 y38 z38 st38 hQ38
  subst l38 y38 z38
  obtain ⟨so_e38, b_e38, kb_e38, rfl, N38q, K38, p38_1, p38_2, p38_3, p38_4⟩ := hQ38
  have N38 := Fr.app N36 N38q
  have f42_F_b7_valueLength := (p36_6.keep K38 nin0)
  have sz43 : n0 ≤ T38.heap.size := (Nat.le_trans sz40 K38.1)
  have f44_E_b7 := (p36_1.keep K38)
  obtain ⟨cq41, kq41, q41a, q41b, q41c⟩ := isOf hZ21 rfl f44_E_b7
  obtain ⟨_, _, ⟨T41, L41, k41, n41⟩, -, X41, ⟨Lc41, hQ41, l41, y41, z41⟩, st41⟩ := X38.virtualBack hx (y := my9) (z := my9) hown21 (mvT hZ21 (hwd47 hw)) (mvT hZ21 (hwd48 hw)) (notFace_of_selects (args := #[]) (mvT hZ21 (hwd50 hw))) (mvT hZ21 (hwd50 hw)) (mvT hZ21 (hwd49 hw)) (by decide) (backOf (W := 0) (len l Z a0 hw [] b7 (1 : Int64) (T38.heap) n0 sz43 f42_F_b7_valueLength) hZ21 (hwd51 hw) (hwd9 hw) (by decide) (by decide)) q41a q41c (g := (mkF m 138 #[.val (.int p1), .val (.int p2), .val (.int p3), .val (.int p4), .val (.int p5), .val (.ref lim_e1), .val (.int (own_draw p1)), .val (.int (own_draw p2)), .val (.int (own_draw p3)), .val (.int (own_draw p4)), .val (.ref b7), .val (.long (0 : Int64)), .second, .val (.int (1 : Int32)), .val (.ref so_e21), .val (.ref so_e38), .unset, .unset, .unset, .unset] [(.ref b7)])) rfl (by rw [hml]; rfl) (Steps.refl _) (argsL := []) (rest := []) (lenOf pd_22 rfl) rfl (by show 2 * 0 + _ ≤ _; exact Nat.le_of_eq rfl) (hb hby at_138) (fun _ _ => ⟨rfl, rfl, (by decide : 7 + 0 ≤ _), (by decide : 82 + 0 ≤ _)⟩)
  dsimp only [Pt.U, Pt.locs, Pt.cells, Pt.slots] at X41 l41 y41 z41 st41 hQ41
  subst l41 y41 z41
  obtain ⟨rfl, N41q, e41q⟩ := hQ41
  have N41 := Fr.app N38 N41q
  obtain ⟨_, _, ⟨T45, L45, k45, n45⟩, -, X45, ⟨Lc45, hQ45, l45, y45, z45⟩, st45⟩ := Jvm.LawKit.callS X41 hx (y := my2) hown21 (mvT hZ21 (hwd101 hw)) (mvT hZ21 (hwd102 hw)) (mvT hZ21 (hwd5 hw)) (mvT hZ21 (hwd103 hw)) (by decide) (backOf (W := 0) (bla l Z a0 hw [] (own_draw p3) (T38.heap) n0 sz43 ) hZ21 (hwd103 hw) (hwd5 hw) (by decide) (by decide)) (g := (mkF m 145 #[.val (.int p1), .val (.int p2), .val (.int p3), .val (.int p4), .val (.int p5), .val (.ref lim_e1), .val (.int (own_draw p1)), .val (.int (own_draw p2)), .val (.int (own_draw p3)), .val (.int (own_draw p4)), .val (.ref b7), .val (.long (0 : Int64)), .second, .val (.int (1 : Int32)), .val (.ref so_e21), .val (.ref so_e38), .val (.long (1 : Int64)), .second, .unset, .unset] [(.int (own_draw p3))])) rfl (by rw [hml]; rfl) (argsL := [(.int (own_draw p3))]) (rest := []) (lenOf pd_2 rfl) rfl (by show 2 * 0 + _ ≤ _; exact Nat.le_of_eq rfl) (hb hby at_145) (fun _ _ => ⟨rfl, e41q, (by decide : 7 + 0 ≤ _), (by decide : 82 + 0 ≤ _)⟩)
  dsimp only [Pt.U, Pt.locs, Pt.cells, Pt.slots] at X45 l45 y45 z45 st45 hQ45
  subst l45 y45 z45
  obtain ⟨rfl, N45q, e45q⟩ := hQ45
  have N45 := Fr.app N41 N45q
  obtain ⟨_, _, ⟨T46, L46, k46, n46⟩, -, X46, ⟨Lc46, hQ46, l46, y46, z46⟩, st46⟩ := Jvm.LawKit.callS X45 hx (y := my2) hown21 (mvT hZ21 (hwd101 hw)) (mvT hZ21 (hwd102 hw)) (mvT hZ21 (hwd5 hw)) (mvT hZ21 (hwd103 hw)) (by decide) (backOf (W := 0) (bla l Z a0 hw [] (own_draw p4) (T38.heap) n0 sz43 ) hZ21 (hwd103 hw) (hwd5 hw) (by decide) (by decide)) (g := (mkF m 152 #[.val (.int p1), .val (.int p2), .val (.int p3), .val (.int p4), .val (.int p5), .val (.ref lim_e1), .val (.int (own_draw p1)), .val (.int (own_draw p2)), .val (.int (own_draw p3)), .val (.int (own_draw p4)), .val (.ref b7), .val (.long (0 : Int64)), .second, .val (.int (1 : Int32)), .val (.ref so_e21), .val (.ref so_e38), .val (.long (1 : Int64)), .second, .val (.int (own_bl (own_draw p3))), .unset] [(.int (own_draw p4))])) rfl (by rw [hml]; rfl) (argsL := [(.int (own_draw p4))]) (rest := []) (lenOf pd_2 rfl) rfl (by show 2 * 0 + _ ≤ _; exact Nat.le_of_eq rfl) (hb hby at_152) (fun _ _ => ⟨rfl, e45q, (by decide : 7 + 0 ≤ _), (by decide : 82 + 0 ≤ _)⟩)
  dsimp only [Pt.U, Pt.locs, Pt.cells, Pt.slots] at X46 l46 y46 z46 st46 hQ46
  subst l46 y46 z46
  obtain ⟨rfl, N46q, e46q⟩ := hQ46
  have N46 := Fr.app N45 N46q
  have old48 : Old Z n0 T38.heap := (old39.keep K38 all0)
  obtain ⟨cq47, kq47, q47a, q47b, q47c⟩ := isOf hZ21 e46q p38_1
  obtain ⟨_, _, ⟨T47, L47, k47, n47⟩, -, X47, ⟨Lc47, hQ47, l47, y47, z47⟩, st47⟩ := X46.virtualBack hx (y := my24) (z := my24) hown21 (mvT hZ21 (hwd124 hw)) (mvT hZ21 (hwd125 hw)) (notFace_of_selects (args := #[]) (mvT hZ21 (hwd127 hw))) (mvT hZ21 (hwd127 hw)) (mvT hZ21 (hwd126 hw)) (by decide) (backOf (W := 0) (sle1 l Z a0 hw [] so_e38 b_e38 kb_e38 cz (own_draw p3) (T38.heap) n0 sz43 p38_1 p38_2 p38_3 p38_4 O_C hcz old48) hZ21 (hwd128 hw) (hwd64 hw) (by decide) (by decide)) q47a q47c (g := (mkF m 227 #[.val (.int p1), .val (.int p2), .val (.int p3), .val (.int p4), .val (.int p5), .val (.ref lim_e1), .val (.int (own_draw p1)), .val (.int (own_draw p2)), .val (.int (own_draw p3)), .val (.int (own_draw p4)), .val (.ref b7), .val (.long (0 : Int64)), .second, .val (.int (1 : Int32)), .val (.ref so_e21), .val (.ref so_e38), .val (.long (1 : Int64)), .second, .val (.int (own_bl (own_draw p3))), .val (.int (own_bl (own_draw p4)))] [(.ref so_e38)])) rfl (by rw [hml]; rfl) (Steps.refl _) (argsL := []) (rest := []) (lenOf pd_0 rfl) rfl (by show 2 * 0 + _ ≤ _; exact Nat.le_of_eq rfl) (hb hby at_227) (fun _ _ => ⟨rfl, e46q, (by decide : 7 + 0 ≤ _), (by decide : 82 + 0 ≤ _)⟩)
  dsimp only [Pt.U, Pt.locs, Pt.cells, Pt.slots] at X47 l47 y47 z47 st47 hQ47
  subst l47 y47 z47
  obtain ⟨rfl, N47q, e47q⟩ := hQ47
  have N47 := Fr.app N46 N47q
  obtain ⟨cq49, kq49, q49a, q49b, q49c⟩ := isOf hZ21 e47q p38_1
  obtain ⟨_, _, ⟨T49, L49, k49, n49⟩, -, X49, ⟨Lc49, hQ49, l49, y49, z49⟩, st49⟩ := X47.virtualBack hx (y := my28) (z := my28) hown21 (mvT hZ21 (hwd134 hw)) (mvT hZ21 (hwd135 hw)) (notFace_of_selects (args := #[]) (mvT hZ21 (hwd137 hw))) (mvT hZ21 (hwd137 hw)) (mvT hZ21 (hwd136 hw)) (by decide) (backOf (W := 0) (sca01 l Z a0 hw [] so_e38 b_e38 kb_e38 cz sf (own_draw p3) (T38.heap) n0 sz43 p38_1 p38_2 p38_3 p38_4 (own_dl p3) O_C hcz old48 O_S hsf) hZ21 (hwd138 hw) (hwd64 hw) (by decide) (by decide)) q49a q49c (g := (mkF m 237 #[.val (.int p1), .val (.int p2), .val (.int p3), .val (.int p4), .val (.int p5), .val (.ref lim_e1), .val (.int (own_draw p1)), .val (.int (own_draw p2)), .val (.int (own_draw p3)), .val (.int (own_draw p4)), .val (.ref b7), .val (.long (0 : Int64)), .second, .val (.int (1 : Int32)), .val (.ref so_e21), .val (.ref so_e38), .val (.long (1 : Int64)), .second, .val (.int (own_bl (own_draw p3))), .val (.int (own_bl (own_draw p4)))] [(.int (0 : Int32)), (.ref so_e38)])) rfl (by rw [hml]; rfl) (Steps.refl _) (argsL := [(.int (0 : Int32))]) (rest := []) (lenOf pd_20 rfl) rfl (by show 2 * 0 + _ ≤ _; exact Nat.le_of_eq rfl) (hb hby at_237) (fun _ _ => ⟨rfl, e47q, (by decide : 7 + 0 ≤ _), (by decide : 82 + 0 ≤ _)⟩)
  dsimp only [Pt.U, Pt.locs, Pt.cells, Pt.slots] at X49 l49 y49 z49 st49 hQ49
  subst l49 y49 z49
  obtain ⟨rfl, N49q, e49q⟩ := hQ49
  have N49 := Fr.app N47 N49q
  have CR50h : CHr Z consts_1 s.vm h0 T21.vm T38.heap := CR21.trans (CHr.keep ((((Keep.refl T21.heap [b7, ar_e11]).trans K30 (allS (Or.inl (List.mem_of_getElem? (i := 0) rfl)) (allS (Or.inl (List.mem_of_getElem? (i := 1) rfl)) all0))).trans K36 (allS (Or.inl (List.mem_of_getElem? (i := 0) rfl)) (allS (Or.inl (List.mem_of_getElem? (i := 1) rfl)) all0))).trans K38 all0) (sfS (Safe.exa hZ21.alike f26_E_b7 (by decide) (by decide)) (sfS (own_safeA hZ21.alike f27_A_ar_e11 (by decide)) sf0)) CR21.1)
  have hk51 : _ ≤ T38.heap.size := (Nat.le_trans (Nat.le_trans (Nat.le_trans hk21 K30.1) K36.1) K38.1)
  have hkE := Nat.le_trans hk51 (Nat.le_of_eq (congrArg Array.size (show T38.heap = T49.heap from Eq.symm e49q)))
  obtain ⟨fs, hr, hrun, hended, hRE⟩ := X49.leaveW hS21 hkE (v := some (.int (1 : Int32))) (fun h => by rw [Bd.returns] at h; cases h)
  refine ⟨_, _, pre0 _ ?_, hrun, hended, _, _, rfl, ?_, ?_, hRE.1, hRE.2.1, hRE.2.2.1, hRE.2.2.2.mono (by decide) (by decide)⟩
  · show Steps p.tables e below (s₁.setTop (mkF m 0 #[.val (.int p1), .val (.int p2), .val (.int p3), .val (.int p4), .val (.int p5), .unset, .unset, .unset, .unset, .unset, .unset, .unset, .unset, .unset, .unset, .unset, .unset, .unset, .unset, .unset] [])) _
    refine st1 _ ?_
    refine XS.astore X1.here hx rfl (hb hby at_16) rfl rfl (l' := #[.val (.int p1), .val (.int p2), .val (.int p3), .val (.int p4), .val (.int p5), .val (.ref lim_e1), .unset, .unset, .unset, .unset, .unset, .unset, .unset, .unset, .unset, .unset, .unset, .unset, .unset, .unset]) rfl ?_
    refine XS.iloadN X1.here hx rfl (hb hby at_18) rfl ?_
    refine st2 _ ?_
    refine XS.istore X2.here hx rfl (hb hby at_22) rfl (l' := #[.val (.int p1), .val (.int p2), .val (.int p3), .val (.int p4), .val (.int p5), .val (.ref lim_e1), .val (.int (own_draw p1)), .unset, .unset, .unset, .unset, .unset, .unset, .unset, .unset, .unset, .unset, .unset, .unset, .unset]) rfl ?_
    refine XS.iloadN X2.here hx rfl (hb hby at_24) rfl ?_
    show Steps p.tables e below (T2.setTop (mkF m 25 #[.val (.int p1), .val (.int p2), .val (.int p3), .val (.int p4), .val (.int p5), .val (.ref lim_e1), .val (.int (own_draw p1)), .unset, .unset, .unset, .unset, .unset, .unset, .unset, .unset, .unset, .unset, .unset, .unset, .unset] [(.int p2)])) _
    refine st4 _ ?_
    refine XS.istore X4.here hx rfl (hb hby at_28) rfl (l' := #[.val (.int p1), .val (.int p2), .val (.int p3), .val (.int p4), .val (.int p5), .val (.ref lim_e1), .val (.int (own_draw p1)), .val (.int (own_draw p2)), .unset, .unset, .unset, .unset, .unset, .unset, .unset, .unset, .unset, .unset, .unset, .unset]) rfl ?_
    refine XS.iloadN X4.here hx rfl (hb hby at_30) rfl ?_
    refine st5 _ ?_
    refine XS.istore X5.here hx rfl (hb hby at_34) rfl (l' := #[.val (.int p1), .val (.int p2), .val (.int p3), .val (.int p4), .val (.int p5), .val (.ref lim_e1), .val (.int (own_draw p1)), .val (.int (own_draw p2)), .val (.int (own_draw p3)), .unset, .unset, .unset, .unset, .unset, .unset, .unset, .unset, .unset, .unset, .unset]) rfl ?_
    refine XS.iloadN X5.here hx rfl (hb hby at_36) rfl ?_
    show Steps p.tables e below (T5.setTop (mkF m 37 #[.val (.int p1), .val (.int p2), .val (.int p3), .val (.int p4), .val (.int p5), .val (.ref lim_e1), .val (.int (own_draw p1)), .val (.int (own_draw p2)), .val (.int (own_draw p3)), .unset, .unset, .unset, .unset, .unset, .unset, .unset, .unset, .unset, .unset, .unset] [(.int p4)])) _
    refine st6 _ ?_
    refine XS.istore X6.here hx rfl (hb hby at_40) rfl (l' := #[.val (.int p1), .val (.int p2), .val (.int p3), .val (.int p4), .val (.int p5), .val (.ref lim_e1), .val (.int (own_draw p1)), .val (.int (own_draw p2)), .val (.int (own_draw p3)), .val (.int (own_draw p4)), .unset, .unset, .unset, .unset, .unset, .unset, .unset, .unset, .unset, .unset]) rfl ?_
    refine st7 _ ?_
    refine XS.dup X7.here hx rfl (hb hby at_45) rfl rfl ?_
    refine XS.aload X7.here hx rfl (hb hby at_46) rfl rfl ?_
    refine st11.trans ?_
    show Steps p.tables e below (T11.setTop (mkF m 51 #[.val (.int p1), .val (.int p2), .val (.int p3), .val (.int p4), .val (.int p5), .val (.ref lim_e1), .val (.int (own_draw p1)), .val (.int (own_draw p2)), .val (.int (own_draw p3)), .val (.int (own_draw p4)), .unset, .unset, .unset, .unset, .unset, .unset, .unset, .unset, .unset, .unset] [(.ref b7)])) _
    refine XS.astore X11.here hx rfl (hb hby at_51) rfl rfl (l' := #[.val (.int p1), .val (.int p2), .val (.int p3), .val (.int p4), .val (.int p5), .val (.ref lim_e1), .val (.int (own_draw p1)), .val (.int (own_draw p2)), .val (.int (own_draw p3)), .val (.int (own_draw p4)), .val (.ref b7), .unset, .unset, .unset, .unset, .unset, .unset, .unset, .unset, .unset]) rfl ?_
    show Steps p.tables e below (T11.setTop (mkF m 53 #[.val (.int p1), .val (.int p2), .val (.int p3), .val (.int p4), .val (.int p5), .val (.ref lim_e1), .val (.int (own_draw p1)), .val (.int (own_draw p2)), .val (.int (own_draw p3)), .val (.int (own_draw p4)), .val (.ref b7), .unset, .unset, .unset, .unset, .unset, .unset, .unset, .unset, .unset] [])) _
    refine st16 _ ?_
    refine XS.aload X16.here hx rfl (hb hby at_72) rfl rfl ?_
    refine st18.trans ?_
    refine XS.lstore X18.here hx rfl (hb hby at_77) rfl (l' := #[.val (.int p1), .val (.int p2), .val (.int p3), .val (.int p4), .val (.int p5), .val (.ref lim_e1), .val (.int (own_draw p1)), .val (.int (own_draw p2)), .val (.int (own_draw p3)), .val (.int (own_draw p4)), .val (.ref b7), .val (.long (0 : Int64)), .second, .unset, .unset, .unset, .unset, .unset, .unset, .unset]) rfl ?_
    refine XS.aload X18.here hx rfl (hb hby at_79) rfl rfl ?_
    refine st20.trans ?_
    show Steps p.tables e below (T20.setTop (mkF m 84 #[.val (.int p1), .val (.int p2), .val (.int p3), .val (.int p4), .val (.int p5), .val (.ref lim_e1), .val (.int (own_draw p1)), .val (.int (own_draw p2)), .val (.int (own_draw p3)), .val (.int (own_draw p4)), .val (.ref b7), .val (.long (0 : Int64)), .second, .unset, .unset, .unset, .unset, .unset, .unset, .unset] [(.int (1 : Int32))])) _
    refine XS.istore X20.here hx rfl (hb hby at_84) rfl (l' := #[.val (.int p1), .val (.int p2), .val (.int p3), .val (.int p4), .val (.int p5), .val (.ref lim_e1), .val (.int (own_draw p1)), .val (.int (own_draw p2)), .val (.int (own_draw p3)), .val (.int (own_draw p4)), .val (.ref b7), .val (.long (0 : Int64)), .second, .val (.int (1 : Int32)), .unset, .unset, .unset, .unset, .unset, .unset]) rfl ?_
    refine XS.aload X20.here hx rfl (hb hby at_86) rfl rfl ?_
    refine st21.trans ?_
    refine XS.astore X21.here hx rfl (hb hby at_91) rfl rfl (l' := #[.val (.int p1), .val (.int p2), .val (.int p3), .val (.int p4), .val (.int p5), .val (.ref lim_e1), .val (.int (own_draw p1)), .val (.int (own_draw p2)), .val (.int (own_draw p3)), .val (.int (own_draw p4)), .val (.ref b7), .val (.long (0 : Int64)), .second, .val (.int (1 : Int32)), .val (.ref so_e21), .unset, .unset, .unset, .unset, .unset]) rfl ?_
    refine XS.lload X21.here hx rfl (hb hby at_93) rfl ?_
    refine XS.lconst X21.here hx rfl (hb hby at_95) ?_
    show Steps p.tables e below (T21.setTop (mkF m 96 #[.val (.int p1), .val (.int p2), .val (.int p3), .val (.int p4), .val (.int p5), .val (.ref lim_e1), .val (.int (own_draw p1)), .val (.int (own_draw p2)), .val (.int (own_draw p3)), .val (.int (own_draw p4)), .val (.ref b7), .val (.long (0 : Int64)), .second, .val (.int (1 : Int32)), .val (.ref so_e21), .unset, .unset, .unset, .unset, .unset] [(.long (0 : Int64)), (.long (0 : Int64))])) _
    refine XS.lcmp X21.here hx rfl (hb hby at_96) rfl ?_
    refine XS.ifNo X21.here hx rfl (hb hby at_97) rfl ((if0 _ _).trans (teq (show (lcmpW (0 : Int64) (0 : Int64)) = (0 : Int32) from (by decide))).2) ?_
    refine XS.iload X21.here hx rfl (hb hby at_100) rfl ?_
    refine XS.ifNo X21.here hx rfl (hb hby at_102) rfl ((if0 _ _).trans (feq (show ¬ ((1 : Int32) = (0 : Int32)) from (by decide))).1) ?_
    refine XS.aload X21.here hx rfl (hb hby at_105) rfl rfl ?_
    refine st28.trans ?_
    show Steps p.tables e below (T28.setTop (mkF m 110 #[.val (.int p1), .val (.int p2), .val (.int p3), .val (.int p4), .val (.int p5), .val (.ref lim_e1), .val (.int (own_draw p1)), .val (.int (own_draw p2)), .val (.int (own_draw p3)), .val (.int (own_draw p4)), .val (.ref b7), .val (.long (0 : Int64)), .second, .val (.int (1 : Int32)), .val (.ref so_e21), .unset, .unset, .unset, .unset, .unset] [(.int (1 : Int32))])) _
    refine XS.ifYes X28.here hx rfl (pc0 := 110) (pc' := 115) rfl (hb hby at_110) rfl ((if0 _ _).trans (feq (show ¬ ((1 : Int32) = (0 : Int32)) from (by decide))).2) (by decide) (by decide) ?_
    refine XS.aload X28.here hx rfl (hb hby at_115) rfl rfl ?_
    refine XS.iload X28.here hx rfl (hb hby at_117) rfl ?_
    refine st30.trans ?_
    refine XS.aload X30.here hx rfl (hb hby at_122) rfl rfl ?_
    refine XS.iload X30.here hx rfl (hb hby at_124) rfl ?_
    show Steps p.tables e below (T30.setTop (mkF m 126 #[.val (.int p1), .val (.int p2), .val (.int p3), .val (.int p4), .val (.int p5), .val (.ref lim_e1), .val (.int (own_draw p1)), .val (.int (own_draw p2)), .val (.int (own_draw p3)), .val (.int (own_draw p4)), .val (.ref b7), .val (.long (0 : Int64)), .second, .val (.int (1 : Int32)), .val (.ref so_e21), .unset, .unset, .unset, .unset, .unset] [(.int (own_draw p4)), (.ref b7)])) _
    refine st36.trans ?_
    refine XS.aload X36.here hx rfl (hb hby at_129) rfl rfl ?_
    refine st38.trans ?_
    refine XS.astore X38.here hx rfl (hb hby at_134) rfl rfl (l' := #[.val (.int p1), .val (.int p2), .val (.int p3), .val (.int p4), .val (.int p5), .val (.ref lim_e1), .val (.int (own_draw p1)), .val (.int (own_draw p2)), .val (.int (own_draw p3)), .val (.int (own_draw p4)), .val (.ref b7), .val (.long (0 : Int64)), .second, .val (.int (1 : Int32)), .val (.ref so_e21), .val (.ref so_e38), .unset, .unset, .unset, .unset]) rfl ?_
    refine XS.aload X38.here hx rfl (hb hby at_136) rfl rfl ?_
    refine st41.trans ?_
    show Steps p.tables e below (T41.setTop (mkF m 141 #[.val (.int p1), .val (.int p2), .val (.int p3), .val (.int p4), .val (.int p5), .val (.ref lim_e1), .val (.int (own_draw p1)), .val (.int (own_draw p2)), .val (.int (own_draw p3)), .val (.int (own_draw p4)), .val (.ref b7), .val (.long (0 : Int64)), .second, .val (.int (1 : Int32)), .val (.ref so_e21), .val (.ref so_e38), .unset, .unset, .unset, .unset] [(.long (1 : Int64))])) _
    refine XS.lstore X41.here hx rfl (hb hby at_141) rfl (l' := #[.val (.int p1), .val (.int p2), .val (.int p3), .val (.int p4), .val (.int p5), .val (.ref lim_e1), .val (.int (own_draw p1)), .val (.int (own_draw p2)), .val (.int (own_draw p3)), .val (.int (own_draw p4)), .val (.ref b7), .val (.long (0 : Int64)), .second, .val (.int (1 : Int32)), .val (.ref so_e21), .val (.ref so_e38), .val (.long (1 : Int64)), .second, .unset, .unset]) rfl ?_
    refine XS.iload X41.here hx rfl (hb hby at_143) rfl ?_
    refine st45 _ ?_
    refine XS.istore X45.here hx rfl (hb hby at_148) rfl (l' := #[.val (.int p1), .val (.int p2), .val (.int p3), .val (.int p4), .val (.int p5), .val (.ref lim_e1), .val (.int (own_draw p1)), .val (.int (own_draw p2)), .val (.int (own_draw p3)), .val (.int (own_draw p4)), .val (.ref b7), .val (.long (0 : Int64)), .second, .val (.int (1 : Int32)), .val (.ref so_e21), .val (.ref so_e38), .val (.long (1 : Int64)), .second, .val (.int (own_bl (own_draw p3))), .unset]) rfl ?_
    refine XS.iload X45.here hx rfl (hb hby at_150) rfl ?_
    refine st46 _ ?_
    show Steps p.tables e below (T46.setTop (mkF m 155 #[.val (.int p1), .val (.int p2), .val (.int p3), .val (.int p4), .val (.int p5), .val (.ref lim_e1), .val (.int (own_draw p1)), .val (.int (own_draw p2)), .val (.int (own_draw p3)), .val (.int (own_draw p4)), .val (.ref b7), .val (.long (0 : Int64)), .second, .val (.int (1 : Int32)), .val (.ref so_e21), .val (.ref so_e38), .val (.long (1 : Int64)), .second, .val (.int (own_bl (own_draw p3))), .unset] [(.int (own_bl (own_draw p4)))])) _
    refine XS.istore X46.here hx rfl (hb hby at_155) rfl (l' := #[.val (.int p1), .val (.int p2), .val (.int p3), .val (.int p4), .val (.int p5), .val (.ref lim_e1), .val (.int (own_draw p1)), .val (.int (own_draw p2)), .val (.int (own_draw p3)), .val (.int (own_draw p4)), .val (.ref b7), .val (.long (0 : Int64)), .second, .val (.int (1 : Int32)), .val (.ref so_e21), .val (.ref so_e38), .val (.long (1 : Int64)), .second, .val (.int (own_bl (own_draw p3))), .val (.int (own_bl (own_draw p4)))]) rfl ?_
    refine XS.iload X46.here hx rfl (hb hby at_157) rfl ?_
    refine XS.ifNo X46.here hx rfl (hb hby at_159) rfl ((if0 _ _).trans (teq (show (own_bl (own_draw p3)) = (0 : Int32) from hb3)).2) ?_
    refine XS.iload X46.here hx rfl (hb hby at_162) rfl ?_
    refine XS.ifYes X46.here hx rfl (pc0 := 164) (pc' := 213) rfl (hb hby at_164) rfl ((if0 _ _).trans (feq (show ¬ ((own_bl (own_draw p4)) = (0 : Int32)) from hb4)).2) (by decide) (by decide) ?_
    refine XS.iload X46.here hx rfl (hb hby at_213) rfl ?_
    show Steps p.tables e below (T46.setTop (mkF m 215 #[.val (.int p1), .val (.int p2), .val (.int p3), .val (.int p4), .val (.int p5), .val (.ref lim_e1), .val (.int (own_draw p1)), .val (.int (own_draw p2)), .val (.int (own_draw p3)), .val (.int (own_draw p4)), .val (.ref b7), .val (.long (0 : Int64)), .second, .val (.int (1 : Int32)), .val (.ref so_e21), .val (.ref so_e38), .val (.long (1 : Int64)), .second, .val (.int (own_bl (own_draw p3))), .val (.int (own_bl (own_draw p4)))] [(.int (own_bl (own_draw p3)))])) _
    refine XS.ifNo X46.here hx rfl (hb hby at_215) rfl ((if0 _ _).trans (teq (show (own_bl (own_draw p3)) = (0 : Int32) from hb3)).2) ?_
    refine XS.lload X46.here hx rfl (hb hby at_218) rfl ?_
    refine XS.lconst X46.here hx rfl (hb hby at_220) ?_
    refine XS.lcmp X46.here hx rfl (hb hby at_221) rfl ?_
    refine XS.ifNo X46.here hx rfl (hb hby at_222) rfl ((if0 _ _).trans (teq (show (lcmpW (1 : Int64) (1 : Int64)) = (0 : Int32) from (by decide))).2) ?_
    refine XS.aload X46.here hx rfl (hb hby at_225) rfl rfl ?_
    show Steps p.tables e below (T46.setTop (mkF m 227 #[.val (.int p1), .val (.int p2), .val (.int p3), .val (.int p4), .val (.int p5), .val (.ref lim_e1), .val (.int (own_draw p1)), .val (.int (own_draw p2)), .val (.int (own_draw p3)), .val (.int (own_draw p4)), .val (.ref b7), .val (.long (0 : Int64)), .second, .val (.int (1 : Int32)), .val (.ref so_e21), .val (.ref so_e38), .val (.long (1 : Int64)), .second, .val (.int (own_bl (own_draw p3))), .val (.int (own_bl (own_draw p4)))] [(.ref so_e38)])) _
    refine st47.trans ?_
    refine XS.iconst X47.here hx rfl (hb hby at_230) ?_
    refine XS.icmpNo X47.here hx rfl (hb hby at_231) rfl (teq (show (1 : Int32) = (1 : Int32) from rfl)).2 ?_
    refine XS.aload X47.here hx rfl (hb hby at_234) rfl rfl ?_
    refine XS.iconst X47.here hx rfl (hb hby at_236) ?_
    refine st49.trans ?_
    show Steps p.tables e below (T49.setTop (mkF m 240 #[.val (.int p1), .val (.int p2), .val (.int p3), .val (.int p4), .val (.int p5), .val (.ref lim_e1), .val (.int (own_draw p1)), .val (.int (own_draw p2)), .val (.int (own_draw p3)), .val (.int (own_draw p4)), .val (.ref b7), .val (.long (0 : Int64)), .second, .val (.int (1 : Int32)), .val (.ref so_e21), .val (.ref so_e38), .val (.long (1 : Int64)), .second, .val (.int (own_bl (own_draw p3))), .val (.int (own_bl (own_draw p4)))] [(.int (own_draw p3))])) _
    refine XS.iload X49.here hx rfl (hb hby at_240) rfl ?_
    refine XS.icmpNo X49.here hx rfl (hb hby at_242) rfl (teq (show (own_draw p3) = (own_draw p3) from rfl)).2 ?_
    refine XS.iconst X49.here hx rfl (hb hby at_245) ?_
    refine XS.goto X49.here hx rfl (pc0 := 246) (pc' := 250) rfl (hb hby at_246) (by decide) (by decide) ?_
    exact retN X49 hx (t := .boolean) Bd.returns (by simp) (hb hby at_250) hr
  · show Qrm0 Z p1 p2 p3 p4 p5 vo lq cz sf h0 n0 _ T49.heap _
    rw [e49q]
    exact ⟨rfl, N49⟩
  · show CHr Z consts_1 s.vm s.heap T49.vm T49.heap
    rw [hh, e49q]
    exact CR50h.trans (CHv.at X49 hZ21 (own_EL hw) CR50h.1)
theorem hwd154 {Z : State} {a0 : Array Value} (hw : ∀ d ∈ tables_1, d.before a0 Z = true) : (Jvm.Cond.constantLong "com/example/libsitemap/libsitemap/ValueTextClearPinLaw" (53 : Nat) (2 : Int64)).before a0 Z = true := hw _ (List.mem_of_getElem? (i := 154) rfl)
set_option maxRecDepth 65536 in
set_option maxHeartbeats 40000000 in
theorem law_00 (l : Launch) (Z : State) (a0 : Array Value) (hw : ∀ d ∈ tables_1, d.before a0 Z = true) (ws : List Jvm.Cond) (p1 : Int32) (p2 : Int32) (p3 : Int32) (p4 : Int32) (p5 : Int32) (vo : Addr) (lq : Addr) (cz : Int32) (sf : Value) (h0 : Heap) (n0 : Nat) (Z0 : n0 ≤ h0.size) (O_V : Sta Z Z.heap "com/example/libsitemap/libsitemap/FieldFormat$TextLimit" "VALUE" "Lcom/example/libsitemap/libsitemap/FieldFormat$TextLimit;" (.ref vo)) (O_L : Sta Z Z.heap "com/example/libsitemap/libsitemap/FieldFormat$TextLimit" "LOC" "Lcom/example/libsitemap/libsitemap/FieldFormat$TextLimit;" (.ref lq)) (E_vo : Exa Z h0 vo "com/example/libsitemap/libsitemap/FieldFormat$TextLimit") (F_chars_vo : Fld Z h0 vo "com/example/libsitemap/libsitemap/FieldFormat$TextLimit" "chars" "I" (.int (128 : Int32))) (E_lq : Exa Z h0 lq "com/example/libsitemap/libsitemap/FieldFormat$TextLimit") (F_chars_lq : Fld Z h0 lq "com/example/libsitemap/libsitemap/FieldFormat$TextLimit" "chars" "I" (.int (2047 : Int32))) (O_C : Sta Z Z.heap "java/lang/String" "COMPACT_STRINGS" "Z" (.int cz)) (hcz : ¬ (cz = (0 : Int32))) (O_S : Sta Z Z.heap "jdk/internal/util/Preconditions" "SIOOBE_FORMATTER" "Ljava/util/function/BiFunction;" sf) (hsf : sf.isRef = true) (X00 : Old Z n0 h0) (hb3 : own_bl (own_draw p3) = (0 : Int32)) (hb4 : own_bl (own_draw p4) = (0 : Int32)) :
    MetFree l x (head1 (Jvm.Cond.code x code maxLocals ret :: ws) room_1) (fun aa_ U => aa_ = #[(.int p1), (.int p2), (.int p3), (.int p4), (.int p5)] ∧ Z.Warmed39 U.vm ∧ U.heap = h0 ∧ CHv Z consts_1 U.vm h0) (fun _ _ _ _ _ => True) (fun _ U oo_ U' => ∃ v L, oo_ = .returned v ∧ Qrm0 Z p1 p2 p3 p4 p5 vo lq cz sf h0 n0 v U'.heap L ∧ CHr Z consts_1 U.vm U.heap U'.vm U'.heap ∧ ReturnedEndW U oo_ U' L room_1.cells room_1.slots) := by
  refine MetFree.of_bodySF (plainFor_of_name pn_0) hisR ?_
  intro p e s m args below meth c s₁ Bd hml0 hP hK
  obtain ⟨rfl, hZ, hh, hC0⟩ := hP
  have hx := Bd.exec
  have hby := Bd.bytes
  have hml : c.maxLocals = 20 := hml0
  have hown : s.vm.findClass "com/example/libsitemap/libsitemap/ValueTextClearPinLaw" = some m.cls := findClass_of_methodNamed Bd.named
  have hZ : Z.Warmed39 (s.setVm s.vm).vm := hZ
  have hown : (s.setVm s.vm).vm.findClass "com/example/libsitemap/libsitemap/ValueTextClearPinLaw" = some m.cls := hown
  have hS0 : s.Since s.vm s.heap.size := (State.WarmedH.refl s).since _
  have hk0 : s.heap.size ≤ h0.size := Nat.le_of_eq (by rw [hh])
  have CR0 : CHr Z consts_1 s.vm h0 s.vm h0 := CHr.refl hC0
  have hnm := (name_of_methodNamed Bd.named Bd.method).1
  have X0 : Stand p l e room_1 (s.setVm s.vm) m #[(.int p1), (.int p2), (.int p3), (.int p4), (.int p5)] below meth c s₁ [] 0 0 := Stand.of_body Bd
  have e0 : s₁.heap = h0 := by rw [← hh, Bd.state]; rfl
  have N0 := Fr.nil n0
  have pre0 : ∀ tt_, Steps p.tables e below (s₁.setTop (mkF m 0 #[.val (.int p1), .val (.int p2), .val (.int p3), .val (.int p4), .val (.int p5), .unset, .unset, .unset, .unset, .unset, .unset, .unset, .unset, .unset, .unset, .unset, .unset, .unset, .unset, .unset] [])) tt_ → Steps p.tables e below (s₁.setTop (entryFrame m #[(.int p1), (.int p2), (.int p3), (.int p4), (.int p5)] maxLocals)) tt_ := fun tt_ kk_ => castTop (ef_0 m p1 p2 p3 p4 p5) kk_
  obtain ⟨lim_e1, kc_e1, T1, L1, h1, X1, e1, N1, K1, p1_1, p1_2, hkc_1, st1⟩ := P0 p1 p2 p3 p4 p5 vo lq X0 hx hZ hw hby hml hown e0 N0 Z0 O_V O_L E_vo F_chars_vo E_lq F_chars_lq X00
  have sz3 : n0 ≤ h1.size := (Nat.le_trans Z0 K1.1)
  obtain ⟨_, _, ⟨T2, L2, k2, n2⟩, -, X2, ⟨Lc2, hQ2, l2, y2, z2⟩, st2⟩ := Jvm.LawKit.callS X1 hx (y := my0) hown (mvT hZ (hwd3 hw)) (mvT hZ (hwd4 hw)) (mvT hZ (hwd5 hw)) (mvT hZ (hwd6 hw)) (by decide) (backOf (W := 0) (draw l Z a0 hw [] p1 h1 n0 sz3 ) hZ (hwd6 hw) (hwd5 hw) (by decide) (by decide)) (g := (mkF m 19 #[.val (.int p1), .val (.int p2), .val (.int p3), .val (.int p4), .val (.int p5), .val (.ref lim_e1), .unset, .unset, .unset, .unset, .unset, .unset, .unset, .unset, .unset, .unset, .unset, .unset, .unset, .unset] [(.int p1)])) rfl (by rw [hml]; rfl) (argsL := [(.int p1)]) (rest := []) (lenOf pd_20 rfl) rfl (by show 2 * 0 + _ ≤ _; exact Nat.le_of_eq rfl) (hb hby at_19) (fun _ _ => ⟨rfl, e1, (by decide : 0 + 0 ≤ _), (by decide : 0 + 0 ≤ _)⟩)
  dsimp only [Pt.U, Pt.locs, Pt.cells, Pt.slots] at X2 l2 y2 z2 st2 hQ2
  subst l2 y2 z2
  obtain ⟨rfl, N2q, e2q⟩ := hQ2
  have N2 := Fr.app N1 N2q
  obtain ⟨_, _, ⟨T4, L4, k4, n4⟩, -, X4, ⟨Lc4, hQ4, l4, y4, z4⟩, st4⟩ := Jvm.LawKit.callS X2 hx (y := my0) hown (mvT hZ (hwd3 hw)) (mvT hZ (hwd4 hw)) (mvT hZ (hwd5 hw)) (mvT hZ (hwd6 hw)) (by decide) (backOf (W := 0) (draw l Z a0 hw [] p2 h1 n0 sz3 ) hZ (hwd6 hw) (hwd5 hw) (by decide) (by decide)) (g := (mkF m 25 #[.val (.int p1), .val (.int p2), .val (.int p3), .val (.int p4), .val (.int p5), .val (.ref lim_e1), .val (.int (own_draw p1)), .unset, .unset, .unset, .unset, .unset, .unset, .unset, .unset, .unset, .unset, .unset, .unset, .unset] [(.int p2)])) rfl (by rw [hml]; rfl) (argsL := [(.int p2)]) (rest := []) (lenOf pd_20 rfl) rfl (by show 2 * 0 + _ ≤ _; exact Nat.le_of_eq rfl) (hb hby at_25) (fun _ _ => ⟨rfl, e2q, (by decide : 0 + 0 ≤ _), (by decide : 0 + 0 ≤ _)⟩)
  dsimp only [Pt.U, Pt.locs, Pt.cells, Pt.slots] at X4 l4 y4 z4 st4 hQ4
  subst l4 y4 z4
  obtain ⟨rfl, N4q, e4q⟩ := hQ4
  have N4 := Fr.app N2 N4q
  obtain ⟨_, _, ⟨T5, L5, k5, n5⟩, -, X5, ⟨Lc5, hQ5, l5, y5, z5⟩, st5⟩ := Jvm.LawKit.callS X4 hx (y := my0) hown (mvT hZ (hwd3 hw)) (mvT hZ (hwd4 hw)) (mvT hZ (hwd5 hw)) (mvT hZ (hwd6 hw)) (by decide) (backOf (W := 0) (draw l Z a0 hw [] p3 h1 n0 sz3 ) hZ (hwd6 hw) (hwd5 hw) (by decide) (by decide)) (g := (mkF m 31 #[.val (.int p1), .val (.int p2), .val (.int p3), .val (.int p4), .val (.int p5), .val (.ref lim_e1), .val (.int (own_draw p1)), .val (.int (own_draw p2)), .unset, .unset, .unset, .unset, .unset, .unset, .unset, .unset, .unset, .unset, .unset, .unset] [(.int p3)])) rfl (by rw [hml]; rfl) (argsL := [(.int p3)]) (rest := []) (lenOf pd_20 rfl) rfl (by show 2 * 0 + _ ≤ _; exact Nat.le_of_eq rfl) (hb hby at_31) (fun _ _ => ⟨rfl, e4q, (by decide : 0 + 0 ≤ _), (by decide : 0 + 0 ≤ _)⟩)
  dsimp only [Pt.U, Pt.locs, Pt.cells, Pt.slots] at X5 l5 y5 z5 st5 hQ5
  subst l5 y5 z5
  obtain ⟨rfl, N5q, e5q⟩ := hQ5
  have N5 := Fr.app N4 N5q
  obtain ⟨_, _, ⟨T6, L6, k6, n6⟩, -, X6, ⟨Lc6, hQ6, l6, y6, z6⟩, st6⟩ := Jvm.LawKit.callS X5 hx (y := my0) hown (mvT hZ (hwd3 hw)) (mvT hZ (hwd4 hw)) (mvT hZ (hwd5 hw)) (mvT hZ (hwd6 hw)) (by decide) (backOf (W := 0) (draw l Z a0 hw [] p4 h1 n0 sz3 ) hZ (hwd6 hw) (hwd5 hw) (by decide) (by decide)) (g := (mkF m 37 #[.val (.int p1), .val (.int p2), .val (.int p3), .val (.int p4), .val (.int p5), .val (.ref lim_e1), .val (.int (own_draw p1)), .val (.int (own_draw p2)), .val (.int (own_draw p3)), .unset, .unset, .unset, .unset, .unset, .unset, .unset, .unset, .unset, .unset, .unset] [(.int p4)])) rfl (by rw [hml]; rfl) (argsL := [(.int p4)]) (rest := []) (lenOf pd_20 rfl) rfl (by show 2 * 0 + _ ≤ _; exact Nat.le_of_eq rfl) (hb hby at_37) (fun _ _ => ⟨rfl, e5q, (by decide : 0 + 0 ≤ _), (by decide : 0 + 0 ≤ _)⟩)
  dsimp only [Pt.U, Pt.locs, Pt.cells, Pt.slots] at X6 l6 y6 z6 st6 hQ6
  subst l6 y6 z6
  obtain ⟨rfl, N6q, e6q⟩ := hQ6
  have N6 := Fr.app N5 N6q
  obtain ⟨T7, h7, X7, e7, E7, A7, D7, -, st7⟩ := newO X6 hx hZ hown (hwd7 hw) (hwd8 hw) (hwd9 hw) e6q (g := (mkF m 42 #[.val (.int p1), .val (.int p2), .val (.int p3), .val (.int p4), .val (.int p5), .val (.ref lim_e1), .val (.int (own_draw p1)), .val (.int (own_draw p2)), .val (.int (own_draw p3)), .val (.int (own_draw p4)), .unset, .unset, .unset, .unset, .unset, .unset, .unset, .unset, .unset, .unset] [])) rfl (hb hby at_42) (by decide) (by decide)
  obtain ⟨b7, g7⟩ : ∃ zz_, zz_ = h1.size := ⟨_, rfl⟩
  rw [← g7] at A7 D7 st7
  have f8_E_vo := (E_vo.keep K1)
  have ne_vo_b7 : vo ≠ b7 := Nat.ne_of_lt (Nat.lt_of_lt_of_le f8_E_vo.lt (Nat.le_of_eq g7.symm))
  have f9_E_lq := (E_lq.keep K1)
  have ne_lq_b7 : lq ≠ b7 := Nat.ne_of_lt (Nat.lt_of_lt_of_le f9_E_lq.lt (Nat.le_of_eq g7.symm))
  have ne_lim_e1_b7 : lim_e1 ≠ b7 := Nat.ne_of_lt (Nat.lt_of_lt_of_le p1_1.lt (Nat.le_of_eq g7.symm))
  have g_b7 : n0 ≤ b7 := Nat.le_trans sz3 (Nat.le_of_eq g7.symm)
  have kp10 : Keep h0 h1 [] := ((Keep.refl h0 []).trans K1 all0)
  have sz_b7 : h0.size ≤ b7 := Nat.le_trans kp10.1 (Nat.le_of_eq g7.symm)
  have F_kept_b7 : Fld Z h7 b7 "com/example/libsitemap/libsitemap/ValueText" "kept" "[C" .null := D7 (Or.inl (hwd18 hw)) (ty := (.array .char)) (by decide)
  have F_keptChars_b7 : Fld Z h7 b7 "com/example/libsitemap/libsitemap/ValueText" "keptChars" "I" (.int (0 : Int32)) := D7 (Or.inr (hwd27 hw)) (ty := .int) (by decide)
  have F_length_b7 : Fld Z h7 b7 "com/example/libsitemap/libsitemap/ValueText" "length" "J" (.long (0 : Int64)) := D7 (Or.inl (hwd37 hw)) (ty := .long) (by decide)
  have F_keptLength_b7 : Fld Z h7 b7 "com/example/libsitemap/libsitemap/ValueText" "keptLength" "I" (.int (0 : Int32)) := D7 (Or.inl (hwd44 hw)) (ty := .int) (by decide)
  have F_valueLength_b7 : Fld Z h7 b7 "com/example/libsitemap/libsitemap/ValueText" "valueLength" "J" (.long (0 : Int64)) := D7 (Or.inl (hwd46 hw)) (ty := .long) (by decide)
  have f12_E_lim_e1 := (p1_1.ext E7)
  have f13_F_lim_e1_chars := (p1_2.ext E7)
  have sz14 : n0 ≤ h7.size := (Nat.le_trans sz3 E7.1)
  have kp15 : Keep h0 h7 [] := (kp10.ext E7)
  obtain ⟨_, _, ⟨T11, L11, k11, n11⟩, -, X11, ⟨Lc11, hQ11, l11, y11, z11⟩, st11⟩ := X7.specialBack hx (y := my4) rfl hown (mvT hZ (hwd10 hw)) (mvT hZ (hwd11 hw)) (mvT hZ (hwd12 hw)) (by decide) (backOf (W := 1) (ini l Z a0 hw [] b7 lim_e1 kc_e1 h7 n0 sz14 A7 F_kept_b7 F_keptChars_b7 F_keptLength_b7 F_length_b7 F_valueLength_b7 f12_E_lim_e1 f13_F_lim_e1_chars g_b7 (Ne.symm ne_lim_e1_b7)) hZ (hwd12 hw) (hwd9 hw) (by decide) (by decide)) (g := (mkF m 48 #[.val (.int p1), .val (.int p2), .val (.int p3), .val (.int p4), .val (.int p5), .val (.ref lim_e1), .val (.int (own_draw p1)), .val (.int (own_draw p2)), .val (.int (own_draw p3)), .val (.int (own_draw p4)), .unset, .unset, .unset, .unset, .unset, .unset, .unset, .unset, .unset, .unset] [(.ref lim_e1), (.ref b7), (.ref b7)])) rfl (by rw [hml]; rfl) (Steps.refl _) (a := b7) (argsL := [(.ref lim_e1)]) (rest := [(.ref b7)]) (lenOf pd_21 rfl) rfl (by show 2 * 0 + _ ≤ _; exact Nat.le_of_eq rfl) (hb hby at_48) (fun _ _ => ⟨rfl, e7, (by decide : 1 + 1 ≤ _), (by decide : 5 + 64 ≤ _)⟩)
  dsimp only [Pt.U, Pt.locs, Pt.cells, Pt.slots] at X11 l11 y11 z11 st11 hQ11
  subst l11 y11 z11
  obtain ⟨ar_e11, rfl, N11q, K11, p11_1, p11_2, p11_3, p11_4, p11_5, p11_6, p11_7, sz_ar_11, g_ar_11, ne_a_ar_11⟩ := hQ11
  have N11 := Fr.app N6 N11q
  have sz17 : n0 ≤ T11.heap.size := (Nat.le_trans sz14 K11.1)
  obtain ⟨f2_e16, T16, L16, h16, X16, e16, N16, K16, p16_1, p16_2, p16_3, p16_4, p16_5, p16_6, p16_7, st16⟩ := P1 p1 p2 p3 p4 p5 lim_e1 b7 ar_e11 (own_draw p1) (own_draw p2) (own_draw p3) (own_draw p4) kc_e1 (fun _ => (.int (0 : Int32))) X11 hx hZ hw hby hml hown rfl N11 sz17 p11_1 p11_2 p11_3 p11_4 p11_5 p11_6 p11_7 g_b7 g_ar_11 ne_a_ar_11 (own_dl p1) (own_dl p2) hkc_1
  have sz19 : n0 ≤ h16.size := (Nat.le_trans sz17 K16.1)
  obtain ⟨cq18, kq18, q18a, q18b, q18c⟩ := isOf hZ e16 p16_1
  obtain ⟨_, _, ⟨T18, L18, k18, n18⟩, -, X18, ⟨Lc18, hQ18, l18, y18, z18⟩, st18⟩ := X16.virtualBack hx (y := my9) (z := my9) hown (mvT hZ (hwd47 hw)) (mvT hZ (hwd48 hw)) (notFace_of_selects (args := #[]) (mvT hZ (hwd50 hw))) (mvT hZ (hwd50 hw)) (mvT hZ (hwd49 hw)) (by decide) (backOf (W := 0) (len l Z a0 hw [] b7 (0 : Int64) h16 n0 sz19 p16_6) hZ (hwd51 hw) (hwd9 hw) (by decide) (by decide)) q18a q18c (g := (mkF m 74 #[.val (.int p1), .val (.int p2), .val (.int p3), .val (.int p4), .val (.int p5), .val (.ref lim_e1), .val (.int (own_draw p1)), .val (.int (own_draw p2)), .val (.int (own_draw p3)), .val (.int (own_draw p4)), .val (.ref b7), .unset, .unset, .unset, .unset, .unset, .unset, .unset, .unset, .unset] [(.ref b7)])) rfl (by rw [hml]; rfl) (Steps.refl _) (argsL := []) (rest := []) (lenOf pd_22 rfl) rfl (by show 2 * 0 + _ ≤ _; exact Nat.le_of_eq rfl) (hb hby at_74) (fun _ _ => ⟨rfl, e16, (by decide : 2 + 0 ≤ _), (by decide : 69 + 0 ≤ _)⟩)
  dsimp only [Pt.U, Pt.locs, Pt.cells, Pt.slots] at X18 l18 y18 z18 st18 hQ18
  subst l18 y18 z18
  obtain ⟨rfl, N18q, e18q⟩ := hQ18
  have N18 := Fr.app N16 N18q
  obtain ⟨cq20, kq20, q20a, q20b, q20c⟩ := isOf hZ e18q p16_1
  obtain ⟨_, _, ⟨T20, L20, k20, n20⟩, -, X20, ⟨Lc20, hQ20, l20, y20, z20⟩, st20⟩ := X18.virtualBack hx (y := my10) (z := my10) hown (mvT hZ (hwd52 hw)) (mvT hZ (hwd53 hw)) (notFace_of_selects (args := #[]) (mvT hZ (hwd55 hw))) (mvT hZ (hwd55 hw)) (mvT hZ (hwd54 hw)) (by decide) (backOf (W := 0) (emp l Z a0 hw [] b7 h16 n0 sz19 p16_6) hZ (hwd56 hw) (hwd9 hw) (by decide) (by decide)) q20a q20c (g := (mkF m 81 #[.val (.int p1), .val (.int p2), .val (.int p3), .val (.int p4), .val (.int p5), .val (.ref lim_e1), .val (.int (own_draw p1)), .val (.int (own_draw p2)), .val (.int (own_draw p3)), .val (.int (own_draw p4)), .val (.ref b7), .val (.long (0 : Int64)), .second, .unset, .unset, .unset, .unset, .unset, .unset, .unset] [(.ref b7)])) rfl (by rw [hml]; rfl) (Steps.refl _) (argsL := []) (rest := []) (lenOf pd_16 rfl) rfl (by show 2 * 0 + _ ≤ _; exact Nat.le_of_eq rfl) (hb hby at_81) (fun _ _ => ⟨rfl, e18q, (by decide : 2 + 0 ≤ _), (by decide : 69 + 0 ≤ _)⟩)
  dsimp only [Pt.U, Pt.locs, Pt.cells, Pt.slots] at X20 l20 y20 z20 st20 hQ20
  subst l20 y20 z20
  obtain ⟨rfl, N20q, e20q⟩ := hQ20
  have N20 := Fr.app N18 N20q
  have old22 : Old Z n0 h16 := ((((X00.keep K1 all0).ext E7).keep K11 (allS g_b7 all0)).keep K16 (allS g_b7 (allS g_ar_11 all0)))
  have kp23 : Keep h0 h16 [] := ((kp15.trans K11 (allS (Or.inr sz_b7) all0)).trans K16 (allS (Or.inr sz_b7) (allS (Or.inr (Nat.le_trans kp15.1 sz_ar_11)) all0)))
  have CR24h : CHr Z consts_1 s.vm h0 s.vm h16 := CR0.trans (CHr.keep kp23 sf0 CR0.1)
  have hk25 : _ ≤ h16.size := (Nat.le_trans (Nat.le_trans (Nat.le_trans (Nat.le_trans hk0 K1.1) E7.1) K11.1) K16.1)
  obtain ⟨cq21, kq21, q21a, q21b, q21c⟩ := isOf hZ e20q p16_1
  obtain ⟨_, _, ⟨T21, L21, k21, n21⟩, -, X21q, hS21q, hg21q, ⟨Lc21, hQ21, l21, y21, z21, CR21q⟩, st21⟩ := X20.virtualBackS hx (y := my20) (z := my20) hown (mvT hZ (hwd57 hw)) (mvT hZ (hwd58 hw)) (notFace_of_selects (args := #[]) (mvT hZ (hwd60 hw))) (mvT hZ (hwd60 hw)) (mvT hZ (hwd59 hw)) (by decide) (backOfSH (W := 0) (EL := consts_1) (s := s) (vm0 := s.vm) (tx00 l Z a0 hw [] b7 ar_e11 f2_e16 cz sf h16 n0 sz19 p16_2 p16_4 p16_6 p16_7 O_C hcz O_S hsf old22) hZ (hwd61 hw) (hwd9 hw) (by decide) (by decide) (own_EL hw) CR24h.1) q21a q21c (g := (mkF m 88 #[.val (.int p1), .val (.int p2), .val (.int p3), .val (.int p4), .val (.int p5), .val (.ref lim_e1), .val (.int (own_draw p1)), .val (.int (own_draw p2)), .val (.int (own_draw p3)), .val (.int (own_draw p4)), .val (.ref b7), .val (.long (0 : Int64)), .second, .val (.int (1 : Int32)), .unset, .unset, .unset, .unset, .unset, .unset] [(.ref b7)])) rfl (by rw [hml]; rfl) (Steps.refl _) (argsL := []) (rest := []) (lenOf pd_23 rfl) rfl (by show 2 * 0 + _ ≤ _; exact Nat.le_of_eq rfl) (hb hby at_88) (fun _ _ => ⟨rfl, e20q, (by decide : 2 + 3 ≤ _), (by decide : 69 + 8 ≤ _)⟩)
  dsimp only [Pt.U, Pt.locs, Pt.cells, Pt.slots] at X21q l21 y21 z21 st21 hQ21 hS21q hg21q CR21q
  subst l21 y21 z21
  obtain ⟨X21, hS21, hZ21, hown21⟩ := rebS hS0 (by rw [show T20.heap = h16 from e20q]; exact hk25) X21q hS21q hg21q hZ hown
  have hk21 : T21.heap.size ≤ T21.heap.size := Nat.le_refl _
  have CR21 := CR24h.trans CR21q
  obtain ⟨so_e21, b_e21, kb_e21, rfl, N21q, K21, p21_1, p21_2, p21_3, p21_4⟩ := hQ21
  have N21 := Fr.app N20 N21q
  have f26_E_b7 := (p16_1.keep K21)
  have f27_A_ar_e11 := (p16_7.keep K21 nin0)
  have sz29 : n0 ≤ T21.heap.size := (Nat.le_trans sz19 K21.1)
  obtain ⟨cq28, kq28, q28a, q28b, q28c⟩ := isOf hZ21 rfl p21_1
  obtain ⟨_, _, ⟨T28, L28, k28, n28⟩, -, X28, ⟨Lc28, hQ28, l28, y28, z28⟩, st28⟩ := X21.virtualBack hx (y := my23) (z := my23) hown21 (mvT hZ21 (hwd96 hw)) (mvT hZ21 (hwd97 hw)) (notFace_of_selects (args := #[]) (mvT hZ21 (hwd99 hw))) (mvT hZ21 (hwd99 hw)) (mvT hZ21 (hwd98 hw)) (by decide) (backOf (W := 0) (sem l Z a0 hw [] so_e21 b_e21 kb_e21 (T21.heap) n0 sz29 p21_2 p21_4) hZ21 (hwd100 hw) (hwd64 hw) (by decide) (by decide)) q28a q28c (g := (mkF m 107 #[.val (.int p1), .val (.int p2), .val (.int p3), .val (.int p4), .val (.int p5), .val (.ref lim_e1), .val (.int (own_draw p1)), .val (.int (own_draw p2)), .val (.int (own_draw p3)), .val (.int (own_draw p4)), .val (.ref b7), .val (.long (0 : Int64)), .second, .val (.int (1 : Int32)), .val (.ref so_e21), .unset, .unset, .unset, .unset, .unset] [(.ref so_e21)])) rfl (by rw [hml]; rfl) (Steps.refl _) (argsL := []) (rest := []) (lenOf pd_16 rfl) rfl (by show 2 * 0 + _ ≤ _; exact Nat.le_of_eq rfl) (hb hby at_107) (fun _ _ => ⟨rfl, rfl, (by decide : 5 + 0 ≤ _), (by decide : 77 + 0 ≤ _)⟩)
  dsimp only [Pt.U, Pt.locs, Pt.cells, Pt.slots] at X28 l28 y28 z28 st28 hQ28
  subst l28 y28 z28
  obtain ⟨rfl, N28q, e28q⟩ := hQ28
  have N28 := Fr.app N21 N28q
  have f31_F_b7_kept := (p16_2.keep K21 nin0)
  have f32_F_b7_keptChars := (p16_3.keep K21 nin0)
  have f33_F_b7_keptLength := (p16_4.keep K21 nin0)
  have f34_F_b7_length := (p16_5.keep K21 nin0)
  have f35_F_b7_valueLength := (p16_6.keep K21 nin0)
  obtain ⟨cq30, kq30, q30a, q30b, q30c⟩ := isOf hZ21 e28q f26_E_b7
  obtain ⟨_, _, ⟨T30, L30, k30, n30⟩, -, X30, ⟨Lc30, hQ30, l30, y30, z30⟩, st30⟩ := X28.virtualBack hx (y := my7) (z := my7) hown21 (mvT hZ21 (hwd28 hw)) (mvT hZ21 (hwd29 hw)) (notFace_of_selects (args := #[]) (mvT hZ21 (hwd31 hw))) (mvT hZ21 (hwd31 hw)) (mvT hZ21 (hwd30 hw)) (by decide) (backOf (W := 0) (tk0n l Z a0 hw [] b7 ar_e11 (own_draw p3) kc_e1 f2_e16 (T21.heap) n0 sz29 f26_E_b7 f31_F_b7_kept f32_F_b7_keptChars f33_F_b7_keptLength f34_F_b7_length f35_F_b7_valueLength f27_A_ar_e11 g_b7 g_ar_11 ne_a_ar_11 (own_dl p3) hb3 hkc_1) hZ21 (hwd32 hw) (hwd9 hw) (by decide) (by decide)) q30a q30c (g := (mkF m 119 #[.val (.int p1), .val (.int p2), .val (.int p3), .val (.int p4), .val (.int p5), .val (.ref lim_e1), .val (.int (own_draw p1)), .val (.int (own_draw p2)), .val (.int (own_draw p3)), .val (.int (own_draw p4)), .val (.ref b7), .val (.long (0 : Int64)), .second, .val (.int (1 : Int32)), .val (.ref so_e21), .unset, .unset, .unset, .unset, .unset] [(.int (own_draw p3)), (.ref b7)])) rfl (by rw [hml]; rfl) (Steps.refl _) (argsL := [(.int (own_draw p3))]) (rest := []) (lenOf pd_18 rfl) rfl (by show 2 * 0 + _ ≤ _; exact Nat.le_of_eq rfl) (hb hby at_119) (fun _ _ => ⟨rfl, e28q, (by decide : 5 + 0 ≤ _), (by decide : 77 + 0 ≤ _)⟩)
  dsimp only [Pt.U, Pt.locs, Pt.cells, Pt.slots] at X30 l30 y30 z30 st30 hQ30
  subst l30 y30 z30
  obtain ⟨rfl, N30q, K30, p30_1, p30_2, p30_3, p30_4, p30_5, p30_6, p30_7⟩ := hQ30
  have N30 := Fr.app N28 N30q
  have sz37 : n0 ≤ T30.heap.size := (Nat.le_trans sz29 K30.1)
  obtain ⟨cq36, kq36, q36a, q36b, q36c⟩ := isOf hZ21 rfl p30_1
  obtain ⟨_, _, ⟨T36, L36, k36, n36⟩, -, X36, ⟨Lc36, hQ36, l36, y36, z36⟩, st36⟩ := X30.virtualBack hx (y := my7) (z := my7) hown21 (mvT hZ21 (hwd28 hw)) (mvT hZ21 (hwd29 hw)) (notFace_of_selects (args := #[]) (mvT hZ21 (hwd31 hw))) (mvT hZ21 (hwd31 hw)) (mvT hZ21 (hwd30 hw)) (by decide) (backOf (W := 0) (tk1n l Z a0 hw [] b7 ar_e11 (own_draw p4) kc_e1 (fun jj_ => if jj_ = 0 then (.int (own_draw p3)) else f2_e16 jj_) (T30.heap) n0 sz37 p30_1 p30_2 p30_3 p30_4 p30_5 p30_6 p30_7 g_b7 g_ar_11 ne_a_ar_11 (own_dl p4) hb4 hkc_1) hZ21 (hwd32 hw) (hwd9 hw) (by decide) (by decide)) q36a q36c (g := (mkF m 126 #[.val (.int p1), .val (.int p2), .val (.int p3), .val (.int p4), .val (.int p5), .val (.ref lim_e1), .val (.int (own_draw p1)), .val (.int (own_draw p2)), .val (.int (own_draw p3)), .val (.int (own_draw p4)), .val (.ref b7), .val (.long (0 : Int64)), .second, .val (.int (1 : Int32)), .val (.ref so_e21), .unset, .unset, .unset, .unset, .unset] [(.int (own_draw p4)), (.ref b7)])) rfl (by rw [hml]; rfl) (Steps.refl _) (argsL := [(.int (own_draw p4))]) (rest := []) (lenOf pd_18 rfl) rfl (by show 2 * 0 + _ ≤ _; exact Nat.le_of_eq rfl) (hb hby at_126) (fun _ _ => ⟨rfl, rfl, (by decide : 5 + 0 ≤ _), (by decide : 77 + 0 ≤ _)⟩)
  dsimp only [Pt.U, Pt.locs, Pt.cells, Pt.slots] at X36 l36 y36 z36 st36 hQ36
  subst l36 y36 z36
  obtain ⟨rfl, N36q, K36, p36_1, p36_2, p36_3, p36_4, p36_5, p36_6, p36_7⟩ := hQ36
  have N36 := Fr.app N30 N36q
  have old39 : Old Z n0 T36.heap := (((old22.keep K21 all0).keep K30 (allS g_b7 (allS g_ar_11 all0))).keep K36 (allS g_b7 (allS g_ar_11 all0)))
  have sz40 : n0 ≤ T36.heap.size := (Nat.le_trans sz37 K36.1)
  obtain ⟨cq38, kq38, q38a, q38b, q38c⟩ := isOf hZ21 rfl p36_1
  obtain ⟨_, _, ⟨T38, L38, k38, n38⟩, -, X38, ⟨Lc38, hQ38, l38, y38, z38⟩, st38⟩ := X36.virtualBack hx (y := my20) (z := my20) hown21 (mvT hZ21 (hwd57 hw)) (mvT hZ21 (hwd58 hw)) (notFace_of_selects (args := #[]) (mvT hZ21 (hwd60 hw))) (mvT hZ21 (hwd60 hw)) (mvT hZ21 (hwd59 hw)) (by decide) (backOf (W := 0) (tx22 l Z a0 hw [] b7 ar_e11 (fun jj_ => if jj_ = 1 then (.int (own_draw p4)) else (fun jj_ => if jj_ = 0 then (.int (own_draw p3)) else f2_e16 jj_) jj_) cz sf (own_draw p3) (own_draw p4) (T36.heap) n0 sz40 p36_2 p36_4 p36_6 p36_7 rfl rfl (own_dl p3) (own_dl p4) O_C hcz O_S hsf old39) hZ21 (hwd61 hw) (hwd9 hw) (by decide) (by decide)) q38a q38c (g := (mkF m 131 #[.val (.int p1), .val (.int p2), .val (.int p3), .val (.int p4), .val (.int p5), .val (.ref lim_e1), .val (.int (own_draw p1)), .val (.int (own_draw p2)), .val (.int (own_draw p3)), .val (.int (own_draw p4)), .val (.ref b7), .val (.long (0 : Int64)), .second, .val (.int (1 : Int32)), .val (.ref so_e21), .unset, .unset, .unset, .unset, .unset] [(.ref b7)])) rfl (by rw [hml]; rfl) (Steps.refl _) (argsL := []) (rest := []) (lenOf pd_23 rfl) rfl (by show 2 * 0 + _ ≤ _; exact Nat.le_of_eq rfl) (hb hby at_131) (fun _ _ => ⟨rfl, rfl, (by decide : 5 + 2 ≤ _), (by decide : 77 + 6 ≤ _)⟩)
  dsimp only [Pt.U, Pt.locs, Pt.cells, Pt.slots] at X38 l38 y38 z38 st38 hQ38
  subst l38 y38 z38
  obtain ⟨so_e38, b_e38, kb_e38, rfl, N38q, K38, p38_1, p38_2, p38_3, p38_4⟩ := hQ38
  have N38 := Fr.app N36 N38q
  have f42_F_b7_valueLength := (p36_6.keep K38 nin0)
  have sz43 : n0 ≤ T38.heap.size := (Nat.le_trans sz40 K38.1)
  have f44_E_b7 := (p36_1.keep K38)
  obtain ⟨cq41, kq41, q41a, q41b, q41c⟩ := isOf hZ21 rfl f44_E_b7
  obtain ⟨_, _, ⟨T41, L41, k41, n41⟩, -, X41, ⟨Lc41, hQ41, l41, y41, z41⟩, st41⟩ := X38.virtualBack hx (y := my9) (z := my9) hown21 (mvT hZ21 (hwd47 hw)) (mvT hZ21 (hwd48 hw)) (notFace_of_selects (args := #[]) (mvT hZ21 (hwd50 hw))) (mvT hZ21 (hwd50 hw)) (mvT hZ21 (hwd49 hw)) (by decide) (backOf (W := 0) (len l Z a0 hw [] b7 (2 : Int64) (T38.heap) n0 sz43 f42_F_b7_valueLength) hZ21 (hwd51 hw) (hwd9 hw) (by decide) (by decide)) q41a q41c (g := (mkF m 138 #[.val (.int p1), .val (.int p2), .val (.int p3), .val (.int p4), .val (.int p5), .val (.ref lim_e1), .val (.int (own_draw p1)), .val (.int (own_draw p2)), .val (.int (own_draw p3)), .val (.int (own_draw p4)), .val (.ref b7), .val (.long (0 : Int64)), .second, .val (.int (1 : Int32)), .val (.ref so_e21), .val (.ref so_e38), .unset, .unset, .unset, .unset] [(.ref b7)])) rfl (by rw [hml]; rfl) (Steps.refl _) (argsL := []) (rest := []) (lenOf pd_22 rfl) rfl (by show 2 * 0 + _ ≤ _; exact Nat.le_of_eq rfl) (hb hby at_138) (fun _ _ => ⟨rfl, rfl, (by decide : 7 + 0 ≤ _), (by decide : 83 + 0 ≤ _)⟩)
  dsimp only [Pt.U, Pt.locs, Pt.cells, Pt.slots] at X41 l41 y41 z41 st41 hQ41
  subst l41 y41 z41
  obtain ⟨rfl, N41q, e41q⟩ := hQ41
  have N41 := Fr.app N38 N41q
  obtain ⟨_, _, ⟨T45, L45, k45, n45⟩, -, X45, ⟨Lc45, hQ45, l45, y45, z45⟩, st45⟩ := Jvm.LawKit.callS X41 hx (y := my2) hown21 (mvT hZ21 (hwd101 hw)) (mvT hZ21 (hwd102 hw)) (mvT hZ21 (hwd5 hw)) (mvT hZ21 (hwd103 hw)) (by decide) (backOf (W := 0) (bla l Z a0 hw [] (own_draw p3) (T38.heap) n0 sz43 ) hZ21 (hwd103 hw) (hwd5 hw) (by decide) (by decide)) (g := (mkF m 145 #[.val (.int p1), .val (.int p2), .val (.int p3), .val (.int p4), .val (.int p5), .val (.ref lim_e1), .val (.int (own_draw p1)), .val (.int (own_draw p2)), .val (.int (own_draw p3)), .val (.int (own_draw p4)), .val (.ref b7), .val (.long (0 : Int64)), .second, .val (.int (1 : Int32)), .val (.ref so_e21), .val (.ref so_e38), .val (.long (2 : Int64)), .second, .unset, .unset] [(.int (own_draw p3))])) rfl (by rw [hml]; rfl) (argsL := [(.int (own_draw p3))]) (rest := []) (lenOf pd_2 rfl) rfl (by show 2 * 0 + _ ≤ _; exact Nat.le_of_eq rfl) (hb hby at_145) (fun _ _ => ⟨rfl, e41q, (by decide : 7 + 0 ≤ _), (by decide : 83 + 0 ≤ _)⟩)
  dsimp only [Pt.U, Pt.locs, Pt.cells, Pt.slots] at X45 l45 y45 z45 st45 hQ45
  subst l45 y45 z45
  obtain ⟨rfl, N45q, e45q⟩ := hQ45
  have N45 := Fr.app N41 N45q
  obtain ⟨_, _, ⟨T46, L46, k46, n46⟩, -, X46, ⟨Lc46, hQ46, l46, y46, z46⟩, st46⟩ := Jvm.LawKit.callS X45 hx (y := my2) hown21 (mvT hZ21 (hwd101 hw)) (mvT hZ21 (hwd102 hw)) (mvT hZ21 (hwd5 hw)) (mvT hZ21 (hwd103 hw)) (by decide) (backOf (W := 0) (bla l Z a0 hw [] (own_draw p4) (T38.heap) n0 sz43 ) hZ21 (hwd103 hw) (hwd5 hw) (by decide) (by decide)) (g := (mkF m 152 #[.val (.int p1), .val (.int p2), .val (.int p3), .val (.int p4), .val (.int p5), .val (.ref lim_e1), .val (.int (own_draw p1)), .val (.int (own_draw p2)), .val (.int (own_draw p3)), .val (.int (own_draw p4)), .val (.ref b7), .val (.long (0 : Int64)), .second, .val (.int (1 : Int32)), .val (.ref so_e21), .val (.ref so_e38), .val (.long (2 : Int64)), .second, .val (.int (own_bl (own_draw p3))), .unset] [(.int (own_draw p4))])) rfl (by rw [hml]; rfl) (argsL := [(.int (own_draw p4))]) (rest := []) (lenOf pd_2 rfl) rfl (by show 2 * 0 + _ ≤ _; exact Nat.le_of_eq rfl) (hb hby at_152) (fun _ _ => ⟨rfl, e45q, (by decide : 7 + 0 ≤ _), (by decide : 83 + 0 ≤ _)⟩)
  dsimp only [Pt.U, Pt.locs, Pt.cells, Pt.slots] at X46 l46 y46 z46 st46 hQ46
  subst l46 y46 z46
  obtain ⟨rfl, N46q, e46q⟩ := hQ46
  have N46 := Fr.app N45 N46q
  have old48 : Old Z n0 T38.heap := (old39.keep K38 all0)
  obtain ⟨cq47, kq47, q47a, q47b, q47c⟩ := isOf hZ21 e46q p38_1
  obtain ⟨_, _, ⟨T47, L47, k47, n47⟩, -, X47, ⟨Lc47, hQ47, l47, y47, z47⟩, st47⟩ := X46.virtualBack hx (y := my24) (z := my24) hown21 (mvT hZ21 (hwd124 hw)) (mvT hZ21 (hwd125 hw)) (notFace_of_selects (args := #[]) (mvT hZ21 (hwd127 hw))) (mvT hZ21 (hwd127 hw)) (mvT hZ21 (hwd126 hw)) (by decide) (backOf (W := 0) (sle2 l Z a0 hw [] so_e38 b_e38 kb_e38 cz (own_draw p3) (own_draw p4) (T38.heap) n0 sz43 p38_1 p38_2 p38_3 p38_4 O_C hcz old48) hZ21 (hwd128 hw) (hwd64 hw) (by decide) (by decide)) q47a q47c (g := (mkF m 178 #[.val (.int p1), .val (.int p2), .val (.int p3), .val (.int p4), .val (.int p5), .val (.ref lim_e1), .val (.int (own_draw p1)), .val (.int (own_draw p2)), .val (.int (own_draw p3)), .val (.int (own_draw p4)), .val (.ref b7), .val (.long (0 : Int64)), .second, .val (.int (1 : Int32)), .val (.ref so_e21), .val (.ref so_e38), .val (.long (2 : Int64)), .second, .val (.int (own_bl (own_draw p3))), .val (.int (own_bl (own_draw p4)))] [(.ref so_e38)])) rfl (by rw [hml]; rfl) (Steps.refl _) (argsL := []) (rest := []) (lenOf pd_0 rfl) rfl (by show 2 * 0 + _ ≤ _; exact Nat.le_of_eq rfl) (hb hby at_178) (fun _ _ => ⟨rfl, e46q, (by decide : 7 + 0 ≤ _), (by decide : 83 + 0 ≤ _)⟩)
  dsimp only [Pt.U, Pt.locs, Pt.cells, Pt.slots] at X47 l47 y47 z47 st47 hQ47
  subst l47 y47 z47
  obtain ⟨rfl, N47q, e47q⟩ := hQ47
  have N47 := Fr.app N46 N47q
  obtain ⟨cq49, kq49, q49a, q49b, q49c⟩ := isOf hZ21 e47q p38_1
  obtain ⟨_, _, ⟨T49, L49, k49, n49⟩, -, X49, ⟨Lc49, hQ49, l49, y49, z49⟩, st49⟩ := X47.virtualBack hx (y := my28) (z := my28) hown21 (mvT hZ21 (hwd134 hw)) (mvT hZ21 (hwd135 hw)) (notFace_of_selects (args := #[]) (mvT hZ21 (hwd137 hw))) (mvT hZ21 (hwd137 hw)) (mvT hZ21 (hwd136 hw)) (by decide) (backOf (W := 0) (sca02 l Z a0 hw [] so_e38 b_e38 kb_e38 cz sf (own_draw p3) (own_draw p4) (T38.heap) n0 sz43 p38_1 p38_2 p38_3 p38_4 (own_dl p3) (own_dl p4) O_C hcz old48 O_S hsf) hZ21 (hwd138 hw) (hwd64 hw) (by decide) (by decide)) q49a q49c (g := (mkF m 188 #[.val (.int p1), .val (.int p2), .val (.int p3), .val (.int p4), .val (.int p5), .val (.ref lim_e1), .val (.int (own_draw p1)), .val (.int (own_draw p2)), .val (.int (own_draw p3)), .val (.int (own_draw p4)), .val (.ref b7), .val (.long (0 : Int64)), .second, .val (.int (1 : Int32)), .val (.ref so_e21), .val (.ref so_e38), .val (.long (2 : Int64)), .second, .val (.int (own_bl (own_draw p3))), .val (.int (own_bl (own_draw p4)))] [(.int (0 : Int32)), (.ref so_e38)])) rfl (by rw [hml]; rfl) (Steps.refl _) (argsL := [(.int (0 : Int32))]) (rest := []) (lenOf pd_20 rfl) rfl (by show 2 * 0 + _ ≤ _; exact Nat.le_of_eq rfl) (hb hby at_188) (fun _ _ => ⟨rfl, e47q, (by decide : 7 + 0 ≤ _), (by decide : 83 + 0 ≤ _)⟩)
  dsimp only [Pt.U, Pt.locs, Pt.cells, Pt.slots] at X49 l49 y49 z49 st49 hQ49
  subst l49 y49 z49
  obtain ⟨rfl, N49q, e49q⟩ := hQ49
  have N49 := Fr.app N47 N49q
  obtain ⟨cq50, kq50, q50a, q50b, q50c⟩ := isOf hZ21 e49q p38_1
  obtain ⟨_, _, ⟨T50, L50, k50, n50⟩, -, X50, ⟨Lc50, hQ50, l50, y50, z50⟩, st50⟩ := X49.virtualBack hx (y := my28) (z := my28) hown21 (mvT hZ21 (hwd134 hw)) (mvT hZ21 (hwd135 hw)) (notFace_of_selects (args := #[]) (mvT hZ21 (hwd137 hw))) (mvT hZ21 (hwd137 hw)) (mvT hZ21 (hwd136 hw)) (by decide) (backOf (W := 0) (sca12 l Z a0 hw [] so_e38 b_e38 kb_e38 cz sf (own_draw p3) (own_draw p4) (T38.heap) n0 sz43 p38_1 p38_2 p38_3 p38_4 (own_dl p3) (own_dl p4) O_C hcz old48 O_S hsf) hZ21 (hwd138 hw) (hwd64 hw) (by decide) (by decide)) q50a q50c (g := (mkF m 199 #[.val (.int p1), .val (.int p2), .val (.int p3), .val (.int p4), .val (.int p5), .val (.ref lim_e1), .val (.int (own_draw p1)), .val (.int (own_draw p2)), .val (.int (own_draw p3)), .val (.int (own_draw p4)), .val (.ref b7), .val (.long (0 : Int64)), .second, .val (.int (1 : Int32)), .val (.ref so_e21), .val (.ref so_e38), .val (.long (2 : Int64)), .second, .val (.int (own_bl (own_draw p3))), .val (.int (own_bl (own_draw p4)))] [(.int (1 : Int32)), (.ref so_e38)])) rfl (by rw [hml]; rfl) (Steps.refl _) (argsL := [(.int (1 : Int32))]) (rest := []) (lenOf pd_20 rfl) rfl (by show 2 * 0 + _ ≤ _; exact Nat.le_of_eq rfl) (hb hby at_199) (fun _ _ => ⟨rfl, e49q, (by decide : 7 + 0 ≤ _), (by decide : 83 + 0 ≤ _)⟩)
  dsimp only [Pt.U, Pt.locs, Pt.cells, Pt.slots] at X50 l50 y50 z50 st50 hQ50
  subst l50 y50 z50
  obtain ⟨rfl, N50q, e50q⟩ := hQ50
  have N50 := Fr.app N49 N50q
  have CR51h : CHr Z consts_1 s.vm h0 T21.vm T38.heap := CR21.trans (CHr.keep ((((Keep.refl T21.heap [b7, ar_e11]).trans K30 (allS (Or.inl (List.mem_of_getElem? (i := 0) rfl)) (allS (Or.inl (List.mem_of_getElem? (i := 1) rfl)) all0))).trans K36 (allS (Or.inl (List.mem_of_getElem? (i := 0) rfl)) (allS (Or.inl (List.mem_of_getElem? (i := 1) rfl)) all0))).trans K38 all0) (sfS (Safe.exa hZ21.alike f26_E_b7 (by decide) (by decide)) (sfS (own_safeA hZ21.alike f27_A_ar_e11 (by decide)) sf0)) CR21.1)
  have hk52 : _ ≤ T38.heap.size := (Nat.le_trans (Nat.le_trans (Nat.le_trans hk21 K30.1) K36.1) K38.1)
  have hkE := Nat.le_trans hk52 (Nat.le_of_eq (congrArg Array.size (show T38.heap = T50.heap from Eq.symm e50q)))
  obtain ⟨fs, hr, hrun, hended, hRE⟩ := X50.leaveW hS21 hkE (v := some (.int (1 : Int32))) (fun h => by rw [Bd.returns] at h; cases h)
  refine ⟨_, _, pre0 _ ?_, hrun, hended, _, _, rfl, ?_, ?_, hRE.1, hRE.2.1, hRE.2.2.1, hRE.2.2.2.mono (by decide) (by decide)⟩
  · show Steps p.tables e below (s₁.setTop (mkF m 0 #[.val (.int p1), .val (.int p2), .val (.int p3), .val (.int p4), .val (.int p5), .unset, .unset, .unset, .unset, .unset, .unset, .unset, .unset, .unset, .unset, .unset, .unset, .unset, .unset, .unset] [])) _
    refine st1 _ ?_
    refine XS.astore X1.here hx rfl (hb hby at_16) rfl rfl (l' := #[.val (.int p1), .val (.int p2), .val (.int p3), .val (.int p4), .val (.int p5), .val (.ref lim_e1), .unset, .unset, .unset, .unset, .unset, .unset, .unset, .unset, .unset, .unset, .unset, .unset, .unset, .unset]) rfl ?_
    refine XS.iloadN X1.here hx rfl (hb hby at_18) rfl ?_
    refine st2 _ ?_
    refine XS.istore X2.here hx rfl (hb hby at_22) rfl (l' := #[.val (.int p1), .val (.int p2), .val (.int p3), .val (.int p4), .val (.int p5), .val (.ref lim_e1), .val (.int (own_draw p1)), .unset, .unset, .unset, .unset, .unset, .unset, .unset, .unset, .unset, .unset, .unset, .unset, .unset]) rfl ?_
    refine XS.iloadN X2.here hx rfl (hb hby at_24) rfl ?_
    show Steps p.tables e below (T2.setTop (mkF m 25 #[.val (.int p1), .val (.int p2), .val (.int p3), .val (.int p4), .val (.int p5), .val (.ref lim_e1), .val (.int (own_draw p1)), .unset, .unset, .unset, .unset, .unset, .unset, .unset, .unset, .unset, .unset, .unset, .unset, .unset] [(.int p2)])) _
    refine st4 _ ?_
    refine XS.istore X4.here hx rfl (hb hby at_28) rfl (l' := #[.val (.int p1), .val (.int p2), .val (.int p3), .val (.int p4), .val (.int p5), .val (.ref lim_e1), .val (.int (own_draw p1)), .val (.int (own_draw p2)), .unset, .unset, .unset, .unset, .unset, .unset, .unset, .unset, .unset, .unset, .unset, .unset]) rfl ?_
    refine XS.iloadN X4.here hx rfl (hb hby at_30) rfl ?_
    refine st5 _ ?_
    refine XS.istore X5.here hx rfl (hb hby at_34) rfl (l' := #[.val (.int p1), .val (.int p2), .val (.int p3), .val (.int p4), .val (.int p5), .val (.ref lim_e1), .val (.int (own_draw p1)), .val (.int (own_draw p2)), .val (.int (own_draw p3)), .unset, .unset, .unset, .unset, .unset, .unset, .unset, .unset, .unset, .unset, .unset]) rfl ?_
    refine XS.iloadN X5.here hx rfl (hb hby at_36) rfl ?_
    show Steps p.tables e below (T5.setTop (mkF m 37 #[.val (.int p1), .val (.int p2), .val (.int p3), .val (.int p4), .val (.int p5), .val (.ref lim_e1), .val (.int (own_draw p1)), .val (.int (own_draw p2)), .val (.int (own_draw p3)), .unset, .unset, .unset, .unset, .unset, .unset, .unset, .unset, .unset, .unset, .unset] [(.int p4)])) _
    refine st6 _ ?_
    refine XS.istore X6.here hx rfl (hb hby at_40) rfl (l' := #[.val (.int p1), .val (.int p2), .val (.int p3), .val (.int p4), .val (.int p5), .val (.ref lim_e1), .val (.int (own_draw p1)), .val (.int (own_draw p2)), .val (.int (own_draw p3)), .val (.int (own_draw p4)), .unset, .unset, .unset, .unset, .unset, .unset, .unset, .unset, .unset, .unset]) rfl ?_
    refine st7 _ ?_
    refine XS.dup X7.here hx rfl (hb hby at_45) rfl rfl ?_
    refine XS.aload X7.here hx rfl (hb hby at_46) rfl rfl ?_
    refine st11.trans ?_
    show Steps p.tables e below (T11.setTop (mkF m 51 #[.val (.int p1), .val (.int p2), .val (.int p3), .val (.int p4), .val (.int p5), .val (.ref lim_e1), .val (.int (own_draw p1)), .val (.int (own_draw p2)), .val (.int (own_draw p3)), .val (.int (own_draw p4)), .unset, .unset, .unset, .unset, .unset, .unset, .unset, .unset, .unset, .unset] [(.ref b7)])) _
    refine XS.astore X11.here hx rfl (hb hby at_51) rfl rfl (l' := #[.val (.int p1), .val (.int p2), .val (.int p3), .val (.int p4), .val (.int p5), .val (.ref lim_e1), .val (.int (own_draw p1)), .val (.int (own_draw p2)), .val (.int (own_draw p3)), .val (.int (own_draw p4)), .val (.ref b7), .unset, .unset, .unset, .unset, .unset, .unset, .unset, .unset, .unset]) rfl ?_
    show Steps p.tables e below (T11.setTop (mkF m 53 #[.val (.int p1), .val (.int p2), .val (.int p3), .val (.int p4), .val (.int p5), .val (.ref lim_e1), .val (.int (own_draw p1)), .val (.int (own_draw p2)), .val (.int (own_draw p3)), .val (.int (own_draw p4)), .val (.ref b7), .unset, .unset, .unset, .unset, .unset, .unset, .unset, .unset, .unset] [])) _
    refine st16 _ ?_
    refine XS.aload X16.here hx rfl (hb hby at_72) rfl rfl ?_
    refine st18.trans ?_
    refine XS.lstore X18.here hx rfl (hb hby at_77) rfl (l' := #[.val (.int p1), .val (.int p2), .val (.int p3), .val (.int p4), .val (.int p5), .val (.ref lim_e1), .val (.int (own_draw p1)), .val (.int (own_draw p2)), .val (.int (own_draw p3)), .val (.int (own_draw p4)), .val (.ref b7), .val (.long (0 : Int64)), .second, .unset, .unset, .unset, .unset, .unset, .unset, .unset]) rfl ?_
    refine XS.aload X18.here hx rfl (hb hby at_79) rfl rfl ?_
    refine st20.trans ?_
    show Steps p.tables e below (T20.setTop (mkF m 84 #[.val (.int p1), .val (.int p2), .val (.int p3), .val (.int p4), .val (.int p5), .val (.ref lim_e1), .val (.int (own_draw p1)), .val (.int (own_draw p2)), .val (.int (own_draw p3)), .val (.int (own_draw p4)), .val (.ref b7), .val (.long (0 : Int64)), .second, .unset, .unset, .unset, .unset, .unset, .unset, .unset] [(.int (1 : Int32))])) _
    refine XS.istore X20.here hx rfl (hb hby at_84) rfl (l' := #[.val (.int p1), .val (.int p2), .val (.int p3), .val (.int p4), .val (.int p5), .val (.ref lim_e1), .val (.int (own_draw p1)), .val (.int (own_draw p2)), .val (.int (own_draw p3)), .val (.int (own_draw p4)), .val (.ref b7), .val (.long (0 : Int64)), .second, .val (.int (1 : Int32)), .unset, .unset, .unset, .unset, .unset, .unset]) rfl ?_
    refine XS.aload X20.here hx rfl (hb hby at_86) rfl rfl ?_
    refine st21.trans ?_
    refine XS.astore X21.here hx rfl (hb hby at_91) rfl rfl (l' := #[.val (.int p1), .val (.int p2), .val (.int p3), .val (.int p4), .val (.int p5), .val (.ref lim_e1), .val (.int (own_draw p1)), .val (.int (own_draw p2)), .val (.int (own_draw p3)), .val (.int (own_draw p4)), .val (.ref b7), .val (.long (0 : Int64)), .second, .val (.int (1 : Int32)), .val (.ref so_e21), .unset, .unset, .unset, .unset, .unset]) rfl ?_
    refine XS.lload X21.here hx rfl (hb hby at_93) rfl ?_
    refine XS.lconst X21.here hx rfl (hb hby at_95) ?_
    show Steps p.tables e below (T21.setTop (mkF m 96 #[.val (.int p1), .val (.int p2), .val (.int p3), .val (.int p4), .val (.int p5), .val (.ref lim_e1), .val (.int (own_draw p1)), .val (.int (own_draw p2)), .val (.int (own_draw p3)), .val (.int (own_draw p4)), .val (.ref b7), .val (.long (0 : Int64)), .second, .val (.int (1 : Int32)), .val (.ref so_e21), .unset, .unset, .unset, .unset, .unset] [(.long (0 : Int64)), (.long (0 : Int64))])) _
    refine XS.lcmp X21.here hx rfl (hb hby at_96) rfl ?_
    refine XS.ifNo X21.here hx rfl (hb hby at_97) rfl ((if0 _ _).trans (teq (show (lcmpW (0 : Int64) (0 : Int64)) = (0 : Int32) from (by decide))).2) ?_
    refine XS.iload X21.here hx rfl (hb hby at_100) rfl ?_
    refine XS.ifNo X21.here hx rfl (hb hby at_102) rfl ((if0 _ _).trans (feq (show ¬ ((1 : Int32) = (0 : Int32)) from (by decide))).1) ?_
    refine XS.aload X21.here hx rfl (hb hby at_105) rfl rfl ?_
    refine st28.trans ?_
    show Steps p.tables e below (T28.setTop (mkF m 110 #[.val (.int p1), .val (.int p2), .val (.int p3), .val (.int p4), .val (.int p5), .val (.ref lim_e1), .val (.int (own_draw p1)), .val (.int (own_draw p2)), .val (.int (own_draw p3)), .val (.int (own_draw p4)), .val (.ref b7), .val (.long (0 : Int64)), .second, .val (.int (1 : Int32)), .val (.ref so_e21), .unset, .unset, .unset, .unset, .unset] [(.int (1 : Int32))])) _
    refine XS.ifYes X28.here hx rfl (pc0 := 110) (pc' := 115) rfl (hb hby at_110) rfl ((if0 _ _).trans (feq (show ¬ ((1 : Int32) = (0 : Int32)) from (by decide))).2) (by decide) (by decide) ?_
    refine XS.aload X28.here hx rfl (hb hby at_115) rfl rfl ?_
    refine XS.iload X28.here hx rfl (hb hby at_117) rfl ?_
    refine st30.trans ?_
    refine XS.aload X30.here hx rfl (hb hby at_122) rfl rfl ?_
    refine XS.iload X30.here hx rfl (hb hby at_124) rfl ?_
    show Steps p.tables e below (T30.setTop (mkF m 126 #[.val (.int p1), .val (.int p2), .val (.int p3), .val (.int p4), .val (.int p5), .val (.ref lim_e1), .val (.int (own_draw p1)), .val (.int (own_draw p2)), .val (.int (own_draw p3)), .val (.int (own_draw p4)), .val (.ref b7), .val (.long (0 : Int64)), .second, .val (.int (1 : Int32)), .val (.ref so_e21), .unset, .unset, .unset, .unset, .unset] [(.int (own_draw p4)), (.ref b7)])) _
    refine st36.trans ?_
    refine XS.aload X36.here hx rfl (hb hby at_129) rfl rfl ?_
    refine st38.trans ?_
    refine XS.astore X38.here hx rfl (hb hby at_134) rfl rfl (l' := #[.val (.int p1), .val (.int p2), .val (.int p3), .val (.int p4), .val (.int p5), .val (.ref lim_e1), .val (.int (own_draw p1)), .val (.int (own_draw p2)), .val (.int (own_draw p3)), .val (.int (own_draw p4)), .val (.ref b7), .val (.long (0 : Int64)), .second, .val (.int (1 : Int32)), .val (.ref so_e21), .val (.ref so_e38), .unset, .unset, .unset, .unset]) rfl ?_
    refine XS.aload X38.here hx rfl (hb hby at_136) rfl rfl ?_
    refine st41.trans ?_
    show Steps p.tables e below (T41.setTop (mkF m 141 #[.val (.int p1), .val (.int p2), .val (.int p3), .val (.int p4), .val (.int p5), .val (.ref lim_e1), .val (.int (own_draw p1)), .val (.int (own_draw p2)), .val (.int (own_draw p3)), .val (.int (own_draw p4)), .val (.ref b7), .val (.long (0 : Int64)), .second, .val (.int (1 : Int32)), .val (.ref so_e21), .val (.ref so_e38), .unset, .unset, .unset, .unset] [(.long (2 : Int64))])) _
    refine XS.lstore X41.here hx rfl (hb hby at_141) rfl (l' := #[.val (.int p1), .val (.int p2), .val (.int p3), .val (.int p4), .val (.int p5), .val (.ref lim_e1), .val (.int (own_draw p1)), .val (.int (own_draw p2)), .val (.int (own_draw p3)), .val (.int (own_draw p4)), .val (.ref b7), .val (.long (0 : Int64)), .second, .val (.int (1 : Int32)), .val (.ref so_e21), .val (.ref so_e38), .val (.long (2 : Int64)), .second, .unset, .unset]) rfl ?_
    refine XS.iload X41.here hx rfl (hb hby at_143) rfl ?_
    refine st45 _ ?_
    refine XS.istore X45.here hx rfl (hb hby at_148) rfl (l' := #[.val (.int p1), .val (.int p2), .val (.int p3), .val (.int p4), .val (.int p5), .val (.ref lim_e1), .val (.int (own_draw p1)), .val (.int (own_draw p2)), .val (.int (own_draw p3)), .val (.int (own_draw p4)), .val (.ref b7), .val (.long (0 : Int64)), .second, .val (.int (1 : Int32)), .val (.ref so_e21), .val (.ref so_e38), .val (.long (2 : Int64)), .second, .val (.int (own_bl (own_draw p3))), .unset]) rfl ?_
    refine XS.iload X45.here hx rfl (hb hby at_150) rfl ?_
    refine st46 _ ?_
    show Steps p.tables e below (T46.setTop (mkF m 155 #[.val (.int p1), .val (.int p2), .val (.int p3), .val (.int p4), .val (.int p5), .val (.ref lim_e1), .val (.int (own_draw p1)), .val (.int (own_draw p2)), .val (.int (own_draw p3)), .val (.int (own_draw p4)), .val (.ref b7), .val (.long (0 : Int64)), .second, .val (.int (1 : Int32)), .val (.ref so_e21), .val (.ref so_e38), .val (.long (2 : Int64)), .second, .val (.int (own_bl (own_draw p3))), .unset] [(.int (own_bl (own_draw p4)))])) _
    refine XS.istore X46.here hx rfl (hb hby at_155) rfl (l' := #[.val (.int p1), .val (.int p2), .val (.int p3), .val (.int p4), .val (.int p5), .val (.ref lim_e1), .val (.int (own_draw p1)), .val (.int (own_draw p2)), .val (.int (own_draw p3)), .val (.int (own_draw p4)), .val (.ref b7), .val (.long (0 : Int64)), .second, .val (.int (1 : Int32)), .val (.ref so_e21), .val (.ref so_e38), .val (.long (2 : Int64)), .second, .val (.int (own_bl (own_draw p3))), .val (.int (own_bl (own_draw p4)))]) rfl ?_
    refine XS.iload X46.here hx rfl (hb hby at_157) rfl ?_
    refine XS.ifNo X46.here hx rfl (hb hby at_159) rfl ((if0 _ _).trans (teq (show (own_bl (own_draw p3)) = (0 : Int32) from hb3)).2) ?_
    refine XS.iload X46.here hx rfl (hb hby at_162) rfl ?_
    refine XS.ifNo X46.here hx rfl (hb hby at_164) rfl ((if0 _ _).trans (teq (show (own_bl (own_draw p4)) = (0 : Int32) from hb4)).2) ?_
    refine XS.lload X46.here hx rfl (hb hby at_167) rfl ?_
    show Steps p.tables e below (T46.setTop (mkF m 169 #[.val (.int p1), .val (.int p2), .val (.int p3), .val (.int p4), .val (.int p5), .val (.ref lim_e1), .val (.int (own_draw p1)), .val (.int (own_draw p2)), .val (.int (own_draw p3)), .val (.int (own_draw p4)), .val (.ref b7), .val (.long (0 : Int64)), .second, .val (.int (1 : Int32)), .val (.ref so_e21), .val (.ref so_e38), .val (.long (2 : Int64)), .second, .val (.int (own_bl (own_draw p3))), .val (.int (own_bl (own_draw p4)))] [(.long (2 : Int64))])) _
    refine X46.ldc2Long hx hown21 (mvT hZ21 (hwd154 hw)) (g := (mkF m 169 #[.val (.int p1), .val (.int p2), .val (.int p3), .val (.int p4), .val (.int p5), .val (.ref lim_e1), .val (.int (own_draw p1)), .val (.int (own_draw p2)), .val (.int (own_draw p3)), .val (.int (own_draw p4)), .val (.ref b7), .val (.long (0 : Int64)), .second, .val (.int (1 : Int32)), .val (.ref so_e21), .val (.ref so_e38), .val (.long (2 : Int64)), .second, .val (.int (own_bl (own_draw p3))), .val (.int (own_bl (own_draw p4)))] [(.long (2 : Int64))])) rfl (hb hby at_169) _ ?_
    refine XS.lcmp X46.here hx rfl (hb hby at_172) rfl ?_
    refine XS.ifNo X46.here hx rfl (hb hby at_173) rfl ((if0 _ _).trans (teq (show (lcmpW (2 : Int64) (2 : Int64)) = (0 : Int32) from (by decide))).2) ?_
    refine XS.aload X46.here hx rfl (hb hby at_176) rfl rfl ?_
    refine st47.trans ?_
    refine XS.iconst X47.here hx rfl (hb hby at_181) ?_
    show Steps p.tables e below (T47.setTop (mkF m 182 #[.val (.int p1), .val (.int p2), .val (.int p3), .val (.int p4), .val (.int p5), .val (.ref lim_e1), .val (.int (own_draw p1)), .val (.int (own_draw p2)), .val (.int (own_draw p3)), .val (.int (own_draw p4)), .val (.ref b7), .val (.long (0 : Int64)), .second, .val (.int (1 : Int32)), .val (.ref so_e21), .val (.ref so_e38), .val (.long (2 : Int64)), .second, .val (.int (own_bl (own_draw p3))), .val (.int (own_bl (own_draw p4)))] [(.int (2 : Int32)), (.int (2 : Int32))])) _
    refine XS.icmpNo X47.here hx rfl (hb hby at_182) rfl (teq (show (2 : Int32) = (2 : Int32) from rfl)).2 ?_
    refine XS.aload X47.here hx rfl (hb hby at_185) rfl rfl ?_
    refine XS.iconst X47.here hx rfl (hb hby at_187) ?_
    refine st49.trans ?_
    refine XS.iload X49.here hx rfl (hb hby at_191) rfl ?_
    refine XS.icmpNo X49.here hx rfl (hb hby at_193) rfl (teq (show (own_draw p3) = (own_draw p3) from rfl)).2 ?_
    show Steps p.tables e below (T49.setTop (mkF m 196 #[.val (.int p1), .val (.int p2), .val (.int p3), .val (.int p4), .val (.int p5), .val (.ref lim_e1), .val (.int (own_draw p1)), .val (.int (own_draw p2)), .val (.int (own_draw p3)), .val (.int (own_draw p4)), .val (.ref b7), .val (.long (0 : Int64)), .second, .val (.int (1 : Int32)), .val (.ref so_e21), .val (.ref so_e38), .val (.long (2 : Int64)), .second, .val (.int (own_bl (own_draw p3))), .val (.int (own_bl (own_draw p4)))] [])) _
    refine XS.aload X49.here hx rfl (hb hby at_196) rfl rfl ?_
    refine XS.iconst X49.here hx rfl (hb hby at_198) ?_
    refine st50.trans ?_
    refine XS.iload X50.here hx rfl (hb hby at_202) rfl ?_
    refine XS.icmpNo X50.here hx rfl (hb hby at_204) rfl (teq (show (own_draw p4) = (own_draw p4) from rfl)).2 ?_
    refine XS.iconst X50.here hx rfl (hb hby at_207) ?_
    show Steps p.tables e below (T50.setTop (mkF m 208 #[.val (.int p1), .val (.int p2), .val (.int p3), .val (.int p4), .val (.int p5), .val (.ref lim_e1), .val (.int (own_draw p1)), .val (.int (own_draw p2)), .val (.int (own_draw p3)), .val (.int (own_draw p4)), .val (.ref b7), .val (.long (0 : Int64)), .second, .val (.int (1 : Int32)), .val (.ref so_e21), .val (.ref so_e38), .val (.long (2 : Int64)), .second, .val (.int (own_bl (own_draw p3))), .val (.int (own_bl (own_draw p4)))] [(.int (1 : Int32))])) _
    refine XS.goto X50.here hx rfl (pc0 := 208) (pc' := 212) rfl (hb hby at_208) (by decide) (by decide) ?_
    exact retN X50 hx (t := .boolean) Bd.returns (by simp) (hb hby at_212) hr
  · show Qrm0 Z p1 p2 p3 p4 p5 vo lq cz sf h0 n0 _ T50.heap _
    rw [e50q]
    exact ⟨rfl, N50⟩
  · show CHr Z consts_1 s.vm s.heap T50.vm T50.heap
    rw [hh, e50q]
    exact CR51h.trans (CHv.at X50 hZ21 (own_EL hw) CR51h.1)
theorem rm0 (l : Launch) (Z : State) (a0 : Array Value) (hw : ∀ d ∈ tables_1, d.before a0 Z = true) (ws : List Jvm.Cond) (p1 : Int32) (p2 : Int32) (p3 : Int32) (p4 : Int32) (p5 : Int32) (vo : Addr) (lq : Addr) (cz : Int32) (sf : Value) (h0 : Heap) (n0 : Nat) (Z0 : n0 ≤ h0.size) (O_V : Sta Z Z.heap "com/example/libsitemap/libsitemap/FieldFormat$TextLimit" "VALUE" "Lcom/example/libsitemap/libsitemap/FieldFormat$TextLimit;" (.ref vo)) (O_L : Sta Z Z.heap "com/example/libsitemap/libsitemap/FieldFormat$TextLimit" "LOC" "Lcom/example/libsitemap/libsitemap/FieldFormat$TextLimit;" (.ref lq)) (E_vo : Exa Z h0 vo "com/example/libsitemap/libsitemap/FieldFormat$TextLimit") (F_chars_vo : Fld Z h0 vo "com/example/libsitemap/libsitemap/FieldFormat$TextLimit" "chars" "I" (.int (128 : Int32))) (E_lq : Exa Z h0 lq "com/example/libsitemap/libsitemap/FieldFormat$TextLimit") (F_chars_lq : Fld Z h0 lq "com/example/libsitemap/libsitemap/FieldFormat$TextLimit" "chars" "I" (.int (2047 : Int32))) (O_C : Sta Z Z.heap "java/lang/String" "COMPACT_STRINGS" "Z" (.int cz)) (hcz : ¬ (cz = (0 : Int32))) (O_S : Sta Z Z.heap "jdk/internal/util/Preconditions" "SIOOBE_FORMATTER" "Ljava/util/function/BiFunction;" sf) (hsf : sf.isRef = true) (X00 : Old Z n0 h0) :
    MetFree l x (head1 (Jvm.Cond.code x code maxLocals ret :: ws) room_1) (fun aa_ U => aa_ = #[(.int p1), (.int p2), (.int p3), (.int p4), (.int p5)] ∧ Z.Warmed39 U.vm ∧ U.heap = h0 ∧ CHv Z consts_1 U.vm h0) (fun _ _ _ _ _ => True) (fun _ U oo_ U' => ∃ v L, oo_ = .returned v ∧ Qrm0 Z p1 p2 p3 p4 p5 vo lq cz sf h0 n0 v U'.heap L ∧ CHr Z consts_1 U.vm U.heap U'.vm U'.heap ∧ ReturnedEndW U oo_ U' L room_1.cells room_1.slots) := by
  by_cases hb3 : own_bl (own_draw p3) = (0 : Int32)
  · by_cases hb4 : own_bl (own_draw p4) = (0 : Int32)
    · exact law_00 l Z a0 hw ws p1 p2 p3 p4 p5 vo lq cz sf h0 n0 Z0 O_V O_L E_vo F_chars_vo E_lq F_chars_lq O_C hcz O_S hsf X00 hb3 hb4
    · exact law_01 l Z a0 hw ws p1 p2 p3 p4 p5 vo lq cz sf h0 n0 Z0 O_V O_L E_vo F_chars_vo E_lq F_chars_lq O_C hcz O_S hsf X00 hb3 hb4
  · by_cases hb4 : own_bl (own_draw p4) = (0 : Int32)
    · exact law_10 l Z a0 hw ws p1 p2 p3 p4 p5 vo lq cz sf h0 n0 Z0 O_V O_L E_vo F_chars_vo E_lq F_chars_lq O_C hcz O_S hsf X00 hb3 hb4
    · exact law_11 l Z a0 hw ws p1 p2 p3 p4 p5 vo lq cz sf h0 n0 Z0 O_V O_L E_vo F_chars_vo E_lq F_chars_lq O_C hcz O_S hsf X00 hb3 hb4
set_option maxRecDepth 65536 in
set_option maxHeartbeats 40000000 in
theorem comes_1 {Post : Tables → Env → Array Value → State → Outcome → State → Prop} (hpost : ∀ tb e args s v u, (limb_1_1.after args s (.returned v) u = true ∧ limb_1_2.after args s (.returned v) u = true ∧ True) → ReturnedEndW s (.returned v) u (Jvm.fieldLocs frame_1_writes args s ++ Jvm.arrayLocs frame_1_arrays args s ++ Jvm.staticLocs frame_1_statics s) 24 1280 → Post tb e args s (.returned v) u) :
    ArmFor flags0 classFile x code maxLocals ret World_1 tables_1 room_1 Calls_1 rest_1 Pre_1 Post := by
  intro l hfl _ _ p e ha hc hk s m args below hf hA hF happ hP
  obtain ⟨hcalls, hrest, hpre⟩ := hP
  obtain ⟨-, -, -, hnamed, -, -, -, hat⟩ := (Spec.applies_iff hf).mp happ
  obtain ⟨hg, hn⟩ := and_e (Cond.before_iff.mp (show (Jvm.Cond.and given_1 narrow_1).before args s = true from hpre))
  obtain ⟨gv1, gv2⟩ := and_e hg
  obtain ⟨gv3, gv4⟩ := and_e gv2
  obtain ⟨gv5, gv6⟩ := and_e gv4
  obtain ⟨gv7, gv8⟩ := and_e gv6
  obtain ⟨gv9, gv10⟩ := and_e gv8
  obtain ⟨w0, w1, w2, w3, w4, rfl⟩ : ∃ w0 w1 w2 w3 w4 : Value, args = #[w0, w1, w2, w3, w4] := by
    have hs : args.size = 5 := by simpa [Cond.value, given_1] using gv1
    obtain ⟨L⟩ := args
    match L, hs with
    | [w0, w1, w2, w3, w4], _ => exact ⟨w0, w1, w2, w3, w4, rfl⟩
  have hw := fun d (hd : d ∈ tables_1) => atoms_spec (ws := Jvm.Cond.code x code maxLocals ret :: tables_1) hat d (List.mem_cons_of_mem _ hd)
  have hfit : Fit s := fun {y c} hc i hi => by
    obtain ⟨ha, rfl⟩ := Array.getElem?_eq_some_iff.mp hc
    have q := List.all_eq_true.mp ((Array.all_eq_true_iff_forall_mem.mp hF) _ (Array.getElem_mem ha)) i (List.mem_range.mpr hi)
    simpa [Array.getElem?_eq_getElem hi] using q
  obtain ⟨hsets, hown0⟩ := atoms_of _ (rest_1_c_eq ▸ (show rest_1_c.before _ s = true from hrest))
  have hr0 := Cond.before_iff.mp hown0
  obtain ⟨i0, ei0⟩ := is_v gv3
  obtain rfl : w0 = (.int i0) := Option.some.inj ei0
  obtain ⟨i1, ei1⟩ := is_v gv5
  obtain rfl : w1 = (.int i1) := Option.some.inj ei1
  obtain ⟨i2, ei2⟩ := is_v gv7
  obtain rfl : w2 = (.int i2) := Option.some.inj ei2
  obtain ⟨i3, ei3⟩ := is_v gv9
  obtain rfl : w3 = (.int i3) := Option.some.inj ei3
  obtain ⟨i4, ei4⟩ := is_v gv10
  obtain rfl : w4 = (.int i4) := Option.some.inj ei4
  have n5 := not_v (Cond.before_iff.mp (hsets _ (List.mem_of_getElem? (i := 2) rfl)))
  obtain ⟨gi, ge⟩ := is_v (Cond.before_iff.mp (hsets _ (List.mem_of_getElem? (i := 1) rfl)))
  have gS : Sta s s.heap "java/lang/String" "COMPACT_STRINGS" "Z" (.int gi) := Sta.start ge (Or.inl (hsets _ (List.mem_of_getElem? (i := 0) rfl)))
  have gN : ¬ (gi = (0 : Int32)) := gotF (Cond.eq_ints ge (Term.int_eval (0))) n5
  obtain ⟨sf, fe, hsf⟩ := isR_v (Cond.before_iff.mp (hsets _ (List.mem_of_getElem? (i := 8) rfl)))
  have fS : Sta s s.heap "jdk/internal/util/Preconditions" "SIOOBE_FORMATTER" "Ljava/util/function/BiFunction;" sf := Sta.start fe (Or.inl (hsets _ (List.mem_of_getElem? (i := 7) rfl)))
  obtain ⟨nV, hn⟩ := and_e hn
  obtain ⟨nVc, hn⟩ := and_e hn
  obtain ⟨nL, nLc⟩ := and_e hn
  obtain ⟨vo, e_vo⟩ := exa_v nV
  have S_vo : Sta s s.heap "com/example/libsitemap/libsitemap/FieldFormat$TextLimit" "VALUE" "Lcom/example/libsitemap/libsitemap/FieldFormat$TextLimit;" (.ref vo) := Sta.start e_vo (Or.inr ⟨(hw _ (List.mem_of_getElem? (i := 1) rfl)), (hw _ (List.mem_of_getElem? (i := 2) rfl))⟩)
  have E_vo := Exa.start e_vo nV
  have F_vo := Fld.start (own_fld e_vo nVc)
  obtain ⟨lq, e_lq⟩ := exa_v nL
  have S_lq : Sta s s.heap "com/example/libsitemap/libsitemap/FieldFormat$TextLimit" "LOC" "Lcom/example/libsitemap/libsitemap/FieldFormat$TextLimit;" (.ref lq) := Sta.start e_lq (Or.inr ⟨(hw _ (List.mem_of_getElem? (i := 1) rfl)), (hw _ (List.mem_of_getElem? (i := 105) rfl))⟩)
  have E_lq := Exa.start e_lq nL
  have F_lq := Fld.start (own_fld e_lq nLc)
  have hCH : CHv s consts_1 s.vm s.heap := CHv.start (own_EL hw) (fun p hp => hcalls.1 p hp) (hsets _ (List.mem_of_getElem? (i := 2) rfl)) (hw _ (List.mem_of_getElem? (i := 89) rfl)) (hw _ (List.mem_of_getElem? (i := 63) rfl))
  obtain ⟨n, o, h1, h2, h3, _, L, rfl, ⟨rfl, N⟩, -, hq⟩ := rm0 l s _ hw tables_1 i0 i1 i2 i3 i4 vo lq gi sf s.heap s.heap.size (Nat.le_refl _) S_vo S_lq E_vo F_vo E_lq F_lq gS gN fS hsf (Old.start s) p e ha hc hk s m _ below hf ((Spec.applies_iff_loose hf).mp happ).1 ⟨rfl, State.Warmed39.refl s, rfl, hCH⟩ trivial
  refine ⟨n, _, h1, h2, h3, hpost _ _ _ _ _ _ ⟨Cond.after_iff.mpr rfl, Cond.after_iff.mpr (eq_i res_at (Term.int_eval (1)) rfl), trivial⟩ ⟨hq.1, hq.2.1, hq.2.2.1, (hq.2.2.2.sift fun y hy => Or.inr (N y hy)).mono (by decide) (by decide)⟩⟩
theorem main_1_1 : Claimed_1_1 := comes_1 fun _ _ _ _ _ _ h hF => ⟨h.1, hF⟩
theorem main_1_2 : Claimed_1_2 := comes_1 fun _ _ _ _ _ _ h hF => ⟨h.2.1, hF⟩
end Jvm.Pilot.@@N@@
namespace Jvm.Pilot.@@N@@
open Jvm Jvm.ClassFile Sem Op Lib Jvm.Free Jvm.Stand Jvm.Pilot.@@N@@.Jvm.D
/-! MADE BY PROGRAM (witnessworld.py) out of the Statement's table words and the real class files: 23 classes; the members and pool entries that the words name. The judged class is class 1, her method 3. -/
namespace start1
open Jvm.ClassFile
def u (s : String) : CpInfo := .utf8 (stringToUtf16 s)
/-- a pool by its gaps: so many unusable entries, then the entry; so many at the end -/
def gap : Nat → List CpInfo → List CpInfo
  | 0, r => r
  | n + 1, r => .unusable :: gap n r
def poolList (es : List (Nat × CpInfo)) (last : Nat) : List CpInfo := es.foldr (fun e r => gap e.1 (e.2 :: r)) (gap last [])
def pool (es : List (Nat × CpInfo)) (last : Nat) : Array CpInfo := ⟨poolList es last⟩
def fileOf (pool : Array CpInfo) (this : Nat) (attrs : Array Attribute := #[]) (ms : Array MethodInfo := #[]) (fl : Nat := 33) (sup : Nat := 0) (ifs : Array Nat := #[]) (fds : Array FieldInfo := #[]) : ClassFile where
  minorVersion := 0
  majorVersion := 65
  constantPool := pool
  accessFlags := fl
  thisClass := this
  superClass := sup
  interfaces := ifs
  fields := fds
  methods := ms
  attributes := attrs
def plain (name : String) (sup : Option ClassId) : Class where
  name := name
  kind := .ordinary
  loader := none
  accessFlags := 33
  super := sup
  interfaces := #[]
  cf := none
  fields := #[]
  methods := #[]
  instanceTypes := #[]
  staticTypes := #[]
  resolved := #[]
  callSites := []
  init := .initialized
  statics := none
  mirror := none

def pool0 : Array CpInfo := pool [(5, u "<init>"), (0, u "()V"), (1, .class_ 10), (1, u "java/lang/Object")] 113

def k0c0 : Code := { maxStack := 0, maxLocals := 1, code := object_method_1_code, exceptionTable := #[], attributes := #[] }
def k0m0 : Method := { name := "<init>", desc := "()V", sig := { parameters := [], returnType := none }, accessFlags := 1, code := some k0c0 }
/-- java/lang/Object -/
def k0 : Class := { plain "java/lang/Object" none with
  accessFlags := 33
  interfaces := #[]
  cf := some (fileOf pool0 8 #[] #[{ accessFlags := 1, nameIndex := 5, descriptorIndex := 6, attributes := #[] }] 33 0 #[] #[])
  fields := #[]
  methods := #[k0m0]
  instanceTypes := #[]
  staticTypes := #[]
  resolved := Array.replicate 124 none
  statics := none }

def pool1 : Array CpInfo := pool [(2, .class_ 4), (1, u "java/lang/Object"), (0, u "<init>"), (0, u "()V"), (0, .fieldref 8 9), (0, .class_ 10), (0, .nameAndType 11 12), (0, u "com/example/libsitemap/libsitemap/FieldFormat$TextLimit"), (0, u "LOC"), (0, u "Lcom/example/libsitemap/libsitemap/FieldFormat$TextLimit;"), (0, .fieldref 8 14), (0, .nameAndType 15 12), (0, u "VALUE"), (0, .methodref 17 18), (0, .class_ 19), (0, .nameAndType 20 21), (0, u "com/example/libsitemap/libsitemap/ValueTextClearPinLaw"), (0, u "draw"), (0, u "(I)C"), (0, .class_ 23), (0, u "com/example/libsitemap/libsitemap/ValueText"), (0, .methodref 22 25), (0, .nameAndType 5 26), (0, u "(Lcom/example/libsitemap/libsitemap/FieldFormat$TextLimit;)V"), (0, .methodref 22 28), (0, .nameAndType 29 30), (0, u "take"), (0, u "(C)V"), (0, .methodref 22 32), (0, .nameAndType 33 6), (0, u "clear"), (0, .methodref 22 35), (0, .nameAndType 36 37), (0, u "length"), (0, u "()J"), (0, .methodref 22 39), (0, .nameAndType 40 41), (0, u "isEmpty"), (0, u "()Z"), (0, .methodref 22 43), (0, .nameAndType 44 45), (0, u "text"), (0, u "()Ljava/lang/String;"), (0, .methodref 47 39), (0, .class_ 48), (0, u "java/lang/String"), (0, .methodref 17 50), (0, .nameAndType 51 52), (0, u "blank"), (0, u "(C)Z"), (0, .long 2), (1, .methodref 47 56), (0, .nameAndType 36 57), (0, u "()I"), (0, .methodref 47 59), (0, .nameAndType 60 21), (0, u "charAt"), (3, u "law"), (0, u "(IIIII)Z")] 6

def k1m0 : Method := { name := "<init>", desc := "()V", sig := { parameters := [], returnType := none }, accessFlags := 2, code := none }
def k1c1 : Code := { maxStack := 2, maxLocals := 2, code := method_2_code, exceptionTable := #[], attributes := #[] }
def k1m1 : Method := { name := "draw", desc := "(I)C", sig := { parameters := [.int], returnType := some .char }, accessFlags := 10, code := some k1c1 }
def k1c2 : Code := { maxStack := 2, maxLocals := 1, code := method_3_code, exceptionTable := #[], attributes := #[] }
def k1m2 : Method := { name := "blank", desc := "(C)Z", sig := { parameters := [.char], returnType := some .boolean }, accessFlags := 10, code := some k1c2 }
def k1c3 : Code := { maxStack := 4, maxLocals := 20, code := code, exceptionTable := #[], attributes := #[] }
def k1m3 : Method := { name := "law", desc := "(IIIII)Z", sig := { parameters := [.int, .int, .int, .int, .int], returnType := some .boolean }, accessFlags := 9, code := some k1c3 }
/-- com/example/libsitemap/libsitemap/ValueTextClearPinLaw -/
def k1 : Class := { plain "com/example/libsitemap/libsitemap/ValueTextClearPinLaw" (some 0) with
  accessFlags := 49
  interfaces := #[]
  cf := some (fileOf pool1 17 #[] #[{ accessFlags := 2, nameIndex := 5, descriptorIndex := 6, attributes := #[] }, { accessFlags := 10, nameIndex := 20, descriptorIndex := 21, attributes := #[] }, { accessFlags := 10, nameIndex := 51, descriptorIndex := 52, attributes := #[] }, { accessFlags := 9, nameIndex := 64, descriptorIndex := 65, attributes := #[] }] 49 2 #[] #[])
  fields := #[]
  methods := #[k1m0, k1m1, k1m2, k1m3]
  instanceTypes := #[]
  staticTypes := #[]
  resolved := Array.replicate 72 none
  statics := none }

def pool2 : Array CpInfo := pool [(1, .class_ 2), (0, u "java/lang/constant/Constable"), (0, .class_ 4), (0, u "java/lang/Object")] 6

/-- java/lang/constant/Constable -/
def k2 : Class := { plain "java/lang/constant/Constable" (some 0) with
  accessFlags := 1537
  interfaces := #[]
  cf := some (fileOf pool2 1 #[] #[] 1537 3 #[] #[])
  fields := #[]
  methods := #[]
  instanceTypes := #[]
  staticTypes := #[]
  resolved := Array.replicate 11 none
  statics := none }

def pool3 : Array CpInfo := pool [(1, .class_ 2), (0, u "java/lang/Comparable"), (0, .class_ 4), (0, u "java/lang/Object")] 7

/-- java/lang/Comparable -/
def k3 : Class := { plain "java/lang/Comparable" (some 0) with
  accessFlags := 1537
  interfaces := #[]
  cf := some (fileOf pool3 1 #[] #[] 1537 3 #[] #[])
  fields := #[]
  methods := #[]
  instanceTypes := #[]
  staticTypes := #[]
  resolved := Array.replicate 12 none
  statics := none }

def pool4 : Array CpInfo := pool [(1, .class_ 2), (0, u "java/io/Serializable"), (0, .class_ 4), (0, u "java/lang/Object")] 2

/-- java/io/Serializable -/
def k4 : Class := { plain "java/io/Serializable" (some 0) with
  accessFlags := 1537
  interfaces := #[]
  cf := some (fileOf pool4 1 #[] #[] 1537 3 #[] #[])
  fields := #[]
  methods := #[]
  instanceTypes := #[]
  staticTypes := #[]
  resolved := Array.replicate 7 none
  statics := none }

def pool5 : Array CpInfo := pool [(2, .class_ 4), (1, u "java/lang/Enum"), (0, u "name"), (0, u "Ljava/lang/String;"), (2, u "ordinal"), (0, u "I"), (1, .class_ 14), (1, u "java/lang/Object"), (4, u "hash"), (86, .class_ 108), (1, u "java/lang/Enum$EnumDesc"), (2, .class_ 112), (0, u "java/lang/constant/Constable"), (0, .class_ 114), (0, u "java/lang/Comparable"), (0, .class_ 116), (0, u "java/io/Serializable")] 87

/-- java/lang/Enum -/
def k5 : Class := { plain "java/lang/Enum" (some 0) with
  accessFlags := 1057
  interfaces := #[2, 3, 4]
  cf := some (fileOf pool5 2 #[.nestMembers #[106]] #[] 1057 12 #[111, 113, 115] #[{ accessFlags := 18, nameIndex := 5, descriptorIndex := 6, attributes := #[] }, { accessFlags := 18, nameIndex := 9, descriptorIndex := 10, attributes := #[] }, { accessFlags := 2, nameIndex := 19, descriptorIndex := 10, attributes := #[] }])
  fields := #[{ name := "name", type := (.object "java/lang/String"), accessFlags := 18, slot := 0, constantValue := 0 }, { name := "ordinal", type := .int, accessFlags := 18, slot := 1, constantValue := 0 }, { name := "hash", type := .int, accessFlags := 2, slot := 2, constantValue := 0 }]
  methods := #[]
  instanceTypes := #[(.object "java/lang/String"), .int, .int]
  staticTypes := #[]
  resolved := Array.replicate 204 none
  statics := none }

def pool6 : Array CpInfo := pool [(1, .class_ 2), (0, u "com/example/libsitemap/libsitemap/FieldFormat"), (0, .class_ 4), (0, u "com/example/libsitemap/libsitemap/FieldFormat$TextLimit"), (2, u "LOC"), (0, u "Lcom/example/libsitemap/libsitemap/FieldFormat$TextLimit;"), (2, u "VALUE"), (2, u "$VALUES"), (0, u "[Lcom/example/libsitemap/libsitemap/FieldFormat$TextLimit;"), (6, .class_ 24), (1, u "java/lang/Enum"), (6, .fieldref 3 32), (0, .nameAndType 33 34), (0, u "chars"), (0, u "I"), (2, u "longest"), (0, u "Ljava/lang/String;"), (34, u "()I")] 25

def k6c0 : Code := { maxStack := 1, maxLocals := 1, code := prog_18_method_4_code, exceptionTable := #[], attributes := #[] }
def k6m0 : Method := { name := "chars", desc := "()I", sig := { parameters := [], returnType := some .int }, accessFlags := 0, code := some k6c0 }
/-- com/example/libsitemap/libsitemap/FieldFormat$TextLimit -/
def k6 : Class := { plain "com/example/libsitemap/libsitemap/FieldFormat$TextLimit" (some 5) with
  accessFlags := 16432
  interfaces := #[]
  cf := some (fileOf pool6 3 #[.nestHost 1] #[{ accessFlags := 0, nameIndex := 33, descriptorIndex := 73, attributes := #[] }] 16432 22 #[] #[{ accessFlags := 16409, nameIndex := 7, descriptorIndex := 8, attributes := #[] }, { accessFlags := 16409, nameIndex := 11, descriptorIndex := 8, attributes := #[] }, { accessFlags := 18, nameIndex := 33, descriptorIndex := 34, attributes := #[] }, { accessFlags := 18, nameIndex := 37, descriptorIndex := 38, attributes := #[] }, { accessFlags := 4122, nameIndex := 14, descriptorIndex := 15, attributes := #[] }])
  fields := #[{ name := "LOC", type := (.object "com/example/libsitemap/libsitemap/FieldFormat$TextLimit"), accessFlags := 16409, slot := 0, constantValue := 0 }, { name := "VALUE", type := (.object "com/example/libsitemap/libsitemap/FieldFormat$TextLimit"), accessFlags := 16409, slot := 1, constantValue := 0 }, { name := "chars", type := .int, accessFlags := 18, slot := 3, constantValue := 0 }, { name := "longest", type := (.object "java/lang/String"), accessFlags := 18, slot := 4, constantValue := 0 }, { name := "$VALUES", type := (.array (.object "com/example/libsitemap/libsitemap/FieldFormat$TextLimit")), accessFlags := 4122, slot := 2, constantValue := 0 }]
  methods := #[k6m0]
  instanceTypes := #[(.object "java/lang/String"), .int, .int, .int, (.object "java/lang/String")]
  staticTypes := #[(.object "com/example/libsitemap/libsitemap/FieldFormat$TextLimit"), (.object "com/example/libsitemap/libsitemap/FieldFormat$TextLimit"), (.array (.object "com/example/libsitemap/libsitemap/FieldFormat$TextLimit"))]
  resolved := Array.replicate 99 none
  statics := some 0 }

def pool7 : Array CpInfo := pool [(1, .methodref 2 3), (0, .class_ 4), (0, .nameAndType 5 6), (0, u "java/lang/Object"), (0, u "<init>"), (0, u "()V"), (0, .class_ 8), (0, u "com/example/libsitemap/libsitemap/ValueText"), (0, .fieldref 7 10), (0, .nameAndType 11 12), (0, u "kept"), (0, u "[C"), (0, .methodref 14 15), (0, .class_ 16), (0, .nameAndType 17 18), (0, u "com/example/libsitemap/libsitemap/FieldFormat$TextLimit"), (0, u "chars"), (0, u "()I"), (0, .fieldref 7 20), (0, .nameAndType 21 22), (0, u "keptChars"), (0, u "I"), (0, .methodref 7 24), (0, .nameAndType 25 26), (0, u "isBlank"), (0, u "(C)Z"), (0, .fieldref 7 28), (0, .nameAndType 29 30), (0, u "length"), (0, u "J"), (0, .methodref 7 32), (0, .nameAndType 33 34), (0, u "room"), (0, u "(I)I"), (0, .fieldref 7 36), (0, .nameAndType 37 22), (0, u "keptLength"), (0, .fieldref 7 39), (0, .nameAndType 40 30), (0, u "valueLength"), (6, .class_ 48), (0, u "java/lang/String"), (0, .methodref 50 51), (0, .class_ 52), (0, .nameAndType 53 54), (0, u "java/lang/Math"), (0, u "min"), (0, u "(JJ)J"), (0, .methodref 47 56), (0, .nameAndType 5 57), (0, u "([CII)V"), (0, .methodref 50 59), (0, .nameAndType 53 60), (0, u "(II)I"), (6, u "FIRST_CHARS"), (2, u "(Lcom/example/libsitemap/libsitemap/FieldFormat$TextLimit;)V"), (3, u "take"), (0, u "(C)V"), (0, u "isEmpty"), (0, u "()Z"), (0, u "text"), (0, u "()Ljava/lang/String;"), (0, u "()J"), (0, u "clear")] 6

def k7c0 : Code := { maxStack := 3, maxLocals := 2, code := prog_46_method_1_code, exceptionTable := #[], attributes := #[] }
def k7m0 : Method := { name := "<init>", desc := "(Lcom/example/libsitemap/libsitemap/FieldFormat$TextLimit;)V", sig := { parameters := [(.object "com/example/libsitemap/libsitemap/FieldFormat$TextLimit")], returnType := none }, accessFlags := 0, code := some k7c0 }
def k7c1 : Code := { maxStack := 2, maxLocals := 1, code := prog_46_method_2_code, exceptionTable := #[], attributes := #[] }
def k7m1 : Method := { name := "isBlank", desc := "(C)Z", sig := { parameters := [.char], returnType := some .boolean }, accessFlags := 8, code := some k7c1 }
def k7c2 : Code := { maxStack := 5, maxLocals := 3, code := prog_46_method_3_code, exceptionTable := #[], attributes := #[] }
def k7m2 : Method := { name := "take", desc := "(C)V", sig := { parameters := [.char], returnType := none }, accessFlags := 0, code := some k7c2 }
def k7c3 : Code := { maxStack := 4, maxLocals := 1, code := prog_46_method_5_code, exceptionTable := #[], attributes := #[] }
def k7m3 : Method := { name := "isEmpty", desc := "()Z", sig := { parameters := [], returnType := some .boolean }, accessFlags := 0, code := some k7c3 }
def k7c4 : Code := { maxStack := 8, maxLocals := 1, code := prog_46_method_6_code, exceptionTable := #[], attributes := #[] }
def k7m4 : Method := { name := "text", desc := "()Ljava/lang/String;", sig := { parameters := [], returnType := some (.object "java/lang/String") }, accessFlags := 0, code := some k7c4 }
def k7c5 : Code := { maxStack := 2, maxLocals := 1, code := prog_46_method_7_code, exceptionTable := #[], attributes := #[] }
def k7m5 : Method := { name := "length", desc := "()J", sig := { parameters := [], returnType := some .long }, accessFlags := 0, code := some k7c5 }
def k7c6 : Code := { maxStack := 3, maxLocals := 3, code := prog_46_method_8_code, exceptionTable := #[], attributes := #[] }
def k7m6 : Method := { name := "room", desc := "(I)I", sig := { parameters := [.int], returnType := some .int }, accessFlags := 2, code := some k7c6 }
def k7c7 : Code := { maxStack := 3, maxLocals := 1, code := prog_46_method_9_code, exceptionTable := #[], attributes := #[] }
def k7m7 : Method := { name := "clear", desc := "()V", sig := { parameters := [], returnType := none }, accessFlags := 0, code := some k7c7 }
/-- com/example/libsitemap/libsitemap/ValueText -/
def k7 : Class := { plain "com/example/libsitemap/libsitemap/ValueText" (some 0) with
  accessFlags := 48
  interfaces := #[]
  cf := some (fileOf pool7 7 #[] #[{ accessFlags := 0, nameIndex := 5, descriptorIndex := 70, attributes := #[] }, { accessFlags := 8, nameIndex := 25, descriptorIndex := 26, attributes := #[] }, { accessFlags := 0, nameIndex := 74, descriptorIndex := 75, attributes := #[] }, { accessFlags := 0, nameIndex := 76, descriptorIndex := 77, attributes := #[] }, { accessFlags := 0, nameIndex := 78, descriptorIndex := 79, attributes := #[] }, { accessFlags := 0, nameIndex := 29, descriptorIndex := 80, attributes := #[] }, { accessFlags := 2, nameIndex := 33, descriptorIndex := 34, attributes := #[] }, { accessFlags := 0, nameIndex := 81, descriptorIndex := 6, attributes := #[] }] 48 2 #[] #[{ accessFlags := 26, nameIndex := 67, descriptorIndex := 22, attributes := #[] }, { accessFlags := 18, nameIndex := 21, descriptorIndex := 22, attributes := #[] }, { accessFlags := 2, nameIndex := 11, descriptorIndex := 12, attributes := #[] }, { accessFlags := 2, nameIndex := 37, descriptorIndex := 22, attributes := #[] }, { accessFlags := 2, nameIndex := 29, descriptorIndex := 30, attributes := #[] }, { accessFlags := 2, nameIndex := 40, descriptorIndex := 30, attributes := #[] }])
  fields := #[{ name := "FIRST_CHARS", type := .int, accessFlags := 26, slot := 0, constantValue := 0 }, { name := "keptChars", type := .int, accessFlags := 18, slot := 0, constantValue := 0 }, { name := "kept", type := (.array .char), accessFlags := 2, slot := 1, constantValue := 0 }, { name := "keptLength", type := .int, accessFlags := 2, slot := 2, constantValue := 0 }, { name := "length", type := .long, accessFlags := 2, slot := 3, constantValue := 0 }, { name := "valueLength", type := .long, accessFlags := 2, slot := 4, constantValue := 0 }]
  methods := #[k7m0, k7m1, k7m2, k7m3, k7m4, k7m5, k7m6, k7m7]
  instanceTypes := #[.int, (.array .char), .int, .long, .long]
  staticTypes := #[.int]
  resolved := Array.replicate 88 none
  statics := none }

def pool8 : Array CpInfo := pool [(2, .class_ 4), (1, u "java/lang/CharSequence"), (42, .class_ 48), (0, u "java/lang/CharSequence$1CodePointIterator"), (10, .class_ 60), (0, u "java/lang/CharSequence$1CharIterator"), (5, .class_ 67), (0, u "java/lang/Object")] 63

/-- java/lang/CharSequence -/
def k8 : Class := { plain "java/lang/CharSequence" (some 0) with
  accessFlags := 1537
  interfaces := #[]
  cf := some (fileOf pool8 2 #[.nestMembers #[47, 59]] #[] 1537 66 #[] #[])
  fields := #[]
  methods := #[]
  instanceTypes := #[]
  staticTypes := #[]
  resolved := Array.replicate 131 none
  statics := none }

def pool9 : Array CpInfo := pool [(1, .class_ 2), (0, u "java/lang/constant/ConstantDesc"), (0, .class_ 4), (0, u "java/lang/Object")] 32

/-- java/lang/constant/ConstantDesc -/
def k9 : Class := { plain "java/lang/constant/ConstantDesc" (some 0) with
  accessFlags := 1537
  interfaces := #[]
  cf := some (fileOf pool9 1 #[] #[] 1537 3 #[] #[])
  fields := #[]
  methods := #[]
  instanceTypes := #[]
  staticTypes := #[]
  resolved := Array.replicate 37 none
  statics := none }

def pool10 : Array CpInfo := pool [(1, .methodref 2 3), (0, .class_ 4), (0, .nameAndType 5 6), (0, u "java/lang/Object"), (0, u "<init>"), (0, u "()V"), (0, .string 8), (0, u ""), (0, .fieldref 10 11), (0, .class_ 12), (0, .nameAndType 13 14), (0, u "java/lang/String"), (0, u "value"), (0, u "[B"), (0, .fieldref 10 16), (0, .nameAndType 17 18), (0, u "coder"), (0, u "B"), (2, u "hash"), (0, u "I"), (2, u "hashIsZero"), (0, u "Z"), (0, .methodref 10 28), (0, .nameAndType 5 29), (0, u "([CIILjava/lang/Void;)V"), (0, .methodref 10 31), (0, .nameAndType 32 33), (0, u "rangeCheck"), (0, u "([CII)Ljava/lang/Void;"), (0, .methodref 10 35), (0, .nameAndType 36 37), (0, u "checkBoundsOffCount"), (0, u "(III)I"), (0, .fieldref 10 39), (0, .nameAndType 40 26), (0, u "COMPACT_STRINGS"), (1, .class_ 44), (1, u "java/lang/StringUTF16"), (0, u "compress"), (1, .methodref 42 48), (0, .nameAndType 49 50), (0, u "coderFromArrayLen"), (0, u "([BI)B"), (56, .class_ 109), (1, u "java/lang/StringLatin1"), (32, u "()Z"), (34, .methodref 42 178), (0, .nameAndType 45 179), (0, u "([CII)[B"), (154, u "()I"), (0, .methodref 10 336), (0, .nameAndType 17 337), (0, u "()B"), (25, u "([BI)C"), (27, u "(II)V"), (35, u "(I)C"), (64, .methodref 10 493), (0, .nameAndType 494 142), (0, u "isLatin1"), (0, .methodref 107 496), (0, .nameAndType 497 363), (0, u "charAt"), (3, u "checkIndex"), (5, u "length"), (67, .class_ 576), (0, u "java/lang/CharSequence"), (22, u "CASE_INSENSITIVE_ORDER"), (0, u "Ljava/util/Comparator;"), (91, u "isEmpty"), (279, u "([CII)V"), (80, .fieldref 1054 1055), (0, .class_ 1056), (0, .nameAndType 1057 1058), (0, u "jdk/internal/util/Preconditions"), (0, u "SIOOBE_FORMATTER"), (0, u "Ljava/util/function/BiFunction;"), (0, .methodref 1054 1060), (0, .nameAndType 501 1061), (0, u "(IILjava/util/function/BiFunction;)I"), (2, u "(IIILjava/util/function/BiFunction;)I"), (0, .methodref 1054 1066), (0, .nameAndType 1067 1064), (0, u "checkFromIndexSize"), (33, u "serialPersistentFields"), (0, u "[Ljava/io/ObjectStreamField;"), (0, .class_ 1104), (0, u "java/lang/String$CaseInsensitiveComparator"), (1, .class_ 1107), (0, u "java/io/Serializable"), (0, .class_ 1109), (0, u "java/lang/Comparable"), (0, .class_ 1111), (0, u "java/lang/constant/Constable"), (0, .class_ 1113), (0, u "java/lang/constant/ConstantDesc"), (2, u "serialVersionUID"), (0, u "J"), (3, u "REPL"), (0, u "C"), (2, u "LATIN1"), (1, u "UTF16")] 323

def k10m0 : Method := { name := "<init>", desc := "()V", sig := { parameters := [], returnType := none }, accessFlags := 1, code := none }
def k10c1 : Code := { maxStack := 7, maxLocals := 4, code := jdk_42_method_4_code, exceptionTable := #[], attributes := #[] }
def k10m1 : Method := { name := "<init>", desc := "([CII)V", sig := { parameters := [(.array .char), .int, .int], returnType := none }, accessFlags := 1, code := some k10c1 }
def k10c2 : Code := { maxStack := 3, maxLocals := 3, code := jdk_42_method_5_code, exceptionTable := #[], attributes := #[] }
def k10m2 : Method := { name := "rangeCheck", desc := "([CII)Ljava/lang/Void;", sig := { parameters := [(.array .char), .int, .int], returnType := some (.object "java/lang/Void") }, accessFlags := 10, code := some k10c2 }
def k10c3 : Code := { maxStack := 2, maxLocals := 1, code := jdk_42_method_54_code, exceptionTable := #[], attributes := #[] }
def k10m3 : Method := { name := "length", desc := "()I", sig := { parameters := [], returnType := some .int }, accessFlags := 1, code := some k10c3 }
def k10c4 : Code := { maxStack := 1, maxLocals := 1, code := jdk_42_method_55_code, exceptionTable := #[], attributes := #[] }
def k10m4 : Method := { name := "isEmpty", desc := "()Z", sig := { parameters := [], returnType := some .boolean }, accessFlags := 1, code := some k10c4 }
def k10c5 : Code := { maxStack := 2, maxLocals := 2, code := jdk_42_method_56_code, exceptionTable := #[], attributes := #[] }
def k10m5 : Method := { name := "charAt", desc := "(I)C", sig := { parameters := [.int], returnType := some .char }, accessFlags := 1, code := some k10c5 }
def k10c6 : Code := { maxStack := 4, maxLocals := 6, code := jdk_42_method_149_code, exceptionTable := #[], attributes := #[] }
def k10m6 : Method := { name := "<init>", desc := "([CIILjava/lang/Void;)V", sig := { parameters := [(.array .char), .int, .int, (.object "java/lang/Void")], returnType := none }, accessFlags := 2, code := some k10c6 }
def k10c7 : Code := { maxStack := 1, maxLocals := 1, code := jdk_42_method_152_code, exceptionTable := #[], attributes := #[] }
def k10m7 : Method := { name := "coder", desc := "()B", sig := { parameters := [], returnType := some .byte }, accessFlags := 0, code := some k10c7 }
def k10c8 : Code := { maxStack := 1, maxLocals := 1, code := jdk_42_method_154_code, exceptionTable := #[], attributes := #[] }
def k10m8 : Method := { name := "isLatin1", desc := "()Z", sig := { parameters := [], returnType := some .boolean }, accessFlags := 0, code := some k10c8 }
def k10c9 : Code := { maxStack := 3, maxLocals := 2, code := jdk_42_method_155_code, exceptionTable := #[], attributes := #[] }
def k10m9 : Method := { name := "checkIndex", desc := "(II)V", sig := { parameters := [.int, .int], returnType := none }, accessFlags := 8, code := some k10c9 }
def k10c10 : Code := { maxStack := 4, maxLocals := 3, code := jdk_42_method_157_code, exceptionTable := #[], attributes := #[] }
def k10m10 : Method := { name := "checkBoundsOffCount", desc := "(III)I", sig := { parameters := [.int, .int, .int], returnType := some .int }, accessFlags := 8, code := some k10c10 }
/-- java/lang/String -/
def k10 : Class := { plain "java/lang/String" (some 0) with
  accessFlags := 49
  interfaces := #[4, 3, 8, 2, 9]
  cf := some (fileOf pool10 10 #[.nestMembers #[1103]] #[{ accessFlags := 1, nameIndex := 5, descriptorIndex := 6, attributes := #[] }, { accessFlags := 1, nameIndex := 5, descriptorIndex := 972, attributes := #[] }, { accessFlags := 10, nameIndex := 32, descriptorIndex := 33, attributes := #[] }, { accessFlags := 1, nameIndex := 507, descriptorIndex := 334, attributes := #[] }, { accessFlags := 1, nameIndex := 692, descriptorIndex := 142, attributes := #[] }, { accessFlags := 1, nameIndex := 497, descriptorIndex := 427, attributes := #[] }, { accessFlags := 2, nameIndex := 5, descriptorIndex := 29, attributes := #[] }, { accessFlags := 0, nameIndex := 17, descriptorIndex := 337, attributes := #[] }, { accessFlags := 0, nameIndex := 494, descriptorIndex := 142, attributes := #[] }, { accessFlags := 8, nameIndex := 501, descriptorIndex := 391, attributes := #[] }, { accessFlags := 8, nameIndex := 36, descriptorIndex := 37, attributes := #[] }] 49 2 #[1106, 1108, 575, 1110, 1112] #[{ accessFlags := 18, nameIndex := 13, descriptorIndex := 14, attributes := #[] }, { accessFlags := 18, nameIndex := 17, descriptorIndex := 18, attributes := #[] }, { accessFlags := 2, nameIndex := 21, descriptorIndex := 22, attributes := #[] }, { accessFlags := 2, nameIndex := 25, descriptorIndex := 26, attributes := #[] }, { accessFlags := 26, nameIndex := 1116, descriptorIndex := 1117, attributes := #[] }, { accessFlags := 24, nameIndex := 40, descriptorIndex := 26, attributes := #[] }, { accessFlags := 26, nameIndex := 1101, descriptorIndex := 1102, attributes := #[] }, { accessFlags := 26, nameIndex := 1121, descriptorIndex := 1122, attributes := #[] }, { accessFlags := 25, nameIndex := 599, descriptorIndex := 600, attributes := #[] }, { accessFlags := 24, nameIndex := 1125, descriptorIndex := 18, attributes := #[] }, { accessFlags := 24, nameIndex := 1127, descriptorIndex := 18, attributes := #[] }])
  fields := #[{ name := "value", type := (.array .byte), accessFlags := 18, slot := 0, constantValue := 0 }, { name := "coder", type := .byte, accessFlags := 18, slot := 1, constantValue := 0 }, { name := "hash", type := .int, accessFlags := 2, slot := 2, constantValue := 0 }, { name := "hashIsZero", type := .boolean, accessFlags := 2, slot := 3, constantValue := 0 }, { name := "serialVersionUID", type := .long, accessFlags := 26, slot := 0, constantValue := 0 }, { name := "COMPACT_STRINGS", type := .boolean, accessFlags := 24, slot := 1, constantValue := 0 }, { name := "serialPersistentFields", type := (.array (.object "java/io/ObjectStreamField")), accessFlags := 26, slot := 2, constantValue := 0 }, { name := "REPL", type := .char, accessFlags := 26, slot := 3, constantValue := 0 }, { name := "CASE_INSENSITIVE_ORDER", type := (.object "java/util/Comparator"), accessFlags := 25, slot := 4, constantValue := 0 }, { name := "LATIN1", type := .byte, accessFlags := 24, slot := 5, constantValue := 0 }, { name := "UTF16", type := .byte, accessFlags := 24, slot := 6, constantValue := 0 }]
  methods := #[k10m0, k10m1, k10m2, k10m3, k10m4, k10m5, k10m6, k10m7, k10m8, k10m9, k10m10]
  instanceTypes := #[(.array .byte), .byte, .int, .boolean]
  staticTypes := #[.long, .boolean, (.array (.object "java/io/ObjectStreamField")), .char, (.object "java/util/Comparator"), .byte, .byte]
  resolved := Array.replicate 1451 none
  statics := some 1 }

def pool11 : Array CpInfo := pool [(1, .class_ 2), (0, u "java/lang/Math"), (1, .class_ 6), (1, u "java/lang/Object"), (0, u "<init>"), (0, u "()V"), (89, .class_ 100), (1, u "java/lang/Math$RandomNumberGeneratorHolder"), (20, u "(JJ)J"), (50, u "negativeZeroFloatBits"), (0, u "J"), (2, u "negativeZeroDoubleBits"), (24, u "min"), (43, u "$assertionsDisabled"), (0, u "Z"), (88, u "(II)I"), (2, u "twoToTheDoubleScaleDown"), (0, u "D"), (4, u "twoToTheDoubleScaleUp"), (9, u "E"), (3, u "PI"), (2, u "TAU"), (2, u "DEGREES_TO_RADIANS"), (0, u "RADIANS_TO_DEGREES")] 94

def k11m0 : Method := { name := "<init>", desc := "()V", sig := { parameters := [], returnType := none }, accessFlags := 2, code := none }
def k11c1 : Code := { maxStack := 2, maxLocals := 2, code := jdk_29_method_69_code, exceptionTable := #[], attributes := #[] }
def k11m1 : Method := { name := "min", desc := "(II)I", sig := { parameters := [.int, .int], returnType := some .int }, accessFlags := 9, code := some k11c1 }
def k11c2 : Code := { maxStack := 4, maxLocals := 4, code := jdk_29_method_70_code, exceptionTable := #[], attributes := #[] }
def k11m2 : Method := { name := "min", desc := "(JJ)J", sig := { parameters := [.long, .long], returnType := some .long }, accessFlags := 9, code := some k11c2 }
/-- java/lang/Math -/
def k11 : Class := { plain "java/lang/Math" (some 0) with
  accessFlags := 49
  interfaces := #[]
  cf := some (fileOf pool11 1 #[.nestMembers #[98]] #[{ accessFlags := 2, nameIndex := 7, descriptorIndex := 8, attributes := #[] }, { accessFlags := 9, nameIndex := 201, descriptorIndex := 335, attributes := #[] }, { accessFlags := 9, nameIndex := 201, descriptorIndex := 121, attributes := #[] }] 49 4 #[] #[{ accessFlags := 25, nameIndex := 354, descriptorIndex := 339, attributes := #[] }, { accessFlags := 25, nameIndex := 358, descriptorIndex := 339, attributes := #[] }, { accessFlags := 25, nameIndex := 361, descriptorIndex := 339, attributes := #[] }, { accessFlags := 26, nameIndex := 364, descriptorIndex := 339, attributes := #[] }, { accessFlags := 26, nameIndex := 365, descriptorIndex := 339, attributes := #[] }, { accessFlags := 26, nameIndex := 172, descriptorIndex := 173, attributes := #[] }, { accessFlags := 26, nameIndex := 176, descriptorIndex := 173, attributes := #[] }, { accessFlags := 8, nameIndex := 344, descriptorIndex := 339, attributes := #[] }, { accessFlags := 8, nameIndex := 338, descriptorIndex := 339, attributes := #[] }, { accessFlags := 4120, nameIndex := 245, descriptorIndex := 246, attributes := #[] }])
  fields := #[{ name := "E", type := .double, accessFlags := 25, slot := 0, constantValue := 0 }, { name := "PI", type := .double, accessFlags := 25, slot := 1, constantValue := 0 }, { name := "TAU", type := .double, accessFlags := 25, slot := 2, constantValue := 0 }, { name := "DEGREES_TO_RADIANS", type := .double, accessFlags := 26, slot := 3, constantValue := 0 }, { name := "RADIANS_TO_DEGREES", type := .double, accessFlags := 26, slot := 4, constantValue := 0 }, { name := "negativeZeroFloatBits", type := .long, accessFlags := 26, slot := 5, constantValue := 0 }, { name := "negativeZeroDoubleBits", type := .long, accessFlags := 26, slot := 6, constantValue := 0 }, { name := "twoToTheDoubleScaleUp", type := .double, accessFlags := 8, slot := 7, constantValue := 0 }, { name := "twoToTheDoubleScaleDown", type := .double, accessFlags := 8, slot := 8, constantValue := 0 }, { name := "$assertionsDisabled", type := .boolean, accessFlags := 4120, slot := 9, constantValue := 0 }]
  methods := #[k11m0, k11m1, k11m2]
  instanceTypes := #[]
  staticTypes := #[.double, .double, .double, .double, .double, .long, .long, .double, .double, .boolean]
  resolved := Array.replicate 460 none
  statics := none }

def pool12 : Array CpInfo := pool [(2, .class_ 4), (1, u "java/lang/Object"), (0, u "<init>"), (0, u "()V"), (17, .class_ 26), (1, u "jdk/internal/util/Preconditions"), (6, u "checkIndex"), (15, u "checkFromIndexSize"), (5, .class_ 56), (0, u "jdk/internal/util/Preconditions$4"), (57, .class_ 115), (0, u "jdk/internal/util/Preconditions$1"), (7, u "SIOOBE_FORMATTER"), (0, u "Ljava/util/function/BiFunction;"), (0, .class_ 126), (0, u "jdk/internal/util/Preconditions$2"), (3, u "AIOOBE_FORMATTER"), (0, .class_ 132), (0, u "jdk/internal/util/Preconditions$3"), (3, u "IOOBE_FORMATTER"), (41, u "(IILjava/util/function/BiFunction;)I"), (4, u "(IIILjava/util/function/BiFunction;)I")] 10

def k12m0 : Method := { name := "<init>", desc := "()V", sig := { parameters := [], returnType := none }, accessFlags := 1, code := none }
def k12c1 : Code := { maxStack := 3, maxLocals := 3, code := jdk_41_method_11_code, exceptionTable := #[], attributes := #[] }
def k12m1 : Method := { name := "checkIndex", desc := "(IILjava/util/function/BiFunction;)I", sig := { parameters := [.int, .int, (.object "java/util/function/BiFunction")], returnType := some .int }, accessFlags := 9, code := some k12c1 }
def k12c2 : Code := { maxStack := 4, maxLocals := 4, code := jdk_41_method_13_code, exceptionTable := #[], attributes := #[] }
def k12m2 : Method := { name := "checkFromIndexSize", desc := "(IIILjava/util/function/BiFunction;)I", sig := { parameters := [.int, .int, .int, (.object "java/util/function/BiFunction")], returnType := some .int }, accessFlags := 9, code := some k12c2 }
/-- jdk/internal/util/Preconditions -/
def k12 : Class := { plain "jdk/internal/util/Preconditions" (some 0) with
  accessFlags := 33
  interfaces := #[]
  cf := some (fileOf pool12 24 #[.nestMembers #[55, 131, 125, 114]] #[{ accessFlags := 1, nameIndex := 5, descriptorIndex := 6, attributes := #[] }, { accessFlags := 9, nameIndex := 33, descriptorIndex := 178, attributes := #[] }, { accessFlags := 9, nameIndex := 49, descriptorIndex := 183, attributes := #[] }] 33 2 #[] #[{ accessFlags := 25, nameIndex := 123, descriptorIndex := 124, attributes := #[] }, { accessFlags := 25, nameIndex := 130, descriptorIndex := 124, attributes := #[] }, { accessFlags := 25, nameIndex := 136, descriptorIndex := 124, attributes := #[] }])
  fields := #[{ name := "SIOOBE_FORMATTER", type := (.object "java/util/function/BiFunction"), accessFlags := 25, slot := 0, constantValue := 0 }, { name := "AIOOBE_FORMATTER", type := (.object "java/util/function/BiFunction"), accessFlags := 25, slot := 1, constantValue := 0 }, { name := "IOOBE_FORMATTER", type := (.object "java/util/function/BiFunction"), accessFlags := 25, slot := 2, constantValue := 0 }]
  methods := #[k12m0, k12m1, k12m2]
  instanceTypes := #[]
  staticTypes := #[(.object "java/util/function/BiFunction"), (.object "java/util/function/BiFunction"), (.object "java/util/function/BiFunction")]
  resolved := Array.replicate 194 none
  statics := some 2 }

def pool13 : Array CpInfo := pool [(6, .class_ 8), (1, u "java/lang/Object"), (0, u "<init>"), (0, u "()V"), (1, .class_ 14), (1, u "java/lang/StringUTF16"), (31, u "$assertionsDisabled"), (0, u "Z"), (13, u "HI_BYTE_SHIFT"), (0, u "I"), (2, u "LO_BYTE_SHIFT"), (49, .methodref 12 116), (0, .nameAndType 117 118), (0, u "compress"), (0, u "([CI[BII)I"), (3, u "([CII)[B"), (138, u "coderFromArrayLen"), (0, u "([BI)B"), (106, .class_ 371), (1, u "java/lang/StringUTF16$LinesSpliterator"), (58, u "MAX_LENGTH"), (196, .class_ 628), (0, u "java/lang/StringUTF16$CodePointsSpliterator"), (0, .class_ 630), (0, u "java/lang/StringUTF16$CharsSpliterator")] 4

def k13m0 : Method := { name := "<init>", desc := "()V", sig := { parameters := [], returnType := none }, accessFlags := 0, code := none }
def k13c1 : Code := { maxStack := 2, maxLocals := 2, code := jdk_52_method_15_code, exceptionTable := #[], attributes := #[] }
def k13m1 : Method := { name := "coderFromArrayLen", desc := "([BI)B", sig := { parameters := [(.array .byte), .int], returnType := some .byte }, accessFlags := 8, code := some k13c1 }
def k13c2 : Code := { maxStack := 5, maxLocals := 6, code := jdk_52_method_16_code, exceptionTable := #[], attributes := #[] }
def k13m2 : Method := { name := "compress", desc := "([CII)[B", sig := { parameters := [(.array .char), .int, .int], returnType := some (.array .byte) }, accessFlags := 9, code := some k13c2 }
def k13c3 : Code := { maxStack := 3, maxLocals := 7, code := jdk_52_method_21_code, exceptionTable := #[], attributes := #[] }
def k13m3 : Method := { name := "compress", desc := "([CI[BII)I", sig := { parameters := [(.array .char), .int, (.array .byte), .int, .int], returnType := some .int }, accessFlags := 9, code := some k13c3 }
/-- java/lang/StringUTF16 -/
def k13 : Class := { plain "java/lang/StringUTF16" (some 0) with
  accessFlags := 48
  interfaces := #[]
  cf := some (fileOf pool13 12 #[.nestMembers #[627, 629, 369]] #[{ accessFlags := 0, nameIndex := 9, descriptorIndex := 10, attributes := #[] }, { accessFlags := 8, nameIndex := 261, descriptorIndex := 262, attributes := #[] }, { accessFlags := 9, nameIndex := 117, descriptorIndex := 122, attributes := #[] }, { accessFlags := 9, nameIndex := 117, descriptorIndex := 118, attributes := #[] }] 48 6 #[] #[{ accessFlags := 26, nameIndex := 61, descriptorIndex := 62, attributes := #[] }, { accessFlags := 26, nameIndex := 65, descriptorIndex := 62, attributes := #[] }, { accessFlags := 24, nameIndex := 430, descriptorIndex := 62, attributes := #[] }, { accessFlags := 4120, nameIndex := 46, descriptorIndex := 47, attributes := #[] }])
  fields := #[{ name := "HI_BYTE_SHIFT", type := .int, accessFlags := 26, slot := 0, constantValue := 0 }, { name := "LO_BYTE_SHIFT", type := .int, accessFlags := 26, slot := 1, constantValue := 0 }, { name := "MAX_LENGTH", type := .int, accessFlags := 24, slot := 2, constantValue := 0 }, { name := "$assertionsDisabled", type := .boolean, accessFlags := 4120, slot := 3, constantValue := 0 }]
  methods := #[k13m0, k13m1, k13m2, k13m3]
  instanceTypes := #[]
  staticTypes := #[.int, .int, .int, .boolean]
  resolved := Array.replicate 635 none
  statics := none }

def pool14 : Array CpInfo := pool [(1, .class_ 2), (0, u "java/lang/String"), (1, .class_ 6), (1, u "java/lang/Object"), (0, u "<init>"), (0, u "()V"), (0, .methodref 1 10), (0, .nameAndType 11 12), (0, u "checkIndex"), (0, u "(II)V"), (1, .class_ 16), (1, u "java/lang/StringLatin1"), (36, u "([BI)C"), (67, u "$assertionsDisabled"), (0, u "Z"), (98, .class_ 223), (1, u "java/lang/StringLatin1$LinesSpliterator"), (28, u "charAt"), (137, .class_ 391), (0, u "java/lang/StringLatin1$CharsSpliterator")] 3

def k14m0 : Method := { name := "<init>", desc := "()V", sig := { parameters := [], returnType := none }, accessFlags := 0, code := none }
def k14c1 : Code := { maxStack := 2, maxLocals := 2, code := jdk_43_method_2_code, exceptionTable := #[], attributes := #[] }
def k14m1 : Method := { name := "charAt", desc := "([BI)C", sig := { parameters := [(.array .byte), .int], returnType := some .char }, accessFlags := 9, code := some k14c1 }
/-- java/lang/StringLatin1 -/
def k14 : Class := { plain "java/lang/StringLatin1" (some 0) with
  accessFlags := 48
  interfaces := #[]
  cf := some (fileOf pool14 14 #[.nestMembers #[390, 221]] #[{ accessFlags := 0, nameIndex := 7, descriptorIndex := 8, attributes := #[] }, { accessFlags := 9, nameIndex := 252, descriptorIndex := 53, attributes := #[] }] 48 4 #[] #[{ accessFlags := 4120, nameIndex := 121, descriptorIndex := 122, attributes := #[] }])
  fields := #[{ name := "$assertionsDisabled", type := .boolean, accessFlags := 4120, slot := 0, constantValue := 0 }]
  methods := #[k14m0, k14m1]
  instanceTypes := #[]
  staticTypes := #[.boolean]
  resolved := Array.replicate 395 none
  statics := none }

def pool15 : Array CpInfo := pool [(9, u "<init>"), (6, .class_ 18), (1, u "java/lang/Object"), (0, u "()V"), (1, .class_ 23), (1, u "jdk/internal/util/ArraysSupport"), (0, u "LOG2_ARRAY_LONG_INDEX_SCALE"), (0, u "I"), (2, u "U"), (0, u "Ljdk/internal/misc/Unsafe;"), (8, u "BIG_ENDIAN"), (0, u "Z"), (8, u "LOG2_BYTE_BIT_SIZE"), (4, u "LOG2_ARRAY_INT_INDEX_SCALE"), (54, u "JLA"), (0, u "Ljdk/internal/access/JavaLangAccess;"), (11, u "LOG2_ARRAY_BOOLEAN_INDEX_SCALE"), (9, u "LOG2_ARRAY_BYTE_INDEX_SCALE"), (5, u "LOG2_ARRAY_CHAR_INDEX_SCALE"), (5, u "LOG2_ARRAY_SHORT_INDEX_SCALE"), (18, u "LOG2_ARRAY_FLOAT_INDEX_SCALE"), (24, u "LOG2_ARRAY_DOUBLE_INDEX_SCALE"), (89, u "T_BOOLEAN"), (2, u "T_CHAR"), (1, u "T_FLOAT"), (1, u "T_DOUBLE"), (1, u "T_BYTE"), (1, u "T_SHORT"), (1, u "T_INT"), (1, u "T_LONG"), (1, u "SOFT_MAX_ARRAY_LENGTH")] 83

def k15m0 : Method := { name := "<init>", desc := "()V", sig := { parameters := [], returnType := none }, accessFlags := 2, code := none }
/-- jdk/internal/util/ArraysSupport -/
def k15 : Class := { plain "jdk/internal/util/ArraysSupport" (some 0) with
  accessFlags := 33
  interfaces := #[]
  cf := some (fileOf pool15 21 #[] #[{ accessFlags := 2, nameIndex := 9, descriptorIndex := 19, attributes := #[] }] 33 16 #[] #[{ accessFlags := 24, nameIndex := 28, descriptorIndex := 29, attributes := #[] }, { accessFlags := 26, nameIndex := 38, descriptorIndex := 39, attributes := #[] }, { accessFlags := 25, nameIndex := 121, descriptorIndex := 25, attributes := #[] }, { accessFlags := 25, nameIndex := 131, descriptorIndex := 25, attributes := #[] }, { accessFlags := 25, nameIndex := 137, descriptorIndex := 25, attributes := #[] }, { accessFlags := 25, nameIndex := 143, descriptorIndex := 25, attributes := #[] }, { accessFlags := 25, nameIndex := 53, descriptorIndex := 25, attributes := #[] }, { accessFlags := 25, nameIndex := 24, descriptorIndex := 25, attributes := #[] }, { accessFlags := 25, nameIndex := 162, descriptorIndex := 25, attributes := #[] }, { accessFlags := 25, nameIndex := 187, descriptorIndex := 25, attributes := #[] }, { accessFlags := 26, nameIndex := 48, descriptorIndex := 25, attributes := #[] }, { accessFlags := 25, nameIndex := 277, descriptorIndex := 25, attributes := #[] }, { accessFlags := 25, nameIndex := 280, descriptorIndex := 25, attributes := #[] }, { accessFlags := 25, nameIndex := 282, descriptorIndex := 25, attributes := #[] }, { accessFlags := 25, nameIndex := 284, descriptorIndex := 25, attributes := #[] }, { accessFlags := 25, nameIndex := 286, descriptorIndex := 25, attributes := #[] }, { accessFlags := 25, nameIndex := 288, descriptorIndex := 25, attributes := #[] }, { accessFlags := 25, nameIndex := 290, descriptorIndex := 25, attributes := #[] }, { accessFlags := 25, nameIndex := 292, descriptorIndex := 25, attributes := #[] }, { accessFlags := 26, nameIndex := 108, descriptorIndex := 109, attributes := #[] }, { accessFlags := 25, nameIndex := 294, descriptorIndex := 25, attributes := #[] }])
  fields := #[{ name := "U", type := (.object "jdk/internal/misc/Unsafe"), accessFlags := 24, slot := 0, constantValue := 0 }, { name := "BIG_ENDIAN", type := .boolean, accessFlags := 26, slot := 1, constantValue := 0 }, { name := "LOG2_ARRAY_BOOLEAN_INDEX_SCALE", type := .int, accessFlags := 25, slot := 2, constantValue := 0 }, { name := "LOG2_ARRAY_BYTE_INDEX_SCALE", type := .int, accessFlags := 25, slot := 3, constantValue := 0 }, { name := "LOG2_ARRAY_CHAR_INDEX_SCALE", type := .int, accessFlags := 25, slot := 4, constantValue := 0 }, { name := "LOG2_ARRAY_SHORT_INDEX_SCALE", type := .int, accessFlags := 25, slot := 5, constantValue := 0 }, { name := "LOG2_ARRAY_INT_INDEX_SCALE", type := .int, accessFlags := 25, slot := 6, constantValue := 0 }, { name := "LOG2_ARRAY_LONG_INDEX_SCALE", type := .int, accessFlags := 25, slot := 7, constantValue := 0 }, { name := "LOG2_ARRAY_FLOAT_INDEX_SCALE", type := .int, accessFlags := 25, slot := 8, constantValue := 0 }, { name := "LOG2_ARRAY_DOUBLE_INDEX_SCALE", type := .int, accessFlags := 25, slot := 9, constantValue := 0 }, { name := "LOG2_BYTE_BIT_SIZE", type := .int, accessFlags := 26, slot := 10, constantValue := 0 }, { name := "T_BOOLEAN", type := .int, accessFlags := 25, slot := 11, constantValue := 0 }, { name := "T_CHAR", type := .int, accessFlags := 25, slot := 12, constantValue := 0 }, { name := "T_FLOAT", type := .int, accessFlags := 25, slot := 13, constantValue := 0 }, { name := "T_DOUBLE", type := .int, accessFlags := 25, slot := 14, constantValue := 0 }, { name := "T_BYTE", type := .int, accessFlags := 25, slot := 15, constantValue := 0 }, { name := "T_SHORT", type := .int, accessFlags := 25, slot := 16, constantValue := 0 }, { name := "T_INT", type := .int, accessFlags := 25, slot := 17, constantValue := 0 }, { name := "T_LONG", type := .int, accessFlags := 25, slot := 18, constantValue := 0 }, { name := "JLA", type := (.object "jdk/internal/access/JavaLangAccess"), accessFlags := 26, slot := 19, constantValue := 0 }, { name := "SOFT_MAX_ARRAY_LENGTH", type := .int, accessFlags := 25, slot := 20, constantValue := 0 }]
  methods := #[k15m0]
  instanceTypes := #[]
  staticTypes := #[(.object "jdk/internal/misc/Unsafe"), .boolean, .int, .int, .int, .int, .int, .int, .int, .int, .int, .int, .int, .int, .int, .int, .int, .int, .int, (.object "jdk/internal/access/JavaLangAccess"), .int]
  resolved := Array.replicate 378 none
  statics := none }

def pool16 : Array CpInfo := pool [(1, u "java/lang/Cloneable"), (0, .class_ 1), (0, u "java/lang/Object"), (0, .class_ 3)] 3

/-- java/lang/Cloneable -/
def k16 : Class := { plain "java/lang/Cloneable" (some 0) with
  accessFlags := 1537
  interfaces := #[]
  cf := some (fileOf pool16 2 #[] #[] 1537 4 #[] #[])
  fields := #[]
  methods := #[]
  instanceTypes := #[]
  staticTypes := #[]
  resolved := Array.replicate 8 none
  statics := none }

/-- the primitive byte -/
def k17 : Class := { plain "byte" none with kind := .primitive 'B', accessFlags := 0x411 }
/-- [B -/
def k18 : Class := { plain "[B" (some 0) with kind := .array 17 .byte, interfaces := #[16, 4], accessFlags := 1041 }

/-- the primitive char -/
def k19 : Class := { plain "char" none with kind := .primitive 'C', accessFlags := 0x411 }
/-- [C -/
def k20 : Class := { plain "[C" (some 0) with kind := .array 19 .char, interfaces := #[16, 4], accessFlags := 1041 }

/-- the primitive int -/
def k21 : Class := { plain "int" none with kind := .primitive 'I', accessFlags := 0x411 }
/-- [I -/
def k22 : Class := { plain "[I" (some 0) with kind := .array 21 .int, interfaces := #[16, 4], accessFlags := 1041 }

def heap : Heap := #[{ cls := 6, slots := #[.ref 4, .ref 3, .null], vm := .statics 6 },
  { cls := 10, slots := #[.long 0, .int 1, .null, .int 0, .null, .int 0, .int 0], vm := .statics 10 },
  { cls := 12, slots := #[.null, .null, .null], vm := .statics 12 },
  { cls := 6, slots := #[.null, .int 0, .int 0, .int 128, .null], vm := .none },
  { cls := 6, slots := #[.null, .int 1, .int 0, .int 2047, .null], vm := .none }]
def classes : Array Class := #[k0, k1, k2, k3, k4, k5, k6, k7, k8, k9, k10, k11, k12, k13, k14, k15, k16, k17, k18, k19, k20, k21, k22]
def interned : List (Array UInt16 × Addr) := []
def slotsUsed : Nat := 23
def theMethod : MethodId := ⟨1, 3⟩
def args0 : Array Value := #[.int 5, .int 6, .int 7, .int 8, .int 9]
def aboutOver (below : List Frame) : State where
  vm := { classes := classes, interned := interned.toArray }
  heap := heap
  slotsUsed := slotsUsed
  threads := #[{ frames := .invoking theMethod args0 :: below }]
def below0 : List Frame := [.native { method := ⟨0, 0⟩, args := #[] }]
def about1 : State := aboutOver below0
def p0 : Program := .bare "" "" ""
def e0 : Env := launch0.env 0 0 0
theorem w_frames : about1.frames = Frame.invoking theMethod args0 :: below0 := rfl
set_option maxRecDepth 65536 in
theorem w_args : argsFit about1.vm theMethod args0 = true := by decide +kernel
set_option maxRecDepth 65536 in
theorem w_heap : heapFits about1 = true := by decide +kernel
set_option maxRecDepth 65536 in
theorem w_runnable : about1.curStatus? = some .runnable := by decide +kernel
set_option maxRecDepth 65536 in
theorem w_alone : about1.alone = true := by decide +kernel
set_option maxRecDepth 65536 in
theorem w_named : about1.methodNamed? x = some theMethod := by decide +kernel
set_option maxRecDepth 65536 in
theorem w_hears : about1.hears theMethod below0 = true := by decide +kernel
set_option maxRecDepth 65536 in
theorem w_ripe : about1.ripe theMethod args0 below0 = true := by decide +kernel
theorem w_running : about1.status = .running := rfl
set_option maxRecDepth 65536 in
theorem w_room : about1.hasRoom e0.platform room_1 = true :=
  launch0.hasRoom_least _ room_1 (by decide +kernel) (by decide +kernel) (by decide +kernel) (by decide +kernel) (by decide +kernel) (by decide +kernel)
theorem allAtoms_all (ts : List Jvm.Cond) (a : Array Jvm.Value) (st : Jvm.State) : (allAtoms ts).before a st = ts.all (fun c => c.before a st) := by
  induction ts with
  | nil => rfl
  | cons c t ih =>
    show (Jvm.Cond.and c (allAtoms t)).before a st = _
    rw [Jvm.Cond.before_and, ih, List.all_cons]
def words1 : List Jvm.Cond := Jvm.Cond.code x code maxLocals ret :: tables_1
/-- a 'code' word, met by the world's own term for the bytes: nothing is compared byte by byte -/
theorem code_word {y : MethodName} {bytes : ByteArray} {mx : Nat} {rt : Option FieldType} {a : Array Value} {s : State} {m : MethodId} {meth : Method} {c : Code} (h1 : s.methodNamed? y = some m) (h2 : s.vm.method? m = some meth) (h3 : meth.code = some c) (h4 : c.code = bytes)
    (h5 : (c.maxLocals == mx && c.exceptionTable.isEmpty && decide (c.maxStack ≤ mostOperands) && decide (meth.sig.returnType = rt) && !meth.locks && decide (parseMethodDescriptor y.desc = some meth.sig)) = true) : (Jvm.Cond.code y bytes mx rt).before a s = true := by
  simp only [Bool.and_eq_true, beq_iff_eq, Bool.not_eq_true', decide_eq_true_eq] at h5
  obtain ⟨⟨⟨⟨⟨g1, g2⟩, g3⟩, g4⟩, g5⟩, g6⟩ := h5
  simp [Cond.before, Cond.holds, Cond.value, h1, h2, h3, h4, g1, g2, g3, g4, g5, g6]
def isCode : Jvm.Cond → Bool
  | .code _ _ _ _ => true
  | _ => false
theorem all_split {L : List Jvm.Cond} {P : Jvm.Cond → Bool} (h1 : L.all (fun c => isCode c || P c) = true) (h2 : ∀ c ∈ L.filter isCode, P c = true) : L.all P = true := by
  refine List.all_eq_true.mpr fun c hc => ?_
  have h := List.all_eq_true.mp h1 c hc
  rcases Bool.eq_false_or_eq_true (isCode c) with hi | hi
  · exact h2 c (List.mem_filter.mpr ⟨hc, hi⟩)
  · simpa [hi] using h
set_option maxRecDepth 65536 in
theorem w_c0 : (Jvm.Cond.code x code maxLocals ret).before args0 about1 = true := code_word (m := ⟨1, 3⟩) (meth := k1m3) (c := k1c3) (by decide +kernel) rfl rfl rfl (by decide +kernel)
set_option maxRecDepth 65536 in
theorem w_c1 : (Jvm.Cond.code ({ cls := "com/example/libsitemap/libsitemap/ValueTextClearPinLaw", name := "draw", desc := "(I)C" } : Jvm.MethodName) method_2_code (2 : Nat) (Option.some Jvm.ClassFile.FieldType.char)).before args0 about1 = true := code_word (m := ⟨1, 1⟩) (meth := k1m1) (c := k1c1) (by decide +kernel) rfl rfl rfl (by decide +kernel)
set_option maxRecDepth 65536 in
theorem w_c2 : (Jvm.Cond.code ({ cls := "com/example/libsitemap/libsitemap/ValueText", name := "<init>", desc := "(Lcom/example/libsitemap/libsitemap/FieldFormat$TextLimit;)V" } : Jvm.MethodName) prog_46_method_1_code (2 : Nat) (Option.none : Option Jvm.ClassFile.FieldType)).before args0 about1 = true := code_word (m := ⟨7, 0⟩) (meth := k7m0) (c := k7c0) (by decide +kernel) rfl rfl rfl (by decide +kernel)
set_option maxRecDepth 65536 in
theorem w_c3 : (Jvm.Cond.code ({ cls := "java/lang/Object", name := "<init>", desc := "()V" } : Jvm.MethodName) object_method_1_code (1 : Nat) (Option.none : Option Jvm.ClassFile.FieldType)).before args0 about1 = true := code_word (m := ⟨0, 0⟩) (meth := k0m0) (c := k0c0) (by decide +kernel) rfl rfl rfl (by decide +kernel)
set_option maxRecDepth 65536 in
theorem w_c4 : (Jvm.Cond.code ({ cls := "com/example/libsitemap/libsitemap/FieldFormat$TextLimit", name := "chars", desc := "()I" } : Jvm.MethodName) prog_18_method_4_code (1 : Nat) (Option.some Jvm.ClassFile.FieldType.int)).before args0 about1 = true := code_word (m := ⟨6, 0⟩) (meth := k6m0) (c := k6c0) (by decide +kernel) rfl rfl rfl (by decide +kernel)
set_option maxRecDepth 65536 in
theorem w_c5 : (Jvm.Cond.code ({ cls := "com/example/libsitemap/libsitemap/ValueText", name := "take", desc := "(C)V" } : Jvm.MethodName) prog_46_method_3_code (3 : Nat) (Option.none : Option Jvm.ClassFile.FieldType)).before args0 about1 = true := code_word (m := ⟨7, 2⟩) (meth := k7m2) (c := k7c2) (by decide +kernel) rfl rfl rfl (by decide +kernel)
set_option maxRecDepth 65536 in
theorem w_c6 : (Jvm.Cond.code ({ cls := "com/example/libsitemap/libsitemap/ValueText", name := "isBlank", desc := "(C)Z" } : Jvm.MethodName) prog_46_method_2_code (1 : Nat) (Option.some Jvm.ClassFile.FieldType.boolean)).before args0 about1 = true := code_word (m := ⟨7, 1⟩) (meth := k7m1) (c := k7c1) (by decide +kernel) rfl rfl rfl (by decide +kernel)
set_option maxRecDepth 65536 in
theorem w_c7 : (Jvm.Cond.code ({ cls := "com/example/libsitemap/libsitemap/ValueText", name := "clear", desc := "()V" } : Jvm.MethodName) prog_46_method_9_code (1 : Nat) (Option.none : Option Jvm.ClassFile.FieldType)).before args0 about1 = true := code_word (m := ⟨7, 7⟩) (meth := k7m7) (c := k7c7) (by decide +kernel) rfl rfl rfl (by decide +kernel)
set_option maxRecDepth 65536 in
theorem w_c8 : (Jvm.Cond.code ({ cls := "com/example/libsitemap/libsitemap/ValueText", name := "length", desc := "()J" } : Jvm.MethodName) prog_46_method_7_code (1 : Nat) (Option.some Jvm.ClassFile.FieldType.long)).before args0 about1 = true := code_word (m := ⟨7, 5⟩) (meth := k7m5) (c := k7c5) (by decide +kernel) rfl rfl rfl (by decide +kernel)
set_option maxRecDepth 65536 in
theorem w_c9 : (Jvm.Cond.code ({ cls := "com/example/libsitemap/libsitemap/ValueText", name := "isEmpty", desc := "()Z" } : Jvm.MethodName) prog_46_method_5_code (1 : Nat) (Option.some Jvm.ClassFile.FieldType.boolean)).before args0 about1 = true := code_word (m := ⟨7, 3⟩) (meth := k7m3) (c := k7c3) (by decide +kernel) rfl rfl rfl (by decide +kernel)
set_option maxRecDepth 65536 in
theorem w_c10 : (Jvm.Cond.code ({ cls := "com/example/libsitemap/libsitemap/ValueText", name := "text", desc := "()Ljava/lang/String;" } : Jvm.MethodName) prog_46_method_6_code (1 : Nat) (Option.some (Jvm.ClassFile.FieldType.object "java/lang/String"))).before args0 about1 = true := code_word (m := ⟨7, 4⟩) (meth := k7m4) (c := k7c4) (by decide +kernel) rfl rfl rfl (by decide +kernel)
set_option maxRecDepth 65536 in
theorem w_c11 : (Jvm.Cond.code ({ cls := "java/lang/Math", name := "min", desc := "(JJ)J" } : Jvm.MethodName) jdk_29_method_70_code (4 : Nat) (Option.some Jvm.ClassFile.FieldType.long)).before args0 about1 = true := code_word (m := ⟨11, 2⟩) (meth := k11m2) (c := k11c2) (by decide +kernel) rfl rfl rfl (by decide +kernel)
set_option maxRecDepth 65536 in
theorem w_c12 : (Jvm.Cond.code ({ cls := "java/lang/String", name := "<init>", desc := "([CII)V" } : Jvm.MethodName) jdk_42_method_4_code (4 : Nat) (Option.none : Option Jvm.ClassFile.FieldType)).before args0 about1 = true := code_word (m := ⟨10, 1⟩) (meth := k10m1) (c := k10c1) (by decide +kernel) rfl rfl rfl (by decide +kernel)
set_option maxRecDepth 65536 in
theorem w_c13 : (Jvm.Cond.code ({ cls := "java/lang/String", name := "rangeCheck", desc := "([CII)Ljava/lang/Void;" } : Jvm.MethodName) jdk_42_method_5_code (3 : Nat) (Option.some (Jvm.ClassFile.FieldType.object "java/lang/Void"))).before args0 about1 = true := code_word (m := ⟨10, 2⟩) (meth := k10m2) (c := k10c2) (by decide +kernel) rfl rfl rfl (by decide +kernel)
set_option maxRecDepth 65536 in
theorem w_c14 : (Jvm.Cond.code ({ cls := "java/lang/String", name := "checkBoundsOffCount", desc := "(III)I" } : Jvm.MethodName) jdk_42_method_157_code (3 : Nat) (Option.some Jvm.ClassFile.FieldType.int)).before args0 about1 = true := code_word (m := ⟨10, 10⟩) (meth := k10m10) (c := k10c10) (by decide +kernel) rfl rfl rfl (by decide +kernel)
set_option maxRecDepth 65536 in
theorem w_c15 : (Jvm.Cond.code ({ cls := "jdk/internal/util/Preconditions", name := "checkFromIndexSize", desc := "(IIILjava/util/function/BiFunction;)I" } : Jvm.MethodName) jdk_41_method_13_code (4 : Nat) (Option.some Jvm.ClassFile.FieldType.int)).before args0 about1 = true := code_word (m := ⟨12, 2⟩) (meth := k12m2) (c := k12c2) (by decide +kernel) rfl rfl rfl (by decide +kernel)
set_option maxRecDepth 65536 in
theorem w_c16 : (Jvm.Cond.code ({ cls := "java/lang/String", name := "<init>", desc := "([CIILjava/lang/Void;)V" } : Jvm.MethodName) jdk_42_method_149_code (6 : Nat) (Option.none : Option Jvm.ClassFile.FieldType)).before args0 about1 = true := code_word (m := ⟨10, 6⟩) (meth := k10m6) (c := k10c6) (by decide +kernel) rfl rfl rfl (by decide +kernel)
set_option maxRecDepth 65536 in
theorem w_c17 : (Jvm.Cond.code ({ cls := "java/lang/String", name := "isEmpty", desc := "()Z" } : Jvm.MethodName) jdk_42_method_55_code (1 : Nat) (Option.some Jvm.ClassFile.FieldType.boolean)).before args0 about1 = true := code_word (m := ⟨10, 4⟩) (meth := k10m4) (c := k10c4) (by decide +kernel) rfl rfl rfl (by decide +kernel)
set_option maxRecDepth 65536 in
theorem w_c18 : (Jvm.Cond.code ({ cls := "com/example/libsitemap/libsitemap/ValueTextClearPinLaw", name := "blank", desc := "(C)Z" } : Jvm.MethodName) method_3_code (1 : Nat) (Option.some Jvm.ClassFile.FieldType.boolean)).before args0 about1 = true := code_word (m := ⟨1, 2⟩) (meth := k1m2) (c := k1c2) (by decide +kernel) rfl rfl rfl (by decide +kernel)
set_option maxRecDepth 65536 in
theorem w_c19 : (Jvm.Cond.code ({ cls := "com/example/libsitemap/libsitemap/ValueText", name := "room", desc := "(I)I" } : Jvm.MethodName) prog_46_method_8_code (3 : Nat) (Option.some Jvm.ClassFile.FieldType.int)).before args0 about1 = true := code_word (m := ⟨7, 6⟩) (meth := k7m6) (c := k7c6) (by decide +kernel) rfl rfl rfl (by decide +kernel)
set_option maxRecDepth 65536 in
theorem w_c20 : (Jvm.Cond.code ({ cls := "java/lang/Math", name := "min", desc := "(II)I" } : Jvm.MethodName) jdk_29_method_69_code (2 : Nat) (Option.some Jvm.ClassFile.FieldType.int)).before args0 about1 = true := code_word (m := ⟨11, 1⟩) (meth := k11m1) (c := k11c1) (by decide +kernel) rfl rfl rfl (by decide +kernel)
set_option maxRecDepth 65536 in
theorem w_c21 : (Jvm.Cond.code ({ cls := "java/lang/StringUTF16", name := "compress", desc := "([CII)[B" } : Jvm.MethodName) jdk_52_method_16_code (6 : Nat) (Option.some (Jvm.ClassFile.FieldType.array Jvm.ClassFile.FieldType.byte))).before args0 about1 = true := code_word (m := ⟨13, 2⟩) (meth := k13m2) (c := k13c2) (by decide +kernel) rfl rfl rfl (by decide +kernel)
set_option maxRecDepth 65536 in
theorem w_c22 : (Jvm.Cond.code ({ cls := "java/lang/StringUTF16", name := "compress", desc := "([CI[BII)I" } : Jvm.MethodName) jdk_52_method_21_code (7 : Nat) (Option.some Jvm.ClassFile.FieldType.int)).before args0 about1 = true := code_word (m := ⟨13, 3⟩) (meth := k13m3) (c := k13c3) (by decide +kernel) rfl rfl rfl (by decide +kernel)
set_option maxRecDepth 65536 in
theorem w_c23 : (Jvm.Cond.code ({ cls := "java/lang/StringUTF16", name := "coderFromArrayLen", desc := "([BI)B" } : Jvm.MethodName) jdk_52_method_15_code (2 : Nat) (Option.some Jvm.ClassFile.FieldType.byte)).before args0 about1 = true := code_word (m := ⟨13, 1⟩) (meth := k13m1) (c := k13c1) (by decide +kernel) rfl rfl rfl (by decide +kernel)
set_option maxRecDepth 65536 in
theorem w_c24 : (Jvm.Cond.code ({ cls := "java/lang/String", name := "length", desc := "()I" } : Jvm.MethodName) jdk_42_method_54_code (1 : Nat) (Option.some Jvm.ClassFile.FieldType.int)).before args0 about1 = true := code_word (m := ⟨10, 3⟩) (meth := k10m3) (c := k10c3) (by decide +kernel) rfl rfl rfl (by decide +kernel)
set_option maxRecDepth 65536 in
theorem w_c25 : (Jvm.Cond.code ({ cls := "java/lang/String", name := "coder", desc := "()B" } : Jvm.MethodName) jdk_42_method_152_code (1 : Nat) (Option.some Jvm.ClassFile.FieldType.byte)).before args0 about1 = true := code_word (m := ⟨10, 7⟩) (meth := k10m7) (c := k10c7) (by decide +kernel) rfl rfl rfl (by decide +kernel)
set_option maxRecDepth 65536 in
theorem w_c26 : (Jvm.Cond.code ({ cls := "java/lang/String", name := "charAt", desc := "(I)C" } : Jvm.MethodName) jdk_42_method_56_code (2 : Nat) (Option.some Jvm.ClassFile.FieldType.char)).before args0 about1 = true := code_word (m := ⟨10, 5⟩) (meth := k10m5) (c := k10c5) (by decide +kernel) rfl rfl rfl (by decide +kernel)
set_option maxRecDepth 65536 in
theorem w_c27 : (Jvm.Cond.code ({ cls := "java/lang/String", name := "isLatin1", desc := "()Z" } : Jvm.MethodName) jdk_42_method_154_code (1 : Nat) (Option.some Jvm.ClassFile.FieldType.boolean)).before args0 about1 = true := code_word (m := ⟨10, 8⟩) (meth := k10m8) (c := k10c8) (by decide +kernel) rfl rfl rfl (by decide +kernel)
set_option maxRecDepth 65536 in
theorem w_c28 : (Jvm.Cond.code ({ cls := "java/lang/StringLatin1", name := "charAt", desc := "([BI)C" } : Jvm.MethodName) jdk_43_method_2_code (2 : Nat) (Option.some Jvm.ClassFile.FieldType.char)).before args0 about1 = true := code_word (m := ⟨14, 1⟩) (meth := k14m1) (c := k14c1) (by decide +kernel) rfl rfl rfl (by decide +kernel)
set_option maxRecDepth 65536 in
theorem w_c29 : (Jvm.Cond.code ({ cls := "java/lang/String", name := "checkIndex", desc := "(II)V" } : Jvm.MethodName) jdk_42_method_155_code (2 : Nat) (Option.none : Option Jvm.ClassFile.FieldType)).before args0 about1 = true := code_word (m := ⟨10, 9⟩) (meth := k10m9) (c := k10c9) (by decide +kernel) rfl rfl rfl (by decide +kernel)
set_option maxRecDepth 65536 in
theorem w_c30 : (Jvm.Cond.code ({ cls := "jdk/internal/util/Preconditions", name := "checkIndex", desc := "(IILjava/util/function/BiFunction;)I" } : Jvm.MethodName) jdk_41_method_11_code (3 : Nat) (Option.some Jvm.ClassFile.FieldType.int)).before args0 about1 = true := code_word (m := ⟨12, 1⟩) (meth := k12m1) (c := k12c1) (by decide +kernel) rfl rfl rfl (by decide +kernel)
def codes1 : List Jvm.Cond := [Jvm.Cond.code x code maxLocals ret, Jvm.Cond.code ({ cls := "com/example/libsitemap/libsitemap/ValueTextClearPinLaw", name := "draw", desc := "(I)C" } : Jvm.MethodName) method_2_code (2 : Nat) (Option.some Jvm.ClassFile.FieldType.char), Jvm.Cond.code ({ cls := "com/example/libsitemap/libsitemap/ValueText", name := "<init>", desc := "(Lcom/example/libsitemap/libsitemap/FieldFormat$TextLimit;)V" } : Jvm.MethodName) prog_46_method_1_code (2 : Nat) (Option.none : Option Jvm.ClassFile.FieldType), Jvm.Cond.code ({ cls := "java/lang/Object", name := "<init>", desc := "()V" } : Jvm.MethodName) object_method_1_code (1 : Nat) (Option.none : Option Jvm.ClassFile.FieldType), Jvm.Cond.code ({ cls := "com/example/libsitemap/libsitemap/FieldFormat$TextLimit", name := "chars", desc := "()I" } : Jvm.MethodName) prog_18_method_4_code (1 : Nat) (Option.some Jvm.ClassFile.FieldType.int), Jvm.Cond.code ({ cls := "com/example/libsitemap/libsitemap/ValueText", name := "take", desc := "(C)V" } : Jvm.MethodName) prog_46_method_3_code (3 : Nat) (Option.none : Option Jvm.ClassFile.FieldType), Jvm.Cond.code ({ cls := "com/example/libsitemap/libsitemap/ValueText", name := "isBlank", desc := "(C)Z" } : Jvm.MethodName) prog_46_method_2_code (1 : Nat) (Option.some Jvm.ClassFile.FieldType.boolean), Jvm.Cond.code ({ cls := "com/example/libsitemap/libsitemap/ValueText", name := "clear", desc := "()V" } : Jvm.MethodName) prog_46_method_9_code (1 : Nat) (Option.none : Option Jvm.ClassFile.FieldType), Jvm.Cond.code ({ cls := "com/example/libsitemap/libsitemap/ValueText", name := "length", desc := "()J" } : Jvm.MethodName) prog_46_method_7_code (1 : Nat) (Option.some Jvm.ClassFile.FieldType.long), Jvm.Cond.code ({ cls := "com/example/libsitemap/libsitemap/ValueText", name := "isEmpty", desc := "()Z" } : Jvm.MethodName) prog_46_method_5_code (1 : Nat) (Option.some Jvm.ClassFile.FieldType.boolean), Jvm.Cond.code ({ cls := "com/example/libsitemap/libsitemap/ValueText", name := "text", desc := "()Ljava/lang/String;" } : Jvm.MethodName) prog_46_method_6_code (1 : Nat) (Option.some (Jvm.ClassFile.FieldType.object "java/lang/String")), Jvm.Cond.code ({ cls := "java/lang/Math", name := "min", desc := "(JJ)J" } : Jvm.MethodName) jdk_29_method_70_code (4 : Nat) (Option.some Jvm.ClassFile.FieldType.long), Jvm.Cond.code ({ cls := "java/lang/String", name := "<init>", desc := "([CII)V" } : Jvm.MethodName) jdk_42_method_4_code (4 : Nat) (Option.none : Option Jvm.ClassFile.FieldType), Jvm.Cond.code ({ cls := "java/lang/String", name := "rangeCheck", desc := "([CII)Ljava/lang/Void;" } : Jvm.MethodName) jdk_42_method_5_code (3 : Nat) (Option.some (Jvm.ClassFile.FieldType.object "java/lang/Void")), Jvm.Cond.code ({ cls := "java/lang/String", name := "checkBoundsOffCount", desc := "(III)I" } : Jvm.MethodName) jdk_42_method_157_code (3 : Nat) (Option.some Jvm.ClassFile.FieldType.int), Jvm.Cond.code ({ cls := "jdk/internal/util/Preconditions", name := "checkFromIndexSize", desc := "(IIILjava/util/function/BiFunction;)I" } : Jvm.MethodName) jdk_41_method_13_code (4 : Nat) (Option.some Jvm.ClassFile.FieldType.int), Jvm.Cond.code ({ cls := "java/lang/String", name := "<init>", desc := "([CIILjava/lang/Void;)V" } : Jvm.MethodName) jdk_42_method_149_code (6 : Nat) (Option.none : Option Jvm.ClassFile.FieldType), Jvm.Cond.code ({ cls := "java/lang/String", name := "isEmpty", desc := "()Z" } : Jvm.MethodName) jdk_42_method_55_code (1 : Nat) (Option.some Jvm.ClassFile.FieldType.boolean), Jvm.Cond.code ({ cls := "com/example/libsitemap/libsitemap/ValueTextClearPinLaw", name := "blank", desc := "(C)Z" } : Jvm.MethodName) method_3_code (1 : Nat) (Option.some Jvm.ClassFile.FieldType.boolean), Jvm.Cond.code ({ cls := "com/example/libsitemap/libsitemap/ValueText", name := "room", desc := "(I)I" } : Jvm.MethodName) prog_46_method_8_code (3 : Nat) (Option.some Jvm.ClassFile.FieldType.int), Jvm.Cond.code ({ cls := "java/lang/Math", name := "min", desc := "(II)I" } : Jvm.MethodName) jdk_29_method_69_code (2 : Nat) (Option.some Jvm.ClassFile.FieldType.int), Jvm.Cond.code ({ cls := "java/lang/StringUTF16", name := "compress", desc := "([CII)[B" } : Jvm.MethodName) jdk_52_method_16_code (6 : Nat) (Option.some (Jvm.ClassFile.FieldType.array Jvm.ClassFile.FieldType.byte)), Jvm.Cond.code ({ cls := "java/lang/StringUTF16", name := "compress", desc := "([CI[BII)I" } : Jvm.MethodName) jdk_52_method_21_code (7 : Nat) (Option.some Jvm.ClassFile.FieldType.int), Jvm.Cond.code ({ cls := "java/lang/StringUTF16", name := "coderFromArrayLen", desc := "([BI)B" } : Jvm.MethodName) jdk_52_method_15_code (2 : Nat) (Option.some Jvm.ClassFile.FieldType.byte), Jvm.Cond.code ({ cls := "java/lang/String", name := "length", desc := "()I" } : Jvm.MethodName) jdk_42_method_54_code (1 : Nat) (Option.some Jvm.ClassFile.FieldType.int), Jvm.Cond.code ({ cls := "java/lang/String", name := "coder", desc := "()B" } : Jvm.MethodName) jdk_42_method_152_code (1 : Nat) (Option.some Jvm.ClassFile.FieldType.byte), Jvm.Cond.code ({ cls := "java/lang/String", name := "charAt", desc := "(I)C" } : Jvm.MethodName) jdk_42_method_56_code (2 : Nat) (Option.some Jvm.ClassFile.FieldType.char), Jvm.Cond.code ({ cls := "java/lang/String", name := "isLatin1", desc := "()Z" } : Jvm.MethodName) jdk_42_method_154_code (1 : Nat) (Option.some Jvm.ClassFile.FieldType.boolean), Jvm.Cond.code ({ cls := "java/lang/StringLatin1", name := "charAt", desc := "([BI)C" } : Jvm.MethodName) jdk_43_method_2_code (2 : Nat) (Option.some Jvm.ClassFile.FieldType.char), Jvm.Cond.code ({ cls := "java/lang/String", name := "checkIndex", desc := "(II)V" } : Jvm.MethodName) jdk_42_method_155_code (2 : Nat) (Option.none : Option Jvm.ClassFile.FieldType), Jvm.Cond.code ({ cls := "jdk/internal/util/Preconditions", name := "checkIndex", desc := "(IILjava/util/function/BiFunction;)I" } : Jvm.MethodName) jdk_41_method_11_code (3 : Nat) (Option.some Jvm.ClassFile.FieldType.int)]
set_option maxRecDepth 65536 in
theorem codes_eq : words1.filter isCode = codes1 := rfl
theorem w_codes : ∀ c ∈ words1.filter isCode, c.before args0 about1 = true := by
  rw [codes_eq]
  intro c hc
  simp only [codes1, List.mem_cons, List.not_mem_nil, or_false] at hc
  rcases hc with rfl | rfl | rfl | rfl | rfl | rfl | rfl | rfl | rfl | rfl | rfl | rfl | rfl | rfl | rfl | rfl | rfl | rfl | rfl | rfl | rfl | rfl | rfl | rfl | rfl | rfl | rfl | rfl | rfl | rfl | rfl
  · exact w_c0
  · exact w_c1
  · exact w_c2
  · exact w_c3
  · exact w_c4
  · exact w_c5
  · exact w_c6
  · exact w_c7
  · exact w_c8
  · exact w_c9
  · exact w_c10
  · exact w_c11
  · exact w_c12
  · exact w_c13
  · exact w_c14
  · exact w_c15
  · exact w_c16
  · exact w_c17
  · exact w_c18
  · exact w_c19
  · exact w_c20
  · exact w_c21
  · exact w_c22
  · exact w_c23
  · exact w_c24
  · exact w_c25
  · exact w_c26
  · exact w_c27
  · exact w_c28
  · exact w_c29
  · exact w_c30
set_option maxRecDepth 65536 in
theorem w_t1 : (words1.take 24).all (fun c => isCode c || c.before args0 about1) = true := by decide +kernel
set_option maxRecDepth 65536 in
theorem w_t2 : ((words1.drop 24).take 24).all (fun c => isCode c || c.before args0 about1) = true := by decide +kernel
set_option maxRecDepth 65536 in
theorem w_t3 : (((words1.drop 24).drop 24).take 24).all (fun c => isCode c || c.before args0 about1) = true := by decide +kernel
set_option maxRecDepth 65536 in
theorem w_t4 : ((((words1.drop 24).drop 24).drop 24).take 24).all (fun c => isCode c || c.before args0 about1) = true := by decide +kernel
set_option maxRecDepth 65536 in
theorem w_t5 : (((((words1.drop 24).drop 24).drop 24).drop 24).take 24).all (fun c => isCode c || c.before args0 about1) = true := by decide +kernel
set_option maxRecDepth 65536 in
theorem w_t6 : ((((((words1.drop 24).drop 24).drop 24).drop 24).drop 24).take 24).all (fun c => isCode c || c.before args0 about1) = true := by decide +kernel
set_option maxRecDepth 65536 in
theorem w_t7 : ((((((words1.drop 24).drop 24).drop 24).drop 24).drop 24).drop 24).all (fun c => isCode c || c.before args0 about1) = true := by decide +kernel
theorem w_tables : (allAtoms (Jvm.Cond.code x code maxLocals ret :: tables_1)).before args0 about1 = true := by
  rw [allAtoms_all]
  show words1.all (fun c => c.before args0 about1) = true
  refine all_split ?_ w_codes
  rw [← List.take_append_drop 24 words1, List.all_append, w_t1, ← List.take_append_drop 24 (words1.drop 24), List.all_append, w_t2, ← List.take_append_drop 24 ((words1.drop 24).drop 24), List.all_append, w_t3, ← List.take_append_drop 24 (((words1.drop 24).drop 24).drop 24), List.all_append, w_t4, ← List.take_append_drop 24 ((((words1.drop 24).drop 24).drop 24).drop 24), List.all_append, w_t5, ← List.take_append_drop 24 (((((words1.drop 24).drop 24).drop 24).drop 24).drop 24), List.all_append, w_t6, w_t7]
  rfl
set_option maxRecDepth 65536 in
theorem w_rest : rest_1_c.before args0 about1 = true := by decide +kernel
set_option maxRecDepth 65536 in
theorem w_case : (Jvm.Cond.and given_1 narrow_1).before args0 about1 = true := by decide +kernel
set_option maxRecDepth 65536 in
theorem w_consts : constsHeld consts_1 about1 := Jvm.Lit.constsHeldB_iff.mp (by decide +kernel)
theorem w_applies : (headSpec (Jvm.Cond.code x code maxLocals ret :: tables_1) room_1).applies x e0.platform about1 = true :=
  (Spec.applies_iff w_frames).mpr ⟨w_running, w_runnable, w_alone, w_named, w_hears, w_ripe, w_room, w_tables⟩
theorem atStart : AtStart classFile x code maxLocals ret World_1 tables_1 room_1 Calls_1 rest_1 Pre_1 launch0 p0 e0 about1 theMethod args0 below0 :=
  ⟨lists_1, trivial, launch0.admits_env _ _ _, launch0.least_env, fairChoices_fair.cas, fairChoices_fair.clock, w_frames, w_args, w_heap, w_applies, ⟨w_consts, trivial⟩, w_rest, w_case⟩
end start1
theorem witness_1 : WitnessClaimed_1 := ⟨start1.p0, start1.e0, start1.about1, start1.theMethod, start1.args0, start1.below0, start1.atStart⟩
end Jvm.Pilot.@@N@@

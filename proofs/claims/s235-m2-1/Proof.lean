import JvmDerived
import JvmDerived.Pilot.@@N@@Statement
import JvmDerived.Pilot.@@N@@Code
set_option linter.unusedVariables false
set_option linter.unusedSimpArgs false
namespace Jvm.RoadKit
open Sem ClassFile Op Lib Jvm.Stand Jvm.Free Jvm.LawKit
section New
variable {p : Program} {l : Launch} {e : Env} {R : Room} {s : State} {m : MethodId} {args : Array Value} {below : List Frame} {meth : Method} {c : Code} {T : State} {locs : List Loc} {cells slots : Nat}
theorem retI (X : Stand p l e R s m args below meth c T locs cells slots) (hx : p.tables.exec = Jvm.exec) {pc : Nat} {Ls : Array Slot} {z : Int32} {rest : List Value} (hret : meth.sig.returnType = some .int) (hd : decode c.code pc = .ok (.ireturn, 1)) {fs : List Frame}
    (hl : ∀ (f : JFrame) (acts : List Action), f.method = m → f.locked = none → f.entered = [] → (doReturn e (T.setTop f) acts (some (.int z))).1 = T.setFrames fs) : Steps p.tables e below (T.setTop (mkF m pc Ls (.int z :: rest))) (T.setFrames fs) := by
  have hm' : T.vm.method? m = some meth := X.method'
  have hn : narrow .int (.int z) = .int z := rfl
  show Steps p.tables e below (T.setTop { method := m, pc := pc, locals := Ls, stack := _ :: rest, locked := none }) _
  jvm_step X.here [X.here.top, hx, hd, hm', hret, hn]
  first | (intro acts; rw [hl _ acts rfl rfl rfl]) | rw [hl _ _ rfl rfl rfl]
  exact Steps.refl _
end New
end Jvm.RoadKit
namespace Jvm.Pilot.@@N@@
open Jvm Jvm.ClassFile Sem Op Lib Jvm.Free Jvm.Stand Jvm.LawKit Jvm.RoadKit Bundle Jvm.Pilot.@@N@@.Jvm.D
def own_cmp (x y : Int64) : Int32 := if x < y then -1 else if x = y then 0 else 1
def own_sign (r : Int32) : Int32 := if r < 0 then -1 else if 0 < r then 1 else 0
def own_pick (b d : Int64) (f : Int32) : Int64 := if f &&& 3 = 1 then b else if f &&& 3 = 2 ∧ ¬ b = (9223372036854775807 : Int64) then b + 1 else if f &&& 3 = 3 ∧ 1 < b then b - 1 else d &&& (9223372036854775807 : Int64)
theorem own_sgn (x y : Int64) : own_sign (own_cmp x y) = own_cmp x y := by
  unfold own_cmp
  split
  · rfl
  · split <;> rfl
theorem own_m (x : Int64) : 0 ≤ (x &&& (9223372036854775807 : Int64)).toInt := by
  rw [c_maskL x 9223372036854775807 63 (by decide) (by decide)]
  exact Int.emod_nonneg _ (by decide)
theorem own_k0 : (0 : Int64).toInt = 0 := by decide
theorem own_k1 : (1 : Int64).toInt = 1 := by decide
theorem own_kM : (9223372036854775807 : Int64).toInt = 9223372036854775807 := by decide
theorem own_pos (x : Int64) (h0 : 0 ≤ x.toInt) (h : ¬ (lcmpW x (0 : Int64)) = (0 : Int32)) : (0 : Int64) < x := by
  rw [Int64.lt_iff_toInt_lt, own_k0]
  have : ¬ x.toInt = 0 := fun e => h ((lw_eq _ _).mpr (Int64.toInt_inj.mp (e.trans own_k0.symm)))
  omega
theorem own_pick_nn (b d : Int64) (f : Int32) (h : 0 ≤ b.toInt) : 0 ≤ (own_pick b d f).toInt := by
  have r := rng64 b
  unfold own_pick
  split
  · exact h
  split
  · rename_i q
    have q2 : ¬ b.toInt = 9223372036854775807 := fun e => q.2 (Int64.toInt_inj.mp (e.trans own_kM.symm))
    have c1 := c_ladd b 1
    have c2 := rng64 (b + 1)
    rw [own_k1] at c1
    omega
  split
  · rename_i q
    have q2 := q.2
    rw [Int64.lt_iff_toInt_lt, own_k1] at q2
    have c1 := c_lsub b 1
    have c2 := rng64 (b - 1)
    rw [own_k1] at c1
    omega
  · exact own_m d
theorem d3_0 : decode jdk_30_method_1_code 0 = .ok (.aload_n 0, 1) := by decide +kernel
theorem d3_1 : decode jdk_30_method_1_code 1 = .ok (.invokespecial 1, 3) := by decide +kernel
theorem d3_4 : decode jdk_30_method_1_code 4 = .ok (.return_, 1) := by decide +kernel
theorem pn_0 : plainName "java/lang/Record" = true := by first | (simp [plainName, overriddenIn]; done) | decide +kernel
theorem ef_3 (m : MethodId) (x0 : Addr) : entryFrame m #[(.ref x0)] 1 = mkF m 0 #[.val (.ref x0)] [] := by first | (simp [entryFrame, mkF, argsToLocals, Value.category]; done) | rfl
def Qrm3 (Z : State) (a : Addr) (h0 : Heap) (n0 : Nat) (v : Option Value) (h : Heap) (L : List Loc) : Prop := v = none ∧ Fr n0 L ∧ h = h0
set_option maxRecDepth 65536 in
set_option maxHeartbeats 40000000 in
theorem rm3 (l : Launch) (Z : State) (a0 : Array Value) (hw : ∀ d ∈ tables_1, d.before a0 Z = true) (ws : List Jvm.Cond) (a : Addr) (h0 : Heap) (n0 : Nat) (Z0 : n0 ≤ h0.size) :
    MetFree l (⟨"java/lang/Record", "<init>", "()V"⟩ : MethodName) (head1 (Jvm.Cond.code (⟨"java/lang/Record", "<init>", "()V"⟩ : MethodName) jdk_30_method_1_code 1 none :: ws) ({ frames := 1, cells := 0, slots := 0, locals := 12 } : Room)) (fun aa_ U => aa_ = #[(.ref a)] ∧ Z.Warmed39 U.vm ∧ U.heap = h0) (fun _ _ _ _ _ => True) (fun _ U o U' => ∃ v L, o = .returned v ∧ Qrm3 Z a h0 n0 v U'.heap L ∧ FrameEnd U o U' L ({ frames := 1, cells := 0, slots := 0, locals := 12 } : Room).cells ({ frames := 1, cells := 0, slots := 0, locals := 12 } : Room).slots) := by
  refine MetFree.of_bodySF (plainFor_of_name pn_0) hisR ?_
  intro p e s m args below meth c s₁ Bd hml0 hP hK
  obtain ⟨rfl, hZ, hh⟩ := hP
  have hx := Bd.exec
  have hby := Bd.bytes
  have hml : c.maxLocals = 1 := hml0
  have hown : s.vm.findClass "java/lang/Record" = some m.cls := findClass_of_methodNamed Bd.named
  have hnm := (name_of_methodNamed Bd.named Bd.method).1
  have X0 : Stand p l e ({ frames := 1, cells := 0, slots := 0, locals := 12 } : Room) s m #[(.ref a)] below meth c s₁ [] 0 0 := Stand.of_body Bd
  have e0 : s₁.heap = h0 := by rw [← hh, Bd.state]; rfl
  have N0 := Fr.nil n0
  have pre0 : ∀ tt_, Steps p.tables e below (s₁.setTop (mkF m 0 #[.val (.ref a)] [])) tt_ → Steps p.tables e below (s₁.setTop (entryFrame m #[(.ref a)] 1)) tt_ := fun tt_ kk_ => castTop (ef_3 m a) kk_
  obtain ⟨T1, X1, e1, st1⟩ := initO X0 hx hZ hown (hw _ (List.mem_of_getElem? (i := 16) rfl)) (hw _ (List.mem_of_getElem? (i := 17) rfl)) (hw _ (List.mem_of_getElem? (i := 18) rfl)) e0 (g := (mkF m 1 #[.val (.ref a)] [(.ref a)])) rfl (by rw [hml]; rfl) rfl (hb hby d3_1) (by decide) (W := 0) (by show 2 * 0 + _ ≤ _; exact Nat.le_of_eq rfl) (by decide)
  obtain ⟨fs, hr, hrun, hended, hW, hsame⟩ := X1.leave (v := none) (fun _ => rfl)
  refine ⟨_, _, pre0 _ ?_, hrun, hended, _, _, rfl, ?_, ⟨_, rfl⟩, hW, hsame.mono (by decide) (by decide)⟩
  · show Steps p.tables e below (s₁.setTop (mkF m 0 #[.val (.ref a)] [])) _
    refine XS.aloadN X0.here hx rfl (hb hby d3_0) rfl rfl ?_
    show Steps p.tables e below (s₁.setTop (mkF m 1 #[.val (.ref a)] [(.ref a)])) _
    refine st1 _ ?_
    show Steps p.tables e below (T1.setTop (mkF m 4 #[.val (.ref a)] [])) _
    exact X1.returnOut hx Bd.returns (hb hby d3_4) hr
  · show Qrm3 Z a h0 n0 _ T1.heap _
    rw [e1]
    exact ⟨rfl, N0, rfl⟩
theorem pd_0 : parseMethodDescriptor "()V" = some ⟨[], none⟩ := by decide +kernel
theorem d2_0 : decode prog_56_method_1_code 0 = .ok (.aload_n 0, 1) := by decide +kernel
theorem d2_1 : decode prog_56_method_1_code 1 = .ok (.invokespecial 1, 3) := by decide +kernel
theorem d2_4 : decode prog_56_method_1_code 4 = .ok (.lload_n 1, 1) := by decide +kernel
theorem d2_5 : decode prog_56_method_1_code 5 = .ok (.lconst 0, 1) := by decide +kernel
theorem d2_6 : decode prog_56_method_1_code 6 = .ok (.lcmp, 1) := by decide +kernel
theorem d2_7 : decode prog_56_method_1_code 7 = .ok (.ifCond .le 9, 3) := by decide +kernel
theorem d2_10 : decode prog_56_method_1_code 10 = .ok (.lload_n 3, 1) := by decide +kernel
theorem d2_11 : decode prog_56_method_1_code 11 = .ok (.lconst 0, 1) := by decide +kernel
theorem d2_12 : decode prog_56_method_1_code 12 = .ok (.lcmp, 1) := by decide +kernel
theorem d2_13 : decode prog_56_method_1_code 13 = .ok (.ifCond .gt 18, 3) := by decide +kernel
theorem d2_31 : decode prog_56_method_1_code 31 = .ok (.aload_n 0, 1) := by decide +kernel
theorem d2_32 : decode prog_56_method_1_code 32 = .ok (.lload_n 1, 1) := by decide +kernel
theorem d2_33 : decode prog_56_method_1_code 33 = .ok (.putfield 16, 3) := by decide +kernel
theorem d2_36 : decode prog_56_method_1_code 36 = .ok (.aload_n 0, 1) := by decide +kernel
theorem d2_37 : decode prog_56_method_1_code 37 = .ok (.lload_n 3, 1) := by decide +kernel
theorem d2_38 : decode prog_56_method_1_code 38 = .ok (.putfield 22, 3) := by decide +kernel
theorem d2_41 : decode prog_56_method_1_code 41 = .ok (.return_, 1) := by decide +kernel
theorem pn_1 : plainName "com/example/coretally/coretally/core/Ratio" = true := by first | (simp [plainName, overriddenIn]; done) | decide +kernel
theorem ef_2 (m : MethodId) (x0 : Addr) (x1 : Int64) (x2 : Int64) : entryFrame m #[(.ref x0), (.long x1), (.long x2)] 5 = mkF m 0 #[.val (.ref x0), .val (.long x1), .second, .val (.long x2), .second] [] := by first | (simp [entryFrame, mkF, argsToLocals, Value.category]; done) | rfl
def Qrm2 (Z : State) (a : Addr) (u : Int64) (v' : Int64) (h0 : Heap) (n0 : Nat) (v : Option Value) (h : Heap) (L : List Loc) : Prop := v = none ∧ Fr n0 L ∧ Keep h0 h [a] ∧ Exa Z h a "com/example/coretally/coretally/core/Ratio" ∧ Fld Z h a "com/example/coretally/coretally/core/Ratio" "programCores" "J" (.long u) ∧ Fld Z h a "com/example/coretally/coretally/core/Ratio" "bundleCores" "J" (.long v')
set_option maxRecDepth 65536 in
set_option maxHeartbeats 40000000 in
theorem rm2 (l : Launch) (Z : State) (a0 : Array Value) (hw : ∀ d ∈ tables_1, d.before a0 Z = true) (ws : List Jvm.Cond) (a : Addr) (u : Int64) (v' : Int64) (h0 : Heap) (n0 : Nat) (Z0 : n0 ≤ h0.size) (E_a : Exa Z h0 a "com/example/coretally/coretally/core/Ratio") (F_programCores_a : Fld Z h0 a "com/example/coretally/coretally/core/Ratio" "programCores" "J" (.long (0 : Int64))) (F_bundleCores_a : Fld Z h0 a "com/example/coretally/coretally/core/Ratio" "bundleCores" "J" (.long (0 : Int64))) (g_a : n0 ≤ a) (hp : (0 : Int64) < u) (hq : (0 : Int64) < v') :
    MetFree l (⟨"com/example/coretally/coretally/core/Ratio", "<init>", "(JJ)V"⟩ : MethodName) (head1 (Jvm.Cond.code (⟨"com/example/coretally/coretally/core/Ratio", "<init>", "(JJ)V"⟩ : MethodName) prog_56_method_1_code 5 none :: ws) ({ frames := 2, cells := 0, slots := 0, locals := 24 } : Room)) (fun aa_ U => aa_ = #[(.ref a), (.long u), (.long v')] ∧ Z.Warmed39 U.vm ∧ U.heap = h0) (fun _ _ _ _ _ => True) (fun _ U o U' => ∃ v L, o = .returned v ∧ Qrm2 Z a u v' h0 n0 v U'.heap L ∧ FrameEnd U o U' L ({ frames := 2, cells := 0, slots := 0, locals := 24 } : Room).cells ({ frames := 2, cells := 0, slots := 0, locals := 24 } : Room).slots) := by
  refine MetFree.of_bodySF (plainFor_of_name pn_1) hisR ?_
  intro p e s m args below meth c s₁ Bd hml0 hP hK
  obtain ⟨rfl, hZ, hh⟩ := hP
  have hx := Bd.exec
  have hby := Bd.bytes
  have hml : c.maxLocals = 5 := hml0
  have hown : s.vm.findClass "com/example/coretally/coretally/core/Ratio" = some m.cls := findClass_of_methodNamed Bd.named
  have hnm := (name_of_methodNamed Bd.named Bd.method).1
  have X0 : Stand p l e ({ frames := 2, cells := 0, slots := 0, locals := 24 } : Room) s m #[(.ref a), (.long u), (.long v')] below meth c s₁ [] 0 0 := Stand.of_body Bd
  have e0 : s₁.heap = h0 := by rw [← hh, Bd.state]; rfl
  have N0 := Fr.nil n0
  have pre0 : ∀ tt_, Steps p.tables e below (s₁.setTop (mkF m 0 #[.val (.ref a), .val (.long u), .second, .val (.long v'), .second] [])) tt_ → Steps p.tables e below (s₁.setTop (entryFrame m #[(.ref a), (.long u), (.long v')] 5)) tt_ := fun tt_ kk_ => castTop (ef_2 m a u v') kk_
  obtain ⟨_, _, ⟨T1, L1, k1, n1⟩, -, X1, ⟨Lc1, hQ1, l1, y1, z1⟩, st1⟩ := X0.specialBack hx (y := (⟨"java/lang/Record", "<init>", "()V"⟩ : MethodName)) rfl hown (mvT hZ (hw _ (List.mem_of_getElem? (i := 11) rfl))) (mvT hZ (hw _ (List.mem_of_getElem? (i := 12) rfl))) (mvT hZ (hw _ (List.mem_of_getElem? (i := 15) rfl))) (by decide) (backOf (W := 0) (rm3 l Z a0 hw [] a h0 n0 Z0 ) hZ (hw _ (List.mem_of_getElem? (i := 15) rfl)) (hw _ (List.mem_of_getElem? (i := 14) rfl)) (by decide) (by decide)) (g := (mkF m 1 #[.val (.ref a), .val (.long u), .second, .val (.long v'), .second] [(.ref a)])) rfl (by rw [hml]; rfl) (Steps.refl _) (a := a) (argsL := []) (rest := []) (lenOf pd_0 rfl) rfl (by show 2 * 0 + _ ≤ _; exact Nat.le_of_eq rfl) (hb hby d2_1) (fun _ _ => ⟨rfl, e0, (by decide : 0 + 0 ≤ _), (by decide : 0 + 0 ≤ _)⟩)
  dsimp only [Pt.U, Pt.locs, Pt.cells, Pt.slots] at X1 l1 y1 z1 st1 hQ1
  subst l1 y1 z1
  obtain ⟨rfl, N1q, e1q⟩ := hQ1
  have N1 := Fr.app N0 N1q
  obtain ⟨T2, h2, X2, e2, W2, st2⟩ := putF X1 hx hZ hown (host := "") (Or.inl (hw _ (List.mem_of_getElem? (i := 19) rfl))) Via.refl e1q F_programCores_a E_a (Or.inr ⟨(hw _ (List.mem_of_getElem? (i := 20) rfl)), rfl, hnm⟩) (hw _ (List.mem_of_getElem? (i := 6) rfl)) (ty := .long) (by decide) rfl rfl (g := (mkF m 33 #[.val (.ref a), .val (.long u), .second, .val (.long v'), .second] [(.long u), (.ref a)])) rfl rfl (hb hby d2_33)
  have N2 := Fr.snoc X2 N1 g_a
  have Fw2 := F_programCores_a.same W2
  have f3_E_a := (E_a.wr W2)
  have f4_F_a_bundleCores := (F_bundleCores_a.other W2 (Or.inr (slot_ne (Or.inr (hw _ (List.mem_of_getElem? (i := 22) rfl))) (Or.inr (hw _ (List.mem_of_getElem? (i := 20) rfl))) (by decide) (t := .long) (t' := .long) (by decide) (by decide))))
  obtain ⟨T5, h5, X5, e5, W5, st5⟩ := putF X2 hx hZ hown (host := "") (Or.inl (hw _ (List.mem_of_getElem? (i := 21) rfl))) Via.refl e2 f4_F_a_bundleCores f3_E_a (Or.inr ⟨(hw _ (List.mem_of_getElem? (i := 22) rfl)), rfl, hnm⟩) (hw _ (List.mem_of_getElem? (i := 6) rfl)) (ty := .long) (by decide) rfl rfl (g := (mkF m 38 #[.val (.ref a), .val (.long u), .second, .val (.long v'), .second] [(.long v'), (.ref a)])) rfl rfl (hb hby d2_38)
  have N5 := Fr.snoc X5 N2 g_a
  have Fw5 := f4_F_a_bundleCores.same W5
  have kp6 : Keep h0 h5 [a] := (((Keep.refl h0 [a]).wr W2 (Or.inl (List.mem_of_getElem? (i := 0) rfl))).wr W5 (Or.inl (List.mem_of_getElem? (i := 0) rfl)))
  have f7_E_a := (f3_E_a.wr W5)
  have f8_F_a_programCores := (Fw2.other W5 (Or.inr (slot_ne (Or.inr (hw _ (List.mem_of_getElem? (i := 20) rfl))) (Or.inr (hw _ (List.mem_of_getElem? (i := 22) rfl))) (by decide) (t := .long) (t' := .long) (by decide) (by decide))))
  obtain ⟨fs, hr, hrun, hended, hW, hsame⟩ := X5.leave (v := none) (fun _ => rfl)
  refine ⟨_, _, pre0 _ ?_, hrun, hended, _, _, rfl, ?_, ⟨_, rfl⟩, hW, hsame.mono (by decide) (by decide)⟩
  · show Steps p.tables e below (s₁.setTop (mkF m 0 #[.val (.ref a), .val (.long u), .second, .val (.long v'), .second] [])) _
    refine XS.aloadN X0.here hx rfl (hb hby d2_0) rfl rfl ?_
    show Steps p.tables e below (s₁.setTop (mkF m 1 #[.val (.ref a), .val (.long u), .second, .val (.long v'), .second] [(.ref a)])) _
    refine st1.trans ?_
    show Steps p.tables e below (T1.setTop (mkF m 4 #[.val (.ref a), .val (.long u), .second, .val (.long v'), .second] [])) _
    refine XS.lloadN X1.here hx rfl (hb hby d2_4) rfl ?_
    show Steps p.tables e below (T1.setTop (mkF m 5 #[.val (.ref a), .val (.long u), .second, .val (.long v'), .second] [(.long u)])) _
    refine XS.lconst X1.here hx rfl (hb hby d2_5) ?_
    show Steps p.tables e below (T1.setTop (mkF m 6 #[.val (.ref a), .val (.long u), .second, .val (.long v'), .second] [(.long (0 : Int64)), (.long u)])) _
    refine XS.lcmp X1.here hx rfl (hb hby d2_6) rfl ?_
    show Steps p.tables e below (T1.setTop (mkF m 7 #[.val (.ref a), .val (.long u), .second, .val (.long v'), .second] [(.int (lcmpW u (0 : Int64)))])) _
    refine XS.ifNo X1.here hx rfl (hb hby d2_7) rfl ((if0 _ _).trans (tlt (show (0 : Int32) < (lcmpW u (0 : Int64)) from ((lw_gt _ _).mpr hp))).2.2.2) ?_
    show Steps p.tables e below (T1.setTop (mkF m 10 #[.val (.ref a), .val (.long u), .second, .val (.long v'), .second] [])) _
    refine XS.lloadN X1.here hx rfl (hb hby d2_10) rfl ?_
    show Steps p.tables e below (T1.setTop (mkF m 11 #[.val (.ref a), .val (.long u), .second, .val (.long v'), .second] [(.long v')])) _
    refine XS.lconst X1.here hx rfl (hb hby d2_11) ?_
    show Steps p.tables e below (T1.setTop (mkF m 12 #[.val (.ref a), .val (.long u), .second, .val (.long v'), .second] [(.long (0 : Int64)), (.long v')])) _
    refine XS.lcmp X1.here hx rfl (hb hby d2_12) rfl ?_
    show Steps p.tables e below (T1.setTop (mkF m 13 #[.val (.ref a), .val (.long u), .second, .val (.long v'), .second] [(.int (lcmpW v' (0 : Int64)))])) _
    refine XS.ifYes X1.here hx rfl (pc0 := 13) (pc' := 31) rfl (hb hby d2_13) rfl ((if0 _ _).trans (tlt (show (0 : Int32) < (lcmpW v' (0 : Int64)) from ((lw_gt _ _).mpr hq))).2.2.1) (by decide) (by decide) ?_
    show Steps p.tables e below (T1.setTop (mkF m 31 #[.val (.ref a), .val (.long u), .second, .val (.long v'), .second] [])) _
    refine XS.aloadN X1.here hx rfl (hb hby d2_31) rfl rfl ?_
    show Steps p.tables e below (T1.setTop (mkF m 32 #[.val (.ref a), .val (.long u), .second, .val (.long v'), .second] [(.ref a)])) _
    refine XS.lloadN X1.here hx rfl (hb hby d2_32) rfl ?_
    show Steps p.tables e below (T1.setTop (mkF m 33 #[.val (.ref a), .val (.long u), .second, .val (.long v'), .second] [(.long u), (.ref a)])) _
    refine st2 _ ?_
    show Steps p.tables e below (T2.setTop (mkF m 36 #[.val (.ref a), .val (.long u), .second, .val (.long v'), .second] [])) _
    refine XS.aloadN X2.here hx rfl (hb hby d2_36) rfl rfl ?_
    show Steps p.tables e below (T2.setTop (mkF m 37 #[.val (.ref a), .val (.long u), .second, .val (.long v'), .second] [(.ref a)])) _
    refine XS.lloadN X2.here hx rfl (hb hby d2_37) rfl ?_
    show Steps p.tables e below (T2.setTop (mkF m 38 #[.val (.ref a), .val (.long u), .second, .val (.long v'), .second] [(.long v'), (.ref a)])) _
    refine st5 _ ?_
    show Steps p.tables e below (T5.setTop (mkF m 41 #[.val (.ref a), .val (.long u), .second, .val (.long v'), .second] [])) _
    exact X5.returnOut hx Bd.returns (hb hby d2_41) hr
  · show Qrm2 Z a u v' h0 n0 _ T5.heap _
    rw [e5]
    exact ⟨rfl, N5, kp6, f7_E_a, f8_F_a_programCores, Fw5⟩
theorem d6_0 : decode jdk_35_method_42_code 0 = .ok (.lload_n 0, 1) := by decide +kernel
theorem d6_1 : decode jdk_35_method_42_code 1 = .ok (.lload_n 2, 1) := by decide +kernel
theorem d6_2 : decode jdk_35_method_42_code 2 = .ok (.lcmp, 1) := by decide +kernel
theorem d6_3 : decode jdk_35_method_42_code 3 = .ok (.ifCond .ge 7, 3) := by decide +kernel
theorem d6_6 : decode jdk_35_method_42_code 6 = .ok (.iconst (-1), 1) := by decide +kernel
theorem d6_7 : decode jdk_35_method_42_code 7 = .ok (.goto 14, 3) := by decide +kernel
theorem d6_21 : decode jdk_35_method_42_code 21 = .ok (.ireturn, 1) := by decide +kernel
theorem pn_2 : plainName "java/lang/Long" = true := by first | (simp [plainName, overriddenIn]; done) | decide +kernel
theorem ef_6 (m : MethodId) (x0 : Int64) (x1 : Int64) : entryFrame m #[(.long x0), (.long x1)] 4 = mkF m 0 #[.val (.long x0), .second, .val (.long x1), .second] [] := by first | (simp [entryFrame, mkF, argsToLocals, Value.category]; done) | rfl
def Qrm6 (Z : State) (x : Int64) (y : Int64) (h0 : Heap) (n0 : Nat) (v : Option Value) (h : Heap) (L : List Loc) : Prop := v = some (.int (own_cmp x y)) ∧ Fr n0 L ∧ h = h0
set_option maxRecDepth 65536 in
set_option maxHeartbeats 40000000 in
theorem rm6a (l : Launch) (Z : State) (a0 : Array Value) (hw : ∀ d ∈ tables_1, d.before a0 Z = true) (ws : List Jvm.Cond) (x : Int64) (y : Int64) (h0 : Heap) (n0 : Nat) (Z0 : n0 ≤ h0.size) (h1 : x < y) :
    MetFree l (⟨"java/lang/Long", "compare", "(JJ)I"⟩ : MethodName) (head1 (Jvm.Cond.code (⟨"java/lang/Long", "compare", "(JJ)I"⟩ : MethodName) jdk_35_method_42_code 4 (some .int) :: ws) ({ frames := 0, cells := 0, slots := 0, locals := 0 } : Room)) (fun aa_ U => aa_ = #[(.long x), (.long y)] ∧ Z.Warmed39 U.vm ∧ U.heap = h0) (fun _ _ _ _ _ => True) (fun _ U o U' => ∃ v L, o = .returned v ∧ Qrm6 Z x y h0 n0 v U'.heap L ∧ FrameEnd U o U' L ({ frames := 0, cells := 0, slots := 0, locals := 0 } : Room).cells ({ frames := 0, cells := 0, slots := 0, locals := 0 } : Room).slots) := by
  refine MetFree.of_bodySF (plainFor_of_name pn_2) hisR ?_
  intro p e s m args below meth c s₁ Bd hml0 hP hK
  obtain ⟨rfl, hZ, hh⟩ := hP
  have hx := Bd.exec
  have hby := Bd.bytes
  have hml : c.maxLocals = 4 := hml0
  have hown : s.vm.findClass "java/lang/Long" = some m.cls := findClass_of_methodNamed Bd.named
  have hnm := (name_of_methodNamed Bd.named Bd.method).1
  have X0 : Stand p l e ({ frames := 0, cells := 0, slots := 0, locals := 0 } : Room) s m #[(.long x), (.long y)] below meth c s₁ [] 0 0 := Stand.of_body Bd
  have e0 : s₁.heap = h0 := by rw [← hh, Bd.state]; rfl
  have N0 := Fr.nil n0
  have pre0 : ∀ tt_, Steps p.tables e below (s₁.setTop (mkF m 0 #[.val (.long x), .second, .val (.long y), .second] [])) tt_ → Steps p.tables e below (s₁.setTop (entryFrame m #[(.long x), (.long y)] 4)) tt_ := fun tt_ kk_ => castTop (ef_6 m x y) kk_
  obtain ⟨fs, hr, hrun, hended, hW, hsame⟩ := X0.leave (v := some (.int (-1 : Int32))) (fun h => by rw [Bd.returns] at h; cases h)
  refine ⟨_, _, pre0 _ ?_, hrun, hended, _, _, rfl, ?_, ⟨_, rfl⟩, hW, hsame.mono (by decide) (by decide)⟩
  · show Steps p.tables e below (s₁.setTop (mkF m 0 #[.val (.long x), .second, .val (.long y), .second] [])) _
    refine XS.lloadN X0.here hx rfl (hb hby d6_0) rfl ?_
    show Steps p.tables e below (s₁.setTop (mkF m 1 #[.val (.long x), .second, .val (.long y), .second] [(.long x)])) _
    refine XS.lloadN X0.here hx rfl (hb hby d6_1) rfl ?_
    show Steps p.tables e below (s₁.setTop (mkF m 2 #[.val (.long x), .second, .val (.long y), .second] [(.long y), (.long x)])) _
    refine XS.lcmp X0.here hx rfl (hb hby d6_2) rfl ?_
    show Steps p.tables e below (s₁.setTop (mkF m 3 #[.val (.long x), .second, .val (.long y), .second] [(.int (lcmpW x y))])) _
    refine XS.ifNo X0.here hx rfl (hb hby d6_3) rfl ((if0 _ _).trans (tlt (show (lcmpW x y) < (0 : Int32) from ((lw_lt _ _).mpr h1))).2.1) ?_
    show Steps p.tables e below (s₁.setTop (mkF m 6 #[.val (.long x), .second, .val (.long y), .second] [])) _
    refine XS.iconst X0.here hx rfl (hb hby d6_6) ?_
    show Steps p.tables e below (s₁.setTop (mkF m 7 #[.val (.long x), .second, .val (.long y), .second] [(.int (-1 : Int32))])) _
    refine XS.goto X0.here hx rfl (pc0 := 7) (pc' := 21) rfl (hb hby d6_7) (by decide) (by decide) ?_
    show Steps p.tables e below (s₁.setTop (mkF m 21 #[.val (.long x), .second, .val (.long y), .second] [(.int (-1 : Int32))])) _
    exact retI X0 hx Bd.returns (hb hby d6_21) hr
  · show Qrm6 Z x y h0 n0 _ s₁.heap _
    rw [e0]
    exact ⟨by rw [own_cmp, if_pos h1], N0, rfl⟩
theorem d6_10 : decode jdk_35_method_42_code 10 = .ok (.lload_n 0, 1) := by decide +kernel
theorem d6_11 : decode jdk_35_method_42_code 11 = .ok (.lload_n 2, 1) := by decide +kernel
theorem d6_12 : decode jdk_35_method_42_code 12 = .ok (.lcmp, 1) := by decide +kernel
theorem d6_13 : decode jdk_35_method_42_code 13 = .ok (.ifCond .ne 7, 3) := by decide +kernel
theorem d6_16 : decode jdk_35_method_42_code 16 = .ok (.iconst 0, 1) := by decide +kernel
theorem d6_17 : decode jdk_35_method_42_code 17 = .ok (.goto 4, 3) := by decide +kernel
set_option maxRecDepth 65536 in
set_option maxHeartbeats 40000000 in
theorem rm6b (l : Launch) (Z : State) (a0 : Array Value) (hw : ∀ d ∈ tables_1, d.before a0 Z = true) (ws : List Jvm.Cond) (x : Int64) (y : Int64) (h0 : Heap) (n0 : Nat) (Z0 : n0 ≤ h0.size) (h1 : ¬ x < y) (h2 : x = y) :
    MetFree l (⟨"java/lang/Long", "compare", "(JJ)I"⟩ : MethodName) (head1 (Jvm.Cond.code (⟨"java/lang/Long", "compare", "(JJ)I"⟩ : MethodName) jdk_35_method_42_code 4 (some .int) :: ws) ({ frames := 0, cells := 0, slots := 0, locals := 0 } : Room)) (fun aa_ U => aa_ = #[(.long x), (.long y)] ∧ Z.Warmed39 U.vm ∧ U.heap = h0) (fun _ _ _ _ _ => True) (fun _ U o U' => ∃ v L, o = .returned v ∧ Qrm6 Z x y h0 n0 v U'.heap L ∧ FrameEnd U o U' L ({ frames := 0, cells := 0, slots := 0, locals := 0 } : Room).cells ({ frames := 0, cells := 0, slots := 0, locals := 0 } : Room).slots) := by
  refine MetFree.of_bodySF (plainFor_of_name pn_2) hisR ?_
  intro p e s m args below meth c s₁ Bd hml0 hP hK
  obtain ⟨rfl, hZ, hh⟩ := hP
  have hx := Bd.exec
  have hby := Bd.bytes
  have hml : c.maxLocals = 4 := hml0
  have hown : s.vm.findClass "java/lang/Long" = some m.cls := findClass_of_methodNamed Bd.named
  have hnm := (name_of_methodNamed Bd.named Bd.method).1
  have X0 : Stand p l e ({ frames := 0, cells := 0, slots := 0, locals := 0 } : Room) s m #[(.long x), (.long y)] below meth c s₁ [] 0 0 := Stand.of_body Bd
  have e0 : s₁.heap = h0 := by rw [← hh, Bd.state]; rfl
  have N0 := Fr.nil n0
  have pre0 : ∀ tt_, Steps p.tables e below (s₁.setTop (mkF m 0 #[.val (.long x), .second, .val (.long y), .second] [])) tt_ → Steps p.tables e below (s₁.setTop (entryFrame m #[(.long x), (.long y)] 4)) tt_ := fun tt_ kk_ => castTop (ef_6 m x y) kk_
  obtain ⟨fs, hr, hrun, hended, hW, hsame⟩ := X0.leave (v := some (.int (0 : Int32))) (fun h => by rw [Bd.returns] at h; cases h)
  refine ⟨_, _, pre0 _ ?_, hrun, hended, _, _, rfl, ?_, ⟨_, rfl⟩, hW, hsame.mono (by decide) (by decide)⟩
  · show Steps p.tables e below (s₁.setTop (mkF m 0 #[.val (.long x), .second, .val (.long y), .second] [])) _
    refine XS.lloadN X0.here hx rfl (hb hby d6_0) rfl ?_
    show Steps p.tables e below (s₁.setTop (mkF m 1 #[.val (.long x), .second, .val (.long y), .second] [(.long x)])) _
    refine XS.lloadN X0.here hx rfl (hb hby d6_1) rfl ?_
    show Steps p.tables e below (s₁.setTop (mkF m 2 #[.val (.long x), .second, .val (.long y), .second] [(.long y), (.long x)])) _
    refine XS.lcmp X0.here hx rfl (hb hby d6_2) rfl ?_
    show Steps p.tables e below (s₁.setTop (mkF m 3 #[.val (.long x), .second, .val (.long y), .second] [(.int (lcmpW x y))])) _
    refine XS.ifYes X0.here hx rfl (pc0 := 3) (pc' := 10) rfl (hb hby d6_3) rfl ((if0 _ _).trans (flt (show ¬ ((lcmpW x y) < (0 : Int32)) from (fun q => h1 ((lw_lt _ _).mp q)))).2.1) (by decide) (by decide) ?_
    show Steps p.tables e below (s₁.setTop (mkF m 10 #[.val (.long x), .second, .val (.long y), .second] [])) _
    refine XS.lloadN X0.here hx rfl (hb hby d6_10) rfl ?_
    show Steps p.tables e below (s₁.setTop (mkF m 11 #[.val (.long x), .second, .val (.long y), .second] [(.long x)])) _
    refine XS.lloadN X0.here hx rfl (hb hby d6_11) rfl ?_
    show Steps p.tables e below (s₁.setTop (mkF m 12 #[.val (.long x), .second, .val (.long y), .second] [(.long y), (.long x)])) _
    refine XS.lcmp X0.here hx rfl (hb hby d6_12) rfl ?_
    show Steps p.tables e below (s₁.setTop (mkF m 13 #[.val (.long x), .second, .val (.long y), .second] [(.int (lcmpW x y))])) _
    refine XS.ifNo X0.here hx rfl (hb hby d6_13) rfl ((if0 _ _).trans (teq (show (lcmpW x y) = (0 : Int32) from ((lw_eq _ _).mpr h2))).2) ?_
    show Steps p.tables e below (s₁.setTop (mkF m 16 #[.val (.long x), .second, .val (.long y), .second] [])) _
    refine XS.iconst X0.here hx rfl (hb hby d6_16) ?_
    show Steps p.tables e below (s₁.setTop (mkF m 17 #[.val (.long x), .second, .val (.long y), .second] [(.int (0 : Int32))])) _
    refine XS.goto X0.here hx rfl (pc0 := 17) (pc' := 21) rfl (hb hby d6_17) (by decide) (by decide) ?_
    show Steps p.tables e below (s₁.setTop (mkF m 21 #[.val (.long x), .second, .val (.long y), .second] [(.int (0 : Int32))])) _
    exact retI X0 hx Bd.returns (hb hby d6_21) hr
  · show Qrm6 Z x y h0 n0 _ s₁.heap _
    rw [e0]
    exact ⟨by rw [own_cmp, if_neg h1, if_pos h2], N0, rfl⟩
theorem d6_20 : decode jdk_35_method_42_code 20 = .ok (.iconst 1, 1) := by decide +kernel
set_option maxRecDepth 65536 in
set_option maxHeartbeats 40000000 in
theorem rm6c (l : Launch) (Z : State) (a0 : Array Value) (hw : ∀ d ∈ tables_1, d.before a0 Z = true) (ws : List Jvm.Cond) (x : Int64) (y : Int64) (h0 : Heap) (n0 : Nat) (Z0 : n0 ≤ h0.size) (h1 : ¬ x < y) (h2 : ¬ x = y) :
    MetFree l (⟨"java/lang/Long", "compare", "(JJ)I"⟩ : MethodName) (head1 (Jvm.Cond.code (⟨"java/lang/Long", "compare", "(JJ)I"⟩ : MethodName) jdk_35_method_42_code 4 (some .int) :: ws) ({ frames := 0, cells := 0, slots := 0, locals := 0 } : Room)) (fun aa_ U => aa_ = #[(.long x), (.long y)] ∧ Z.Warmed39 U.vm ∧ U.heap = h0) (fun _ _ _ _ _ => True) (fun _ U o U' => ∃ v L, o = .returned v ∧ Qrm6 Z x y h0 n0 v U'.heap L ∧ FrameEnd U o U' L ({ frames := 0, cells := 0, slots := 0, locals := 0 } : Room).cells ({ frames := 0, cells := 0, slots := 0, locals := 0 } : Room).slots) := by
  refine MetFree.of_bodySF (plainFor_of_name pn_2) hisR ?_
  intro p e s m args below meth c s₁ Bd hml0 hP hK
  obtain ⟨rfl, hZ, hh⟩ := hP
  have hx := Bd.exec
  have hby := Bd.bytes
  have hml : c.maxLocals = 4 := hml0
  have hown : s.vm.findClass "java/lang/Long" = some m.cls := findClass_of_methodNamed Bd.named
  have hnm := (name_of_methodNamed Bd.named Bd.method).1
  have X0 : Stand p l e ({ frames := 0, cells := 0, slots := 0, locals := 0 } : Room) s m #[(.long x), (.long y)] below meth c s₁ [] 0 0 := Stand.of_body Bd
  have e0 : s₁.heap = h0 := by rw [← hh, Bd.state]; rfl
  have N0 := Fr.nil n0
  have pre0 : ∀ tt_, Steps p.tables e below (s₁.setTop (mkF m 0 #[.val (.long x), .second, .val (.long y), .second] [])) tt_ → Steps p.tables e below (s₁.setTop (entryFrame m #[(.long x), (.long y)] 4)) tt_ := fun tt_ kk_ => castTop (ef_6 m x y) kk_
  obtain ⟨fs, hr, hrun, hended, hW, hsame⟩ := X0.leave (v := some (.int (1 : Int32))) (fun h => by rw [Bd.returns] at h; cases h)
  refine ⟨_, _, pre0 _ ?_, hrun, hended, _, _, rfl, ?_, ⟨_, rfl⟩, hW, hsame.mono (by decide) (by decide)⟩
  · show Steps p.tables e below (s₁.setTop (mkF m 0 #[.val (.long x), .second, .val (.long y), .second] [])) _
    refine XS.lloadN X0.here hx rfl (hb hby d6_0) rfl ?_
    show Steps p.tables e below (s₁.setTop (mkF m 1 #[.val (.long x), .second, .val (.long y), .second] [(.long x)])) _
    refine XS.lloadN X0.here hx rfl (hb hby d6_1) rfl ?_
    show Steps p.tables e below (s₁.setTop (mkF m 2 #[.val (.long x), .second, .val (.long y), .second] [(.long y), (.long x)])) _
    refine XS.lcmp X0.here hx rfl (hb hby d6_2) rfl ?_
    show Steps p.tables e below (s₁.setTop (mkF m 3 #[.val (.long x), .second, .val (.long y), .second] [(.int (lcmpW x y))])) _
    refine XS.ifYes X0.here hx rfl (pc0 := 3) (pc' := 10) rfl (hb hby d6_3) rfl ((if0 _ _).trans (flt (show ¬ ((lcmpW x y) < (0 : Int32)) from (fun q => h1 ((lw_lt _ _).mp q)))).2.1) (by decide) (by decide) ?_
    show Steps p.tables e below (s₁.setTop (mkF m 10 #[.val (.long x), .second, .val (.long y), .second] [])) _
    refine XS.lloadN X0.here hx rfl (hb hby d6_10) rfl ?_
    show Steps p.tables e below (s₁.setTop (mkF m 11 #[.val (.long x), .second, .val (.long y), .second] [(.long x)])) _
    refine XS.lloadN X0.here hx rfl (hb hby d6_11) rfl ?_
    show Steps p.tables e below (s₁.setTop (mkF m 12 #[.val (.long x), .second, .val (.long y), .second] [(.long y), (.long x)])) _
    refine XS.lcmp X0.here hx rfl (hb hby d6_12) rfl ?_
    show Steps p.tables e below (s₁.setTop (mkF m 13 #[.val (.long x), .second, .val (.long y), .second] [(.int (lcmpW x y))])) _
    refine XS.ifYes X0.here hx rfl (pc0 := 13) (pc' := 20) rfl (hb hby d6_13) rfl ((if0 _ _).trans (feq (show ¬ ((lcmpW x y) = (0 : Int32)) from (fun q => h2 ((lw_eq _ _).mp q)))).2) (by decide) (by decide) ?_
    show Steps p.tables e below (s₁.setTop (mkF m 20 #[.val (.long x), .second, .val (.long y), .second] [])) _
    refine XS.iconst X0.here hx rfl (hb hby d6_20) ?_
    show Steps p.tables e below (s₁.setTop (mkF m 21 #[.val (.long x), .second, .val (.long y), .second] [(.int (1 : Int32))])) _
    exact retI X0 hx Bd.returns (hb hby d6_21) hr
  · show Qrm6 Z x y h0 n0 _ s₁.heap _
    rw [e0]
    exact ⟨by rw [own_cmp, if_neg h1, if_neg h2], N0, rfl⟩
theorem rm6 (l : Launch) (Z : State) (a0 : Array Value) (hw : ∀ d ∈ tables_1, d.before a0 Z = true) (ws : List Jvm.Cond) (x : Int64) (y : Int64) (h0 : Heap) (n0 : Nat) (Z0 : n0 ≤ h0.size) :
    MetFree l (⟨"java/lang/Long", "compare", "(JJ)I"⟩ : MethodName) (head1 (Jvm.Cond.code (⟨"java/lang/Long", "compare", "(JJ)I"⟩ : MethodName) jdk_35_method_42_code 4 (some .int) :: ws) ({ frames := 0, cells := 0, slots := 0, locals := 0 } : Room)) (fun aa_ U => aa_ = #[(.long x), (.long y)] ∧ Z.Warmed39 U.vm ∧ U.heap = h0) (fun _ _ _ _ _ => True) (fun _ U o U' => ∃ v L, o = .returned v ∧ Qrm6 Z x y h0 n0 v U'.heap L ∧ FrameEnd U o U' L ({ frames := 0, cells := 0, slots := 0, locals := 0 } : Room).cells ({ frames := 0, cells := 0, slots := 0, locals := 0 } : Room).slots) := by
  by_cases h1 : x < y
  · exact rm6a l Z a0 hw ws x y h0 n0 Z0  h1
  by_cases h2 : x = y
  · exact rm6b l Z a0 hw ws x y h0 n0 Z0  h1 h2
  · exact rm6c l Z a0 hw ws x y h0 n0 Z0  h1 h2
theorem d7_0 : decode method_4_code 0 = .ok (.lload_n 0, 1) := by decide +kernel
theorem d7_1 : decode method_4_code 1 = .ok (.lload_n 2, 1) := by decide +kernel
theorem d7_2 : decode method_4_code 2 = .ok (.lcmp, 1) := by decide +kernel
theorem d7_3 : decode method_4_code 3 = .ok (.ifCond .ge 5, 3) := by decide +kernel
theorem d7_6 : decode method_4_code 6 = .ok (.iconst (-1), 1) := by decide +kernel
theorem d7_7 : decode method_4_code 7 = .ok (.ireturn, 1) := by decide +kernel
theorem pn_3 : plainName "com/example/coretally/coretally/core/RatioCompareToPinLaw" = true := by first | (simp [plainName, overriddenIn]; done) | decide +kernel
theorem ef_7 (m : MethodId) (x0 : Int64) (x1 : Int64) : entryFrame m #[(.long x0), (.long x1)] 4 = mkF m 0 #[.val (.long x0), .second, .val (.long x1), .second] [] := by first | (simp [entryFrame, mkF, argsToLocals, Value.category]; done) | rfl
def Qrm7 (Z : State) (x : Int64) (y : Int64) (h0 : Heap) (n0 : Nat) (v : Option Value) (h : Heap) (L : List Loc) : Prop := v = some (.int (own_cmp x y)) ∧ Fr n0 L ∧ h = h0
set_option maxRecDepth 65536 in
set_option maxHeartbeats 40000000 in
theorem rm7a (l : Launch) (Z : State) (a0 : Array Value) (hw : ∀ d ∈ tables_1, d.before a0 Z = true) (ws : List Jvm.Cond) (x : Int64) (y : Int64) (h0 : Heap) (n0 : Nat) (Z0 : n0 ≤ h0.size) (h1 : x < y) :
    MetFree l (⟨"com/example/coretally/coretally/core/RatioCompareToPinLaw", "cmp", "(JJ)I"⟩ : MethodName) (head1 (Jvm.Cond.code (⟨"com/example/coretally/coretally/core/RatioCompareToPinLaw", "cmp", "(JJ)I"⟩ : MethodName) method_4_code 4 (some .int) :: ws) ({ frames := 0, cells := 0, slots := 0, locals := 0 } : Room)) (fun aa_ U => aa_ = #[(.long x), (.long y)] ∧ Z.Warmed39 U.vm ∧ U.heap = h0) (fun _ _ _ _ _ => True) (fun _ U o U' => ∃ v L, o = .returned v ∧ Qrm7 Z x y h0 n0 v U'.heap L ∧ FrameEnd U o U' L ({ frames := 0, cells := 0, slots := 0, locals := 0 } : Room).cells ({ frames := 0, cells := 0, slots := 0, locals := 0 } : Room).slots) := by
  refine MetFree.of_bodySF (plainFor_of_name pn_3) hisR ?_
  intro p e s m args below meth c s₁ Bd hml0 hP hK
  obtain ⟨rfl, hZ, hh⟩ := hP
  have hx := Bd.exec
  have hby := Bd.bytes
  have hml : c.maxLocals = 4 := hml0
  have hown : s.vm.findClass "com/example/coretally/coretally/core/RatioCompareToPinLaw" = some m.cls := findClass_of_methodNamed Bd.named
  have hnm := (name_of_methodNamed Bd.named Bd.method).1
  have X0 : Stand p l e ({ frames := 0, cells := 0, slots := 0, locals := 0 } : Room) s m #[(.long x), (.long y)] below meth c s₁ [] 0 0 := Stand.of_body Bd
  have e0 : s₁.heap = h0 := by rw [← hh, Bd.state]; rfl
  have N0 := Fr.nil n0
  have pre0 : ∀ tt_, Steps p.tables e below (s₁.setTop (mkF m 0 #[.val (.long x), .second, .val (.long y), .second] [])) tt_ → Steps p.tables e below (s₁.setTop (entryFrame m #[(.long x), (.long y)] 4)) tt_ := fun tt_ kk_ => castTop (ef_7 m x y) kk_
  obtain ⟨fs, hr, hrun, hended, hW, hsame⟩ := X0.leave (v := some (.int (-1 : Int32))) (fun h => by rw [Bd.returns] at h; cases h)
  refine ⟨_, _, pre0 _ ?_, hrun, hended, _, _, rfl, ?_, ⟨_, rfl⟩, hW, hsame.mono (by decide) (by decide)⟩
  · show Steps p.tables e below (s₁.setTop (mkF m 0 #[.val (.long x), .second, .val (.long y), .second] [])) _
    refine XS.lloadN X0.here hx rfl (hb hby d7_0) rfl ?_
    show Steps p.tables e below (s₁.setTop (mkF m 1 #[.val (.long x), .second, .val (.long y), .second] [(.long x)])) _
    refine XS.lloadN X0.here hx rfl (hb hby d7_1) rfl ?_
    show Steps p.tables e below (s₁.setTop (mkF m 2 #[.val (.long x), .second, .val (.long y), .second] [(.long y), (.long x)])) _
    refine XS.lcmp X0.here hx rfl (hb hby d7_2) rfl ?_
    show Steps p.tables e below (s₁.setTop (mkF m 3 #[.val (.long x), .second, .val (.long y), .second] [(.int (lcmpW x y))])) _
    refine XS.ifNo X0.here hx rfl (hb hby d7_3) rfl ((if0 _ _).trans (tlt (show (lcmpW x y) < (0 : Int32) from ((lw_lt _ _).mpr h1))).2.1) ?_
    show Steps p.tables e below (s₁.setTop (mkF m 6 #[.val (.long x), .second, .val (.long y), .second] [])) _
    refine XS.iconst X0.here hx rfl (hb hby d7_6) ?_
    show Steps p.tables e below (s₁.setTop (mkF m 7 #[.val (.long x), .second, .val (.long y), .second] [(.int (-1 : Int32))])) _
    exact retI X0 hx Bd.returns (hb hby d7_7) hr
  · show Qrm7 Z x y h0 n0 _ s₁.heap _
    rw [e0]
    exact ⟨by rw [own_cmp, if_pos h1], N0, rfl⟩
theorem d7_8 : decode method_4_code 8 = .ok (.lload_n 0, 1) := by decide +kernel
theorem d7_9 : decode method_4_code 9 = .ok (.lload_n 2, 1) := by decide +kernel
theorem d7_10 : decode method_4_code 10 = .ok (.lcmp, 1) := by decide +kernel
theorem d7_11 : decode method_4_code 11 = .ok (.ifCond .le 5, 3) := by decide +kernel
theorem d7_16 : decode method_4_code 16 = .ok (.iconst 0, 1) := by decide +kernel
theorem d7_17 : decode method_4_code 17 = .ok (.ireturn, 1) := by decide +kernel
set_option maxRecDepth 65536 in
set_option maxHeartbeats 40000000 in
theorem rm7b (l : Launch) (Z : State) (a0 : Array Value) (hw : ∀ d ∈ tables_1, d.before a0 Z = true) (ws : List Jvm.Cond) (x : Int64) (y : Int64) (h0 : Heap) (n0 : Nat) (Z0 : n0 ≤ h0.size) (h1 : ¬ x < y) (h2 : ¬ y < x) :
    MetFree l (⟨"com/example/coretally/coretally/core/RatioCompareToPinLaw", "cmp", "(JJ)I"⟩ : MethodName) (head1 (Jvm.Cond.code (⟨"com/example/coretally/coretally/core/RatioCompareToPinLaw", "cmp", "(JJ)I"⟩ : MethodName) method_4_code 4 (some .int) :: ws) ({ frames := 0, cells := 0, slots := 0, locals := 0 } : Room)) (fun aa_ U => aa_ = #[(.long x), (.long y)] ∧ Z.Warmed39 U.vm ∧ U.heap = h0) (fun _ _ _ _ _ => True) (fun _ U o U' => ∃ v L, o = .returned v ∧ Qrm7 Z x y h0 n0 v U'.heap L ∧ FrameEnd U o U' L ({ frames := 0, cells := 0, slots := 0, locals := 0 } : Room).cells ({ frames := 0, cells := 0, slots := 0, locals := 0 } : Room).slots) := by
  refine MetFree.of_bodySF (plainFor_of_name pn_3) hisR ?_
  intro p e s m args below meth c s₁ Bd hml0 hP hK
  obtain ⟨rfl, hZ, hh⟩ := hP
  have hx := Bd.exec
  have hby := Bd.bytes
  have hml : c.maxLocals = 4 := hml0
  have hown : s.vm.findClass "com/example/coretally/coretally/core/RatioCompareToPinLaw" = some m.cls := findClass_of_methodNamed Bd.named
  have hnm := (name_of_methodNamed Bd.named Bd.method).1
  have X0 : Stand p l e ({ frames := 0, cells := 0, slots := 0, locals := 0 } : Room) s m #[(.long x), (.long y)] below meth c s₁ [] 0 0 := Stand.of_body Bd
  have e0 : s₁.heap = h0 := by rw [← hh, Bd.state]; rfl
  have N0 := Fr.nil n0
  have pre0 : ∀ tt_, Steps p.tables e below (s₁.setTop (mkF m 0 #[.val (.long x), .second, .val (.long y), .second] [])) tt_ → Steps p.tables e below (s₁.setTop (entryFrame m #[(.long x), (.long y)] 4)) tt_ := fun tt_ kk_ => castTop (ef_7 m x y) kk_
  obtain ⟨fs, hr, hrun, hended, hW, hsame⟩ := X0.leave (v := some (.int (0 : Int32))) (fun h => by rw [Bd.returns] at h; cases h)
  refine ⟨_, _, pre0 _ ?_, hrun, hended, _, _, rfl, ?_, ⟨_, rfl⟩, hW, hsame.mono (by decide) (by decide)⟩
  · show Steps p.tables e below (s₁.setTop (mkF m 0 #[.val (.long x), .second, .val (.long y), .second] [])) _
    refine XS.lloadN X0.here hx rfl (hb hby d7_0) rfl ?_
    show Steps p.tables e below (s₁.setTop (mkF m 1 #[.val (.long x), .second, .val (.long y), .second] [(.long x)])) _
    refine XS.lloadN X0.here hx rfl (hb hby d7_1) rfl ?_
    show Steps p.tables e below (s₁.setTop (mkF m 2 #[.val (.long x), .second, .val (.long y), .second] [(.long y), (.long x)])) _
    refine XS.lcmp X0.here hx rfl (hb hby d7_2) rfl ?_
    show Steps p.tables e below (s₁.setTop (mkF m 3 #[.val (.long x), .second, .val (.long y), .second] [(.int (lcmpW x y))])) _
    refine XS.ifYes X0.here hx rfl (pc0 := 3) (pc' := 8) rfl (hb hby d7_3) rfl ((if0 _ _).trans (flt (show ¬ ((lcmpW x y) < (0 : Int32)) from (fun q => h1 ((lw_lt _ _).mp q)))).2.1) (by decide) (by decide) ?_
    show Steps p.tables e below (s₁.setTop (mkF m 8 #[.val (.long x), .second, .val (.long y), .second] [])) _
    refine XS.lloadN X0.here hx rfl (hb hby d7_8) rfl ?_
    show Steps p.tables e below (s₁.setTop (mkF m 9 #[.val (.long x), .second, .val (.long y), .second] [(.long x)])) _
    refine XS.lloadN X0.here hx rfl (hb hby d7_9) rfl ?_
    show Steps p.tables e below (s₁.setTop (mkF m 10 #[.val (.long x), .second, .val (.long y), .second] [(.long y), (.long x)])) _
    refine XS.lcmp X0.here hx rfl (hb hby d7_10) rfl ?_
    show Steps p.tables e below (s₁.setTop (mkF m 11 #[.val (.long x), .second, .val (.long y), .second] [(.int (lcmpW x y))])) _
    refine XS.ifYes X0.here hx rfl (pc0 := 11) (pc' := 16) rfl (hb hby d7_11) rfl ((if0 _ _).trans (flt (show ¬ ((0 : Int32) < (lcmpW x y)) from (fun q => h2 ((lw_gt _ _).mp q)))).2.2.2) (by decide) (by decide) ?_
    show Steps p.tables e below (s₁.setTop (mkF m 16 #[.val (.long x), .second, .val (.long y), .second] [])) _
    refine XS.iconst X0.here hx rfl (hb hby d7_16) ?_
    show Steps p.tables e below (s₁.setTop (mkF m 17 #[.val (.long x), .second, .val (.long y), .second] [(.int (0 : Int32))])) _
    exact retI X0 hx Bd.returns (hb hby d7_17) hr
  · show Qrm7 Z x y h0 n0 _ s₁.heap _
    rw [e0]
    exact ⟨by rw [own_cmp, if_neg h1, if_pos (by rw [Int64.lt_iff_toInt_lt] at h1 h2; exact Int64.toInt_inj.mp (by omega))], N0, rfl⟩
theorem d7_14 : decode method_4_code 14 = .ok (.iconst 1, 1) := by decide +kernel
theorem d7_15 : decode method_4_code 15 = .ok (.ireturn, 1) := by decide +kernel
set_option maxRecDepth 65536 in
set_option maxHeartbeats 40000000 in
theorem rm7c (l : Launch) (Z : State) (a0 : Array Value) (hw : ∀ d ∈ tables_1, d.before a0 Z = true) (ws : List Jvm.Cond) (x : Int64) (y : Int64) (h0 : Heap) (n0 : Nat) (Z0 : n0 ≤ h0.size) (h1 : ¬ x < y) (h2 : y < x) :
    MetFree l (⟨"com/example/coretally/coretally/core/RatioCompareToPinLaw", "cmp", "(JJ)I"⟩ : MethodName) (head1 (Jvm.Cond.code (⟨"com/example/coretally/coretally/core/RatioCompareToPinLaw", "cmp", "(JJ)I"⟩ : MethodName) method_4_code 4 (some .int) :: ws) ({ frames := 0, cells := 0, slots := 0, locals := 0 } : Room)) (fun aa_ U => aa_ = #[(.long x), (.long y)] ∧ Z.Warmed39 U.vm ∧ U.heap = h0) (fun _ _ _ _ _ => True) (fun _ U o U' => ∃ v L, o = .returned v ∧ Qrm7 Z x y h0 n0 v U'.heap L ∧ FrameEnd U o U' L ({ frames := 0, cells := 0, slots := 0, locals := 0 } : Room).cells ({ frames := 0, cells := 0, slots := 0, locals := 0 } : Room).slots) := by
  refine MetFree.of_bodySF (plainFor_of_name pn_3) hisR ?_
  intro p e s m args below meth c s₁ Bd hml0 hP hK
  obtain ⟨rfl, hZ, hh⟩ := hP
  have hx := Bd.exec
  have hby := Bd.bytes
  have hml : c.maxLocals = 4 := hml0
  have hown : s.vm.findClass "com/example/coretally/coretally/core/RatioCompareToPinLaw" = some m.cls := findClass_of_methodNamed Bd.named
  have hnm := (name_of_methodNamed Bd.named Bd.method).1
  have X0 : Stand p l e ({ frames := 0, cells := 0, slots := 0, locals := 0 } : Room) s m #[(.long x), (.long y)] below meth c s₁ [] 0 0 := Stand.of_body Bd
  have e0 : s₁.heap = h0 := by rw [← hh, Bd.state]; rfl
  have N0 := Fr.nil n0
  have pre0 : ∀ tt_, Steps p.tables e below (s₁.setTop (mkF m 0 #[.val (.long x), .second, .val (.long y), .second] [])) tt_ → Steps p.tables e below (s₁.setTop (entryFrame m #[(.long x), (.long y)] 4)) tt_ := fun tt_ kk_ => castTop (ef_7 m x y) kk_
  obtain ⟨fs, hr, hrun, hended, hW, hsame⟩ := X0.leave (v := some (.int (1 : Int32))) (fun h => by rw [Bd.returns] at h; cases h)
  refine ⟨_, _, pre0 _ ?_, hrun, hended, _, _, rfl, ?_, ⟨_, rfl⟩, hW, hsame.mono (by decide) (by decide)⟩
  · show Steps p.tables e below (s₁.setTop (mkF m 0 #[.val (.long x), .second, .val (.long y), .second] [])) _
    refine XS.lloadN X0.here hx rfl (hb hby d7_0) rfl ?_
    show Steps p.tables e below (s₁.setTop (mkF m 1 #[.val (.long x), .second, .val (.long y), .second] [(.long x)])) _
    refine XS.lloadN X0.here hx rfl (hb hby d7_1) rfl ?_
    show Steps p.tables e below (s₁.setTop (mkF m 2 #[.val (.long x), .second, .val (.long y), .second] [(.long y), (.long x)])) _
    refine XS.lcmp X0.here hx rfl (hb hby d7_2) rfl ?_
    show Steps p.tables e below (s₁.setTop (mkF m 3 #[.val (.long x), .second, .val (.long y), .second] [(.int (lcmpW x y))])) _
    refine XS.ifYes X0.here hx rfl (pc0 := 3) (pc' := 8) rfl (hb hby d7_3) rfl ((if0 _ _).trans (flt (show ¬ ((lcmpW x y) < (0 : Int32)) from (fun q => h1 ((lw_lt _ _).mp q)))).2.1) (by decide) (by decide) ?_
    show Steps p.tables e below (s₁.setTop (mkF m 8 #[.val (.long x), .second, .val (.long y), .second] [])) _
    refine XS.lloadN X0.here hx rfl (hb hby d7_8) rfl ?_
    show Steps p.tables e below (s₁.setTop (mkF m 9 #[.val (.long x), .second, .val (.long y), .second] [(.long x)])) _
    refine XS.lloadN X0.here hx rfl (hb hby d7_9) rfl ?_
    show Steps p.tables e below (s₁.setTop (mkF m 10 #[.val (.long x), .second, .val (.long y), .second] [(.long y), (.long x)])) _
    refine XS.lcmp X0.here hx rfl (hb hby d7_10) rfl ?_
    show Steps p.tables e below (s₁.setTop (mkF m 11 #[.val (.long x), .second, .val (.long y), .second] [(.int (lcmpW x y))])) _
    refine XS.ifNo X0.here hx rfl (hb hby d7_11) rfl ((if0 _ _).trans (tlt (show (0 : Int32) < (lcmpW x y) from ((lw_gt _ _).mpr h2))).2.2.2) ?_
    show Steps p.tables e below (s₁.setTop (mkF m 14 #[.val (.long x), .second, .val (.long y), .second] [])) _
    refine XS.iconst X0.here hx rfl (hb hby d7_14) ?_
    show Steps p.tables e below (s₁.setTop (mkF m 15 #[.val (.long x), .second, .val (.long y), .second] [(.int (1 : Int32))])) _
    exact retI X0 hx Bd.returns (hb hby d7_15) hr
  · show Qrm7 Z x y h0 n0 _ s₁.heap _
    rw [e0]
    exact ⟨by rw [own_cmp, if_neg h1, if_neg (by rintro rfl; exact h1 h2)], N0, rfl⟩
theorem rm7 (l : Launch) (Z : State) (a0 : Array Value) (hw : ∀ d ∈ tables_1, d.before a0 Z = true) (ws : List Jvm.Cond) (x : Int64) (y : Int64) (h0 : Heap) (n0 : Nat) (Z0 : n0 ≤ h0.size) :
    MetFree l (⟨"com/example/coretally/coretally/core/RatioCompareToPinLaw", "cmp", "(JJ)I"⟩ : MethodName) (head1 (Jvm.Cond.code (⟨"com/example/coretally/coretally/core/RatioCompareToPinLaw", "cmp", "(JJ)I"⟩ : MethodName) method_4_code 4 (some .int) :: ws) ({ frames := 0, cells := 0, slots := 0, locals := 0 } : Room)) (fun aa_ U => aa_ = #[(.long x), (.long y)] ∧ Z.Warmed39 U.vm ∧ U.heap = h0) (fun _ _ _ _ _ => True) (fun _ U o U' => ∃ v L, o = .returned v ∧ Qrm7 Z x y h0 n0 v U'.heap L ∧ FrameEnd U o U' L ({ frames := 0, cells := 0, slots := 0, locals := 0 } : Room).cells ({ frames := 0, cells := 0, slots := 0, locals := 0 } : Room).slots) := by
  by_cases h1 : x < y
  · exact rm7a l Z a0 hw ws x y h0 n0 Z0  h1
  by_cases h2 : y < x
  · exact rm7c l Z a0 hw ws x y h0 n0 Z0  h1 h2
  · exact rm7b l Z a0 hw ws x y h0 n0 Z0  h1 h2
theorem d8_0 : decode method_3_code 0 = .ok (.iload_n 0, 1) := by decide +kernel
theorem d8_1 : decode method_3_code 1 = .ok (.ifCond .ge 5, 3) := by decide +kernel
theorem d8_4 : decode method_3_code 4 = .ok (.iconst (-1), 1) := by decide +kernel
theorem d8_5 : decode method_3_code 5 = .ok (.ireturn, 1) := by decide +kernel
theorem ef_8 (m : MethodId) (x0 : Int32) : entryFrame m #[(.int x0)] 1 = mkF m 0 #[.val (.int x0)] [] := by first | (simp [entryFrame, mkF, argsToLocals, Value.category]; done) | rfl
def Qrm8 (Z : State) (x : Int32) (h0 : Heap) (n0 : Nat) (v : Option Value) (h : Heap) (L : List Loc) : Prop := v = some (.int (own_sign x)) ∧ Fr n0 L ∧ h = h0
set_option maxRecDepth 65536 in
set_option maxHeartbeats 40000000 in
theorem rm8a (l : Launch) (Z : State) (a0 : Array Value) (hw : ∀ d ∈ tables_1, d.before a0 Z = true) (ws : List Jvm.Cond) (x : Int32) (h0 : Heap) (n0 : Nat) (Z0 : n0 ≤ h0.size) (h1 : x < 0) :
    MetFree l (⟨"com/example/coretally/coretally/core/RatioCompareToPinLaw", "sign", "(I)I"⟩ : MethodName) (head1 (Jvm.Cond.code (⟨"com/example/coretally/coretally/core/RatioCompareToPinLaw", "sign", "(I)I"⟩ : MethodName) method_3_code 1 (some .int) :: ws) ({ frames := 0, cells := 0, slots := 0, locals := 0 } : Room)) (fun aa_ U => aa_ = #[(.int x)] ∧ Z.Warmed39 U.vm ∧ U.heap = h0) (fun _ _ _ _ _ => True) (fun _ U o U' => ∃ v L, o = .returned v ∧ Qrm8 Z x h0 n0 v U'.heap L ∧ FrameEnd U o U' L ({ frames := 0, cells := 0, slots := 0, locals := 0 } : Room).cells ({ frames := 0, cells := 0, slots := 0, locals := 0 } : Room).slots) := by
  refine MetFree.of_bodySF (plainFor_of_name pn_3) hisR ?_
  intro p e s m args below meth c s₁ Bd hml0 hP hK
  obtain ⟨rfl, hZ, hh⟩ := hP
  have hx := Bd.exec
  have hby := Bd.bytes
  have hml : c.maxLocals = 1 := hml0
  have hown : s.vm.findClass "com/example/coretally/coretally/core/RatioCompareToPinLaw" = some m.cls := findClass_of_methodNamed Bd.named
  have hnm := (name_of_methodNamed Bd.named Bd.method).1
  have X0 : Stand p l e ({ frames := 0, cells := 0, slots := 0, locals := 0 } : Room) s m #[(.int x)] below meth c s₁ [] 0 0 := Stand.of_body Bd
  have e0 : s₁.heap = h0 := by rw [← hh, Bd.state]; rfl
  have N0 := Fr.nil n0
  have pre0 : ∀ tt_, Steps p.tables e below (s₁.setTop (mkF m 0 #[.val (.int x)] [])) tt_ → Steps p.tables e below (s₁.setTop (entryFrame m #[(.int x)] 1)) tt_ := fun tt_ kk_ => castTop (ef_8 m x) kk_
  obtain ⟨fs, hr, hrun, hended, hW, hsame⟩ := X0.leave (v := some (.int (-1 : Int32))) (fun h => by rw [Bd.returns] at h; cases h)
  refine ⟨_, _, pre0 _ ?_, hrun, hended, _, _, rfl, ?_, ⟨_, rfl⟩, hW, hsame.mono (by decide) (by decide)⟩
  · show Steps p.tables e below (s₁.setTop (mkF m 0 #[.val (.int x)] [])) _
    refine XS.iloadN X0.here hx rfl (hb hby d8_0) rfl ?_
    show Steps p.tables e below (s₁.setTop (mkF m 1 #[.val (.int x)] [(.int x)])) _
    refine XS.ifNo X0.here hx rfl (hb hby d8_1) rfl ((if0 _ _).trans (tlt (show x < (0 : Int32) from h1)).2.1) ?_
    show Steps p.tables e below (s₁.setTop (mkF m 4 #[.val (.int x)] [])) _
    refine XS.iconst X0.here hx rfl (hb hby d8_4) ?_
    show Steps p.tables e below (s₁.setTop (mkF m 5 #[.val (.int x)] [(.int (-1 : Int32))])) _
    exact retI X0 hx Bd.returns (hb hby d8_5) hr
  · show Qrm8 Z x h0 n0 _ s₁.heap _
    rw [e0]
    exact ⟨by rw [own_sign, if_pos h1], N0, rfl⟩
theorem d8_6 : decode method_3_code 6 = .ok (.iload_n 0, 1) := by decide +kernel
theorem d8_7 : decode method_3_code 7 = .ok (.ifCond .le 5, 3) := by decide +kernel
theorem d8_10 : decode method_3_code 10 = .ok (.iconst 1, 1) := by decide +kernel
theorem d8_11 : decode method_3_code 11 = .ok (.ireturn, 1) := by decide +kernel
set_option maxRecDepth 65536 in
set_option maxHeartbeats 40000000 in
theorem rm8b (l : Launch) (Z : State) (a0 : Array Value) (hw : ∀ d ∈ tables_1, d.before a0 Z = true) (ws : List Jvm.Cond) (x : Int32) (h0 : Heap) (n0 : Nat) (Z0 : n0 ≤ h0.size) (h1 : ¬ x < 0) (h2 : 0 < x) :
    MetFree l (⟨"com/example/coretally/coretally/core/RatioCompareToPinLaw", "sign", "(I)I"⟩ : MethodName) (head1 (Jvm.Cond.code (⟨"com/example/coretally/coretally/core/RatioCompareToPinLaw", "sign", "(I)I"⟩ : MethodName) method_3_code 1 (some .int) :: ws) ({ frames := 0, cells := 0, slots := 0, locals := 0 } : Room)) (fun aa_ U => aa_ = #[(.int x)] ∧ Z.Warmed39 U.vm ∧ U.heap = h0) (fun _ _ _ _ _ => True) (fun _ U o U' => ∃ v L, o = .returned v ∧ Qrm8 Z x h0 n0 v U'.heap L ∧ FrameEnd U o U' L ({ frames := 0, cells := 0, slots := 0, locals := 0 } : Room).cells ({ frames := 0, cells := 0, slots := 0, locals := 0 } : Room).slots) := by
  refine MetFree.of_bodySF (plainFor_of_name pn_3) hisR ?_
  intro p e s m args below meth c s₁ Bd hml0 hP hK
  obtain ⟨rfl, hZ, hh⟩ := hP
  have hx := Bd.exec
  have hby := Bd.bytes
  have hml : c.maxLocals = 1 := hml0
  have hown : s.vm.findClass "com/example/coretally/coretally/core/RatioCompareToPinLaw" = some m.cls := findClass_of_methodNamed Bd.named
  have hnm := (name_of_methodNamed Bd.named Bd.method).1
  have X0 : Stand p l e ({ frames := 0, cells := 0, slots := 0, locals := 0 } : Room) s m #[(.int x)] below meth c s₁ [] 0 0 := Stand.of_body Bd
  have e0 : s₁.heap = h0 := by rw [← hh, Bd.state]; rfl
  have N0 := Fr.nil n0
  have pre0 : ∀ tt_, Steps p.tables e below (s₁.setTop (mkF m 0 #[.val (.int x)] [])) tt_ → Steps p.tables e below (s₁.setTop (entryFrame m #[(.int x)] 1)) tt_ := fun tt_ kk_ => castTop (ef_8 m x) kk_
  obtain ⟨fs, hr, hrun, hended, hW, hsame⟩ := X0.leave (v := some (.int (1 : Int32))) (fun h => by rw [Bd.returns] at h; cases h)
  refine ⟨_, _, pre0 _ ?_, hrun, hended, _, _, rfl, ?_, ⟨_, rfl⟩, hW, hsame.mono (by decide) (by decide)⟩
  · show Steps p.tables e below (s₁.setTop (mkF m 0 #[.val (.int x)] [])) _
    refine XS.iloadN X0.here hx rfl (hb hby d8_0) rfl ?_
    show Steps p.tables e below (s₁.setTop (mkF m 1 #[.val (.int x)] [(.int x)])) _
    refine XS.ifYes X0.here hx rfl (pc0 := 1) (pc' := 6) rfl (hb hby d8_1) rfl ((if0 _ _).trans (flt (show ¬ (x < (0 : Int32)) from h1)).2.1) (by decide) (by decide) ?_
    show Steps p.tables e below (s₁.setTop (mkF m 6 #[.val (.int x)] [])) _
    refine XS.iloadN X0.here hx rfl (hb hby d8_6) rfl ?_
    show Steps p.tables e below (s₁.setTop (mkF m 7 #[.val (.int x)] [(.int x)])) _
    refine XS.ifNo X0.here hx rfl (hb hby d8_7) rfl ((if0 _ _).trans (tlt (show (0 : Int32) < x from h2)).2.2.2) ?_
    show Steps p.tables e below (s₁.setTop (mkF m 10 #[.val (.int x)] [])) _
    refine XS.iconst X0.here hx rfl (hb hby d8_10) ?_
    show Steps p.tables e below (s₁.setTop (mkF m 11 #[.val (.int x)] [(.int (1 : Int32))])) _
    exact retI X0 hx Bd.returns (hb hby d8_11) hr
  · show Qrm8 Z x h0 n0 _ s₁.heap _
    rw [e0]
    exact ⟨by rw [own_sign, if_neg h1, if_pos h2], N0, rfl⟩
theorem d8_12 : decode method_3_code 12 = .ok (.iconst 0, 1) := by decide +kernel
theorem d8_13 : decode method_3_code 13 = .ok (.ireturn, 1) := by decide +kernel
set_option maxRecDepth 65536 in
set_option maxHeartbeats 40000000 in
theorem rm8c (l : Launch) (Z : State) (a0 : Array Value) (hw : ∀ d ∈ tables_1, d.before a0 Z = true) (ws : List Jvm.Cond) (x : Int32) (h0 : Heap) (n0 : Nat) (Z0 : n0 ≤ h0.size) (h1 : ¬ x < 0) (h2 : ¬ 0 < x) :
    MetFree l (⟨"com/example/coretally/coretally/core/RatioCompareToPinLaw", "sign", "(I)I"⟩ : MethodName) (head1 (Jvm.Cond.code (⟨"com/example/coretally/coretally/core/RatioCompareToPinLaw", "sign", "(I)I"⟩ : MethodName) method_3_code 1 (some .int) :: ws) ({ frames := 0, cells := 0, slots := 0, locals := 0 } : Room)) (fun aa_ U => aa_ = #[(.int x)] ∧ Z.Warmed39 U.vm ∧ U.heap = h0) (fun _ _ _ _ _ => True) (fun _ U o U' => ∃ v L, o = .returned v ∧ Qrm8 Z x h0 n0 v U'.heap L ∧ FrameEnd U o U' L ({ frames := 0, cells := 0, slots := 0, locals := 0 } : Room).cells ({ frames := 0, cells := 0, slots := 0, locals := 0 } : Room).slots) := by
  refine MetFree.of_bodySF (plainFor_of_name pn_3) hisR ?_
  intro p e s m args below meth c s₁ Bd hml0 hP hK
  obtain ⟨rfl, hZ, hh⟩ := hP
  have hx := Bd.exec
  have hby := Bd.bytes
  have hml : c.maxLocals = 1 := hml0
  have hown : s.vm.findClass "com/example/coretally/coretally/core/RatioCompareToPinLaw" = some m.cls := findClass_of_methodNamed Bd.named
  have hnm := (name_of_methodNamed Bd.named Bd.method).1
  have X0 : Stand p l e ({ frames := 0, cells := 0, slots := 0, locals := 0 } : Room) s m #[(.int x)] below meth c s₁ [] 0 0 := Stand.of_body Bd
  have e0 : s₁.heap = h0 := by rw [← hh, Bd.state]; rfl
  have N0 := Fr.nil n0
  have pre0 : ∀ tt_, Steps p.tables e below (s₁.setTop (mkF m 0 #[.val (.int x)] [])) tt_ → Steps p.tables e below (s₁.setTop (entryFrame m #[(.int x)] 1)) tt_ := fun tt_ kk_ => castTop (ef_8 m x) kk_
  obtain ⟨fs, hr, hrun, hended, hW, hsame⟩ := X0.leave (v := some (.int (0 : Int32))) (fun h => by rw [Bd.returns] at h; cases h)
  refine ⟨_, _, pre0 _ ?_, hrun, hended, _, _, rfl, ?_, ⟨_, rfl⟩, hW, hsame.mono (by decide) (by decide)⟩
  · show Steps p.tables e below (s₁.setTop (mkF m 0 #[.val (.int x)] [])) _
    refine XS.iloadN X0.here hx rfl (hb hby d8_0) rfl ?_
    show Steps p.tables e below (s₁.setTop (mkF m 1 #[.val (.int x)] [(.int x)])) _
    refine XS.ifYes X0.here hx rfl (pc0 := 1) (pc' := 6) rfl (hb hby d8_1) rfl ((if0 _ _).trans (flt (show ¬ (x < (0 : Int32)) from h1)).2.1) (by decide) (by decide) ?_
    show Steps p.tables e below (s₁.setTop (mkF m 6 #[.val (.int x)] [])) _
    refine XS.iloadN X0.here hx rfl (hb hby d8_6) rfl ?_
    show Steps p.tables e below (s₁.setTop (mkF m 7 #[.val (.int x)] [(.int x)])) _
    refine XS.ifYes X0.here hx rfl (pc0 := 7) (pc' := 12) rfl (hb hby d8_7) rfl ((if0 _ _).trans (flt (show ¬ ((0 : Int32) < x) from h2)).2.2.2) (by decide) (by decide) ?_
    show Steps p.tables e below (s₁.setTop (mkF m 12 #[.val (.int x)] [])) _
    refine XS.iconst X0.here hx rfl (hb hby d8_12) ?_
    show Steps p.tables e below (s₁.setTop (mkF m 13 #[.val (.int x)] [(.int (0 : Int32))])) _
    exact retI X0 hx Bd.returns (hb hby d8_13) hr
  · show Qrm8 Z x h0 n0 _ s₁.heap _
    rw [e0]
    exact ⟨by rw [own_sign, if_neg h1, if_neg h2], N0, rfl⟩
theorem rm8 (l : Launch) (Z : State) (a0 : Array Value) (hw : ∀ d ∈ tables_1, d.before a0 Z = true) (ws : List Jvm.Cond) (x : Int32) (h0 : Heap) (n0 : Nat) (Z0 : n0 ≤ h0.size) :
    MetFree l (⟨"com/example/coretally/coretally/core/RatioCompareToPinLaw", "sign", "(I)I"⟩ : MethodName) (head1 (Jvm.Cond.code (⟨"com/example/coretally/coretally/core/RatioCompareToPinLaw", "sign", "(I)I"⟩ : MethodName) method_3_code 1 (some .int) :: ws) ({ frames := 0, cells := 0, slots := 0, locals := 0 } : Room)) (fun aa_ U => aa_ = #[(.int x)] ∧ Z.Warmed39 U.vm ∧ U.heap = h0) (fun _ _ _ _ _ => True) (fun _ U o U' => ∃ v L, o = .returned v ∧ Qrm8 Z x h0 n0 v U'.heap L ∧ FrameEnd U o U' L ({ frames := 0, cells := 0, slots := 0, locals := 0 } : Room).cells ({ frames := 0, cells := 0, slots := 0, locals := 0 } : Room).slots) := by
  by_cases h1 : x < 0
  · exact rm8a l Z a0 hw ws x h0 n0 Z0  h1
  by_cases h2 : 0 < x
  · exact rm8b l Z a0 hw ws x h0 n0 Z0  h1 h2
  · exact rm8c l Z a0 hw ws x h0 n0 Z0  h1 h2
theorem d1_0 : decode method_2_code 0 = .ok (.iload 4, 2) := by decide +kernel
theorem d1_2 : decode method_2_code 2 = .ok (.iconst 3, 1) := by decide +kernel
theorem d1_3 : decode method_2_code 3 = .ok (.iand, 1) := by decide +kernel
theorem d1_4 : decode method_2_code 4 = .ok (.istore 5, 2) := by decide +kernel
theorem d1_6 : decode method_2_code 6 = .ok (.iload 5, 2) := by decide +kernel
theorem d1_8 : decode method_2_code 8 = .ok (.iconst 1, 1) := by decide +kernel
theorem d1_9 : decode method_2_code 9 = .ok (.if_icmp .ne 5, 3) := by decide +kernel
theorem d1_12 : decode method_2_code 12 = .ok (.lload_n 0, 1) := by decide +kernel
theorem d1_13 : decode method_2_code 13 = .ok (.lreturn, 1) := by decide +kernel
theorem ef_1 (m : MethodId) (x0 : Int64) (x1 : Int64) (x2 : Int32) : entryFrame m #[(.long x0), (.long x1), (.int x2)] 6 = mkF m 0 #[.val (.long x0), .second, .val (.long x1), .second, .val (.int x2), .unset] [] := by first | (simp [entryFrame, mkF, argsToLocals, Value.category]; done) | rfl
def Qrm1 (Z : State) (x : Int64) (y : Int64) (f : Int32) (h0 : Heap) (n0 : Nat) (v : Option Value) (h : Heap) (L : List Loc) : Prop := v = some (.long (own_pick x y f)) ∧ Fr n0 L ∧ h = h0
set_option maxRecDepth 65536 in
set_option maxHeartbeats 40000000 in
theorem rm1a (l : Launch) (Z : State) (a0 : Array Value) (hw : ∀ d ∈ tables_1, d.before a0 Z = true) (ws : List Jvm.Cond) (x : Int64) (y : Int64) (f : Int32) (h0 : Heap) (n0 : Nat) (Z0 : n0 ≤ h0.size) (h1 : (f &&& (3 : Int32)) = (1 : Int32)) :
    MetFree l (⟨"com/example/coretally/coretally/core/RatioCompareToPinLaw", "pick", "(JJI)J"⟩ : MethodName) (head1 (Jvm.Cond.code (⟨"com/example/coretally/coretally/core/RatioCompareToPinLaw", "pick", "(JJI)J"⟩ : MethodName) method_2_code 6 (some .long) :: ws) ({ frames := 0, cells := 0, slots := 0, locals := 0 } : Room)) (fun aa_ U => aa_ = #[(.long x), (.long y), (.int f)] ∧ Z.Warmed39 U.vm ∧ U.heap = h0) (fun _ _ _ _ _ => True) (fun _ U o U' => ∃ v L, o = .returned v ∧ Qrm1 Z x y f h0 n0 v U'.heap L ∧ FrameEnd U o U' L ({ frames := 0, cells := 0, slots := 0, locals := 0 } : Room).cells ({ frames := 0, cells := 0, slots := 0, locals := 0 } : Room).slots) := by
  refine MetFree.of_bodySF (plainFor_of_name pn_3) hisR ?_
  intro p e s m args below meth c s₁ Bd hml0 hP hK
  obtain ⟨rfl, hZ, hh⟩ := hP
  have hx := Bd.exec
  have hby := Bd.bytes
  have hml : c.maxLocals = 6 := hml0
  have hown : s.vm.findClass "com/example/coretally/coretally/core/RatioCompareToPinLaw" = some m.cls := findClass_of_methodNamed Bd.named
  have hnm := (name_of_methodNamed Bd.named Bd.method).1
  have X0 : Stand p l e ({ frames := 0, cells := 0, slots := 0, locals := 0 } : Room) s m #[(.long x), (.long y), (.int f)] below meth c s₁ [] 0 0 := Stand.of_body Bd
  have e0 : s₁.heap = h0 := by rw [← hh, Bd.state]; rfl
  have N0 := Fr.nil n0
  have pre0 : ∀ tt_, Steps p.tables e below (s₁.setTop (mkF m 0 #[.val (.long x), .second, .val (.long y), .second, .val (.int f), .unset] [])) tt_ → Steps p.tables e below (s₁.setTop (entryFrame m #[(.long x), (.long y), (.int f)] 6)) tt_ := fun tt_ kk_ => castTop (ef_1 m x y f) kk_
  obtain ⟨fs, hr, hrun, hended, hW, hsame⟩ := X0.leave (v := some (.long x)) (fun h => by rw [Bd.returns] at h; cases h)
  refine ⟨_, _, pre0 _ ?_, hrun, hended, _, _, rfl, ?_, ⟨_, rfl⟩, hW, hsame.mono (by decide) (by decide)⟩
  · show Steps p.tables e below (s₁.setTop (mkF m 0 #[.val (.long x), .second, .val (.long y), .second, .val (.int f), .unset] [])) _
    refine XS.iload X0.here hx rfl (hb hby d1_0) rfl ?_
    show Steps p.tables e below (s₁.setTop (mkF m 2 #[.val (.long x), .second, .val (.long y), .second, .val (.int f), .unset] [(.int f)])) _
    refine XS.iconst X0.here hx rfl (hb hby d1_2) ?_
    show Steps p.tables e below (s₁.setTop (mkF m 3 #[.val (.long x), .second, .val (.long y), .second, .val (.int f), .unset] [(.int (3 : Int32)), (.int f)])) _
    refine XS.iand X0.here hx rfl (hb hby d1_3) rfl ?_
    show Steps p.tables e below (s₁.setTop (mkF m 4 #[.val (.long x), .second, .val (.long y), .second, .val (.int f), .unset] [(.int (f &&& (3 : Int32)))])) _
    refine XS.istore X0.here hx rfl (hb hby d1_4) rfl (l' := #[.val (.long x), .second, .val (.long y), .second, .val (.int f), .val (.int (f &&& (3 : Int32)))]) rfl ?_
    show Steps p.tables e below (s₁.setTop (mkF m 6 #[.val (.long x), .second, .val (.long y), .second, .val (.int f), .val (.int (f &&& (3 : Int32)))] [])) _
    refine XS.iload X0.here hx rfl (hb hby d1_6) rfl ?_
    show Steps p.tables e below (s₁.setTop (mkF m 8 #[.val (.long x), .second, .val (.long y), .second, .val (.int f), .val (.int (f &&& (3 : Int32)))] [(.int (f &&& (3 : Int32)))])) _
    refine XS.iconst X0.here hx rfl (hb hby d1_8) ?_
    show Steps p.tables e below (s₁.setTop (mkF m 9 #[.val (.long x), .second, .val (.long y), .second, .val (.int f), .val (.int (f &&& (3 : Int32)))] [(.int (1 : Int32)), (.int (f &&& (3 : Int32)))])) _
    refine XS.icmpNo X0.here hx rfl (hb hby d1_9) rfl (teq (show (f &&& (3 : Int32)) = (1 : Int32) from h1)).2 ?_
    show Steps p.tables e below (s₁.setTop (mkF m 12 #[.val (.long x), .second, .val (.long y), .second, .val (.int f), .val (.int (f &&& (3 : Int32)))] [])) _
    refine XS.lloadN X0.here hx rfl (hb hby d1_12) rfl ?_
    show Steps p.tables e below (s₁.setTop (mkF m 13 #[.val (.long x), .second, .val (.long y), .second, .val (.int f), .val (.int (f &&& (3 : Int32)))] [(.long x)])) _
    exact X0.lreturnOut hx Bd.returns (hb hby d1_13) hr
  · show Qrm1 Z x y f h0 n0 _ s₁.heap _
    rw [e0]
    exact ⟨by rw [own_pick, if_pos h1], N0, rfl⟩
theorem d1_14 : decode method_2_code 14 = .ok (.iload 5, 2) := by decide +kernel
theorem d1_16 : decode method_2_code 16 = .ok (.iconst 2, 1) := by decide +kernel
theorem d1_17 : decode method_2_code 17 = .ok (.if_icmp .ne 15, 3) := by decide +kernel
theorem d1_20 : decode method_2_code 20 = .ok (.lload_n 0, 1) := by decide +kernel
theorem d1_21 : decode method_2_code 21 = .ok (.ldc2_w 9, 3) := by decide +kernel
theorem d1_24 : decode method_2_code 24 = .ok (.lcmp, 1) := by decide +kernel
theorem d1_25 : decode method_2_code 25 = .ok (.ifCond .eq 7, 3) := by decide +kernel
theorem d1_28 : decode method_2_code 28 = .ok (.lload_n 0, 1) := by decide +kernel
theorem d1_29 : decode method_2_code 29 = .ok (.lconst 1, 1) := by decide +kernel
theorem d1_30 : decode method_2_code 30 = .ok (.ladd, 1) := by decide +kernel
theorem d1_31 : decode method_2_code 31 = .ok (.lreturn, 1) := by decide +kernel
set_option maxRecDepth 65536 in
set_option maxHeartbeats 40000000 in
theorem rm1b (l : Launch) (Z : State) (a0 : Array Value) (hw : ∀ d ∈ tables_1, d.before a0 Z = true) (ws : List Jvm.Cond) (x : Int64) (y : Int64) (f : Int32) (h0 : Heap) (n0 : Nat) (Z0 : n0 ≤ h0.size) (h1 : ¬ (f &&& (3 : Int32)) = (1 : Int32)) (h2 : (f &&& (3 : Int32)) = (2 : Int32)) (h3 : ¬ x = (9223372036854775807 : Int64)) :
    MetFree l (⟨"com/example/coretally/coretally/core/RatioCompareToPinLaw", "pick", "(JJI)J"⟩ : MethodName) (head1 (Jvm.Cond.code (⟨"com/example/coretally/coretally/core/RatioCompareToPinLaw", "pick", "(JJI)J"⟩ : MethodName) method_2_code 6 (some .long) :: ws) ({ frames := 0, cells := 0, slots := 0, locals := 0 } : Room)) (fun aa_ U => aa_ = #[(.long x), (.long y), (.int f)] ∧ Z.Warmed39 U.vm ∧ U.heap = h0) (fun _ _ _ _ _ => True) (fun _ U o U' => ∃ v L, o = .returned v ∧ Qrm1 Z x y f h0 n0 v U'.heap L ∧ FrameEnd U o U' L ({ frames := 0, cells := 0, slots := 0, locals := 0 } : Room).cells ({ frames := 0, cells := 0, slots := 0, locals := 0 } : Room).slots) := by
  refine MetFree.of_bodySF (plainFor_of_name pn_3) hisR ?_
  intro p e s m args below meth c s₁ Bd hml0 hP hK
  obtain ⟨rfl, hZ, hh⟩ := hP
  have hx := Bd.exec
  have hby := Bd.bytes
  have hml : c.maxLocals = 6 := hml0
  have hown : s.vm.findClass "com/example/coretally/coretally/core/RatioCompareToPinLaw" = some m.cls := findClass_of_methodNamed Bd.named
  have hnm := (name_of_methodNamed Bd.named Bd.method).1
  have X0 : Stand p l e ({ frames := 0, cells := 0, slots := 0, locals := 0 } : Room) s m #[(.long x), (.long y), (.int f)] below meth c s₁ [] 0 0 := Stand.of_body Bd
  have e0 : s₁.heap = h0 := by rw [← hh, Bd.state]; rfl
  have N0 := Fr.nil n0
  have pre0 : ∀ tt_, Steps p.tables e below (s₁.setTop (mkF m 0 #[.val (.long x), .second, .val (.long y), .second, .val (.int f), .unset] [])) tt_ → Steps p.tables e below (s₁.setTop (entryFrame m #[(.long x), (.long y), (.int f)] 6)) tt_ := fun tt_ kk_ => castTop (ef_1 m x y f) kk_
  obtain ⟨fs, hr, hrun, hended, hW, hsame⟩ := X0.leave (v := some (.long (x + (1 : Int64)))) (fun h => by rw [Bd.returns] at h; cases h)
  refine ⟨_, _, pre0 _ ?_, hrun, hended, _, _, rfl, ?_, ⟨_, rfl⟩, hW, hsame.mono (by decide) (by decide)⟩
  · show Steps p.tables e below (s₁.setTop (mkF m 0 #[.val (.long x), .second, .val (.long y), .second, .val (.int f), .unset] [])) _
    refine XS.iload X0.here hx rfl (hb hby d1_0) rfl ?_
    show Steps p.tables e below (s₁.setTop (mkF m 2 #[.val (.long x), .second, .val (.long y), .second, .val (.int f), .unset] [(.int f)])) _
    refine XS.iconst X0.here hx rfl (hb hby d1_2) ?_
    show Steps p.tables e below (s₁.setTop (mkF m 3 #[.val (.long x), .second, .val (.long y), .second, .val (.int f), .unset] [(.int (3 : Int32)), (.int f)])) _
    refine XS.iand X0.here hx rfl (hb hby d1_3) rfl ?_
    show Steps p.tables e below (s₁.setTop (mkF m 4 #[.val (.long x), .second, .val (.long y), .second, .val (.int f), .unset] [(.int (f &&& (3 : Int32)))])) _
    refine XS.istore X0.here hx rfl (hb hby d1_4) rfl (l' := #[.val (.long x), .second, .val (.long y), .second, .val (.int f), .val (.int (f &&& (3 : Int32)))]) rfl ?_
    show Steps p.tables e below (s₁.setTop (mkF m 6 #[.val (.long x), .second, .val (.long y), .second, .val (.int f), .val (.int (f &&& (3 : Int32)))] [])) _
    refine XS.iload X0.here hx rfl (hb hby d1_6) rfl ?_
    show Steps p.tables e below (s₁.setTop (mkF m 8 #[.val (.long x), .second, .val (.long y), .second, .val (.int f), .val (.int (f &&& (3 : Int32)))] [(.int (f &&& (3 : Int32)))])) _
    refine XS.iconst X0.here hx rfl (hb hby d1_8) ?_
    show Steps p.tables e below (s₁.setTop (mkF m 9 #[.val (.long x), .second, .val (.long y), .second, .val (.int f), .val (.int (f &&& (3 : Int32)))] [(.int (1 : Int32)), (.int (f &&& (3 : Int32)))])) _
    refine XS.icmpYes X0.here hx rfl (pc0 := 9) (pc' := 14) rfl (hb hby d1_9) rfl (feq (show ¬ ((f &&& (3 : Int32)) = (1 : Int32)) from h1)).2 (by decide) (by decide) ?_
    show Steps p.tables e below (s₁.setTop (mkF m 14 #[.val (.long x), .second, .val (.long y), .second, .val (.int f), .val (.int (f &&& (3 : Int32)))] [])) _
    refine XS.iload X0.here hx rfl (hb hby d1_14) rfl ?_
    show Steps p.tables e below (s₁.setTop (mkF m 16 #[.val (.long x), .second, .val (.long y), .second, .val (.int f), .val (.int (f &&& (3 : Int32)))] [(.int (f &&& (3 : Int32)))])) _
    refine XS.iconst X0.here hx rfl (hb hby d1_16) ?_
    show Steps p.tables e below (s₁.setTop (mkF m 17 #[.val (.long x), .second, .val (.long y), .second, .val (.int f), .val (.int (f &&& (3 : Int32)))] [(.int (2 : Int32)), (.int (f &&& (3 : Int32)))])) _
    refine XS.icmpNo X0.here hx rfl (hb hby d1_17) rfl (teq (show (f &&& (3 : Int32)) = (2 : Int32) from h2)).2 ?_
    show Steps p.tables e below (s₁.setTop (mkF m 20 #[.val (.long x), .second, .val (.long y), .second, .val (.int f), .val (.int (f &&& (3 : Int32)))] [])) _
    refine XS.lloadN X0.here hx rfl (hb hby d1_20) rfl ?_
    show Steps p.tables e below (s₁.setTop (mkF m 21 #[.val (.long x), .second, .val (.long y), .second, .val (.int f), .val (.int (f &&& (3 : Int32)))] [(.long x)])) _
    refine X0.ldc2Long hx hown (mvT hZ (hw _ (List.mem_of_getElem? (i := 0) rfl))) (g := (mkF m 21 #[.val (.long x), .second, .val (.long y), .second, .val (.int f), .val (.int (f &&& (3 : Int32)))] [(.long x)])) rfl (hb hby d1_21) _ ?_
    show Steps p.tables e below (s₁.setTop (mkF m 24 #[.val (.long x), .second, .val (.long y), .second, .val (.int f), .val (.int (f &&& (3 : Int32)))] [(.long (9223372036854775807 : Int64)), (.long x)])) _
    refine XS.lcmp X0.here hx rfl (hb hby d1_24) rfl ?_
    show Steps p.tables e below (s₁.setTop (mkF m 25 #[.val (.long x), .second, .val (.long y), .second, .val (.int f), .val (.int (f &&& (3 : Int32)))] [(.int (lcmpW x (9223372036854775807 : Int64)))])) _
    refine XS.ifNo X0.here hx rfl (hb hby d1_25) rfl ((if0 _ _).trans (feq (show ¬ ((lcmpW x (9223372036854775807 : Int64)) = (0 : Int32)) from (fun q => h3 ((lw_eq _ _).mp q)))).1) ?_
    show Steps p.tables e below (s₁.setTop (mkF m 28 #[.val (.long x), .second, .val (.long y), .second, .val (.int f), .val (.int (f &&& (3 : Int32)))] [])) _
    refine XS.lloadN X0.here hx rfl (hb hby d1_28) rfl ?_
    show Steps p.tables e below (s₁.setTop (mkF m 29 #[.val (.long x), .second, .val (.long y), .second, .val (.int f), .val (.int (f &&& (3 : Int32)))] [(.long x)])) _
    refine XS.lconst X0.here hx rfl (hb hby d1_29) ?_
    show Steps p.tables e below (s₁.setTop (mkF m 30 #[.val (.long x), .second, .val (.long y), .second, .val (.int f), .val (.int (f &&& (3 : Int32)))] [(.long (1 : Int64)), (.long x)])) _
    refine XS.ladd X0.here hx rfl (hb hby d1_30) rfl ?_
    show Steps p.tables e below (s₁.setTop (mkF m 31 #[.val (.long x), .second, .val (.long y), .second, .val (.int f), .val (.int (f &&& (3 : Int32)))] [(.long (x + (1 : Int64)))])) _
    exact X0.lreturnOut hx Bd.returns (hb hby d1_31) hr
  · show Qrm1 Z x y f h0 n0 _ s₁.heap _
    rw [e0]
    exact ⟨by rw [own_pick, if_neg h1, if_pos ⟨h2, h3⟩], N0, rfl⟩
theorem d1_32 : decode method_2_code 32 = .ok (.iload 5, 2) := by decide +kernel
theorem d1_34 : decode method_2_code 34 = .ok (.iconst 3, 1) := by decide +kernel
theorem d1_35 : decode method_2_code 35 = .ok (.if_icmp .ne 13, 3) := by decide +kernel
theorem d1_48 : decode method_2_code 48 = .ok (.lload_n 2, 1) := by decide +kernel
theorem d1_49 : decode method_2_code 49 = .ok (.ldc2_w 9, 3) := by decide +kernel
theorem d1_52 : decode method_2_code 52 = .ok (.land, 1) := by decide +kernel
theorem d1_53 : decode method_2_code 53 = .ok (.lreturn, 1) := by decide +kernel
set_option maxRecDepth 65536 in
set_option maxHeartbeats 40000000 in
theorem rm1c (l : Launch) (Z : State) (a0 : Array Value) (hw : ∀ d ∈ tables_1, d.before a0 Z = true) (ws : List Jvm.Cond) (x : Int64) (y : Int64) (f : Int32) (h0 : Heap) (n0 : Nat) (Z0 : n0 ≤ h0.size) (h1 : ¬ (f &&& (3 : Int32)) = (1 : Int32)) (h2 : (f &&& (3 : Int32)) = (2 : Int32)) (h3 : x = (9223372036854775807 : Int64)) :
    MetFree l (⟨"com/example/coretally/coretally/core/RatioCompareToPinLaw", "pick", "(JJI)J"⟩ : MethodName) (head1 (Jvm.Cond.code (⟨"com/example/coretally/coretally/core/RatioCompareToPinLaw", "pick", "(JJI)J"⟩ : MethodName) method_2_code 6 (some .long) :: ws) ({ frames := 0, cells := 0, slots := 0, locals := 0 } : Room)) (fun aa_ U => aa_ = #[(.long x), (.long y), (.int f)] ∧ Z.Warmed39 U.vm ∧ U.heap = h0) (fun _ _ _ _ _ => True) (fun _ U o U' => ∃ v L, o = .returned v ∧ Qrm1 Z x y f h0 n0 v U'.heap L ∧ FrameEnd U o U' L ({ frames := 0, cells := 0, slots := 0, locals := 0 } : Room).cells ({ frames := 0, cells := 0, slots := 0, locals := 0 } : Room).slots) := by
  refine MetFree.of_bodySF (plainFor_of_name pn_3) hisR ?_
  intro p e s m args below meth c s₁ Bd hml0 hP hK
  obtain ⟨rfl, hZ, hh⟩ := hP
  have hx := Bd.exec
  have hby := Bd.bytes
  have hml : c.maxLocals = 6 := hml0
  have hown : s.vm.findClass "com/example/coretally/coretally/core/RatioCompareToPinLaw" = some m.cls := findClass_of_methodNamed Bd.named
  have hnm := (name_of_methodNamed Bd.named Bd.method).1
  have X0 : Stand p l e ({ frames := 0, cells := 0, slots := 0, locals := 0 } : Room) s m #[(.long x), (.long y), (.int f)] below meth c s₁ [] 0 0 := Stand.of_body Bd
  have e0 : s₁.heap = h0 := by rw [← hh, Bd.state]; rfl
  have N0 := Fr.nil n0
  have pre0 : ∀ tt_, Steps p.tables e below (s₁.setTop (mkF m 0 #[.val (.long x), .second, .val (.long y), .second, .val (.int f), .unset] [])) tt_ → Steps p.tables e below (s₁.setTop (entryFrame m #[(.long x), (.long y), (.int f)] 6)) tt_ := fun tt_ kk_ => castTop (ef_1 m x y f) kk_
  obtain ⟨fs, hr, hrun, hended, hW, hsame⟩ := X0.leave (v := some (.long (y &&& (9223372036854775807 : Int64)))) (fun h => by rw [Bd.returns] at h; cases h)
  refine ⟨_, _, pre0 _ ?_, hrun, hended, _, _, rfl, ?_, ⟨_, rfl⟩, hW, hsame.mono (by decide) (by decide)⟩
  · show Steps p.tables e below (s₁.setTop (mkF m 0 #[.val (.long x), .second, .val (.long y), .second, .val (.int f), .unset] [])) _
    refine XS.iload X0.here hx rfl (hb hby d1_0) rfl ?_
    show Steps p.tables e below (s₁.setTop (mkF m 2 #[.val (.long x), .second, .val (.long y), .second, .val (.int f), .unset] [(.int f)])) _
    refine XS.iconst X0.here hx rfl (hb hby d1_2) ?_
    show Steps p.tables e below (s₁.setTop (mkF m 3 #[.val (.long x), .second, .val (.long y), .second, .val (.int f), .unset] [(.int (3 : Int32)), (.int f)])) _
    refine XS.iand X0.here hx rfl (hb hby d1_3) rfl ?_
    show Steps p.tables e below (s₁.setTop (mkF m 4 #[.val (.long x), .second, .val (.long y), .second, .val (.int f), .unset] [(.int (f &&& (3 : Int32)))])) _
    refine XS.istore X0.here hx rfl (hb hby d1_4) rfl (l' := #[.val (.long x), .second, .val (.long y), .second, .val (.int f), .val (.int (f &&& (3 : Int32)))]) rfl ?_
    show Steps p.tables e below (s₁.setTop (mkF m 6 #[.val (.long x), .second, .val (.long y), .second, .val (.int f), .val (.int (f &&& (3 : Int32)))] [])) _
    refine XS.iload X0.here hx rfl (hb hby d1_6) rfl ?_
    show Steps p.tables e below (s₁.setTop (mkF m 8 #[.val (.long x), .second, .val (.long y), .second, .val (.int f), .val (.int (f &&& (3 : Int32)))] [(.int (f &&& (3 : Int32)))])) _
    refine XS.iconst X0.here hx rfl (hb hby d1_8) ?_
    show Steps p.tables e below (s₁.setTop (mkF m 9 #[.val (.long x), .second, .val (.long y), .second, .val (.int f), .val (.int (f &&& (3 : Int32)))] [(.int (1 : Int32)), (.int (f &&& (3 : Int32)))])) _
    refine XS.icmpYes X0.here hx rfl (pc0 := 9) (pc' := 14) rfl (hb hby d1_9) rfl (feq (show ¬ ((f &&& (3 : Int32)) = (1 : Int32)) from h1)).2 (by decide) (by decide) ?_
    show Steps p.tables e below (s₁.setTop (mkF m 14 #[.val (.long x), .second, .val (.long y), .second, .val (.int f), .val (.int (f &&& (3 : Int32)))] [])) _
    refine XS.iload X0.here hx rfl (hb hby d1_14) rfl ?_
    show Steps p.tables e below (s₁.setTop (mkF m 16 #[.val (.long x), .second, .val (.long y), .second, .val (.int f), .val (.int (f &&& (3 : Int32)))] [(.int (f &&& (3 : Int32)))])) _
    refine XS.iconst X0.here hx rfl (hb hby d1_16) ?_
    show Steps p.tables e below (s₁.setTop (mkF m 17 #[.val (.long x), .second, .val (.long y), .second, .val (.int f), .val (.int (f &&& (3 : Int32)))] [(.int (2 : Int32)), (.int (f &&& (3 : Int32)))])) _
    refine XS.icmpNo X0.here hx rfl (hb hby d1_17) rfl (teq (show (f &&& (3 : Int32)) = (2 : Int32) from h2)).2 ?_
    show Steps p.tables e below (s₁.setTop (mkF m 20 #[.val (.long x), .second, .val (.long y), .second, .val (.int f), .val (.int (f &&& (3 : Int32)))] [])) _
    refine XS.lloadN X0.here hx rfl (hb hby d1_20) rfl ?_
    show Steps p.tables e below (s₁.setTop (mkF m 21 #[.val (.long x), .second, .val (.long y), .second, .val (.int f), .val (.int (f &&& (3 : Int32)))] [(.long x)])) _
    refine X0.ldc2Long hx hown (mvT hZ (hw _ (List.mem_of_getElem? (i := 0) rfl))) (g := (mkF m 21 #[.val (.long x), .second, .val (.long y), .second, .val (.int f), .val (.int (f &&& (3 : Int32)))] [(.long x)])) rfl (hb hby d1_21) _ ?_
    show Steps p.tables e below (s₁.setTop (mkF m 24 #[.val (.long x), .second, .val (.long y), .second, .val (.int f), .val (.int (f &&& (3 : Int32)))] [(.long (9223372036854775807 : Int64)), (.long x)])) _
    refine XS.lcmp X0.here hx rfl (hb hby d1_24) rfl ?_
    show Steps p.tables e below (s₁.setTop (mkF m 25 #[.val (.long x), .second, .val (.long y), .second, .val (.int f), .val (.int (f &&& (3 : Int32)))] [(.int (lcmpW x (9223372036854775807 : Int64)))])) _
    refine XS.ifYes X0.here hx rfl (pc0 := 25) (pc' := 32) rfl (hb hby d1_25) rfl ((if0 _ _).trans (teq (show (lcmpW x (9223372036854775807 : Int64)) = (0 : Int32) from ((lw_eq _ _).mpr h3))).1) (by decide) (by decide) ?_
    show Steps p.tables e below (s₁.setTop (mkF m 32 #[.val (.long x), .second, .val (.long y), .second, .val (.int f), .val (.int (f &&& (3 : Int32)))] [])) _
    refine XS.iload X0.here hx rfl (hb hby d1_32) rfl ?_
    show Steps p.tables e below (s₁.setTop (mkF m 34 #[.val (.long x), .second, .val (.long y), .second, .val (.int f), .val (.int (f &&& (3 : Int32)))] [(.int (f &&& (3 : Int32)))])) _
    refine XS.iconst X0.here hx rfl (hb hby d1_34) ?_
    show Steps p.tables e below (s₁.setTop (mkF m 35 #[.val (.long x), .second, .val (.long y), .second, .val (.int f), .val (.int (f &&& (3 : Int32)))] [(.int (3 : Int32)), (.int (f &&& (3 : Int32)))])) _
    refine XS.icmpYes X0.here hx rfl (pc0 := 35) (pc' := 48) rfl (hb hby d1_35) rfl (feq (show ¬ ((f &&& (3 : Int32)) = (3 : Int32)) from (by rw [h2]; decide))).2 (by decide) (by decide) ?_
    show Steps p.tables e below (s₁.setTop (mkF m 48 #[.val (.long x), .second, .val (.long y), .second, .val (.int f), .val (.int (f &&& (3 : Int32)))] [])) _
    refine XS.lloadN X0.here hx rfl (hb hby d1_48) rfl ?_
    show Steps p.tables e below (s₁.setTop (mkF m 49 #[.val (.long x), .second, .val (.long y), .second, .val (.int f), .val (.int (f &&& (3 : Int32)))] [(.long y)])) _
    refine X0.ldc2Long hx hown (mvT hZ (hw _ (List.mem_of_getElem? (i := 0) rfl))) (g := (mkF m 49 #[.val (.long x), .second, .val (.long y), .second, .val (.int f), .val (.int (f &&& (3 : Int32)))] [(.long y)])) rfl (hb hby d1_49) _ ?_
    show Steps p.tables e below (s₁.setTop (mkF m 52 #[.val (.long x), .second, .val (.long y), .second, .val (.int f), .val (.int (f &&& (3 : Int32)))] [(.long (9223372036854775807 : Int64)), (.long y)])) _
    refine XS.land X0.here hx rfl (hb hby d1_52) rfl ?_
    show Steps p.tables e below (s₁.setTop (mkF m 53 #[.val (.long x), .second, .val (.long y), .second, .val (.int f), .val (.int (f &&& (3 : Int32)))] [(.long (y &&& (9223372036854775807 : Int64)))])) _
    exact X0.lreturnOut hx Bd.returns (hb hby d1_53) hr
  · show Qrm1 Z x y f h0 n0 _ s₁.heap _
    rw [e0]
    exact ⟨by rw [own_pick, if_neg h1, if_neg (fun q => q.2 h3), if_neg (fun q => absurd (h2.symm.trans q.1) (by decide))], N0, rfl⟩
theorem d1_38 : decode method_2_code 38 = .ok (.lload_n 0, 1) := by decide +kernel
theorem d1_39 : decode method_2_code 39 = .ok (.lconst 1, 1) := by decide +kernel
theorem d1_40 : decode method_2_code 40 = .ok (.lcmp, 1) := by decide +kernel
theorem d1_41 : decode method_2_code 41 = .ok (.ifCond .le 7, 3) := by decide +kernel
theorem d1_44 : decode method_2_code 44 = .ok (.lload_n 0, 1) := by decide +kernel
theorem d1_45 : decode method_2_code 45 = .ok (.lconst 1, 1) := by decide +kernel
theorem d1_46 : decode method_2_code 46 = .ok (.lsub, 1) := by decide +kernel
theorem d1_47 : decode method_2_code 47 = .ok (.lreturn, 1) := by decide +kernel
set_option maxRecDepth 65536 in
set_option maxHeartbeats 40000000 in
theorem rm1d (l : Launch) (Z : State) (a0 : Array Value) (hw : ∀ d ∈ tables_1, d.before a0 Z = true) (ws : List Jvm.Cond) (x : Int64) (y : Int64) (f : Int32) (h0 : Heap) (n0 : Nat) (Z0 : n0 ≤ h0.size) (h1 : ¬ (f &&& (3 : Int32)) = (1 : Int32)) (h2 : ¬ (f &&& (3 : Int32)) = (2 : Int32)) (h3 : (f &&& (3 : Int32)) = (3 : Int32)) (h4 : (1 : Int64) < x) :
    MetFree l (⟨"com/example/coretally/coretally/core/RatioCompareToPinLaw", "pick", "(JJI)J"⟩ : MethodName) (head1 (Jvm.Cond.code (⟨"com/example/coretally/coretally/core/RatioCompareToPinLaw", "pick", "(JJI)J"⟩ : MethodName) method_2_code 6 (some .long) :: ws) ({ frames := 0, cells := 0, slots := 0, locals := 0 } : Room)) (fun aa_ U => aa_ = #[(.long x), (.long y), (.int f)] ∧ Z.Warmed39 U.vm ∧ U.heap = h0) (fun _ _ _ _ _ => True) (fun _ U o U' => ∃ v L, o = .returned v ∧ Qrm1 Z x y f h0 n0 v U'.heap L ∧ FrameEnd U o U' L ({ frames := 0, cells := 0, slots := 0, locals := 0 } : Room).cells ({ frames := 0, cells := 0, slots := 0, locals := 0 } : Room).slots) := by
  refine MetFree.of_bodySF (plainFor_of_name pn_3) hisR ?_
  intro p e s m args below meth c s₁ Bd hml0 hP hK
  obtain ⟨rfl, hZ, hh⟩ := hP
  have hx := Bd.exec
  have hby := Bd.bytes
  have hml : c.maxLocals = 6 := hml0
  have hown : s.vm.findClass "com/example/coretally/coretally/core/RatioCompareToPinLaw" = some m.cls := findClass_of_methodNamed Bd.named
  have hnm := (name_of_methodNamed Bd.named Bd.method).1
  have X0 : Stand p l e ({ frames := 0, cells := 0, slots := 0, locals := 0 } : Room) s m #[(.long x), (.long y), (.int f)] below meth c s₁ [] 0 0 := Stand.of_body Bd
  have e0 : s₁.heap = h0 := by rw [← hh, Bd.state]; rfl
  have N0 := Fr.nil n0
  have pre0 : ∀ tt_, Steps p.tables e below (s₁.setTop (mkF m 0 #[.val (.long x), .second, .val (.long y), .second, .val (.int f), .unset] [])) tt_ → Steps p.tables e below (s₁.setTop (entryFrame m #[(.long x), (.long y), (.int f)] 6)) tt_ := fun tt_ kk_ => castTop (ef_1 m x y f) kk_
  obtain ⟨fs, hr, hrun, hended, hW, hsame⟩ := X0.leave (v := some (.long (x - (1 : Int64)))) (fun h => by rw [Bd.returns] at h; cases h)
  refine ⟨_, _, pre0 _ ?_, hrun, hended, _, _, rfl, ?_, ⟨_, rfl⟩, hW, hsame.mono (by decide) (by decide)⟩
  · show Steps p.tables e below (s₁.setTop (mkF m 0 #[.val (.long x), .second, .val (.long y), .second, .val (.int f), .unset] [])) _
    refine XS.iload X0.here hx rfl (hb hby d1_0) rfl ?_
    show Steps p.tables e below (s₁.setTop (mkF m 2 #[.val (.long x), .second, .val (.long y), .second, .val (.int f), .unset] [(.int f)])) _
    refine XS.iconst X0.here hx rfl (hb hby d1_2) ?_
    show Steps p.tables e below (s₁.setTop (mkF m 3 #[.val (.long x), .second, .val (.long y), .second, .val (.int f), .unset] [(.int (3 : Int32)), (.int f)])) _
    refine XS.iand X0.here hx rfl (hb hby d1_3) rfl ?_
    show Steps p.tables e below (s₁.setTop (mkF m 4 #[.val (.long x), .second, .val (.long y), .second, .val (.int f), .unset] [(.int (f &&& (3 : Int32)))])) _
    refine XS.istore X0.here hx rfl (hb hby d1_4) rfl (l' := #[.val (.long x), .second, .val (.long y), .second, .val (.int f), .val (.int (f &&& (3 : Int32)))]) rfl ?_
    show Steps p.tables e below (s₁.setTop (mkF m 6 #[.val (.long x), .second, .val (.long y), .second, .val (.int f), .val (.int (f &&& (3 : Int32)))] [])) _
    refine XS.iload X0.here hx rfl (hb hby d1_6) rfl ?_
    show Steps p.tables e below (s₁.setTop (mkF m 8 #[.val (.long x), .second, .val (.long y), .second, .val (.int f), .val (.int (f &&& (3 : Int32)))] [(.int (f &&& (3 : Int32)))])) _
    refine XS.iconst X0.here hx rfl (hb hby d1_8) ?_
    show Steps p.tables e below (s₁.setTop (mkF m 9 #[.val (.long x), .second, .val (.long y), .second, .val (.int f), .val (.int (f &&& (3 : Int32)))] [(.int (1 : Int32)), (.int (f &&& (3 : Int32)))])) _
    refine XS.icmpYes X0.here hx rfl (pc0 := 9) (pc' := 14) rfl (hb hby d1_9) rfl (feq (show ¬ ((f &&& (3 : Int32)) = (1 : Int32)) from h1)).2 (by decide) (by decide) ?_
    show Steps p.tables e below (s₁.setTop (mkF m 14 #[.val (.long x), .second, .val (.long y), .second, .val (.int f), .val (.int (f &&& (3 : Int32)))] [])) _
    refine XS.iload X0.here hx rfl (hb hby d1_14) rfl ?_
    show Steps p.tables e below (s₁.setTop (mkF m 16 #[.val (.long x), .second, .val (.long y), .second, .val (.int f), .val (.int (f &&& (3 : Int32)))] [(.int (f &&& (3 : Int32)))])) _
    refine XS.iconst X0.here hx rfl (hb hby d1_16) ?_
    show Steps p.tables e below (s₁.setTop (mkF m 17 #[.val (.long x), .second, .val (.long y), .second, .val (.int f), .val (.int (f &&& (3 : Int32)))] [(.int (2 : Int32)), (.int (f &&& (3 : Int32)))])) _
    refine XS.icmpYes X0.here hx rfl (pc0 := 17) (pc' := 32) rfl (hb hby d1_17) rfl (feq (show ¬ ((f &&& (3 : Int32)) = (2 : Int32)) from h2)).2 (by decide) (by decide) ?_
    show Steps p.tables e below (s₁.setTop (mkF m 32 #[.val (.long x), .second, .val (.long y), .second, .val (.int f), .val (.int (f &&& (3 : Int32)))] [])) _
    refine XS.iload X0.here hx rfl (hb hby d1_32) rfl ?_
    show Steps p.tables e below (s₁.setTop (mkF m 34 #[.val (.long x), .second, .val (.long y), .second, .val (.int f), .val (.int (f &&& (3 : Int32)))] [(.int (f &&& (3 : Int32)))])) _
    refine XS.iconst X0.here hx rfl (hb hby d1_34) ?_
    show Steps p.tables e below (s₁.setTop (mkF m 35 #[.val (.long x), .second, .val (.long y), .second, .val (.int f), .val (.int (f &&& (3 : Int32)))] [(.int (3 : Int32)), (.int (f &&& (3 : Int32)))])) _
    refine XS.icmpNo X0.here hx rfl (hb hby d1_35) rfl (teq (show (f &&& (3 : Int32)) = (3 : Int32) from h3)).2 ?_
    show Steps p.tables e below (s₁.setTop (mkF m 38 #[.val (.long x), .second, .val (.long y), .second, .val (.int f), .val (.int (f &&& (3 : Int32)))] [])) _
    refine XS.lloadN X0.here hx rfl (hb hby d1_38) rfl ?_
    show Steps p.tables e below (s₁.setTop (mkF m 39 #[.val (.long x), .second, .val (.long y), .second, .val (.int f), .val (.int (f &&& (3 : Int32)))] [(.long x)])) _
    refine XS.lconst X0.here hx rfl (hb hby d1_39) ?_
    show Steps p.tables e below (s₁.setTop (mkF m 40 #[.val (.long x), .second, .val (.long y), .second, .val (.int f), .val (.int (f &&& (3 : Int32)))] [(.long (1 : Int64)), (.long x)])) _
    refine XS.lcmp X0.here hx rfl (hb hby d1_40) rfl ?_
    show Steps p.tables e below (s₁.setTop (mkF m 41 #[.val (.long x), .second, .val (.long y), .second, .val (.int f), .val (.int (f &&& (3 : Int32)))] [(.int (lcmpW x (1 : Int64)))])) _
    refine XS.ifNo X0.here hx rfl (hb hby d1_41) rfl ((if0 _ _).trans (tlt (show (0 : Int32) < (lcmpW x (1 : Int64)) from ((lw_gt _ _).mpr h4))).2.2.2) ?_
    show Steps p.tables e below (s₁.setTop (mkF m 44 #[.val (.long x), .second, .val (.long y), .second, .val (.int f), .val (.int (f &&& (3 : Int32)))] [])) _
    refine XS.lloadN X0.here hx rfl (hb hby d1_44) rfl ?_
    show Steps p.tables e below (s₁.setTop (mkF m 45 #[.val (.long x), .second, .val (.long y), .second, .val (.int f), .val (.int (f &&& (3 : Int32)))] [(.long x)])) _
    refine XS.lconst X0.here hx rfl (hb hby d1_45) ?_
    show Steps p.tables e below (s₁.setTop (mkF m 46 #[.val (.long x), .second, .val (.long y), .second, .val (.int f), .val (.int (f &&& (3 : Int32)))] [(.long (1 : Int64)), (.long x)])) _
    refine XS.lsub X0.here hx rfl (hb hby d1_46) rfl ?_
    show Steps p.tables e below (s₁.setTop (mkF m 47 #[.val (.long x), .second, .val (.long y), .second, .val (.int f), .val (.int (f &&& (3 : Int32)))] [(.long (x - (1 : Int64)))])) _
    exact X0.lreturnOut hx Bd.returns (hb hby d1_47) hr
  · show Qrm1 Z x y f h0 n0 _ s₁.heap _
    rw [e0]
    exact ⟨by rw [own_pick, if_neg h1, if_neg (fun q => h2 q.1), if_pos ⟨h3, h4⟩], N0, rfl⟩
set_option maxRecDepth 65536 in
set_option maxHeartbeats 40000000 in
theorem rm1e (l : Launch) (Z : State) (a0 : Array Value) (hw : ∀ d ∈ tables_1, d.before a0 Z = true) (ws : List Jvm.Cond) (x : Int64) (y : Int64) (f : Int32) (h0 : Heap) (n0 : Nat) (Z0 : n0 ≤ h0.size) (h1 : ¬ (f &&& (3 : Int32)) = (1 : Int32)) (h2 : ¬ (f &&& (3 : Int32)) = (2 : Int32)) (h3 : (f &&& (3 : Int32)) = (3 : Int32)) (h4 : ¬ (1 : Int64) < x) :
    MetFree l (⟨"com/example/coretally/coretally/core/RatioCompareToPinLaw", "pick", "(JJI)J"⟩ : MethodName) (head1 (Jvm.Cond.code (⟨"com/example/coretally/coretally/core/RatioCompareToPinLaw", "pick", "(JJI)J"⟩ : MethodName) method_2_code 6 (some .long) :: ws) ({ frames := 0, cells := 0, slots := 0, locals := 0 } : Room)) (fun aa_ U => aa_ = #[(.long x), (.long y), (.int f)] ∧ Z.Warmed39 U.vm ∧ U.heap = h0) (fun _ _ _ _ _ => True) (fun _ U o U' => ∃ v L, o = .returned v ∧ Qrm1 Z x y f h0 n0 v U'.heap L ∧ FrameEnd U o U' L ({ frames := 0, cells := 0, slots := 0, locals := 0 } : Room).cells ({ frames := 0, cells := 0, slots := 0, locals := 0 } : Room).slots) := by
  refine MetFree.of_bodySF (plainFor_of_name pn_3) hisR ?_
  intro p e s m args below meth c s₁ Bd hml0 hP hK
  obtain ⟨rfl, hZ, hh⟩ := hP
  have hx := Bd.exec
  have hby := Bd.bytes
  have hml : c.maxLocals = 6 := hml0
  have hown : s.vm.findClass "com/example/coretally/coretally/core/RatioCompareToPinLaw" = some m.cls := findClass_of_methodNamed Bd.named
  have hnm := (name_of_methodNamed Bd.named Bd.method).1
  have X0 : Stand p l e ({ frames := 0, cells := 0, slots := 0, locals := 0 } : Room) s m #[(.long x), (.long y), (.int f)] below meth c s₁ [] 0 0 := Stand.of_body Bd
  have e0 : s₁.heap = h0 := by rw [← hh, Bd.state]; rfl
  have N0 := Fr.nil n0
  have pre0 : ∀ tt_, Steps p.tables e below (s₁.setTop (mkF m 0 #[.val (.long x), .second, .val (.long y), .second, .val (.int f), .unset] [])) tt_ → Steps p.tables e below (s₁.setTop (entryFrame m #[(.long x), (.long y), (.int f)] 6)) tt_ := fun tt_ kk_ => castTop (ef_1 m x y f) kk_
  obtain ⟨fs, hr, hrun, hended, hW, hsame⟩ := X0.leave (v := some (.long (y &&& (9223372036854775807 : Int64)))) (fun h => by rw [Bd.returns] at h; cases h)
  refine ⟨_, _, pre0 _ ?_, hrun, hended, _, _, rfl, ?_, ⟨_, rfl⟩, hW, hsame.mono (by decide) (by decide)⟩
  · show Steps p.tables e below (s₁.setTop (mkF m 0 #[.val (.long x), .second, .val (.long y), .second, .val (.int f), .unset] [])) _
    refine XS.iload X0.here hx rfl (hb hby d1_0) rfl ?_
    show Steps p.tables e below (s₁.setTop (mkF m 2 #[.val (.long x), .second, .val (.long y), .second, .val (.int f), .unset] [(.int f)])) _
    refine XS.iconst X0.here hx rfl (hb hby d1_2) ?_
    show Steps p.tables e below (s₁.setTop (mkF m 3 #[.val (.long x), .second, .val (.long y), .second, .val (.int f), .unset] [(.int (3 : Int32)), (.int f)])) _
    refine XS.iand X0.here hx rfl (hb hby d1_3) rfl ?_
    show Steps p.tables e below (s₁.setTop (mkF m 4 #[.val (.long x), .second, .val (.long y), .second, .val (.int f), .unset] [(.int (f &&& (3 : Int32)))])) _
    refine XS.istore X0.here hx rfl (hb hby d1_4) rfl (l' := #[.val (.long x), .second, .val (.long y), .second, .val (.int f), .val (.int (f &&& (3 : Int32)))]) rfl ?_
    show Steps p.tables e below (s₁.setTop (mkF m 6 #[.val (.long x), .second, .val (.long y), .second, .val (.int f), .val (.int (f &&& (3 : Int32)))] [])) _
    refine XS.iload X0.here hx rfl (hb hby d1_6) rfl ?_
    show Steps p.tables e below (s₁.setTop (mkF m 8 #[.val (.long x), .second, .val (.long y), .second, .val (.int f), .val (.int (f &&& (3 : Int32)))] [(.int (f &&& (3 : Int32)))])) _
    refine XS.iconst X0.here hx rfl (hb hby d1_8) ?_
    show Steps p.tables e below (s₁.setTop (mkF m 9 #[.val (.long x), .second, .val (.long y), .second, .val (.int f), .val (.int (f &&& (3 : Int32)))] [(.int (1 : Int32)), (.int (f &&& (3 : Int32)))])) _
    refine XS.icmpYes X0.here hx rfl (pc0 := 9) (pc' := 14) rfl (hb hby d1_9) rfl (feq (show ¬ ((f &&& (3 : Int32)) = (1 : Int32)) from h1)).2 (by decide) (by decide) ?_
    show Steps p.tables e below (s₁.setTop (mkF m 14 #[.val (.long x), .second, .val (.long y), .second, .val (.int f), .val (.int (f &&& (3 : Int32)))] [])) _
    refine XS.iload X0.here hx rfl (hb hby d1_14) rfl ?_
    show Steps p.tables e below (s₁.setTop (mkF m 16 #[.val (.long x), .second, .val (.long y), .second, .val (.int f), .val (.int (f &&& (3 : Int32)))] [(.int (f &&& (3 : Int32)))])) _
    refine XS.iconst X0.here hx rfl (hb hby d1_16) ?_
    show Steps p.tables e below (s₁.setTop (mkF m 17 #[.val (.long x), .second, .val (.long y), .second, .val (.int f), .val (.int (f &&& (3 : Int32)))] [(.int (2 : Int32)), (.int (f &&& (3 : Int32)))])) _
    refine XS.icmpYes X0.here hx rfl (pc0 := 17) (pc' := 32) rfl (hb hby d1_17) rfl (feq (show ¬ ((f &&& (3 : Int32)) = (2 : Int32)) from h2)).2 (by decide) (by decide) ?_
    show Steps p.tables e below (s₁.setTop (mkF m 32 #[.val (.long x), .second, .val (.long y), .second, .val (.int f), .val (.int (f &&& (3 : Int32)))] [])) _
    refine XS.iload X0.here hx rfl (hb hby d1_32) rfl ?_
    show Steps p.tables e below (s₁.setTop (mkF m 34 #[.val (.long x), .second, .val (.long y), .second, .val (.int f), .val (.int (f &&& (3 : Int32)))] [(.int (f &&& (3 : Int32)))])) _
    refine XS.iconst X0.here hx rfl (hb hby d1_34) ?_
    show Steps p.tables e below (s₁.setTop (mkF m 35 #[.val (.long x), .second, .val (.long y), .second, .val (.int f), .val (.int (f &&& (3 : Int32)))] [(.int (3 : Int32)), (.int (f &&& (3 : Int32)))])) _
    refine XS.icmpNo X0.here hx rfl (hb hby d1_35) rfl (teq (show (f &&& (3 : Int32)) = (3 : Int32) from h3)).2 ?_
    show Steps p.tables e below (s₁.setTop (mkF m 38 #[.val (.long x), .second, .val (.long y), .second, .val (.int f), .val (.int (f &&& (3 : Int32)))] [])) _
    refine XS.lloadN X0.here hx rfl (hb hby d1_38) rfl ?_
    show Steps p.tables e below (s₁.setTop (mkF m 39 #[.val (.long x), .second, .val (.long y), .second, .val (.int f), .val (.int (f &&& (3 : Int32)))] [(.long x)])) _
    refine XS.lconst X0.here hx rfl (hb hby d1_39) ?_
    show Steps p.tables e below (s₁.setTop (mkF m 40 #[.val (.long x), .second, .val (.long y), .second, .val (.int f), .val (.int (f &&& (3 : Int32)))] [(.long (1 : Int64)), (.long x)])) _
    refine XS.lcmp X0.here hx rfl (hb hby d1_40) rfl ?_
    show Steps p.tables e below (s₁.setTop (mkF m 41 #[.val (.long x), .second, .val (.long y), .second, .val (.int f), .val (.int (f &&& (3 : Int32)))] [(.int (lcmpW x (1 : Int64)))])) _
    refine XS.ifYes X0.here hx rfl (pc0 := 41) (pc' := 48) rfl (hb hby d1_41) rfl ((if0 _ _).trans (flt (show ¬ ((0 : Int32) < (lcmpW x (1 : Int64))) from (fun q => h4 ((lw_gt _ _).mp q)))).2.2.2) (by decide) (by decide) ?_
    show Steps p.tables e below (s₁.setTop (mkF m 48 #[.val (.long x), .second, .val (.long y), .second, .val (.int f), .val (.int (f &&& (3 : Int32)))] [])) _
    refine XS.lloadN X0.here hx rfl (hb hby d1_48) rfl ?_
    show Steps p.tables e below (s₁.setTop (mkF m 49 #[.val (.long x), .second, .val (.long y), .second, .val (.int f), .val (.int (f &&& (3 : Int32)))] [(.long y)])) _
    refine X0.ldc2Long hx hown (mvT hZ (hw _ (List.mem_of_getElem? (i := 0) rfl))) (g := (mkF m 49 #[.val (.long x), .second, .val (.long y), .second, .val (.int f), .val (.int (f &&& (3 : Int32)))] [(.long y)])) rfl (hb hby d1_49) _ ?_
    show Steps p.tables e below (s₁.setTop (mkF m 52 #[.val (.long x), .second, .val (.long y), .second, .val (.int f), .val (.int (f &&& (3 : Int32)))] [(.long (9223372036854775807 : Int64)), (.long y)])) _
    refine XS.land X0.here hx rfl (hb hby d1_52) rfl ?_
    show Steps p.tables e below (s₁.setTop (mkF m 53 #[.val (.long x), .second, .val (.long y), .second, .val (.int f), .val (.int (f &&& (3 : Int32)))] [(.long (y &&& (9223372036854775807 : Int64)))])) _
    exact X0.lreturnOut hx Bd.returns (hb hby d1_53) hr
  · show Qrm1 Z x y f h0 n0 _ s₁.heap _
    rw [e0]
    exact ⟨by rw [own_pick, if_neg h1, if_neg (fun q => h2 q.1), if_neg (fun q => h4 q.2)], N0, rfl⟩
set_option maxRecDepth 65536 in
set_option maxHeartbeats 40000000 in
theorem rm1f (l : Launch) (Z : State) (a0 : Array Value) (hw : ∀ d ∈ tables_1, d.before a0 Z = true) (ws : List Jvm.Cond) (x : Int64) (y : Int64) (f : Int32) (h0 : Heap) (n0 : Nat) (Z0 : n0 ≤ h0.size) (h1 : ¬ (f &&& (3 : Int32)) = (1 : Int32)) (h2 : ¬ (f &&& (3 : Int32)) = (2 : Int32)) (h3 : ¬ (f &&& (3 : Int32)) = (3 : Int32)) :
    MetFree l (⟨"com/example/coretally/coretally/core/RatioCompareToPinLaw", "pick", "(JJI)J"⟩ : MethodName) (head1 (Jvm.Cond.code (⟨"com/example/coretally/coretally/core/RatioCompareToPinLaw", "pick", "(JJI)J"⟩ : MethodName) method_2_code 6 (some .long) :: ws) ({ frames := 0, cells := 0, slots := 0, locals := 0 } : Room)) (fun aa_ U => aa_ = #[(.long x), (.long y), (.int f)] ∧ Z.Warmed39 U.vm ∧ U.heap = h0) (fun _ _ _ _ _ => True) (fun _ U o U' => ∃ v L, o = .returned v ∧ Qrm1 Z x y f h0 n0 v U'.heap L ∧ FrameEnd U o U' L ({ frames := 0, cells := 0, slots := 0, locals := 0 } : Room).cells ({ frames := 0, cells := 0, slots := 0, locals := 0 } : Room).slots) := by
  refine MetFree.of_bodySF (plainFor_of_name pn_3) hisR ?_
  intro p e s m args below meth c s₁ Bd hml0 hP hK
  obtain ⟨rfl, hZ, hh⟩ := hP
  have hx := Bd.exec
  have hby := Bd.bytes
  have hml : c.maxLocals = 6 := hml0
  have hown : s.vm.findClass "com/example/coretally/coretally/core/RatioCompareToPinLaw" = some m.cls := findClass_of_methodNamed Bd.named
  have hnm := (name_of_methodNamed Bd.named Bd.method).1
  have X0 : Stand p l e ({ frames := 0, cells := 0, slots := 0, locals := 0 } : Room) s m #[(.long x), (.long y), (.int f)] below meth c s₁ [] 0 0 := Stand.of_body Bd
  have e0 : s₁.heap = h0 := by rw [← hh, Bd.state]; rfl
  have N0 := Fr.nil n0
  have pre0 : ∀ tt_, Steps p.tables e below (s₁.setTop (mkF m 0 #[.val (.long x), .second, .val (.long y), .second, .val (.int f), .unset] [])) tt_ → Steps p.tables e below (s₁.setTop (entryFrame m #[(.long x), (.long y), (.int f)] 6)) tt_ := fun tt_ kk_ => castTop (ef_1 m x y f) kk_
  obtain ⟨fs, hr, hrun, hended, hW, hsame⟩ := X0.leave (v := some (.long (y &&& (9223372036854775807 : Int64)))) (fun h => by rw [Bd.returns] at h; cases h)
  refine ⟨_, _, pre0 _ ?_, hrun, hended, _, _, rfl, ?_, ⟨_, rfl⟩, hW, hsame.mono (by decide) (by decide)⟩
  · show Steps p.tables e below (s₁.setTop (mkF m 0 #[.val (.long x), .second, .val (.long y), .second, .val (.int f), .unset] [])) _
    refine XS.iload X0.here hx rfl (hb hby d1_0) rfl ?_
    show Steps p.tables e below (s₁.setTop (mkF m 2 #[.val (.long x), .second, .val (.long y), .second, .val (.int f), .unset] [(.int f)])) _
    refine XS.iconst X0.here hx rfl (hb hby d1_2) ?_
    show Steps p.tables e below (s₁.setTop (mkF m 3 #[.val (.long x), .second, .val (.long y), .second, .val (.int f), .unset] [(.int (3 : Int32)), (.int f)])) _
    refine XS.iand X0.here hx rfl (hb hby d1_3) rfl ?_
    show Steps p.tables e below (s₁.setTop (mkF m 4 #[.val (.long x), .second, .val (.long y), .second, .val (.int f), .unset] [(.int (f &&& (3 : Int32)))])) _
    refine XS.istore X0.here hx rfl (hb hby d1_4) rfl (l' := #[.val (.long x), .second, .val (.long y), .second, .val (.int f), .val (.int (f &&& (3 : Int32)))]) rfl ?_
    show Steps p.tables e below (s₁.setTop (mkF m 6 #[.val (.long x), .second, .val (.long y), .second, .val (.int f), .val (.int (f &&& (3 : Int32)))] [])) _
    refine XS.iload X0.here hx rfl (hb hby d1_6) rfl ?_
    show Steps p.tables e below (s₁.setTop (mkF m 8 #[.val (.long x), .second, .val (.long y), .second, .val (.int f), .val (.int (f &&& (3 : Int32)))] [(.int (f &&& (3 : Int32)))])) _
    refine XS.iconst X0.here hx rfl (hb hby d1_8) ?_
    show Steps p.tables e below (s₁.setTop (mkF m 9 #[.val (.long x), .second, .val (.long y), .second, .val (.int f), .val (.int (f &&& (3 : Int32)))] [(.int (1 : Int32)), (.int (f &&& (3 : Int32)))])) _
    refine XS.icmpYes X0.here hx rfl (pc0 := 9) (pc' := 14) rfl (hb hby d1_9) rfl (feq (show ¬ ((f &&& (3 : Int32)) = (1 : Int32)) from h1)).2 (by decide) (by decide) ?_
    show Steps p.tables e below (s₁.setTop (mkF m 14 #[.val (.long x), .second, .val (.long y), .second, .val (.int f), .val (.int (f &&& (3 : Int32)))] [])) _
    refine XS.iload X0.here hx rfl (hb hby d1_14) rfl ?_
    show Steps p.tables e below (s₁.setTop (mkF m 16 #[.val (.long x), .second, .val (.long y), .second, .val (.int f), .val (.int (f &&& (3 : Int32)))] [(.int (f &&& (3 : Int32)))])) _
    refine XS.iconst X0.here hx rfl (hb hby d1_16) ?_
    show Steps p.tables e below (s₁.setTop (mkF m 17 #[.val (.long x), .second, .val (.long y), .second, .val (.int f), .val (.int (f &&& (3 : Int32)))] [(.int (2 : Int32)), (.int (f &&& (3 : Int32)))])) _
    refine XS.icmpYes X0.here hx rfl (pc0 := 17) (pc' := 32) rfl (hb hby d1_17) rfl (feq (show ¬ ((f &&& (3 : Int32)) = (2 : Int32)) from h2)).2 (by decide) (by decide) ?_
    show Steps p.tables e below (s₁.setTop (mkF m 32 #[.val (.long x), .second, .val (.long y), .second, .val (.int f), .val (.int (f &&& (3 : Int32)))] [])) _
    refine XS.iload X0.here hx rfl (hb hby d1_32) rfl ?_
    show Steps p.tables e below (s₁.setTop (mkF m 34 #[.val (.long x), .second, .val (.long y), .second, .val (.int f), .val (.int (f &&& (3 : Int32)))] [(.int (f &&& (3 : Int32)))])) _
    refine XS.iconst X0.here hx rfl (hb hby d1_34) ?_
    show Steps p.tables e below (s₁.setTop (mkF m 35 #[.val (.long x), .second, .val (.long y), .second, .val (.int f), .val (.int (f &&& (3 : Int32)))] [(.int (3 : Int32)), (.int (f &&& (3 : Int32)))])) _
    refine XS.icmpYes X0.here hx rfl (pc0 := 35) (pc' := 48) rfl (hb hby d1_35) rfl (feq (show ¬ ((f &&& (3 : Int32)) = (3 : Int32)) from h3)).2 (by decide) (by decide) ?_
    show Steps p.tables e below (s₁.setTop (mkF m 48 #[.val (.long x), .second, .val (.long y), .second, .val (.int f), .val (.int (f &&& (3 : Int32)))] [])) _
    refine XS.lloadN X0.here hx rfl (hb hby d1_48) rfl ?_
    show Steps p.tables e below (s₁.setTop (mkF m 49 #[.val (.long x), .second, .val (.long y), .second, .val (.int f), .val (.int (f &&& (3 : Int32)))] [(.long y)])) _
    refine X0.ldc2Long hx hown (mvT hZ (hw _ (List.mem_of_getElem? (i := 0) rfl))) (g := (mkF m 49 #[.val (.long x), .second, .val (.long y), .second, .val (.int f), .val (.int (f &&& (3 : Int32)))] [(.long y)])) rfl (hb hby d1_49) _ ?_
    show Steps p.tables e below (s₁.setTop (mkF m 52 #[.val (.long x), .second, .val (.long y), .second, .val (.int f), .val (.int (f &&& (3 : Int32)))] [(.long (9223372036854775807 : Int64)), (.long y)])) _
    refine XS.land X0.here hx rfl (hb hby d1_52) rfl ?_
    show Steps p.tables e below (s₁.setTop (mkF m 53 #[.val (.long x), .second, .val (.long y), .second, .val (.int f), .val (.int (f &&& (3 : Int32)))] [(.long (y &&& (9223372036854775807 : Int64)))])) _
    exact X0.lreturnOut hx Bd.returns (hb hby d1_53) hr
  · show Qrm1 Z x y f h0 n0 _ s₁.heap _
    rw [e0]
    exact ⟨by rw [own_pick, if_neg h1, if_neg (fun q => h2 q.1), if_neg (fun q => h3 q.1)], N0, rfl⟩
theorem rm1 (l : Launch) (Z : State) (a0 : Array Value) (hw : ∀ d ∈ tables_1, d.before a0 Z = true) (ws : List Jvm.Cond) (x : Int64) (y : Int64) (f : Int32) (h0 : Heap) (n0 : Nat) (Z0 : n0 ≤ h0.size) :
    MetFree l (⟨"com/example/coretally/coretally/core/RatioCompareToPinLaw", "pick", "(JJI)J"⟩ : MethodName) (head1 (Jvm.Cond.code (⟨"com/example/coretally/coretally/core/RatioCompareToPinLaw", "pick", "(JJI)J"⟩ : MethodName) method_2_code 6 (some .long) :: ws) ({ frames := 0, cells := 0, slots := 0, locals := 0 } : Room)) (fun aa_ U => aa_ = #[(.long x), (.long y), (.int f)] ∧ Z.Warmed39 U.vm ∧ U.heap = h0) (fun _ _ _ _ _ => True) (fun _ U o U' => ∃ v L, o = .returned v ∧ Qrm1 Z x y f h0 n0 v U'.heap L ∧ FrameEnd U o U' L ({ frames := 0, cells := 0, slots := 0, locals := 0 } : Room).cells ({ frames := 0, cells := 0, slots := 0, locals := 0 } : Room).slots) := by
  by_cases h1 : (f &&& (3 : Int32)) = (1 : Int32)
  · exact rm1a l Z a0 hw ws x y f h0 n0 Z0  h1
  by_cases h2 : (f &&& (3 : Int32)) = (2 : Int32)
  · by_cases h3 : x = (9223372036854775807 : Int64)
    · exact rm1c l Z a0 hw ws x y f h0 n0 Z0  h1 h2 h3
    · exact rm1b l Z a0 hw ws x y f h0 n0 Z0  h1 h2 h3
  by_cases h3 : (f &&& (3 : Int32)) = (3 : Int32)
  · by_cases h4 : (1 : Int64) < x
    · exact rm1d l Z a0 hw ws x y f h0 n0 Z0  h1 h2 h3 h4
    · exact rm1e l Z a0 hw ws x y f h0 n0 Z0  h1 h2 h3 h4
  · exact rm1f l Z a0 hw ws x y f h0 n0 Z0  h1 h2 h3
theorem pd_1 : parseMethodDescriptor "(JJ)I" = some ⟨[.long, .long], some .int⟩ := by decide +kernel
theorem d5_0 : decode prog_56_method_5_code 0 = .ok (.aload_n 0, 1) := by decide +kernel
theorem d5_1 : decode prog_56_method_5_code 1 = .ok (.getfield 16, 3) := by decide +kernel
theorem d5_4 : decode prog_56_method_5_code 4 = .ok (.aload_n 1, 1) := by decide +kernel
theorem d5_5 : decode prog_56_method_5_code 5 = .ok (.getfield 16, 3) := by decide +kernel
theorem d5_8 : decode prog_56_method_5_code 8 = .ok (.invokestatic 96, 3) := by decide +kernel
theorem d5_11 : decode prog_56_method_5_code 11 = .ok (.istore_n 2, 1) := by decide +kernel
theorem d5_12 : decode prog_56_method_5_code 12 = .ok (.iload_n 2, 1) := by decide +kernel
theorem d5_13 : decode prog_56_method_5_code 13 = .ok (.ifCond .ne 17, 3) := by decide +kernel
theorem d5_30 : decode prog_56_method_5_code 30 = .ok (.iload_n 2, 1) := by decide +kernel
theorem d5_31 : decode prog_56_method_5_code 31 = .ok (.ireturn, 1) := by decide +kernel
theorem ef_5 (m : MethodId) (x0 : Addr) (x1 : Addr) : entryFrame m #[(.ref x0), (.ref x1)] 3 = mkF m 0 #[.val (.ref x0), .val (.ref x1), .unset] [] := by first | (simp [entryFrame, mkF, argsToLocals, Value.category]; done) | rfl
def Qrm5 (Z : State) (a : Addr) (b : Addr) (p1 : Int64) (p2 : Int64) (q1 : Int64) (q2 : Int64) (h0 : Heap) (n0 : Nat) (v : Option Value) (h : Heap) (L : List Loc) : Prop := v = some (.int (if own_cmp p1 p2 = 0 then own_cmp q1 q2 else own_cmp p1 p2)) ∧ Fr n0 L ∧ h = h0
set_option maxRecDepth 65536 in
set_option maxHeartbeats 40000000 in
theorem rm5t (l : Launch) (Z : State) (a0 : Array Value) (hw : ∀ d ∈ tables_1, d.before a0 Z = true) (ws : List Jvm.Cond) (a : Addr) (b : Addr) (p1 : Int64) (p2 : Int64) (q1 : Int64) (q2 : Int64) (h0 : Heap) (n0 : Nat) (Z0 : n0 ≤ h0.size) (F_programCores_a : Fld Z h0 a "com/example/coretally/coretally/core/Ratio" "programCores" "J" (.long p1)) (F_programCores_b : Fld Z h0 b "com/example/coretally/coretally/core/Ratio" "programCores" "J" (.long p2)) (F_bundleCores_a : Fld Z h0 a "com/example/coretally/coretally/core/Ratio" "bundleCores" "J" (.long q1)) (F_bundleCores_b : Fld Z h0 b "com/example/coretally/coretally/core/Ratio" "bundleCores" "J" (.long q2)) (hc13 : ¬ ((own_cmp p1 p2) = (0 : Int32))) :
    MetFree l (⟨"com/example/coretally/coretally/core/Ratio", "compareTo", "(Lcom/example/coretally/coretally/core/Ratio;)I"⟩ : MethodName) (head1 (Jvm.Cond.code (⟨"com/example/coretally/coretally/core/Ratio", "compareTo", "(Lcom/example/coretally/coretally/core/Ratio;)I"⟩ : MethodName) prog_56_method_5_code 3 (some .int) :: ws) ({ frames := 1, cells := 0, slots := 0, locals := 15 } : Room)) (fun aa_ U => aa_ = #[(.ref a), (.ref b)] ∧ Z.Warmed39 U.vm ∧ U.heap = h0) (fun _ _ _ _ _ => True) (fun _ U o U' => ∃ v L, o = .returned v ∧ Qrm5 Z a b p1 p2 q1 q2 h0 n0 v U'.heap L ∧ FrameEnd U o U' L ({ frames := 1, cells := 0, slots := 0, locals := 15 } : Room).cells ({ frames := 1, cells := 0, slots := 0, locals := 15 } : Room).slots) := by
  refine MetFree.of_bodySF (plainFor_of_name pn_1) hisR ?_
  intro p e s m args below meth c s₁ Bd hml0 hP hK
  obtain ⟨rfl, hZ, hh⟩ := hP
  have hx := Bd.exec
  have hby := Bd.bytes
  have hml : c.maxLocals = 3 := hml0
  have hown : s.vm.findClass "com/example/coretally/coretally/core/Ratio" = some m.cls := findClass_of_methodNamed Bd.named
  have hnm := (name_of_methodNamed Bd.named Bd.method).1
  have X0 : Stand p l e ({ frames := 1, cells := 0, slots := 0, locals := 15 } : Room) s m #[(.ref a), (.ref b)] below meth c s₁ [] 0 0 := Stand.of_body Bd
  have e0 : s₁.heap = h0 := by rw [← hh, Bd.state]; rfl
  have N0 := Fr.nil n0
  have pre0 : ∀ tt_, Steps p.tables e below (s₁.setTop (mkF m 0 #[.val (.ref a), .val (.ref b), .unset] [])) tt_ → Steps p.tables e below (s₁.setTop (entryFrame m #[(.ref a), (.ref b)] 3)) tt_ := fun tt_ kk_ => castTop (ef_5 m a b) kk_
  obtain ⟨T1, X1, e1, st1⟩ := getF X0 hx hZ hown (host := "") (Or.inl (hw _ (List.mem_of_getElem? (i := 19) rfl))) Via.refl e0 F_programCores_a (g := (mkF m 1 #[.val (.ref a), .val (.ref b), .unset] [(.ref a)])) rfl rfl (hb hby d5_1)
  obtain ⟨T2, X2, e2, st2⟩ := getF X1 hx hZ hown (host := "") (Or.inl (hw _ (List.mem_of_getElem? (i := 19) rfl))) Via.refl e1 F_programCores_b (g := (mkF m 5 #[.val (.ref a), .val (.ref b), .unset] [(.ref b), (.long p1)])) rfl rfl (hb hby d5_5)
  obtain ⟨_, _, ⟨T3, L3, k3, n3⟩, -, X3, ⟨Lc3, hQ3, l3, y3, z3⟩, st3⟩ := Jvm.LawKit.callS X2 hx (y := (⟨"java/lang/Long", "compare", "(JJ)I"⟩ : MethodName)) hown (mvT hZ (hw _ (List.mem_of_getElem? (i := 28) rfl))) (mvT hZ (hw _ (List.mem_of_getElem? (i := 29) rfl))) (mvT hZ (hw _ (List.mem_of_getElem? (i := 30) rfl))) (mvT hZ (hw _ (List.mem_of_getElem? (i := 31) rfl))) (by decide) (backOf (W := 0) (rm6 l Z a0 hw [] p1 p2 h0 n0 Z0 ) hZ (hw _ (List.mem_of_getElem? (i := 31) rfl)) (hw _ (List.mem_of_getElem? (i := 30) rfl)) (by decide) (by decide)) (g := (mkF m 8 #[.val (.ref a), .val (.ref b), .unset] [(.long p2), (.long p1)])) rfl (by rw [hml]; rfl) (argsL := [(.long p1), (.long p2)]) (rest := []) (lenOf pd_1 rfl) rfl (by show 2 * 0 + _ ≤ _; exact Nat.le_of_eq rfl) (hb hby d5_8) (fun _ _ => ⟨rfl, e2, (by decide : 0 + 0 ≤ _), (by decide : 0 + 0 ≤ _)⟩)
  dsimp only [Pt.U, Pt.locs, Pt.cells, Pt.slots] at X3 l3 y3 z3 st3 hQ3
  subst l3 y3 z3
  obtain ⟨rfl, N3q, e3q⟩ := hQ3
  have N3 := Fr.app N0 N3q
  obtain ⟨fs, hr, hrun, hended, hW, hsame⟩ := X3.leave (v := some (.int (own_cmp p1 p2))) (fun h => by rw [Bd.returns] at h; cases h)
  refine ⟨_, _, pre0 _ ?_, hrun, hended, _, _, rfl, ?_, ⟨_, rfl⟩, hW, hsame.mono (by decide) (by decide)⟩
  · show Steps p.tables e below (s₁.setTop (mkF m 0 #[.val (.ref a), .val (.ref b), .unset] [])) _
    refine XS.aloadN X0.here hx rfl (hb hby d5_0) rfl rfl ?_
    show Steps p.tables e below (s₁.setTop (mkF m 1 #[.val (.ref a), .val (.ref b), .unset] [(.ref a)])) _
    refine st1 _ ?_
    show Steps p.tables e below (T1.setTop (mkF m 4 #[.val (.ref a), .val (.ref b), .unset] [(.long p1)])) _
    refine XS.aloadN X1.here hx rfl (hb hby d5_4) rfl rfl ?_
    show Steps p.tables e below (T1.setTop (mkF m 5 #[.val (.ref a), .val (.ref b), .unset] [(.ref b), (.long p1)])) _
    refine st2 _ ?_
    show Steps p.tables e below (T2.setTop (mkF m 8 #[.val (.ref a), .val (.ref b), .unset] [(.long p2), (.long p1)])) _
    refine st3 _ ?_
    show Steps p.tables e below (T3.setTop (mkF m 11 #[.val (.ref a), .val (.ref b), .unset] [(.int (own_cmp p1 p2))])) _
    refine XS.istoreN X3.here hx rfl (hb hby d5_11) rfl (l' := #[.val (.ref a), .val (.ref b), .val (.int (own_cmp p1 p2))]) rfl ?_
    show Steps p.tables e below (T3.setTop (mkF m 12 #[.val (.ref a), .val (.ref b), .val (.int (own_cmp p1 p2))] [])) _
    refine XS.iloadN X3.here hx rfl (hb hby d5_12) rfl ?_
    show Steps p.tables e below (T3.setTop (mkF m 13 #[.val (.ref a), .val (.ref b), .val (.int (own_cmp p1 p2))] [(.int (own_cmp p1 p2))])) _
    refine XS.ifYes X3.here hx rfl (pc0 := 13) (pc' := 30) rfl (hb hby d5_13) rfl ((if0 _ _).trans (feq (show ¬ ((own_cmp p1 p2) = (0 : Int32)) from hc13)).2) (by decide) (by decide) ?_
    show Steps p.tables e below (T3.setTop (mkF m 30 #[.val (.ref a), .val (.ref b), .val (.int (own_cmp p1 p2))] [])) _
    refine XS.iloadN X3.here hx rfl (hb hby d5_30) rfl ?_
    show Steps p.tables e below (T3.setTop (mkF m 31 #[.val (.ref a), .val (.ref b), .val (.int (own_cmp p1 p2))] [(.int (own_cmp p1 p2))])) _
    exact retI X3 hx Bd.returns (hb hby d5_31) hr
  · show Qrm5 Z a b p1 p2 q1 q2 h0 n0 _ T3.heap _
    rw [e3q]
    exact ⟨by rw [if_neg hc13], N3, rfl⟩
theorem d5_16 : decode prog_56_method_5_code 16 = .ok (.aload_n 0, 1) := by decide +kernel
theorem d5_17 : decode prog_56_method_5_code 17 = .ok (.getfield 22, 3) := by decide +kernel
theorem d5_20 : decode prog_56_method_5_code 20 = .ok (.aload_n 1, 1) := by decide +kernel
theorem d5_21 : decode prog_56_method_5_code 21 = .ok (.getfield 22, 3) := by decide +kernel
theorem d5_24 : decode prog_56_method_5_code 24 = .ok (.invokestatic 96, 3) := by decide +kernel
theorem d5_27 : decode prog_56_method_5_code 27 = .ok (.goto 4, 3) := by decide +kernel
set_option maxRecDepth 65536 in
set_option maxHeartbeats 40000000 in
theorem rm5f (l : Launch) (Z : State) (a0 : Array Value) (hw : ∀ d ∈ tables_1, d.before a0 Z = true) (ws : List Jvm.Cond) (a : Addr) (b : Addr) (p1 : Int64) (p2 : Int64) (q1 : Int64) (q2 : Int64) (h0 : Heap) (n0 : Nat) (Z0 : n0 ≤ h0.size) (F_programCores_a : Fld Z h0 a "com/example/coretally/coretally/core/Ratio" "programCores" "J" (.long p1)) (F_programCores_b : Fld Z h0 b "com/example/coretally/coretally/core/Ratio" "programCores" "J" (.long p2)) (F_bundleCores_a : Fld Z h0 a "com/example/coretally/coretally/core/Ratio" "bundleCores" "J" (.long q1)) (F_bundleCores_b : Fld Z h0 b "com/example/coretally/coretally/core/Ratio" "bundleCores" "J" (.long q2)) (hc13 : (own_cmp p1 p2) = (0 : Int32)) :
    MetFree l (⟨"com/example/coretally/coretally/core/Ratio", "compareTo", "(Lcom/example/coretally/coretally/core/Ratio;)I"⟩ : MethodName) (head1 (Jvm.Cond.code (⟨"com/example/coretally/coretally/core/Ratio", "compareTo", "(Lcom/example/coretally/coretally/core/Ratio;)I"⟩ : MethodName) prog_56_method_5_code 3 (some .int) :: ws) ({ frames := 1, cells := 0, slots := 0, locals := 15 } : Room)) (fun aa_ U => aa_ = #[(.ref a), (.ref b)] ∧ Z.Warmed39 U.vm ∧ U.heap = h0) (fun _ _ _ _ _ => True) (fun _ U o U' => ∃ v L, o = .returned v ∧ Qrm5 Z a b p1 p2 q1 q2 h0 n0 v U'.heap L ∧ FrameEnd U o U' L ({ frames := 1, cells := 0, slots := 0, locals := 15 } : Room).cells ({ frames := 1, cells := 0, slots := 0, locals := 15 } : Room).slots) := by
  refine MetFree.of_bodySF (plainFor_of_name pn_1) hisR ?_
  intro p e s m args below meth c s₁ Bd hml0 hP hK
  obtain ⟨rfl, hZ, hh⟩ := hP
  have hx := Bd.exec
  have hby := Bd.bytes
  have hml : c.maxLocals = 3 := hml0
  have hown : s.vm.findClass "com/example/coretally/coretally/core/Ratio" = some m.cls := findClass_of_methodNamed Bd.named
  have hnm := (name_of_methodNamed Bd.named Bd.method).1
  have X0 : Stand p l e ({ frames := 1, cells := 0, slots := 0, locals := 15 } : Room) s m #[(.ref a), (.ref b)] below meth c s₁ [] 0 0 := Stand.of_body Bd
  have e0 : s₁.heap = h0 := by rw [← hh, Bd.state]; rfl
  have N0 := Fr.nil n0
  have pre0 : ∀ tt_, Steps p.tables e below (s₁.setTop (mkF m 0 #[.val (.ref a), .val (.ref b), .unset] [])) tt_ → Steps p.tables e below (s₁.setTop (entryFrame m #[(.ref a), (.ref b)] 3)) tt_ := fun tt_ kk_ => castTop (ef_5 m a b) kk_
  obtain ⟨T1, X1, e1, st1⟩ := getF X0 hx hZ hown (host := "") (Or.inl (hw _ (List.mem_of_getElem? (i := 19) rfl))) Via.refl e0 F_programCores_a (g := (mkF m 1 #[.val (.ref a), .val (.ref b), .unset] [(.ref a)])) rfl rfl (hb hby d5_1)
  obtain ⟨T2, X2, e2, st2⟩ := getF X1 hx hZ hown (host := "") (Or.inl (hw _ (List.mem_of_getElem? (i := 19) rfl))) Via.refl e1 F_programCores_b (g := (mkF m 5 #[.val (.ref a), .val (.ref b), .unset] [(.ref b), (.long p1)])) rfl rfl (hb hby d5_5)
  obtain ⟨_, _, ⟨T3, L3, k3, n3⟩, -, X3, ⟨Lc3, hQ3, l3, y3, z3⟩, st3⟩ := Jvm.LawKit.callS X2 hx (y := (⟨"java/lang/Long", "compare", "(JJ)I"⟩ : MethodName)) hown (mvT hZ (hw _ (List.mem_of_getElem? (i := 28) rfl))) (mvT hZ (hw _ (List.mem_of_getElem? (i := 29) rfl))) (mvT hZ (hw _ (List.mem_of_getElem? (i := 30) rfl))) (mvT hZ (hw _ (List.mem_of_getElem? (i := 31) rfl))) (by decide) (backOf (W := 0) (rm6 l Z a0 hw [] p1 p2 h0 n0 Z0 ) hZ (hw _ (List.mem_of_getElem? (i := 31) rfl)) (hw _ (List.mem_of_getElem? (i := 30) rfl)) (by decide) (by decide)) (g := (mkF m 8 #[.val (.ref a), .val (.ref b), .unset] [(.long p2), (.long p1)])) rfl (by rw [hml]; rfl) (argsL := [(.long p1), (.long p2)]) (rest := []) (lenOf pd_1 rfl) rfl (by show 2 * 0 + _ ≤ _; exact Nat.le_of_eq rfl) (hb hby d5_8) (fun _ _ => ⟨rfl, e2, (by decide : 0 + 0 ≤ _), (by decide : 0 + 0 ≤ _)⟩)
  dsimp only [Pt.U, Pt.locs, Pt.cells, Pt.slots] at X3 l3 y3 z3 st3 hQ3
  subst l3 y3 z3
  obtain ⟨rfl, N3q, e3q⟩ := hQ3
  have N3 := Fr.app N0 N3q
  obtain ⟨T4, X4, e4, st4⟩ := getF X3 hx hZ hown (host := "") (Or.inl (hw _ (List.mem_of_getElem? (i := 21) rfl))) Via.refl e3q F_bundleCores_a (g := (mkF m 17 #[.val (.ref a), .val (.ref b), .val (.int (own_cmp p1 p2))] [(.ref a)])) rfl rfl (hb hby d5_17)
  obtain ⟨T5, X5, e5, st5⟩ := getF X4 hx hZ hown (host := "") (Or.inl (hw _ (List.mem_of_getElem? (i := 21) rfl))) Via.refl e4 F_bundleCores_b (g := (mkF m 21 #[.val (.ref a), .val (.ref b), .val (.int (own_cmp p1 p2))] [(.ref b), (.long q1)])) rfl rfl (hb hby d5_21)
  obtain ⟨_, _, ⟨T6, L6, k6, n6⟩, -, X6, ⟨Lc6, hQ6, l6, y6, z6⟩, st6⟩ := Jvm.LawKit.callS X5 hx (y := (⟨"java/lang/Long", "compare", "(JJ)I"⟩ : MethodName)) hown (mvT hZ (hw _ (List.mem_of_getElem? (i := 28) rfl))) (mvT hZ (hw _ (List.mem_of_getElem? (i := 29) rfl))) (mvT hZ (hw _ (List.mem_of_getElem? (i := 30) rfl))) (mvT hZ (hw _ (List.mem_of_getElem? (i := 31) rfl))) (by decide) (backOf (W := 0) (rm6 l Z a0 hw [] q1 q2 h0 n0 Z0 ) hZ (hw _ (List.mem_of_getElem? (i := 31) rfl)) (hw _ (List.mem_of_getElem? (i := 30) rfl)) (by decide) (by decide)) (g := (mkF m 24 #[.val (.ref a), .val (.ref b), .val (.int (own_cmp p1 p2))] [(.long q2), (.long q1)])) rfl (by rw [hml]; rfl) (argsL := [(.long q1), (.long q2)]) (rest := []) (lenOf pd_1 rfl) rfl (by show 2 * 0 + _ ≤ _; exact Nat.le_of_eq rfl) (hb hby d5_24) (fun _ _ => ⟨rfl, e5, (by decide : 0 + 0 ≤ _), (by decide : 0 + 0 ≤ _)⟩)
  dsimp only [Pt.U, Pt.locs, Pt.cells, Pt.slots] at X6 l6 y6 z6 st6 hQ6
  subst l6 y6 z6
  obtain ⟨rfl, N6q, e6q⟩ := hQ6
  have N6 := Fr.app N3 N6q
  obtain ⟨fs, hr, hrun, hended, hW, hsame⟩ := X6.leave (v := some (.int (own_cmp q1 q2))) (fun h => by rw [Bd.returns] at h; cases h)
  refine ⟨_, _, pre0 _ ?_, hrun, hended, _, _, rfl, ?_, ⟨_, rfl⟩, hW, hsame.mono (by decide) (by decide)⟩
  · show Steps p.tables e below (s₁.setTop (mkF m 0 #[.val (.ref a), .val (.ref b), .unset] [])) _
    refine XS.aloadN X0.here hx rfl (hb hby d5_0) rfl rfl ?_
    show Steps p.tables e below (s₁.setTop (mkF m 1 #[.val (.ref a), .val (.ref b), .unset] [(.ref a)])) _
    refine st1 _ ?_
    show Steps p.tables e below (T1.setTop (mkF m 4 #[.val (.ref a), .val (.ref b), .unset] [(.long p1)])) _
    refine XS.aloadN X1.here hx rfl (hb hby d5_4) rfl rfl ?_
    show Steps p.tables e below (T1.setTop (mkF m 5 #[.val (.ref a), .val (.ref b), .unset] [(.ref b), (.long p1)])) _
    refine st2 _ ?_
    show Steps p.tables e below (T2.setTop (mkF m 8 #[.val (.ref a), .val (.ref b), .unset] [(.long p2), (.long p1)])) _
    refine st3 _ ?_
    show Steps p.tables e below (T3.setTop (mkF m 11 #[.val (.ref a), .val (.ref b), .unset] [(.int (own_cmp p1 p2))])) _
    refine XS.istoreN X3.here hx rfl (hb hby d5_11) rfl (l' := #[.val (.ref a), .val (.ref b), .val (.int (own_cmp p1 p2))]) rfl ?_
    show Steps p.tables e below (T3.setTop (mkF m 12 #[.val (.ref a), .val (.ref b), .val (.int (own_cmp p1 p2))] [])) _
    refine XS.iloadN X3.here hx rfl (hb hby d5_12) rfl ?_
    show Steps p.tables e below (T3.setTop (mkF m 13 #[.val (.ref a), .val (.ref b), .val (.int (own_cmp p1 p2))] [(.int (own_cmp p1 p2))])) _
    refine XS.ifNo X3.here hx rfl (hb hby d5_13) rfl ((if0 _ _).trans (teq (show (own_cmp p1 p2) = (0 : Int32) from hc13)).2) ?_
    show Steps p.tables e below (T3.setTop (mkF m 16 #[.val (.ref a), .val (.ref b), .val (.int (own_cmp p1 p2))] [])) _
    refine XS.aloadN X3.here hx rfl (hb hby d5_16) rfl rfl ?_
    show Steps p.tables e below (T3.setTop (mkF m 17 #[.val (.ref a), .val (.ref b), .val (.int (own_cmp p1 p2))] [(.ref a)])) _
    refine st4 _ ?_
    show Steps p.tables e below (T4.setTop (mkF m 20 #[.val (.ref a), .val (.ref b), .val (.int (own_cmp p1 p2))] [(.long q1)])) _
    refine XS.aloadN X4.here hx rfl (hb hby d5_20) rfl rfl ?_
    show Steps p.tables e below (T4.setTop (mkF m 21 #[.val (.ref a), .val (.ref b), .val (.int (own_cmp p1 p2))] [(.ref b), (.long q1)])) _
    refine st5 _ ?_
    show Steps p.tables e below (T5.setTop (mkF m 24 #[.val (.ref a), .val (.ref b), .val (.int (own_cmp p1 p2))] [(.long q2), (.long q1)])) _
    refine st6 _ ?_
    show Steps p.tables e below (T6.setTop (mkF m 27 #[.val (.ref a), .val (.ref b), .val (.int (own_cmp p1 p2))] [(.int (own_cmp q1 q2))])) _
    refine XS.goto X6.here hx rfl (pc0 := 27) (pc' := 31) rfl (hb hby d5_27) (by decide) (by decide) ?_
    show Steps p.tables e below (T6.setTop (mkF m 31 #[.val (.ref a), .val (.ref b), .val (.int (own_cmp p1 p2))] [(.int (own_cmp q1 q2))])) _
    exact retI X6 hx Bd.returns (hb hby d5_31) hr
  · show Qrm5 Z a b p1 p2 q1 q2 h0 n0 _ T6.heap _
    rw [e6q]
    exact ⟨by rw [if_pos hc13], N6, rfl⟩
theorem rm5 (l : Launch) (Z : State) (a0 : Array Value) (hw : ∀ d ∈ tables_1, d.before a0 Z = true) (ws : List Jvm.Cond) (a : Addr) (b : Addr) (p1 : Int64) (p2 : Int64) (q1 : Int64) (q2 : Int64) (h0 : Heap) (n0 : Nat) (Z0 : n0 ≤ h0.size) (F_programCores_a : Fld Z h0 a "com/example/coretally/coretally/core/Ratio" "programCores" "J" (.long p1)) (F_programCores_b : Fld Z h0 b "com/example/coretally/coretally/core/Ratio" "programCores" "J" (.long p2)) (F_bundleCores_a : Fld Z h0 a "com/example/coretally/coretally/core/Ratio" "bundleCores" "J" (.long q1)) (F_bundleCores_b : Fld Z h0 b "com/example/coretally/coretally/core/Ratio" "bundleCores" "J" (.long q2)) :
    MetFree l (⟨"com/example/coretally/coretally/core/Ratio", "compareTo", "(Lcom/example/coretally/coretally/core/Ratio;)I"⟩ : MethodName) (head1 (Jvm.Cond.code (⟨"com/example/coretally/coretally/core/Ratio", "compareTo", "(Lcom/example/coretally/coretally/core/Ratio;)I"⟩ : MethodName) prog_56_method_5_code 3 (some .int) :: ws) ({ frames := 1, cells := 0, slots := 0, locals := 15 } : Room)) (fun aa_ U => aa_ = #[(.ref a), (.ref b)] ∧ Z.Warmed39 U.vm ∧ U.heap = h0) (fun _ _ _ _ _ => True) (fun _ U o U' => ∃ v L, o = .returned v ∧ Qrm5 Z a b p1 p2 q1 q2 h0 n0 v U'.heap L ∧ FrameEnd U o U' L ({ frames := 1, cells := 0, slots := 0, locals := 15 } : Room).cells ({ frames := 1, cells := 0, slots := 0, locals := 15 } : Room).slots) := by
  by_cases h : own_cmp p1 p2 = 0
  · exact rm5f l Z a0 hw ws a b p1 p2 q1 q2 h0 n0 Z0 F_programCores_a F_programCores_b F_bundleCores_a F_bundleCores_b h
  · exact rm5t l Z a0 hw ws a b p1 p2 q1 q2 h0 n0 Z0 F_programCores_a F_programCores_b F_bundleCores_a F_bundleCores_b h
theorem pd_2 : parseMethodDescriptor "(JJI)J" = some ⟨[.long, .long, .int], some .long⟩ := by decide +kernel
theorem ef_0 (m : MethodId) (x0 : Int64) (x1 : Int64) (x2 : Int64) (x3 : Int64) (x4 : Int32) : entryFrame m #[(.long x0), (.long x1), (.long x2), (.long x3), (.int x4)] maxLocals = mkF m 0 #[.val (.long x0), .second, .val (.long x1), .second, .val (.long x2), .second, .val (.long x3), .second, .val (.int x4), .unset, .unset, .unset, .unset, .unset, .unset, .unset, .unset, .unset, .unset, .unset, .unset, .unset] [] := by first | (simp [entryFrame, mkF, argsToLocals, Value.category, maxLocals]; done) | rfl
def Qrm0 (Z : State) (p1 : Int64) (p2 : Int64) (p3 : Int64) (p4 : Int64) (p5 : Int32) (h0 : Heap) (n0 : Nat) (v : Option Value) (h : Heap) (L : List Loc) : Prop := v = some (.int (1 : Int32)) ∧ Fr n0 L
set_option maxRecDepth 65536 in
set_option maxHeartbeats 40000000 in
theorem rm0A (l : Launch) (Z : State) (a0 : Array Value) (hw : ∀ d ∈ tables_1, d.before a0 Z = true) (ws : List Jvm.Cond) (p1 : Int64) (p2 : Int64) (p3 : Int64) (p4 : Int64) (p5 : Int32) (h0 : Heap) (n0 : Nat) (Z0 : n0 ≤ h0.size) (hc42 : (lcmpW (p1 &&& (9223372036854775807 : Int64)) (0 : Int64)) = (0 : Int32)) :
    MetFree l x (head1 (Jvm.Cond.code x code maxLocals ret :: ws) room_1) (fun aa_ U => aa_ = #[(.long p1), (.long p2), (.long p3), (.long p4), (.int p5)] ∧ Z.Warmed39 U.vm ∧ U.heap = h0) (fun _ _ _ _ _ => True) (fun _ U o U' => ∃ v L, o = .returned v ∧ Qrm0 Z p1 p2 p3 p4 p5 h0 n0 v U'.heap L ∧ FrameEnd U o U' L room_1.cells room_1.slots) := by
  refine MetFree.of_bodySF (plainFor_of_name pn_3) hisR ?_
  intro p e s m args below meth c s₁ Bd hml0 hP hK
  obtain ⟨rfl, hZ, hh⟩ := hP
  have hx := Bd.exec
  have hby := Bd.bytes
  have hml : c.maxLocals = 22 := hml0
  have hown : s.vm.findClass "com/example/coretally/coretally/core/RatioCompareToPinLaw" = some m.cls := findClass_of_methodNamed Bd.named
  have hnm := (name_of_methodNamed Bd.named Bd.method).1
  have X0 : Stand p l e room_1 s m #[(.long p1), (.long p2), (.long p3), (.long p4), (.int p5)] below meth c s₁ [] 0 0 := Stand.of_body Bd
  have e0 : s₁.heap = h0 := by rw [← hh, Bd.state]; rfl
  have N0 := Fr.nil n0
  have pre0 : ∀ tt_, Steps p.tables e below (s₁.setTop (mkF m 0 #[.val (.long p1), .second, .val (.long p2), .second, .val (.long p3), .second, .val (.long p4), .second, .val (.int p5), .unset, .unset, .unset, .unset, .unset, .unset, .unset, .unset, .unset, .unset, .unset, .unset, .unset] [])) tt_ → Steps p.tables e below (s₁.setTop (entryFrame m #[(.long p1), (.long p2), (.long p3), (.long p4), (.int p5)] maxLocals)) tt_ := fun tt_ kk_ => castTop (ef_0 m p1 p2 p3 p4 p5) kk_
  obtain ⟨_, _, ⟨T1, L1, k1, n1⟩, -, X1, ⟨Lc1, hQ1, l1, y1, z1⟩, st1⟩ := Jvm.LawKit.callS X0 hx (y := (⟨"com/example/coretally/coretally/core/RatioCompareToPinLaw", "pick", "(JJI)J"⟩ : MethodName)) hown (mvT hZ (hw _ (List.mem_of_getElem? (i := 1) rfl))) (mvT hZ (hw _ (List.mem_of_getElem? (i := 2) rfl))) (mvT hZ (hw _ (List.mem_of_getElem? (i := 3) rfl))) (mvT hZ (hw _ (List.mem_of_getElem? (i := 4) rfl))) (by decide) (backOf (W := 0) (rm1 l Z a0 hw [] (p1 &&& (9223372036854775807 : Int64)) p3 p5 h0 n0 Z0 ) hZ (hw _ (List.mem_of_getElem? (i := 4) rfl)) (hw _ (List.mem_of_getElem? (i := 3) rfl)) (by decide) (by decide)) (g := (mkF m 20 #[.val (.long p1), .second, .val (.long p2), .second, .val (.long p3), .second, .val (.long p4), .second, .val (.int p5), .val (.long (p1 &&& (9223372036854775807 : Int64))), .second, .val (.long (p2 &&& (9223372036854775807 : Int64))), .second, .unset, .unset, .unset, .unset, .unset, .unset, .unset, .unset, .unset] [(.int p5), (.long p3), (.long (p1 &&& (9223372036854775807 : Int64)))])) rfl (by rw [hml]; rfl) (argsL := [(.long (p1 &&& (9223372036854775807 : Int64))), (.long p3), (.int p5)]) (rest := []) (lenOf pd_2 rfl) rfl (by show 2 * 0 + _ ≤ _; exact Nat.le_of_eq rfl) (hb hby at_20) (fun _ _ => ⟨rfl, e0, (by decide : 0 + 0 ≤ _), (by decide : 0 + 0 ≤ _)⟩)
  dsimp only [Pt.U, Pt.locs, Pt.cells, Pt.slots] at X1 l1 y1 z1 st1 hQ1
  subst l1 y1 z1
  obtain ⟨rfl, N1q, e1q⟩ := hQ1
  have N1 := Fr.app N0 N1q
  obtain ⟨_, _, ⟨T2, L2, k2, n2⟩, -, X2, ⟨Lc2, hQ2, l2, y2, z2⟩, st2⟩ := Jvm.LawKit.callS X1 hx (y := (⟨"com/example/coretally/coretally/core/RatioCompareToPinLaw", "pick", "(JJI)J"⟩ : MethodName)) hown (mvT hZ (hw _ (List.mem_of_getElem? (i := 1) rfl))) (mvT hZ (hw _ (List.mem_of_getElem? (i := 2) rfl))) (mvT hZ (hw _ (List.mem_of_getElem? (i := 3) rfl))) (mvT hZ (hw _ (List.mem_of_getElem? (i := 4) rfl))) (by decide) (backOf (W := 0) (rm1 l Z a0 hw [] (p2 &&& (9223372036854775807 : Int64)) p4 ((p5.toUInt32 >>> ((2 : Int32) &&& 31).toUInt32).toInt32) h0 n0 Z0 ) hZ (hw _ (List.mem_of_getElem? (i := 4) rfl)) (hw _ (List.mem_of_getElem? (i := 3) rfl)) (by decide) (by decide)) (g := (mkF m 33 #[.val (.long p1), .second, .val (.long p2), .second, .val (.long p3), .second, .val (.long p4), .second, .val (.int p5), .val (.long (p1 &&& (9223372036854775807 : Int64))), .second, .val (.long (p2 &&& (9223372036854775807 : Int64))), .second, .val (.long (own_pick (p1 &&& (9223372036854775807 : Int64)) p3 p5)), .second, .unset, .unset, .unset, .unset, .unset, .unset, .unset] [(.int ((p5.toUInt32 >>> ((2 : Int32) &&& 31).toUInt32).toInt32)), (.long p4), (.long (p2 &&& (9223372036854775807 : Int64)))])) rfl (by rw [hml]; rfl) (argsL := [(.long (p2 &&& (9223372036854775807 : Int64))), (.long p4), (.int ((p5.toUInt32 >>> ((2 : Int32) &&& 31).toUInt32).toInt32))]) (rest := []) (lenOf pd_2 rfl) rfl (by show 2 * 0 + _ ≤ _; exact Nat.le_of_eq rfl) (hb hby at_33) (fun _ _ => ⟨rfl, e1q, (by decide : 0 + 0 ≤ _), (by decide : 0 + 0 ≤ _)⟩)
  dsimp only [Pt.U, Pt.locs, Pt.cells, Pt.slots] at X2 l2 y2 z2 st2 hQ2
  subst l2 y2 z2
  obtain ⟨rfl, N2q, e2q⟩ := hQ2
  have N2 := Fr.app N1 N2q
  obtain ⟨fs, hr, hrun, hended, hW, hsame⟩ := X2.leave (v := some (.int (1 : Int32))) (fun h => by rw [Bd.returns] at h; cases h)
  refine ⟨_, _, pre0 _ ?_, hrun, hended, _, _, rfl, ?_, ⟨_, rfl⟩, hW, hsame.mono (by decide) (by decide)⟩
  · show Steps p.tables e below (s₁.setTop (mkF m 0 #[.val (.long p1), .second, .val (.long p2), .second, .val (.long p3), .second, .val (.long p4), .second, .val (.int p5), .unset, .unset, .unset, .unset, .unset, .unset, .unset, .unset, .unset, .unset, .unset, .unset, .unset] [])) _
    refine XS.lloadN X0.here hx rfl (hb hby at_0) rfl ?_
    show Steps p.tables e below (s₁.setTop (mkF m 1 #[.val (.long p1), .second, .val (.long p2), .second, .val (.long p3), .second, .val (.long p4), .second, .val (.int p5), .unset, .unset, .unset, .unset, .unset, .unset, .unset, .unset, .unset, .unset, .unset, .unset, .unset] [(.long p1)])) _
    refine X0.ldc2Long hx hown (mvT hZ (hw _ (List.mem_of_getElem? (i := 0) rfl))) (g := (mkF m 1 #[.val (.long p1), .second, .val (.long p2), .second, .val (.long p3), .second, .val (.long p4), .second, .val (.int p5), .unset, .unset, .unset, .unset, .unset, .unset, .unset, .unset, .unset, .unset, .unset, .unset, .unset] [(.long p1)])) rfl (hb hby at_1) _ ?_
    show Steps p.tables e below (s₁.setTop (mkF m 4 #[.val (.long p1), .second, .val (.long p2), .second, .val (.long p3), .second, .val (.long p4), .second, .val (.int p5), .unset, .unset, .unset, .unset, .unset, .unset, .unset, .unset, .unset, .unset, .unset, .unset, .unset] [(.long (9223372036854775807 : Int64)), (.long p1)])) _
    refine XS.land X0.here hx rfl (hb hby at_4) rfl ?_
    show Steps p.tables e below (s₁.setTop (mkF m 5 #[.val (.long p1), .second, .val (.long p2), .second, .val (.long p3), .second, .val (.long p4), .second, .val (.int p5), .unset, .unset, .unset, .unset, .unset, .unset, .unset, .unset, .unset, .unset, .unset, .unset, .unset] [(.long (p1 &&& (9223372036854775807 : Int64)))])) _
    refine XS.lstore X0.here hx rfl (hb hby at_5) rfl (l' := #[.val (.long p1), .second, .val (.long p2), .second, .val (.long p3), .second, .val (.long p4), .second, .val (.int p5), .val (.long (p1 &&& (9223372036854775807 : Int64))), .second, .unset, .unset, .unset, .unset, .unset, .unset, .unset, .unset, .unset, .unset, .unset]) rfl ?_
    show Steps p.tables e below (s₁.setTop (mkF m 7 #[.val (.long p1), .second, .val (.long p2), .second, .val (.long p3), .second, .val (.long p4), .second, .val (.int p5), .val (.long (p1 &&& (9223372036854775807 : Int64))), .second, .unset, .unset, .unset, .unset, .unset, .unset, .unset, .unset, .unset, .unset, .unset] [])) _
    refine XS.lloadN X0.here hx rfl (hb hby at_7) rfl ?_
    show Steps p.tables e below (s₁.setTop (mkF m 8 #[.val (.long p1), .second, .val (.long p2), .second, .val (.long p3), .second, .val (.long p4), .second, .val (.int p5), .val (.long (p1 &&& (9223372036854775807 : Int64))), .second, .unset, .unset, .unset, .unset, .unset, .unset, .unset, .unset, .unset, .unset, .unset] [(.long p2)])) _
    refine X0.ldc2Long hx hown (mvT hZ (hw _ (List.mem_of_getElem? (i := 0) rfl))) (g := (mkF m 8 #[.val (.long p1), .second, .val (.long p2), .second, .val (.long p3), .second, .val (.long p4), .second, .val (.int p5), .val (.long (p1 &&& (9223372036854775807 : Int64))), .second, .unset, .unset, .unset, .unset, .unset, .unset, .unset, .unset, .unset, .unset, .unset] [(.long p2)])) rfl (hb hby at_8) _ ?_
    show Steps p.tables e below (s₁.setTop (mkF m 11 #[.val (.long p1), .second, .val (.long p2), .second, .val (.long p3), .second, .val (.long p4), .second, .val (.int p5), .val (.long (p1 &&& (9223372036854775807 : Int64))), .second, .unset, .unset, .unset, .unset, .unset, .unset, .unset, .unset, .unset, .unset, .unset] [(.long (9223372036854775807 : Int64)), (.long p2)])) _
    refine XS.land X0.here hx rfl (hb hby at_11) rfl ?_
    show Steps p.tables e below (s₁.setTop (mkF m 12 #[.val (.long p1), .second, .val (.long p2), .second, .val (.long p3), .second, .val (.long p4), .second, .val (.int p5), .val (.long (p1 &&& (9223372036854775807 : Int64))), .second, .unset, .unset, .unset, .unset, .unset, .unset, .unset, .unset, .unset, .unset, .unset] [(.long (p2 &&& (9223372036854775807 : Int64)))])) _
    refine XS.lstore X0.here hx rfl (hb hby at_12) rfl (l' := #[.val (.long p1), .second, .val (.long p2), .second, .val (.long p3), .second, .val (.long p4), .second, .val (.int p5), .val (.long (p1 &&& (9223372036854775807 : Int64))), .second, .val (.long (p2 &&& (9223372036854775807 : Int64))), .second, .unset, .unset, .unset, .unset, .unset, .unset, .unset, .unset, .unset]) rfl ?_
    show Steps p.tables e below (s₁.setTop (mkF m 14 #[.val (.long p1), .second, .val (.long p2), .second, .val (.long p3), .second, .val (.long p4), .second, .val (.int p5), .val (.long (p1 &&& (9223372036854775807 : Int64))), .second, .val (.long (p2 &&& (9223372036854775807 : Int64))), .second, .unset, .unset, .unset, .unset, .unset, .unset, .unset, .unset, .unset] [])) _
    refine XS.lload X0.here hx rfl (hb hby at_14) rfl ?_
    show Steps p.tables e below (s₁.setTop (mkF m 16 #[.val (.long p1), .second, .val (.long p2), .second, .val (.long p3), .second, .val (.long p4), .second, .val (.int p5), .val (.long (p1 &&& (9223372036854775807 : Int64))), .second, .val (.long (p2 &&& (9223372036854775807 : Int64))), .second, .unset, .unset, .unset, .unset, .unset, .unset, .unset, .unset, .unset] [(.long (p1 &&& (9223372036854775807 : Int64)))])) _
    refine XS.lload X0.here hx rfl (hb hby at_16) rfl ?_
    show Steps p.tables e below (s₁.setTop (mkF m 18 #[.val (.long p1), .second, .val (.long p2), .second, .val (.long p3), .second, .val (.long p4), .second, .val (.int p5), .val (.long (p1 &&& (9223372036854775807 : Int64))), .second, .val (.long (p2 &&& (9223372036854775807 : Int64))), .second, .unset, .unset, .unset, .unset, .unset, .unset, .unset, .unset, .unset] [(.long p3), (.long (p1 &&& (9223372036854775807 : Int64)))])) _
    refine XS.iload X0.here hx rfl (hb hby at_18) rfl ?_
    show Steps p.tables e below (s₁.setTop (mkF m 20 #[.val (.long p1), .second, .val (.long p2), .second, .val (.long p3), .second, .val (.long p4), .second, .val (.int p5), .val (.long (p1 &&& (9223372036854775807 : Int64))), .second, .val (.long (p2 &&& (9223372036854775807 : Int64))), .second, .unset, .unset, .unset, .unset, .unset, .unset, .unset, .unset, .unset] [(.int p5), (.long p3), (.long (p1 &&& (9223372036854775807 : Int64)))])) _
    refine st1 _ ?_
    show Steps p.tables e below (T1.setTop (mkF m 23 #[.val (.long p1), .second, .val (.long p2), .second, .val (.long p3), .second, .val (.long p4), .second, .val (.int p5), .val (.long (p1 &&& (9223372036854775807 : Int64))), .second, .val (.long (p2 &&& (9223372036854775807 : Int64))), .second, .unset, .unset, .unset, .unset, .unset, .unset, .unset, .unset, .unset] [(.long (own_pick (p1 &&& (9223372036854775807 : Int64)) p3 p5))])) _
    refine XS.lstore X1.here hx rfl (hb hby at_23) rfl (l' := #[.val (.long p1), .second, .val (.long p2), .second, .val (.long p3), .second, .val (.long p4), .second, .val (.int p5), .val (.long (p1 &&& (9223372036854775807 : Int64))), .second, .val (.long (p2 &&& (9223372036854775807 : Int64))), .second, .val (.long (own_pick (p1 &&& (9223372036854775807 : Int64)) p3 p5)), .second, .unset, .unset, .unset, .unset, .unset, .unset, .unset]) rfl ?_
    show Steps p.tables e below (T1.setTop (mkF m 25 #[.val (.long p1), .second, .val (.long p2), .second, .val (.long p3), .second, .val (.long p4), .second, .val (.int p5), .val (.long (p1 &&& (9223372036854775807 : Int64))), .second, .val (.long (p2 &&& (9223372036854775807 : Int64))), .second, .val (.long (own_pick (p1 &&& (9223372036854775807 : Int64)) p3 p5)), .second, .unset, .unset, .unset, .unset, .unset, .unset, .unset] [])) _
    refine XS.lload X1.here hx rfl (hb hby at_25) rfl ?_
    show Steps p.tables e below (T1.setTop (mkF m 27 #[.val (.long p1), .second, .val (.long p2), .second, .val (.long p3), .second, .val (.long p4), .second, .val (.int p5), .val (.long (p1 &&& (9223372036854775807 : Int64))), .second, .val (.long (p2 &&& (9223372036854775807 : Int64))), .second, .val (.long (own_pick (p1 &&& (9223372036854775807 : Int64)) p3 p5)), .second, .unset, .unset, .unset, .unset, .unset, .unset, .unset] [(.long (p2 &&& (9223372036854775807 : Int64)))])) _
    refine XS.lload X1.here hx rfl (hb hby at_27) rfl ?_
    show Steps p.tables e below (T1.setTop (mkF m 29 #[.val (.long p1), .second, .val (.long p2), .second, .val (.long p3), .second, .val (.long p4), .second, .val (.int p5), .val (.long (p1 &&& (9223372036854775807 : Int64))), .second, .val (.long (p2 &&& (9223372036854775807 : Int64))), .second, .val (.long (own_pick (p1 &&& (9223372036854775807 : Int64)) p3 p5)), .second, .unset, .unset, .unset, .unset, .unset, .unset, .unset] [(.long p4), (.long (p2 &&& (9223372036854775807 : Int64)))])) _
    refine XS.iload X1.here hx rfl (hb hby at_29) rfl ?_
    show Steps p.tables e below (T1.setTop (mkF m 31 #[.val (.long p1), .second, .val (.long p2), .second, .val (.long p3), .second, .val (.long p4), .second, .val (.int p5), .val (.long (p1 &&& (9223372036854775807 : Int64))), .second, .val (.long (p2 &&& (9223372036854775807 : Int64))), .second, .val (.long (own_pick (p1 &&& (9223372036854775807 : Int64)) p3 p5)), .second, .unset, .unset, .unset, .unset, .unset, .unset, .unset] [(.int p5), (.long p4), (.long (p2 &&& (9223372036854775807 : Int64)))])) _
    refine XS.iconst X1.here hx rfl (hb hby at_31) ?_
    show Steps p.tables e below (T1.setTop (mkF m 32 #[.val (.long p1), .second, .val (.long p2), .second, .val (.long p3), .second, .val (.long p4), .second, .val (.int p5), .val (.long (p1 &&& (9223372036854775807 : Int64))), .second, .val (.long (p2 &&& (9223372036854775807 : Int64))), .second, .val (.long (own_pick (p1 &&& (9223372036854775807 : Int64)) p3 p5)), .second, .unset, .unset, .unset, .unset, .unset, .unset, .unset] [(.int (2 : Int32)), (.int p5), (.long p4), (.long (p2 &&& (9223372036854775807 : Int64)))])) _
    refine XS.iushr X1.here hx rfl (hb hby at_32) rfl ?_
    show Steps p.tables e below (T1.setTop (mkF m 33 #[.val (.long p1), .second, .val (.long p2), .second, .val (.long p3), .second, .val (.long p4), .second, .val (.int p5), .val (.long (p1 &&& (9223372036854775807 : Int64))), .second, .val (.long (p2 &&& (9223372036854775807 : Int64))), .second, .val (.long (own_pick (p1 &&& (9223372036854775807 : Int64)) p3 p5)), .second, .unset, .unset, .unset, .unset, .unset, .unset, .unset] [(.int ((p5.toUInt32 >>> ((2 : Int32) &&& 31).toUInt32).toInt32)), (.long p4), (.long (p2 &&& (9223372036854775807 : Int64)))])) _
    refine st2 _ ?_
    show Steps p.tables e below (T2.setTop (mkF m 36 #[.val (.long p1), .second, .val (.long p2), .second, .val (.long p3), .second, .val (.long p4), .second, .val (.int p5), .val (.long (p1 &&& (9223372036854775807 : Int64))), .second, .val (.long (p2 &&& (9223372036854775807 : Int64))), .second, .val (.long (own_pick (p1 &&& (9223372036854775807 : Int64)) p3 p5)), .second, .unset, .unset, .unset, .unset, .unset, .unset, .unset] [(.long (own_pick (p2 &&& (9223372036854775807 : Int64)) p4 ((p5.toUInt32 >>> ((2 : Int32) &&& 31).toUInt32).toInt32)))])) _
    refine XS.lstore X2.here hx rfl (hb hby at_36) rfl (l' := #[.val (.long p1), .second, .val (.long p2), .second, .val (.long p3), .second, .val (.long p4), .second, .val (.int p5), .val (.long (p1 &&& (9223372036854775807 : Int64))), .second, .val (.long (p2 &&& (9223372036854775807 : Int64))), .second, .val (.long (own_pick (p1 &&& (9223372036854775807 : Int64)) p3 p5)), .second, .val (.long (own_pick (p2 &&& (9223372036854775807 : Int64)) p4 ((p5.toUInt32 >>> ((2 : Int32) &&& 31).toUInt32).toInt32))), .second, .unset, .unset, .unset, .unset, .unset]) rfl ?_
    show Steps p.tables e below (T2.setTop (mkF m 38 #[.val (.long p1), .second, .val (.long p2), .second, .val (.long p3), .second, .val (.long p4), .second, .val (.int p5), .val (.long (p1 &&& (9223372036854775807 : Int64))), .second, .val (.long (p2 &&& (9223372036854775807 : Int64))), .second, .val (.long (own_pick (p1 &&& (9223372036854775807 : Int64)) p3 p5)), .second, .val (.long (own_pick (p2 &&& (9223372036854775807 : Int64)) p4 ((p5.toUInt32 >>> ((2 : Int32) &&& 31).toUInt32).toInt32))), .second, .unset, .unset, .unset, .unset, .unset] [])) _
    refine XS.lload X2.here hx rfl (hb hby at_38) rfl ?_
    show Steps p.tables e below (T2.setTop (mkF m 40 #[.val (.long p1), .second, .val (.long p2), .second, .val (.long p3), .second, .val (.long p4), .second, .val (.int p5), .val (.long (p1 &&& (9223372036854775807 : Int64))), .second, .val (.long (p2 &&& (9223372036854775807 : Int64))), .second, .val (.long (own_pick (p1 &&& (9223372036854775807 : Int64)) p3 p5)), .second, .val (.long (own_pick (p2 &&& (9223372036854775807 : Int64)) p4 ((p5.toUInt32 >>> ((2 : Int32) &&& 31).toUInt32).toInt32))), .second, .unset, .unset, .unset, .unset, .unset] [(.long (p1 &&& (9223372036854775807 : Int64)))])) _
    refine XS.lconst X2.here hx rfl (hb hby at_40) ?_
    show Steps p.tables e below (T2.setTop (mkF m 41 #[.val (.long p1), .second, .val (.long p2), .second, .val (.long p3), .second, .val (.long p4), .second, .val (.int p5), .val (.long (p1 &&& (9223372036854775807 : Int64))), .second, .val (.long (p2 &&& (9223372036854775807 : Int64))), .second, .val (.long (own_pick (p1 &&& (9223372036854775807 : Int64)) p3 p5)), .second, .val (.long (own_pick (p2 &&& (9223372036854775807 : Int64)) p4 ((p5.toUInt32 >>> ((2 : Int32) &&& 31).toUInt32).toInt32))), .second, .unset, .unset, .unset, .unset, .unset] [(.long (0 : Int64)), (.long (p1 &&& (9223372036854775807 : Int64)))])) _
    refine XS.lcmp X2.here hx rfl (hb hby at_41) rfl ?_
    show Steps p.tables e below (T2.setTop (mkF m 42 #[.val (.long p1), .second, .val (.long p2), .second, .val (.long p3), .second, .val (.long p4), .second, .val (.int p5), .val (.long (p1 &&& (9223372036854775807 : Int64))), .second, .val (.long (p2 &&& (9223372036854775807 : Int64))), .second, .val (.long (own_pick (p1 &&& (9223372036854775807 : Int64)) p3 p5)), .second, .val (.long (own_pick (p2 &&& (9223372036854775807 : Int64)) p4 ((p5.toUInt32 >>> ((2 : Int32) &&& 31).toUInt32).toInt32))), .second, .unset, .unset, .unset, .unset, .unset] [(.int (lcmpW (p1 &&& (9223372036854775807 : Int64)) (0 : Int64)))])) _
    refine XS.ifYes X2.here hx rfl (pc0 := 42) (pc' := 66) rfl (hb hby at_42) rfl ((if0 _ _).trans (teq (show (lcmpW (p1 &&& (9223372036854775807 : Int64)) (0 : Int64)) = (0 : Int32) from hc42)).1) (by decide) (by decide) ?_
    show Steps p.tables e below (T2.setTop (mkF m 66 #[.val (.long p1), .second, .val (.long p2), .second, .val (.long p3), .second, .val (.long p4), .second, .val (.int p5), .val (.long (p1 &&& (9223372036854775807 : Int64))), .second, .val (.long (p2 &&& (9223372036854775807 : Int64))), .second, .val (.long (own_pick (p1 &&& (9223372036854775807 : Int64)) p3 p5)), .second, .val (.long (own_pick (p2 &&& (9223372036854775807 : Int64)) p4 ((p5.toUInt32 >>> ((2 : Int32) &&& 31).toUInt32).toInt32))), .second, .unset, .unset, .unset, .unset, .unset] [])) _
    refine XS.iconst X2.here hx rfl (hb hby at_66) ?_
    show Steps p.tables e below (T2.setTop (mkF m 67 #[.val (.long p1), .second, .val (.long p2), .second, .val (.long p3), .second, .val (.long p4), .second, .val (.int p5), .val (.long (p1 &&& (9223372036854775807 : Int64))), .second, .val (.long (p2 &&& (9223372036854775807 : Int64))), .second, .val (.long (own_pick (p1 &&& (9223372036854775807 : Int64)) p3 p5)), .second, .val (.long (own_pick (p2 &&& (9223372036854775807 : Int64)) p4 ((p5.toUInt32 >>> ((2 : Int32) &&& 31).toUInt32).toInt32))), .second, .unset, .unset, .unset, .unset, .unset] [(.int (1 : Int32))])) _
    exact retN X2 hx (t := .boolean) Bd.returns (by simp) (hb hby at_67) hr
  · show Qrm0 Z p1 p2 p3 p4 p5 h0 n0 _ T2.heap _
    rw [e2q]
    exact ⟨rfl, N2⟩
set_option maxRecDepth 65536 in
set_option maxHeartbeats 40000000 in
theorem rm0B (l : Launch) (Z : State) (a0 : Array Value) (hw : ∀ d ∈ tables_1, d.before a0 Z = true) (ws : List Jvm.Cond) (p1 : Int64) (p2 : Int64) (p3 : Int64) (p4 : Int64) (p5 : Int32) (h0 : Heap) (n0 : Nat) (Z0 : n0 ≤ h0.size) (hc42 : ¬ ((lcmpW (p1 &&& (9223372036854775807 : Int64)) (0 : Int64)) = (0 : Int32))) (hc49 : (lcmpW (p2 &&& (9223372036854775807 : Int64)) (0 : Int64)) = (0 : Int32)) :
    MetFree l x (head1 (Jvm.Cond.code x code maxLocals ret :: ws) room_1) (fun aa_ U => aa_ = #[(.long p1), (.long p2), (.long p3), (.long p4), (.int p5)] ∧ Z.Warmed39 U.vm ∧ U.heap = h0) (fun _ _ _ _ _ => True) (fun _ U o U' => ∃ v L, o = .returned v ∧ Qrm0 Z p1 p2 p3 p4 p5 h0 n0 v U'.heap L ∧ FrameEnd U o U' L room_1.cells room_1.slots) := by
  refine MetFree.of_bodySF (plainFor_of_name pn_3) hisR ?_
  intro p e s m args below meth c s₁ Bd hml0 hP hK
  obtain ⟨rfl, hZ, hh⟩ := hP
  have hx := Bd.exec
  have hby := Bd.bytes
  have hml : c.maxLocals = 22 := hml0
  have hown : s.vm.findClass "com/example/coretally/coretally/core/RatioCompareToPinLaw" = some m.cls := findClass_of_methodNamed Bd.named
  have hnm := (name_of_methodNamed Bd.named Bd.method).1
  have X0 : Stand p l e room_1 s m #[(.long p1), (.long p2), (.long p3), (.long p4), (.int p5)] below meth c s₁ [] 0 0 := Stand.of_body Bd
  have e0 : s₁.heap = h0 := by rw [← hh, Bd.state]; rfl
  have N0 := Fr.nil n0
  have pre0 : ∀ tt_, Steps p.tables e below (s₁.setTop (mkF m 0 #[.val (.long p1), .second, .val (.long p2), .second, .val (.long p3), .second, .val (.long p4), .second, .val (.int p5), .unset, .unset, .unset, .unset, .unset, .unset, .unset, .unset, .unset, .unset, .unset, .unset, .unset] [])) tt_ → Steps p.tables e below (s₁.setTop (entryFrame m #[(.long p1), (.long p2), (.long p3), (.long p4), (.int p5)] maxLocals)) tt_ := fun tt_ kk_ => castTop (ef_0 m p1 p2 p3 p4 p5) kk_
  obtain ⟨_, _, ⟨T1, L1, k1, n1⟩, -, X1, ⟨Lc1, hQ1, l1, y1, z1⟩, st1⟩ := Jvm.LawKit.callS X0 hx (y := (⟨"com/example/coretally/coretally/core/RatioCompareToPinLaw", "pick", "(JJI)J"⟩ : MethodName)) hown (mvT hZ (hw _ (List.mem_of_getElem? (i := 1) rfl))) (mvT hZ (hw _ (List.mem_of_getElem? (i := 2) rfl))) (mvT hZ (hw _ (List.mem_of_getElem? (i := 3) rfl))) (mvT hZ (hw _ (List.mem_of_getElem? (i := 4) rfl))) (by decide) (backOf (W := 0) (rm1 l Z a0 hw [] (p1 &&& (9223372036854775807 : Int64)) p3 p5 h0 n0 Z0 ) hZ (hw _ (List.mem_of_getElem? (i := 4) rfl)) (hw _ (List.mem_of_getElem? (i := 3) rfl)) (by decide) (by decide)) (g := (mkF m 20 #[.val (.long p1), .second, .val (.long p2), .second, .val (.long p3), .second, .val (.long p4), .second, .val (.int p5), .val (.long (p1 &&& (9223372036854775807 : Int64))), .second, .val (.long (p2 &&& (9223372036854775807 : Int64))), .second, .unset, .unset, .unset, .unset, .unset, .unset, .unset, .unset, .unset] [(.int p5), (.long p3), (.long (p1 &&& (9223372036854775807 : Int64)))])) rfl (by rw [hml]; rfl) (argsL := [(.long (p1 &&& (9223372036854775807 : Int64))), (.long p3), (.int p5)]) (rest := []) (lenOf pd_2 rfl) rfl (by show 2 * 0 + _ ≤ _; exact Nat.le_of_eq rfl) (hb hby at_20) (fun _ _ => ⟨rfl, e0, (by decide : 0 + 0 ≤ _), (by decide : 0 + 0 ≤ _)⟩)
  dsimp only [Pt.U, Pt.locs, Pt.cells, Pt.slots] at X1 l1 y1 z1 st1 hQ1
  subst l1 y1 z1
  obtain ⟨rfl, N1q, e1q⟩ := hQ1
  have N1 := Fr.app N0 N1q
  obtain ⟨_, _, ⟨T2, L2, k2, n2⟩, -, X2, ⟨Lc2, hQ2, l2, y2, z2⟩, st2⟩ := Jvm.LawKit.callS X1 hx (y := (⟨"com/example/coretally/coretally/core/RatioCompareToPinLaw", "pick", "(JJI)J"⟩ : MethodName)) hown (mvT hZ (hw _ (List.mem_of_getElem? (i := 1) rfl))) (mvT hZ (hw _ (List.mem_of_getElem? (i := 2) rfl))) (mvT hZ (hw _ (List.mem_of_getElem? (i := 3) rfl))) (mvT hZ (hw _ (List.mem_of_getElem? (i := 4) rfl))) (by decide) (backOf (W := 0) (rm1 l Z a0 hw [] (p2 &&& (9223372036854775807 : Int64)) p4 ((p5.toUInt32 >>> ((2 : Int32) &&& 31).toUInt32).toInt32) h0 n0 Z0 ) hZ (hw _ (List.mem_of_getElem? (i := 4) rfl)) (hw _ (List.mem_of_getElem? (i := 3) rfl)) (by decide) (by decide)) (g := (mkF m 33 #[.val (.long p1), .second, .val (.long p2), .second, .val (.long p3), .second, .val (.long p4), .second, .val (.int p5), .val (.long (p1 &&& (9223372036854775807 : Int64))), .second, .val (.long (p2 &&& (9223372036854775807 : Int64))), .second, .val (.long (own_pick (p1 &&& (9223372036854775807 : Int64)) p3 p5)), .second, .unset, .unset, .unset, .unset, .unset, .unset, .unset] [(.int ((p5.toUInt32 >>> ((2 : Int32) &&& 31).toUInt32).toInt32)), (.long p4), (.long (p2 &&& (9223372036854775807 : Int64)))])) rfl (by rw [hml]; rfl) (argsL := [(.long (p2 &&& (9223372036854775807 : Int64))), (.long p4), (.int ((p5.toUInt32 >>> ((2 : Int32) &&& 31).toUInt32).toInt32))]) (rest := []) (lenOf pd_2 rfl) rfl (by show 2 * 0 + _ ≤ _; exact Nat.le_of_eq rfl) (hb hby at_33) (fun _ _ => ⟨rfl, e1q, (by decide : 0 + 0 ≤ _), (by decide : 0 + 0 ≤ _)⟩)
  dsimp only [Pt.U, Pt.locs, Pt.cells, Pt.slots] at X2 l2 y2 z2 st2 hQ2
  subst l2 y2 z2
  obtain ⟨rfl, N2q, e2q⟩ := hQ2
  have N2 := Fr.app N1 N2q
  obtain ⟨fs, hr, hrun, hended, hW, hsame⟩ := X2.leave (v := some (.int (1 : Int32))) (fun h => by rw [Bd.returns] at h; cases h)
  refine ⟨_, _, pre0 _ ?_, hrun, hended, _, _, rfl, ?_, ⟨_, rfl⟩, hW, hsame.mono (by decide) (by decide)⟩
  · show Steps p.tables e below (s₁.setTop (mkF m 0 #[.val (.long p1), .second, .val (.long p2), .second, .val (.long p3), .second, .val (.long p4), .second, .val (.int p5), .unset, .unset, .unset, .unset, .unset, .unset, .unset, .unset, .unset, .unset, .unset, .unset, .unset] [])) _
    refine XS.lloadN X0.here hx rfl (hb hby at_0) rfl ?_
    show Steps p.tables e below (s₁.setTop (mkF m 1 #[.val (.long p1), .second, .val (.long p2), .second, .val (.long p3), .second, .val (.long p4), .second, .val (.int p5), .unset, .unset, .unset, .unset, .unset, .unset, .unset, .unset, .unset, .unset, .unset, .unset, .unset] [(.long p1)])) _
    refine X0.ldc2Long hx hown (mvT hZ (hw _ (List.mem_of_getElem? (i := 0) rfl))) (g := (mkF m 1 #[.val (.long p1), .second, .val (.long p2), .second, .val (.long p3), .second, .val (.long p4), .second, .val (.int p5), .unset, .unset, .unset, .unset, .unset, .unset, .unset, .unset, .unset, .unset, .unset, .unset, .unset] [(.long p1)])) rfl (hb hby at_1) _ ?_
    show Steps p.tables e below (s₁.setTop (mkF m 4 #[.val (.long p1), .second, .val (.long p2), .second, .val (.long p3), .second, .val (.long p4), .second, .val (.int p5), .unset, .unset, .unset, .unset, .unset, .unset, .unset, .unset, .unset, .unset, .unset, .unset, .unset] [(.long (9223372036854775807 : Int64)), (.long p1)])) _
    refine XS.land X0.here hx rfl (hb hby at_4) rfl ?_
    show Steps p.tables e below (s₁.setTop (mkF m 5 #[.val (.long p1), .second, .val (.long p2), .second, .val (.long p3), .second, .val (.long p4), .second, .val (.int p5), .unset, .unset, .unset, .unset, .unset, .unset, .unset, .unset, .unset, .unset, .unset, .unset, .unset] [(.long (p1 &&& (9223372036854775807 : Int64)))])) _
    refine XS.lstore X0.here hx rfl (hb hby at_5) rfl (l' := #[.val (.long p1), .second, .val (.long p2), .second, .val (.long p3), .second, .val (.long p4), .second, .val (.int p5), .val (.long (p1 &&& (9223372036854775807 : Int64))), .second, .unset, .unset, .unset, .unset, .unset, .unset, .unset, .unset, .unset, .unset, .unset]) rfl ?_
    show Steps p.tables e below (s₁.setTop (mkF m 7 #[.val (.long p1), .second, .val (.long p2), .second, .val (.long p3), .second, .val (.long p4), .second, .val (.int p5), .val (.long (p1 &&& (9223372036854775807 : Int64))), .second, .unset, .unset, .unset, .unset, .unset, .unset, .unset, .unset, .unset, .unset, .unset] [])) _
    refine XS.lloadN X0.here hx rfl (hb hby at_7) rfl ?_
    show Steps p.tables e below (s₁.setTop (mkF m 8 #[.val (.long p1), .second, .val (.long p2), .second, .val (.long p3), .second, .val (.long p4), .second, .val (.int p5), .val (.long (p1 &&& (9223372036854775807 : Int64))), .second, .unset, .unset, .unset, .unset, .unset, .unset, .unset, .unset, .unset, .unset, .unset] [(.long p2)])) _
    refine X0.ldc2Long hx hown (mvT hZ (hw _ (List.mem_of_getElem? (i := 0) rfl))) (g := (mkF m 8 #[.val (.long p1), .second, .val (.long p2), .second, .val (.long p3), .second, .val (.long p4), .second, .val (.int p5), .val (.long (p1 &&& (9223372036854775807 : Int64))), .second, .unset, .unset, .unset, .unset, .unset, .unset, .unset, .unset, .unset, .unset, .unset] [(.long p2)])) rfl (hb hby at_8) _ ?_
    show Steps p.tables e below (s₁.setTop (mkF m 11 #[.val (.long p1), .second, .val (.long p2), .second, .val (.long p3), .second, .val (.long p4), .second, .val (.int p5), .val (.long (p1 &&& (9223372036854775807 : Int64))), .second, .unset, .unset, .unset, .unset, .unset, .unset, .unset, .unset, .unset, .unset, .unset] [(.long (9223372036854775807 : Int64)), (.long p2)])) _
    refine XS.land X0.here hx rfl (hb hby at_11) rfl ?_
    show Steps p.tables e below (s₁.setTop (mkF m 12 #[.val (.long p1), .second, .val (.long p2), .second, .val (.long p3), .second, .val (.long p4), .second, .val (.int p5), .val (.long (p1 &&& (9223372036854775807 : Int64))), .second, .unset, .unset, .unset, .unset, .unset, .unset, .unset, .unset, .unset, .unset, .unset] [(.long (p2 &&& (9223372036854775807 : Int64)))])) _
    refine XS.lstore X0.here hx rfl (hb hby at_12) rfl (l' := #[.val (.long p1), .second, .val (.long p2), .second, .val (.long p3), .second, .val (.long p4), .second, .val (.int p5), .val (.long (p1 &&& (9223372036854775807 : Int64))), .second, .val (.long (p2 &&& (9223372036854775807 : Int64))), .second, .unset, .unset, .unset, .unset, .unset, .unset, .unset, .unset, .unset]) rfl ?_
    show Steps p.tables e below (s₁.setTop (mkF m 14 #[.val (.long p1), .second, .val (.long p2), .second, .val (.long p3), .second, .val (.long p4), .second, .val (.int p5), .val (.long (p1 &&& (9223372036854775807 : Int64))), .second, .val (.long (p2 &&& (9223372036854775807 : Int64))), .second, .unset, .unset, .unset, .unset, .unset, .unset, .unset, .unset, .unset] [])) _
    refine XS.lload X0.here hx rfl (hb hby at_14) rfl ?_
    show Steps p.tables e below (s₁.setTop (mkF m 16 #[.val (.long p1), .second, .val (.long p2), .second, .val (.long p3), .second, .val (.long p4), .second, .val (.int p5), .val (.long (p1 &&& (9223372036854775807 : Int64))), .second, .val (.long (p2 &&& (9223372036854775807 : Int64))), .second, .unset, .unset, .unset, .unset, .unset, .unset, .unset, .unset, .unset] [(.long (p1 &&& (9223372036854775807 : Int64)))])) _
    refine XS.lload X0.here hx rfl (hb hby at_16) rfl ?_
    show Steps p.tables e below (s₁.setTop (mkF m 18 #[.val (.long p1), .second, .val (.long p2), .second, .val (.long p3), .second, .val (.long p4), .second, .val (.int p5), .val (.long (p1 &&& (9223372036854775807 : Int64))), .second, .val (.long (p2 &&& (9223372036854775807 : Int64))), .second, .unset, .unset, .unset, .unset, .unset, .unset, .unset, .unset, .unset] [(.long p3), (.long (p1 &&& (9223372036854775807 : Int64)))])) _
    refine XS.iload X0.here hx rfl (hb hby at_18) rfl ?_
    show Steps p.tables e below (s₁.setTop (mkF m 20 #[.val (.long p1), .second, .val (.long p2), .second, .val (.long p3), .second, .val (.long p4), .second, .val (.int p5), .val (.long (p1 &&& (9223372036854775807 : Int64))), .second, .val (.long (p2 &&& (9223372036854775807 : Int64))), .second, .unset, .unset, .unset, .unset, .unset, .unset, .unset, .unset, .unset] [(.int p5), (.long p3), (.long (p1 &&& (9223372036854775807 : Int64)))])) _
    refine st1 _ ?_
    show Steps p.tables e below (T1.setTop (mkF m 23 #[.val (.long p1), .second, .val (.long p2), .second, .val (.long p3), .second, .val (.long p4), .second, .val (.int p5), .val (.long (p1 &&& (9223372036854775807 : Int64))), .second, .val (.long (p2 &&& (9223372036854775807 : Int64))), .second, .unset, .unset, .unset, .unset, .unset, .unset, .unset, .unset, .unset] [(.long (own_pick (p1 &&& (9223372036854775807 : Int64)) p3 p5))])) _
    refine XS.lstore X1.here hx rfl (hb hby at_23) rfl (l' := #[.val (.long p1), .second, .val (.long p2), .second, .val (.long p3), .second, .val (.long p4), .second, .val (.int p5), .val (.long (p1 &&& (9223372036854775807 : Int64))), .second, .val (.long (p2 &&& (9223372036854775807 : Int64))), .second, .val (.long (own_pick (p1 &&& (9223372036854775807 : Int64)) p3 p5)), .second, .unset, .unset, .unset, .unset, .unset, .unset, .unset]) rfl ?_
    show Steps p.tables e below (T1.setTop (mkF m 25 #[.val (.long p1), .second, .val (.long p2), .second, .val (.long p3), .second, .val (.long p4), .second, .val (.int p5), .val (.long (p1 &&& (9223372036854775807 : Int64))), .second, .val (.long (p2 &&& (9223372036854775807 : Int64))), .second, .val (.long (own_pick (p1 &&& (9223372036854775807 : Int64)) p3 p5)), .second, .unset, .unset, .unset, .unset, .unset, .unset, .unset] [])) _
    refine XS.lload X1.here hx rfl (hb hby at_25) rfl ?_
    show Steps p.tables e below (T1.setTop (mkF m 27 #[.val (.long p1), .second, .val (.long p2), .second, .val (.long p3), .second, .val (.long p4), .second, .val (.int p5), .val (.long (p1 &&& (9223372036854775807 : Int64))), .second, .val (.long (p2 &&& (9223372036854775807 : Int64))), .second, .val (.long (own_pick (p1 &&& (9223372036854775807 : Int64)) p3 p5)), .second, .unset, .unset, .unset, .unset, .unset, .unset, .unset] [(.long (p2 &&& (9223372036854775807 : Int64)))])) _
    refine XS.lload X1.here hx rfl (hb hby at_27) rfl ?_
    show Steps p.tables e below (T1.setTop (mkF m 29 #[.val (.long p1), .second, .val (.long p2), .second, .val (.long p3), .second, .val (.long p4), .second, .val (.int p5), .val (.long (p1 &&& (9223372036854775807 : Int64))), .second, .val (.long (p2 &&& (9223372036854775807 : Int64))), .second, .val (.long (own_pick (p1 &&& (9223372036854775807 : Int64)) p3 p5)), .second, .unset, .unset, .unset, .unset, .unset, .unset, .unset] [(.long p4), (.long (p2 &&& (9223372036854775807 : Int64)))])) _
    refine XS.iload X1.here hx rfl (hb hby at_29) rfl ?_
    show Steps p.tables e below (T1.setTop (mkF m 31 #[.val (.long p1), .second, .val (.long p2), .second, .val (.long p3), .second, .val (.long p4), .second, .val (.int p5), .val (.long (p1 &&& (9223372036854775807 : Int64))), .second, .val (.long (p2 &&& (9223372036854775807 : Int64))), .second, .val (.long (own_pick (p1 &&& (9223372036854775807 : Int64)) p3 p5)), .second, .unset, .unset, .unset, .unset, .unset, .unset, .unset] [(.int p5), (.long p4), (.long (p2 &&& (9223372036854775807 : Int64)))])) _
    refine XS.iconst X1.here hx rfl (hb hby at_31) ?_
    show Steps p.tables e below (T1.setTop (mkF m 32 #[.val (.long p1), .second, .val (.long p2), .second, .val (.long p3), .second, .val (.long p4), .second, .val (.int p5), .val (.long (p1 &&& (9223372036854775807 : Int64))), .second, .val (.long (p2 &&& (9223372036854775807 : Int64))), .second, .val (.long (own_pick (p1 &&& (9223372036854775807 : Int64)) p3 p5)), .second, .unset, .unset, .unset, .unset, .unset, .unset, .unset] [(.int (2 : Int32)), (.int p5), (.long p4), (.long (p2 &&& (9223372036854775807 : Int64)))])) _
    refine XS.iushr X1.here hx rfl (hb hby at_32) rfl ?_
    show Steps p.tables e below (T1.setTop (mkF m 33 #[.val (.long p1), .second, .val (.long p2), .second, .val (.long p3), .second, .val (.long p4), .second, .val (.int p5), .val (.long (p1 &&& (9223372036854775807 : Int64))), .second, .val (.long (p2 &&& (9223372036854775807 : Int64))), .second, .val (.long (own_pick (p1 &&& (9223372036854775807 : Int64)) p3 p5)), .second, .unset, .unset, .unset, .unset, .unset, .unset, .unset] [(.int ((p5.toUInt32 >>> ((2 : Int32) &&& 31).toUInt32).toInt32)), (.long p4), (.long (p2 &&& (9223372036854775807 : Int64)))])) _
    refine st2 _ ?_
    show Steps p.tables e below (T2.setTop (mkF m 36 #[.val (.long p1), .second, .val (.long p2), .second, .val (.long p3), .second, .val (.long p4), .second, .val (.int p5), .val (.long (p1 &&& (9223372036854775807 : Int64))), .second, .val (.long (p2 &&& (9223372036854775807 : Int64))), .second, .val (.long (own_pick (p1 &&& (9223372036854775807 : Int64)) p3 p5)), .second, .unset, .unset, .unset, .unset, .unset, .unset, .unset] [(.long (own_pick (p2 &&& (9223372036854775807 : Int64)) p4 ((p5.toUInt32 >>> ((2 : Int32) &&& 31).toUInt32).toInt32)))])) _
    refine XS.lstore X2.here hx rfl (hb hby at_36) rfl (l' := #[.val (.long p1), .second, .val (.long p2), .second, .val (.long p3), .second, .val (.long p4), .second, .val (.int p5), .val (.long (p1 &&& (9223372036854775807 : Int64))), .second, .val (.long (p2 &&& (9223372036854775807 : Int64))), .second, .val (.long (own_pick (p1 &&& (9223372036854775807 : Int64)) p3 p5)), .second, .val (.long (own_pick (p2 &&& (9223372036854775807 : Int64)) p4 ((p5.toUInt32 >>> ((2 : Int32) &&& 31).toUInt32).toInt32))), .second, .unset, .unset, .unset, .unset, .unset]) rfl ?_
    show Steps p.tables e below (T2.setTop (mkF m 38 #[.val (.long p1), .second, .val (.long p2), .second, .val (.long p3), .second, .val (.long p4), .second, .val (.int p5), .val (.long (p1 &&& (9223372036854775807 : Int64))), .second, .val (.long (p2 &&& (9223372036854775807 : Int64))), .second, .val (.long (own_pick (p1 &&& (9223372036854775807 : Int64)) p3 p5)), .second, .val (.long (own_pick (p2 &&& (9223372036854775807 : Int64)) p4 ((p5.toUInt32 >>> ((2 : Int32) &&& 31).toUInt32).toInt32))), .second, .unset, .unset, .unset, .unset, .unset] [])) _
    refine XS.lload X2.here hx rfl (hb hby at_38) rfl ?_
    show Steps p.tables e below (T2.setTop (mkF m 40 #[.val (.long p1), .second, .val (.long p2), .second, .val (.long p3), .second, .val (.long p4), .second, .val (.int p5), .val (.long (p1 &&& (9223372036854775807 : Int64))), .second, .val (.long (p2 &&& (9223372036854775807 : Int64))), .second, .val (.long (own_pick (p1 &&& (9223372036854775807 : Int64)) p3 p5)), .second, .val (.long (own_pick (p2 &&& (9223372036854775807 : Int64)) p4 ((p5.toUInt32 >>> ((2 : Int32) &&& 31).toUInt32).toInt32))), .second, .unset, .unset, .unset, .unset, .unset] [(.long (p1 &&& (9223372036854775807 : Int64)))])) _
    refine XS.lconst X2.here hx rfl (hb hby at_40) ?_
    show Steps p.tables e below (T2.setTop (mkF m 41 #[.val (.long p1), .second, .val (.long p2), .second, .val (.long p3), .second, .val (.long p4), .second, .val (.int p5), .val (.long (p1 &&& (9223372036854775807 : Int64))), .second, .val (.long (p2 &&& (9223372036854775807 : Int64))), .second, .val (.long (own_pick (p1 &&& (9223372036854775807 : Int64)) p3 p5)), .second, .val (.long (own_pick (p2 &&& (9223372036854775807 : Int64)) p4 ((p5.toUInt32 >>> ((2 : Int32) &&& 31).toUInt32).toInt32))), .second, .unset, .unset, .unset, .unset, .unset] [(.long (0 : Int64)), (.long (p1 &&& (9223372036854775807 : Int64)))])) _
    refine XS.lcmp X2.here hx rfl (hb hby at_41) rfl ?_
    show Steps p.tables e below (T2.setTop (mkF m 42 #[.val (.long p1), .second, .val (.long p2), .second, .val (.long p3), .second, .val (.long p4), .second, .val (.int p5), .val (.long (p1 &&& (9223372036854775807 : Int64))), .second, .val (.long (p2 &&& (9223372036854775807 : Int64))), .second, .val (.long (own_pick (p1 &&& (9223372036854775807 : Int64)) p3 p5)), .second, .val (.long (own_pick (p2 &&& (9223372036854775807 : Int64)) p4 ((p5.toUInt32 >>> ((2 : Int32) &&& 31).toUInt32).toInt32))), .second, .unset, .unset, .unset, .unset, .unset] [(.int (lcmpW (p1 &&& (9223372036854775807 : Int64)) (0 : Int64)))])) _
    refine XS.ifNo X2.here hx rfl (hb hby at_42) rfl ((if0 _ _).trans (feq (show ¬ ((lcmpW (p1 &&& (9223372036854775807 : Int64)) (0 : Int64)) = (0 : Int32)) from hc42)).1) ?_
    show Steps p.tables e below (T2.setTop (mkF m 45 #[.val (.long p1), .second, .val (.long p2), .second, .val (.long p3), .second, .val (.long p4), .second, .val (.int p5), .val (.long (p1 &&& (9223372036854775807 : Int64))), .second, .val (.long (p2 &&& (9223372036854775807 : Int64))), .second, .val (.long (own_pick (p1 &&& (9223372036854775807 : Int64)) p3 p5)), .second, .val (.long (own_pick (p2 &&& (9223372036854775807 : Int64)) p4 ((p5.toUInt32 >>> ((2 : Int32) &&& 31).toUInt32).toInt32))), .second, .unset, .unset, .unset, .unset, .unset] [])) _
    refine XS.lload X2.here hx rfl (hb hby at_45) rfl ?_
    show Steps p.tables e below (T2.setTop (mkF m 47 #[.val (.long p1), .second, .val (.long p2), .second, .val (.long p3), .second, .val (.long p4), .second, .val (.int p5), .val (.long (p1 &&& (9223372036854775807 : Int64))), .second, .val (.long (p2 &&& (9223372036854775807 : Int64))), .second, .val (.long (own_pick (p1 &&& (9223372036854775807 : Int64)) p3 p5)), .second, .val (.long (own_pick (p2 &&& (9223372036854775807 : Int64)) p4 ((p5.toUInt32 >>> ((2 : Int32) &&& 31).toUInt32).toInt32))), .second, .unset, .unset, .unset, .unset, .unset] [(.long (p2 &&& (9223372036854775807 : Int64)))])) _
    refine XS.lconst X2.here hx rfl (hb hby at_47) ?_
    show Steps p.tables e below (T2.setTop (mkF m 48 #[.val (.long p1), .second, .val (.long p2), .second, .val (.long p3), .second, .val (.long p4), .second, .val (.int p5), .val (.long (p1 &&& (9223372036854775807 : Int64))), .second, .val (.long (p2 &&& (9223372036854775807 : Int64))), .second, .val (.long (own_pick (p1 &&& (9223372036854775807 : Int64)) p3 p5)), .second, .val (.long (own_pick (p2 &&& (9223372036854775807 : Int64)) p4 ((p5.toUInt32 >>> ((2 : Int32) &&& 31).toUInt32).toInt32))), .second, .unset, .unset, .unset, .unset, .unset] [(.long (0 : Int64)), (.long (p2 &&& (9223372036854775807 : Int64)))])) _
    refine XS.lcmp X2.here hx rfl (hb hby at_48) rfl ?_
    show Steps p.tables e below (T2.setTop (mkF m 49 #[.val (.long p1), .second, .val (.long p2), .second, .val (.long p3), .second, .val (.long p4), .second, .val (.int p5), .val (.long (p1 &&& (9223372036854775807 : Int64))), .second, .val (.long (p2 &&& (9223372036854775807 : Int64))), .second, .val (.long (own_pick (p1 &&& (9223372036854775807 : Int64)) p3 p5)), .second, .val (.long (own_pick (p2 &&& (9223372036854775807 : Int64)) p4 ((p5.toUInt32 >>> ((2 : Int32) &&& 31).toUInt32).toInt32))), .second, .unset, .unset, .unset, .unset, .unset] [(.int (lcmpW (p2 &&& (9223372036854775807 : Int64)) (0 : Int64)))])) _
    refine XS.ifYes X2.here hx rfl (pc0 := 49) (pc' := 66) rfl (hb hby at_49) rfl ((if0 _ _).trans (teq (show (lcmpW (p2 &&& (9223372036854775807 : Int64)) (0 : Int64)) = (0 : Int32) from hc49)).1) (by decide) (by decide) ?_
    show Steps p.tables e below (T2.setTop (mkF m 66 #[.val (.long p1), .second, .val (.long p2), .second, .val (.long p3), .second, .val (.long p4), .second, .val (.int p5), .val (.long (p1 &&& (9223372036854775807 : Int64))), .second, .val (.long (p2 &&& (9223372036854775807 : Int64))), .second, .val (.long (own_pick (p1 &&& (9223372036854775807 : Int64)) p3 p5)), .second, .val (.long (own_pick (p2 &&& (9223372036854775807 : Int64)) p4 ((p5.toUInt32 >>> ((2 : Int32) &&& 31).toUInt32).toInt32))), .second, .unset, .unset, .unset, .unset, .unset] [])) _
    refine XS.iconst X2.here hx rfl (hb hby at_66) ?_
    show Steps p.tables e below (T2.setTop (mkF m 67 #[.val (.long p1), .second, .val (.long p2), .second, .val (.long p3), .second, .val (.long p4), .second, .val (.int p5), .val (.long (p1 &&& (9223372036854775807 : Int64))), .second, .val (.long (p2 &&& (9223372036854775807 : Int64))), .second, .val (.long (own_pick (p1 &&& (9223372036854775807 : Int64)) p3 p5)), .second, .val (.long (own_pick (p2 &&& (9223372036854775807 : Int64)) p4 ((p5.toUInt32 >>> ((2 : Int32) &&& 31).toUInt32).toInt32))), .second, .unset, .unset, .unset, .unset, .unset] [(.int (1 : Int32))])) _
    exact retN X2 hx (t := .boolean) Bd.returns (by simp) (hb hby at_67) hr
  · show Qrm0 Z p1 p2 p3 p4 p5 h0 n0 _ T2.heap _
    rw [e2q]
    exact ⟨rfl, N2⟩
set_option maxRecDepth 65536 in
set_option maxHeartbeats 40000000 in
theorem rm0C (l : Launch) (Z : State) (a0 : Array Value) (hw : ∀ d ∈ tables_1, d.before a0 Z = true) (ws : List Jvm.Cond) (p1 : Int64) (p2 : Int64) (p3 : Int64) (p4 : Int64) (p5 : Int32) (h0 : Heap) (n0 : Nat) (Z0 : n0 ≤ h0.size) (hc42 : ¬ ((lcmpW (p1 &&& (9223372036854775807 : Int64)) (0 : Int64)) = (0 : Int32))) (hc49 : ¬ ((lcmpW (p2 &&& (9223372036854775807 : Int64)) (0 : Int64)) = (0 : Int32))) (hc56 : (lcmpW (own_pick (p1 &&& (9223372036854775807 : Int64)) p3 p5) (0 : Int64)) = (0 : Int32)) :
    MetFree l x (head1 (Jvm.Cond.code x code maxLocals ret :: ws) room_1) (fun aa_ U => aa_ = #[(.long p1), (.long p2), (.long p3), (.long p4), (.int p5)] ∧ Z.Warmed39 U.vm ∧ U.heap = h0) (fun _ _ _ _ _ => True) (fun _ U o U' => ∃ v L, o = .returned v ∧ Qrm0 Z p1 p2 p3 p4 p5 h0 n0 v U'.heap L ∧ FrameEnd U o U' L room_1.cells room_1.slots) := by
  refine MetFree.of_bodySF (plainFor_of_name pn_3) hisR ?_
  intro p e s m args below meth c s₁ Bd hml0 hP hK
  obtain ⟨rfl, hZ, hh⟩ := hP
  have hx := Bd.exec
  have hby := Bd.bytes
  have hml : c.maxLocals = 22 := hml0
  have hown : s.vm.findClass "com/example/coretally/coretally/core/RatioCompareToPinLaw" = some m.cls := findClass_of_methodNamed Bd.named
  have hnm := (name_of_methodNamed Bd.named Bd.method).1
  have X0 : Stand p l e room_1 s m #[(.long p1), (.long p2), (.long p3), (.long p4), (.int p5)] below meth c s₁ [] 0 0 := Stand.of_body Bd
  have e0 : s₁.heap = h0 := by rw [← hh, Bd.state]; rfl
  have N0 := Fr.nil n0
  have pre0 : ∀ tt_, Steps p.tables e below (s₁.setTop (mkF m 0 #[.val (.long p1), .second, .val (.long p2), .second, .val (.long p3), .second, .val (.long p4), .second, .val (.int p5), .unset, .unset, .unset, .unset, .unset, .unset, .unset, .unset, .unset, .unset, .unset, .unset, .unset] [])) tt_ → Steps p.tables e below (s₁.setTop (entryFrame m #[(.long p1), (.long p2), (.long p3), (.long p4), (.int p5)] maxLocals)) tt_ := fun tt_ kk_ => castTop (ef_0 m p1 p2 p3 p4 p5) kk_
  obtain ⟨_, _, ⟨T1, L1, k1, n1⟩, -, X1, ⟨Lc1, hQ1, l1, y1, z1⟩, st1⟩ := Jvm.LawKit.callS X0 hx (y := (⟨"com/example/coretally/coretally/core/RatioCompareToPinLaw", "pick", "(JJI)J"⟩ : MethodName)) hown (mvT hZ (hw _ (List.mem_of_getElem? (i := 1) rfl))) (mvT hZ (hw _ (List.mem_of_getElem? (i := 2) rfl))) (mvT hZ (hw _ (List.mem_of_getElem? (i := 3) rfl))) (mvT hZ (hw _ (List.mem_of_getElem? (i := 4) rfl))) (by decide) (backOf (W := 0) (rm1 l Z a0 hw [] (p1 &&& (9223372036854775807 : Int64)) p3 p5 h0 n0 Z0 ) hZ (hw _ (List.mem_of_getElem? (i := 4) rfl)) (hw _ (List.mem_of_getElem? (i := 3) rfl)) (by decide) (by decide)) (g := (mkF m 20 #[.val (.long p1), .second, .val (.long p2), .second, .val (.long p3), .second, .val (.long p4), .second, .val (.int p5), .val (.long (p1 &&& (9223372036854775807 : Int64))), .second, .val (.long (p2 &&& (9223372036854775807 : Int64))), .second, .unset, .unset, .unset, .unset, .unset, .unset, .unset, .unset, .unset] [(.int p5), (.long p3), (.long (p1 &&& (9223372036854775807 : Int64)))])) rfl (by rw [hml]; rfl) (argsL := [(.long (p1 &&& (9223372036854775807 : Int64))), (.long p3), (.int p5)]) (rest := []) (lenOf pd_2 rfl) rfl (by show 2 * 0 + _ ≤ _; exact Nat.le_of_eq rfl) (hb hby at_20) (fun _ _ => ⟨rfl, e0, (by decide : 0 + 0 ≤ _), (by decide : 0 + 0 ≤ _)⟩)
  dsimp only [Pt.U, Pt.locs, Pt.cells, Pt.slots] at X1 l1 y1 z1 st1 hQ1
  subst l1 y1 z1
  obtain ⟨rfl, N1q, e1q⟩ := hQ1
  have N1 := Fr.app N0 N1q
  obtain ⟨_, _, ⟨T2, L2, k2, n2⟩, -, X2, ⟨Lc2, hQ2, l2, y2, z2⟩, st2⟩ := Jvm.LawKit.callS X1 hx (y := (⟨"com/example/coretally/coretally/core/RatioCompareToPinLaw", "pick", "(JJI)J"⟩ : MethodName)) hown (mvT hZ (hw _ (List.mem_of_getElem? (i := 1) rfl))) (mvT hZ (hw _ (List.mem_of_getElem? (i := 2) rfl))) (mvT hZ (hw _ (List.mem_of_getElem? (i := 3) rfl))) (mvT hZ (hw _ (List.mem_of_getElem? (i := 4) rfl))) (by decide) (backOf (W := 0) (rm1 l Z a0 hw [] (p2 &&& (9223372036854775807 : Int64)) p4 ((p5.toUInt32 >>> ((2 : Int32) &&& 31).toUInt32).toInt32) h0 n0 Z0 ) hZ (hw _ (List.mem_of_getElem? (i := 4) rfl)) (hw _ (List.mem_of_getElem? (i := 3) rfl)) (by decide) (by decide)) (g := (mkF m 33 #[.val (.long p1), .second, .val (.long p2), .second, .val (.long p3), .second, .val (.long p4), .second, .val (.int p5), .val (.long (p1 &&& (9223372036854775807 : Int64))), .second, .val (.long (p2 &&& (9223372036854775807 : Int64))), .second, .val (.long (own_pick (p1 &&& (9223372036854775807 : Int64)) p3 p5)), .second, .unset, .unset, .unset, .unset, .unset, .unset, .unset] [(.int ((p5.toUInt32 >>> ((2 : Int32) &&& 31).toUInt32).toInt32)), (.long p4), (.long (p2 &&& (9223372036854775807 : Int64)))])) rfl (by rw [hml]; rfl) (argsL := [(.long (p2 &&& (9223372036854775807 : Int64))), (.long p4), (.int ((p5.toUInt32 >>> ((2 : Int32) &&& 31).toUInt32).toInt32))]) (rest := []) (lenOf pd_2 rfl) rfl (by show 2 * 0 + _ ≤ _; exact Nat.le_of_eq rfl) (hb hby at_33) (fun _ _ => ⟨rfl, e1q, (by decide : 0 + 0 ≤ _), (by decide : 0 + 0 ≤ _)⟩)
  dsimp only [Pt.U, Pt.locs, Pt.cells, Pt.slots] at X2 l2 y2 z2 st2 hQ2
  subst l2 y2 z2
  obtain ⟨rfl, N2q, e2q⟩ := hQ2
  have N2 := Fr.app N1 N2q
  obtain ⟨fs, hr, hrun, hended, hW, hsame⟩ := X2.leave (v := some (.int (1 : Int32))) (fun h => by rw [Bd.returns] at h; cases h)
  refine ⟨_, _, pre0 _ ?_, hrun, hended, _, _, rfl, ?_, ⟨_, rfl⟩, hW, hsame.mono (by decide) (by decide)⟩
  · show Steps p.tables e below (s₁.setTop (mkF m 0 #[.val (.long p1), .second, .val (.long p2), .second, .val (.long p3), .second, .val (.long p4), .second, .val (.int p5), .unset, .unset, .unset, .unset, .unset, .unset, .unset, .unset, .unset, .unset, .unset, .unset, .unset] [])) _
    refine XS.lloadN X0.here hx rfl (hb hby at_0) rfl ?_
    show Steps p.tables e below (s₁.setTop (mkF m 1 #[.val (.long p1), .second, .val (.long p2), .second, .val (.long p3), .second, .val (.long p4), .second, .val (.int p5), .unset, .unset, .unset, .unset, .unset, .unset, .unset, .unset, .unset, .unset, .unset, .unset, .unset] [(.long p1)])) _
    refine X0.ldc2Long hx hown (mvT hZ (hw _ (List.mem_of_getElem? (i := 0) rfl))) (g := (mkF m 1 #[.val (.long p1), .second, .val (.long p2), .second, .val (.long p3), .second, .val (.long p4), .second, .val (.int p5), .unset, .unset, .unset, .unset, .unset, .unset, .unset, .unset, .unset, .unset, .unset, .unset, .unset] [(.long p1)])) rfl (hb hby at_1) _ ?_
    show Steps p.tables e below (s₁.setTop (mkF m 4 #[.val (.long p1), .second, .val (.long p2), .second, .val (.long p3), .second, .val (.long p4), .second, .val (.int p5), .unset, .unset, .unset, .unset, .unset, .unset, .unset, .unset, .unset, .unset, .unset, .unset, .unset] [(.long (9223372036854775807 : Int64)), (.long p1)])) _
    refine XS.land X0.here hx rfl (hb hby at_4) rfl ?_
    show Steps p.tables e below (s₁.setTop (mkF m 5 #[.val (.long p1), .second, .val (.long p2), .second, .val (.long p3), .second, .val (.long p4), .second, .val (.int p5), .unset, .unset, .unset, .unset, .unset, .unset, .unset, .unset, .unset, .unset, .unset, .unset, .unset] [(.long (p1 &&& (9223372036854775807 : Int64)))])) _
    refine XS.lstore X0.here hx rfl (hb hby at_5) rfl (l' := #[.val (.long p1), .second, .val (.long p2), .second, .val (.long p3), .second, .val (.long p4), .second, .val (.int p5), .val (.long (p1 &&& (9223372036854775807 : Int64))), .second, .unset, .unset, .unset, .unset, .unset, .unset, .unset, .unset, .unset, .unset, .unset]) rfl ?_
    show Steps p.tables e below (s₁.setTop (mkF m 7 #[.val (.long p1), .second, .val (.long p2), .second, .val (.long p3), .second, .val (.long p4), .second, .val (.int p5), .val (.long (p1 &&& (9223372036854775807 : Int64))), .second, .unset, .unset, .unset, .unset, .unset, .unset, .unset, .unset, .unset, .unset, .unset] [])) _
    refine XS.lloadN X0.here hx rfl (hb hby at_7) rfl ?_
    show Steps p.tables e below (s₁.setTop (mkF m 8 #[.val (.long p1), .second, .val (.long p2), .second, .val (.long p3), .second, .val (.long p4), .second, .val (.int p5), .val (.long (p1 &&& (9223372036854775807 : Int64))), .second, .unset, .unset, .unset, .unset, .unset, .unset, .unset, .unset, .unset, .unset, .unset] [(.long p2)])) _
    refine X0.ldc2Long hx hown (mvT hZ (hw _ (List.mem_of_getElem? (i := 0) rfl))) (g := (mkF m 8 #[.val (.long p1), .second, .val (.long p2), .second, .val (.long p3), .second, .val (.long p4), .second, .val (.int p5), .val (.long (p1 &&& (9223372036854775807 : Int64))), .second, .unset, .unset, .unset, .unset, .unset, .unset, .unset, .unset, .unset, .unset, .unset] [(.long p2)])) rfl (hb hby at_8) _ ?_
    show Steps p.tables e below (s₁.setTop (mkF m 11 #[.val (.long p1), .second, .val (.long p2), .second, .val (.long p3), .second, .val (.long p4), .second, .val (.int p5), .val (.long (p1 &&& (9223372036854775807 : Int64))), .second, .unset, .unset, .unset, .unset, .unset, .unset, .unset, .unset, .unset, .unset, .unset] [(.long (9223372036854775807 : Int64)), (.long p2)])) _
    refine XS.land X0.here hx rfl (hb hby at_11) rfl ?_
    show Steps p.tables e below (s₁.setTop (mkF m 12 #[.val (.long p1), .second, .val (.long p2), .second, .val (.long p3), .second, .val (.long p4), .second, .val (.int p5), .val (.long (p1 &&& (9223372036854775807 : Int64))), .second, .unset, .unset, .unset, .unset, .unset, .unset, .unset, .unset, .unset, .unset, .unset] [(.long (p2 &&& (9223372036854775807 : Int64)))])) _
    refine XS.lstore X0.here hx rfl (hb hby at_12) rfl (l' := #[.val (.long p1), .second, .val (.long p2), .second, .val (.long p3), .second, .val (.long p4), .second, .val (.int p5), .val (.long (p1 &&& (9223372036854775807 : Int64))), .second, .val (.long (p2 &&& (9223372036854775807 : Int64))), .second, .unset, .unset, .unset, .unset, .unset, .unset, .unset, .unset, .unset]) rfl ?_
    show Steps p.tables e below (s₁.setTop (mkF m 14 #[.val (.long p1), .second, .val (.long p2), .second, .val (.long p3), .second, .val (.long p4), .second, .val (.int p5), .val (.long (p1 &&& (9223372036854775807 : Int64))), .second, .val (.long (p2 &&& (9223372036854775807 : Int64))), .second, .unset, .unset, .unset, .unset, .unset, .unset, .unset, .unset, .unset] [])) _
    refine XS.lload X0.here hx rfl (hb hby at_14) rfl ?_
    show Steps p.tables e below (s₁.setTop (mkF m 16 #[.val (.long p1), .second, .val (.long p2), .second, .val (.long p3), .second, .val (.long p4), .second, .val (.int p5), .val (.long (p1 &&& (9223372036854775807 : Int64))), .second, .val (.long (p2 &&& (9223372036854775807 : Int64))), .second, .unset, .unset, .unset, .unset, .unset, .unset, .unset, .unset, .unset] [(.long (p1 &&& (9223372036854775807 : Int64)))])) _
    refine XS.lload X0.here hx rfl (hb hby at_16) rfl ?_
    show Steps p.tables e below (s₁.setTop (mkF m 18 #[.val (.long p1), .second, .val (.long p2), .second, .val (.long p3), .second, .val (.long p4), .second, .val (.int p5), .val (.long (p1 &&& (9223372036854775807 : Int64))), .second, .val (.long (p2 &&& (9223372036854775807 : Int64))), .second, .unset, .unset, .unset, .unset, .unset, .unset, .unset, .unset, .unset] [(.long p3), (.long (p1 &&& (9223372036854775807 : Int64)))])) _
    refine XS.iload X0.here hx rfl (hb hby at_18) rfl ?_
    show Steps p.tables e below (s₁.setTop (mkF m 20 #[.val (.long p1), .second, .val (.long p2), .second, .val (.long p3), .second, .val (.long p4), .second, .val (.int p5), .val (.long (p1 &&& (9223372036854775807 : Int64))), .second, .val (.long (p2 &&& (9223372036854775807 : Int64))), .second, .unset, .unset, .unset, .unset, .unset, .unset, .unset, .unset, .unset] [(.int p5), (.long p3), (.long (p1 &&& (9223372036854775807 : Int64)))])) _
    refine st1 _ ?_
    show Steps p.tables e below (T1.setTop (mkF m 23 #[.val (.long p1), .second, .val (.long p2), .second, .val (.long p3), .second, .val (.long p4), .second, .val (.int p5), .val (.long (p1 &&& (9223372036854775807 : Int64))), .second, .val (.long (p2 &&& (9223372036854775807 : Int64))), .second, .unset, .unset, .unset, .unset, .unset, .unset, .unset, .unset, .unset] [(.long (own_pick (p1 &&& (9223372036854775807 : Int64)) p3 p5))])) _
    refine XS.lstore X1.here hx rfl (hb hby at_23) rfl (l' := #[.val (.long p1), .second, .val (.long p2), .second, .val (.long p3), .second, .val (.long p4), .second, .val (.int p5), .val (.long (p1 &&& (9223372036854775807 : Int64))), .second, .val (.long (p2 &&& (9223372036854775807 : Int64))), .second, .val (.long (own_pick (p1 &&& (9223372036854775807 : Int64)) p3 p5)), .second, .unset, .unset, .unset, .unset, .unset, .unset, .unset]) rfl ?_
    show Steps p.tables e below (T1.setTop (mkF m 25 #[.val (.long p1), .second, .val (.long p2), .second, .val (.long p3), .second, .val (.long p4), .second, .val (.int p5), .val (.long (p1 &&& (9223372036854775807 : Int64))), .second, .val (.long (p2 &&& (9223372036854775807 : Int64))), .second, .val (.long (own_pick (p1 &&& (9223372036854775807 : Int64)) p3 p5)), .second, .unset, .unset, .unset, .unset, .unset, .unset, .unset] [])) _
    refine XS.lload X1.here hx rfl (hb hby at_25) rfl ?_
    show Steps p.tables e below (T1.setTop (mkF m 27 #[.val (.long p1), .second, .val (.long p2), .second, .val (.long p3), .second, .val (.long p4), .second, .val (.int p5), .val (.long (p1 &&& (9223372036854775807 : Int64))), .second, .val (.long (p2 &&& (9223372036854775807 : Int64))), .second, .val (.long (own_pick (p1 &&& (9223372036854775807 : Int64)) p3 p5)), .second, .unset, .unset, .unset, .unset, .unset, .unset, .unset] [(.long (p2 &&& (9223372036854775807 : Int64)))])) _
    refine XS.lload X1.here hx rfl (hb hby at_27) rfl ?_
    show Steps p.tables e below (T1.setTop (mkF m 29 #[.val (.long p1), .second, .val (.long p2), .second, .val (.long p3), .second, .val (.long p4), .second, .val (.int p5), .val (.long (p1 &&& (9223372036854775807 : Int64))), .second, .val (.long (p2 &&& (9223372036854775807 : Int64))), .second, .val (.long (own_pick (p1 &&& (9223372036854775807 : Int64)) p3 p5)), .second, .unset, .unset, .unset, .unset, .unset, .unset, .unset] [(.long p4), (.long (p2 &&& (9223372036854775807 : Int64)))])) _
    refine XS.iload X1.here hx rfl (hb hby at_29) rfl ?_
    show Steps p.tables e below (T1.setTop (mkF m 31 #[.val (.long p1), .second, .val (.long p2), .second, .val (.long p3), .second, .val (.long p4), .second, .val (.int p5), .val (.long (p1 &&& (9223372036854775807 : Int64))), .second, .val (.long (p2 &&& (9223372036854775807 : Int64))), .second, .val (.long (own_pick (p1 &&& (9223372036854775807 : Int64)) p3 p5)), .second, .unset, .unset, .unset, .unset, .unset, .unset, .unset] [(.int p5), (.long p4), (.long (p2 &&& (9223372036854775807 : Int64)))])) _
    refine XS.iconst X1.here hx rfl (hb hby at_31) ?_
    show Steps p.tables e below (T1.setTop (mkF m 32 #[.val (.long p1), .second, .val (.long p2), .second, .val (.long p3), .second, .val (.long p4), .second, .val (.int p5), .val (.long (p1 &&& (9223372036854775807 : Int64))), .second, .val (.long (p2 &&& (9223372036854775807 : Int64))), .second, .val (.long (own_pick (p1 &&& (9223372036854775807 : Int64)) p3 p5)), .second, .unset, .unset, .unset, .unset, .unset, .unset, .unset] [(.int (2 : Int32)), (.int p5), (.long p4), (.long (p2 &&& (9223372036854775807 : Int64)))])) _
    refine XS.iushr X1.here hx rfl (hb hby at_32) rfl ?_
    show Steps p.tables e below (T1.setTop (mkF m 33 #[.val (.long p1), .second, .val (.long p2), .second, .val (.long p3), .second, .val (.long p4), .second, .val (.int p5), .val (.long (p1 &&& (9223372036854775807 : Int64))), .second, .val (.long (p2 &&& (9223372036854775807 : Int64))), .second, .val (.long (own_pick (p1 &&& (9223372036854775807 : Int64)) p3 p5)), .second, .unset, .unset, .unset, .unset, .unset, .unset, .unset] [(.int ((p5.toUInt32 >>> ((2 : Int32) &&& 31).toUInt32).toInt32)), (.long p4), (.long (p2 &&& (9223372036854775807 : Int64)))])) _
    refine st2 _ ?_
    show Steps p.tables e below (T2.setTop (mkF m 36 #[.val (.long p1), .second, .val (.long p2), .second, .val (.long p3), .second, .val (.long p4), .second, .val (.int p5), .val (.long (p1 &&& (9223372036854775807 : Int64))), .second, .val (.long (p2 &&& (9223372036854775807 : Int64))), .second, .val (.long (own_pick (p1 &&& (9223372036854775807 : Int64)) p3 p5)), .second, .unset, .unset, .unset, .unset, .unset, .unset, .unset] [(.long (own_pick (p2 &&& (9223372036854775807 : Int64)) p4 ((p5.toUInt32 >>> ((2 : Int32) &&& 31).toUInt32).toInt32)))])) _
    refine XS.lstore X2.here hx rfl (hb hby at_36) rfl (l' := #[.val (.long p1), .second, .val (.long p2), .second, .val (.long p3), .second, .val (.long p4), .second, .val (.int p5), .val (.long (p1 &&& (9223372036854775807 : Int64))), .second, .val (.long (p2 &&& (9223372036854775807 : Int64))), .second, .val (.long (own_pick (p1 &&& (9223372036854775807 : Int64)) p3 p5)), .second, .val (.long (own_pick (p2 &&& (9223372036854775807 : Int64)) p4 ((p5.toUInt32 >>> ((2 : Int32) &&& 31).toUInt32).toInt32))), .second, .unset, .unset, .unset, .unset, .unset]) rfl ?_
    show Steps p.tables e below (T2.setTop (mkF m 38 #[.val (.long p1), .second, .val (.long p2), .second, .val (.long p3), .second, .val (.long p4), .second, .val (.int p5), .val (.long (p1 &&& (9223372036854775807 : Int64))), .second, .val (.long (p2 &&& (9223372036854775807 : Int64))), .second, .val (.long (own_pick (p1 &&& (9223372036854775807 : Int64)) p3 p5)), .second, .val (.long (own_pick (p2 &&& (9223372036854775807 : Int64)) p4 ((p5.toUInt32 >>> ((2 : Int32) &&& 31).toUInt32).toInt32))), .second, .unset, .unset, .unset, .unset, .unset] [])) _
    refine XS.lload X2.here hx rfl (hb hby at_38) rfl ?_
    show Steps p.tables e below (T2.setTop (mkF m 40 #[.val (.long p1), .second, .val (.long p2), .second, .val (.long p3), .second, .val (.long p4), .second, .val (.int p5), .val (.long (p1 &&& (9223372036854775807 : Int64))), .second, .val (.long (p2 &&& (9223372036854775807 : Int64))), .second, .val (.long (own_pick (p1 &&& (9223372036854775807 : Int64)) p3 p5)), .second, .val (.long (own_pick (p2 &&& (9223372036854775807 : Int64)) p4 ((p5.toUInt32 >>> ((2 : Int32) &&& 31).toUInt32).toInt32))), .second, .unset, .unset, .unset, .unset, .unset] [(.long (p1 &&& (9223372036854775807 : Int64)))])) _
    refine XS.lconst X2.here hx rfl (hb hby at_40) ?_
    show Steps p.tables e below (T2.setTop (mkF m 41 #[.val (.long p1), .second, .val (.long p2), .second, .val (.long p3), .second, .val (.long p4), .second, .val (.int p5), .val (.long (p1 &&& (9223372036854775807 : Int64))), .second, .val (.long (p2 &&& (9223372036854775807 : Int64))), .second, .val (.long (own_pick (p1 &&& (9223372036854775807 : Int64)) p3 p5)), .second, .val (.long (own_pick (p2 &&& (9223372036854775807 : Int64)) p4 ((p5.toUInt32 >>> ((2 : Int32) &&& 31).toUInt32).toInt32))), .second, .unset, .unset, .unset, .unset, .unset] [(.long (0 : Int64)), (.long (p1 &&& (9223372036854775807 : Int64)))])) _
    refine XS.lcmp X2.here hx rfl (hb hby at_41) rfl ?_
    show Steps p.tables e below (T2.setTop (mkF m 42 #[.val (.long p1), .second, .val (.long p2), .second, .val (.long p3), .second, .val (.long p4), .second, .val (.int p5), .val (.long (p1 &&& (9223372036854775807 : Int64))), .second, .val (.long (p2 &&& (9223372036854775807 : Int64))), .second, .val (.long (own_pick (p1 &&& (9223372036854775807 : Int64)) p3 p5)), .second, .val (.long (own_pick (p2 &&& (9223372036854775807 : Int64)) p4 ((p5.toUInt32 >>> ((2 : Int32) &&& 31).toUInt32).toInt32))), .second, .unset, .unset, .unset, .unset, .unset] [(.int (lcmpW (p1 &&& (9223372036854775807 : Int64)) (0 : Int64)))])) _
    refine XS.ifNo X2.here hx rfl (hb hby at_42) rfl ((if0 _ _).trans (feq (show ¬ ((lcmpW (p1 &&& (9223372036854775807 : Int64)) (0 : Int64)) = (0 : Int32)) from hc42)).1) ?_
    show Steps p.tables e below (T2.setTop (mkF m 45 #[.val (.long p1), .second, .val (.long p2), .second, .val (.long p3), .second, .val (.long p4), .second, .val (.int p5), .val (.long (p1 &&& (9223372036854775807 : Int64))), .second, .val (.long (p2 &&& (9223372036854775807 : Int64))), .second, .val (.long (own_pick (p1 &&& (9223372036854775807 : Int64)) p3 p5)), .second, .val (.long (own_pick (p2 &&& (9223372036854775807 : Int64)) p4 ((p5.toUInt32 >>> ((2 : Int32) &&& 31).toUInt32).toInt32))), .second, .unset, .unset, .unset, .unset, .unset] [])) _
    refine XS.lload X2.here hx rfl (hb hby at_45) rfl ?_
    show Steps p.tables e below (T2.setTop (mkF m 47 #[.val (.long p1), .second, .val (.long p2), .second, .val (.long p3), .second, .val (.long p4), .second, .val (.int p5), .val (.long (p1 &&& (9223372036854775807 : Int64))), .second, .val (.long (p2 &&& (9223372036854775807 : Int64))), .second, .val (.long (own_pick (p1 &&& (9223372036854775807 : Int64)) p3 p5)), .second, .val (.long (own_pick (p2 &&& (9223372036854775807 : Int64)) p4 ((p5.toUInt32 >>> ((2 : Int32) &&& 31).toUInt32).toInt32))), .second, .unset, .unset, .unset, .unset, .unset] [(.long (p2 &&& (9223372036854775807 : Int64)))])) _
    refine XS.lconst X2.here hx rfl (hb hby at_47) ?_
    show Steps p.tables e below (T2.setTop (mkF m 48 #[.val (.long p1), .second, .val (.long p2), .second, .val (.long p3), .second, .val (.long p4), .second, .val (.int p5), .val (.long (p1 &&& (9223372036854775807 : Int64))), .second, .val (.long (p2 &&& (9223372036854775807 : Int64))), .second, .val (.long (own_pick (p1 &&& (9223372036854775807 : Int64)) p3 p5)), .second, .val (.long (own_pick (p2 &&& (9223372036854775807 : Int64)) p4 ((p5.toUInt32 >>> ((2 : Int32) &&& 31).toUInt32).toInt32))), .second, .unset, .unset, .unset, .unset, .unset] [(.long (0 : Int64)), (.long (p2 &&& (9223372036854775807 : Int64)))])) _
    refine XS.lcmp X2.here hx rfl (hb hby at_48) rfl ?_
    show Steps p.tables e below (T2.setTop (mkF m 49 #[.val (.long p1), .second, .val (.long p2), .second, .val (.long p3), .second, .val (.long p4), .second, .val (.int p5), .val (.long (p1 &&& (9223372036854775807 : Int64))), .second, .val (.long (p2 &&& (9223372036854775807 : Int64))), .second, .val (.long (own_pick (p1 &&& (9223372036854775807 : Int64)) p3 p5)), .second, .val (.long (own_pick (p2 &&& (9223372036854775807 : Int64)) p4 ((p5.toUInt32 >>> ((2 : Int32) &&& 31).toUInt32).toInt32))), .second, .unset, .unset, .unset, .unset, .unset] [(.int (lcmpW (p2 &&& (9223372036854775807 : Int64)) (0 : Int64)))])) _
    refine XS.ifNo X2.here hx rfl (hb hby at_49) rfl ((if0 _ _).trans (feq (show ¬ ((lcmpW (p2 &&& (9223372036854775807 : Int64)) (0 : Int64)) = (0 : Int32)) from hc49)).1) ?_
    show Steps p.tables e below (T2.setTop (mkF m 52 #[.val (.long p1), .second, .val (.long p2), .second, .val (.long p3), .second, .val (.long p4), .second, .val (.int p5), .val (.long (p1 &&& (9223372036854775807 : Int64))), .second, .val (.long (p2 &&& (9223372036854775807 : Int64))), .second, .val (.long (own_pick (p1 &&& (9223372036854775807 : Int64)) p3 p5)), .second, .val (.long (own_pick (p2 &&& (9223372036854775807 : Int64)) p4 ((p5.toUInt32 >>> ((2 : Int32) &&& 31).toUInt32).toInt32))), .second, .unset, .unset, .unset, .unset, .unset] [])) _
    refine XS.lload X2.here hx rfl (hb hby at_52) rfl ?_
    show Steps p.tables e below (T2.setTop (mkF m 54 #[.val (.long p1), .second, .val (.long p2), .second, .val (.long p3), .second, .val (.long p4), .second, .val (.int p5), .val (.long (p1 &&& (9223372036854775807 : Int64))), .second, .val (.long (p2 &&& (9223372036854775807 : Int64))), .second, .val (.long (own_pick (p1 &&& (9223372036854775807 : Int64)) p3 p5)), .second, .val (.long (own_pick (p2 &&& (9223372036854775807 : Int64)) p4 ((p5.toUInt32 >>> ((2 : Int32) &&& 31).toUInt32).toInt32))), .second, .unset, .unset, .unset, .unset, .unset] [(.long (own_pick (p1 &&& (9223372036854775807 : Int64)) p3 p5))])) _
    refine XS.lconst X2.here hx rfl (hb hby at_54) ?_
    show Steps p.tables e below (T2.setTop (mkF m 55 #[.val (.long p1), .second, .val (.long p2), .second, .val (.long p3), .second, .val (.long p4), .second, .val (.int p5), .val (.long (p1 &&& (9223372036854775807 : Int64))), .second, .val (.long (p2 &&& (9223372036854775807 : Int64))), .second, .val (.long (own_pick (p1 &&& (9223372036854775807 : Int64)) p3 p5)), .second, .val (.long (own_pick (p2 &&& (9223372036854775807 : Int64)) p4 ((p5.toUInt32 >>> ((2 : Int32) &&& 31).toUInt32).toInt32))), .second, .unset, .unset, .unset, .unset, .unset] [(.long (0 : Int64)), (.long (own_pick (p1 &&& (9223372036854775807 : Int64)) p3 p5))])) _
    refine XS.lcmp X2.here hx rfl (hb hby at_55) rfl ?_
    show Steps p.tables e below (T2.setTop (mkF m 56 #[.val (.long p1), .second, .val (.long p2), .second, .val (.long p3), .second, .val (.long p4), .second, .val (.int p5), .val (.long (p1 &&& (9223372036854775807 : Int64))), .second, .val (.long (p2 &&& (9223372036854775807 : Int64))), .second, .val (.long (own_pick (p1 &&& (9223372036854775807 : Int64)) p3 p5)), .second, .val (.long (own_pick (p2 &&& (9223372036854775807 : Int64)) p4 ((p5.toUInt32 >>> ((2 : Int32) &&& 31).toUInt32).toInt32))), .second, .unset, .unset, .unset, .unset, .unset] [(.int (lcmpW (own_pick (p1 &&& (9223372036854775807 : Int64)) p3 p5) (0 : Int64)))])) _
    refine XS.ifYes X2.here hx rfl (pc0 := 56) (pc' := 66) rfl (hb hby at_56) rfl ((if0 _ _).trans (teq (show (lcmpW (own_pick (p1 &&& (9223372036854775807 : Int64)) p3 p5) (0 : Int64)) = (0 : Int32) from hc56)).1) (by decide) (by decide) ?_
    show Steps p.tables e below (T2.setTop (mkF m 66 #[.val (.long p1), .second, .val (.long p2), .second, .val (.long p3), .second, .val (.long p4), .second, .val (.int p5), .val (.long (p1 &&& (9223372036854775807 : Int64))), .second, .val (.long (p2 &&& (9223372036854775807 : Int64))), .second, .val (.long (own_pick (p1 &&& (9223372036854775807 : Int64)) p3 p5)), .second, .val (.long (own_pick (p2 &&& (9223372036854775807 : Int64)) p4 ((p5.toUInt32 >>> ((2 : Int32) &&& 31).toUInt32).toInt32))), .second, .unset, .unset, .unset, .unset, .unset] [])) _
    refine XS.iconst X2.here hx rfl (hb hby at_66) ?_
    show Steps p.tables e below (T2.setTop (mkF m 67 #[.val (.long p1), .second, .val (.long p2), .second, .val (.long p3), .second, .val (.long p4), .second, .val (.int p5), .val (.long (p1 &&& (9223372036854775807 : Int64))), .second, .val (.long (p2 &&& (9223372036854775807 : Int64))), .second, .val (.long (own_pick (p1 &&& (9223372036854775807 : Int64)) p3 p5)), .second, .val (.long (own_pick (p2 &&& (9223372036854775807 : Int64)) p4 ((p5.toUInt32 >>> ((2 : Int32) &&& 31).toUInt32).toInt32))), .second, .unset, .unset, .unset, .unset, .unset] [(.int (1 : Int32))])) _
    exact retN X2 hx (t := .boolean) Bd.returns (by simp) (hb hby at_67) hr
  · show Qrm0 Z p1 p2 p3 p4 p5 h0 n0 _ T2.heap _
    rw [e2q]
    exact ⟨rfl, N2⟩
set_option maxRecDepth 65536 in
set_option maxHeartbeats 40000000 in
theorem rm0D (l : Launch) (Z : State) (a0 : Array Value) (hw : ∀ d ∈ tables_1, d.before a0 Z = true) (ws : List Jvm.Cond) (p1 : Int64) (p2 : Int64) (p3 : Int64) (p4 : Int64) (p5 : Int32) (h0 : Heap) (n0 : Nat) (Z0 : n0 ≤ h0.size) (hc42 : ¬ ((lcmpW (p1 &&& (9223372036854775807 : Int64)) (0 : Int64)) = (0 : Int32))) (hc49 : ¬ ((lcmpW (p2 &&& (9223372036854775807 : Int64)) (0 : Int64)) = (0 : Int32))) (hc56 : ¬ ((lcmpW (own_pick (p1 &&& (9223372036854775807 : Int64)) p3 p5) (0 : Int64)) = (0 : Int32))) (hc63 : (lcmpW (own_pick (p2 &&& (9223372036854775807 : Int64)) p4 ((p5.toUInt32 >>> ((2 : Int32) &&& 31).toUInt32).toInt32)) (0 : Int64)) = (0 : Int32)) :
    MetFree l x (head1 (Jvm.Cond.code x code maxLocals ret :: ws) room_1) (fun aa_ U => aa_ = #[(.long p1), (.long p2), (.long p3), (.long p4), (.int p5)] ∧ Z.Warmed39 U.vm ∧ U.heap = h0) (fun _ _ _ _ _ => True) (fun _ U o U' => ∃ v L, o = .returned v ∧ Qrm0 Z p1 p2 p3 p4 p5 h0 n0 v U'.heap L ∧ FrameEnd U o U' L room_1.cells room_1.slots) := by
  refine MetFree.of_bodySF (plainFor_of_name pn_3) hisR ?_
  intro p e s m args below meth c s₁ Bd hml0 hP hK
  obtain ⟨rfl, hZ, hh⟩ := hP
  have hx := Bd.exec
  have hby := Bd.bytes
  have hml : c.maxLocals = 22 := hml0
  have hown : s.vm.findClass "com/example/coretally/coretally/core/RatioCompareToPinLaw" = some m.cls := findClass_of_methodNamed Bd.named
  have hnm := (name_of_methodNamed Bd.named Bd.method).1
  have X0 : Stand p l e room_1 s m #[(.long p1), (.long p2), (.long p3), (.long p4), (.int p5)] below meth c s₁ [] 0 0 := Stand.of_body Bd
  have e0 : s₁.heap = h0 := by rw [← hh, Bd.state]; rfl
  have N0 := Fr.nil n0
  have pre0 : ∀ tt_, Steps p.tables e below (s₁.setTop (mkF m 0 #[.val (.long p1), .second, .val (.long p2), .second, .val (.long p3), .second, .val (.long p4), .second, .val (.int p5), .unset, .unset, .unset, .unset, .unset, .unset, .unset, .unset, .unset, .unset, .unset, .unset, .unset] [])) tt_ → Steps p.tables e below (s₁.setTop (entryFrame m #[(.long p1), (.long p2), (.long p3), (.long p4), (.int p5)] maxLocals)) tt_ := fun tt_ kk_ => castTop (ef_0 m p1 p2 p3 p4 p5) kk_
  obtain ⟨_, _, ⟨T1, L1, k1, n1⟩, -, X1, ⟨Lc1, hQ1, l1, y1, z1⟩, st1⟩ := Jvm.LawKit.callS X0 hx (y := (⟨"com/example/coretally/coretally/core/RatioCompareToPinLaw", "pick", "(JJI)J"⟩ : MethodName)) hown (mvT hZ (hw _ (List.mem_of_getElem? (i := 1) rfl))) (mvT hZ (hw _ (List.mem_of_getElem? (i := 2) rfl))) (mvT hZ (hw _ (List.mem_of_getElem? (i := 3) rfl))) (mvT hZ (hw _ (List.mem_of_getElem? (i := 4) rfl))) (by decide) (backOf (W := 0) (rm1 l Z a0 hw [] (p1 &&& (9223372036854775807 : Int64)) p3 p5 h0 n0 Z0 ) hZ (hw _ (List.mem_of_getElem? (i := 4) rfl)) (hw _ (List.mem_of_getElem? (i := 3) rfl)) (by decide) (by decide)) (g := (mkF m 20 #[.val (.long p1), .second, .val (.long p2), .second, .val (.long p3), .second, .val (.long p4), .second, .val (.int p5), .val (.long (p1 &&& (9223372036854775807 : Int64))), .second, .val (.long (p2 &&& (9223372036854775807 : Int64))), .second, .unset, .unset, .unset, .unset, .unset, .unset, .unset, .unset, .unset] [(.int p5), (.long p3), (.long (p1 &&& (9223372036854775807 : Int64)))])) rfl (by rw [hml]; rfl) (argsL := [(.long (p1 &&& (9223372036854775807 : Int64))), (.long p3), (.int p5)]) (rest := []) (lenOf pd_2 rfl) rfl (by show 2 * 0 + _ ≤ _; exact Nat.le_of_eq rfl) (hb hby at_20) (fun _ _ => ⟨rfl, e0, (by decide : 0 + 0 ≤ _), (by decide : 0 + 0 ≤ _)⟩)
  dsimp only [Pt.U, Pt.locs, Pt.cells, Pt.slots] at X1 l1 y1 z1 st1 hQ1
  subst l1 y1 z1
  obtain ⟨rfl, N1q, e1q⟩ := hQ1
  have N1 := Fr.app N0 N1q
  obtain ⟨_, _, ⟨T2, L2, k2, n2⟩, -, X2, ⟨Lc2, hQ2, l2, y2, z2⟩, st2⟩ := Jvm.LawKit.callS X1 hx (y := (⟨"com/example/coretally/coretally/core/RatioCompareToPinLaw", "pick", "(JJI)J"⟩ : MethodName)) hown (mvT hZ (hw _ (List.mem_of_getElem? (i := 1) rfl))) (mvT hZ (hw _ (List.mem_of_getElem? (i := 2) rfl))) (mvT hZ (hw _ (List.mem_of_getElem? (i := 3) rfl))) (mvT hZ (hw _ (List.mem_of_getElem? (i := 4) rfl))) (by decide) (backOf (W := 0) (rm1 l Z a0 hw [] (p2 &&& (9223372036854775807 : Int64)) p4 ((p5.toUInt32 >>> ((2 : Int32) &&& 31).toUInt32).toInt32) h0 n0 Z0 ) hZ (hw _ (List.mem_of_getElem? (i := 4) rfl)) (hw _ (List.mem_of_getElem? (i := 3) rfl)) (by decide) (by decide)) (g := (mkF m 33 #[.val (.long p1), .second, .val (.long p2), .second, .val (.long p3), .second, .val (.long p4), .second, .val (.int p5), .val (.long (p1 &&& (9223372036854775807 : Int64))), .second, .val (.long (p2 &&& (9223372036854775807 : Int64))), .second, .val (.long (own_pick (p1 &&& (9223372036854775807 : Int64)) p3 p5)), .second, .unset, .unset, .unset, .unset, .unset, .unset, .unset] [(.int ((p5.toUInt32 >>> ((2 : Int32) &&& 31).toUInt32).toInt32)), (.long p4), (.long (p2 &&& (9223372036854775807 : Int64)))])) rfl (by rw [hml]; rfl) (argsL := [(.long (p2 &&& (9223372036854775807 : Int64))), (.long p4), (.int ((p5.toUInt32 >>> ((2 : Int32) &&& 31).toUInt32).toInt32))]) (rest := []) (lenOf pd_2 rfl) rfl (by show 2 * 0 + _ ≤ _; exact Nat.le_of_eq rfl) (hb hby at_33) (fun _ _ => ⟨rfl, e1q, (by decide : 0 + 0 ≤ _), (by decide : 0 + 0 ≤ _)⟩)
  dsimp only [Pt.U, Pt.locs, Pt.cells, Pt.slots] at X2 l2 y2 z2 st2 hQ2
  subst l2 y2 z2
  obtain ⟨rfl, N2q, e2q⟩ := hQ2
  have N2 := Fr.app N1 N2q
  obtain ⟨fs, hr, hrun, hended, hW, hsame⟩ := X2.leave (v := some (.int (1 : Int32))) (fun h => by rw [Bd.returns] at h; cases h)
  refine ⟨_, _, pre0 _ ?_, hrun, hended, _, _, rfl, ?_, ⟨_, rfl⟩, hW, hsame.mono (by decide) (by decide)⟩
  · show Steps p.tables e below (s₁.setTop (mkF m 0 #[.val (.long p1), .second, .val (.long p2), .second, .val (.long p3), .second, .val (.long p4), .second, .val (.int p5), .unset, .unset, .unset, .unset, .unset, .unset, .unset, .unset, .unset, .unset, .unset, .unset, .unset] [])) _
    refine XS.lloadN X0.here hx rfl (hb hby at_0) rfl ?_
    show Steps p.tables e below (s₁.setTop (mkF m 1 #[.val (.long p1), .second, .val (.long p2), .second, .val (.long p3), .second, .val (.long p4), .second, .val (.int p5), .unset, .unset, .unset, .unset, .unset, .unset, .unset, .unset, .unset, .unset, .unset, .unset, .unset] [(.long p1)])) _
    refine X0.ldc2Long hx hown (mvT hZ (hw _ (List.mem_of_getElem? (i := 0) rfl))) (g := (mkF m 1 #[.val (.long p1), .second, .val (.long p2), .second, .val (.long p3), .second, .val (.long p4), .second, .val (.int p5), .unset, .unset, .unset, .unset, .unset, .unset, .unset, .unset, .unset, .unset, .unset, .unset, .unset] [(.long p1)])) rfl (hb hby at_1) _ ?_
    show Steps p.tables e below (s₁.setTop (mkF m 4 #[.val (.long p1), .second, .val (.long p2), .second, .val (.long p3), .second, .val (.long p4), .second, .val (.int p5), .unset, .unset, .unset, .unset, .unset, .unset, .unset, .unset, .unset, .unset, .unset, .unset, .unset] [(.long (9223372036854775807 : Int64)), (.long p1)])) _
    refine XS.land X0.here hx rfl (hb hby at_4) rfl ?_
    show Steps p.tables e below (s₁.setTop (mkF m 5 #[.val (.long p1), .second, .val (.long p2), .second, .val (.long p3), .second, .val (.long p4), .second, .val (.int p5), .unset, .unset, .unset, .unset, .unset, .unset, .unset, .unset, .unset, .unset, .unset, .unset, .unset] [(.long (p1 &&& (9223372036854775807 : Int64)))])) _
    refine XS.lstore X0.here hx rfl (hb hby at_5) rfl (l' := #[.val (.long p1), .second, .val (.long p2), .second, .val (.long p3), .second, .val (.long p4), .second, .val (.int p5), .val (.long (p1 &&& (9223372036854775807 : Int64))), .second, .unset, .unset, .unset, .unset, .unset, .unset, .unset, .unset, .unset, .unset, .unset]) rfl ?_
    show Steps p.tables e below (s₁.setTop (mkF m 7 #[.val (.long p1), .second, .val (.long p2), .second, .val (.long p3), .second, .val (.long p4), .second, .val (.int p5), .val (.long (p1 &&& (9223372036854775807 : Int64))), .second, .unset, .unset, .unset, .unset, .unset, .unset, .unset, .unset, .unset, .unset, .unset] [])) _
    refine XS.lloadN X0.here hx rfl (hb hby at_7) rfl ?_
    show Steps p.tables e below (s₁.setTop (mkF m 8 #[.val (.long p1), .second, .val (.long p2), .second, .val (.long p3), .second, .val (.long p4), .second, .val (.int p5), .val (.long (p1 &&& (9223372036854775807 : Int64))), .second, .unset, .unset, .unset, .unset, .unset, .unset, .unset, .unset, .unset, .unset, .unset] [(.long p2)])) _
    refine X0.ldc2Long hx hown (mvT hZ (hw _ (List.mem_of_getElem? (i := 0) rfl))) (g := (mkF m 8 #[.val (.long p1), .second, .val (.long p2), .second, .val (.long p3), .second, .val (.long p4), .second, .val (.int p5), .val (.long (p1 &&& (9223372036854775807 : Int64))), .second, .unset, .unset, .unset, .unset, .unset, .unset, .unset, .unset, .unset, .unset, .unset] [(.long p2)])) rfl (hb hby at_8) _ ?_
    show Steps p.tables e below (s₁.setTop (mkF m 11 #[.val (.long p1), .second, .val (.long p2), .second, .val (.long p3), .second, .val (.long p4), .second, .val (.int p5), .val (.long (p1 &&& (9223372036854775807 : Int64))), .second, .unset, .unset, .unset, .unset, .unset, .unset, .unset, .unset, .unset, .unset, .unset] [(.long (9223372036854775807 : Int64)), (.long p2)])) _
    refine XS.land X0.here hx rfl (hb hby at_11) rfl ?_
    show Steps p.tables e below (s₁.setTop (mkF m 12 #[.val (.long p1), .second, .val (.long p2), .second, .val (.long p3), .second, .val (.long p4), .second, .val (.int p5), .val (.long (p1 &&& (9223372036854775807 : Int64))), .second, .unset, .unset, .unset, .unset, .unset, .unset, .unset, .unset, .unset, .unset, .unset] [(.long (p2 &&& (9223372036854775807 : Int64)))])) _
    refine XS.lstore X0.here hx rfl (hb hby at_12) rfl (l' := #[.val (.long p1), .second, .val (.long p2), .second, .val (.long p3), .second, .val (.long p4), .second, .val (.int p5), .val (.long (p1 &&& (9223372036854775807 : Int64))), .second, .val (.long (p2 &&& (9223372036854775807 : Int64))), .second, .unset, .unset, .unset, .unset, .unset, .unset, .unset, .unset, .unset]) rfl ?_
    show Steps p.tables e below (s₁.setTop (mkF m 14 #[.val (.long p1), .second, .val (.long p2), .second, .val (.long p3), .second, .val (.long p4), .second, .val (.int p5), .val (.long (p1 &&& (9223372036854775807 : Int64))), .second, .val (.long (p2 &&& (9223372036854775807 : Int64))), .second, .unset, .unset, .unset, .unset, .unset, .unset, .unset, .unset, .unset] [])) _
    refine XS.lload X0.here hx rfl (hb hby at_14) rfl ?_
    show Steps p.tables e below (s₁.setTop (mkF m 16 #[.val (.long p1), .second, .val (.long p2), .second, .val (.long p3), .second, .val (.long p4), .second, .val (.int p5), .val (.long (p1 &&& (9223372036854775807 : Int64))), .second, .val (.long (p2 &&& (9223372036854775807 : Int64))), .second, .unset, .unset, .unset, .unset, .unset, .unset, .unset, .unset, .unset] [(.long (p1 &&& (9223372036854775807 : Int64)))])) _
    refine XS.lload X0.here hx rfl (hb hby at_16) rfl ?_
    show Steps p.tables e below (s₁.setTop (mkF m 18 #[.val (.long p1), .second, .val (.long p2), .second, .val (.long p3), .second, .val (.long p4), .second, .val (.int p5), .val (.long (p1 &&& (9223372036854775807 : Int64))), .second, .val (.long (p2 &&& (9223372036854775807 : Int64))), .second, .unset, .unset, .unset, .unset, .unset, .unset, .unset, .unset, .unset] [(.long p3), (.long (p1 &&& (9223372036854775807 : Int64)))])) _
    refine XS.iload X0.here hx rfl (hb hby at_18) rfl ?_
    show Steps p.tables e below (s₁.setTop (mkF m 20 #[.val (.long p1), .second, .val (.long p2), .second, .val (.long p3), .second, .val (.long p4), .second, .val (.int p5), .val (.long (p1 &&& (9223372036854775807 : Int64))), .second, .val (.long (p2 &&& (9223372036854775807 : Int64))), .second, .unset, .unset, .unset, .unset, .unset, .unset, .unset, .unset, .unset] [(.int p5), (.long p3), (.long (p1 &&& (9223372036854775807 : Int64)))])) _
    refine st1 _ ?_
    show Steps p.tables e below (T1.setTop (mkF m 23 #[.val (.long p1), .second, .val (.long p2), .second, .val (.long p3), .second, .val (.long p4), .second, .val (.int p5), .val (.long (p1 &&& (9223372036854775807 : Int64))), .second, .val (.long (p2 &&& (9223372036854775807 : Int64))), .second, .unset, .unset, .unset, .unset, .unset, .unset, .unset, .unset, .unset] [(.long (own_pick (p1 &&& (9223372036854775807 : Int64)) p3 p5))])) _
    refine XS.lstore X1.here hx rfl (hb hby at_23) rfl (l' := #[.val (.long p1), .second, .val (.long p2), .second, .val (.long p3), .second, .val (.long p4), .second, .val (.int p5), .val (.long (p1 &&& (9223372036854775807 : Int64))), .second, .val (.long (p2 &&& (9223372036854775807 : Int64))), .second, .val (.long (own_pick (p1 &&& (9223372036854775807 : Int64)) p3 p5)), .second, .unset, .unset, .unset, .unset, .unset, .unset, .unset]) rfl ?_
    show Steps p.tables e below (T1.setTop (mkF m 25 #[.val (.long p1), .second, .val (.long p2), .second, .val (.long p3), .second, .val (.long p4), .second, .val (.int p5), .val (.long (p1 &&& (9223372036854775807 : Int64))), .second, .val (.long (p2 &&& (9223372036854775807 : Int64))), .second, .val (.long (own_pick (p1 &&& (9223372036854775807 : Int64)) p3 p5)), .second, .unset, .unset, .unset, .unset, .unset, .unset, .unset] [])) _
    refine XS.lload X1.here hx rfl (hb hby at_25) rfl ?_
    show Steps p.tables e below (T1.setTop (mkF m 27 #[.val (.long p1), .second, .val (.long p2), .second, .val (.long p3), .second, .val (.long p4), .second, .val (.int p5), .val (.long (p1 &&& (9223372036854775807 : Int64))), .second, .val (.long (p2 &&& (9223372036854775807 : Int64))), .second, .val (.long (own_pick (p1 &&& (9223372036854775807 : Int64)) p3 p5)), .second, .unset, .unset, .unset, .unset, .unset, .unset, .unset] [(.long (p2 &&& (9223372036854775807 : Int64)))])) _
    refine XS.lload X1.here hx rfl (hb hby at_27) rfl ?_
    show Steps p.tables e below (T1.setTop (mkF m 29 #[.val (.long p1), .second, .val (.long p2), .second, .val (.long p3), .second, .val (.long p4), .second, .val (.int p5), .val (.long (p1 &&& (9223372036854775807 : Int64))), .second, .val (.long (p2 &&& (9223372036854775807 : Int64))), .second, .val (.long (own_pick (p1 &&& (9223372036854775807 : Int64)) p3 p5)), .second, .unset, .unset, .unset, .unset, .unset, .unset, .unset] [(.long p4), (.long (p2 &&& (9223372036854775807 : Int64)))])) _
    refine XS.iload X1.here hx rfl (hb hby at_29) rfl ?_
    show Steps p.tables e below (T1.setTop (mkF m 31 #[.val (.long p1), .second, .val (.long p2), .second, .val (.long p3), .second, .val (.long p4), .second, .val (.int p5), .val (.long (p1 &&& (9223372036854775807 : Int64))), .second, .val (.long (p2 &&& (9223372036854775807 : Int64))), .second, .val (.long (own_pick (p1 &&& (9223372036854775807 : Int64)) p3 p5)), .second, .unset, .unset, .unset, .unset, .unset, .unset, .unset] [(.int p5), (.long p4), (.long (p2 &&& (9223372036854775807 : Int64)))])) _
    refine XS.iconst X1.here hx rfl (hb hby at_31) ?_
    show Steps p.tables e below (T1.setTop (mkF m 32 #[.val (.long p1), .second, .val (.long p2), .second, .val (.long p3), .second, .val (.long p4), .second, .val (.int p5), .val (.long (p1 &&& (9223372036854775807 : Int64))), .second, .val (.long (p2 &&& (9223372036854775807 : Int64))), .second, .val (.long (own_pick (p1 &&& (9223372036854775807 : Int64)) p3 p5)), .second, .unset, .unset, .unset, .unset, .unset, .unset, .unset] [(.int (2 : Int32)), (.int p5), (.long p4), (.long (p2 &&& (9223372036854775807 : Int64)))])) _
    refine XS.iushr X1.here hx rfl (hb hby at_32) rfl ?_
    show Steps p.tables e below (T1.setTop (mkF m 33 #[.val (.long p1), .second, .val (.long p2), .second, .val (.long p3), .second, .val (.long p4), .second, .val (.int p5), .val (.long (p1 &&& (9223372036854775807 : Int64))), .second, .val (.long (p2 &&& (9223372036854775807 : Int64))), .second, .val (.long (own_pick (p1 &&& (9223372036854775807 : Int64)) p3 p5)), .second, .unset, .unset, .unset, .unset, .unset, .unset, .unset] [(.int ((p5.toUInt32 >>> ((2 : Int32) &&& 31).toUInt32).toInt32)), (.long p4), (.long (p2 &&& (9223372036854775807 : Int64)))])) _
    refine st2 _ ?_
    show Steps p.tables e below (T2.setTop (mkF m 36 #[.val (.long p1), .second, .val (.long p2), .second, .val (.long p3), .second, .val (.long p4), .second, .val (.int p5), .val (.long (p1 &&& (9223372036854775807 : Int64))), .second, .val (.long (p2 &&& (9223372036854775807 : Int64))), .second, .val (.long (own_pick (p1 &&& (9223372036854775807 : Int64)) p3 p5)), .second, .unset, .unset, .unset, .unset, .unset, .unset, .unset] [(.long (own_pick (p2 &&& (9223372036854775807 : Int64)) p4 ((p5.toUInt32 >>> ((2 : Int32) &&& 31).toUInt32).toInt32)))])) _
    refine XS.lstore X2.here hx rfl (hb hby at_36) rfl (l' := #[.val (.long p1), .second, .val (.long p2), .second, .val (.long p3), .second, .val (.long p4), .second, .val (.int p5), .val (.long (p1 &&& (9223372036854775807 : Int64))), .second, .val (.long (p2 &&& (9223372036854775807 : Int64))), .second, .val (.long (own_pick (p1 &&& (9223372036854775807 : Int64)) p3 p5)), .second, .val (.long (own_pick (p2 &&& (9223372036854775807 : Int64)) p4 ((p5.toUInt32 >>> ((2 : Int32) &&& 31).toUInt32).toInt32))), .second, .unset, .unset, .unset, .unset, .unset]) rfl ?_
    show Steps p.tables e below (T2.setTop (mkF m 38 #[.val (.long p1), .second, .val (.long p2), .second, .val (.long p3), .second, .val (.long p4), .second, .val (.int p5), .val (.long (p1 &&& (9223372036854775807 : Int64))), .second, .val (.long (p2 &&& (9223372036854775807 : Int64))), .second, .val (.long (own_pick (p1 &&& (9223372036854775807 : Int64)) p3 p5)), .second, .val (.long (own_pick (p2 &&& (9223372036854775807 : Int64)) p4 ((p5.toUInt32 >>> ((2 : Int32) &&& 31).toUInt32).toInt32))), .second, .unset, .unset, .unset, .unset, .unset] [])) _
    refine XS.lload X2.here hx rfl (hb hby at_38) rfl ?_
    show Steps p.tables e below (T2.setTop (mkF m 40 #[.val (.long p1), .second, .val (.long p2), .second, .val (.long p3), .second, .val (.long p4), .second, .val (.int p5), .val (.long (p1 &&& (9223372036854775807 : Int64))), .second, .val (.long (p2 &&& (9223372036854775807 : Int64))), .second, .val (.long (own_pick (p1 &&& (9223372036854775807 : Int64)) p3 p5)), .second, .val (.long (own_pick (p2 &&& (9223372036854775807 : Int64)) p4 ((p5.toUInt32 >>> ((2 : Int32) &&& 31).toUInt32).toInt32))), .second, .unset, .unset, .unset, .unset, .unset] [(.long (p1 &&& (9223372036854775807 : Int64)))])) _
    refine XS.lconst X2.here hx rfl (hb hby at_40) ?_
    show Steps p.tables e below (T2.setTop (mkF m 41 #[.val (.long p1), .second, .val (.long p2), .second, .val (.long p3), .second, .val (.long p4), .second, .val (.int p5), .val (.long (p1 &&& (9223372036854775807 : Int64))), .second, .val (.long (p2 &&& (9223372036854775807 : Int64))), .second, .val (.long (own_pick (p1 &&& (9223372036854775807 : Int64)) p3 p5)), .second, .val (.long (own_pick (p2 &&& (9223372036854775807 : Int64)) p4 ((p5.toUInt32 >>> ((2 : Int32) &&& 31).toUInt32).toInt32))), .second, .unset, .unset, .unset, .unset, .unset] [(.long (0 : Int64)), (.long (p1 &&& (9223372036854775807 : Int64)))])) _
    refine XS.lcmp X2.here hx rfl (hb hby at_41) rfl ?_
    show Steps p.tables e below (T2.setTop (mkF m 42 #[.val (.long p1), .second, .val (.long p2), .second, .val (.long p3), .second, .val (.long p4), .second, .val (.int p5), .val (.long (p1 &&& (9223372036854775807 : Int64))), .second, .val (.long (p2 &&& (9223372036854775807 : Int64))), .second, .val (.long (own_pick (p1 &&& (9223372036854775807 : Int64)) p3 p5)), .second, .val (.long (own_pick (p2 &&& (9223372036854775807 : Int64)) p4 ((p5.toUInt32 >>> ((2 : Int32) &&& 31).toUInt32).toInt32))), .second, .unset, .unset, .unset, .unset, .unset] [(.int (lcmpW (p1 &&& (9223372036854775807 : Int64)) (0 : Int64)))])) _
    refine XS.ifNo X2.here hx rfl (hb hby at_42) rfl ((if0 _ _).trans (feq (show ¬ ((lcmpW (p1 &&& (9223372036854775807 : Int64)) (0 : Int64)) = (0 : Int32)) from hc42)).1) ?_
    show Steps p.tables e below (T2.setTop (mkF m 45 #[.val (.long p1), .second, .val (.long p2), .second, .val (.long p3), .second, .val (.long p4), .second, .val (.int p5), .val (.long (p1 &&& (9223372036854775807 : Int64))), .second, .val (.long (p2 &&& (9223372036854775807 : Int64))), .second, .val (.long (own_pick (p1 &&& (9223372036854775807 : Int64)) p3 p5)), .second, .val (.long (own_pick (p2 &&& (9223372036854775807 : Int64)) p4 ((p5.toUInt32 >>> ((2 : Int32) &&& 31).toUInt32).toInt32))), .second, .unset, .unset, .unset, .unset, .unset] [])) _
    refine XS.lload X2.here hx rfl (hb hby at_45) rfl ?_
    show Steps p.tables e below (T2.setTop (mkF m 47 #[.val (.long p1), .second, .val (.long p2), .second, .val (.long p3), .second, .val (.long p4), .second, .val (.int p5), .val (.long (p1 &&& (9223372036854775807 : Int64))), .second, .val (.long (p2 &&& (9223372036854775807 : Int64))), .second, .val (.long (own_pick (p1 &&& (9223372036854775807 : Int64)) p3 p5)), .second, .val (.long (own_pick (p2 &&& (9223372036854775807 : Int64)) p4 ((p5.toUInt32 >>> ((2 : Int32) &&& 31).toUInt32).toInt32))), .second, .unset, .unset, .unset, .unset, .unset] [(.long (p2 &&& (9223372036854775807 : Int64)))])) _
    refine XS.lconst X2.here hx rfl (hb hby at_47) ?_
    show Steps p.tables e below (T2.setTop (mkF m 48 #[.val (.long p1), .second, .val (.long p2), .second, .val (.long p3), .second, .val (.long p4), .second, .val (.int p5), .val (.long (p1 &&& (9223372036854775807 : Int64))), .second, .val (.long (p2 &&& (9223372036854775807 : Int64))), .second, .val (.long (own_pick (p1 &&& (9223372036854775807 : Int64)) p3 p5)), .second, .val (.long (own_pick (p2 &&& (9223372036854775807 : Int64)) p4 ((p5.toUInt32 >>> ((2 : Int32) &&& 31).toUInt32).toInt32))), .second, .unset, .unset, .unset, .unset, .unset] [(.long (0 : Int64)), (.long (p2 &&& (9223372036854775807 : Int64)))])) _
    refine XS.lcmp X2.here hx rfl (hb hby at_48) rfl ?_
    show Steps p.tables e below (T2.setTop (mkF m 49 #[.val (.long p1), .second, .val (.long p2), .second, .val (.long p3), .second, .val (.long p4), .second, .val (.int p5), .val (.long (p1 &&& (9223372036854775807 : Int64))), .second, .val (.long (p2 &&& (9223372036854775807 : Int64))), .second, .val (.long (own_pick (p1 &&& (9223372036854775807 : Int64)) p3 p5)), .second, .val (.long (own_pick (p2 &&& (9223372036854775807 : Int64)) p4 ((p5.toUInt32 >>> ((2 : Int32) &&& 31).toUInt32).toInt32))), .second, .unset, .unset, .unset, .unset, .unset] [(.int (lcmpW (p2 &&& (9223372036854775807 : Int64)) (0 : Int64)))])) _
    refine XS.ifNo X2.here hx rfl (hb hby at_49) rfl ((if0 _ _).trans (feq (show ¬ ((lcmpW (p2 &&& (9223372036854775807 : Int64)) (0 : Int64)) = (0 : Int32)) from hc49)).1) ?_
    show Steps p.tables e below (T2.setTop (mkF m 52 #[.val (.long p1), .second, .val (.long p2), .second, .val (.long p3), .second, .val (.long p4), .second, .val (.int p5), .val (.long (p1 &&& (9223372036854775807 : Int64))), .second, .val (.long (p2 &&& (9223372036854775807 : Int64))), .second, .val (.long (own_pick (p1 &&& (9223372036854775807 : Int64)) p3 p5)), .second, .val (.long (own_pick (p2 &&& (9223372036854775807 : Int64)) p4 ((p5.toUInt32 >>> ((2 : Int32) &&& 31).toUInt32).toInt32))), .second, .unset, .unset, .unset, .unset, .unset] [])) _
    refine XS.lload X2.here hx rfl (hb hby at_52) rfl ?_
    show Steps p.tables e below (T2.setTop (mkF m 54 #[.val (.long p1), .second, .val (.long p2), .second, .val (.long p3), .second, .val (.long p4), .second, .val (.int p5), .val (.long (p1 &&& (9223372036854775807 : Int64))), .second, .val (.long (p2 &&& (9223372036854775807 : Int64))), .second, .val (.long (own_pick (p1 &&& (9223372036854775807 : Int64)) p3 p5)), .second, .val (.long (own_pick (p2 &&& (9223372036854775807 : Int64)) p4 ((p5.toUInt32 >>> ((2 : Int32) &&& 31).toUInt32).toInt32))), .second, .unset, .unset, .unset, .unset, .unset] [(.long (own_pick (p1 &&& (9223372036854775807 : Int64)) p3 p5))])) _
    refine XS.lconst X2.here hx rfl (hb hby at_54) ?_
    show Steps p.tables e below (T2.setTop (mkF m 55 #[.val (.long p1), .second, .val (.long p2), .second, .val (.long p3), .second, .val (.long p4), .second, .val (.int p5), .val (.long (p1 &&& (9223372036854775807 : Int64))), .second, .val (.long (p2 &&& (9223372036854775807 : Int64))), .second, .val (.long (own_pick (p1 &&& (9223372036854775807 : Int64)) p3 p5)), .second, .val (.long (own_pick (p2 &&& (9223372036854775807 : Int64)) p4 ((p5.toUInt32 >>> ((2 : Int32) &&& 31).toUInt32).toInt32))), .second, .unset, .unset, .unset, .unset, .unset] [(.long (0 : Int64)), (.long (own_pick (p1 &&& (9223372036854775807 : Int64)) p3 p5))])) _
    refine XS.lcmp X2.here hx rfl (hb hby at_55) rfl ?_
    show Steps p.tables e below (T2.setTop (mkF m 56 #[.val (.long p1), .second, .val (.long p2), .second, .val (.long p3), .second, .val (.long p4), .second, .val (.int p5), .val (.long (p1 &&& (9223372036854775807 : Int64))), .second, .val (.long (p2 &&& (9223372036854775807 : Int64))), .second, .val (.long (own_pick (p1 &&& (9223372036854775807 : Int64)) p3 p5)), .second, .val (.long (own_pick (p2 &&& (9223372036854775807 : Int64)) p4 ((p5.toUInt32 >>> ((2 : Int32) &&& 31).toUInt32).toInt32))), .second, .unset, .unset, .unset, .unset, .unset] [(.int (lcmpW (own_pick (p1 &&& (9223372036854775807 : Int64)) p3 p5) (0 : Int64)))])) _
    refine XS.ifNo X2.here hx rfl (hb hby at_56) rfl ((if0 _ _).trans (feq (show ¬ ((lcmpW (own_pick (p1 &&& (9223372036854775807 : Int64)) p3 p5) (0 : Int64)) = (0 : Int32)) from hc56)).1) ?_
    show Steps p.tables e below (T2.setTop (mkF m 59 #[.val (.long p1), .second, .val (.long p2), .second, .val (.long p3), .second, .val (.long p4), .second, .val (.int p5), .val (.long (p1 &&& (9223372036854775807 : Int64))), .second, .val (.long (p2 &&& (9223372036854775807 : Int64))), .second, .val (.long (own_pick (p1 &&& (9223372036854775807 : Int64)) p3 p5)), .second, .val (.long (own_pick (p2 &&& (9223372036854775807 : Int64)) p4 ((p5.toUInt32 >>> ((2 : Int32) &&& 31).toUInt32).toInt32))), .second, .unset, .unset, .unset, .unset, .unset] [])) _
    refine XS.lload X2.here hx rfl (hb hby at_59) rfl ?_
    show Steps p.tables e below (T2.setTop (mkF m 61 #[.val (.long p1), .second, .val (.long p2), .second, .val (.long p3), .second, .val (.long p4), .second, .val (.int p5), .val (.long (p1 &&& (9223372036854775807 : Int64))), .second, .val (.long (p2 &&& (9223372036854775807 : Int64))), .second, .val (.long (own_pick (p1 &&& (9223372036854775807 : Int64)) p3 p5)), .second, .val (.long (own_pick (p2 &&& (9223372036854775807 : Int64)) p4 ((p5.toUInt32 >>> ((2 : Int32) &&& 31).toUInt32).toInt32))), .second, .unset, .unset, .unset, .unset, .unset] [(.long (own_pick (p2 &&& (9223372036854775807 : Int64)) p4 ((p5.toUInt32 >>> ((2 : Int32) &&& 31).toUInt32).toInt32)))])) _
    refine XS.lconst X2.here hx rfl (hb hby at_61) ?_
    show Steps p.tables e below (T2.setTop (mkF m 62 #[.val (.long p1), .second, .val (.long p2), .second, .val (.long p3), .second, .val (.long p4), .second, .val (.int p5), .val (.long (p1 &&& (9223372036854775807 : Int64))), .second, .val (.long (p2 &&& (9223372036854775807 : Int64))), .second, .val (.long (own_pick (p1 &&& (9223372036854775807 : Int64)) p3 p5)), .second, .val (.long (own_pick (p2 &&& (9223372036854775807 : Int64)) p4 ((p5.toUInt32 >>> ((2 : Int32) &&& 31).toUInt32).toInt32))), .second, .unset, .unset, .unset, .unset, .unset] [(.long (0 : Int64)), (.long (own_pick (p2 &&& (9223372036854775807 : Int64)) p4 ((p5.toUInt32 >>> ((2 : Int32) &&& 31).toUInt32).toInt32)))])) _
    refine XS.lcmp X2.here hx rfl (hb hby at_62) rfl ?_
    show Steps p.tables e below (T2.setTop (mkF m 63 #[.val (.long p1), .second, .val (.long p2), .second, .val (.long p3), .second, .val (.long p4), .second, .val (.int p5), .val (.long (p1 &&& (9223372036854775807 : Int64))), .second, .val (.long (p2 &&& (9223372036854775807 : Int64))), .second, .val (.long (own_pick (p1 &&& (9223372036854775807 : Int64)) p3 p5)), .second, .val (.long (own_pick (p2 &&& (9223372036854775807 : Int64)) p4 ((p5.toUInt32 >>> ((2 : Int32) &&& 31).toUInt32).toInt32))), .second, .unset, .unset, .unset, .unset, .unset] [(.int (lcmpW (own_pick (p2 &&& (9223372036854775807 : Int64)) p4 ((p5.toUInt32 >>> ((2 : Int32) &&& 31).toUInt32).toInt32)) (0 : Int64)))])) _
    refine XS.ifNo X2.here hx rfl (hb hby at_63) rfl ((if0 _ _).trans (teq (show (lcmpW (own_pick (p2 &&& (9223372036854775807 : Int64)) p4 ((p5.toUInt32 >>> ((2 : Int32) &&& 31).toUInt32).toInt32)) (0 : Int64)) = (0 : Int32) from hc63)).2) ?_
    show Steps p.tables e below (T2.setTop (mkF m 66 #[.val (.long p1), .second, .val (.long p2), .second, .val (.long p3), .second, .val (.long p4), .second, .val (.int p5), .val (.long (p1 &&& (9223372036854775807 : Int64))), .second, .val (.long (p2 &&& (9223372036854775807 : Int64))), .second, .val (.long (own_pick (p1 &&& (9223372036854775807 : Int64)) p3 p5)), .second, .val (.long (own_pick (p2 &&& (9223372036854775807 : Int64)) p4 ((p5.toUInt32 >>> ((2 : Int32) &&& 31).toUInt32).toInt32))), .second, .unset, .unset, .unset, .unset, .unset] [])) _
    refine XS.iconst X2.here hx rfl (hb hby at_66) ?_
    show Steps p.tables e below (T2.setTop (mkF m 67 #[.val (.long p1), .second, .val (.long p2), .second, .val (.long p3), .second, .val (.long p4), .second, .val (.int p5), .val (.long (p1 &&& (9223372036854775807 : Int64))), .second, .val (.long (p2 &&& (9223372036854775807 : Int64))), .second, .val (.long (own_pick (p1 &&& (9223372036854775807 : Int64)) p3 p5)), .second, .val (.long (own_pick (p2 &&& (9223372036854775807 : Int64)) p4 ((p5.toUInt32 >>> ((2 : Int32) &&& 31).toUInt32).toInt32))), .second, .unset, .unset, .unset, .unset, .unset] [(.int (1 : Int32))])) _
    exact retN X2 hx (t := .boolean) Bd.returns (by simp) (hb hby at_67) hr
  · show Qrm0 Z p1 p2 p3 p4 p5 h0 n0 _ T2.heap _
    rw [e2q]
    exact ⟨rfl, N2⟩
theorem pd_3 : parseMethodDescriptor "(JJ)V" = some ⟨[.long, .long], none⟩ := by decide +kernel
theorem pd_4 : parseMethodDescriptor "(Lcom/example/coretally/coretally/core/Ratio;)I" = some ⟨[(.object "com/example/coretally/coretally/core/Ratio")], some .int⟩ := by decide +kernel
theorem pd_5 : parseMethodDescriptor "(I)I" = some ⟨[.int], some .int⟩ := by decide +kernel
set_option maxRecDepth 65536 in
set_option maxHeartbeats 40000000 in
theorem rm0E (l : Launch) (Z : State) (a0 : Array Value) (hw : ∀ d ∈ tables_1, d.before a0 Z = true) (ws : List Jvm.Cond) (p1 : Int64) (p2 : Int64) (p3 : Int64) (p4 : Int64) (p5 : Int32) (h0 : Heap) (n0 : Nat) (Z0 : n0 ≤ h0.size) (hc42 : ¬ ((lcmpW (p1 &&& (9223372036854775807 : Int64)) (0 : Int64)) = (0 : Int32))) (hc49 : ¬ ((lcmpW (p2 &&& (9223372036854775807 : Int64)) (0 : Int64)) = (0 : Int32))) (hc56 : ¬ ((lcmpW (own_pick (p1 &&& (9223372036854775807 : Int64)) p3 p5) (0 : Int64)) = (0 : Int32))) (hc63 : ¬ ((lcmpW (own_pick (p2 &&& (9223372036854775807 : Int64)) p4 ((p5.toUInt32 >>> ((2 : Int32) &&& 31).toUInt32).toInt32)) (0 : Int64)) = (0 : Int32))) (hc114 : ¬ ((own_cmp (p1 &&& (9223372036854775807 : Int64)) (own_pick (p1 &&& (9223372036854775807 : Int64)) p3 p5)) = (0 : Int32))) :
    MetFree l x (head1 (Jvm.Cond.code x code maxLocals ret :: ws) room_1) (fun aa_ U => aa_ = #[(.long p1), (.long p2), (.long p3), (.long p4), (.int p5)] ∧ Z.Warmed39 U.vm ∧ U.heap = h0) (fun _ _ _ _ _ => True) (fun _ U o U' => ∃ v L, o = .returned v ∧ Qrm0 Z p1 p2 p3 p4 p5 h0 n0 v U'.heap L ∧ FrameEnd U o U' L room_1.cells room_1.slots) := by
  refine MetFree.of_bodySF (plainFor_of_name pn_3) hisR ?_
  intro p e s m args below meth c s₁ Bd hml0 hP hK
  obtain ⟨rfl, hZ, hh⟩ := hP
  have hx := Bd.exec
  have hby := Bd.bytes
  have hml : c.maxLocals = 22 := hml0
  have hown : s.vm.findClass "com/example/coretally/coretally/core/RatioCompareToPinLaw" = some m.cls := findClass_of_methodNamed Bd.named
  have hnm := (name_of_methodNamed Bd.named Bd.method).1
  have X0 : Stand p l e room_1 s m #[(.long p1), (.long p2), (.long p3), (.long p4), (.int p5)] below meth c s₁ [] 0 0 := Stand.of_body Bd
  have e0 : s₁.heap = h0 := by rw [← hh, Bd.state]; rfl
  have N0 := Fr.nil n0
  have pre0 : ∀ tt_, Steps p.tables e below (s₁.setTop (mkF m 0 #[.val (.long p1), .second, .val (.long p2), .second, .val (.long p3), .second, .val (.long p4), .second, .val (.int p5), .unset, .unset, .unset, .unset, .unset, .unset, .unset, .unset, .unset, .unset, .unset, .unset, .unset] [])) tt_ → Steps p.tables e below (s₁.setTop (entryFrame m #[(.long p1), (.long p2), (.long p3), (.long p4), (.int p5)] maxLocals)) tt_ := fun tt_ kk_ => castTop (ef_0 m p1 p2 p3 p4 p5) kk_
  obtain ⟨_, _, ⟨T1, L1, k1, n1⟩, -, X1, ⟨Lc1, hQ1, l1, y1, z1⟩, st1⟩ := Jvm.LawKit.callS X0 hx (y := (⟨"com/example/coretally/coretally/core/RatioCompareToPinLaw", "pick", "(JJI)J"⟩ : MethodName)) hown (mvT hZ (hw _ (List.mem_of_getElem? (i := 1) rfl))) (mvT hZ (hw _ (List.mem_of_getElem? (i := 2) rfl))) (mvT hZ (hw _ (List.mem_of_getElem? (i := 3) rfl))) (mvT hZ (hw _ (List.mem_of_getElem? (i := 4) rfl))) (by decide) (backOf (W := 0) (rm1 l Z a0 hw [] (p1 &&& (9223372036854775807 : Int64)) p3 p5 h0 n0 Z0 ) hZ (hw _ (List.mem_of_getElem? (i := 4) rfl)) (hw _ (List.mem_of_getElem? (i := 3) rfl)) (by decide) (by decide)) (g := (mkF m 20 #[.val (.long p1), .second, .val (.long p2), .second, .val (.long p3), .second, .val (.long p4), .second, .val (.int p5), .val (.long (p1 &&& (9223372036854775807 : Int64))), .second, .val (.long (p2 &&& (9223372036854775807 : Int64))), .second, .unset, .unset, .unset, .unset, .unset, .unset, .unset, .unset, .unset] [(.int p5), (.long p3), (.long (p1 &&& (9223372036854775807 : Int64)))])) rfl (by rw [hml]; rfl) (argsL := [(.long (p1 &&& (9223372036854775807 : Int64))), (.long p3), (.int p5)]) (rest := []) (lenOf pd_2 rfl) rfl (by show 2 * 0 + _ ≤ _; exact Nat.le_of_eq rfl) (hb hby at_20) (fun _ _ => ⟨rfl, e0, (by decide : 0 + 0 ≤ _), (by decide : 0 + 0 ≤ _)⟩)
  dsimp only [Pt.U, Pt.locs, Pt.cells, Pt.slots] at X1 l1 y1 z1 st1 hQ1
  subst l1 y1 z1
  obtain ⟨rfl, N1q, e1q⟩ := hQ1
  have N1 := Fr.app N0 N1q
  obtain ⟨_, _, ⟨T2, L2, k2, n2⟩, -, X2, ⟨Lc2, hQ2, l2, y2, z2⟩, st2⟩ := Jvm.LawKit.callS X1 hx (y := (⟨"com/example/coretally/coretally/core/RatioCompareToPinLaw", "pick", "(JJI)J"⟩ : MethodName)) hown (mvT hZ (hw _ (List.mem_of_getElem? (i := 1) rfl))) (mvT hZ (hw _ (List.mem_of_getElem? (i := 2) rfl))) (mvT hZ (hw _ (List.mem_of_getElem? (i := 3) rfl))) (mvT hZ (hw _ (List.mem_of_getElem? (i := 4) rfl))) (by decide) (backOf (W := 0) (rm1 l Z a0 hw [] (p2 &&& (9223372036854775807 : Int64)) p4 ((p5.toUInt32 >>> ((2 : Int32) &&& 31).toUInt32).toInt32) h0 n0 Z0 ) hZ (hw _ (List.mem_of_getElem? (i := 4) rfl)) (hw _ (List.mem_of_getElem? (i := 3) rfl)) (by decide) (by decide)) (g := (mkF m 33 #[.val (.long p1), .second, .val (.long p2), .second, .val (.long p3), .second, .val (.long p4), .second, .val (.int p5), .val (.long (p1 &&& (9223372036854775807 : Int64))), .second, .val (.long (p2 &&& (9223372036854775807 : Int64))), .second, .val (.long (own_pick (p1 &&& (9223372036854775807 : Int64)) p3 p5)), .second, .unset, .unset, .unset, .unset, .unset, .unset, .unset] [(.int ((p5.toUInt32 >>> ((2 : Int32) &&& 31).toUInt32).toInt32)), (.long p4), (.long (p2 &&& (9223372036854775807 : Int64)))])) rfl (by rw [hml]; rfl) (argsL := [(.long (p2 &&& (9223372036854775807 : Int64))), (.long p4), (.int ((p5.toUInt32 >>> ((2 : Int32) &&& 31).toUInt32).toInt32))]) (rest := []) (lenOf pd_2 rfl) rfl (by show 2 * 0 + _ ≤ _; exact Nat.le_of_eq rfl) (hb hby at_33) (fun _ _ => ⟨rfl, e1q, (by decide : 0 + 0 ≤ _), (by decide : 0 + 0 ≤ _)⟩)
  dsimp only [Pt.U, Pt.locs, Pt.cells, Pt.slots] at X2 l2 y2 z2 st2 hQ2
  subst l2 y2 z2
  obtain ⟨rfl, N2q, e2q⟩ := hQ2
  have N2 := Fr.app N1 N2q
  obtain ⟨T3, h3, X3, e3, E3, A3, D3, -, st3⟩ := newO X2 hx hZ hown (hw _ (List.mem_of_getElem? (i := 5) rfl)) (hw _ (List.mem_of_getElem? (i := 6) rfl)) (hw _ (List.mem_of_getElem? (i := 7) rfl)) e2q (g := (mkF m 68 #[.val (.long p1), .second, .val (.long p2), .second, .val (.long p3), .second, .val (.long p4), .second, .val (.int p5), .val (.long (p1 &&& (9223372036854775807 : Int64))), .second, .val (.long (p2 &&& (9223372036854775807 : Int64))), .second, .val (.long (own_pick (p1 &&& (9223372036854775807 : Int64)) p3 p5)), .second, .val (.long (own_pick (p2 &&& (9223372036854775807 : Int64)) p4 ((p5.toUInt32 >>> ((2 : Int32) &&& 31).toUInt32).toInt32))), .second, .unset, .unset, .unset, .unset, .unset] [])) rfl (hb hby at_68) (by decide) (by decide)
  obtain ⟨b3, g3⟩ : ∃ zz_, zz_ = h0.size := ⟨_, rfl⟩
  rw [← g3] at A3 D3 st3
  have g_b3 : n0 ≤ b3 := Nat.le_trans Z0 (Nat.le_of_eq g3.symm)
  have sz_b3 : h0.size ≤ b3 := Nat.le_trans (Keep.refl h0 []).1 (Nat.le_of_eq g3.symm)
  have F_programCores_b3 : Fld Z h3 b3 "com/example/coretally/coretally/core/Ratio" "programCores" "J" (.long (0 : Int64)) := D3 (Or.inr (hw _ (List.mem_of_getElem? (i := 20) rfl))) (ty := .long) (by decide)
  have F_bundleCores_b3 : Fld Z h3 b3 "com/example/coretally/coretally/core/Ratio" "bundleCores" "J" (.long (0 : Int64)) := D3 (Or.inr (hw _ (List.mem_of_getElem? (i := 22) rfl))) (ty := .long) (by decide)
  have sz5 : n0 ≤ h3.size := (Nat.le_trans Z0 E3.1)
  obtain ⟨_, _, ⟨T4, L4, k4, n4⟩, -, X4, ⟨Lc4, hQ4, l4, y4, z4⟩, st4⟩ := X3.specialBack hx (y := (⟨"com/example/coretally/coretally/core/Ratio", "<init>", "(JJ)V"⟩ : MethodName)) rfl hown (mvT hZ (hw _ (List.mem_of_getElem? (i := 8) rfl))) (mvT hZ (hw _ (List.mem_of_getElem? (i := 9) rfl))) (mvT hZ (hw _ (List.mem_of_getElem? (i := 10) rfl))) (by decide) (backOf (W := 1) (rm2 l Z a0 hw [] b3 (p1 &&& (9223372036854775807 : Int64)) (p2 &&& (9223372036854775807 : Int64)) h3 n0 sz5 A3 F_programCores_b3 F_bundleCores_b3 g_b3 (own_pos _ (own_m p1) hc42) (own_pos _ (own_m p2) hc49)) hZ (hw _ (List.mem_of_getElem? (i := 10) rfl)) (hw _ (List.mem_of_getElem? (i := 7) rfl)) (by decide) (by decide)) (g := (mkF m 76 #[.val (.long p1), .second, .val (.long p2), .second, .val (.long p3), .second, .val (.long p4), .second, .val (.int p5), .val (.long (p1 &&& (9223372036854775807 : Int64))), .second, .val (.long (p2 &&& (9223372036854775807 : Int64))), .second, .val (.long (own_pick (p1 &&& (9223372036854775807 : Int64)) p3 p5)), .second, .val (.long (own_pick (p2 &&& (9223372036854775807 : Int64)) p4 ((p5.toUInt32 >>> ((2 : Int32) &&& 31).toUInt32).toInt32))), .second, .unset, .unset, .unset, .unset, .unset] [(.long (p2 &&& (9223372036854775807 : Int64))), (.long (p1 &&& (9223372036854775807 : Int64))), (.ref b3), (.ref b3)])) rfl (by rw [hml]; rfl) (Steps.refl _) (a := b3) (argsL := [(.long (p1 &&& (9223372036854775807 : Int64))), (.long (p2 &&& (9223372036854775807 : Int64)))]) (rest := [(.ref b3)]) (lenOf pd_3 rfl) rfl (by show 2 * 0 + _ ≤ _; exact Nat.le_of_eq rfl) (hb hby at_76) (fun _ _ => ⟨rfl, e3, (by decide : 1 + 0 ≤ _), (by decide : 2 + 0 ≤ _)⟩)
  dsimp only [Pt.U, Pt.locs, Pt.cells, Pt.slots] at X4 l4 y4 z4 st4 hQ4
  subst l4 y4 z4
  obtain ⟨rfl, N4q, K4, p4_1, p4_2, p4_3⟩ := hQ4
  have N4 := Fr.app N2 N4q
  obtain ⟨T6, h6, X6, e6, E6, A6, D6, -, st6⟩ := newO X4 hx hZ hown (hw _ (List.mem_of_getElem? (i := 5) rfl)) (hw _ (List.mem_of_getElem? (i := 6) rfl)) (hw _ (List.mem_of_getElem? (i := 7) rfl)) rfl (g := (mkF m 81 #[.val (.long p1), .second, .val (.long p2), .second, .val (.long p3), .second, .val (.long p4), .second, .val (.int p5), .val (.long (p1 &&& (9223372036854775807 : Int64))), .second, .val (.long (p2 &&& (9223372036854775807 : Int64))), .second, .val (.long (own_pick (p1 &&& (9223372036854775807 : Int64)) p3 p5)), .second, .val (.long (own_pick (p2 &&& (9223372036854775807 : Int64)) p4 ((p5.toUInt32 >>> ((2 : Int32) &&& 31).toUInt32).toInt32))), .second, .val (.ref b3), .unset, .unset, .unset, .unset] [])) rfl (hb hby at_81) (by decide) (by decide)
  obtain ⟨b6, g6⟩ : ∃ zz_, zz_ = T4.heap.size := ⟨_, rfl⟩
  rw [← g6] at A6 D6 st6
  have ne_b3_b6 : b3 ≠ b6 := Nat.ne_of_lt (Nat.lt_of_lt_of_le p4_1.lt (Nat.le_of_eq g6.symm))
  have sz7 : n0 ≤ T4.heap.size := (Nat.le_trans sz5 K4.1)
  have g_b6 : n0 ≤ b6 := Nat.le_trans sz7 (Nat.le_of_eq g6.symm)
  have kp8 : Keep h0 T4.heap [] := (((Keep.refl h0 []).ext E3).trans K4 (allS (Or.inr sz_b3) all0))
  have sz_b6 : h0.size ≤ b6 := Nat.le_trans kp8.1 (Nat.le_of_eq g6.symm)
  have F_programCores_b6 : Fld Z h6 b6 "com/example/coretally/coretally/core/Ratio" "programCores" "J" (.long (0 : Int64)) := D6 (Or.inr (hw _ (List.mem_of_getElem? (i := 20) rfl))) (ty := .long) (by decide)
  have F_bundleCores_b6 : Fld Z h6 b6 "com/example/coretally/coretally/core/Ratio" "bundleCores" "J" (.long (0 : Int64)) := D6 (Or.inr (hw _ (List.mem_of_getElem? (i := 22) rfl))) (ty := .long) (by decide)
  have sz10 : n0 ≤ h6.size := (Nat.le_trans sz7 E6.1)
  obtain ⟨_, _, ⟨T9, L9, k9, n9⟩, -, X9, ⟨Lc9, hQ9, l9, y9, z9⟩, st9⟩ := X6.specialBack hx (y := (⟨"com/example/coretally/coretally/core/Ratio", "<init>", "(JJ)V"⟩ : MethodName)) rfl hown (mvT hZ (hw _ (List.mem_of_getElem? (i := 8) rfl))) (mvT hZ (hw _ (List.mem_of_getElem? (i := 9) rfl))) (mvT hZ (hw _ (List.mem_of_getElem? (i := 10) rfl))) (by decide) (backOf (W := 1) (rm2 l Z a0 hw [] b6 (own_pick (p1 &&& (9223372036854775807 : Int64)) p3 p5) (own_pick (p2 &&& (9223372036854775807 : Int64)) p4 ((p5.toUInt32 >>> ((2 : Int32) &&& 31).toUInt32).toInt32)) h6 n0 sz10 A6 F_programCores_b6 F_bundleCores_b6 g_b6 (own_pos _ (own_pick_nn _ _ _ (own_m p1)) hc56) (own_pos _ (own_pick_nn _ _ _ (own_m p2)) hc63)) hZ (hw _ (List.mem_of_getElem? (i := 10) rfl)) (hw _ (List.mem_of_getElem? (i := 7) rfl)) (by decide) (by decide)) (g := (mkF m 89 #[.val (.long p1), .second, .val (.long p2), .second, .val (.long p3), .second, .val (.long p4), .second, .val (.int p5), .val (.long (p1 &&& (9223372036854775807 : Int64))), .second, .val (.long (p2 &&& (9223372036854775807 : Int64))), .second, .val (.long (own_pick (p1 &&& (9223372036854775807 : Int64)) p3 p5)), .second, .val (.long (own_pick (p2 &&& (9223372036854775807 : Int64)) p4 ((p5.toUInt32 >>> ((2 : Int32) &&& 31).toUInt32).toInt32))), .second, .val (.ref b3), .unset, .unset, .unset, .unset] [(.long (own_pick (p2 &&& (9223372036854775807 : Int64)) p4 ((p5.toUInt32 >>> ((2 : Int32) &&& 31).toUInt32).toInt32))), (.long (own_pick (p1 &&& (9223372036854775807 : Int64)) p3 p5)), (.ref b6), (.ref b6)])) rfl (by rw [hml]; rfl) (Steps.refl _) (a := b6) (argsL := [(.long (own_pick (p1 &&& (9223372036854775807 : Int64)) p3 p5)), (.long (own_pick (p2 &&& (9223372036854775807 : Int64)) p4 ((p5.toUInt32 >>> ((2 : Int32) &&& 31).toUInt32).toInt32)))]) (rest := [(.ref b6)]) (lenOf pd_3 rfl) rfl (by show 2 * 0 + _ ≤ _; exact Nat.le_of_eq rfl) (hb hby at_89) (fun _ _ => ⟨rfl, e6, (by decide : 2 + 0 ≤ _), (by decide : 4 + 0 ≤ _)⟩)
  dsimp only [Pt.U, Pt.locs, Pt.cells, Pt.slots] at X9 l9 y9 z9 st9 hQ9
  subst l9 y9 z9
  obtain ⟨rfl, N9q, K9, p9_1, p9_2, p9_3⟩ := hQ9
  have N9 := Fr.app N4 N9q
  have f12_F_b3_programCores := ((p4_2.ext E6).keep K9 (ninS ne_b3_b6 nin0))
  have f13_F_b3_bundleCores := ((p4_3.ext E6).keep K9 (ninS ne_b3_b6 nin0))
  have sz14 : n0 ≤ T9.heap.size := (Nat.le_trans sz10 K9.1)
  have f15_E_b3 := ((p4_1.ext E6).keep K9)
  obtain ⟨cq11, kq11, q11a, q11b, q11c⟩ := isOf hZ rfl f15_E_b3
  obtain ⟨_, _, ⟨T11, L11, k11, n11⟩, -, X11, ⟨Lc11, hQ11, l11, y11, z11⟩, st11⟩ := X9.virtualBack hx (y := (⟨"com/example/coretally/coretally/core/Ratio", "compareTo", "(Lcom/example/coretally/coretally/core/Ratio;)I"⟩ : MethodName)) (z := (⟨"com/example/coretally/coretally/core/Ratio", "compareTo", "(Lcom/example/coretally/coretally/core/Ratio;)I"⟩ : MethodName)) hown (mvT hZ (hw _ (List.mem_of_getElem? (i := 23) rfl))) (mvT hZ (hw _ (List.mem_of_getElem? (i := 24) rfl))) (notFace_of_selects (args := #[]) (mvT hZ (hw _ (List.mem_of_getElem? (i := 26) rfl)))) (mvT hZ (hw _ (List.mem_of_getElem? (i := 26) rfl))) (mvT hZ (hw _ (List.mem_of_getElem? (i := 25) rfl))) (by decide) (backOf (W := 0) (rm5 l Z a0 hw [] b3 b6 (p1 &&& (9223372036854775807 : Int64)) (own_pick (p1 &&& (9223372036854775807 : Int64)) p3 p5) (p2 &&& (9223372036854775807 : Int64)) (own_pick (p2 &&& (9223372036854775807 : Int64)) p4 ((p5.toUInt32 >>> ((2 : Int32) &&& 31).toUInt32).toInt32)) (T9.heap) n0 sz14 f12_F_b3_programCores p9_2 f13_F_b3_bundleCores p9_3) hZ (hw _ (List.mem_of_getElem? (i := 27) rfl)) (hw _ (List.mem_of_getElem? (i := 7) rfl)) (by decide) (by decide)) q11a q11c (g := (mkF m 98 #[.val (.long p1), .second, .val (.long p2), .second, .val (.long p3), .second, .val (.long p4), .second, .val (.int p5), .val (.long (p1 &&& (9223372036854775807 : Int64))), .second, .val (.long (p2 &&& (9223372036854775807 : Int64))), .second, .val (.long (own_pick (p1 &&& (9223372036854775807 : Int64)) p3 p5)), .second, .val (.long (own_pick (p2 &&& (9223372036854775807 : Int64)) p4 ((p5.toUInt32 >>> ((2 : Int32) &&& 31).toUInt32).toInt32))), .second, .val (.ref b3), .val (.ref b6), .unset, .unset, .unset] [(.ref b6), (.ref b3)])) rfl (by rw [hml]; rfl) (Steps.refl _) (argsL := [(.ref b6)]) (rest := []) (lenOf pd_4 rfl) rfl (by show 2 * 0 + _ ≤ _; exact Nat.le_of_eq rfl) (hb hby at_98) (fun _ _ => ⟨rfl, rfl, (by decide : 2 + 0 ≤ _), (by decide : 4 + 0 ≤ _)⟩)
  dsimp only [Pt.U, Pt.locs, Pt.cells, Pt.slots] at X11 l11 y11 z11 st11 hQ11
  subst l11 y11 z11
  obtain ⟨rfl, N11q, e11q⟩ := hQ11
  have N11 := Fr.app N9 N11q
  obtain ⟨_, _, ⟨T16, L16, k16, n16⟩, -, X16, ⟨Lc16, hQ16, l16, y16, z16⟩, st16⟩ := Jvm.LawKit.callS X11 hx (y := (⟨"com/example/coretally/coretally/core/RatioCompareToPinLaw", "cmp", "(JJ)I"⟩ : MethodName)) hown (mvT hZ (hw _ (List.mem_of_getElem? (i := 32) rfl))) (mvT hZ (hw _ (List.mem_of_getElem? (i := 33) rfl))) (mvT hZ (hw _ (List.mem_of_getElem? (i := 3) rfl))) (mvT hZ (hw _ (List.mem_of_getElem? (i := 34) rfl))) (by decide) (backOf (W := 0) (rm7 l Z a0 hw [] (p1 &&& (9223372036854775807 : Int64)) (own_pick (p1 &&& (9223372036854775807 : Int64)) p3 p5) (T9.heap) n0 sz14 ) hZ (hw _ (List.mem_of_getElem? (i := 34) rfl)) (hw _ (List.mem_of_getElem? (i := 3) rfl)) (by decide) (by decide)) (g := (mkF m 107 #[.val (.long p1), .second, .val (.long p2), .second, .val (.long p3), .second, .val (.long p4), .second, .val (.int p5), .val (.long (p1 &&& (9223372036854775807 : Int64))), .second, .val (.long (p2 &&& (9223372036854775807 : Int64))), .second, .val (.long (own_pick (p1 &&& (9223372036854775807 : Int64)) p3 p5)), .second, .val (.long (own_pick (p2 &&& (9223372036854775807 : Int64)) p4 ((p5.toUInt32 >>> ((2 : Int32) &&& 31).toUInt32).toInt32))), .second, .val (.ref b3), .val (.ref b6), .val (.int (if own_cmp (p1 &&& (9223372036854775807 : Int64)) (own_pick (p1 &&& (9223372036854775807 : Int64)) p3 p5) = 0 then own_cmp (p2 &&& (9223372036854775807 : Int64)) (own_pick (p2 &&& (9223372036854775807 : Int64)) p4 ((p5.toUInt32 >>> ((2 : Int32) &&& 31).toUInt32).toInt32)) else own_cmp (p1 &&& (9223372036854775807 : Int64)) (own_pick (p1 &&& (9223372036854775807 : Int64)) p3 p5))), .unset, .unset] [(.long (own_pick (p1 &&& (9223372036854775807 : Int64)) p3 p5)), (.long (p1 &&& (9223372036854775807 : Int64)))])) rfl (by rw [hml]; rfl) (argsL := [(.long (p1 &&& (9223372036854775807 : Int64))), (.long (own_pick (p1 &&& (9223372036854775807 : Int64)) p3 p5))]) (rest := []) (lenOf pd_1 rfl) rfl (by show 2 * 0 + _ ≤ _; exact Nat.le_of_eq rfl) (hb hby at_107) (fun _ _ => ⟨rfl, e11q, (by decide : 2 + 0 ≤ _), (by decide : 4 + 0 ≤ _)⟩)
  dsimp only [Pt.U, Pt.locs, Pt.cells, Pt.slots] at X16 l16 y16 z16 st16 hQ16
  subst l16 y16 z16
  obtain ⟨rfl, N16q, e16q⟩ := hQ16
  have N16 := Fr.app N11 N16q
  obtain ⟨_, _, ⟨T17, L17, k17, n17⟩, -, X17, ⟨Lc17, hQ17, l17, y17, z17⟩, st17⟩ := Jvm.LawKit.callS X16 hx (y := (⟨"com/example/coretally/coretally/core/RatioCompareToPinLaw", "sign", "(I)I"⟩ : MethodName)) hown (mvT hZ (hw _ (List.mem_of_getElem? (i := 35) rfl))) (mvT hZ (hw _ (List.mem_of_getElem? (i := 36) rfl))) (mvT hZ (hw _ (List.mem_of_getElem? (i := 3) rfl))) (mvT hZ (hw _ (List.mem_of_getElem? (i := 37) rfl))) (by decide) (backOf (W := 0) (rm8 l Z a0 hw [] (if own_cmp (p1 &&& (9223372036854775807 : Int64)) (own_pick (p1 &&& (9223372036854775807 : Int64)) p3 p5) = 0 then own_cmp (p2 &&& (9223372036854775807 : Int64)) (own_pick (p2 &&& (9223372036854775807 : Int64)) p4 ((p5.toUInt32 >>> ((2 : Int32) &&& 31).toUInt32).toInt32)) else own_cmp (p1 &&& (9223372036854775807 : Int64)) (own_pick (p1 &&& (9223372036854775807 : Int64)) p3 p5)) (T9.heap) n0 sz14 ) hZ (hw _ (List.mem_of_getElem? (i := 37) rfl)) (hw _ (List.mem_of_getElem? (i := 3) rfl)) (by decide) (by decide)) (g := (mkF m 133 #[.val (.long p1), .second, .val (.long p2), .second, .val (.long p3), .second, .val (.long p4), .second, .val (.int p5), .val (.long (p1 &&& (9223372036854775807 : Int64))), .second, .val (.long (p2 &&& (9223372036854775807 : Int64))), .second, .val (.long (own_pick (p1 &&& (9223372036854775807 : Int64)) p3 p5)), .second, .val (.long (own_pick (p2 &&& (9223372036854775807 : Int64)) p4 ((p5.toUInt32 >>> ((2 : Int32) &&& 31).toUInt32).toInt32))), .second, .val (.ref b3), .val (.ref b6), .val (.int (if own_cmp (p1 &&& (9223372036854775807 : Int64)) (own_pick (p1 &&& (9223372036854775807 : Int64)) p3 p5) = 0 then own_cmp (p2 &&& (9223372036854775807 : Int64)) (own_pick (p2 &&& (9223372036854775807 : Int64)) p4 ((p5.toUInt32 >>> ((2 : Int32) &&& 31).toUInt32).toInt32)) else own_cmp (p1 &&& (9223372036854775807 : Int64)) (own_pick (p1 &&& (9223372036854775807 : Int64)) p3 p5))), .val (.int (own_cmp (p1 &&& (9223372036854775807 : Int64)) (own_pick (p1 &&& (9223372036854775807 : Int64)) p3 p5))), .val (.int (own_cmp (p1 &&& (9223372036854775807 : Int64)) (own_pick (p1 &&& (9223372036854775807 : Int64)) p3 p5)))] [(.int (if own_cmp (p1 &&& (9223372036854775807 : Int64)) (own_pick (p1 &&& (9223372036854775807 : Int64)) p3 p5) = 0 then own_cmp (p2 &&& (9223372036854775807 : Int64)) (own_pick (p2 &&& (9223372036854775807 : Int64)) p4 ((p5.toUInt32 >>> ((2 : Int32) &&& 31).toUInt32).toInt32)) else own_cmp (p1 &&& (9223372036854775807 : Int64)) (own_pick (p1 &&& (9223372036854775807 : Int64)) p3 p5)))])) rfl (by rw [hml]; rfl) (argsL := [(.int (if own_cmp (p1 &&& (9223372036854775807 : Int64)) (own_pick (p1 &&& (9223372036854775807 : Int64)) p3 p5) = 0 then own_cmp (p2 &&& (9223372036854775807 : Int64)) (own_pick (p2 &&& (9223372036854775807 : Int64)) p4 ((p5.toUInt32 >>> ((2 : Int32) &&& 31).toUInt32).toInt32)) else own_cmp (p1 &&& (9223372036854775807 : Int64)) (own_pick (p1 &&& (9223372036854775807 : Int64)) p3 p5)))]) (rest := []) (lenOf pd_5 rfl) rfl (by show 2 * 0 + _ ≤ _; exact Nat.le_of_eq rfl) (hb hby at_133) (fun _ _ => ⟨rfl, e16q, (by decide : 2 + 0 ≤ _), (by decide : 4 + 0 ≤ _)⟩)
  dsimp only [Pt.U, Pt.locs, Pt.cells, Pt.slots] at X17 l17 y17 z17 st17 hQ17
  subst l17 y17 z17
  obtain ⟨rfl, N17q, e17q⟩ := hQ17
  have N17 := Fr.app N16 N17q
  obtain ⟨fs, hr, hrun, hended, hW, hsame⟩ := X17.leave (v := some (.int (1 : Int32))) (fun h => by rw [Bd.returns] at h; cases h)
  refine ⟨_, _, pre0 _ ?_, hrun, hended, _, _, rfl, ?_, ⟨_, rfl⟩, hW, hsame.mono (by decide) (by decide)⟩
  · show Steps p.tables e below (s₁.setTop (mkF m 0 #[.val (.long p1), .second, .val (.long p2), .second, .val (.long p3), .second, .val (.long p4), .second, .val (.int p5), .unset, .unset, .unset, .unset, .unset, .unset, .unset, .unset, .unset, .unset, .unset, .unset, .unset] [])) _
    refine XS.lloadN X0.here hx rfl (hb hby at_0) rfl ?_
    show Steps p.tables e below (s₁.setTop (mkF m 1 #[.val (.long p1), .second, .val (.long p2), .second, .val (.long p3), .second, .val (.long p4), .second, .val (.int p5), .unset, .unset, .unset, .unset, .unset, .unset, .unset, .unset, .unset, .unset, .unset, .unset, .unset] [(.long p1)])) _
    refine X0.ldc2Long hx hown (mvT hZ (hw _ (List.mem_of_getElem? (i := 0) rfl))) (g := (mkF m 1 #[.val (.long p1), .second, .val (.long p2), .second, .val (.long p3), .second, .val (.long p4), .second, .val (.int p5), .unset, .unset, .unset, .unset, .unset, .unset, .unset, .unset, .unset, .unset, .unset, .unset, .unset] [(.long p1)])) rfl (hb hby at_1) _ ?_
    show Steps p.tables e below (s₁.setTop (mkF m 4 #[.val (.long p1), .second, .val (.long p2), .second, .val (.long p3), .second, .val (.long p4), .second, .val (.int p5), .unset, .unset, .unset, .unset, .unset, .unset, .unset, .unset, .unset, .unset, .unset, .unset, .unset] [(.long (9223372036854775807 : Int64)), (.long p1)])) _
    refine XS.land X0.here hx rfl (hb hby at_4) rfl ?_
    show Steps p.tables e below (s₁.setTop (mkF m 5 #[.val (.long p1), .second, .val (.long p2), .second, .val (.long p3), .second, .val (.long p4), .second, .val (.int p5), .unset, .unset, .unset, .unset, .unset, .unset, .unset, .unset, .unset, .unset, .unset, .unset, .unset] [(.long (p1 &&& (9223372036854775807 : Int64)))])) _
    refine XS.lstore X0.here hx rfl (hb hby at_5) rfl (l' := #[.val (.long p1), .second, .val (.long p2), .second, .val (.long p3), .second, .val (.long p4), .second, .val (.int p5), .val (.long (p1 &&& (9223372036854775807 : Int64))), .second, .unset, .unset, .unset, .unset, .unset, .unset, .unset, .unset, .unset, .unset, .unset]) rfl ?_
    show Steps p.tables e below (s₁.setTop (mkF m 7 #[.val (.long p1), .second, .val (.long p2), .second, .val (.long p3), .second, .val (.long p4), .second, .val (.int p5), .val (.long (p1 &&& (9223372036854775807 : Int64))), .second, .unset, .unset, .unset, .unset, .unset, .unset, .unset, .unset, .unset, .unset, .unset] [])) _
    refine XS.lloadN X0.here hx rfl (hb hby at_7) rfl ?_
    show Steps p.tables e below (s₁.setTop (mkF m 8 #[.val (.long p1), .second, .val (.long p2), .second, .val (.long p3), .second, .val (.long p4), .second, .val (.int p5), .val (.long (p1 &&& (9223372036854775807 : Int64))), .second, .unset, .unset, .unset, .unset, .unset, .unset, .unset, .unset, .unset, .unset, .unset] [(.long p2)])) _
    refine X0.ldc2Long hx hown (mvT hZ (hw _ (List.mem_of_getElem? (i := 0) rfl))) (g := (mkF m 8 #[.val (.long p1), .second, .val (.long p2), .second, .val (.long p3), .second, .val (.long p4), .second, .val (.int p5), .val (.long (p1 &&& (9223372036854775807 : Int64))), .second, .unset, .unset, .unset, .unset, .unset, .unset, .unset, .unset, .unset, .unset, .unset] [(.long p2)])) rfl (hb hby at_8) _ ?_
    show Steps p.tables e below (s₁.setTop (mkF m 11 #[.val (.long p1), .second, .val (.long p2), .second, .val (.long p3), .second, .val (.long p4), .second, .val (.int p5), .val (.long (p1 &&& (9223372036854775807 : Int64))), .second, .unset, .unset, .unset, .unset, .unset, .unset, .unset, .unset, .unset, .unset, .unset] [(.long (9223372036854775807 : Int64)), (.long p2)])) _
    refine XS.land X0.here hx rfl (hb hby at_11) rfl ?_
    show Steps p.tables e below (s₁.setTop (mkF m 12 #[.val (.long p1), .second, .val (.long p2), .second, .val (.long p3), .second, .val (.long p4), .second, .val (.int p5), .val (.long (p1 &&& (9223372036854775807 : Int64))), .second, .unset, .unset, .unset, .unset, .unset, .unset, .unset, .unset, .unset, .unset, .unset] [(.long (p2 &&& (9223372036854775807 : Int64)))])) _
    refine XS.lstore X0.here hx rfl (hb hby at_12) rfl (l' := #[.val (.long p1), .second, .val (.long p2), .second, .val (.long p3), .second, .val (.long p4), .second, .val (.int p5), .val (.long (p1 &&& (9223372036854775807 : Int64))), .second, .val (.long (p2 &&& (9223372036854775807 : Int64))), .second, .unset, .unset, .unset, .unset, .unset, .unset, .unset, .unset, .unset]) rfl ?_
    show Steps p.tables e below (s₁.setTop (mkF m 14 #[.val (.long p1), .second, .val (.long p2), .second, .val (.long p3), .second, .val (.long p4), .second, .val (.int p5), .val (.long (p1 &&& (9223372036854775807 : Int64))), .second, .val (.long (p2 &&& (9223372036854775807 : Int64))), .second, .unset, .unset, .unset, .unset, .unset, .unset, .unset, .unset, .unset] [])) _
    refine XS.lload X0.here hx rfl (hb hby at_14) rfl ?_
    show Steps p.tables e below (s₁.setTop (mkF m 16 #[.val (.long p1), .second, .val (.long p2), .second, .val (.long p3), .second, .val (.long p4), .second, .val (.int p5), .val (.long (p1 &&& (9223372036854775807 : Int64))), .second, .val (.long (p2 &&& (9223372036854775807 : Int64))), .second, .unset, .unset, .unset, .unset, .unset, .unset, .unset, .unset, .unset] [(.long (p1 &&& (9223372036854775807 : Int64)))])) _
    refine XS.lload X0.here hx rfl (hb hby at_16) rfl ?_
    show Steps p.tables e below (s₁.setTop (mkF m 18 #[.val (.long p1), .second, .val (.long p2), .second, .val (.long p3), .second, .val (.long p4), .second, .val (.int p5), .val (.long (p1 &&& (9223372036854775807 : Int64))), .second, .val (.long (p2 &&& (9223372036854775807 : Int64))), .second, .unset, .unset, .unset, .unset, .unset, .unset, .unset, .unset, .unset] [(.long p3), (.long (p1 &&& (9223372036854775807 : Int64)))])) _
    refine XS.iload X0.here hx rfl (hb hby at_18) rfl ?_
    show Steps p.tables e below (s₁.setTop (mkF m 20 #[.val (.long p1), .second, .val (.long p2), .second, .val (.long p3), .second, .val (.long p4), .second, .val (.int p5), .val (.long (p1 &&& (9223372036854775807 : Int64))), .second, .val (.long (p2 &&& (9223372036854775807 : Int64))), .second, .unset, .unset, .unset, .unset, .unset, .unset, .unset, .unset, .unset] [(.int p5), (.long p3), (.long (p1 &&& (9223372036854775807 : Int64)))])) _
    refine st1 _ ?_
    show Steps p.tables e below (T1.setTop (mkF m 23 #[.val (.long p1), .second, .val (.long p2), .second, .val (.long p3), .second, .val (.long p4), .second, .val (.int p5), .val (.long (p1 &&& (9223372036854775807 : Int64))), .second, .val (.long (p2 &&& (9223372036854775807 : Int64))), .second, .unset, .unset, .unset, .unset, .unset, .unset, .unset, .unset, .unset] [(.long (own_pick (p1 &&& (9223372036854775807 : Int64)) p3 p5))])) _
    refine XS.lstore X1.here hx rfl (hb hby at_23) rfl (l' := #[.val (.long p1), .second, .val (.long p2), .second, .val (.long p3), .second, .val (.long p4), .second, .val (.int p5), .val (.long (p1 &&& (9223372036854775807 : Int64))), .second, .val (.long (p2 &&& (9223372036854775807 : Int64))), .second, .val (.long (own_pick (p1 &&& (9223372036854775807 : Int64)) p3 p5)), .second, .unset, .unset, .unset, .unset, .unset, .unset, .unset]) rfl ?_
    show Steps p.tables e below (T1.setTop (mkF m 25 #[.val (.long p1), .second, .val (.long p2), .second, .val (.long p3), .second, .val (.long p4), .second, .val (.int p5), .val (.long (p1 &&& (9223372036854775807 : Int64))), .second, .val (.long (p2 &&& (9223372036854775807 : Int64))), .second, .val (.long (own_pick (p1 &&& (9223372036854775807 : Int64)) p3 p5)), .second, .unset, .unset, .unset, .unset, .unset, .unset, .unset] [])) _
    refine XS.lload X1.here hx rfl (hb hby at_25) rfl ?_
    show Steps p.tables e below (T1.setTop (mkF m 27 #[.val (.long p1), .second, .val (.long p2), .second, .val (.long p3), .second, .val (.long p4), .second, .val (.int p5), .val (.long (p1 &&& (9223372036854775807 : Int64))), .second, .val (.long (p2 &&& (9223372036854775807 : Int64))), .second, .val (.long (own_pick (p1 &&& (9223372036854775807 : Int64)) p3 p5)), .second, .unset, .unset, .unset, .unset, .unset, .unset, .unset] [(.long (p2 &&& (9223372036854775807 : Int64)))])) _
    refine XS.lload X1.here hx rfl (hb hby at_27) rfl ?_
    show Steps p.tables e below (T1.setTop (mkF m 29 #[.val (.long p1), .second, .val (.long p2), .second, .val (.long p3), .second, .val (.long p4), .second, .val (.int p5), .val (.long (p1 &&& (9223372036854775807 : Int64))), .second, .val (.long (p2 &&& (9223372036854775807 : Int64))), .second, .val (.long (own_pick (p1 &&& (9223372036854775807 : Int64)) p3 p5)), .second, .unset, .unset, .unset, .unset, .unset, .unset, .unset] [(.long p4), (.long (p2 &&& (9223372036854775807 : Int64)))])) _
    refine XS.iload X1.here hx rfl (hb hby at_29) rfl ?_
    show Steps p.tables e below (T1.setTop (mkF m 31 #[.val (.long p1), .second, .val (.long p2), .second, .val (.long p3), .second, .val (.long p4), .second, .val (.int p5), .val (.long (p1 &&& (9223372036854775807 : Int64))), .second, .val (.long (p2 &&& (9223372036854775807 : Int64))), .second, .val (.long (own_pick (p1 &&& (9223372036854775807 : Int64)) p3 p5)), .second, .unset, .unset, .unset, .unset, .unset, .unset, .unset] [(.int p5), (.long p4), (.long (p2 &&& (9223372036854775807 : Int64)))])) _
    refine XS.iconst X1.here hx rfl (hb hby at_31) ?_
    show Steps p.tables e below (T1.setTop (mkF m 32 #[.val (.long p1), .second, .val (.long p2), .second, .val (.long p3), .second, .val (.long p4), .second, .val (.int p5), .val (.long (p1 &&& (9223372036854775807 : Int64))), .second, .val (.long (p2 &&& (9223372036854775807 : Int64))), .second, .val (.long (own_pick (p1 &&& (9223372036854775807 : Int64)) p3 p5)), .second, .unset, .unset, .unset, .unset, .unset, .unset, .unset] [(.int (2 : Int32)), (.int p5), (.long p4), (.long (p2 &&& (9223372036854775807 : Int64)))])) _
    refine XS.iushr X1.here hx rfl (hb hby at_32) rfl ?_
    show Steps p.tables e below (T1.setTop (mkF m 33 #[.val (.long p1), .second, .val (.long p2), .second, .val (.long p3), .second, .val (.long p4), .second, .val (.int p5), .val (.long (p1 &&& (9223372036854775807 : Int64))), .second, .val (.long (p2 &&& (9223372036854775807 : Int64))), .second, .val (.long (own_pick (p1 &&& (9223372036854775807 : Int64)) p3 p5)), .second, .unset, .unset, .unset, .unset, .unset, .unset, .unset] [(.int ((p5.toUInt32 >>> ((2 : Int32) &&& 31).toUInt32).toInt32)), (.long p4), (.long (p2 &&& (9223372036854775807 : Int64)))])) _
    refine st2 _ ?_
    show Steps p.tables e below (T2.setTop (mkF m 36 #[.val (.long p1), .second, .val (.long p2), .second, .val (.long p3), .second, .val (.long p4), .second, .val (.int p5), .val (.long (p1 &&& (9223372036854775807 : Int64))), .second, .val (.long (p2 &&& (9223372036854775807 : Int64))), .second, .val (.long (own_pick (p1 &&& (9223372036854775807 : Int64)) p3 p5)), .second, .unset, .unset, .unset, .unset, .unset, .unset, .unset] [(.long (own_pick (p2 &&& (9223372036854775807 : Int64)) p4 ((p5.toUInt32 >>> ((2 : Int32) &&& 31).toUInt32).toInt32)))])) _
    refine XS.lstore X2.here hx rfl (hb hby at_36) rfl (l' := #[.val (.long p1), .second, .val (.long p2), .second, .val (.long p3), .second, .val (.long p4), .second, .val (.int p5), .val (.long (p1 &&& (9223372036854775807 : Int64))), .second, .val (.long (p2 &&& (9223372036854775807 : Int64))), .second, .val (.long (own_pick (p1 &&& (9223372036854775807 : Int64)) p3 p5)), .second, .val (.long (own_pick (p2 &&& (9223372036854775807 : Int64)) p4 ((p5.toUInt32 >>> ((2 : Int32) &&& 31).toUInt32).toInt32))), .second, .unset, .unset, .unset, .unset, .unset]) rfl ?_
    show Steps p.tables e below (T2.setTop (mkF m 38 #[.val (.long p1), .second, .val (.long p2), .second, .val (.long p3), .second, .val (.long p4), .second, .val (.int p5), .val (.long (p1 &&& (9223372036854775807 : Int64))), .second, .val (.long (p2 &&& (9223372036854775807 : Int64))), .second, .val (.long (own_pick (p1 &&& (9223372036854775807 : Int64)) p3 p5)), .second, .val (.long (own_pick (p2 &&& (9223372036854775807 : Int64)) p4 ((p5.toUInt32 >>> ((2 : Int32) &&& 31).toUInt32).toInt32))), .second, .unset, .unset, .unset, .unset, .unset] [])) _
    refine XS.lload X2.here hx rfl (hb hby at_38) rfl ?_
    show Steps p.tables e below (T2.setTop (mkF m 40 #[.val (.long p1), .second, .val (.long p2), .second, .val (.long p3), .second, .val (.long p4), .second, .val (.int p5), .val (.long (p1 &&& (9223372036854775807 : Int64))), .second, .val (.long (p2 &&& (9223372036854775807 : Int64))), .second, .val (.long (own_pick (p1 &&& (9223372036854775807 : Int64)) p3 p5)), .second, .val (.long (own_pick (p2 &&& (9223372036854775807 : Int64)) p4 ((p5.toUInt32 >>> ((2 : Int32) &&& 31).toUInt32).toInt32))), .second, .unset, .unset, .unset, .unset, .unset] [(.long (p1 &&& (9223372036854775807 : Int64)))])) _
    refine XS.lconst X2.here hx rfl (hb hby at_40) ?_
    show Steps p.tables e below (T2.setTop (mkF m 41 #[.val (.long p1), .second, .val (.long p2), .second, .val (.long p3), .second, .val (.long p4), .second, .val (.int p5), .val (.long (p1 &&& (9223372036854775807 : Int64))), .second, .val (.long (p2 &&& (9223372036854775807 : Int64))), .second, .val (.long (own_pick (p1 &&& (9223372036854775807 : Int64)) p3 p5)), .second, .val (.long (own_pick (p2 &&& (9223372036854775807 : Int64)) p4 ((p5.toUInt32 >>> ((2 : Int32) &&& 31).toUInt32).toInt32))), .second, .unset, .unset, .unset, .unset, .unset] [(.long (0 : Int64)), (.long (p1 &&& (9223372036854775807 : Int64)))])) _
    refine XS.lcmp X2.here hx rfl (hb hby at_41) rfl ?_
    show Steps p.tables e below (T2.setTop (mkF m 42 #[.val (.long p1), .second, .val (.long p2), .second, .val (.long p3), .second, .val (.long p4), .second, .val (.int p5), .val (.long (p1 &&& (9223372036854775807 : Int64))), .second, .val (.long (p2 &&& (9223372036854775807 : Int64))), .second, .val (.long (own_pick (p1 &&& (9223372036854775807 : Int64)) p3 p5)), .second, .val (.long (own_pick (p2 &&& (9223372036854775807 : Int64)) p4 ((p5.toUInt32 >>> ((2 : Int32) &&& 31).toUInt32).toInt32))), .second, .unset, .unset, .unset, .unset, .unset] [(.int (lcmpW (p1 &&& (9223372036854775807 : Int64)) (0 : Int64)))])) _
    refine XS.ifNo X2.here hx rfl (hb hby at_42) rfl ((if0 _ _).trans (feq (show ¬ ((lcmpW (p1 &&& (9223372036854775807 : Int64)) (0 : Int64)) = (0 : Int32)) from hc42)).1) ?_
    show Steps p.tables e below (T2.setTop (mkF m 45 #[.val (.long p1), .second, .val (.long p2), .second, .val (.long p3), .second, .val (.long p4), .second, .val (.int p5), .val (.long (p1 &&& (9223372036854775807 : Int64))), .second, .val (.long (p2 &&& (9223372036854775807 : Int64))), .second, .val (.long (own_pick (p1 &&& (9223372036854775807 : Int64)) p3 p5)), .second, .val (.long (own_pick (p2 &&& (9223372036854775807 : Int64)) p4 ((p5.toUInt32 >>> ((2 : Int32) &&& 31).toUInt32).toInt32))), .second, .unset, .unset, .unset, .unset, .unset] [])) _
    refine XS.lload X2.here hx rfl (hb hby at_45) rfl ?_
    show Steps p.tables e below (T2.setTop (mkF m 47 #[.val (.long p1), .second, .val (.long p2), .second, .val (.long p3), .second, .val (.long p4), .second, .val (.int p5), .val (.long (p1 &&& (9223372036854775807 : Int64))), .second, .val (.long (p2 &&& (9223372036854775807 : Int64))), .second, .val (.long (own_pick (p1 &&& (9223372036854775807 : Int64)) p3 p5)), .second, .val (.long (own_pick (p2 &&& (9223372036854775807 : Int64)) p4 ((p5.toUInt32 >>> ((2 : Int32) &&& 31).toUInt32).toInt32))), .second, .unset, .unset, .unset, .unset, .unset] [(.long (p2 &&& (9223372036854775807 : Int64)))])) _
    refine XS.lconst X2.here hx rfl (hb hby at_47) ?_
    show Steps p.tables e below (T2.setTop (mkF m 48 #[.val (.long p1), .second, .val (.long p2), .second, .val (.long p3), .second, .val (.long p4), .second, .val (.int p5), .val (.long (p1 &&& (9223372036854775807 : Int64))), .second, .val (.long (p2 &&& (9223372036854775807 : Int64))), .second, .val (.long (own_pick (p1 &&& (9223372036854775807 : Int64)) p3 p5)), .second, .val (.long (own_pick (p2 &&& (9223372036854775807 : Int64)) p4 ((p5.toUInt32 >>> ((2 : Int32) &&& 31).toUInt32).toInt32))), .second, .unset, .unset, .unset, .unset, .unset] [(.long (0 : Int64)), (.long (p2 &&& (9223372036854775807 : Int64)))])) _
    refine XS.lcmp X2.here hx rfl (hb hby at_48) rfl ?_
    show Steps p.tables e below (T2.setTop (mkF m 49 #[.val (.long p1), .second, .val (.long p2), .second, .val (.long p3), .second, .val (.long p4), .second, .val (.int p5), .val (.long (p1 &&& (9223372036854775807 : Int64))), .second, .val (.long (p2 &&& (9223372036854775807 : Int64))), .second, .val (.long (own_pick (p1 &&& (9223372036854775807 : Int64)) p3 p5)), .second, .val (.long (own_pick (p2 &&& (9223372036854775807 : Int64)) p4 ((p5.toUInt32 >>> ((2 : Int32) &&& 31).toUInt32).toInt32))), .second, .unset, .unset, .unset, .unset, .unset] [(.int (lcmpW (p2 &&& (9223372036854775807 : Int64)) (0 : Int64)))])) _
    refine XS.ifNo X2.here hx rfl (hb hby at_49) rfl ((if0 _ _).trans (feq (show ¬ ((lcmpW (p2 &&& (9223372036854775807 : Int64)) (0 : Int64)) = (0 : Int32)) from hc49)).1) ?_
    show Steps p.tables e below (T2.setTop (mkF m 52 #[.val (.long p1), .second, .val (.long p2), .second, .val (.long p3), .second, .val (.long p4), .second, .val (.int p5), .val (.long (p1 &&& (9223372036854775807 : Int64))), .second, .val (.long (p2 &&& (9223372036854775807 : Int64))), .second, .val (.long (own_pick (p1 &&& (9223372036854775807 : Int64)) p3 p5)), .second, .val (.long (own_pick (p2 &&& (9223372036854775807 : Int64)) p4 ((p5.toUInt32 >>> ((2 : Int32) &&& 31).toUInt32).toInt32))), .second, .unset, .unset, .unset, .unset, .unset] [])) _
    refine XS.lload X2.here hx rfl (hb hby at_52) rfl ?_
    show Steps p.tables e below (T2.setTop (mkF m 54 #[.val (.long p1), .second, .val (.long p2), .second, .val (.long p3), .second, .val (.long p4), .second, .val (.int p5), .val (.long (p1 &&& (9223372036854775807 : Int64))), .second, .val (.long (p2 &&& (9223372036854775807 : Int64))), .second, .val (.long (own_pick (p1 &&& (9223372036854775807 : Int64)) p3 p5)), .second, .val (.long (own_pick (p2 &&& (9223372036854775807 : Int64)) p4 ((p5.toUInt32 >>> ((2 : Int32) &&& 31).toUInt32).toInt32))), .second, .unset, .unset, .unset, .unset, .unset] [(.long (own_pick (p1 &&& (9223372036854775807 : Int64)) p3 p5))])) _
    refine XS.lconst X2.here hx rfl (hb hby at_54) ?_
    show Steps p.tables e below (T2.setTop (mkF m 55 #[.val (.long p1), .second, .val (.long p2), .second, .val (.long p3), .second, .val (.long p4), .second, .val (.int p5), .val (.long (p1 &&& (9223372036854775807 : Int64))), .second, .val (.long (p2 &&& (9223372036854775807 : Int64))), .second, .val (.long (own_pick (p1 &&& (9223372036854775807 : Int64)) p3 p5)), .second, .val (.long (own_pick (p2 &&& (9223372036854775807 : Int64)) p4 ((p5.toUInt32 >>> ((2 : Int32) &&& 31).toUInt32).toInt32))), .second, .unset, .unset, .unset, .unset, .unset] [(.long (0 : Int64)), (.long (own_pick (p1 &&& (9223372036854775807 : Int64)) p3 p5))])) _
    refine XS.lcmp X2.here hx rfl (hb hby at_55) rfl ?_
    show Steps p.tables e below (T2.setTop (mkF m 56 #[.val (.long p1), .second, .val (.long p2), .second, .val (.long p3), .second, .val (.long p4), .second, .val (.int p5), .val (.long (p1 &&& (9223372036854775807 : Int64))), .second, .val (.long (p2 &&& (9223372036854775807 : Int64))), .second, .val (.long (own_pick (p1 &&& (9223372036854775807 : Int64)) p3 p5)), .second, .val (.long (own_pick (p2 &&& (9223372036854775807 : Int64)) p4 ((p5.toUInt32 >>> ((2 : Int32) &&& 31).toUInt32).toInt32))), .second, .unset, .unset, .unset, .unset, .unset] [(.int (lcmpW (own_pick (p1 &&& (9223372036854775807 : Int64)) p3 p5) (0 : Int64)))])) _
    refine XS.ifNo X2.here hx rfl (hb hby at_56) rfl ((if0 _ _).trans (feq (show ¬ ((lcmpW (own_pick (p1 &&& (9223372036854775807 : Int64)) p3 p5) (0 : Int64)) = (0 : Int32)) from hc56)).1) ?_
    show Steps p.tables e below (T2.setTop (mkF m 59 #[.val (.long p1), .second, .val (.long p2), .second, .val (.long p3), .second, .val (.long p4), .second, .val (.int p5), .val (.long (p1 &&& (9223372036854775807 : Int64))), .second, .val (.long (p2 &&& (9223372036854775807 : Int64))), .second, .val (.long (own_pick (p1 &&& (9223372036854775807 : Int64)) p3 p5)), .second, .val (.long (own_pick (p2 &&& (9223372036854775807 : Int64)) p4 ((p5.toUInt32 >>> ((2 : Int32) &&& 31).toUInt32).toInt32))), .second, .unset, .unset, .unset, .unset, .unset] [])) _
    refine XS.lload X2.here hx rfl (hb hby at_59) rfl ?_
    show Steps p.tables e below (T2.setTop (mkF m 61 #[.val (.long p1), .second, .val (.long p2), .second, .val (.long p3), .second, .val (.long p4), .second, .val (.int p5), .val (.long (p1 &&& (9223372036854775807 : Int64))), .second, .val (.long (p2 &&& (9223372036854775807 : Int64))), .second, .val (.long (own_pick (p1 &&& (9223372036854775807 : Int64)) p3 p5)), .second, .val (.long (own_pick (p2 &&& (9223372036854775807 : Int64)) p4 ((p5.toUInt32 >>> ((2 : Int32) &&& 31).toUInt32).toInt32))), .second, .unset, .unset, .unset, .unset, .unset] [(.long (own_pick (p2 &&& (9223372036854775807 : Int64)) p4 ((p5.toUInt32 >>> ((2 : Int32) &&& 31).toUInt32).toInt32)))])) _
    refine XS.lconst X2.here hx rfl (hb hby at_61) ?_
    show Steps p.tables e below (T2.setTop (mkF m 62 #[.val (.long p1), .second, .val (.long p2), .second, .val (.long p3), .second, .val (.long p4), .second, .val (.int p5), .val (.long (p1 &&& (9223372036854775807 : Int64))), .second, .val (.long (p2 &&& (9223372036854775807 : Int64))), .second, .val (.long (own_pick (p1 &&& (9223372036854775807 : Int64)) p3 p5)), .second, .val (.long (own_pick (p2 &&& (9223372036854775807 : Int64)) p4 ((p5.toUInt32 >>> ((2 : Int32) &&& 31).toUInt32).toInt32))), .second, .unset, .unset, .unset, .unset, .unset] [(.long (0 : Int64)), (.long (own_pick (p2 &&& (9223372036854775807 : Int64)) p4 ((p5.toUInt32 >>> ((2 : Int32) &&& 31).toUInt32).toInt32)))])) _
    refine XS.lcmp X2.here hx rfl (hb hby at_62) rfl ?_
    show Steps p.tables e below (T2.setTop (mkF m 63 #[.val (.long p1), .second, .val (.long p2), .second, .val (.long p3), .second, .val (.long p4), .second, .val (.int p5), .val (.long (p1 &&& (9223372036854775807 : Int64))), .second, .val (.long (p2 &&& (9223372036854775807 : Int64))), .second, .val (.long (own_pick (p1 &&& (9223372036854775807 : Int64)) p3 p5)), .second, .val (.long (own_pick (p2 &&& (9223372036854775807 : Int64)) p4 ((p5.toUInt32 >>> ((2 : Int32) &&& 31).toUInt32).toInt32))), .second, .unset, .unset, .unset, .unset, .unset] [(.int (lcmpW (own_pick (p2 &&& (9223372036854775807 : Int64)) p4 ((p5.toUInt32 >>> ((2 : Int32) &&& 31).toUInt32).toInt32)) (0 : Int64)))])) _
    refine XS.ifYes X2.here hx rfl (pc0 := 63) (pc' := 68) rfl (hb hby at_63) rfl ((if0 _ _).trans (feq (show ¬ ((lcmpW (own_pick (p2 &&& (9223372036854775807 : Int64)) p4 ((p5.toUInt32 >>> ((2 : Int32) &&& 31).toUInt32).toInt32)) (0 : Int64)) = (0 : Int32)) from hc63)).2) (by decide) (by decide) ?_
    show Steps p.tables e below (T2.setTop (mkF m 68 #[.val (.long p1), .second, .val (.long p2), .second, .val (.long p3), .second, .val (.long p4), .second, .val (.int p5), .val (.long (p1 &&& (9223372036854775807 : Int64))), .second, .val (.long (p2 &&& (9223372036854775807 : Int64))), .second, .val (.long (own_pick (p1 &&& (9223372036854775807 : Int64)) p3 p5)), .second, .val (.long (own_pick (p2 &&& (9223372036854775807 : Int64)) p4 ((p5.toUInt32 >>> ((2 : Int32) &&& 31).toUInt32).toInt32))), .second, .unset, .unset, .unset, .unset, .unset] [])) _
    refine st3 _ ?_
    show Steps p.tables e below (T3.setTop (mkF m 71 #[.val (.long p1), .second, .val (.long p2), .second, .val (.long p3), .second, .val (.long p4), .second, .val (.int p5), .val (.long (p1 &&& (9223372036854775807 : Int64))), .second, .val (.long (p2 &&& (9223372036854775807 : Int64))), .second, .val (.long (own_pick (p1 &&& (9223372036854775807 : Int64)) p3 p5)), .second, .val (.long (own_pick (p2 &&& (9223372036854775807 : Int64)) p4 ((p5.toUInt32 >>> ((2 : Int32) &&& 31).toUInt32).toInt32))), .second, .unset, .unset, .unset, .unset, .unset] [(.ref b3)])) _
    refine XS.dup X3.here hx rfl (hb hby at_71) rfl rfl ?_
    show Steps p.tables e below (T3.setTop (mkF m 72 #[.val (.long p1), .second, .val (.long p2), .second, .val (.long p3), .second, .val (.long p4), .second, .val (.int p5), .val (.long (p1 &&& (9223372036854775807 : Int64))), .second, .val (.long (p2 &&& (9223372036854775807 : Int64))), .second, .val (.long (own_pick (p1 &&& (9223372036854775807 : Int64)) p3 p5)), .second, .val (.long (own_pick (p2 &&& (9223372036854775807 : Int64)) p4 ((p5.toUInt32 >>> ((2 : Int32) &&& 31).toUInt32).toInt32))), .second, .unset, .unset, .unset, .unset, .unset] [(.ref b3), (.ref b3)])) _
    refine XS.lload X3.here hx rfl (hb hby at_72) rfl ?_
    show Steps p.tables e below (T3.setTop (mkF m 74 #[.val (.long p1), .second, .val (.long p2), .second, .val (.long p3), .second, .val (.long p4), .second, .val (.int p5), .val (.long (p1 &&& (9223372036854775807 : Int64))), .second, .val (.long (p2 &&& (9223372036854775807 : Int64))), .second, .val (.long (own_pick (p1 &&& (9223372036854775807 : Int64)) p3 p5)), .second, .val (.long (own_pick (p2 &&& (9223372036854775807 : Int64)) p4 ((p5.toUInt32 >>> ((2 : Int32) &&& 31).toUInt32).toInt32))), .second, .unset, .unset, .unset, .unset, .unset] [(.long (p1 &&& (9223372036854775807 : Int64))), (.ref b3), (.ref b3)])) _
    refine XS.lload X3.here hx rfl (hb hby at_74) rfl ?_
    show Steps p.tables e below (T3.setTop (mkF m 76 #[.val (.long p1), .second, .val (.long p2), .second, .val (.long p3), .second, .val (.long p4), .second, .val (.int p5), .val (.long (p1 &&& (9223372036854775807 : Int64))), .second, .val (.long (p2 &&& (9223372036854775807 : Int64))), .second, .val (.long (own_pick (p1 &&& (9223372036854775807 : Int64)) p3 p5)), .second, .val (.long (own_pick (p2 &&& (9223372036854775807 : Int64)) p4 ((p5.toUInt32 >>> ((2 : Int32) &&& 31).toUInt32).toInt32))), .second, .unset, .unset, .unset, .unset, .unset] [(.long (p2 &&& (9223372036854775807 : Int64))), (.long (p1 &&& (9223372036854775807 : Int64))), (.ref b3), (.ref b3)])) _
    refine st4.trans ?_
    show Steps p.tables e below (T4.setTop (mkF m 79 #[.val (.long p1), .second, .val (.long p2), .second, .val (.long p3), .second, .val (.long p4), .second, .val (.int p5), .val (.long (p1 &&& (9223372036854775807 : Int64))), .second, .val (.long (p2 &&& (9223372036854775807 : Int64))), .second, .val (.long (own_pick (p1 &&& (9223372036854775807 : Int64)) p3 p5)), .second, .val (.long (own_pick (p2 &&& (9223372036854775807 : Int64)) p4 ((p5.toUInt32 >>> ((2 : Int32) &&& 31).toUInt32).toInt32))), .second, .unset, .unset, .unset, .unset, .unset] [(.ref b3)])) _
    refine XS.astore X4.here hx rfl (hb hby at_79) rfl rfl (l' := #[.val (.long p1), .second, .val (.long p2), .second, .val (.long p3), .second, .val (.long p4), .second, .val (.int p5), .val (.long (p1 &&& (9223372036854775807 : Int64))), .second, .val (.long (p2 &&& (9223372036854775807 : Int64))), .second, .val (.long (own_pick (p1 &&& (9223372036854775807 : Int64)) p3 p5)), .second, .val (.long (own_pick (p2 &&& (9223372036854775807 : Int64)) p4 ((p5.toUInt32 >>> ((2 : Int32) &&& 31).toUInt32).toInt32))), .second, .val (.ref b3), .unset, .unset, .unset, .unset]) rfl ?_
    show Steps p.tables e below (T4.setTop (mkF m 81 #[.val (.long p1), .second, .val (.long p2), .second, .val (.long p3), .second, .val (.long p4), .second, .val (.int p5), .val (.long (p1 &&& (9223372036854775807 : Int64))), .second, .val (.long (p2 &&& (9223372036854775807 : Int64))), .second, .val (.long (own_pick (p1 &&& (9223372036854775807 : Int64)) p3 p5)), .second, .val (.long (own_pick (p2 &&& (9223372036854775807 : Int64)) p4 ((p5.toUInt32 >>> ((2 : Int32) &&& 31).toUInt32).toInt32))), .second, .val (.ref b3), .unset, .unset, .unset, .unset] [])) _
    refine st6 _ ?_
    show Steps p.tables e below (T6.setTop (mkF m 84 #[.val (.long p1), .second, .val (.long p2), .second, .val (.long p3), .second, .val (.long p4), .second, .val (.int p5), .val (.long (p1 &&& (9223372036854775807 : Int64))), .second, .val (.long (p2 &&& (9223372036854775807 : Int64))), .second, .val (.long (own_pick (p1 &&& (9223372036854775807 : Int64)) p3 p5)), .second, .val (.long (own_pick (p2 &&& (9223372036854775807 : Int64)) p4 ((p5.toUInt32 >>> ((2 : Int32) &&& 31).toUInt32).toInt32))), .second, .val (.ref b3), .unset, .unset, .unset, .unset] [(.ref b6)])) _
    refine XS.dup X6.here hx rfl (hb hby at_84) rfl rfl ?_
    show Steps p.tables e below (T6.setTop (mkF m 85 #[.val (.long p1), .second, .val (.long p2), .second, .val (.long p3), .second, .val (.long p4), .second, .val (.int p5), .val (.long (p1 &&& (9223372036854775807 : Int64))), .second, .val (.long (p2 &&& (9223372036854775807 : Int64))), .second, .val (.long (own_pick (p1 &&& (9223372036854775807 : Int64)) p3 p5)), .second, .val (.long (own_pick (p2 &&& (9223372036854775807 : Int64)) p4 ((p5.toUInt32 >>> ((2 : Int32) &&& 31).toUInt32).toInt32))), .second, .val (.ref b3), .unset, .unset, .unset, .unset] [(.ref b6), (.ref b6)])) _
    refine XS.lload X6.here hx rfl (hb hby at_85) rfl ?_
    show Steps p.tables e below (T6.setTop (mkF m 87 #[.val (.long p1), .second, .val (.long p2), .second, .val (.long p3), .second, .val (.long p4), .second, .val (.int p5), .val (.long (p1 &&& (9223372036854775807 : Int64))), .second, .val (.long (p2 &&& (9223372036854775807 : Int64))), .second, .val (.long (own_pick (p1 &&& (9223372036854775807 : Int64)) p3 p5)), .second, .val (.long (own_pick (p2 &&& (9223372036854775807 : Int64)) p4 ((p5.toUInt32 >>> ((2 : Int32) &&& 31).toUInt32).toInt32))), .second, .val (.ref b3), .unset, .unset, .unset, .unset] [(.long (own_pick (p1 &&& (9223372036854775807 : Int64)) p3 p5)), (.ref b6), (.ref b6)])) _
    refine XS.lload X6.here hx rfl (hb hby at_87) rfl ?_
    show Steps p.tables e below (T6.setTop (mkF m 89 #[.val (.long p1), .second, .val (.long p2), .second, .val (.long p3), .second, .val (.long p4), .second, .val (.int p5), .val (.long (p1 &&& (9223372036854775807 : Int64))), .second, .val (.long (p2 &&& (9223372036854775807 : Int64))), .second, .val (.long (own_pick (p1 &&& (9223372036854775807 : Int64)) p3 p5)), .second, .val (.long (own_pick (p2 &&& (9223372036854775807 : Int64)) p4 ((p5.toUInt32 >>> ((2 : Int32) &&& 31).toUInt32).toInt32))), .second, .val (.ref b3), .unset, .unset, .unset, .unset] [(.long (own_pick (p2 &&& (9223372036854775807 : Int64)) p4 ((p5.toUInt32 >>> ((2 : Int32) &&& 31).toUInt32).toInt32))), (.long (own_pick (p1 &&& (9223372036854775807 : Int64)) p3 p5)), (.ref b6), (.ref b6)])) _
    refine st9.trans ?_
    show Steps p.tables e below (T9.setTop (mkF m 92 #[.val (.long p1), .second, .val (.long p2), .second, .val (.long p3), .second, .val (.long p4), .second, .val (.int p5), .val (.long (p1 &&& (9223372036854775807 : Int64))), .second, .val (.long (p2 &&& (9223372036854775807 : Int64))), .second, .val (.long (own_pick (p1 &&& (9223372036854775807 : Int64)) p3 p5)), .second, .val (.long (own_pick (p2 &&& (9223372036854775807 : Int64)) p4 ((p5.toUInt32 >>> ((2 : Int32) &&& 31).toUInt32).toInt32))), .second, .val (.ref b3), .unset, .unset, .unset, .unset] [(.ref b6)])) _
    refine XS.astore X9.here hx rfl (hb hby at_92) rfl rfl (l' := #[.val (.long p1), .second, .val (.long p2), .second, .val (.long p3), .second, .val (.long p4), .second, .val (.int p5), .val (.long (p1 &&& (9223372036854775807 : Int64))), .second, .val (.long (p2 &&& (9223372036854775807 : Int64))), .second, .val (.long (own_pick (p1 &&& (9223372036854775807 : Int64)) p3 p5)), .second, .val (.long (own_pick (p2 &&& (9223372036854775807 : Int64)) p4 ((p5.toUInt32 >>> ((2 : Int32) &&& 31).toUInt32).toInt32))), .second, .val (.ref b3), .val (.ref b6), .unset, .unset, .unset]) rfl ?_
    show Steps p.tables e below (T9.setTop (mkF m 94 #[.val (.long p1), .second, .val (.long p2), .second, .val (.long p3), .second, .val (.long p4), .second, .val (.int p5), .val (.long (p1 &&& (9223372036854775807 : Int64))), .second, .val (.long (p2 &&& (9223372036854775807 : Int64))), .second, .val (.long (own_pick (p1 &&& (9223372036854775807 : Int64)) p3 p5)), .second, .val (.long (own_pick (p2 &&& (9223372036854775807 : Int64)) p4 ((p5.toUInt32 >>> ((2 : Int32) &&& 31).toUInt32).toInt32))), .second, .val (.ref b3), .val (.ref b6), .unset, .unset, .unset] [])) _
    refine XS.aload X9.here hx rfl (hb hby at_94) rfl rfl ?_
    show Steps p.tables e below (T9.setTop (mkF m 96 #[.val (.long p1), .second, .val (.long p2), .second, .val (.long p3), .second, .val (.long p4), .second, .val (.int p5), .val (.long (p1 &&& (9223372036854775807 : Int64))), .second, .val (.long (p2 &&& (9223372036854775807 : Int64))), .second, .val (.long (own_pick (p1 &&& (9223372036854775807 : Int64)) p3 p5)), .second, .val (.long (own_pick (p2 &&& (9223372036854775807 : Int64)) p4 ((p5.toUInt32 >>> ((2 : Int32) &&& 31).toUInt32).toInt32))), .second, .val (.ref b3), .val (.ref b6), .unset, .unset, .unset] [(.ref b3)])) _
    refine XS.aload X9.here hx rfl (hb hby at_96) rfl rfl ?_
    show Steps p.tables e below (T9.setTop (mkF m 98 #[.val (.long p1), .second, .val (.long p2), .second, .val (.long p3), .second, .val (.long p4), .second, .val (.int p5), .val (.long (p1 &&& (9223372036854775807 : Int64))), .second, .val (.long (p2 &&& (9223372036854775807 : Int64))), .second, .val (.long (own_pick (p1 &&& (9223372036854775807 : Int64)) p3 p5)), .second, .val (.long (own_pick (p2 &&& (9223372036854775807 : Int64)) p4 ((p5.toUInt32 >>> ((2 : Int32) &&& 31).toUInt32).toInt32))), .second, .val (.ref b3), .val (.ref b6), .unset, .unset, .unset] [(.ref b6), (.ref b3)])) _
    refine st11.trans ?_
    show Steps p.tables e below (T11.setTop (mkF m 101 #[.val (.long p1), .second, .val (.long p2), .second, .val (.long p3), .second, .val (.long p4), .second, .val (.int p5), .val (.long (p1 &&& (9223372036854775807 : Int64))), .second, .val (.long (p2 &&& (9223372036854775807 : Int64))), .second, .val (.long (own_pick (p1 &&& (9223372036854775807 : Int64)) p3 p5)), .second, .val (.long (own_pick (p2 &&& (9223372036854775807 : Int64)) p4 ((p5.toUInt32 >>> ((2 : Int32) &&& 31).toUInt32).toInt32))), .second, .val (.ref b3), .val (.ref b6), .unset, .unset, .unset] [(.int (if own_cmp (p1 &&& (9223372036854775807 : Int64)) (own_pick (p1 &&& (9223372036854775807 : Int64)) p3 p5) = 0 then own_cmp (p2 &&& (9223372036854775807 : Int64)) (own_pick (p2 &&& (9223372036854775807 : Int64)) p4 ((p5.toUInt32 >>> ((2 : Int32) &&& 31).toUInt32).toInt32)) else own_cmp (p1 &&& (9223372036854775807 : Int64)) (own_pick (p1 &&& (9223372036854775807 : Int64)) p3 p5)))])) _
    refine XS.istore X11.here hx rfl (hb hby at_101) rfl (l' := #[.val (.long p1), .second, .val (.long p2), .second, .val (.long p3), .second, .val (.long p4), .second, .val (.int p5), .val (.long (p1 &&& (9223372036854775807 : Int64))), .second, .val (.long (p2 &&& (9223372036854775807 : Int64))), .second, .val (.long (own_pick (p1 &&& (9223372036854775807 : Int64)) p3 p5)), .second, .val (.long (own_pick (p2 &&& (9223372036854775807 : Int64)) p4 ((p5.toUInt32 >>> ((2 : Int32) &&& 31).toUInt32).toInt32))), .second, .val (.ref b3), .val (.ref b6), .val (.int (if own_cmp (p1 &&& (9223372036854775807 : Int64)) (own_pick (p1 &&& (9223372036854775807 : Int64)) p3 p5) = 0 then own_cmp (p2 &&& (9223372036854775807 : Int64)) (own_pick (p2 &&& (9223372036854775807 : Int64)) p4 ((p5.toUInt32 >>> ((2 : Int32) &&& 31).toUInt32).toInt32)) else own_cmp (p1 &&& (9223372036854775807 : Int64)) (own_pick (p1 &&& (9223372036854775807 : Int64)) p3 p5))), .unset, .unset]) rfl ?_
    show Steps p.tables e below (T11.setTop (mkF m 103 #[.val (.long p1), .second, .val (.long p2), .second, .val (.long p3), .second, .val (.long p4), .second, .val (.int p5), .val (.long (p1 &&& (9223372036854775807 : Int64))), .second, .val (.long (p2 &&& (9223372036854775807 : Int64))), .second, .val (.long (own_pick (p1 &&& (9223372036854775807 : Int64)) p3 p5)), .second, .val (.long (own_pick (p2 &&& (9223372036854775807 : Int64)) p4 ((p5.toUInt32 >>> ((2 : Int32) &&& 31).toUInt32).toInt32))), .second, .val (.ref b3), .val (.ref b6), .val (.int (if own_cmp (p1 &&& (9223372036854775807 : Int64)) (own_pick (p1 &&& (9223372036854775807 : Int64)) p3 p5) = 0 then own_cmp (p2 &&& (9223372036854775807 : Int64)) (own_pick (p2 &&& (9223372036854775807 : Int64)) p4 ((p5.toUInt32 >>> ((2 : Int32) &&& 31).toUInt32).toInt32)) else own_cmp (p1 &&& (9223372036854775807 : Int64)) (own_pick (p1 &&& (9223372036854775807 : Int64)) p3 p5))), .unset, .unset] [])) _
    refine XS.lload X11.here hx rfl (hb hby at_103) rfl ?_
    show Steps p.tables e below (T11.setTop (mkF m 105 #[.val (.long p1), .second, .val (.long p2), .second, .val (.long p3), .second, .val (.long p4), .second, .val (.int p5), .val (.long (p1 &&& (9223372036854775807 : Int64))), .second, .val (.long (p2 &&& (9223372036854775807 : Int64))), .second, .val (.long (own_pick (p1 &&& (9223372036854775807 : Int64)) p3 p5)), .second, .val (.long (own_pick (p2 &&& (9223372036854775807 : Int64)) p4 ((p5.toUInt32 >>> ((2 : Int32) &&& 31).toUInt32).toInt32))), .second, .val (.ref b3), .val (.ref b6), .val (.int (if own_cmp (p1 &&& (9223372036854775807 : Int64)) (own_pick (p1 &&& (9223372036854775807 : Int64)) p3 p5) = 0 then own_cmp (p2 &&& (9223372036854775807 : Int64)) (own_pick (p2 &&& (9223372036854775807 : Int64)) p4 ((p5.toUInt32 >>> ((2 : Int32) &&& 31).toUInt32).toInt32)) else own_cmp (p1 &&& (9223372036854775807 : Int64)) (own_pick (p1 &&& (9223372036854775807 : Int64)) p3 p5))), .unset, .unset] [(.long (p1 &&& (9223372036854775807 : Int64)))])) _
    refine XS.lload X11.here hx rfl (hb hby at_105) rfl ?_
    show Steps p.tables e below (T11.setTop (mkF m 107 #[.val (.long p1), .second, .val (.long p2), .second, .val (.long p3), .second, .val (.long p4), .second, .val (.int p5), .val (.long (p1 &&& (9223372036854775807 : Int64))), .second, .val (.long (p2 &&& (9223372036854775807 : Int64))), .second, .val (.long (own_pick (p1 &&& (9223372036854775807 : Int64)) p3 p5)), .second, .val (.long (own_pick (p2 &&& (9223372036854775807 : Int64)) p4 ((p5.toUInt32 >>> ((2 : Int32) &&& 31).toUInt32).toInt32))), .second, .val (.ref b3), .val (.ref b6), .val (.int (if own_cmp (p1 &&& (9223372036854775807 : Int64)) (own_pick (p1 &&& (9223372036854775807 : Int64)) p3 p5) = 0 then own_cmp (p2 &&& (9223372036854775807 : Int64)) (own_pick (p2 &&& (9223372036854775807 : Int64)) p4 ((p5.toUInt32 >>> ((2 : Int32) &&& 31).toUInt32).toInt32)) else own_cmp (p1 &&& (9223372036854775807 : Int64)) (own_pick (p1 &&& (9223372036854775807 : Int64)) p3 p5))), .unset, .unset] [(.long (own_pick (p1 &&& (9223372036854775807 : Int64)) p3 p5)), (.long (p1 &&& (9223372036854775807 : Int64)))])) _
    refine st16 _ ?_
    show Steps p.tables e below (T16.setTop (mkF m 110 #[.val (.long p1), .second, .val (.long p2), .second, .val (.long p3), .second, .val (.long p4), .second, .val (.int p5), .val (.long (p1 &&& (9223372036854775807 : Int64))), .second, .val (.long (p2 &&& (9223372036854775807 : Int64))), .second, .val (.long (own_pick (p1 &&& (9223372036854775807 : Int64)) p3 p5)), .second, .val (.long (own_pick (p2 &&& (9223372036854775807 : Int64)) p4 ((p5.toUInt32 >>> ((2 : Int32) &&& 31).toUInt32).toInt32))), .second, .val (.ref b3), .val (.ref b6), .val (.int (if own_cmp (p1 &&& (9223372036854775807 : Int64)) (own_pick (p1 &&& (9223372036854775807 : Int64)) p3 p5) = 0 then own_cmp (p2 &&& (9223372036854775807 : Int64)) (own_pick (p2 &&& (9223372036854775807 : Int64)) p4 ((p5.toUInt32 >>> ((2 : Int32) &&& 31).toUInt32).toInt32)) else own_cmp (p1 &&& (9223372036854775807 : Int64)) (own_pick (p1 &&& (9223372036854775807 : Int64)) p3 p5))), .unset, .unset] [(.int (own_cmp (p1 &&& (9223372036854775807 : Int64)) (own_pick (p1 &&& (9223372036854775807 : Int64)) p3 p5)))])) _
    refine XS.istore X16.here hx rfl (hb hby at_110) rfl (l' := #[.val (.long p1), .second, .val (.long p2), .second, .val (.long p3), .second, .val (.long p4), .second, .val (.int p5), .val (.long (p1 &&& (9223372036854775807 : Int64))), .second, .val (.long (p2 &&& (9223372036854775807 : Int64))), .second, .val (.long (own_pick (p1 &&& (9223372036854775807 : Int64)) p3 p5)), .second, .val (.long (own_pick (p2 &&& (9223372036854775807 : Int64)) p4 ((p5.toUInt32 >>> ((2 : Int32) &&& 31).toUInt32).toInt32))), .second, .val (.ref b3), .val (.ref b6), .val (.int (if own_cmp (p1 &&& (9223372036854775807 : Int64)) (own_pick (p1 &&& (9223372036854775807 : Int64)) p3 p5) = 0 then own_cmp (p2 &&& (9223372036854775807 : Int64)) (own_pick (p2 &&& (9223372036854775807 : Int64)) p4 ((p5.toUInt32 >>> ((2 : Int32) &&& 31).toUInt32).toInt32)) else own_cmp (p1 &&& (9223372036854775807 : Int64)) (own_pick (p1 &&& (9223372036854775807 : Int64)) p3 p5))), .val (.int (own_cmp (p1 &&& (9223372036854775807 : Int64)) (own_pick (p1 &&& (9223372036854775807 : Int64)) p3 p5))), .unset]) rfl ?_
    show Steps p.tables e below (T16.setTop (mkF m 112 #[.val (.long p1), .second, .val (.long p2), .second, .val (.long p3), .second, .val (.long p4), .second, .val (.int p5), .val (.long (p1 &&& (9223372036854775807 : Int64))), .second, .val (.long (p2 &&& (9223372036854775807 : Int64))), .second, .val (.long (own_pick (p1 &&& (9223372036854775807 : Int64)) p3 p5)), .second, .val (.long (own_pick (p2 &&& (9223372036854775807 : Int64)) p4 ((p5.toUInt32 >>> ((2 : Int32) &&& 31).toUInt32).toInt32))), .second, .val (.ref b3), .val (.ref b6), .val (.int (if own_cmp (p1 &&& (9223372036854775807 : Int64)) (own_pick (p1 &&& (9223372036854775807 : Int64)) p3 p5) = 0 then own_cmp (p2 &&& (9223372036854775807 : Int64)) (own_pick (p2 &&& (9223372036854775807 : Int64)) p4 ((p5.toUInt32 >>> ((2 : Int32) &&& 31).toUInt32).toInt32)) else own_cmp (p1 &&& (9223372036854775807 : Int64)) (own_pick (p1 &&& (9223372036854775807 : Int64)) p3 p5))), .val (.int (own_cmp (p1 &&& (9223372036854775807 : Int64)) (own_pick (p1 &&& (9223372036854775807 : Int64)) p3 p5))), .unset] [])) _
    refine XS.iload X16.here hx rfl (hb hby at_112) rfl ?_
    show Steps p.tables e below (T16.setTop (mkF m 114 #[.val (.long p1), .second, .val (.long p2), .second, .val (.long p3), .second, .val (.long p4), .second, .val (.int p5), .val (.long (p1 &&& (9223372036854775807 : Int64))), .second, .val (.long (p2 &&& (9223372036854775807 : Int64))), .second, .val (.long (own_pick (p1 &&& (9223372036854775807 : Int64)) p3 p5)), .second, .val (.long (own_pick (p2 &&& (9223372036854775807 : Int64)) p4 ((p5.toUInt32 >>> ((2 : Int32) &&& 31).toUInt32).toInt32))), .second, .val (.ref b3), .val (.ref b6), .val (.int (if own_cmp (p1 &&& (9223372036854775807 : Int64)) (own_pick (p1 &&& (9223372036854775807 : Int64)) p3 p5) = 0 then own_cmp (p2 &&& (9223372036854775807 : Int64)) (own_pick (p2 &&& (9223372036854775807 : Int64)) p4 ((p5.toUInt32 >>> ((2 : Int32) &&& 31).toUInt32).toInt32)) else own_cmp (p1 &&& (9223372036854775807 : Int64)) (own_pick (p1 &&& (9223372036854775807 : Int64)) p3 p5))), .val (.int (own_cmp (p1 &&& (9223372036854775807 : Int64)) (own_pick (p1 &&& (9223372036854775807 : Int64)) p3 p5))), .unset] [(.int (own_cmp (p1 &&& (9223372036854775807 : Int64)) (own_pick (p1 &&& (9223372036854775807 : Int64)) p3 p5)))])) _
    refine XS.ifNo X16.here hx rfl (hb hby at_114) rfl ((if0 _ _).trans (feq (show ¬ ((own_cmp (p1 &&& (9223372036854775807 : Int64)) (own_pick (p1 &&& (9223372036854775807 : Int64)) p3 p5)) = (0 : Int32)) from hc114)).1) ?_
    show Steps p.tables e below (T16.setTop (mkF m 117 #[.val (.long p1), .second, .val (.long p2), .second, .val (.long p3), .second, .val (.long p4), .second, .val (.int p5), .val (.long (p1 &&& (9223372036854775807 : Int64))), .second, .val (.long (p2 &&& (9223372036854775807 : Int64))), .second, .val (.long (own_pick (p1 &&& (9223372036854775807 : Int64)) p3 p5)), .second, .val (.long (own_pick (p2 &&& (9223372036854775807 : Int64)) p4 ((p5.toUInt32 >>> ((2 : Int32) &&& 31).toUInt32).toInt32))), .second, .val (.ref b3), .val (.ref b6), .val (.int (if own_cmp (p1 &&& (9223372036854775807 : Int64)) (own_pick (p1 &&& (9223372036854775807 : Int64)) p3 p5) = 0 then own_cmp (p2 &&& (9223372036854775807 : Int64)) (own_pick (p2 &&& (9223372036854775807 : Int64)) p4 ((p5.toUInt32 >>> ((2 : Int32) &&& 31).toUInt32).toInt32)) else own_cmp (p1 &&& (9223372036854775807 : Int64)) (own_pick (p1 &&& (9223372036854775807 : Int64)) p3 p5))), .val (.int (own_cmp (p1 &&& (9223372036854775807 : Int64)) (own_pick (p1 &&& (9223372036854775807 : Int64)) p3 p5))), .unset] [])) _
    refine XS.iload X16.here hx rfl (hb hby at_117) rfl ?_
    show Steps p.tables e below (T16.setTop (mkF m 119 #[.val (.long p1), .second, .val (.long p2), .second, .val (.long p3), .second, .val (.long p4), .second, .val (.int p5), .val (.long (p1 &&& (9223372036854775807 : Int64))), .second, .val (.long (p2 &&& (9223372036854775807 : Int64))), .second, .val (.long (own_pick (p1 &&& (9223372036854775807 : Int64)) p3 p5)), .second, .val (.long (own_pick (p2 &&& (9223372036854775807 : Int64)) p4 ((p5.toUInt32 >>> ((2 : Int32) &&& 31).toUInt32).toInt32))), .second, .val (.ref b3), .val (.ref b6), .val (.int (if own_cmp (p1 &&& (9223372036854775807 : Int64)) (own_pick (p1 &&& (9223372036854775807 : Int64)) p3 p5) = 0 then own_cmp (p2 &&& (9223372036854775807 : Int64)) (own_pick (p2 &&& (9223372036854775807 : Int64)) p4 ((p5.toUInt32 >>> ((2 : Int32) &&& 31).toUInt32).toInt32)) else own_cmp (p1 &&& (9223372036854775807 : Int64)) (own_pick (p1 &&& (9223372036854775807 : Int64)) p3 p5))), .val (.int (own_cmp (p1 &&& (9223372036854775807 : Int64)) (own_pick (p1 &&& (9223372036854775807 : Int64)) p3 p5))), .unset] [(.int (own_cmp (p1 &&& (9223372036854775807 : Int64)) (own_pick (p1 &&& (9223372036854775807 : Int64)) p3 p5)))])) _
    refine XS.goto X16.here hx rfl (pc0 := 119) (pc' := 129) rfl (hb hby at_119) (by decide) (by decide) ?_
    show Steps p.tables e below (T16.setTop (mkF m 129 #[.val (.long p1), .second, .val (.long p2), .second, .val (.long p3), .second, .val (.long p4), .second, .val (.int p5), .val (.long (p1 &&& (9223372036854775807 : Int64))), .second, .val (.long (p2 &&& (9223372036854775807 : Int64))), .second, .val (.long (own_pick (p1 &&& (9223372036854775807 : Int64)) p3 p5)), .second, .val (.long (own_pick (p2 &&& (9223372036854775807 : Int64)) p4 ((p5.toUInt32 >>> ((2 : Int32) &&& 31).toUInt32).toInt32))), .second, .val (.ref b3), .val (.ref b6), .val (.int (if own_cmp (p1 &&& (9223372036854775807 : Int64)) (own_pick (p1 &&& (9223372036854775807 : Int64)) p3 p5) = 0 then own_cmp (p2 &&& (9223372036854775807 : Int64)) (own_pick (p2 &&& (9223372036854775807 : Int64)) p4 ((p5.toUInt32 >>> ((2 : Int32) &&& 31).toUInt32).toInt32)) else own_cmp (p1 &&& (9223372036854775807 : Int64)) (own_pick (p1 &&& (9223372036854775807 : Int64)) p3 p5))), .val (.int (own_cmp (p1 &&& (9223372036854775807 : Int64)) (own_pick (p1 &&& (9223372036854775807 : Int64)) p3 p5))), .unset] [(.int (own_cmp (p1 &&& (9223372036854775807 : Int64)) (own_pick (p1 &&& (9223372036854775807 : Int64)) p3 p5)))])) _
    refine XS.istore X16.here hx rfl (hb hby at_129) rfl (l' := #[.val (.long p1), .second, .val (.long p2), .second, .val (.long p3), .second, .val (.long p4), .second, .val (.int p5), .val (.long (p1 &&& (9223372036854775807 : Int64))), .second, .val (.long (p2 &&& (9223372036854775807 : Int64))), .second, .val (.long (own_pick (p1 &&& (9223372036854775807 : Int64)) p3 p5)), .second, .val (.long (own_pick (p2 &&& (9223372036854775807 : Int64)) p4 ((p5.toUInt32 >>> ((2 : Int32) &&& 31).toUInt32).toInt32))), .second, .val (.ref b3), .val (.ref b6), .val (.int (if own_cmp (p1 &&& (9223372036854775807 : Int64)) (own_pick (p1 &&& (9223372036854775807 : Int64)) p3 p5) = 0 then own_cmp (p2 &&& (9223372036854775807 : Int64)) (own_pick (p2 &&& (9223372036854775807 : Int64)) p4 ((p5.toUInt32 >>> ((2 : Int32) &&& 31).toUInt32).toInt32)) else own_cmp (p1 &&& (9223372036854775807 : Int64)) (own_pick (p1 &&& (9223372036854775807 : Int64)) p3 p5))), .val (.int (own_cmp (p1 &&& (9223372036854775807 : Int64)) (own_pick (p1 &&& (9223372036854775807 : Int64)) p3 p5))), .val (.int (own_cmp (p1 &&& (9223372036854775807 : Int64)) (own_pick (p1 &&& (9223372036854775807 : Int64)) p3 p5)))]) rfl ?_
    show Steps p.tables e below (T16.setTop (mkF m 131 #[.val (.long p1), .second, .val (.long p2), .second, .val (.long p3), .second, .val (.long p4), .second, .val (.int p5), .val (.long (p1 &&& (9223372036854775807 : Int64))), .second, .val (.long (p2 &&& (9223372036854775807 : Int64))), .second, .val (.long (own_pick (p1 &&& (9223372036854775807 : Int64)) p3 p5)), .second, .val (.long (own_pick (p2 &&& (9223372036854775807 : Int64)) p4 ((p5.toUInt32 >>> ((2 : Int32) &&& 31).toUInt32).toInt32))), .second, .val (.ref b3), .val (.ref b6), .val (.int (if own_cmp (p1 &&& (9223372036854775807 : Int64)) (own_pick (p1 &&& (9223372036854775807 : Int64)) p3 p5) = 0 then own_cmp (p2 &&& (9223372036854775807 : Int64)) (own_pick (p2 &&& (9223372036854775807 : Int64)) p4 ((p5.toUInt32 >>> ((2 : Int32) &&& 31).toUInt32).toInt32)) else own_cmp (p1 &&& (9223372036854775807 : Int64)) (own_pick (p1 &&& (9223372036854775807 : Int64)) p3 p5))), .val (.int (own_cmp (p1 &&& (9223372036854775807 : Int64)) (own_pick (p1 &&& (9223372036854775807 : Int64)) p3 p5))), .val (.int (own_cmp (p1 &&& (9223372036854775807 : Int64)) (own_pick (p1 &&& (9223372036854775807 : Int64)) p3 p5)))] [])) _
    refine XS.iload X16.here hx rfl (hb hby at_131) rfl ?_
    show Steps p.tables e below (T16.setTop (mkF m 133 #[.val (.long p1), .second, .val (.long p2), .second, .val (.long p3), .second, .val (.long p4), .second, .val (.int p5), .val (.long (p1 &&& (9223372036854775807 : Int64))), .second, .val (.long (p2 &&& (9223372036854775807 : Int64))), .second, .val (.long (own_pick (p1 &&& (9223372036854775807 : Int64)) p3 p5)), .second, .val (.long (own_pick (p2 &&& (9223372036854775807 : Int64)) p4 ((p5.toUInt32 >>> ((2 : Int32) &&& 31).toUInt32).toInt32))), .second, .val (.ref b3), .val (.ref b6), .val (.int (if own_cmp (p1 &&& (9223372036854775807 : Int64)) (own_pick (p1 &&& (9223372036854775807 : Int64)) p3 p5) = 0 then own_cmp (p2 &&& (9223372036854775807 : Int64)) (own_pick (p2 &&& (9223372036854775807 : Int64)) p4 ((p5.toUInt32 >>> ((2 : Int32) &&& 31).toUInt32).toInt32)) else own_cmp (p1 &&& (9223372036854775807 : Int64)) (own_pick (p1 &&& (9223372036854775807 : Int64)) p3 p5))), .val (.int (own_cmp (p1 &&& (9223372036854775807 : Int64)) (own_pick (p1 &&& (9223372036854775807 : Int64)) p3 p5))), .val (.int (own_cmp (p1 &&& (9223372036854775807 : Int64)) (own_pick (p1 &&& (9223372036854775807 : Int64)) p3 p5)))] [(.int (if own_cmp (p1 &&& (9223372036854775807 : Int64)) (own_pick (p1 &&& (9223372036854775807 : Int64)) p3 p5) = 0 then own_cmp (p2 &&& (9223372036854775807 : Int64)) (own_pick (p2 &&& (9223372036854775807 : Int64)) p4 ((p5.toUInt32 >>> ((2 : Int32) &&& 31).toUInt32).toInt32)) else own_cmp (p1 &&& (9223372036854775807 : Int64)) (own_pick (p1 &&& (9223372036854775807 : Int64)) p3 p5)))])) _
    refine st17 _ ?_
    show Steps p.tables e below (T17.setTop (mkF m 136 #[.val (.long p1), .second, .val (.long p2), .second, .val (.long p3), .second, .val (.long p4), .second, .val (.int p5), .val (.long (p1 &&& (9223372036854775807 : Int64))), .second, .val (.long (p2 &&& (9223372036854775807 : Int64))), .second, .val (.long (own_pick (p1 &&& (9223372036854775807 : Int64)) p3 p5)), .second, .val (.long (own_pick (p2 &&& (9223372036854775807 : Int64)) p4 ((p5.toUInt32 >>> ((2 : Int32) &&& 31).toUInt32).toInt32))), .second, .val (.ref b3), .val (.ref b6), .val (.int (if own_cmp (p1 &&& (9223372036854775807 : Int64)) (own_pick (p1 &&& (9223372036854775807 : Int64)) p3 p5) = 0 then own_cmp (p2 &&& (9223372036854775807 : Int64)) (own_pick (p2 &&& (9223372036854775807 : Int64)) p4 ((p5.toUInt32 >>> ((2 : Int32) &&& 31).toUInt32).toInt32)) else own_cmp (p1 &&& (9223372036854775807 : Int64)) (own_pick (p1 &&& (9223372036854775807 : Int64)) p3 p5))), .val (.int (own_cmp (p1 &&& (9223372036854775807 : Int64)) (own_pick (p1 &&& (9223372036854775807 : Int64)) p3 p5))), .val (.int (own_cmp (p1 &&& (9223372036854775807 : Int64)) (own_pick (p1 &&& (9223372036854775807 : Int64)) p3 p5)))] [(.int (own_sign (if own_cmp (p1 &&& (9223372036854775807 : Int64)) (own_pick (p1 &&& (9223372036854775807 : Int64)) p3 p5) = 0 then own_cmp (p2 &&& (9223372036854775807 : Int64)) (own_pick (p2 &&& (9223372036854775807 : Int64)) p4 ((p5.toUInt32 >>> ((2 : Int32) &&& 31).toUInt32).toInt32)) else own_cmp (p1 &&& (9223372036854775807 : Int64)) (own_pick (p1 &&& (9223372036854775807 : Int64)) p3 p5))))])) _
    refine XS.iload X17.here hx rfl (hb hby at_136) rfl ?_
    show Steps p.tables e below (T17.setTop (mkF m 138 #[.val (.long p1), .second, .val (.long p2), .second, .val (.long p3), .second, .val (.long p4), .second, .val (.int p5), .val (.long (p1 &&& (9223372036854775807 : Int64))), .second, .val (.long (p2 &&& (9223372036854775807 : Int64))), .second, .val (.long (own_pick (p1 &&& (9223372036854775807 : Int64)) p3 p5)), .second, .val (.long (own_pick (p2 &&& (9223372036854775807 : Int64)) p4 ((p5.toUInt32 >>> ((2 : Int32) &&& 31).toUInt32).toInt32))), .second, .val (.ref b3), .val (.ref b6), .val (.int (if own_cmp (p1 &&& (9223372036854775807 : Int64)) (own_pick (p1 &&& (9223372036854775807 : Int64)) p3 p5) = 0 then own_cmp (p2 &&& (9223372036854775807 : Int64)) (own_pick (p2 &&& (9223372036854775807 : Int64)) p4 ((p5.toUInt32 >>> ((2 : Int32) &&& 31).toUInt32).toInt32)) else own_cmp (p1 &&& (9223372036854775807 : Int64)) (own_pick (p1 &&& (9223372036854775807 : Int64)) p3 p5))), .val (.int (own_cmp (p1 &&& (9223372036854775807 : Int64)) (own_pick (p1 &&& (9223372036854775807 : Int64)) p3 p5))), .val (.int (own_cmp (p1 &&& (9223372036854775807 : Int64)) (own_pick (p1 &&& (9223372036854775807 : Int64)) p3 p5)))] [(.int (own_cmp (p1 &&& (9223372036854775807 : Int64)) (own_pick (p1 &&& (9223372036854775807 : Int64)) p3 p5))), (.int (own_sign (if own_cmp (p1 &&& (9223372036854775807 : Int64)) (own_pick (p1 &&& (9223372036854775807 : Int64)) p3 p5) = 0 then own_cmp (p2 &&& (9223372036854775807 : Int64)) (own_pick (p2 &&& (9223372036854775807 : Int64)) p4 ((p5.toUInt32 >>> ((2 : Int32) &&& 31).toUInt32).toInt32)) else own_cmp (p1 &&& (9223372036854775807 : Int64)) (own_pick (p1 &&& (9223372036854775807 : Int64)) p3 p5))))])) _
    refine XS.icmpNo X17.here hx rfl (hb hby at_138) rfl (teq (show (own_sign (if own_cmp (p1 &&& (9223372036854775807 : Int64)) (own_pick (p1 &&& (9223372036854775807 : Int64)) p3 p5) = 0 then own_cmp (p2 &&& (9223372036854775807 : Int64)) (own_pick (p2 &&& (9223372036854775807 : Int64)) p4 ((p5.toUInt32 >>> ((2 : Int32) &&& 31).toUInt32).toInt32)) else own_cmp (p1 &&& (9223372036854775807 : Int64)) (own_pick (p1 &&& (9223372036854775807 : Int64)) p3 p5))) = (own_cmp (p1 &&& (9223372036854775807 : Int64)) (own_pick (p1 &&& (9223372036854775807 : Int64)) p3 p5)) from (by rw [if_neg hc114]; exact own_sgn _ _))).2 ?_
    show Steps p.tables e below (T17.setTop (mkF m 141 #[.val (.long p1), .second, .val (.long p2), .second, .val (.long p3), .second, .val (.long p4), .second, .val (.int p5), .val (.long (p1 &&& (9223372036854775807 : Int64))), .second, .val (.long (p2 &&& (9223372036854775807 : Int64))), .second, .val (.long (own_pick (p1 &&& (9223372036854775807 : Int64)) p3 p5)), .second, .val (.long (own_pick (p2 &&& (9223372036854775807 : Int64)) p4 ((p5.toUInt32 >>> ((2 : Int32) &&& 31).toUInt32).toInt32))), .second, .val (.ref b3), .val (.ref b6), .val (.int (if own_cmp (p1 &&& (9223372036854775807 : Int64)) (own_pick (p1 &&& (9223372036854775807 : Int64)) p3 p5) = 0 then own_cmp (p2 &&& (9223372036854775807 : Int64)) (own_pick (p2 &&& (9223372036854775807 : Int64)) p4 ((p5.toUInt32 >>> ((2 : Int32) &&& 31).toUInt32).toInt32)) else own_cmp (p1 &&& (9223372036854775807 : Int64)) (own_pick (p1 &&& (9223372036854775807 : Int64)) p3 p5))), .val (.int (own_cmp (p1 &&& (9223372036854775807 : Int64)) (own_pick (p1 &&& (9223372036854775807 : Int64)) p3 p5))), .val (.int (own_cmp (p1 &&& (9223372036854775807 : Int64)) (own_pick (p1 &&& (9223372036854775807 : Int64)) p3 p5)))] [])) _
    refine XS.iconst X17.here hx rfl (hb hby at_141) ?_
    show Steps p.tables e below (T17.setTop (mkF m 142 #[.val (.long p1), .second, .val (.long p2), .second, .val (.long p3), .second, .val (.long p4), .second, .val (.int p5), .val (.long (p1 &&& (9223372036854775807 : Int64))), .second, .val (.long (p2 &&& (9223372036854775807 : Int64))), .second, .val (.long (own_pick (p1 &&& (9223372036854775807 : Int64)) p3 p5)), .second, .val (.long (own_pick (p2 &&& (9223372036854775807 : Int64)) p4 ((p5.toUInt32 >>> ((2 : Int32) &&& 31).toUInt32).toInt32))), .second, .val (.ref b3), .val (.ref b6), .val (.int (if own_cmp (p1 &&& (9223372036854775807 : Int64)) (own_pick (p1 &&& (9223372036854775807 : Int64)) p3 p5) = 0 then own_cmp (p2 &&& (9223372036854775807 : Int64)) (own_pick (p2 &&& (9223372036854775807 : Int64)) p4 ((p5.toUInt32 >>> ((2 : Int32) &&& 31).toUInt32).toInt32)) else own_cmp (p1 &&& (9223372036854775807 : Int64)) (own_pick (p1 &&& (9223372036854775807 : Int64)) p3 p5))), .val (.int (own_cmp (p1 &&& (9223372036854775807 : Int64)) (own_pick (p1 &&& (9223372036854775807 : Int64)) p3 p5))), .val (.int (own_cmp (p1 &&& (9223372036854775807 : Int64)) (own_pick (p1 &&& (9223372036854775807 : Int64)) p3 p5)))] [(.int (1 : Int32))])) _
    refine XS.goto X17.here hx rfl (pc0 := 142) (pc' := 146) rfl (hb hby at_142) (by decide) (by decide) ?_
    show Steps p.tables e below (T17.setTop (mkF m 146 #[.val (.long p1), .second, .val (.long p2), .second, .val (.long p3), .second, .val (.long p4), .second, .val (.int p5), .val (.long (p1 &&& (9223372036854775807 : Int64))), .second, .val (.long (p2 &&& (9223372036854775807 : Int64))), .second, .val (.long (own_pick (p1 &&& (9223372036854775807 : Int64)) p3 p5)), .second, .val (.long (own_pick (p2 &&& (9223372036854775807 : Int64)) p4 ((p5.toUInt32 >>> ((2 : Int32) &&& 31).toUInt32).toInt32))), .second, .val (.ref b3), .val (.ref b6), .val (.int (if own_cmp (p1 &&& (9223372036854775807 : Int64)) (own_pick (p1 &&& (9223372036854775807 : Int64)) p3 p5) = 0 then own_cmp (p2 &&& (9223372036854775807 : Int64)) (own_pick (p2 &&& (9223372036854775807 : Int64)) p4 ((p5.toUInt32 >>> ((2 : Int32) &&& 31).toUInt32).toInt32)) else own_cmp (p1 &&& (9223372036854775807 : Int64)) (own_pick (p1 &&& (9223372036854775807 : Int64)) p3 p5))), .val (.int (own_cmp (p1 &&& (9223372036854775807 : Int64)) (own_pick (p1 &&& (9223372036854775807 : Int64)) p3 p5))), .val (.int (own_cmp (p1 &&& (9223372036854775807 : Int64)) (own_pick (p1 &&& (9223372036854775807 : Int64)) p3 p5)))] [(.int (1 : Int32))])) _
    exact retN X17 hx (t := .boolean) Bd.returns (by simp) (hb hby at_146) hr
  · show Qrm0 Z p1 p2 p3 p4 p5 h0 n0 _ T17.heap _
    rw [e17q]
    exact ⟨rfl, N17⟩
set_option maxRecDepth 65536 in
set_option maxHeartbeats 40000000 in
theorem rm0G (l : Launch) (Z : State) (a0 : Array Value) (hw : ∀ d ∈ tables_1, d.before a0 Z = true) (ws : List Jvm.Cond) (p1 : Int64) (p2 : Int64) (p3 : Int64) (p4 : Int64) (p5 : Int32) (h0 : Heap) (n0 : Nat) (Z0 : n0 ≤ h0.size) (hc42 : ¬ ((lcmpW (p1 &&& (9223372036854775807 : Int64)) (0 : Int64)) = (0 : Int32))) (hc49 : ¬ ((lcmpW (p2 &&& (9223372036854775807 : Int64)) (0 : Int64)) = (0 : Int32))) (hc56 : ¬ ((lcmpW (own_pick (p1 &&& (9223372036854775807 : Int64)) p3 p5) (0 : Int64)) = (0 : Int32))) (hc63 : ¬ ((lcmpW (own_pick (p2 &&& (9223372036854775807 : Int64)) p4 ((p5.toUInt32 >>> ((2 : Int32) &&& 31).toUInt32).toInt32)) (0 : Int64)) = (0 : Int32))) (hc114 : (own_cmp (p1 &&& (9223372036854775807 : Int64)) (own_pick (p1 &&& (9223372036854775807 : Int64)) p3 p5)) = (0 : Int32)) :
    MetFree l x (head1 (Jvm.Cond.code x code maxLocals ret :: ws) room_1) (fun aa_ U => aa_ = #[(.long p1), (.long p2), (.long p3), (.long p4), (.int p5)] ∧ Z.Warmed39 U.vm ∧ U.heap = h0) (fun _ _ _ _ _ => True) (fun _ U o U' => ∃ v L, o = .returned v ∧ Qrm0 Z p1 p2 p3 p4 p5 h0 n0 v U'.heap L ∧ FrameEnd U o U' L room_1.cells room_1.slots) := by
  refine MetFree.of_bodySF (plainFor_of_name pn_3) hisR ?_
  intro p e s m args below meth c s₁ Bd hml0 hP hK
  obtain ⟨rfl, hZ, hh⟩ := hP
  have hx := Bd.exec
  have hby := Bd.bytes
  have hml : c.maxLocals = 22 := hml0
  have hown : s.vm.findClass "com/example/coretally/coretally/core/RatioCompareToPinLaw" = some m.cls := findClass_of_methodNamed Bd.named
  have hnm := (name_of_methodNamed Bd.named Bd.method).1
  have X0 : Stand p l e room_1 s m #[(.long p1), (.long p2), (.long p3), (.long p4), (.int p5)] below meth c s₁ [] 0 0 := Stand.of_body Bd
  have e0 : s₁.heap = h0 := by rw [← hh, Bd.state]; rfl
  have N0 := Fr.nil n0
  have pre0 : ∀ tt_, Steps p.tables e below (s₁.setTop (mkF m 0 #[.val (.long p1), .second, .val (.long p2), .second, .val (.long p3), .second, .val (.long p4), .second, .val (.int p5), .unset, .unset, .unset, .unset, .unset, .unset, .unset, .unset, .unset, .unset, .unset, .unset, .unset] [])) tt_ → Steps p.tables e below (s₁.setTop (entryFrame m #[(.long p1), (.long p2), (.long p3), (.long p4), (.int p5)] maxLocals)) tt_ := fun tt_ kk_ => castTop (ef_0 m p1 p2 p3 p4 p5) kk_
  obtain ⟨_, _, ⟨T1, L1, k1, n1⟩, -, X1, ⟨Lc1, hQ1, l1, y1, z1⟩, st1⟩ := Jvm.LawKit.callS X0 hx (y := (⟨"com/example/coretally/coretally/core/RatioCompareToPinLaw", "pick", "(JJI)J"⟩ : MethodName)) hown (mvT hZ (hw _ (List.mem_of_getElem? (i := 1) rfl))) (mvT hZ (hw _ (List.mem_of_getElem? (i := 2) rfl))) (mvT hZ (hw _ (List.mem_of_getElem? (i := 3) rfl))) (mvT hZ (hw _ (List.mem_of_getElem? (i := 4) rfl))) (by decide) (backOf (W := 0) (rm1 l Z a0 hw [] (p1 &&& (9223372036854775807 : Int64)) p3 p5 h0 n0 Z0 ) hZ (hw _ (List.mem_of_getElem? (i := 4) rfl)) (hw _ (List.mem_of_getElem? (i := 3) rfl)) (by decide) (by decide)) (g := (mkF m 20 #[.val (.long p1), .second, .val (.long p2), .second, .val (.long p3), .second, .val (.long p4), .second, .val (.int p5), .val (.long (p1 &&& (9223372036854775807 : Int64))), .second, .val (.long (p2 &&& (9223372036854775807 : Int64))), .second, .unset, .unset, .unset, .unset, .unset, .unset, .unset, .unset, .unset] [(.int p5), (.long p3), (.long (p1 &&& (9223372036854775807 : Int64)))])) rfl (by rw [hml]; rfl) (argsL := [(.long (p1 &&& (9223372036854775807 : Int64))), (.long p3), (.int p5)]) (rest := []) (lenOf pd_2 rfl) rfl (by show 2 * 0 + _ ≤ _; exact Nat.le_of_eq rfl) (hb hby at_20) (fun _ _ => ⟨rfl, e0, (by decide : 0 + 0 ≤ _), (by decide : 0 + 0 ≤ _)⟩)
  dsimp only [Pt.U, Pt.locs, Pt.cells, Pt.slots] at X1 l1 y1 z1 st1 hQ1
  subst l1 y1 z1
  obtain ⟨rfl, N1q, e1q⟩ := hQ1
  have N1 := Fr.app N0 N1q
  obtain ⟨_, _, ⟨T2, L2, k2, n2⟩, -, X2, ⟨Lc2, hQ2, l2, y2, z2⟩, st2⟩ := Jvm.LawKit.callS X1 hx (y := (⟨"com/example/coretally/coretally/core/RatioCompareToPinLaw", "pick", "(JJI)J"⟩ : MethodName)) hown (mvT hZ (hw _ (List.mem_of_getElem? (i := 1) rfl))) (mvT hZ (hw _ (List.mem_of_getElem? (i := 2) rfl))) (mvT hZ (hw _ (List.mem_of_getElem? (i := 3) rfl))) (mvT hZ (hw _ (List.mem_of_getElem? (i := 4) rfl))) (by decide) (backOf (W := 0) (rm1 l Z a0 hw [] (p2 &&& (9223372036854775807 : Int64)) p4 ((p5.toUInt32 >>> ((2 : Int32) &&& 31).toUInt32).toInt32) h0 n0 Z0 ) hZ (hw _ (List.mem_of_getElem? (i := 4) rfl)) (hw _ (List.mem_of_getElem? (i := 3) rfl)) (by decide) (by decide)) (g := (mkF m 33 #[.val (.long p1), .second, .val (.long p2), .second, .val (.long p3), .second, .val (.long p4), .second, .val (.int p5), .val (.long (p1 &&& (9223372036854775807 : Int64))), .second, .val (.long (p2 &&& (9223372036854775807 : Int64))), .second, .val (.long (own_pick (p1 &&& (9223372036854775807 : Int64)) p3 p5)), .second, .unset, .unset, .unset, .unset, .unset, .unset, .unset] [(.int ((p5.toUInt32 >>> ((2 : Int32) &&& 31).toUInt32).toInt32)), (.long p4), (.long (p2 &&& (9223372036854775807 : Int64)))])) rfl (by rw [hml]; rfl) (argsL := [(.long (p2 &&& (9223372036854775807 : Int64))), (.long p4), (.int ((p5.toUInt32 >>> ((2 : Int32) &&& 31).toUInt32).toInt32))]) (rest := []) (lenOf pd_2 rfl) rfl (by show 2 * 0 + _ ≤ _; exact Nat.le_of_eq rfl) (hb hby at_33) (fun _ _ => ⟨rfl, e1q, (by decide : 0 + 0 ≤ _), (by decide : 0 + 0 ≤ _)⟩)
  dsimp only [Pt.U, Pt.locs, Pt.cells, Pt.slots] at X2 l2 y2 z2 st2 hQ2
  subst l2 y2 z2
  obtain ⟨rfl, N2q, e2q⟩ := hQ2
  have N2 := Fr.app N1 N2q
  obtain ⟨T3, h3, X3, e3, E3, A3, D3, -, st3⟩ := newO X2 hx hZ hown (hw _ (List.mem_of_getElem? (i := 5) rfl)) (hw _ (List.mem_of_getElem? (i := 6) rfl)) (hw _ (List.mem_of_getElem? (i := 7) rfl)) e2q (g := (mkF m 68 #[.val (.long p1), .second, .val (.long p2), .second, .val (.long p3), .second, .val (.long p4), .second, .val (.int p5), .val (.long (p1 &&& (9223372036854775807 : Int64))), .second, .val (.long (p2 &&& (9223372036854775807 : Int64))), .second, .val (.long (own_pick (p1 &&& (9223372036854775807 : Int64)) p3 p5)), .second, .val (.long (own_pick (p2 &&& (9223372036854775807 : Int64)) p4 ((p5.toUInt32 >>> ((2 : Int32) &&& 31).toUInt32).toInt32))), .second, .unset, .unset, .unset, .unset, .unset] [])) rfl (hb hby at_68) (by decide) (by decide)
  obtain ⟨b3, g3⟩ : ∃ zz_, zz_ = h0.size := ⟨_, rfl⟩
  rw [← g3] at A3 D3 st3
  have g_b3 : n0 ≤ b3 := Nat.le_trans Z0 (Nat.le_of_eq g3.symm)
  have sz_b3 : h0.size ≤ b3 := Nat.le_trans (Keep.refl h0 []).1 (Nat.le_of_eq g3.symm)
  have F_programCores_b3 : Fld Z h3 b3 "com/example/coretally/coretally/core/Ratio" "programCores" "J" (.long (0 : Int64)) := D3 (Or.inr (hw _ (List.mem_of_getElem? (i := 20) rfl))) (ty := .long) (by decide)
  have F_bundleCores_b3 : Fld Z h3 b3 "com/example/coretally/coretally/core/Ratio" "bundleCores" "J" (.long (0 : Int64)) := D3 (Or.inr (hw _ (List.mem_of_getElem? (i := 22) rfl))) (ty := .long) (by decide)
  have sz5 : n0 ≤ h3.size := (Nat.le_trans Z0 E3.1)
  obtain ⟨_, _, ⟨T4, L4, k4, n4⟩, -, X4, ⟨Lc4, hQ4, l4, y4, z4⟩, st4⟩ := X3.specialBack hx (y := (⟨"com/example/coretally/coretally/core/Ratio", "<init>", "(JJ)V"⟩ : MethodName)) rfl hown (mvT hZ (hw _ (List.mem_of_getElem? (i := 8) rfl))) (mvT hZ (hw _ (List.mem_of_getElem? (i := 9) rfl))) (mvT hZ (hw _ (List.mem_of_getElem? (i := 10) rfl))) (by decide) (backOf (W := 1) (rm2 l Z a0 hw [] b3 (p1 &&& (9223372036854775807 : Int64)) (p2 &&& (9223372036854775807 : Int64)) h3 n0 sz5 A3 F_programCores_b3 F_bundleCores_b3 g_b3 (own_pos _ (own_m p1) hc42) (own_pos _ (own_m p2) hc49)) hZ (hw _ (List.mem_of_getElem? (i := 10) rfl)) (hw _ (List.mem_of_getElem? (i := 7) rfl)) (by decide) (by decide)) (g := (mkF m 76 #[.val (.long p1), .second, .val (.long p2), .second, .val (.long p3), .second, .val (.long p4), .second, .val (.int p5), .val (.long (p1 &&& (9223372036854775807 : Int64))), .second, .val (.long (p2 &&& (9223372036854775807 : Int64))), .second, .val (.long (own_pick (p1 &&& (9223372036854775807 : Int64)) p3 p5)), .second, .val (.long (own_pick (p2 &&& (9223372036854775807 : Int64)) p4 ((p5.toUInt32 >>> ((2 : Int32) &&& 31).toUInt32).toInt32))), .second, .unset, .unset, .unset, .unset, .unset] [(.long (p2 &&& (9223372036854775807 : Int64))), (.long (p1 &&& (9223372036854775807 : Int64))), (.ref b3), (.ref b3)])) rfl (by rw [hml]; rfl) (Steps.refl _) (a := b3) (argsL := [(.long (p1 &&& (9223372036854775807 : Int64))), (.long (p2 &&& (9223372036854775807 : Int64)))]) (rest := [(.ref b3)]) (lenOf pd_3 rfl) rfl (by show 2 * 0 + _ ≤ _; exact Nat.le_of_eq rfl) (hb hby at_76) (fun _ _ => ⟨rfl, e3, (by decide : 1 + 0 ≤ _), (by decide : 2 + 0 ≤ _)⟩)
  dsimp only [Pt.U, Pt.locs, Pt.cells, Pt.slots] at X4 l4 y4 z4 st4 hQ4
  subst l4 y4 z4
  obtain ⟨rfl, N4q, K4, p4_1, p4_2, p4_3⟩ := hQ4
  have N4 := Fr.app N2 N4q
  obtain ⟨T6, h6, X6, e6, E6, A6, D6, -, st6⟩ := newO X4 hx hZ hown (hw _ (List.mem_of_getElem? (i := 5) rfl)) (hw _ (List.mem_of_getElem? (i := 6) rfl)) (hw _ (List.mem_of_getElem? (i := 7) rfl)) rfl (g := (mkF m 81 #[.val (.long p1), .second, .val (.long p2), .second, .val (.long p3), .second, .val (.long p4), .second, .val (.int p5), .val (.long (p1 &&& (9223372036854775807 : Int64))), .second, .val (.long (p2 &&& (9223372036854775807 : Int64))), .second, .val (.long (own_pick (p1 &&& (9223372036854775807 : Int64)) p3 p5)), .second, .val (.long (own_pick (p2 &&& (9223372036854775807 : Int64)) p4 ((p5.toUInt32 >>> ((2 : Int32) &&& 31).toUInt32).toInt32))), .second, .val (.ref b3), .unset, .unset, .unset, .unset] [])) rfl (hb hby at_81) (by decide) (by decide)
  obtain ⟨b6, g6⟩ : ∃ zz_, zz_ = T4.heap.size := ⟨_, rfl⟩
  rw [← g6] at A6 D6 st6
  have ne_b3_b6 : b3 ≠ b6 := Nat.ne_of_lt (Nat.lt_of_lt_of_le p4_1.lt (Nat.le_of_eq g6.symm))
  have sz7 : n0 ≤ T4.heap.size := (Nat.le_trans sz5 K4.1)
  have g_b6 : n0 ≤ b6 := Nat.le_trans sz7 (Nat.le_of_eq g6.symm)
  have kp8 : Keep h0 T4.heap [] := (((Keep.refl h0 []).ext E3).trans K4 (allS (Or.inr sz_b3) all0))
  have sz_b6 : h0.size ≤ b6 := Nat.le_trans kp8.1 (Nat.le_of_eq g6.symm)
  have F_programCores_b6 : Fld Z h6 b6 "com/example/coretally/coretally/core/Ratio" "programCores" "J" (.long (0 : Int64)) := D6 (Or.inr (hw _ (List.mem_of_getElem? (i := 20) rfl))) (ty := .long) (by decide)
  have F_bundleCores_b6 : Fld Z h6 b6 "com/example/coretally/coretally/core/Ratio" "bundleCores" "J" (.long (0 : Int64)) := D6 (Or.inr (hw _ (List.mem_of_getElem? (i := 22) rfl))) (ty := .long) (by decide)
  have sz10 : n0 ≤ h6.size := (Nat.le_trans sz7 E6.1)
  obtain ⟨_, _, ⟨T9, L9, k9, n9⟩, -, X9, ⟨Lc9, hQ9, l9, y9, z9⟩, st9⟩ := X6.specialBack hx (y := (⟨"com/example/coretally/coretally/core/Ratio", "<init>", "(JJ)V"⟩ : MethodName)) rfl hown (mvT hZ (hw _ (List.mem_of_getElem? (i := 8) rfl))) (mvT hZ (hw _ (List.mem_of_getElem? (i := 9) rfl))) (mvT hZ (hw _ (List.mem_of_getElem? (i := 10) rfl))) (by decide) (backOf (W := 1) (rm2 l Z a0 hw [] b6 (own_pick (p1 &&& (9223372036854775807 : Int64)) p3 p5) (own_pick (p2 &&& (9223372036854775807 : Int64)) p4 ((p5.toUInt32 >>> ((2 : Int32) &&& 31).toUInt32).toInt32)) h6 n0 sz10 A6 F_programCores_b6 F_bundleCores_b6 g_b6 (own_pos _ (own_pick_nn _ _ _ (own_m p1)) hc56) (own_pos _ (own_pick_nn _ _ _ (own_m p2)) hc63)) hZ (hw _ (List.mem_of_getElem? (i := 10) rfl)) (hw _ (List.mem_of_getElem? (i := 7) rfl)) (by decide) (by decide)) (g := (mkF m 89 #[.val (.long p1), .second, .val (.long p2), .second, .val (.long p3), .second, .val (.long p4), .second, .val (.int p5), .val (.long (p1 &&& (9223372036854775807 : Int64))), .second, .val (.long (p2 &&& (9223372036854775807 : Int64))), .second, .val (.long (own_pick (p1 &&& (9223372036854775807 : Int64)) p3 p5)), .second, .val (.long (own_pick (p2 &&& (9223372036854775807 : Int64)) p4 ((p5.toUInt32 >>> ((2 : Int32) &&& 31).toUInt32).toInt32))), .second, .val (.ref b3), .unset, .unset, .unset, .unset] [(.long (own_pick (p2 &&& (9223372036854775807 : Int64)) p4 ((p5.toUInt32 >>> ((2 : Int32) &&& 31).toUInt32).toInt32))), (.long (own_pick (p1 &&& (9223372036854775807 : Int64)) p3 p5)), (.ref b6), (.ref b6)])) rfl (by rw [hml]; rfl) (Steps.refl _) (a := b6) (argsL := [(.long (own_pick (p1 &&& (9223372036854775807 : Int64)) p3 p5)), (.long (own_pick (p2 &&& (9223372036854775807 : Int64)) p4 ((p5.toUInt32 >>> ((2 : Int32) &&& 31).toUInt32).toInt32)))]) (rest := [(.ref b6)]) (lenOf pd_3 rfl) rfl (by show 2 * 0 + _ ≤ _; exact Nat.le_of_eq rfl) (hb hby at_89) (fun _ _ => ⟨rfl, e6, (by decide : 2 + 0 ≤ _), (by decide : 4 + 0 ≤ _)⟩)
  dsimp only [Pt.U, Pt.locs, Pt.cells, Pt.slots] at X9 l9 y9 z9 st9 hQ9
  subst l9 y9 z9
  obtain ⟨rfl, N9q, K9, p9_1, p9_2, p9_3⟩ := hQ9
  have N9 := Fr.app N4 N9q
  have f12_F_b3_programCores := ((p4_2.ext E6).keep K9 (ninS ne_b3_b6 nin0))
  have f13_F_b3_bundleCores := ((p4_3.ext E6).keep K9 (ninS ne_b3_b6 nin0))
  have sz14 : n0 ≤ T9.heap.size := (Nat.le_trans sz10 K9.1)
  have f15_E_b3 := ((p4_1.ext E6).keep K9)
  obtain ⟨cq11, kq11, q11a, q11b, q11c⟩ := isOf hZ rfl f15_E_b3
  obtain ⟨_, _, ⟨T11, L11, k11, n11⟩, -, X11, ⟨Lc11, hQ11, l11, y11, z11⟩, st11⟩ := X9.virtualBack hx (y := (⟨"com/example/coretally/coretally/core/Ratio", "compareTo", "(Lcom/example/coretally/coretally/core/Ratio;)I"⟩ : MethodName)) (z := (⟨"com/example/coretally/coretally/core/Ratio", "compareTo", "(Lcom/example/coretally/coretally/core/Ratio;)I"⟩ : MethodName)) hown (mvT hZ (hw _ (List.mem_of_getElem? (i := 23) rfl))) (mvT hZ (hw _ (List.mem_of_getElem? (i := 24) rfl))) (notFace_of_selects (args := #[]) (mvT hZ (hw _ (List.mem_of_getElem? (i := 26) rfl)))) (mvT hZ (hw _ (List.mem_of_getElem? (i := 26) rfl))) (mvT hZ (hw _ (List.mem_of_getElem? (i := 25) rfl))) (by decide) (backOf (W := 0) (rm5 l Z a0 hw [] b3 b6 (p1 &&& (9223372036854775807 : Int64)) (own_pick (p1 &&& (9223372036854775807 : Int64)) p3 p5) (p2 &&& (9223372036854775807 : Int64)) (own_pick (p2 &&& (9223372036854775807 : Int64)) p4 ((p5.toUInt32 >>> ((2 : Int32) &&& 31).toUInt32).toInt32)) (T9.heap) n0 sz14 f12_F_b3_programCores p9_2 f13_F_b3_bundleCores p9_3) hZ (hw _ (List.mem_of_getElem? (i := 27) rfl)) (hw _ (List.mem_of_getElem? (i := 7) rfl)) (by decide) (by decide)) q11a q11c (g := (mkF m 98 #[.val (.long p1), .second, .val (.long p2), .second, .val (.long p3), .second, .val (.long p4), .second, .val (.int p5), .val (.long (p1 &&& (9223372036854775807 : Int64))), .second, .val (.long (p2 &&& (9223372036854775807 : Int64))), .second, .val (.long (own_pick (p1 &&& (9223372036854775807 : Int64)) p3 p5)), .second, .val (.long (own_pick (p2 &&& (9223372036854775807 : Int64)) p4 ((p5.toUInt32 >>> ((2 : Int32) &&& 31).toUInt32).toInt32))), .second, .val (.ref b3), .val (.ref b6), .unset, .unset, .unset] [(.ref b6), (.ref b3)])) rfl (by rw [hml]; rfl) (Steps.refl _) (argsL := [(.ref b6)]) (rest := []) (lenOf pd_4 rfl) rfl (by show 2 * 0 + _ ≤ _; exact Nat.le_of_eq rfl) (hb hby at_98) (fun _ _ => ⟨rfl, rfl, (by decide : 2 + 0 ≤ _), (by decide : 4 + 0 ≤ _)⟩)
  dsimp only [Pt.U, Pt.locs, Pt.cells, Pt.slots] at X11 l11 y11 z11 st11 hQ11
  subst l11 y11 z11
  obtain ⟨rfl, N11q, e11q⟩ := hQ11
  have N11 := Fr.app N9 N11q
  obtain ⟨_, _, ⟨T16, L16, k16, n16⟩, -, X16, ⟨Lc16, hQ16, l16, y16, z16⟩, st16⟩ := Jvm.LawKit.callS X11 hx (y := (⟨"com/example/coretally/coretally/core/RatioCompareToPinLaw", "cmp", "(JJ)I"⟩ : MethodName)) hown (mvT hZ (hw _ (List.mem_of_getElem? (i := 32) rfl))) (mvT hZ (hw _ (List.mem_of_getElem? (i := 33) rfl))) (mvT hZ (hw _ (List.mem_of_getElem? (i := 3) rfl))) (mvT hZ (hw _ (List.mem_of_getElem? (i := 34) rfl))) (by decide) (backOf (W := 0) (rm7 l Z a0 hw [] (p1 &&& (9223372036854775807 : Int64)) (own_pick (p1 &&& (9223372036854775807 : Int64)) p3 p5) (T9.heap) n0 sz14 ) hZ (hw _ (List.mem_of_getElem? (i := 34) rfl)) (hw _ (List.mem_of_getElem? (i := 3) rfl)) (by decide) (by decide)) (g := (mkF m 107 #[.val (.long p1), .second, .val (.long p2), .second, .val (.long p3), .second, .val (.long p4), .second, .val (.int p5), .val (.long (p1 &&& (9223372036854775807 : Int64))), .second, .val (.long (p2 &&& (9223372036854775807 : Int64))), .second, .val (.long (own_pick (p1 &&& (9223372036854775807 : Int64)) p3 p5)), .second, .val (.long (own_pick (p2 &&& (9223372036854775807 : Int64)) p4 ((p5.toUInt32 >>> ((2 : Int32) &&& 31).toUInt32).toInt32))), .second, .val (.ref b3), .val (.ref b6), .val (.int (if own_cmp (p1 &&& (9223372036854775807 : Int64)) (own_pick (p1 &&& (9223372036854775807 : Int64)) p3 p5) = 0 then own_cmp (p2 &&& (9223372036854775807 : Int64)) (own_pick (p2 &&& (9223372036854775807 : Int64)) p4 ((p5.toUInt32 >>> ((2 : Int32) &&& 31).toUInt32).toInt32)) else own_cmp (p1 &&& (9223372036854775807 : Int64)) (own_pick (p1 &&& (9223372036854775807 : Int64)) p3 p5))), .unset, .unset] [(.long (own_pick (p1 &&& (9223372036854775807 : Int64)) p3 p5)), (.long (p1 &&& (9223372036854775807 : Int64)))])) rfl (by rw [hml]; rfl) (argsL := [(.long (p1 &&& (9223372036854775807 : Int64))), (.long (own_pick (p1 &&& (9223372036854775807 : Int64)) p3 p5))]) (rest := []) (lenOf pd_1 rfl) rfl (by show 2 * 0 + _ ≤ _; exact Nat.le_of_eq rfl) (hb hby at_107) (fun _ _ => ⟨rfl, e11q, (by decide : 2 + 0 ≤ _), (by decide : 4 + 0 ≤ _)⟩)
  dsimp only [Pt.U, Pt.locs, Pt.cells, Pt.slots] at X16 l16 y16 z16 st16 hQ16
  subst l16 y16 z16
  obtain ⟨rfl, N16q, e16q⟩ := hQ16
  have N16 := Fr.app N11 N16q
  obtain ⟨_, _, ⟨T17, L17, k17, n17⟩, -, X17, ⟨Lc17, hQ17, l17, y17, z17⟩, st17⟩ := Jvm.LawKit.callS X16 hx (y := (⟨"com/example/coretally/coretally/core/RatioCompareToPinLaw", "cmp", "(JJ)I"⟩ : MethodName)) hown (mvT hZ (hw _ (List.mem_of_getElem? (i := 32) rfl))) (mvT hZ (hw _ (List.mem_of_getElem? (i := 33) rfl))) (mvT hZ (hw _ (List.mem_of_getElem? (i := 3) rfl))) (mvT hZ (hw _ (List.mem_of_getElem? (i := 34) rfl))) (by decide) (backOf (W := 0) (rm7 l Z a0 hw [] (p2 &&& (9223372036854775807 : Int64)) (own_pick (p2 &&& (9223372036854775807 : Int64)) p4 ((p5.toUInt32 >>> ((2 : Int32) &&& 31).toUInt32).toInt32)) (T9.heap) n0 sz14 ) hZ (hw _ (List.mem_of_getElem? (i := 34) rfl)) (hw _ (List.mem_of_getElem? (i := 3) rfl)) (by decide) (by decide)) (g := (mkF m 126 #[.val (.long p1), .second, .val (.long p2), .second, .val (.long p3), .second, .val (.long p4), .second, .val (.int p5), .val (.long (p1 &&& (9223372036854775807 : Int64))), .second, .val (.long (p2 &&& (9223372036854775807 : Int64))), .second, .val (.long (own_pick (p1 &&& (9223372036854775807 : Int64)) p3 p5)), .second, .val (.long (own_pick (p2 &&& (9223372036854775807 : Int64)) p4 ((p5.toUInt32 >>> ((2 : Int32) &&& 31).toUInt32).toInt32))), .second, .val (.ref b3), .val (.ref b6), .val (.int (if own_cmp (p1 &&& (9223372036854775807 : Int64)) (own_pick (p1 &&& (9223372036854775807 : Int64)) p3 p5) = 0 then own_cmp (p2 &&& (9223372036854775807 : Int64)) (own_pick (p2 &&& (9223372036854775807 : Int64)) p4 ((p5.toUInt32 >>> ((2 : Int32) &&& 31).toUInt32).toInt32)) else own_cmp (p1 &&& (9223372036854775807 : Int64)) (own_pick (p1 &&& (9223372036854775807 : Int64)) p3 p5))), .val (.int (own_cmp (p1 &&& (9223372036854775807 : Int64)) (own_pick (p1 &&& (9223372036854775807 : Int64)) p3 p5))), .unset] [(.long (own_pick (p2 &&& (9223372036854775807 : Int64)) p4 ((p5.toUInt32 >>> ((2 : Int32) &&& 31).toUInt32).toInt32))), (.long (p2 &&& (9223372036854775807 : Int64)))])) rfl (by rw [hml]; rfl) (argsL := [(.long (p2 &&& (9223372036854775807 : Int64))), (.long (own_pick (p2 &&& (9223372036854775807 : Int64)) p4 ((p5.toUInt32 >>> ((2 : Int32) &&& 31).toUInt32).toInt32)))]) (rest := []) (lenOf pd_1 rfl) rfl (by show 2 * 0 + _ ≤ _; exact Nat.le_of_eq rfl) (hb hby at_126) (fun _ _ => ⟨rfl, e16q, (by decide : 2 + 0 ≤ _), (by decide : 4 + 0 ≤ _)⟩)
  dsimp only [Pt.U, Pt.locs, Pt.cells, Pt.slots] at X17 l17 y17 z17 st17 hQ17
  subst l17 y17 z17
  obtain ⟨rfl, N17q, e17q⟩ := hQ17
  have N17 := Fr.app N16 N17q
  obtain ⟨_, _, ⟨T18, L18, k18, n18⟩, -, X18, ⟨Lc18, hQ18, l18, y18, z18⟩, st18⟩ := Jvm.LawKit.callS X17 hx (y := (⟨"com/example/coretally/coretally/core/RatioCompareToPinLaw", "sign", "(I)I"⟩ : MethodName)) hown (mvT hZ (hw _ (List.mem_of_getElem? (i := 35) rfl))) (mvT hZ (hw _ (List.mem_of_getElem? (i := 36) rfl))) (mvT hZ (hw _ (List.mem_of_getElem? (i := 3) rfl))) (mvT hZ (hw _ (List.mem_of_getElem? (i := 37) rfl))) (by decide) (backOf (W := 0) (rm8 l Z a0 hw [] (if own_cmp (p1 &&& (9223372036854775807 : Int64)) (own_pick (p1 &&& (9223372036854775807 : Int64)) p3 p5) = 0 then own_cmp (p2 &&& (9223372036854775807 : Int64)) (own_pick (p2 &&& (9223372036854775807 : Int64)) p4 ((p5.toUInt32 >>> ((2 : Int32) &&& 31).toUInt32).toInt32)) else own_cmp (p1 &&& (9223372036854775807 : Int64)) (own_pick (p1 &&& (9223372036854775807 : Int64)) p3 p5)) (T9.heap) n0 sz14 ) hZ (hw _ (List.mem_of_getElem? (i := 37) rfl)) (hw _ (List.mem_of_getElem? (i := 3) rfl)) (by decide) (by decide)) (g := (mkF m 133 #[.val (.long p1), .second, .val (.long p2), .second, .val (.long p3), .second, .val (.long p4), .second, .val (.int p5), .val (.long (p1 &&& (9223372036854775807 : Int64))), .second, .val (.long (p2 &&& (9223372036854775807 : Int64))), .second, .val (.long (own_pick (p1 &&& (9223372036854775807 : Int64)) p3 p5)), .second, .val (.long (own_pick (p2 &&& (9223372036854775807 : Int64)) p4 ((p5.toUInt32 >>> ((2 : Int32) &&& 31).toUInt32).toInt32))), .second, .val (.ref b3), .val (.ref b6), .val (.int (if own_cmp (p1 &&& (9223372036854775807 : Int64)) (own_pick (p1 &&& (9223372036854775807 : Int64)) p3 p5) = 0 then own_cmp (p2 &&& (9223372036854775807 : Int64)) (own_pick (p2 &&& (9223372036854775807 : Int64)) p4 ((p5.toUInt32 >>> ((2 : Int32) &&& 31).toUInt32).toInt32)) else own_cmp (p1 &&& (9223372036854775807 : Int64)) (own_pick (p1 &&& (9223372036854775807 : Int64)) p3 p5))), .val (.int (own_cmp (p1 &&& (9223372036854775807 : Int64)) (own_pick (p1 &&& (9223372036854775807 : Int64)) p3 p5))), .val (.int (own_cmp (p2 &&& (9223372036854775807 : Int64)) (own_pick (p2 &&& (9223372036854775807 : Int64)) p4 ((p5.toUInt32 >>> ((2 : Int32) &&& 31).toUInt32).toInt32))))] [(.int (if own_cmp (p1 &&& (9223372036854775807 : Int64)) (own_pick (p1 &&& (9223372036854775807 : Int64)) p3 p5) = 0 then own_cmp (p2 &&& (9223372036854775807 : Int64)) (own_pick (p2 &&& (9223372036854775807 : Int64)) p4 ((p5.toUInt32 >>> ((2 : Int32) &&& 31).toUInt32).toInt32)) else own_cmp (p1 &&& (9223372036854775807 : Int64)) (own_pick (p1 &&& (9223372036854775807 : Int64)) p3 p5)))])) rfl (by rw [hml]; rfl) (argsL := [(.int (if own_cmp (p1 &&& (9223372036854775807 : Int64)) (own_pick (p1 &&& (9223372036854775807 : Int64)) p3 p5) = 0 then own_cmp (p2 &&& (9223372036854775807 : Int64)) (own_pick (p2 &&& (9223372036854775807 : Int64)) p4 ((p5.toUInt32 >>> ((2 : Int32) &&& 31).toUInt32).toInt32)) else own_cmp (p1 &&& (9223372036854775807 : Int64)) (own_pick (p1 &&& (9223372036854775807 : Int64)) p3 p5)))]) (rest := []) (lenOf pd_5 rfl) rfl (by show 2 * 0 + _ ≤ _; exact Nat.le_of_eq rfl) (hb hby at_133) (fun _ _ => ⟨rfl, e17q, (by decide : 2 + 0 ≤ _), (by decide : 4 + 0 ≤ _)⟩)
  dsimp only [Pt.U, Pt.locs, Pt.cells, Pt.slots] at X18 l18 y18 z18 st18 hQ18
  subst l18 y18 z18
  obtain ⟨rfl, N18q, e18q⟩ := hQ18
  have N18 := Fr.app N17 N18q
  obtain ⟨fs, hr, hrun, hended, hW, hsame⟩ := X18.leave (v := some (.int (1 : Int32))) (fun h => by rw [Bd.returns] at h; cases h)
  refine ⟨_, _, pre0 _ ?_, hrun, hended, _, _, rfl, ?_, ⟨_, rfl⟩, hW, hsame.mono (by decide) (by decide)⟩
  · show Steps p.tables e below (s₁.setTop (mkF m 0 #[.val (.long p1), .second, .val (.long p2), .second, .val (.long p3), .second, .val (.long p4), .second, .val (.int p5), .unset, .unset, .unset, .unset, .unset, .unset, .unset, .unset, .unset, .unset, .unset, .unset, .unset] [])) _
    refine XS.lloadN X0.here hx rfl (hb hby at_0) rfl ?_
    show Steps p.tables e below (s₁.setTop (mkF m 1 #[.val (.long p1), .second, .val (.long p2), .second, .val (.long p3), .second, .val (.long p4), .second, .val (.int p5), .unset, .unset, .unset, .unset, .unset, .unset, .unset, .unset, .unset, .unset, .unset, .unset, .unset] [(.long p1)])) _
    refine X0.ldc2Long hx hown (mvT hZ (hw _ (List.mem_of_getElem? (i := 0) rfl))) (g := (mkF m 1 #[.val (.long p1), .second, .val (.long p2), .second, .val (.long p3), .second, .val (.long p4), .second, .val (.int p5), .unset, .unset, .unset, .unset, .unset, .unset, .unset, .unset, .unset, .unset, .unset, .unset, .unset] [(.long p1)])) rfl (hb hby at_1) _ ?_
    show Steps p.tables e below (s₁.setTop (mkF m 4 #[.val (.long p1), .second, .val (.long p2), .second, .val (.long p3), .second, .val (.long p4), .second, .val (.int p5), .unset, .unset, .unset, .unset, .unset, .unset, .unset, .unset, .unset, .unset, .unset, .unset, .unset] [(.long (9223372036854775807 : Int64)), (.long p1)])) _
    refine XS.land X0.here hx rfl (hb hby at_4) rfl ?_
    show Steps p.tables e below (s₁.setTop (mkF m 5 #[.val (.long p1), .second, .val (.long p2), .second, .val (.long p3), .second, .val (.long p4), .second, .val (.int p5), .unset, .unset, .unset, .unset, .unset, .unset, .unset, .unset, .unset, .unset, .unset, .unset, .unset] [(.long (p1 &&& (9223372036854775807 : Int64)))])) _
    refine XS.lstore X0.here hx rfl (hb hby at_5) rfl (l' := #[.val (.long p1), .second, .val (.long p2), .second, .val (.long p3), .second, .val (.long p4), .second, .val (.int p5), .val (.long (p1 &&& (9223372036854775807 : Int64))), .second, .unset, .unset, .unset, .unset, .unset, .unset, .unset, .unset, .unset, .unset, .unset]) rfl ?_
    show Steps p.tables e below (s₁.setTop (mkF m 7 #[.val (.long p1), .second, .val (.long p2), .second, .val (.long p3), .second, .val (.long p4), .second, .val (.int p5), .val (.long (p1 &&& (9223372036854775807 : Int64))), .second, .unset, .unset, .unset, .unset, .unset, .unset, .unset, .unset, .unset, .unset, .unset] [])) _
    refine XS.lloadN X0.here hx rfl (hb hby at_7) rfl ?_
    show Steps p.tables e below (s₁.setTop (mkF m 8 #[.val (.long p1), .second, .val (.long p2), .second, .val (.long p3), .second, .val (.long p4), .second, .val (.int p5), .val (.long (p1 &&& (9223372036854775807 : Int64))), .second, .unset, .unset, .unset, .unset, .unset, .unset, .unset, .unset, .unset, .unset, .unset] [(.long p2)])) _
    refine X0.ldc2Long hx hown (mvT hZ (hw _ (List.mem_of_getElem? (i := 0) rfl))) (g := (mkF m 8 #[.val (.long p1), .second, .val (.long p2), .second, .val (.long p3), .second, .val (.long p4), .second, .val (.int p5), .val (.long (p1 &&& (9223372036854775807 : Int64))), .second, .unset, .unset, .unset, .unset, .unset, .unset, .unset, .unset, .unset, .unset, .unset] [(.long p2)])) rfl (hb hby at_8) _ ?_
    show Steps p.tables e below (s₁.setTop (mkF m 11 #[.val (.long p1), .second, .val (.long p2), .second, .val (.long p3), .second, .val (.long p4), .second, .val (.int p5), .val (.long (p1 &&& (9223372036854775807 : Int64))), .second, .unset, .unset, .unset, .unset, .unset, .unset, .unset, .unset, .unset, .unset, .unset] [(.long (9223372036854775807 : Int64)), (.long p2)])) _
    refine XS.land X0.here hx rfl (hb hby at_11) rfl ?_
    show Steps p.tables e below (s₁.setTop (mkF m 12 #[.val (.long p1), .second, .val (.long p2), .second, .val (.long p3), .second, .val (.long p4), .second, .val (.int p5), .val (.long (p1 &&& (9223372036854775807 : Int64))), .second, .unset, .unset, .unset, .unset, .unset, .unset, .unset, .unset, .unset, .unset, .unset] [(.long (p2 &&& (9223372036854775807 : Int64)))])) _
    refine XS.lstore X0.here hx rfl (hb hby at_12) rfl (l' := #[.val (.long p1), .second, .val (.long p2), .second, .val (.long p3), .second, .val (.long p4), .second, .val (.int p5), .val (.long (p1 &&& (9223372036854775807 : Int64))), .second, .val (.long (p2 &&& (9223372036854775807 : Int64))), .second, .unset, .unset, .unset, .unset, .unset, .unset, .unset, .unset, .unset]) rfl ?_
    show Steps p.tables e below (s₁.setTop (mkF m 14 #[.val (.long p1), .second, .val (.long p2), .second, .val (.long p3), .second, .val (.long p4), .second, .val (.int p5), .val (.long (p1 &&& (9223372036854775807 : Int64))), .second, .val (.long (p2 &&& (9223372036854775807 : Int64))), .second, .unset, .unset, .unset, .unset, .unset, .unset, .unset, .unset, .unset] [])) _
    refine XS.lload X0.here hx rfl (hb hby at_14) rfl ?_
    show Steps p.tables e below (s₁.setTop (mkF m 16 #[.val (.long p1), .second, .val (.long p2), .second, .val (.long p3), .second, .val (.long p4), .second, .val (.int p5), .val (.long (p1 &&& (9223372036854775807 : Int64))), .second, .val (.long (p2 &&& (9223372036854775807 : Int64))), .second, .unset, .unset, .unset, .unset, .unset, .unset, .unset, .unset, .unset] [(.long (p1 &&& (9223372036854775807 : Int64)))])) _
    refine XS.lload X0.here hx rfl (hb hby at_16) rfl ?_
    show Steps p.tables e below (s₁.setTop (mkF m 18 #[.val (.long p1), .second, .val (.long p2), .second, .val (.long p3), .second, .val (.long p4), .second, .val (.int p5), .val (.long (p1 &&& (9223372036854775807 : Int64))), .second, .val (.long (p2 &&& (9223372036854775807 : Int64))), .second, .unset, .unset, .unset, .unset, .unset, .unset, .unset, .unset, .unset] [(.long p3), (.long (p1 &&& (9223372036854775807 : Int64)))])) _
    refine XS.iload X0.here hx rfl (hb hby at_18) rfl ?_
    show Steps p.tables e below (s₁.setTop (mkF m 20 #[.val (.long p1), .second, .val (.long p2), .second, .val (.long p3), .second, .val (.long p4), .second, .val (.int p5), .val (.long (p1 &&& (9223372036854775807 : Int64))), .second, .val (.long (p2 &&& (9223372036854775807 : Int64))), .second, .unset, .unset, .unset, .unset, .unset, .unset, .unset, .unset, .unset] [(.int p5), (.long p3), (.long (p1 &&& (9223372036854775807 : Int64)))])) _
    refine st1 _ ?_
    show Steps p.tables e below (T1.setTop (mkF m 23 #[.val (.long p1), .second, .val (.long p2), .second, .val (.long p3), .second, .val (.long p4), .second, .val (.int p5), .val (.long (p1 &&& (9223372036854775807 : Int64))), .second, .val (.long (p2 &&& (9223372036854775807 : Int64))), .second, .unset, .unset, .unset, .unset, .unset, .unset, .unset, .unset, .unset] [(.long (own_pick (p1 &&& (9223372036854775807 : Int64)) p3 p5))])) _
    refine XS.lstore X1.here hx rfl (hb hby at_23) rfl (l' := #[.val (.long p1), .second, .val (.long p2), .second, .val (.long p3), .second, .val (.long p4), .second, .val (.int p5), .val (.long (p1 &&& (9223372036854775807 : Int64))), .second, .val (.long (p2 &&& (9223372036854775807 : Int64))), .second, .val (.long (own_pick (p1 &&& (9223372036854775807 : Int64)) p3 p5)), .second, .unset, .unset, .unset, .unset, .unset, .unset, .unset]) rfl ?_
    show Steps p.tables e below (T1.setTop (mkF m 25 #[.val (.long p1), .second, .val (.long p2), .second, .val (.long p3), .second, .val (.long p4), .second, .val (.int p5), .val (.long (p1 &&& (9223372036854775807 : Int64))), .second, .val (.long (p2 &&& (9223372036854775807 : Int64))), .second, .val (.long (own_pick (p1 &&& (9223372036854775807 : Int64)) p3 p5)), .second, .unset, .unset, .unset, .unset, .unset, .unset, .unset] [])) _
    refine XS.lload X1.here hx rfl (hb hby at_25) rfl ?_
    show Steps p.tables e below (T1.setTop (mkF m 27 #[.val (.long p1), .second, .val (.long p2), .second, .val (.long p3), .second, .val (.long p4), .second, .val (.int p5), .val (.long (p1 &&& (9223372036854775807 : Int64))), .second, .val (.long (p2 &&& (9223372036854775807 : Int64))), .second, .val (.long (own_pick (p1 &&& (9223372036854775807 : Int64)) p3 p5)), .second, .unset, .unset, .unset, .unset, .unset, .unset, .unset] [(.long (p2 &&& (9223372036854775807 : Int64)))])) _
    refine XS.lload X1.here hx rfl (hb hby at_27) rfl ?_
    show Steps p.tables e below (T1.setTop (mkF m 29 #[.val (.long p1), .second, .val (.long p2), .second, .val (.long p3), .second, .val (.long p4), .second, .val (.int p5), .val (.long (p1 &&& (9223372036854775807 : Int64))), .second, .val (.long (p2 &&& (9223372036854775807 : Int64))), .second, .val (.long (own_pick (p1 &&& (9223372036854775807 : Int64)) p3 p5)), .second, .unset, .unset, .unset, .unset, .unset, .unset, .unset] [(.long p4), (.long (p2 &&& (9223372036854775807 : Int64)))])) _
    refine XS.iload X1.here hx rfl (hb hby at_29) rfl ?_
    show Steps p.tables e below (T1.setTop (mkF m 31 #[.val (.long p1), .second, .val (.long p2), .second, .val (.long p3), .second, .val (.long p4), .second, .val (.int p5), .val (.long (p1 &&& (9223372036854775807 : Int64))), .second, .val (.long (p2 &&& (9223372036854775807 : Int64))), .second, .val (.long (own_pick (p1 &&& (9223372036854775807 : Int64)) p3 p5)), .second, .unset, .unset, .unset, .unset, .unset, .unset, .unset] [(.int p5), (.long p4), (.long (p2 &&& (9223372036854775807 : Int64)))])) _
    refine XS.iconst X1.here hx rfl (hb hby at_31) ?_
    show Steps p.tables e below (T1.setTop (mkF m 32 #[.val (.long p1), .second, .val (.long p2), .second, .val (.long p3), .second, .val (.long p4), .second, .val (.int p5), .val (.long (p1 &&& (9223372036854775807 : Int64))), .second, .val (.long (p2 &&& (9223372036854775807 : Int64))), .second, .val (.long (own_pick (p1 &&& (9223372036854775807 : Int64)) p3 p5)), .second, .unset, .unset, .unset, .unset, .unset, .unset, .unset] [(.int (2 : Int32)), (.int p5), (.long p4), (.long (p2 &&& (9223372036854775807 : Int64)))])) _
    refine XS.iushr X1.here hx rfl (hb hby at_32) rfl ?_
    show Steps p.tables e below (T1.setTop (mkF m 33 #[.val (.long p1), .second, .val (.long p2), .second, .val (.long p3), .second, .val (.long p4), .second, .val (.int p5), .val (.long (p1 &&& (9223372036854775807 : Int64))), .second, .val (.long (p2 &&& (9223372036854775807 : Int64))), .second, .val (.long (own_pick (p1 &&& (9223372036854775807 : Int64)) p3 p5)), .second, .unset, .unset, .unset, .unset, .unset, .unset, .unset] [(.int ((p5.toUInt32 >>> ((2 : Int32) &&& 31).toUInt32).toInt32)), (.long p4), (.long (p2 &&& (9223372036854775807 : Int64)))])) _
    refine st2 _ ?_
    show Steps p.tables e below (T2.setTop (mkF m 36 #[.val (.long p1), .second, .val (.long p2), .second, .val (.long p3), .second, .val (.long p4), .second, .val (.int p5), .val (.long (p1 &&& (9223372036854775807 : Int64))), .second, .val (.long (p2 &&& (9223372036854775807 : Int64))), .second, .val (.long (own_pick (p1 &&& (9223372036854775807 : Int64)) p3 p5)), .second, .unset, .unset, .unset, .unset, .unset, .unset, .unset] [(.long (own_pick (p2 &&& (9223372036854775807 : Int64)) p4 ((p5.toUInt32 >>> ((2 : Int32) &&& 31).toUInt32).toInt32)))])) _
    refine XS.lstore X2.here hx rfl (hb hby at_36) rfl (l' := #[.val (.long p1), .second, .val (.long p2), .second, .val (.long p3), .second, .val (.long p4), .second, .val (.int p5), .val (.long (p1 &&& (9223372036854775807 : Int64))), .second, .val (.long (p2 &&& (9223372036854775807 : Int64))), .second, .val (.long (own_pick (p1 &&& (9223372036854775807 : Int64)) p3 p5)), .second, .val (.long (own_pick (p2 &&& (9223372036854775807 : Int64)) p4 ((p5.toUInt32 >>> ((2 : Int32) &&& 31).toUInt32).toInt32))), .second, .unset, .unset, .unset, .unset, .unset]) rfl ?_
    show Steps p.tables e below (T2.setTop (mkF m 38 #[.val (.long p1), .second, .val (.long p2), .second, .val (.long p3), .second, .val (.long p4), .second, .val (.int p5), .val (.long (p1 &&& (9223372036854775807 : Int64))), .second, .val (.long (p2 &&& (9223372036854775807 : Int64))), .second, .val (.long (own_pick (p1 &&& (9223372036854775807 : Int64)) p3 p5)), .second, .val (.long (own_pick (p2 &&& (9223372036854775807 : Int64)) p4 ((p5.toUInt32 >>> ((2 : Int32) &&& 31).toUInt32).toInt32))), .second, .unset, .unset, .unset, .unset, .unset] [])) _
    refine XS.lload X2.here hx rfl (hb hby at_38) rfl ?_
    show Steps p.tables e below (T2.setTop (mkF m 40 #[.val (.long p1), .second, .val (.long p2), .second, .val (.long p3), .second, .val (.long p4), .second, .val (.int p5), .val (.long (p1 &&& (9223372036854775807 : Int64))), .second, .val (.long (p2 &&& (9223372036854775807 : Int64))), .second, .val (.long (own_pick (p1 &&& (9223372036854775807 : Int64)) p3 p5)), .second, .val (.long (own_pick (p2 &&& (9223372036854775807 : Int64)) p4 ((p5.toUInt32 >>> ((2 : Int32) &&& 31).toUInt32).toInt32))), .second, .unset, .unset, .unset, .unset, .unset] [(.long (p1 &&& (9223372036854775807 : Int64)))])) _
    refine XS.lconst X2.here hx rfl (hb hby at_40) ?_
    show Steps p.tables e below (T2.setTop (mkF m 41 #[.val (.long p1), .second, .val (.long p2), .second, .val (.long p3), .second, .val (.long p4), .second, .val (.int p5), .val (.long (p1 &&& (9223372036854775807 : Int64))), .second, .val (.long (p2 &&& (9223372036854775807 : Int64))), .second, .val (.long (own_pick (p1 &&& (9223372036854775807 : Int64)) p3 p5)), .second, .val (.long (own_pick (p2 &&& (9223372036854775807 : Int64)) p4 ((p5.toUInt32 >>> ((2 : Int32) &&& 31).toUInt32).toInt32))), .second, .unset, .unset, .unset, .unset, .unset] [(.long (0 : Int64)), (.long (p1 &&& (9223372036854775807 : Int64)))])) _
    refine XS.lcmp X2.here hx rfl (hb hby at_41) rfl ?_
    show Steps p.tables e below (T2.setTop (mkF m 42 #[.val (.long p1), .second, .val (.long p2), .second, .val (.long p3), .second, .val (.long p4), .second, .val (.int p5), .val (.long (p1 &&& (9223372036854775807 : Int64))), .second, .val (.long (p2 &&& (9223372036854775807 : Int64))), .second, .val (.long (own_pick (p1 &&& (9223372036854775807 : Int64)) p3 p5)), .second, .val (.long (own_pick (p2 &&& (9223372036854775807 : Int64)) p4 ((p5.toUInt32 >>> ((2 : Int32) &&& 31).toUInt32).toInt32))), .second, .unset, .unset, .unset, .unset, .unset] [(.int (lcmpW (p1 &&& (9223372036854775807 : Int64)) (0 : Int64)))])) _
    refine XS.ifNo X2.here hx rfl (hb hby at_42) rfl ((if0 _ _).trans (feq (show ¬ ((lcmpW (p1 &&& (9223372036854775807 : Int64)) (0 : Int64)) = (0 : Int32)) from hc42)).1) ?_
    show Steps p.tables e below (T2.setTop (mkF m 45 #[.val (.long p1), .second, .val (.long p2), .second, .val (.long p3), .second, .val (.long p4), .second, .val (.int p5), .val (.long (p1 &&& (9223372036854775807 : Int64))), .second, .val (.long (p2 &&& (9223372036854775807 : Int64))), .second, .val (.long (own_pick (p1 &&& (9223372036854775807 : Int64)) p3 p5)), .second, .val (.long (own_pick (p2 &&& (9223372036854775807 : Int64)) p4 ((p5.toUInt32 >>> ((2 : Int32) &&& 31).toUInt32).toInt32))), .second, .unset, .unset, .unset, .unset, .unset] [])) _
    refine XS.lload X2.here hx rfl (hb hby at_45) rfl ?_
    show Steps p.tables e below (T2.setTop (mkF m 47 #[.val (.long p1), .second, .val (.long p2), .second, .val (.long p3), .second, .val (.long p4), .second, .val (.int p5), .val (.long (p1 &&& (9223372036854775807 : Int64))), .second, .val (.long (p2 &&& (9223372036854775807 : Int64))), .second, .val (.long (own_pick (p1 &&& (9223372036854775807 : Int64)) p3 p5)), .second, .val (.long (own_pick (p2 &&& (9223372036854775807 : Int64)) p4 ((p5.toUInt32 >>> ((2 : Int32) &&& 31).toUInt32).toInt32))), .second, .unset, .unset, .unset, .unset, .unset] [(.long (p2 &&& (9223372036854775807 : Int64)))])) _
    refine XS.lconst X2.here hx rfl (hb hby at_47) ?_
    show Steps p.tables e below (T2.setTop (mkF m 48 #[.val (.long p1), .second, .val (.long p2), .second, .val (.long p3), .second, .val (.long p4), .second, .val (.int p5), .val (.long (p1 &&& (9223372036854775807 : Int64))), .second, .val (.long (p2 &&& (9223372036854775807 : Int64))), .second, .val (.long (own_pick (p1 &&& (9223372036854775807 : Int64)) p3 p5)), .second, .val (.long (own_pick (p2 &&& (9223372036854775807 : Int64)) p4 ((p5.toUInt32 >>> ((2 : Int32) &&& 31).toUInt32).toInt32))), .second, .unset, .unset, .unset, .unset, .unset] [(.long (0 : Int64)), (.long (p2 &&& (9223372036854775807 : Int64)))])) _
    refine XS.lcmp X2.here hx rfl (hb hby at_48) rfl ?_
    show Steps p.tables e below (T2.setTop (mkF m 49 #[.val (.long p1), .second, .val (.long p2), .second, .val (.long p3), .second, .val (.long p4), .second, .val (.int p5), .val (.long (p1 &&& (9223372036854775807 : Int64))), .second, .val (.long (p2 &&& (9223372036854775807 : Int64))), .second, .val (.long (own_pick (p1 &&& (9223372036854775807 : Int64)) p3 p5)), .second, .val (.long (own_pick (p2 &&& (9223372036854775807 : Int64)) p4 ((p5.toUInt32 >>> ((2 : Int32) &&& 31).toUInt32).toInt32))), .second, .unset, .unset, .unset, .unset, .unset] [(.int (lcmpW (p2 &&& (9223372036854775807 : Int64)) (0 : Int64)))])) _
    refine XS.ifNo X2.here hx rfl (hb hby at_49) rfl ((if0 _ _).trans (feq (show ¬ ((lcmpW (p2 &&& (9223372036854775807 : Int64)) (0 : Int64)) = (0 : Int32)) from hc49)).1) ?_
    show Steps p.tables e below (T2.setTop (mkF m 52 #[.val (.long p1), .second, .val (.long p2), .second, .val (.long p3), .second, .val (.long p4), .second, .val (.int p5), .val (.long (p1 &&& (9223372036854775807 : Int64))), .second, .val (.long (p2 &&& (9223372036854775807 : Int64))), .second, .val (.long (own_pick (p1 &&& (9223372036854775807 : Int64)) p3 p5)), .second, .val (.long (own_pick (p2 &&& (9223372036854775807 : Int64)) p4 ((p5.toUInt32 >>> ((2 : Int32) &&& 31).toUInt32).toInt32))), .second, .unset, .unset, .unset, .unset, .unset] [])) _
    refine XS.lload X2.here hx rfl (hb hby at_52) rfl ?_
    show Steps p.tables e below (T2.setTop (mkF m 54 #[.val (.long p1), .second, .val (.long p2), .second, .val (.long p3), .second, .val (.long p4), .second, .val (.int p5), .val (.long (p1 &&& (9223372036854775807 : Int64))), .second, .val (.long (p2 &&& (9223372036854775807 : Int64))), .second, .val (.long (own_pick (p1 &&& (9223372036854775807 : Int64)) p3 p5)), .second, .val (.long (own_pick (p2 &&& (9223372036854775807 : Int64)) p4 ((p5.toUInt32 >>> ((2 : Int32) &&& 31).toUInt32).toInt32))), .second, .unset, .unset, .unset, .unset, .unset] [(.long (own_pick (p1 &&& (9223372036854775807 : Int64)) p3 p5))])) _
    refine XS.lconst X2.here hx rfl (hb hby at_54) ?_
    show Steps p.tables e below (T2.setTop (mkF m 55 #[.val (.long p1), .second, .val (.long p2), .second, .val (.long p3), .second, .val (.long p4), .second, .val (.int p5), .val (.long (p1 &&& (9223372036854775807 : Int64))), .second, .val (.long (p2 &&& (9223372036854775807 : Int64))), .second, .val (.long (own_pick (p1 &&& (9223372036854775807 : Int64)) p3 p5)), .second, .val (.long (own_pick (p2 &&& (9223372036854775807 : Int64)) p4 ((p5.toUInt32 >>> ((2 : Int32) &&& 31).toUInt32).toInt32))), .second, .unset, .unset, .unset, .unset, .unset] [(.long (0 : Int64)), (.long (own_pick (p1 &&& (9223372036854775807 : Int64)) p3 p5))])) _
    refine XS.lcmp X2.here hx rfl (hb hby at_55) rfl ?_
    show Steps p.tables e below (T2.setTop (mkF m 56 #[.val (.long p1), .second, .val (.long p2), .second, .val (.long p3), .second, .val (.long p4), .second, .val (.int p5), .val (.long (p1 &&& (9223372036854775807 : Int64))), .second, .val (.long (p2 &&& (9223372036854775807 : Int64))), .second, .val (.long (own_pick (p1 &&& (9223372036854775807 : Int64)) p3 p5)), .second, .val (.long (own_pick (p2 &&& (9223372036854775807 : Int64)) p4 ((p5.toUInt32 >>> ((2 : Int32) &&& 31).toUInt32).toInt32))), .second, .unset, .unset, .unset, .unset, .unset] [(.int (lcmpW (own_pick (p1 &&& (9223372036854775807 : Int64)) p3 p5) (0 : Int64)))])) _
    refine XS.ifNo X2.here hx rfl (hb hby at_56) rfl ((if0 _ _).trans (feq (show ¬ ((lcmpW (own_pick (p1 &&& (9223372036854775807 : Int64)) p3 p5) (0 : Int64)) = (0 : Int32)) from hc56)).1) ?_
    show Steps p.tables e below (T2.setTop (mkF m 59 #[.val (.long p1), .second, .val (.long p2), .second, .val (.long p3), .second, .val (.long p4), .second, .val (.int p5), .val (.long (p1 &&& (9223372036854775807 : Int64))), .second, .val (.long (p2 &&& (9223372036854775807 : Int64))), .second, .val (.long (own_pick (p1 &&& (9223372036854775807 : Int64)) p3 p5)), .second, .val (.long (own_pick (p2 &&& (9223372036854775807 : Int64)) p4 ((p5.toUInt32 >>> ((2 : Int32) &&& 31).toUInt32).toInt32))), .second, .unset, .unset, .unset, .unset, .unset] [])) _
    refine XS.lload X2.here hx rfl (hb hby at_59) rfl ?_
    show Steps p.tables e below (T2.setTop (mkF m 61 #[.val (.long p1), .second, .val (.long p2), .second, .val (.long p3), .second, .val (.long p4), .second, .val (.int p5), .val (.long (p1 &&& (9223372036854775807 : Int64))), .second, .val (.long (p2 &&& (9223372036854775807 : Int64))), .second, .val (.long (own_pick (p1 &&& (9223372036854775807 : Int64)) p3 p5)), .second, .val (.long (own_pick (p2 &&& (9223372036854775807 : Int64)) p4 ((p5.toUInt32 >>> ((2 : Int32) &&& 31).toUInt32).toInt32))), .second, .unset, .unset, .unset, .unset, .unset] [(.long (own_pick (p2 &&& (9223372036854775807 : Int64)) p4 ((p5.toUInt32 >>> ((2 : Int32) &&& 31).toUInt32).toInt32)))])) _
    refine XS.lconst X2.here hx rfl (hb hby at_61) ?_
    show Steps p.tables e below (T2.setTop (mkF m 62 #[.val (.long p1), .second, .val (.long p2), .second, .val (.long p3), .second, .val (.long p4), .second, .val (.int p5), .val (.long (p1 &&& (9223372036854775807 : Int64))), .second, .val (.long (p2 &&& (9223372036854775807 : Int64))), .second, .val (.long (own_pick (p1 &&& (9223372036854775807 : Int64)) p3 p5)), .second, .val (.long (own_pick (p2 &&& (9223372036854775807 : Int64)) p4 ((p5.toUInt32 >>> ((2 : Int32) &&& 31).toUInt32).toInt32))), .second, .unset, .unset, .unset, .unset, .unset] [(.long (0 : Int64)), (.long (own_pick (p2 &&& (9223372036854775807 : Int64)) p4 ((p5.toUInt32 >>> ((2 : Int32) &&& 31).toUInt32).toInt32)))])) _
    refine XS.lcmp X2.here hx rfl (hb hby at_62) rfl ?_
    show Steps p.tables e below (T2.setTop (mkF m 63 #[.val (.long p1), .second, .val (.long p2), .second, .val (.long p3), .second, .val (.long p4), .second, .val (.int p5), .val (.long (p1 &&& (9223372036854775807 : Int64))), .second, .val (.long (p2 &&& (9223372036854775807 : Int64))), .second, .val (.long (own_pick (p1 &&& (9223372036854775807 : Int64)) p3 p5)), .second, .val (.long (own_pick (p2 &&& (9223372036854775807 : Int64)) p4 ((p5.toUInt32 >>> ((2 : Int32) &&& 31).toUInt32).toInt32))), .second, .unset, .unset, .unset, .unset, .unset] [(.int (lcmpW (own_pick (p2 &&& (9223372036854775807 : Int64)) p4 ((p5.toUInt32 >>> ((2 : Int32) &&& 31).toUInt32).toInt32)) (0 : Int64)))])) _
    refine XS.ifYes X2.here hx rfl (pc0 := 63) (pc' := 68) rfl (hb hby at_63) rfl ((if0 _ _).trans (feq (show ¬ ((lcmpW (own_pick (p2 &&& (9223372036854775807 : Int64)) p4 ((p5.toUInt32 >>> ((2 : Int32) &&& 31).toUInt32).toInt32)) (0 : Int64)) = (0 : Int32)) from hc63)).2) (by decide) (by decide) ?_
    show Steps p.tables e below (T2.setTop (mkF m 68 #[.val (.long p1), .second, .val (.long p2), .second, .val (.long p3), .second, .val (.long p4), .second, .val (.int p5), .val (.long (p1 &&& (9223372036854775807 : Int64))), .second, .val (.long (p2 &&& (9223372036854775807 : Int64))), .second, .val (.long (own_pick (p1 &&& (9223372036854775807 : Int64)) p3 p5)), .second, .val (.long (own_pick (p2 &&& (9223372036854775807 : Int64)) p4 ((p5.toUInt32 >>> ((2 : Int32) &&& 31).toUInt32).toInt32))), .second, .unset, .unset, .unset, .unset, .unset] [])) _
    refine st3 _ ?_
    show Steps p.tables e below (T3.setTop (mkF m 71 #[.val (.long p1), .second, .val (.long p2), .second, .val (.long p3), .second, .val (.long p4), .second, .val (.int p5), .val (.long (p1 &&& (9223372036854775807 : Int64))), .second, .val (.long (p2 &&& (9223372036854775807 : Int64))), .second, .val (.long (own_pick (p1 &&& (9223372036854775807 : Int64)) p3 p5)), .second, .val (.long (own_pick (p2 &&& (9223372036854775807 : Int64)) p4 ((p5.toUInt32 >>> ((2 : Int32) &&& 31).toUInt32).toInt32))), .second, .unset, .unset, .unset, .unset, .unset] [(.ref b3)])) _
    refine XS.dup X3.here hx rfl (hb hby at_71) rfl rfl ?_
    show Steps p.tables e below (T3.setTop (mkF m 72 #[.val (.long p1), .second, .val (.long p2), .second, .val (.long p3), .second, .val (.long p4), .second, .val (.int p5), .val (.long (p1 &&& (9223372036854775807 : Int64))), .second, .val (.long (p2 &&& (9223372036854775807 : Int64))), .second, .val (.long (own_pick (p1 &&& (9223372036854775807 : Int64)) p3 p5)), .second, .val (.long (own_pick (p2 &&& (9223372036854775807 : Int64)) p4 ((p5.toUInt32 >>> ((2 : Int32) &&& 31).toUInt32).toInt32))), .second, .unset, .unset, .unset, .unset, .unset] [(.ref b3), (.ref b3)])) _
    refine XS.lload X3.here hx rfl (hb hby at_72) rfl ?_
    show Steps p.tables e below (T3.setTop (mkF m 74 #[.val (.long p1), .second, .val (.long p2), .second, .val (.long p3), .second, .val (.long p4), .second, .val (.int p5), .val (.long (p1 &&& (9223372036854775807 : Int64))), .second, .val (.long (p2 &&& (9223372036854775807 : Int64))), .second, .val (.long (own_pick (p1 &&& (9223372036854775807 : Int64)) p3 p5)), .second, .val (.long (own_pick (p2 &&& (9223372036854775807 : Int64)) p4 ((p5.toUInt32 >>> ((2 : Int32) &&& 31).toUInt32).toInt32))), .second, .unset, .unset, .unset, .unset, .unset] [(.long (p1 &&& (9223372036854775807 : Int64))), (.ref b3), (.ref b3)])) _
    refine XS.lload X3.here hx rfl (hb hby at_74) rfl ?_
    show Steps p.tables e below (T3.setTop (mkF m 76 #[.val (.long p1), .second, .val (.long p2), .second, .val (.long p3), .second, .val (.long p4), .second, .val (.int p5), .val (.long (p1 &&& (9223372036854775807 : Int64))), .second, .val (.long (p2 &&& (9223372036854775807 : Int64))), .second, .val (.long (own_pick (p1 &&& (9223372036854775807 : Int64)) p3 p5)), .second, .val (.long (own_pick (p2 &&& (9223372036854775807 : Int64)) p4 ((p5.toUInt32 >>> ((2 : Int32) &&& 31).toUInt32).toInt32))), .second, .unset, .unset, .unset, .unset, .unset] [(.long (p2 &&& (9223372036854775807 : Int64))), (.long (p1 &&& (9223372036854775807 : Int64))), (.ref b3), (.ref b3)])) _
    refine st4.trans ?_
    show Steps p.tables e below (T4.setTop (mkF m 79 #[.val (.long p1), .second, .val (.long p2), .second, .val (.long p3), .second, .val (.long p4), .second, .val (.int p5), .val (.long (p1 &&& (9223372036854775807 : Int64))), .second, .val (.long (p2 &&& (9223372036854775807 : Int64))), .second, .val (.long (own_pick (p1 &&& (9223372036854775807 : Int64)) p3 p5)), .second, .val (.long (own_pick (p2 &&& (9223372036854775807 : Int64)) p4 ((p5.toUInt32 >>> ((2 : Int32) &&& 31).toUInt32).toInt32))), .second, .unset, .unset, .unset, .unset, .unset] [(.ref b3)])) _
    refine XS.astore X4.here hx rfl (hb hby at_79) rfl rfl (l' := #[.val (.long p1), .second, .val (.long p2), .second, .val (.long p3), .second, .val (.long p4), .second, .val (.int p5), .val (.long (p1 &&& (9223372036854775807 : Int64))), .second, .val (.long (p2 &&& (9223372036854775807 : Int64))), .second, .val (.long (own_pick (p1 &&& (9223372036854775807 : Int64)) p3 p5)), .second, .val (.long (own_pick (p2 &&& (9223372036854775807 : Int64)) p4 ((p5.toUInt32 >>> ((2 : Int32) &&& 31).toUInt32).toInt32))), .second, .val (.ref b3), .unset, .unset, .unset, .unset]) rfl ?_
    show Steps p.tables e below (T4.setTop (mkF m 81 #[.val (.long p1), .second, .val (.long p2), .second, .val (.long p3), .second, .val (.long p4), .second, .val (.int p5), .val (.long (p1 &&& (9223372036854775807 : Int64))), .second, .val (.long (p2 &&& (9223372036854775807 : Int64))), .second, .val (.long (own_pick (p1 &&& (9223372036854775807 : Int64)) p3 p5)), .second, .val (.long (own_pick (p2 &&& (9223372036854775807 : Int64)) p4 ((p5.toUInt32 >>> ((2 : Int32) &&& 31).toUInt32).toInt32))), .second, .val (.ref b3), .unset, .unset, .unset, .unset] [])) _
    refine st6 _ ?_
    show Steps p.tables e below (T6.setTop (mkF m 84 #[.val (.long p1), .second, .val (.long p2), .second, .val (.long p3), .second, .val (.long p4), .second, .val (.int p5), .val (.long (p1 &&& (9223372036854775807 : Int64))), .second, .val (.long (p2 &&& (9223372036854775807 : Int64))), .second, .val (.long (own_pick (p1 &&& (9223372036854775807 : Int64)) p3 p5)), .second, .val (.long (own_pick (p2 &&& (9223372036854775807 : Int64)) p4 ((p5.toUInt32 >>> ((2 : Int32) &&& 31).toUInt32).toInt32))), .second, .val (.ref b3), .unset, .unset, .unset, .unset] [(.ref b6)])) _
    refine XS.dup X6.here hx rfl (hb hby at_84) rfl rfl ?_
    show Steps p.tables e below (T6.setTop (mkF m 85 #[.val (.long p1), .second, .val (.long p2), .second, .val (.long p3), .second, .val (.long p4), .second, .val (.int p5), .val (.long (p1 &&& (9223372036854775807 : Int64))), .second, .val (.long (p2 &&& (9223372036854775807 : Int64))), .second, .val (.long (own_pick (p1 &&& (9223372036854775807 : Int64)) p3 p5)), .second, .val (.long (own_pick (p2 &&& (9223372036854775807 : Int64)) p4 ((p5.toUInt32 >>> ((2 : Int32) &&& 31).toUInt32).toInt32))), .second, .val (.ref b3), .unset, .unset, .unset, .unset] [(.ref b6), (.ref b6)])) _
    refine XS.lload X6.here hx rfl (hb hby at_85) rfl ?_
    show Steps p.tables e below (T6.setTop (mkF m 87 #[.val (.long p1), .second, .val (.long p2), .second, .val (.long p3), .second, .val (.long p4), .second, .val (.int p5), .val (.long (p1 &&& (9223372036854775807 : Int64))), .second, .val (.long (p2 &&& (9223372036854775807 : Int64))), .second, .val (.long (own_pick (p1 &&& (9223372036854775807 : Int64)) p3 p5)), .second, .val (.long (own_pick (p2 &&& (9223372036854775807 : Int64)) p4 ((p5.toUInt32 >>> ((2 : Int32) &&& 31).toUInt32).toInt32))), .second, .val (.ref b3), .unset, .unset, .unset, .unset] [(.long (own_pick (p1 &&& (9223372036854775807 : Int64)) p3 p5)), (.ref b6), (.ref b6)])) _
    refine XS.lload X6.here hx rfl (hb hby at_87) rfl ?_
    show Steps p.tables e below (T6.setTop (mkF m 89 #[.val (.long p1), .second, .val (.long p2), .second, .val (.long p3), .second, .val (.long p4), .second, .val (.int p5), .val (.long (p1 &&& (9223372036854775807 : Int64))), .second, .val (.long (p2 &&& (9223372036854775807 : Int64))), .second, .val (.long (own_pick (p1 &&& (9223372036854775807 : Int64)) p3 p5)), .second, .val (.long (own_pick (p2 &&& (9223372036854775807 : Int64)) p4 ((p5.toUInt32 >>> ((2 : Int32) &&& 31).toUInt32).toInt32))), .second, .val (.ref b3), .unset, .unset, .unset, .unset] [(.long (own_pick (p2 &&& (9223372036854775807 : Int64)) p4 ((p5.toUInt32 >>> ((2 : Int32) &&& 31).toUInt32).toInt32))), (.long (own_pick (p1 &&& (9223372036854775807 : Int64)) p3 p5)), (.ref b6), (.ref b6)])) _
    refine st9.trans ?_
    show Steps p.tables e below (T9.setTop (mkF m 92 #[.val (.long p1), .second, .val (.long p2), .second, .val (.long p3), .second, .val (.long p4), .second, .val (.int p5), .val (.long (p1 &&& (9223372036854775807 : Int64))), .second, .val (.long (p2 &&& (9223372036854775807 : Int64))), .second, .val (.long (own_pick (p1 &&& (9223372036854775807 : Int64)) p3 p5)), .second, .val (.long (own_pick (p2 &&& (9223372036854775807 : Int64)) p4 ((p5.toUInt32 >>> ((2 : Int32) &&& 31).toUInt32).toInt32))), .second, .val (.ref b3), .unset, .unset, .unset, .unset] [(.ref b6)])) _
    refine XS.astore X9.here hx rfl (hb hby at_92) rfl rfl (l' := #[.val (.long p1), .second, .val (.long p2), .second, .val (.long p3), .second, .val (.long p4), .second, .val (.int p5), .val (.long (p1 &&& (9223372036854775807 : Int64))), .second, .val (.long (p2 &&& (9223372036854775807 : Int64))), .second, .val (.long (own_pick (p1 &&& (9223372036854775807 : Int64)) p3 p5)), .second, .val (.long (own_pick (p2 &&& (9223372036854775807 : Int64)) p4 ((p5.toUInt32 >>> ((2 : Int32) &&& 31).toUInt32).toInt32))), .second, .val (.ref b3), .val (.ref b6), .unset, .unset, .unset]) rfl ?_
    show Steps p.tables e below (T9.setTop (mkF m 94 #[.val (.long p1), .second, .val (.long p2), .second, .val (.long p3), .second, .val (.long p4), .second, .val (.int p5), .val (.long (p1 &&& (9223372036854775807 : Int64))), .second, .val (.long (p2 &&& (9223372036854775807 : Int64))), .second, .val (.long (own_pick (p1 &&& (9223372036854775807 : Int64)) p3 p5)), .second, .val (.long (own_pick (p2 &&& (9223372036854775807 : Int64)) p4 ((p5.toUInt32 >>> ((2 : Int32) &&& 31).toUInt32).toInt32))), .second, .val (.ref b3), .val (.ref b6), .unset, .unset, .unset] [])) _
    refine XS.aload X9.here hx rfl (hb hby at_94) rfl rfl ?_
    show Steps p.tables e below (T9.setTop (mkF m 96 #[.val (.long p1), .second, .val (.long p2), .second, .val (.long p3), .second, .val (.long p4), .second, .val (.int p5), .val (.long (p1 &&& (9223372036854775807 : Int64))), .second, .val (.long (p2 &&& (9223372036854775807 : Int64))), .second, .val (.long (own_pick (p1 &&& (9223372036854775807 : Int64)) p3 p5)), .second, .val (.long (own_pick (p2 &&& (9223372036854775807 : Int64)) p4 ((p5.toUInt32 >>> ((2 : Int32) &&& 31).toUInt32).toInt32))), .second, .val (.ref b3), .val (.ref b6), .unset, .unset, .unset] [(.ref b3)])) _
    refine XS.aload X9.here hx rfl (hb hby at_96) rfl rfl ?_
    show Steps p.tables e below (T9.setTop (mkF m 98 #[.val (.long p1), .second, .val (.long p2), .second, .val (.long p3), .second, .val (.long p4), .second, .val (.int p5), .val (.long (p1 &&& (9223372036854775807 : Int64))), .second, .val (.long (p2 &&& (9223372036854775807 : Int64))), .second, .val (.long (own_pick (p1 &&& (9223372036854775807 : Int64)) p3 p5)), .second, .val (.long (own_pick (p2 &&& (9223372036854775807 : Int64)) p4 ((p5.toUInt32 >>> ((2 : Int32) &&& 31).toUInt32).toInt32))), .second, .val (.ref b3), .val (.ref b6), .unset, .unset, .unset] [(.ref b6), (.ref b3)])) _
    refine st11.trans ?_
    show Steps p.tables e below (T11.setTop (mkF m 101 #[.val (.long p1), .second, .val (.long p2), .second, .val (.long p3), .second, .val (.long p4), .second, .val (.int p5), .val (.long (p1 &&& (9223372036854775807 : Int64))), .second, .val (.long (p2 &&& (9223372036854775807 : Int64))), .second, .val (.long (own_pick (p1 &&& (9223372036854775807 : Int64)) p3 p5)), .second, .val (.long (own_pick (p2 &&& (9223372036854775807 : Int64)) p4 ((p5.toUInt32 >>> ((2 : Int32) &&& 31).toUInt32).toInt32))), .second, .val (.ref b3), .val (.ref b6), .unset, .unset, .unset] [(.int (if own_cmp (p1 &&& (9223372036854775807 : Int64)) (own_pick (p1 &&& (9223372036854775807 : Int64)) p3 p5) = 0 then own_cmp (p2 &&& (9223372036854775807 : Int64)) (own_pick (p2 &&& (9223372036854775807 : Int64)) p4 ((p5.toUInt32 >>> ((2 : Int32) &&& 31).toUInt32).toInt32)) else own_cmp (p1 &&& (9223372036854775807 : Int64)) (own_pick (p1 &&& (9223372036854775807 : Int64)) p3 p5)))])) _
    refine XS.istore X11.here hx rfl (hb hby at_101) rfl (l' := #[.val (.long p1), .second, .val (.long p2), .second, .val (.long p3), .second, .val (.long p4), .second, .val (.int p5), .val (.long (p1 &&& (9223372036854775807 : Int64))), .second, .val (.long (p2 &&& (9223372036854775807 : Int64))), .second, .val (.long (own_pick (p1 &&& (9223372036854775807 : Int64)) p3 p5)), .second, .val (.long (own_pick (p2 &&& (9223372036854775807 : Int64)) p4 ((p5.toUInt32 >>> ((2 : Int32) &&& 31).toUInt32).toInt32))), .second, .val (.ref b3), .val (.ref b6), .val (.int (if own_cmp (p1 &&& (9223372036854775807 : Int64)) (own_pick (p1 &&& (9223372036854775807 : Int64)) p3 p5) = 0 then own_cmp (p2 &&& (9223372036854775807 : Int64)) (own_pick (p2 &&& (9223372036854775807 : Int64)) p4 ((p5.toUInt32 >>> ((2 : Int32) &&& 31).toUInt32).toInt32)) else own_cmp (p1 &&& (9223372036854775807 : Int64)) (own_pick (p1 &&& (9223372036854775807 : Int64)) p3 p5))), .unset, .unset]) rfl ?_
    show Steps p.tables e below (T11.setTop (mkF m 103 #[.val (.long p1), .second, .val (.long p2), .second, .val (.long p3), .second, .val (.long p4), .second, .val (.int p5), .val (.long (p1 &&& (9223372036854775807 : Int64))), .second, .val (.long (p2 &&& (9223372036854775807 : Int64))), .second, .val (.long (own_pick (p1 &&& (9223372036854775807 : Int64)) p3 p5)), .second, .val (.long (own_pick (p2 &&& (9223372036854775807 : Int64)) p4 ((p5.toUInt32 >>> ((2 : Int32) &&& 31).toUInt32).toInt32))), .second, .val (.ref b3), .val (.ref b6), .val (.int (if own_cmp (p1 &&& (9223372036854775807 : Int64)) (own_pick (p1 &&& (9223372036854775807 : Int64)) p3 p5) = 0 then own_cmp (p2 &&& (9223372036854775807 : Int64)) (own_pick (p2 &&& (9223372036854775807 : Int64)) p4 ((p5.toUInt32 >>> ((2 : Int32) &&& 31).toUInt32).toInt32)) else own_cmp (p1 &&& (9223372036854775807 : Int64)) (own_pick (p1 &&& (9223372036854775807 : Int64)) p3 p5))), .unset, .unset] [])) _
    refine XS.lload X11.here hx rfl (hb hby at_103) rfl ?_
    show Steps p.tables e below (T11.setTop (mkF m 105 #[.val (.long p1), .second, .val (.long p2), .second, .val (.long p3), .second, .val (.long p4), .second, .val (.int p5), .val (.long (p1 &&& (9223372036854775807 : Int64))), .second, .val (.long (p2 &&& (9223372036854775807 : Int64))), .second, .val (.long (own_pick (p1 &&& (9223372036854775807 : Int64)) p3 p5)), .second, .val (.long (own_pick (p2 &&& (9223372036854775807 : Int64)) p4 ((p5.toUInt32 >>> ((2 : Int32) &&& 31).toUInt32).toInt32))), .second, .val (.ref b3), .val (.ref b6), .val (.int (if own_cmp (p1 &&& (9223372036854775807 : Int64)) (own_pick (p1 &&& (9223372036854775807 : Int64)) p3 p5) = 0 then own_cmp (p2 &&& (9223372036854775807 : Int64)) (own_pick (p2 &&& (9223372036854775807 : Int64)) p4 ((p5.toUInt32 >>> ((2 : Int32) &&& 31).toUInt32).toInt32)) else own_cmp (p1 &&& (9223372036854775807 : Int64)) (own_pick (p1 &&& (9223372036854775807 : Int64)) p3 p5))), .unset, .unset] [(.long (p1 &&& (9223372036854775807 : Int64)))])) _
    refine XS.lload X11.here hx rfl (hb hby at_105) rfl ?_
    show Steps p.tables e below (T11.setTop (mkF m 107 #[.val (.long p1), .second, .val (.long p2), .second, .val (.long p3), .second, .val (.long p4), .second, .val (.int p5), .val (.long (p1 &&& (9223372036854775807 : Int64))), .second, .val (.long (p2 &&& (9223372036854775807 : Int64))), .second, .val (.long (own_pick (p1 &&& (9223372036854775807 : Int64)) p3 p5)), .second, .val (.long (own_pick (p2 &&& (9223372036854775807 : Int64)) p4 ((p5.toUInt32 >>> ((2 : Int32) &&& 31).toUInt32).toInt32))), .second, .val (.ref b3), .val (.ref b6), .val (.int (if own_cmp (p1 &&& (9223372036854775807 : Int64)) (own_pick (p1 &&& (9223372036854775807 : Int64)) p3 p5) = 0 then own_cmp (p2 &&& (9223372036854775807 : Int64)) (own_pick (p2 &&& (9223372036854775807 : Int64)) p4 ((p5.toUInt32 >>> ((2 : Int32) &&& 31).toUInt32).toInt32)) else own_cmp (p1 &&& (9223372036854775807 : Int64)) (own_pick (p1 &&& (9223372036854775807 : Int64)) p3 p5))), .unset, .unset] [(.long (own_pick (p1 &&& (9223372036854775807 : Int64)) p3 p5)), (.long (p1 &&& (9223372036854775807 : Int64)))])) _
    refine st16 _ ?_
    show Steps p.tables e below (T16.setTop (mkF m 110 #[.val (.long p1), .second, .val (.long p2), .second, .val (.long p3), .second, .val (.long p4), .second, .val (.int p5), .val (.long (p1 &&& (9223372036854775807 : Int64))), .second, .val (.long (p2 &&& (9223372036854775807 : Int64))), .second, .val (.long (own_pick (p1 &&& (9223372036854775807 : Int64)) p3 p5)), .second, .val (.long (own_pick (p2 &&& (9223372036854775807 : Int64)) p4 ((p5.toUInt32 >>> ((2 : Int32) &&& 31).toUInt32).toInt32))), .second, .val (.ref b3), .val (.ref b6), .val (.int (if own_cmp (p1 &&& (9223372036854775807 : Int64)) (own_pick (p1 &&& (9223372036854775807 : Int64)) p3 p5) = 0 then own_cmp (p2 &&& (9223372036854775807 : Int64)) (own_pick (p2 &&& (9223372036854775807 : Int64)) p4 ((p5.toUInt32 >>> ((2 : Int32) &&& 31).toUInt32).toInt32)) else own_cmp (p1 &&& (9223372036854775807 : Int64)) (own_pick (p1 &&& (9223372036854775807 : Int64)) p3 p5))), .unset, .unset] [(.int (own_cmp (p1 &&& (9223372036854775807 : Int64)) (own_pick (p1 &&& (9223372036854775807 : Int64)) p3 p5)))])) _
    refine XS.istore X16.here hx rfl (hb hby at_110) rfl (l' := #[.val (.long p1), .second, .val (.long p2), .second, .val (.long p3), .second, .val (.long p4), .second, .val (.int p5), .val (.long (p1 &&& (9223372036854775807 : Int64))), .second, .val (.long (p2 &&& (9223372036854775807 : Int64))), .second, .val (.long (own_pick (p1 &&& (9223372036854775807 : Int64)) p3 p5)), .second, .val (.long (own_pick (p2 &&& (9223372036854775807 : Int64)) p4 ((p5.toUInt32 >>> ((2 : Int32) &&& 31).toUInt32).toInt32))), .second, .val (.ref b3), .val (.ref b6), .val (.int (if own_cmp (p1 &&& (9223372036854775807 : Int64)) (own_pick (p1 &&& (9223372036854775807 : Int64)) p3 p5) = 0 then own_cmp (p2 &&& (9223372036854775807 : Int64)) (own_pick (p2 &&& (9223372036854775807 : Int64)) p4 ((p5.toUInt32 >>> ((2 : Int32) &&& 31).toUInt32).toInt32)) else own_cmp (p1 &&& (9223372036854775807 : Int64)) (own_pick (p1 &&& (9223372036854775807 : Int64)) p3 p5))), .val (.int (own_cmp (p1 &&& (9223372036854775807 : Int64)) (own_pick (p1 &&& (9223372036854775807 : Int64)) p3 p5))), .unset]) rfl ?_
    show Steps p.tables e below (T16.setTop (mkF m 112 #[.val (.long p1), .second, .val (.long p2), .second, .val (.long p3), .second, .val (.long p4), .second, .val (.int p5), .val (.long (p1 &&& (9223372036854775807 : Int64))), .second, .val (.long (p2 &&& (9223372036854775807 : Int64))), .second, .val (.long (own_pick (p1 &&& (9223372036854775807 : Int64)) p3 p5)), .second, .val (.long (own_pick (p2 &&& (9223372036854775807 : Int64)) p4 ((p5.toUInt32 >>> ((2 : Int32) &&& 31).toUInt32).toInt32))), .second, .val (.ref b3), .val (.ref b6), .val (.int (if own_cmp (p1 &&& (9223372036854775807 : Int64)) (own_pick (p1 &&& (9223372036854775807 : Int64)) p3 p5) = 0 then own_cmp (p2 &&& (9223372036854775807 : Int64)) (own_pick (p2 &&& (9223372036854775807 : Int64)) p4 ((p5.toUInt32 >>> ((2 : Int32) &&& 31).toUInt32).toInt32)) else own_cmp (p1 &&& (9223372036854775807 : Int64)) (own_pick (p1 &&& (9223372036854775807 : Int64)) p3 p5))), .val (.int (own_cmp (p1 &&& (9223372036854775807 : Int64)) (own_pick (p1 &&& (9223372036854775807 : Int64)) p3 p5))), .unset] [])) _
    refine XS.iload X16.here hx rfl (hb hby at_112) rfl ?_
    show Steps p.tables e below (T16.setTop (mkF m 114 #[.val (.long p1), .second, .val (.long p2), .second, .val (.long p3), .second, .val (.long p4), .second, .val (.int p5), .val (.long (p1 &&& (9223372036854775807 : Int64))), .second, .val (.long (p2 &&& (9223372036854775807 : Int64))), .second, .val (.long (own_pick (p1 &&& (9223372036854775807 : Int64)) p3 p5)), .second, .val (.long (own_pick (p2 &&& (9223372036854775807 : Int64)) p4 ((p5.toUInt32 >>> ((2 : Int32) &&& 31).toUInt32).toInt32))), .second, .val (.ref b3), .val (.ref b6), .val (.int (if own_cmp (p1 &&& (9223372036854775807 : Int64)) (own_pick (p1 &&& (9223372036854775807 : Int64)) p3 p5) = 0 then own_cmp (p2 &&& (9223372036854775807 : Int64)) (own_pick (p2 &&& (9223372036854775807 : Int64)) p4 ((p5.toUInt32 >>> ((2 : Int32) &&& 31).toUInt32).toInt32)) else own_cmp (p1 &&& (9223372036854775807 : Int64)) (own_pick (p1 &&& (9223372036854775807 : Int64)) p3 p5))), .val (.int (own_cmp (p1 &&& (9223372036854775807 : Int64)) (own_pick (p1 &&& (9223372036854775807 : Int64)) p3 p5))), .unset] [(.int (own_cmp (p1 &&& (9223372036854775807 : Int64)) (own_pick (p1 &&& (9223372036854775807 : Int64)) p3 p5)))])) _
    refine XS.ifYes X16.here hx rfl (pc0 := 114) (pc' := 122) rfl (hb hby at_114) rfl ((if0 _ _).trans (teq (show (own_cmp (p1 &&& (9223372036854775807 : Int64)) (own_pick (p1 &&& (9223372036854775807 : Int64)) p3 p5)) = (0 : Int32) from hc114)).1) (by decide) (by decide) ?_
    show Steps p.tables e below (T16.setTop (mkF m 122 #[.val (.long p1), .second, .val (.long p2), .second, .val (.long p3), .second, .val (.long p4), .second, .val (.int p5), .val (.long (p1 &&& (9223372036854775807 : Int64))), .second, .val (.long (p2 &&& (9223372036854775807 : Int64))), .second, .val (.long (own_pick (p1 &&& (9223372036854775807 : Int64)) p3 p5)), .second, .val (.long (own_pick (p2 &&& (9223372036854775807 : Int64)) p4 ((p5.toUInt32 >>> ((2 : Int32) &&& 31).toUInt32).toInt32))), .second, .val (.ref b3), .val (.ref b6), .val (.int (if own_cmp (p1 &&& (9223372036854775807 : Int64)) (own_pick (p1 &&& (9223372036854775807 : Int64)) p3 p5) = 0 then own_cmp (p2 &&& (9223372036854775807 : Int64)) (own_pick (p2 &&& (9223372036854775807 : Int64)) p4 ((p5.toUInt32 >>> ((2 : Int32) &&& 31).toUInt32).toInt32)) else own_cmp (p1 &&& (9223372036854775807 : Int64)) (own_pick (p1 &&& (9223372036854775807 : Int64)) p3 p5))), .val (.int (own_cmp (p1 &&& (9223372036854775807 : Int64)) (own_pick (p1 &&& (9223372036854775807 : Int64)) p3 p5))), .unset] [])) _
    refine XS.lload X16.here hx rfl (hb hby at_122) rfl ?_
    show Steps p.tables e below (T16.setTop (mkF m 124 #[.val (.long p1), .second, .val (.long p2), .second, .val (.long p3), .second, .val (.long p4), .second, .val (.int p5), .val (.long (p1 &&& (9223372036854775807 : Int64))), .second, .val (.long (p2 &&& (9223372036854775807 : Int64))), .second, .val (.long (own_pick (p1 &&& (9223372036854775807 : Int64)) p3 p5)), .second, .val (.long (own_pick (p2 &&& (9223372036854775807 : Int64)) p4 ((p5.toUInt32 >>> ((2 : Int32) &&& 31).toUInt32).toInt32))), .second, .val (.ref b3), .val (.ref b6), .val (.int (if own_cmp (p1 &&& (9223372036854775807 : Int64)) (own_pick (p1 &&& (9223372036854775807 : Int64)) p3 p5) = 0 then own_cmp (p2 &&& (9223372036854775807 : Int64)) (own_pick (p2 &&& (9223372036854775807 : Int64)) p4 ((p5.toUInt32 >>> ((2 : Int32) &&& 31).toUInt32).toInt32)) else own_cmp (p1 &&& (9223372036854775807 : Int64)) (own_pick (p1 &&& (9223372036854775807 : Int64)) p3 p5))), .val (.int (own_cmp (p1 &&& (9223372036854775807 : Int64)) (own_pick (p1 &&& (9223372036854775807 : Int64)) p3 p5))), .unset] [(.long (p2 &&& (9223372036854775807 : Int64)))])) _
    refine XS.lload X16.here hx rfl (hb hby at_124) rfl ?_
    show Steps p.tables e below (T16.setTop (mkF m 126 #[.val (.long p1), .second, .val (.long p2), .second, .val (.long p3), .second, .val (.long p4), .second, .val (.int p5), .val (.long (p1 &&& (9223372036854775807 : Int64))), .second, .val (.long (p2 &&& (9223372036854775807 : Int64))), .second, .val (.long (own_pick (p1 &&& (9223372036854775807 : Int64)) p3 p5)), .second, .val (.long (own_pick (p2 &&& (9223372036854775807 : Int64)) p4 ((p5.toUInt32 >>> ((2 : Int32) &&& 31).toUInt32).toInt32))), .second, .val (.ref b3), .val (.ref b6), .val (.int (if own_cmp (p1 &&& (9223372036854775807 : Int64)) (own_pick (p1 &&& (9223372036854775807 : Int64)) p3 p5) = 0 then own_cmp (p2 &&& (9223372036854775807 : Int64)) (own_pick (p2 &&& (9223372036854775807 : Int64)) p4 ((p5.toUInt32 >>> ((2 : Int32) &&& 31).toUInt32).toInt32)) else own_cmp (p1 &&& (9223372036854775807 : Int64)) (own_pick (p1 &&& (9223372036854775807 : Int64)) p3 p5))), .val (.int (own_cmp (p1 &&& (9223372036854775807 : Int64)) (own_pick (p1 &&& (9223372036854775807 : Int64)) p3 p5))), .unset] [(.long (own_pick (p2 &&& (9223372036854775807 : Int64)) p4 ((p5.toUInt32 >>> ((2 : Int32) &&& 31).toUInt32).toInt32))), (.long (p2 &&& (9223372036854775807 : Int64)))])) _
    refine st17 _ ?_
    show Steps p.tables e below (T17.setTop (mkF m 129 #[.val (.long p1), .second, .val (.long p2), .second, .val (.long p3), .second, .val (.long p4), .second, .val (.int p5), .val (.long (p1 &&& (9223372036854775807 : Int64))), .second, .val (.long (p2 &&& (9223372036854775807 : Int64))), .second, .val (.long (own_pick (p1 &&& (9223372036854775807 : Int64)) p3 p5)), .second, .val (.long (own_pick (p2 &&& (9223372036854775807 : Int64)) p4 ((p5.toUInt32 >>> ((2 : Int32) &&& 31).toUInt32).toInt32))), .second, .val (.ref b3), .val (.ref b6), .val (.int (if own_cmp (p1 &&& (9223372036854775807 : Int64)) (own_pick (p1 &&& (9223372036854775807 : Int64)) p3 p5) = 0 then own_cmp (p2 &&& (9223372036854775807 : Int64)) (own_pick (p2 &&& (9223372036854775807 : Int64)) p4 ((p5.toUInt32 >>> ((2 : Int32) &&& 31).toUInt32).toInt32)) else own_cmp (p1 &&& (9223372036854775807 : Int64)) (own_pick (p1 &&& (9223372036854775807 : Int64)) p3 p5))), .val (.int (own_cmp (p1 &&& (9223372036854775807 : Int64)) (own_pick (p1 &&& (9223372036854775807 : Int64)) p3 p5))), .unset] [(.int (own_cmp (p2 &&& (9223372036854775807 : Int64)) (own_pick (p2 &&& (9223372036854775807 : Int64)) p4 ((p5.toUInt32 >>> ((2 : Int32) &&& 31).toUInt32).toInt32))))])) _
    refine XS.istore X17.here hx rfl (hb hby at_129) rfl (l' := #[.val (.long p1), .second, .val (.long p2), .second, .val (.long p3), .second, .val (.long p4), .second, .val (.int p5), .val (.long (p1 &&& (9223372036854775807 : Int64))), .second, .val (.long (p2 &&& (9223372036854775807 : Int64))), .second, .val (.long (own_pick (p1 &&& (9223372036854775807 : Int64)) p3 p5)), .second, .val (.long (own_pick (p2 &&& (9223372036854775807 : Int64)) p4 ((p5.toUInt32 >>> ((2 : Int32) &&& 31).toUInt32).toInt32))), .second, .val (.ref b3), .val (.ref b6), .val (.int (if own_cmp (p1 &&& (9223372036854775807 : Int64)) (own_pick (p1 &&& (9223372036854775807 : Int64)) p3 p5) = 0 then own_cmp (p2 &&& (9223372036854775807 : Int64)) (own_pick (p2 &&& (9223372036854775807 : Int64)) p4 ((p5.toUInt32 >>> ((2 : Int32) &&& 31).toUInt32).toInt32)) else own_cmp (p1 &&& (9223372036854775807 : Int64)) (own_pick (p1 &&& (9223372036854775807 : Int64)) p3 p5))), .val (.int (own_cmp (p1 &&& (9223372036854775807 : Int64)) (own_pick (p1 &&& (9223372036854775807 : Int64)) p3 p5))), .val (.int (own_cmp (p2 &&& (9223372036854775807 : Int64)) (own_pick (p2 &&& (9223372036854775807 : Int64)) p4 ((p5.toUInt32 >>> ((2 : Int32) &&& 31).toUInt32).toInt32))))]) rfl ?_
    show Steps p.tables e below (T17.setTop (mkF m 131 #[.val (.long p1), .second, .val (.long p2), .second, .val (.long p3), .second, .val (.long p4), .second, .val (.int p5), .val (.long (p1 &&& (9223372036854775807 : Int64))), .second, .val (.long (p2 &&& (9223372036854775807 : Int64))), .second, .val (.long (own_pick (p1 &&& (9223372036854775807 : Int64)) p3 p5)), .second, .val (.long (own_pick (p2 &&& (9223372036854775807 : Int64)) p4 ((p5.toUInt32 >>> ((2 : Int32) &&& 31).toUInt32).toInt32))), .second, .val (.ref b3), .val (.ref b6), .val (.int (if own_cmp (p1 &&& (9223372036854775807 : Int64)) (own_pick (p1 &&& (9223372036854775807 : Int64)) p3 p5) = 0 then own_cmp (p2 &&& (9223372036854775807 : Int64)) (own_pick (p2 &&& (9223372036854775807 : Int64)) p4 ((p5.toUInt32 >>> ((2 : Int32) &&& 31).toUInt32).toInt32)) else own_cmp (p1 &&& (9223372036854775807 : Int64)) (own_pick (p1 &&& (9223372036854775807 : Int64)) p3 p5))), .val (.int (own_cmp (p1 &&& (9223372036854775807 : Int64)) (own_pick (p1 &&& (9223372036854775807 : Int64)) p3 p5))), .val (.int (own_cmp (p2 &&& (9223372036854775807 : Int64)) (own_pick (p2 &&& (9223372036854775807 : Int64)) p4 ((p5.toUInt32 >>> ((2 : Int32) &&& 31).toUInt32).toInt32))))] [])) _
    refine XS.iload X17.here hx rfl (hb hby at_131) rfl ?_
    show Steps p.tables e below (T17.setTop (mkF m 133 #[.val (.long p1), .second, .val (.long p2), .second, .val (.long p3), .second, .val (.long p4), .second, .val (.int p5), .val (.long (p1 &&& (9223372036854775807 : Int64))), .second, .val (.long (p2 &&& (9223372036854775807 : Int64))), .second, .val (.long (own_pick (p1 &&& (9223372036854775807 : Int64)) p3 p5)), .second, .val (.long (own_pick (p2 &&& (9223372036854775807 : Int64)) p4 ((p5.toUInt32 >>> ((2 : Int32) &&& 31).toUInt32).toInt32))), .second, .val (.ref b3), .val (.ref b6), .val (.int (if own_cmp (p1 &&& (9223372036854775807 : Int64)) (own_pick (p1 &&& (9223372036854775807 : Int64)) p3 p5) = 0 then own_cmp (p2 &&& (9223372036854775807 : Int64)) (own_pick (p2 &&& (9223372036854775807 : Int64)) p4 ((p5.toUInt32 >>> ((2 : Int32) &&& 31).toUInt32).toInt32)) else own_cmp (p1 &&& (9223372036854775807 : Int64)) (own_pick (p1 &&& (9223372036854775807 : Int64)) p3 p5))), .val (.int (own_cmp (p1 &&& (9223372036854775807 : Int64)) (own_pick (p1 &&& (9223372036854775807 : Int64)) p3 p5))), .val (.int (own_cmp (p2 &&& (9223372036854775807 : Int64)) (own_pick (p2 &&& (9223372036854775807 : Int64)) p4 ((p5.toUInt32 >>> ((2 : Int32) &&& 31).toUInt32).toInt32))))] [(.int (if own_cmp (p1 &&& (9223372036854775807 : Int64)) (own_pick (p1 &&& (9223372036854775807 : Int64)) p3 p5) = 0 then own_cmp (p2 &&& (9223372036854775807 : Int64)) (own_pick (p2 &&& (9223372036854775807 : Int64)) p4 ((p5.toUInt32 >>> ((2 : Int32) &&& 31).toUInt32).toInt32)) else own_cmp (p1 &&& (9223372036854775807 : Int64)) (own_pick (p1 &&& (9223372036854775807 : Int64)) p3 p5)))])) _
    refine st18 _ ?_
    show Steps p.tables e below (T18.setTop (mkF m 136 #[.val (.long p1), .second, .val (.long p2), .second, .val (.long p3), .second, .val (.long p4), .second, .val (.int p5), .val (.long (p1 &&& (9223372036854775807 : Int64))), .second, .val (.long (p2 &&& (9223372036854775807 : Int64))), .second, .val (.long (own_pick (p1 &&& (9223372036854775807 : Int64)) p3 p5)), .second, .val (.long (own_pick (p2 &&& (9223372036854775807 : Int64)) p4 ((p5.toUInt32 >>> ((2 : Int32) &&& 31).toUInt32).toInt32))), .second, .val (.ref b3), .val (.ref b6), .val (.int (if own_cmp (p1 &&& (9223372036854775807 : Int64)) (own_pick (p1 &&& (9223372036854775807 : Int64)) p3 p5) = 0 then own_cmp (p2 &&& (9223372036854775807 : Int64)) (own_pick (p2 &&& (9223372036854775807 : Int64)) p4 ((p5.toUInt32 >>> ((2 : Int32) &&& 31).toUInt32).toInt32)) else own_cmp (p1 &&& (9223372036854775807 : Int64)) (own_pick (p1 &&& (9223372036854775807 : Int64)) p3 p5))), .val (.int (own_cmp (p1 &&& (9223372036854775807 : Int64)) (own_pick (p1 &&& (9223372036854775807 : Int64)) p3 p5))), .val (.int (own_cmp (p2 &&& (9223372036854775807 : Int64)) (own_pick (p2 &&& (9223372036854775807 : Int64)) p4 ((p5.toUInt32 >>> ((2 : Int32) &&& 31).toUInt32).toInt32))))] [(.int (own_sign (if own_cmp (p1 &&& (9223372036854775807 : Int64)) (own_pick (p1 &&& (9223372036854775807 : Int64)) p3 p5) = 0 then own_cmp (p2 &&& (9223372036854775807 : Int64)) (own_pick (p2 &&& (9223372036854775807 : Int64)) p4 ((p5.toUInt32 >>> ((2 : Int32) &&& 31).toUInt32).toInt32)) else own_cmp (p1 &&& (9223372036854775807 : Int64)) (own_pick (p1 &&& (9223372036854775807 : Int64)) p3 p5))))])) _
    refine XS.iload X18.here hx rfl (hb hby at_136) rfl ?_
    show Steps p.tables e below (T18.setTop (mkF m 138 #[.val (.long p1), .second, .val (.long p2), .second, .val (.long p3), .second, .val (.long p4), .second, .val (.int p5), .val (.long (p1 &&& (9223372036854775807 : Int64))), .second, .val (.long (p2 &&& (9223372036854775807 : Int64))), .second, .val (.long (own_pick (p1 &&& (9223372036854775807 : Int64)) p3 p5)), .second, .val (.long (own_pick (p2 &&& (9223372036854775807 : Int64)) p4 ((p5.toUInt32 >>> ((2 : Int32) &&& 31).toUInt32).toInt32))), .second, .val (.ref b3), .val (.ref b6), .val (.int (if own_cmp (p1 &&& (9223372036854775807 : Int64)) (own_pick (p1 &&& (9223372036854775807 : Int64)) p3 p5) = 0 then own_cmp (p2 &&& (9223372036854775807 : Int64)) (own_pick (p2 &&& (9223372036854775807 : Int64)) p4 ((p5.toUInt32 >>> ((2 : Int32) &&& 31).toUInt32).toInt32)) else own_cmp (p1 &&& (9223372036854775807 : Int64)) (own_pick (p1 &&& (9223372036854775807 : Int64)) p3 p5))), .val (.int (own_cmp (p1 &&& (9223372036854775807 : Int64)) (own_pick (p1 &&& (9223372036854775807 : Int64)) p3 p5))), .val (.int (own_cmp (p2 &&& (9223372036854775807 : Int64)) (own_pick (p2 &&& (9223372036854775807 : Int64)) p4 ((p5.toUInt32 >>> ((2 : Int32) &&& 31).toUInt32).toInt32))))] [(.int (own_cmp (p2 &&& (9223372036854775807 : Int64)) (own_pick (p2 &&& (9223372036854775807 : Int64)) p4 ((p5.toUInt32 >>> ((2 : Int32) &&& 31).toUInt32).toInt32)))), (.int (own_sign (if own_cmp (p1 &&& (9223372036854775807 : Int64)) (own_pick (p1 &&& (9223372036854775807 : Int64)) p3 p5) = 0 then own_cmp (p2 &&& (9223372036854775807 : Int64)) (own_pick (p2 &&& (9223372036854775807 : Int64)) p4 ((p5.toUInt32 >>> ((2 : Int32) &&& 31).toUInt32).toInt32)) else own_cmp (p1 &&& (9223372036854775807 : Int64)) (own_pick (p1 &&& (9223372036854775807 : Int64)) p3 p5))))])) _
    refine XS.icmpNo X18.here hx rfl (hb hby at_138) rfl (teq (show (own_sign (if own_cmp (p1 &&& (9223372036854775807 : Int64)) (own_pick (p1 &&& (9223372036854775807 : Int64)) p3 p5) = 0 then own_cmp (p2 &&& (9223372036854775807 : Int64)) (own_pick (p2 &&& (9223372036854775807 : Int64)) p4 ((p5.toUInt32 >>> ((2 : Int32) &&& 31).toUInt32).toInt32)) else own_cmp (p1 &&& (9223372036854775807 : Int64)) (own_pick (p1 &&& (9223372036854775807 : Int64)) p3 p5))) = (own_cmp (p2 &&& (9223372036854775807 : Int64)) (own_pick (p2 &&& (9223372036854775807 : Int64)) p4 ((p5.toUInt32 >>> ((2 : Int32) &&& 31).toUInt32).toInt32))) from (by rw [if_pos hc114]; exact own_sgn _ _))).2 ?_
    show Steps p.tables e below (T18.setTop (mkF m 141 #[.val (.long p1), .second, .val (.long p2), .second, .val (.long p3), .second, .val (.long p4), .second, .val (.int p5), .val (.long (p1 &&& (9223372036854775807 : Int64))), .second, .val (.long (p2 &&& (9223372036854775807 : Int64))), .second, .val (.long (own_pick (p1 &&& (9223372036854775807 : Int64)) p3 p5)), .second, .val (.long (own_pick (p2 &&& (9223372036854775807 : Int64)) p4 ((p5.toUInt32 >>> ((2 : Int32) &&& 31).toUInt32).toInt32))), .second, .val (.ref b3), .val (.ref b6), .val (.int (if own_cmp (p1 &&& (9223372036854775807 : Int64)) (own_pick (p1 &&& (9223372036854775807 : Int64)) p3 p5) = 0 then own_cmp (p2 &&& (9223372036854775807 : Int64)) (own_pick (p2 &&& (9223372036854775807 : Int64)) p4 ((p5.toUInt32 >>> ((2 : Int32) &&& 31).toUInt32).toInt32)) else own_cmp (p1 &&& (9223372036854775807 : Int64)) (own_pick (p1 &&& (9223372036854775807 : Int64)) p3 p5))), .val (.int (own_cmp (p1 &&& (9223372036854775807 : Int64)) (own_pick (p1 &&& (9223372036854775807 : Int64)) p3 p5))), .val (.int (own_cmp (p2 &&& (9223372036854775807 : Int64)) (own_pick (p2 &&& (9223372036854775807 : Int64)) p4 ((p5.toUInt32 >>> ((2 : Int32) &&& 31).toUInt32).toInt32))))] [])) _
    refine XS.iconst X18.here hx rfl (hb hby at_141) ?_
    show Steps p.tables e below (T18.setTop (mkF m 142 #[.val (.long p1), .second, .val (.long p2), .second, .val (.long p3), .second, .val (.long p4), .second, .val (.int p5), .val (.long (p1 &&& (9223372036854775807 : Int64))), .second, .val (.long (p2 &&& (9223372036854775807 : Int64))), .second, .val (.long (own_pick (p1 &&& (9223372036854775807 : Int64)) p3 p5)), .second, .val (.long (own_pick (p2 &&& (9223372036854775807 : Int64)) p4 ((p5.toUInt32 >>> ((2 : Int32) &&& 31).toUInt32).toInt32))), .second, .val (.ref b3), .val (.ref b6), .val (.int (if own_cmp (p1 &&& (9223372036854775807 : Int64)) (own_pick (p1 &&& (9223372036854775807 : Int64)) p3 p5) = 0 then own_cmp (p2 &&& (9223372036854775807 : Int64)) (own_pick (p2 &&& (9223372036854775807 : Int64)) p4 ((p5.toUInt32 >>> ((2 : Int32) &&& 31).toUInt32).toInt32)) else own_cmp (p1 &&& (9223372036854775807 : Int64)) (own_pick (p1 &&& (9223372036854775807 : Int64)) p3 p5))), .val (.int (own_cmp (p1 &&& (9223372036854775807 : Int64)) (own_pick (p1 &&& (9223372036854775807 : Int64)) p3 p5))), .val (.int (own_cmp (p2 &&& (9223372036854775807 : Int64)) (own_pick (p2 &&& (9223372036854775807 : Int64)) p4 ((p5.toUInt32 >>> ((2 : Int32) &&& 31).toUInt32).toInt32))))] [(.int (1 : Int32))])) _
    refine XS.goto X18.here hx rfl (pc0 := 142) (pc' := 146) rfl (hb hby at_142) (by decide) (by decide) ?_
    show Steps p.tables e below (T18.setTop (mkF m 146 #[.val (.long p1), .second, .val (.long p2), .second, .val (.long p3), .second, .val (.long p4), .second, .val (.int p5), .val (.long (p1 &&& (9223372036854775807 : Int64))), .second, .val (.long (p2 &&& (9223372036854775807 : Int64))), .second, .val (.long (own_pick (p1 &&& (9223372036854775807 : Int64)) p3 p5)), .second, .val (.long (own_pick (p2 &&& (9223372036854775807 : Int64)) p4 ((p5.toUInt32 >>> ((2 : Int32) &&& 31).toUInt32).toInt32))), .second, .val (.ref b3), .val (.ref b6), .val (.int (if own_cmp (p1 &&& (9223372036854775807 : Int64)) (own_pick (p1 &&& (9223372036854775807 : Int64)) p3 p5) = 0 then own_cmp (p2 &&& (9223372036854775807 : Int64)) (own_pick (p2 &&& (9223372036854775807 : Int64)) p4 ((p5.toUInt32 >>> ((2 : Int32) &&& 31).toUInt32).toInt32)) else own_cmp (p1 &&& (9223372036854775807 : Int64)) (own_pick (p1 &&& (9223372036854775807 : Int64)) p3 p5))), .val (.int (own_cmp (p1 &&& (9223372036854775807 : Int64)) (own_pick (p1 &&& (9223372036854775807 : Int64)) p3 p5))), .val (.int (own_cmp (p2 &&& (9223372036854775807 : Int64)) (own_pick (p2 &&& (9223372036854775807 : Int64)) p4 ((p5.toUInt32 >>> ((2 : Int32) &&& 31).toUInt32).toInt32))))] [(.int (1 : Int32))])) _
    exact retN X18 hx (t := .boolean) Bd.returns (by simp) (hb hby at_146) hr
  · show Qrm0 Z p1 p2 p3 p4 p5 h0 n0 _ T18.heap _
    rw [e18q]
    exact ⟨rfl, N18⟩
theorem rm0 (l : Launch) (Z : State) (a0 : Array Value) (hw : ∀ d ∈ tables_1, d.before a0 Z = true) (ws : List Jvm.Cond) (p1 : Int64) (p2 : Int64) (p3 : Int64) (p4 : Int64) (p5 : Int32) (h0 : Heap) (n0 : Nat) (Z0 : n0 ≤ h0.size) :
    MetFree l x (head1 (Jvm.Cond.code x code maxLocals ret :: ws) room_1) (fun aa_ U => aa_ = #[(.long p1), (.long p2), (.long p3), (.long p4), (.int p5)] ∧ Z.Warmed39 U.vm ∧ U.heap = h0) (fun _ _ _ _ _ => True) (fun _ U o U' => ∃ v L, o = .returned v ∧ Qrm0 Z p1 p2 p3 p4 p5 h0 n0 v U'.heap L ∧ FrameEnd U o U' L room_1.cells room_1.slots) := by
  by_cases h1 : (lcmpW (p1 &&& (9223372036854775807 : Int64)) (0 : Int64)) = (0 : Int32)
  · exact rm0A l Z a0 hw ws p1 p2 p3 p4 p5 h0 n0 Z0  h1
  by_cases h2 : (lcmpW (p2 &&& (9223372036854775807 : Int64)) (0 : Int64)) = (0 : Int32)
  · exact rm0B l Z a0 hw ws p1 p2 p3 p4 p5 h0 n0 Z0  h1 h2
  by_cases h3 : (lcmpW (own_pick (p1 &&& (9223372036854775807 : Int64)) p3 p5) (0 : Int64)) = (0 : Int32)
  · exact rm0C l Z a0 hw ws p1 p2 p3 p4 p5 h0 n0 Z0  h1 h2 h3
  by_cases h4 : (lcmpW (own_pick (p2 &&& (9223372036854775807 : Int64)) p4 ((p5.toUInt32 >>> ((2 : Int32) &&& 31).toUInt32).toInt32)) (0 : Int64)) = (0 : Int32)
  · exact rm0D l Z a0 hw ws p1 p2 p3 p4 p5 h0 n0 Z0  h1 h2 h3 h4
  by_cases h5 : (own_cmp (p1 &&& (9223372036854775807 : Int64)) (own_pick (p1 &&& (9223372036854775807 : Int64)) p3 p5)) = (0 : Int32)
  · exact rm0G l Z a0 hw ws p1 p2 p3 p4 p5 h0 n0 Z0  h1 h2 h3 h4 h5
  · exact rm0E l Z a0 hw ws p1 p2 p3 p4 p5 h0 n0 Z0  h1 h2 h3 h4 h5
set_option maxRecDepth 65536 in
set_option maxHeartbeats 40000000 in
theorem comes_1 {Post : Tables → Env → Array Value → State → Outcome → State → Prop} (hpost : ∀ tb e args s v u, (limb_1_1.after args s (.returned v) u = true ∧ limb_1_2.after args s (.returned v) u = true ∧ True) → FrameEnd s (.returned v) u (Jvm.fieldLocs frame_1_writes args s ++ Jvm.arrayLocs frame_1_arrays args s ++ Jvm.staticLocs frame_1_statics s) 16 128 → Post tb e args s (.returned v) u) :
    ArmFor flags0 classFile x code maxLocals ret World_1 tables_1 room_1 Calls_1 rest_1 Pre_1 Post := by
  intro l hfl _ _ p e ha hc hk s m args below hf hA hF happ hP
  obtain ⟨hcalls, hrest, hpre⟩ := hP
  obtain ⟨-, -, -, hnamed, -, -, -, hat⟩ := (Spec.applies_iff hf).mp happ
  obtain ⟨hg, hn⟩ := and_e (Cond.before_iff.mp (show (Jvm.Cond.and given_1 narrow_1).before args s = true from hpre))
  obtain ⟨gv1, gv2⟩ := and_e hg
  obtain ⟨gv3, gv4⟩ := and_e gv2
  obtain ⟨gv5, gv6⟩ := and_e gv4
  obtain ⟨gv7, gv8⟩ := and_e gv6
  obtain ⟨gv9, gv10⟩ := and_e gv8
  obtain ⟨w0, w1, w2, w3, w4, rfl⟩ : ∃ w0 w1 w2 w3 w4 : Value, args = #[w0, w1, w2, w3, w4] := by
    have hs : args.size = 5 := by simpa [Cond.value, given_1] using gv1
    obtain ⟨L⟩ := args
    match L, hs with
    | [w0, w1, w2, w3, w4], _ => exact ⟨w0, w1, w2, w3, w4, rfl⟩
  have hw := fun d (hd : d ∈ tables_1) => atoms_spec (ws := Jvm.Cond.code x code maxLocals ret :: tables_1) hat d (List.mem_cons_of_mem _ hd)
  have hfit : Fit s := fun {y c} hc i hi => by
    obtain ⟨ha, rfl⟩ := Array.getElem?_eq_some_iff.mp hc
    have q := List.all_eq_true.mp ((Array.all_eq_true_iff_forall_mem.mp hF) _ (Array.getElem_mem ha)) i (List.mem_range.mpr hi)
    simpa [Array.getElem?_eq_getElem hi] using q
  obtain ⟨i0, ei0⟩ := isL_v gv3
  obtain rfl : w0 = (.long i0) := Option.some.inj ei0
  obtain ⟨i1, ei1⟩ := isL_v gv5
  obtain rfl : w1 = (.long i1) := Option.some.inj ei1
  obtain ⟨i2, ei2⟩ := isL_v gv7
  obtain rfl : w2 = (.long i2) := Option.some.inj ei2
  obtain ⟨i3, ei3⟩ := isL_v gv9
  obtain rfl : w3 = (.long i3) := Option.some.inj ei3
  obtain ⟨i4, ei4⟩ := is_v gv10
  obtain rfl : w4 = (.int i4) := Option.some.inj ei4
  obtain ⟨n, o, h1, h2, h3, _, L, rfl, ⟨rfl, N⟩, hq⟩ := rm0 l s _ hw tables_1 i0 i1 i2 i3 i4  s.heap s.heap.size (Nat.le_refl _)  p e ha hc hk s m _ below hf ((Spec.applies_iff_loose hf).mp happ).1 ⟨rfl, State.Warmed39.refl s, rfl⟩ trivial
  refine ⟨n, _, h1, h2, h3, hpost _ _ _ _ _ _ ⟨Cond.after_iff.mpr rfl, Cond.after_iff.mpr (eq_i res_at (Term.int_eval (1)) rfl), trivial⟩ ⟨hq.1, hq.2.1, (hq.2.2.sift fun y hy => Or.inr (N y hy)).mono (by decide) (by decide)⟩⟩
theorem main_1_1 : Claimed_1_1 := comes_1 fun _ _ _ _ _ _ h hF => ⟨h.1, hF⟩
theorem main_1_2 : Claimed_1_2 := comes_1 fun _ _ _ _ _ _ h hF => ⟨h.2.1, hF⟩
end Jvm.Pilot.@@N@@
namespace Jvm.Pilot.@@N@@
open Jvm Jvm.ClassFile Sem Op Lib Jvm.Free Jvm.Stand Jvm.Pilot.@@N@@.Jvm.D
/-! MADE BY PROGRAM (witnessworld.py) out of the Statement's table words and the real class files: 15 classes; the members and pool entries that the words name. The judged class is class 1, her method 4. -/
namespace start1
open Jvm.ClassFile
def u (s : String) : CpInfo := .utf8 (stringToUtf16 s)
/-- a pool by its gaps: so many unusable entries, then the entry; so many at the end -/
def gap : Nat → List CpInfo → List CpInfo
  | 0, r => r
  | n + 1, r => .unusable :: gap n r
def poolList (es : List (Nat × CpInfo)) (last : Nat) : List CpInfo := es.foldr (fun e r => gap e.1 (e.2 :: r)) (gap last [])
def pool (es : List (Nat × CpInfo)) (last : Nat) : Array CpInfo := ⟨poolList es last⟩
def fileOf (pool : Array CpInfo) (this : Nat) (attrs : Array Attribute := #[]) (ms : Array MethodInfo := #[]) (fl : Nat := 33) (sup : Nat := 0) (ifs : Array Nat := #[]) (fds : Array FieldInfo := #[]) : ClassFile where
  minorVersion := 0
  majorVersion := 65
  constantPool := pool
  accessFlags := fl
  thisClass := this
  superClass := sup
  interfaces := ifs
  fields := fds
  methods := ms
  attributes := attrs
def plain (name : String) (sup : Option ClassId) : Class where
  name := name
  kind := .ordinary
  loader := none
  accessFlags := 33
  super := sup
  interfaces := #[]
  cf := none
  fields := #[]
  methods := #[]
  instanceTypes := #[]
  staticTypes := #[]
  resolved := #[]
  callSites := []
  init := .initialized
  statics := none
  mirror := none

def pool0 : Array CpInfo := pool [(5, u "<init>"), (0, u "()V"), (1, .class_ 10), (1, u "java/lang/Object")] 113

def k0c0 : Code := { maxStack := 0, maxLocals := 1, code := object_method_1_code, exceptionTable := #[], attributes := #[] }
def k0m0 : Method := { name := "<init>", desc := "()V", sig := { parameters := [], returnType := none }, accessFlags := 1, code := some k0c0 }
/-- java/lang/Object -/
def k0 : Class := { plain "java/lang/Object" none with
  accessFlags := 33
  interfaces := #[]
  cf := some (fileOf pool0 8 #[] #[{ accessFlags := 1, nameIndex := 5, descriptorIndex := 6, attributes := #[] }] 33 0 #[] #[])
  fields := #[]
  methods := #[k0m0]
  instanceTypes := #[]
  staticTypes := #[]
  resolved := Array.replicate 124 none
  statics := none }

def pool1 : Array CpInfo := pool [(2, .class_ 4), (1, u "java/lang/Object"), (0, u "<init>"), (0, u "()V"), (2, .long 9223372036854775807), (1, .methodref 12 13), (0, .class_ 14), (0, .nameAndType 15 16), (0, u "com/example/coretally/coretally/core/RatioCompareToPinLaw"), (0, u "pick"), (0, u "(JJI)J"), (0, .class_ 18), (0, u "com/example/coretally/coretally/core/Ratio"), (0, .methodref 17 20), (0, .nameAndType 5 21), (0, u "(JJ)V"), (0, .methodref 17 23), (0, .nameAndType 24 25), (0, u "compareTo"), (0, u "(Lcom/example/coretally/coretally/core/Ratio;)I"), (0, .methodref 12 27), (0, .nameAndType 28 29), (0, u "cmp"), (0, u "(JJ)I"), (0, .methodref 12 31), (0, .nameAndType 32 33), (0, u "sign"), (0, u "(I)I"), (3, u "law"), (0, u "(JJJJI)Z")] 2

def k1m0 : Method := { name := "<init>", desc := "()V", sig := { parameters := [], returnType := none }, accessFlags := 2, code := none }
def k1c1 : Code := { maxStack := 4, maxLocals := 6, code := method_2_code, exceptionTable := #[], attributes := #[] }
def k1m1 : Method := { name := "pick", desc := "(JJI)J", sig := { parameters := [.long, .long, .int], returnType := some .long }, accessFlags := 10, code := some k1c1 }
def k1c2 : Code := { maxStack := 1, maxLocals := 1, code := method_3_code, exceptionTable := #[], attributes := #[] }
def k1m2 : Method := { name := "sign", desc := "(I)I", sig := { parameters := [.int], returnType := some .int }, accessFlags := 10, code := some k1c2 }
def k1c3 : Code := { maxStack := 4, maxLocals := 4, code := method_4_code, exceptionTable := #[], attributes := #[] }
def k1m3 : Method := { name := "cmp", desc := "(JJ)I", sig := { parameters := [.long, .long], returnType := some .int }, accessFlags := 10, code := some k1c3 }
def k1c4 : Code := { maxStack := 6, maxLocals := 22, code := code, exceptionTable := #[], attributes := #[] }
def k1m4 : Method := { name := "law", desc := "(JJJJI)Z", sig := { parameters := [.long, .long, .long, .long, .int], returnType := some .boolean }, accessFlags := 9, code := some k1c4 }
/-- com/example/coretally/coretally/core/RatioCompareToPinLaw -/
def k1 : Class := { plain "com/example/coretally/coretally/core/RatioCompareToPinLaw" (some 0) with
  accessFlags := 49
  interfaces := #[]
  cf := some (fileOf pool1 12 #[] #[{ accessFlags := 2, nameIndex := 5, descriptorIndex := 6, attributes := #[] }, { accessFlags := 10, nameIndex := 15, descriptorIndex := 16, attributes := #[] }, { accessFlags := 10, nameIndex := 32, descriptorIndex := 33, attributes := #[] }, { accessFlags := 10, nameIndex := 28, descriptorIndex := 29, attributes := #[] }, { accessFlags := 9, nameIndex := 37, descriptorIndex := 38, attributes := #[] }] 49 2 #[] #[])
  fields := #[]
  methods := #[k1m0, k1m1, k1m2, k1m3, k1m4]
  instanceTypes := #[]
  staticTypes := #[]
  resolved := Array.replicate 41 none
  statics := none }

def pool2 : Array CpInfo := pool [(1, .methodref 2 3), (0, .class_ 4), (0, .nameAndType 5 6), (0, u "java/lang/Object"), (0, u "<init>"), (0, u "()V"), (0, .class_ 8), (0, u "java/lang/Record")] 13

def k2c0 : Code := { maxStack := 1, maxLocals := 1, code := jdk_30_method_1_code, exceptionTable := #[], attributes := #[] }
def k2m0 : Method := { name := "<init>", desc := "()V", sig := { parameters := [], returnType := none }, accessFlags := 4, code := some k2c0 }
/-- java/lang/Record -/
def k2 : Class := { plain "java/lang/Record" (some 0) with
  accessFlags := 1057
  interfaces := #[]
  cf := some (fileOf pool2 7 #[] #[{ accessFlags := 4, nameIndex := 5, descriptorIndex := 6, attributes := #[] }] 1057 2 #[] #[])
  fields := #[]
  methods := #[k2m0]
  instanceTypes := #[]
  staticTypes := #[]
  resolved := Array.replicate 22 none
  statics := none }

def pool3 : Array CpInfo := pool [(1, .class_ 2), (0, u "java/lang/Comparable"), (0, .class_ 4), (0, u "java/lang/Object")] 7

/-- java/lang/Comparable -/
def k3 : Class := { plain "java/lang/Comparable" (some 0) with
  accessFlags := 1537
  interfaces := #[]
  cf := some (fileOf pool3 1 #[] #[] 1537 3 #[] #[])
  fields := #[]
  methods := #[]
  instanceTypes := #[]
  staticTypes := #[]
  resolved := Array.replicate 12 none
  statics := none }

def pool4 : Array CpInfo := pool [(1, .methodref 2 3), (0, .class_ 4), (0, .nameAndType 5 6), (0, u "java/lang/Record"), (0, u "<init>"), (0, u "()V"), (9, .fieldref 17 18), (0, .class_ 19), (0, .nameAndType 20 21), (0, u "com/example/coretally/coretally/core/Ratio"), (0, u "programCores"), (0, u "J"), (0, .fieldref 17 23), (0, .nameAndType 24 21), (0, u "bundleCores"), (2, u "WRITTEN"), (0, u "Ljava/util/regex/Pattern;"), (23, .class_ 54), (1, u "java/lang/Long"), (4, u "(JJ)V"), (36, .methodref 52 97), (0, .nameAndType 98 99), (0, u "compare"), (0, u "(JJ)I"), (13, u "compareTo"), (0, u "(Lcom/example/coretally/coretally/core/Ratio;)I"), (9, u "ONE_TO_ONE"), (0, u "Lcom/example/coretally/coretally/core/Ratio;"), (6, .class_ 133), (0, u "java/lang/Comparable")] 50

def k4c0 : Code := { maxStack := 6, maxLocals := 5, code := prog_56_method_1_code, exceptionTable := #[], attributes := #[] }
def k4m0 : Method := { name := "<init>", desc := "(JJ)V", sig := { parameters := [.long, .long], returnType := none }, accessFlags := 1, code := some k4c0 }
def k4c1 : Code := { maxStack := 4, maxLocals := 3, code := prog_56_method_5_code, exceptionTable := #[], attributes := #[] }
def k4m1 : Method := { name := "compareTo", desc := "(Lcom/example/coretally/coretally/core/Ratio;)I", sig := { parameters := [(.object "com/example/coretally/coretally/core/Ratio")], returnType := some .int }, accessFlags := 1, code := some k4c1 }
/-- com/example/coretally/coretally/core/Ratio -/
def k4 : Class := { plain "com/example/coretally/coretally/core/Ratio" (some 2) with
  accessFlags := 49
  interfaces := #[3]
  cf := some (fileOf pool4 17 #[] #[{ accessFlags := 1, nameIndex := 5, descriptorIndex := 59, attributes := #[] }, { accessFlags := 1, nameIndex := 113, descriptorIndex := 114, attributes := #[] }] 49 2 #[132] #[{ accessFlags := 18, nameIndex := 20, descriptorIndex := 21, attributes := #[] }, { accessFlags := 18, nameIndex := 24, descriptorIndex := 21, attributes := #[] }, { accessFlags := 25, nameIndex := 124, descriptorIndex := 125, attributes := #[] }, { accessFlags := 26, nameIndex := 27, descriptorIndex := 28, attributes := #[] }])
  fields := #[{ name := "programCores", type := .long, accessFlags := 18, slot := 0, constantValue := 0 }, { name := "bundleCores", type := .long, accessFlags := 18, slot := 1, constantValue := 0 }, { name := "ONE_TO_ONE", type := (.object "com/example/coretally/coretally/core/Ratio"), accessFlags := 25, slot := 0, constantValue := 0 }, { name := "WRITTEN", type := (.object "java/util/regex/Pattern"), accessFlags := 26, slot := 1, constantValue := 0 }]
  methods := #[k4m0, k4m1]
  instanceTypes := #[.long, .long]
  staticTypes := #[(.object "com/example/coretally/coretally/core/Ratio"), (.object "java/util/regex/Pattern")]
  resolved := Array.replicate 184 none
  statics := none }

def pool5 : Array CpInfo := pool [(1, .class_ 2), (0, u "java/io/Serializable"), (0, .class_ 4), (0, u "java/lang/Object")] 2

/-- java/io/Serializable -/
def k5 : Class := { plain "java/io/Serializable" (some 0) with
  accessFlags := 1537
  interfaces := #[]
  cf := some (fileOf pool5 1 #[] #[] 1537 3 #[] #[])
  fields := #[]
  methods := #[]
  instanceTypes := #[]
  staticTypes := #[]
  resolved := Array.replicate 7 none
  statics := none }

def pool6 : Array CpInfo := pool [(2, .class_ 4), (1, u "java/lang/Object"), (0, u "<init>"), (0, u "()V"), (1, .class_ 10), (1, u "java/lang/Number"), (2, .class_ 14), (0, u "java/io/Serializable"), (0, u "serialVersionUID"), (0, u "J")] 20

def k6m0 : Method := { name := "<init>", desc := "()V", sig := { parameters := [], returnType := none }, accessFlags := 1, code := none }
/-- java/lang/Number -/
def k6 : Class := { plain "java/lang/Number" (some 0) with
  accessFlags := 1057
  interfaces := #[5]
  cf := some (fileOf pool6 8 #[] #[{ accessFlags := 1, nameIndex := 5, descriptorIndex := 6, attributes := #[] }] 1057 2 #[13] #[{ accessFlags := 26, nameIndex := 15, descriptorIndex := 16, attributes := #[] }])
  fields := #[{ name := "serialVersionUID", type := .long, accessFlags := 26, slot := 0, constantValue := 0 }]
  methods := #[k6m0]
  instanceTypes := #[]
  staticTypes := #[.long]
  resolved := Array.replicate 37 none
  statics := none }

def pool7 : Array CpInfo := pool [(1, .class_ 2), (0, u "java/lang/constant/Constable"), (0, .class_ 4), (0, u "java/lang/Object")] 6

/-- java/lang/constant/Constable -/
def k7 : Class := { plain "java/lang/constant/Constable" (some 0) with
  accessFlags := 1537
  interfaces := #[]
  cf := some (fileOf pool7 1 #[] #[] 1537 3 #[] #[])
  fields := #[]
  methods := #[]
  instanceTypes := #[]
  staticTypes := #[]
  resolved := Array.replicate 11 none
  statics := none }

def pool8 : Array CpInfo := pool [(1, .class_ 2), (0, u "java/lang/constant/ConstantDesc"), (0, .class_ 4), (0, u "java/lang/Object")] 32

/-- java/lang/constant/ConstantDesc -/
def k8 : Class := { plain "java/lang/constant/ConstantDesc" (some 0) with
  accessFlags := 1537
  interfaces := #[]
  cf := some (fileOf pool8 1 #[] #[] 1537 3 #[] #[])
  fields := #[]
  methods := #[]
  instanceTypes := #[]
  staticTypes := #[]
  resolved := Array.replicate 37 none
  statics := none }

def pool9 : Array CpInfo := pool [(1, .class_ 2), (0, u "java/lang/Long"), (232, .class_ 237), (1, u "java/lang/Long$LongCache"), (33, .class_ 272), (0, u "java/lang/Number"), (2, u "value"), (0, u "J"), (27, u "compare"), (0, u "(JJ)I"), (55, u "TYPE"), (0, u "Ljava/lang/Class;"), (0, .class_ 364), (0, u "java/lang/Comparable"), (0, .class_ 366), (0, u "java/lang/constant/Constable"), (0, .class_ 368), (0, u "java/lang/constant/ConstantDesc"), (0, u "MIN_VALUE"), (1, u "MAX_VALUE"), (4, u "SIZE"), (0, u "I"), (1, u "BYTES"), (1, u "serialVersionUID")] 142

def k9c0 : Code := { maxStack := 4, maxLocals := 4, code := jdk_35_method_42_code, exceptionTable := #[], attributes := #[] }
def k9m0 : Method := { name := "compare", desc := "(JJ)I", sig := { parameters := [.long, .long], returnType := some .int }, accessFlags := 9, code := some k9c0 }
/-- java/lang/Long -/
def k9 : Class := { plain "java/lang/Long" (some 6) with
  accessFlags := 49
  interfaces := #[3, 7, 8]
  cf := some (fileOf pool9 1 #[.nestMembers #[235]] #[{ accessFlags := 9, nameIndex := 304, descriptorIndex := 305, attributes := #[] }] 49 271 #[363, 365, 367] #[{ accessFlags := 25, nameIndex := 369, descriptorIndex := 276, attributes := #[] }, { accessFlags := 25, nameIndex := 371, descriptorIndex := 276, attributes := #[] }, { accessFlags := 25, nameIndex := 361, descriptorIndex := 362, attributes := #[] }, { accessFlags := 18, nameIndex := 275, descriptorIndex := 276, attributes := #[] }, { accessFlags := 25, nameIndex := 376, descriptorIndex := 377, attributes := #[] }, { accessFlags := 25, nameIndex := 379, descriptorIndex := 377, attributes := #[] }, { accessFlags := 26, nameIndex := 381, descriptorIndex := 276, attributes := #[] }])
  fields := #[{ name := "MIN_VALUE", type := .long, accessFlags := 25, slot := 0, constantValue := 0 }, { name := "MAX_VALUE", type := .long, accessFlags := 25, slot := 1, constantValue := 0 }, { name := "TYPE", type := (.object "java/lang/Class"), accessFlags := 25, slot := 2, constantValue := 0 }, { name := "value", type := .long, accessFlags := 18, slot := 0, constantValue := 0 }, { name := "SIZE", type := .int, accessFlags := 25, slot := 3, constantValue := 0 }, { name := "BYTES", type := .int, accessFlags := 25, slot := 4, constantValue := 0 }, { name := "serialVersionUID", type := .long, accessFlags := 26, slot := 5, constantValue := 0 }]
  methods := #[k9m0]
  instanceTypes := #[.long]
  staticTypes := #[.long, .long, (.object "java/lang/Class"), .int, .int, .long]
  resolved := Array.replicate 524 none
  statics := none }

def pool10 : Array CpInfo := pool [(1, u "java/lang/Cloneable"), (0, .class_ 1), (0, u "java/lang/Object"), (0, .class_ 3)] 3

/-- java/lang/Cloneable -/
def k10 : Class := { plain "java/lang/Cloneable" (some 0) with
  accessFlags := 1537
  interfaces := #[]
  cf := some (fileOf pool10 2 #[] #[] 1537 4 #[] #[])
  fields := #[]
  methods := #[]
  instanceTypes := #[]
  staticTypes := #[]
  resolved := Array.replicate 8 none
  statics := none }

/-- the primitive byte -/
def k11 : Class := { plain "byte" none with kind := .primitive 'B', accessFlags := 0x411 }
/-- [B -/
def k12 : Class := { plain "[B" (some 0) with kind := .array 11 .byte, interfaces := #[10, 5], accessFlags := 1041 }

/-- the primitive int -/
def k13 : Class := { plain "int" none with kind := .primitive 'I', accessFlags := 0x411 }
/-- [I -/
def k14 : Class := { plain "[I" (some 0) with kind := .array 13 .int, interfaces := #[10, 5], accessFlags := 1041 }

def heap : Heap := #[]
def classes : Array Class := #[k0, k1, k2, k3, k4, k5, k6, k7, k8, k9, k10, k11, k12, k13, k14]
def interned : List (Array UInt16 × Addr) := []
def slotsUsed : Nat := 0
def theMethod : MethodId := ⟨1, 4⟩
def args0 : Array Value := #[.long 5, .long 6, .long 7, .long 8, .int 4]
def aboutOver (below : List Frame) : State where
  vm := { classes := classes, interned := interned.toArray }
  heap := heap
  slotsUsed := slotsUsed
  threads := #[{ frames := .invoking theMethod args0 :: below }]
def below0 : List Frame := [.native { method := ⟨0, 0⟩, args := #[] }]
def about1 : State := aboutOver below0
def p0 : Program := .bare "" "" ""
def e0 : Env := launch0.env 0 0 0
theorem w_frames : about1.frames = Frame.invoking theMethod args0 :: below0 := rfl
set_option maxRecDepth 65536 in
theorem w_args : argsFit about1.vm theMethod args0 = true := by decide +kernel
set_option maxRecDepth 65536 in
theorem w_heap : heapFits about1 = true := by decide +kernel
set_option maxRecDepth 65536 in
theorem w_runnable : about1.curStatus? = some .runnable := by decide +kernel
set_option maxRecDepth 65536 in
theorem w_alone : about1.alone = true := by decide +kernel
set_option maxRecDepth 65536 in
theorem w_named : about1.methodNamed? x = some theMethod := by decide +kernel
set_option maxRecDepth 65536 in
theorem w_hears : about1.hears theMethod below0 = true := by decide +kernel
set_option maxRecDepth 65536 in
theorem w_ripe : about1.ripe theMethod args0 below0 = true := by decide +kernel
theorem w_running : about1.status = .running := rfl
set_option maxRecDepth 65536 in
theorem w_room : about1.hasRoom e0.platform room_1 = true :=
  launch0.hasRoom_least _ room_1 (by decide +kernel) (by decide +kernel) (by decide +kernel) (by decide +kernel) (by decide +kernel) (by decide +kernel)
theorem allAtoms_all (ts : List Jvm.Cond) (a : Array Jvm.Value) (st : Jvm.State) : (allAtoms ts).before a st = ts.all (fun c => c.before a st) := by
  induction ts with
  | nil => rfl
  | cons c t ih =>
    show (Jvm.Cond.and c (allAtoms t)).before a st = _
    rw [Jvm.Cond.before_and, ih, List.all_cons]
def words1 : List Jvm.Cond := Jvm.Cond.code x code maxLocals ret :: tables_1
/-- a 'code' word, met by the world's own term for the bytes: nothing is compared byte by byte -/
theorem code_word {y : MethodName} {bytes : ByteArray} {mx : Nat} {rt : Option FieldType} {a : Array Value} {s : State} {m : MethodId} {meth : Method} {c : Code} (h1 : s.methodNamed? y = some m) (h2 : s.vm.method? m = some meth) (h3 : meth.code = some c) (h4 : c.code = bytes)
    (h5 : (c.maxLocals == mx && c.exceptionTable.isEmpty && decide (c.maxStack ≤ mostOperands) && decide (meth.sig.returnType = rt) && !meth.locks && decide (parseMethodDescriptor y.desc = some meth.sig)) = true) : (Jvm.Cond.code y bytes mx rt).before a s = true := by
  simp only [Bool.and_eq_true, beq_iff_eq, Bool.not_eq_true', decide_eq_true_eq] at h5
  obtain ⟨⟨⟨⟨⟨g1, g2⟩, g3⟩, g4⟩, g5⟩, g6⟩ := h5
  simp [Cond.before, Cond.holds, Cond.value, h1, h2, h3, h4, g1, g2, g3, g4, g5, g6]
def isCode : Jvm.Cond → Bool
  | .code _ _ _ _ => true
  | _ => false
theorem all_split {L : List Jvm.Cond} {P : Jvm.Cond → Bool} (h1 : L.all (fun c => isCode c || P c) = true) (h2 : ∀ c ∈ L.filter isCode, P c = true) : L.all P = true := by
  refine List.all_eq_true.mpr fun c hc => ?_
  have h := List.all_eq_true.mp h1 c hc
  rcases Bool.eq_false_or_eq_true (isCode c) with hi | hi
  · exact h2 c (List.mem_filter.mpr ⟨hc, hi⟩)
  · simpa [hi] using h
set_option maxRecDepth 65536 in
theorem w_c0 : (Jvm.Cond.code x code maxLocals ret).before args0 about1 = true := code_word (m := ⟨1, 4⟩) (meth := k1m4) (c := k1c4) (by decide +kernel) rfl rfl rfl (by decide +kernel)
set_option maxRecDepth 65536 in
theorem w_c1 : (Jvm.Cond.code ({ cls := "com/example/coretally/coretally/core/RatioCompareToPinLaw", name := "pick", desc := "(JJI)J" } : Jvm.MethodName) method_2_code (6 : Nat) (Option.some Jvm.ClassFile.FieldType.long)).before args0 about1 = true := code_word (m := ⟨1, 1⟩) (meth := k1m1) (c := k1c1) (by decide +kernel) rfl rfl rfl (by decide +kernel)
set_option maxRecDepth 65536 in
theorem w_c2 : (Jvm.Cond.code ({ cls := "com/example/coretally/coretally/core/Ratio", name := "<init>", desc := "(JJ)V" } : Jvm.MethodName) prog_56_method_1_code (5 : Nat) (Option.none : Option Jvm.ClassFile.FieldType)).before args0 about1 = true := code_word (m := ⟨4, 0⟩) (meth := k4m0) (c := k4c0) (by decide +kernel) rfl rfl rfl (by decide +kernel)
set_option maxRecDepth 65536 in
theorem w_c3 : (Jvm.Cond.code ({ cls := "java/lang/Record", name := "<init>", desc := "()V" } : Jvm.MethodName) jdk_30_method_1_code (1 : Nat) (Option.none : Option Jvm.ClassFile.FieldType)).before args0 about1 = true := code_word (m := ⟨2, 0⟩) (meth := k2m0) (c := k2c0) (by decide +kernel) rfl rfl rfl (by decide +kernel)
set_option maxRecDepth 65536 in
theorem w_c4 : (Jvm.Cond.code ({ cls := "java/lang/Object", name := "<init>", desc := "()V" } : Jvm.MethodName) object_method_1_code (1 : Nat) (Option.none : Option Jvm.ClassFile.FieldType)).before args0 about1 = true := code_word (m := ⟨0, 0⟩) (meth := k0m0) (c := k0c0) (by decide +kernel) rfl rfl rfl (by decide +kernel)
set_option maxRecDepth 65536 in
theorem w_c5 : (Jvm.Cond.code ({ cls := "com/example/coretally/coretally/core/Ratio", name := "compareTo", desc := "(Lcom/example/coretally/coretally/core/Ratio;)I" } : Jvm.MethodName) prog_56_method_5_code (3 : Nat) (Option.some Jvm.ClassFile.FieldType.int)).before args0 about1 = true := code_word (m := ⟨4, 1⟩) (meth := k4m1) (c := k4c1) (by decide +kernel) rfl rfl rfl (by decide +kernel)
set_option maxRecDepth 65536 in
theorem w_c6 : (Jvm.Cond.code ({ cls := "java/lang/Long", name := "compare", desc := "(JJ)I" } : Jvm.MethodName) jdk_35_method_42_code (4 : Nat) (Option.some Jvm.ClassFile.FieldType.int)).before args0 about1 = true := code_word (m := ⟨9, 0⟩) (meth := k9m0) (c := k9c0) (by decide +kernel) rfl rfl rfl (by decide +kernel)
set_option maxRecDepth 65536 in
theorem w_c7 : (Jvm.Cond.code ({ cls := "com/example/coretally/coretally/core/RatioCompareToPinLaw", name := "cmp", desc := "(JJ)I" } : Jvm.MethodName) method_4_code (4 : Nat) (Option.some Jvm.ClassFile.FieldType.int)).before args0 about1 = true := code_word (m := ⟨1, 3⟩) (meth := k1m3) (c := k1c3) (by decide +kernel) rfl rfl rfl (by decide +kernel)
set_option maxRecDepth 65536 in
theorem w_c8 : (Jvm.Cond.code ({ cls := "com/example/coretally/coretally/core/RatioCompareToPinLaw", name := "sign", desc := "(I)I" } : Jvm.MethodName) method_3_code (1 : Nat) (Option.some Jvm.ClassFile.FieldType.int)).before args0 about1 = true := code_word (m := ⟨1, 2⟩) (meth := k1m2) (c := k1c2) (by decide +kernel) rfl rfl rfl (by decide +kernel)
def codes1 : List Jvm.Cond := [Jvm.Cond.code x code maxLocals ret, Jvm.Cond.code ({ cls := "com/example/coretally/coretally/core/RatioCompareToPinLaw", name := "pick", desc := "(JJI)J" } : Jvm.MethodName) method_2_code (6 : Nat) (Option.some Jvm.ClassFile.FieldType.long), Jvm.Cond.code ({ cls := "com/example/coretally/coretally/core/Ratio", name := "<init>", desc := "(JJ)V" } : Jvm.MethodName) prog_56_method_1_code (5 : Nat) (Option.none : Option Jvm.ClassFile.FieldType), Jvm.Cond.code ({ cls := "java/lang/Record", name := "<init>", desc := "()V" } : Jvm.MethodName) jdk_30_method_1_code (1 : Nat) (Option.none : Option Jvm.ClassFile.FieldType), Jvm.Cond.code ({ cls := "java/lang/Object", name := "<init>", desc := "()V" } : Jvm.MethodName) object_method_1_code (1 : Nat) (Option.none : Option Jvm.ClassFile.FieldType), Jvm.Cond.code ({ cls := "com/example/coretally/coretally/core/Ratio", name := "compareTo", desc := "(Lcom/example/coretally/coretally/core/Ratio;)I" } : Jvm.MethodName) prog_56_method_5_code (3 : Nat) (Option.some Jvm.ClassFile.FieldType.int), Jvm.Cond.code ({ cls := "java/lang/Long", name := "compare", desc := "(JJ)I" } : Jvm.MethodName) jdk_35_method_42_code (4 : Nat) (Option.some Jvm.ClassFile.FieldType.int), Jvm.Cond.code ({ cls := "com/example/coretally/coretally/core/RatioCompareToPinLaw", name := "cmp", desc := "(JJ)I" } : Jvm.MethodName) method_4_code (4 : Nat) (Option.some Jvm.ClassFile.FieldType.int), Jvm.Cond.code ({ cls := "com/example/coretally/coretally/core/RatioCompareToPinLaw", name := "sign", desc := "(I)I" } : Jvm.MethodName) method_3_code (1 : Nat) (Option.some Jvm.ClassFile.FieldType.int)]
set_option maxRecDepth 65536 in
theorem codes_eq : words1.filter isCode = codes1 := rfl
theorem w_codes : ∀ c ∈ words1.filter isCode, c.before args0 about1 = true := by
  rw [codes_eq]
  intro c hc
  simp only [codes1, List.mem_cons, List.not_mem_nil, or_false] at hc
  rcases hc with rfl | rfl | rfl | rfl | rfl | rfl | rfl | rfl | rfl
  · exact w_c0
  · exact w_c1
  · exact w_c2
  · exact w_c3
  · exact w_c4
  · exact w_c5
  · exact w_c6
  · exact w_c7
  · exact w_c8
set_option maxRecDepth 65536 in
theorem w_t1 : (words1.take 24).all (fun c => isCode c || c.before args0 about1) = true := by decide +kernel
set_option maxRecDepth 65536 in
theorem w_t2 : (words1.drop 24).all (fun c => isCode c || c.before args0 about1) = true := by decide +kernel
theorem w_tables : (allAtoms (Jvm.Cond.code x code maxLocals ret :: tables_1)).before args0 about1 = true := by
  rw [allAtoms_all]
  show words1.all (fun c => c.before args0 about1) = true
  refine all_split ?_ w_codes
  rw [← List.take_append_drop 24 words1, List.all_append, w_t1, w_t2]
  rfl
set_option maxRecDepth 65536 in
theorem w_case : (Jvm.Cond.and given_1 narrow_1).before args0 about1 = true := by decide +kernel
theorem w_applies : (headSpec (Jvm.Cond.code x code maxLocals ret :: tables_1) room_1).applies x e0.platform about1 = true :=
  (Spec.applies_iff w_frames).mpr ⟨w_running, w_runnable, w_alone, w_named, w_hears, w_ripe, w_room, w_tables⟩
theorem atStart : AtStart classFile x code maxLocals ret World_1 tables_1 room_1 Calls_1 rest_1 Pre_1 launch0 p0 e0 about1 theMethod args0 below0 :=
  ⟨lists_1, trivial, launch0.admits_env _ _ _, launch0.least_env, fairChoices_fair.cas, fairChoices_fair.clock, w_frames, w_args, w_heap, w_applies, trivial, trivial, w_case⟩
end start1
theorem witness_1 : WitnessClaimed_1 := ⟨start1.p0, start1.e0, start1.about1, start1.theMethod, start1.args0, start1.below0, start1.atStart⟩
end Jvm.Pilot.@@N@@

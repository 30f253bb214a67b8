import JvmDerived
import JvmDerived.Pilot.@@N@@Statement
import JvmDerived.Pilot.@@N@@Code
set_option linter.unusedVariables false
set_option linter.unusedSimpArgs false
namespace Jvm.RoadKit
open Sem ClassFile Op Lib Jvm.Stand Jvm.Free Jvm.LawKit
section New
variable {p : Program} {l : Launch} {e : Env} {R : Room} {s : State} {m : MethodId} {args : Array Value} {below : List Frame} {meth : Method} {c : Code} {T : State} {locs : List Loc} {cells slots : Nat}
theorem retI (X : Stand p l e R s m args below meth c T locs cells slots) (hx : p.tables.exec = Jvm.exec) {pc : Nat} {Ls : Array Slot} {z : Int32} {rest : List Value} (hret : meth.sig.returnType = some .int) (hd : decode c.code pc = .ok (.ireturn, 1)) {fs : List Frame}
    (hl : ∀ (f : JFrame) (acts : List Action), f.method = m → f.locked = none → f.entered = [] → (doReturn e (T.setTop f) acts (some (.int z))).1 = T.setFrames fs) : Steps p.tables e below (T.setTop (mkF m pc Ls (.int z :: rest))) (T.setFrames fs) := by
  have hm' : T.vm.method? m = some meth := X.method'
  have hn : narrow .int (.int z) = .int z := rfl
  show Steps p.tables e below (T.setTop { method := m, pc := pc, locals := Ls, stack := _ :: rest, locked := none }) _
  jvm_step X.here [X.here.top, hx, hd, hm', hret, hn]
  first | (intro acts; rw [hl _ acts rfl rfl rfl]) | rw [hl _ _ rfl rfl rfl]
  exact Steps.refl _
end New
end Jvm.RoadKit
namespace Jvm.Pilot.@@N@@
open Jvm Jvm.ClassFile Sem Op Lib Jvm.Free Jvm.Stand Jvm.LawKit Jvm.RoadKit Bundle Jvm.Pilot.@@N@@.Jvm.D
def own_cc (q : Int64) : Int64 := q / 1000 + (if q - q / 1000 * 1000 = 0 then 0 else 1)
def own_ct (q : Int64) : Int64 := if q = 0 then 0 else (q - 1) / 1000 + 1
theorem own_k : (1000 : Int64).toInt = 1000 := by decide
theorem own_k1 : (1 : Int64).toInt = 1 := by decide
theorem own_k0 : (0 : Int64).toInt = 0 := by decide
theorem own_add (x y : Int64) (h1 : 0 ≤ x.toInt + y.toInt) (h2 : x.toInt + y.toInt < 9223372036854775808) : (x + y).toInt = x.toInt + y.toInt := by
  have := c_ladd x y
  have := rng64 (x + y)
  omega
theorem own_cc_int (q : Int64) (h : 0 ≤ q.toInt) : (own_cc q).toInt = (q.toInt + 999) / 1000 := by
  have h1 := (c_ldiv q 1000 1000 own_k (by decide)).1 h
  have h2 := (c_lrem q 1000 1000 own_k).1 h
  have h3 := rng64 q
  unfold own_cc
  by_cases hz : q - q / 1000 * 1000 = 0
  · rw [if_pos hz, own_add _ _ (by rw [h1, own_k0]; omega) (by rw [h1, own_k0]; omega), h1, own_k0]
    rw [hz, own_k0] at h2
    omega
  · rw [if_neg hz, own_add _ _ (by rw [h1, own_k1]; omega) (by rw [h1, own_k1]; omega), h1, own_k1]
    have : ¬ (q - q / 1000 * 1000).toInt = 0 := fun e => hz (Int64.toInt_inj.mp (e.trans own_k0.symm))
    rw [h2] at this
    omega
theorem own_ct_int (q : Int64) (h : 0 ≤ q.toInt) : (own_ct q).toInt = (q.toInt + 999) / 1000 := by
  have h3 := rng64 q
  unfold own_ct
  by_cases hz : q = 0
  · rw [if_pos hz, hz, own_k0]; decide
  · rw [if_neg hz]
    have hz : ¬ q.toInt = 0 := fun e => hz (Int64.toInt_inj.mp (e.trans own_k0.symm))
    have h4 : (q - 1).toInt = q.toInt - 1 := by
      have q1 := c_lsub q 1
      have q2 := rng64 (q - 1)
      rw [own_k1] at q1
      omega
    have h1 := (c_ldiv (q - 1) 1000 1000 own_k (by decide)).1 (by omega)
    rw [own_add _ _ (by rw [h1, own_k1]; omega) (by rw [h1, own_k1]; omega), h1, own_k1, h4]
    omega
theorem own_m (x : Int64) : 0 ≤ (x &&& (9223372036854775807 : Int64)).toInt := by
  rw [c_maskL x 9223372036854775807 63 (by decide) (by decide)]
  exact Int.emod_nonneg _ (by decide)
theorem own_gen (x : Int64) : own_cc (x &&& (9223372036854775807 : Int64)) = own_ct (x &&& (9223372036854775807 : Int64)) :=
  Int64.toInt_inj.mp ((own_cc_int _ (own_m x)).trans (own_ct_int _ (own_m x)).symm)
theorem own_mul (x : Int64) : own_cc ((x &&& (9223372036854775807 : Int64)) / 1000 * 1000) = (x &&& (9223372036854775807 : Int64)) / 1000 := by
  have h0 := own_m x
  have h9 := rng64 (x &&& (9223372036854775807 : Int64))
  have h1 := (c_ldiv (x &&& (9223372036854775807 : Int64)) 1000 1000 own_k (by decide)).1 h0
  have h2 : ((x &&& (9223372036854775807 : Int64)) / 1000 * 1000).toInt = ((x &&& (9223372036854775807 : Int64)) / 1000).toInt * 1000 := by
    have q1 := c_lmul ((x &&& (9223372036854775807 : Int64)) / 1000) 1000
    have q2 := rng64 ((x &&& (9223372036854775807 : Int64)) / 1000 * 1000)
    rw [own_k] at q1
    omega
  apply Int64.toInt_inj.mp
  rw [own_cc_int _ (by omega), h2]
  omega
theorem d1_0 : decode prog_26_method_4_code 0 = .ok (.lload_n 0, 1) := by decide +kernel
theorem d1_1 : decode prog_26_method_4_code 1 = .ok (.ldc2_w 212, 3) := by decide +kernel
theorem d1_4 : decode prog_26_method_4_code 4 = .ok (.ldiv, 1) := by decide +kernel
theorem d1_5 : decode prog_26_method_4_code 5 = .ok (.lload_n 0, 1) := by decide +kernel
theorem d1_6 : decode prog_26_method_4_code 6 = .ok (.ldc2_w 212, 3) := by decide +kernel
theorem d1_9 : decode prog_26_method_4_code 9 = .ok (.lrem, 1) := by decide +kernel
theorem d1_10 : decode prog_26_method_4_code 10 = .ok (.lconst 0, 1) := by decide +kernel
theorem d1_11 : decode prog_26_method_4_code 11 = .ok (.lcmp, 1) := by decide +kernel
theorem d1_12 : decode prog_26_method_4_code 12 = .ok (.ifCond .ne 7, 3) := by decide +kernel
theorem d1_15 : decode prog_26_method_4_code 15 = .ok (.iconst 0, 1) := by decide +kernel
theorem d1_16 : decode prog_26_method_4_code 16 = .ok (.goto 4, 3) := by decide +kernel
theorem d1_20 : decode prog_26_method_4_code 20 = .ok (.i2l, 1) := by decide +kernel
theorem d1_21 : decode prog_26_method_4_code 21 = .ok (.ladd, 1) := by decide +kernel
theorem d1_22 : decode prog_26_method_4_code 22 = .ok (.lreturn, 1) := by decide +kernel
theorem pn_0 : plainName "com/example/coretally/coretally/core/ContainerTerms" = true := by first | (simp [plainName, overriddenIn]; done) | decide +kernel
theorem ef_1 (m : MethodId) (x0 : Int64) : entryFrame m #[(.long x0)] 2 = mkF m 0 #[.val (.long x0), .second] [] := by first | (simp [entryFrame, mkF, argsToLocals, Value.category]; done) | rfl
def Qrm1 (Z : State) (q : Int64) (h0 : Heap) (n0 : Nat) (v : Option Value) (h : Heap) (L : List Loc) : Prop := v = some (.long (own_cc q)) ∧ Fr n0 L ∧ h = h0
set_option maxRecDepth 65536 in
set_option maxHeartbeats 40000000 in
theorem rm1f (l : Launch) (Z : State) (a0 : Array Value) (hw : ∀ d ∈ tables_1, d.before a0 Z = true) (ws : List Jvm.Cond) (q : Int64) (h0 : Heap) (n0 : Nat) (Z0 : n0 ≤ h0.size) (hc : (q - (q / (1000 : Int64)) * (1000 : Int64)) = (0 : Int64)) :
    MetFree l (⟨"com/example/coretally/coretally/core/ContainerTerms", "chargedCores", "(J)J"⟩ : MethodName) (head1 (Jvm.Cond.code (⟨"com/example/coretally/coretally/core/ContainerTerms", "chargedCores", "(J)J"⟩ : MethodName) prog_26_method_4_code 2 (some .long) :: ws) ({ frames := 0, cells := 0, slots := 0, locals := 0 } : Room)) (fun aa_ U => aa_ = #[(.long q)] ∧ Z.Warmed39 U.vm ∧ U.heap = h0) (fun _ _ _ _ _ => True) (fun _ U o U' => ∃ v L, o = .returned v ∧ Qrm1 Z q h0 n0 v U'.heap L ∧ FrameEnd U o U' L ({ frames := 0, cells := 0, slots := 0, locals := 0 } : Room).cells ({ frames := 0, cells := 0, slots := 0, locals := 0 } : Room).slots) := by
  refine MetFree.of_bodySF (plainFor_of_name pn_0) hisR ?_
  intro p e s m args below meth c s₁ Bd hml0 hP hK
  obtain ⟨rfl, hZ, hh⟩ := hP
  have hx := Bd.exec
  have hby := Bd.bytes
  have hml : c.maxLocals = 2 := hml0
  have hown : s.vm.findClass "com/example/coretally/coretally/core/ContainerTerms" = some m.cls := findClass_of_methodNamed Bd.named
  have hnm := (name_of_methodNamed Bd.named Bd.method).1
  have X0 : Stand p l e ({ frames := 0, cells := 0, slots := 0, locals := 0 } : Room) s m #[(.long q)] below meth c s₁ [] 0 0 := Stand.of_body Bd
  have e0 : s₁.heap = h0 := by rw [← hh, Bd.state]; rfl
  have N0 := Fr.nil n0
  have pre0 : ∀ tt_, Steps p.tables e below (s₁.setTop (mkF m 0 #[.val (.long q), .second] [])) tt_ → Steps p.tables e below (s₁.setTop (entryFrame m #[(.long q)] 2)) tt_ := fun tt_ kk_ => castTop (ef_1 m q) kk_
  obtain ⟨fs, hr, hrun, hended, hW, hsame⟩ := X0.leave (v := some (.long ((q / (1000 : Int64)) + ((0 : Int32).toInt64)))) (fun h => by rw [Bd.returns] at h; cases h)
  refine ⟨_, _, pre0 _ ?_, hrun, hended, _, _, rfl, ?_, ⟨_, rfl⟩, hW, hsame.mono (by decide) (by decide)⟩
  · show Steps p.tables e below (s₁.setTop (mkF m 0 #[.val (.long q), .second] [])) _
    refine XS.lloadN X0.here hx rfl (hb hby d1_0) rfl ?_
    show Steps p.tables e below (s₁.setTop (mkF m 1 #[.val (.long q), .second] [(.long q)])) _
    refine X0.ldc2Long hx hown (mvT hZ (hw _ (List.mem_of_getElem? (i := 5) rfl))) (g := (mkF m 1 #[.val (.long q), .second] [(.long q)])) rfl (hb hby d1_1) _ ?_
    show Steps p.tables e below (s₁.setTop (mkF m 4 #[.val (.long q), .second] [(.long (1000 : Int64)), (.long q)])) _
    refine XS.ldiv X0.here hx rfl (hb hby d1_4) rfl (by decide) ?_
    show Steps p.tables e below (s₁.setTop (mkF m 5 #[.val (.long q), .second] [(.long (q / (1000 : Int64)))])) _
    refine XS.lloadN X0.here hx rfl (hb hby d1_5) rfl ?_
    show Steps p.tables e below (s₁.setTop (mkF m 6 #[.val (.long q), .second] [(.long q), (.long (q / (1000 : Int64)))])) _
    refine X0.ldc2Long hx hown (mvT hZ (hw _ (List.mem_of_getElem? (i := 5) rfl))) (g := (mkF m 6 #[.val (.long q), .second] [(.long q), (.long (q / (1000 : Int64)))])) rfl (hb hby d1_6) _ ?_
    show Steps p.tables e below (s₁.setTop (mkF m 9 #[.val (.long q), .second] [(.long (1000 : Int64)), (.long q), (.long (q / (1000 : Int64)))])) _
    refine XS.lrem X0.here hx rfl (hb hby d1_9) rfl (by decide) ?_
    show Steps p.tables e below (s₁.setTop (mkF m 10 #[.val (.long q), .second] [(.long (q - (q / (1000 : Int64)) * (1000 : Int64))), (.long (q / (1000 : Int64)))])) _
    refine XS.lconst X0.here hx rfl (hb hby d1_10) ?_
    show Steps p.tables e below (s₁.setTop (mkF m 11 #[.val (.long q), .second] [(.long (0 : Int64)), (.long (q - (q / (1000 : Int64)) * (1000 : Int64))), (.long (q / (1000 : Int64)))])) _
    refine XS.lcmp X0.here hx rfl (hb hby d1_11) rfl ?_
    show Steps p.tables e below (s₁.setTop (mkF m 12 #[.val (.long q), .second] [(.int (lcmpW (q - (q / (1000 : Int64)) * (1000 : Int64)) (0 : Int64))), (.long (q / (1000 : Int64)))])) _
    refine XS.ifNo X0.here hx rfl (hb hby d1_12) rfl ((if0 _ _).trans (teq (show (lcmpW (q - (q / (1000 : Int64)) * (1000 : Int64)) (0 : Int64)) = (0 : Int32) from ((lw_eq _ _).mpr hc))).2) ?_
    show Steps p.tables e below (s₁.setTop (mkF m 15 #[.val (.long q), .second] [(.long (q / (1000 : Int64)))])) _
    refine XS.iconst X0.here hx rfl (hb hby d1_15) ?_
    show Steps p.tables e below (s₁.setTop (mkF m 16 #[.val (.long q), .second] [(.int (0 : Int32)), (.long (q / (1000 : Int64)))])) _
    refine XS.goto X0.here hx rfl (pc0 := 16) (pc' := 20) rfl (hb hby d1_16) (by decide) (by decide) ?_
    show Steps p.tables e below (s₁.setTop (mkF m 20 #[.val (.long q), .second] [(.int (0 : Int32)), (.long (q / (1000 : Int64)))])) _
    refine XS.i2l X0.here hx rfl (hb hby d1_20) rfl ?_
    show Steps p.tables e below (s₁.setTop (mkF m 21 #[.val (.long q), .second] [(.long ((0 : Int32).toInt64)), (.long (q / (1000 : Int64)))])) _
    refine XS.ladd X0.here hx rfl (hb hby d1_21) rfl ?_
    show Steps p.tables e below (s₁.setTop (mkF m 22 #[.val (.long q), .second] [(.long ((q / (1000 : Int64)) + ((0 : Int32).toInt64)))])) _
    exact X0.lreturnOut hx Bd.returns (hb hby d1_22) hr
  · show Qrm1 Z q h0 n0 _ s₁.heap _
    rw [e0]
    exact ⟨by rw [own_cc, if_pos hc]; rfl, N0, rfl⟩
theorem d1_19 : decode prog_26_method_4_code 19 = .ok (.iconst 1, 1) := by decide +kernel
set_option maxRecDepth 65536 in
set_option maxHeartbeats 40000000 in
theorem rm1t (l : Launch) (Z : State) (a0 : Array Value) (hw : ∀ d ∈ tables_1, d.before a0 Z = true) (ws : List Jvm.Cond) (q : Int64) (h0 : Heap) (n0 : Nat) (Z0 : n0 ≤ h0.size) (hc : ¬ ((q - (q / (1000 : Int64)) * (1000 : Int64)) = (0 : Int64))) :
    MetFree l (⟨"com/example/coretally/coretally/core/ContainerTerms", "chargedCores", "(J)J"⟩ : MethodName) (head1 (Jvm.Cond.code (⟨"com/example/coretally/coretally/core/ContainerTerms", "chargedCores", "(J)J"⟩ : MethodName) prog_26_method_4_code 2 (some .long) :: ws) ({ frames := 0, cells := 0, slots := 0, locals := 0 } : Room)) (fun aa_ U => aa_ = #[(.long q)] ∧ Z.Warmed39 U.vm ∧ U.heap = h0) (fun _ _ _ _ _ => True) (fun _ U o U' => ∃ v L, o = .returned v ∧ Qrm1 Z q h0 n0 v U'.heap L ∧ FrameEnd U o U' L ({ frames := 0, cells := 0, slots := 0, locals := 0 } : Room).cells ({ frames := 0, cells := 0, slots := 0, locals := 0 } : Room).slots) := by
  refine MetFree.of_bodySF (plainFor_of_name pn_0) hisR ?_
  intro p e s m args below meth c s₁ Bd hml0 hP hK
  obtain ⟨rfl, hZ, hh⟩ := hP
  have hx := Bd.exec
  have hby := Bd.bytes
  have hml : c.maxLocals = 2 := hml0
  have hown : s.vm.findClass "com/example/coretally/coretally/core/ContainerTerms" = some m.cls := findClass_of_methodNamed Bd.named
  have hnm := (name_of_methodNamed Bd.named Bd.method).1
  have X0 : Stand p l e ({ frames := 0, cells := 0, slots := 0, locals := 0 } : Room) s m #[(.long q)] below meth c s₁ [] 0 0 := Stand.of_body Bd
  have e0 : s₁.heap = h0 := by rw [← hh, Bd.state]; rfl
  have N0 := Fr.nil n0
  have pre0 : ∀ tt_, Steps p.tables e below (s₁.setTop (mkF m 0 #[.val (.long q), .second] [])) tt_ → Steps p.tables e below (s₁.setTop (entryFrame m #[(.long q)] 2)) tt_ := fun tt_ kk_ => castTop (ef_1 m q) kk_
  obtain ⟨fs, hr, hrun, hended, hW, hsame⟩ := X0.leave (v := some (.long ((q / (1000 : Int64)) + ((1 : Int32).toInt64)))) (fun h => by rw [Bd.returns] at h; cases h)
  refine ⟨_, _, pre0 _ ?_, hrun, hended, _, _, rfl, ?_, ⟨_, rfl⟩, hW, hsame.mono (by decide) (by decide)⟩
  · show Steps p.tables e below (s₁.setTop (mkF m 0 #[.val (.long q), .second] [])) _
    refine XS.lloadN X0.here hx rfl (hb hby d1_0) rfl ?_
    show Steps p.tables e below (s₁.setTop (mkF m 1 #[.val (.long q), .second] [(.long q)])) _
    refine X0.ldc2Long hx hown (mvT hZ (hw _ (List.mem_of_getElem? (i := 5) rfl))) (g := (mkF m 1 #[.val (.long q), .second] [(.long q)])) rfl (hb hby d1_1) _ ?_
    show Steps p.tables e below (s₁.setTop (mkF m 4 #[.val (.long q), .second] [(.long (1000 : Int64)), (.long q)])) _
    refine XS.ldiv X0.here hx rfl (hb hby d1_4) rfl (by decide) ?_
    show Steps p.tables e below (s₁.setTop (mkF m 5 #[.val (.long q), .second] [(.long (q / (1000 : Int64)))])) _
    refine XS.lloadN X0.here hx rfl (hb hby d1_5) rfl ?_
    show Steps p.tables e below (s₁.setTop (mkF m 6 #[.val (.long q), .second] [(.long q), (.long (q / (1000 : Int64)))])) _
    refine X0.ldc2Long hx hown (mvT hZ (hw _ (List.mem_of_getElem? (i := 5) rfl))) (g := (mkF m 6 #[.val (.long q), .second] [(.long q), (.long (q / (1000 : Int64)))])) rfl (hb hby d1_6) _ ?_
    show Steps p.tables e below (s₁.setTop (mkF m 9 #[.val (.long q), .second] [(.long (1000 : Int64)), (.long q), (.long (q / (1000 : Int64)))])) _
    refine XS.lrem X0.here hx rfl (hb hby d1_9) rfl (by decide) ?_
    show Steps p.tables e below (s₁.setTop (mkF m 10 #[.val (.long q), .second] [(.long (q - (q / (1000 : Int64)) * (1000 : Int64))), (.long (q / (1000 : Int64)))])) _
    refine XS.lconst X0.here hx rfl (hb hby d1_10) ?_
    show Steps p.tables e below (s₁.setTop (mkF m 11 #[.val (.long q), .second] [(.long (0 : Int64)), (.long (q - (q / (1000 : Int64)) * (1000 : Int64))), (.long (q / (1000 : Int64)))])) _
    refine XS.lcmp X0.here hx rfl (hb hby d1_11) rfl ?_
    show Steps p.tables e below (s₁.setTop (mkF m 12 #[.val (.long q), .second] [(.int (lcmpW (q - (q / (1000 : Int64)) * (1000 : Int64)) (0 : Int64))), (.long (q / (1000 : Int64)))])) _
    refine XS.ifYes X0.here hx rfl (pc0 := 12) (pc' := 19) rfl (hb hby d1_12) rfl ((if0 _ _).trans (feq (show ¬ ((lcmpW (q - (q / (1000 : Int64)) * (1000 : Int64)) (0 : Int64)) = (0 : Int32)) from (fun u => hc ((lw_eq _ _).mp u)))).2) (by decide) (by decide) ?_
    show Steps p.tables e below (s₁.setTop (mkF m 19 #[.val (.long q), .second] [(.long (q / (1000 : Int64)))])) _
    refine XS.iconst X0.here hx rfl (hb hby d1_19) ?_
    show Steps p.tables e below (s₁.setTop (mkF m 20 #[.val (.long q), .second] [(.int (1 : Int32)), (.long (q / (1000 : Int64)))])) _
    refine XS.i2l X0.here hx rfl (hb hby d1_20) rfl ?_
    show Steps p.tables e below (s₁.setTop (mkF m 21 #[.val (.long q), .second] [(.long ((1 : Int32).toInt64)), (.long (q / (1000 : Int64)))])) _
    refine XS.ladd X0.here hx rfl (hb hby d1_21) rfl ?_
    show Steps p.tables e below (s₁.setTop (mkF m 22 #[.val (.long q), .second] [(.long ((q / (1000 : Int64)) + ((1 : Int32).toInt64)))])) _
    exact X0.lreturnOut hx Bd.returns (hb hby d1_22) hr
  · show Qrm1 Z q h0 n0 _ s₁.heap _
    rw [e0]
    exact ⟨by rw [own_cc, if_neg hc]; rfl, N0, rfl⟩
theorem rm1 (l : Launch) (Z : State) (a0 : Array Value) (hw : ∀ d ∈ tables_1, d.before a0 Z = true) (ws : List Jvm.Cond) (q : Int64) (h0 : Heap) (n0 : Nat) (Z0 : n0 ≤ h0.size) :
    MetFree l (⟨"com/example/coretally/coretally/core/ContainerTerms", "chargedCores", "(J)J"⟩ : MethodName) (head1 (Jvm.Cond.code (⟨"com/example/coretally/coretally/core/ContainerTerms", "chargedCores", "(J)J"⟩ : MethodName) prog_26_method_4_code 2 (some .long) :: ws) ({ frames := 0, cells := 0, slots := 0, locals := 0 } : Room)) (fun aa_ U => aa_ = #[(.long q)] ∧ Z.Warmed39 U.vm ∧ U.heap = h0) (fun _ _ _ _ _ => True) (fun _ U o U' => ∃ v L, o = .returned v ∧ Qrm1 Z q h0 n0 v U'.heap L ∧ FrameEnd U o U' L ({ frames := 0, cells := 0, slots := 0, locals := 0 } : Room).cells ({ frames := 0, cells := 0, slots := 0, locals := 0 } : Room).slots) := by
  by_cases h : (q - (q / (1000 : Int64)) * (1000 : Int64)) = (0 : Int64)
  · exact rm1f l Z a0 hw ws q h0 n0 Z0  h
  · exact rm1t l Z a0 hw ws q h0 n0 Z0  h
theorem d2_0 : decode method_2_code 0 = .ok (.lload_n 0, 1) := by decide +kernel
theorem d2_1 : decode method_2_code 1 = .ok (.lconst 0, 1) := by decide +kernel
theorem d2_2 : decode method_2_code 2 = .ok (.lcmp, 1) := by decide +kernel
theorem d2_3 : decode method_2_code 3 = .ok (.ifCond .ne 5, 3) := by decide +kernel
theorem d2_6 : decode method_2_code 6 = .ok (.lconst 0, 1) := by decide +kernel
theorem d2_7 : decode method_2_code 7 = .ok (.lreturn, 1) := by decide +kernel
theorem pn_1 : plainName "com/example/coretally/coretally/core/ContainerTermsChargedCoresPinLaw" = true := by first | (simp [plainName, overriddenIn]; done) | decide +kernel
theorem ef_2 (m : MethodId) (x0 : Int64) : entryFrame m #[(.long x0)] 2 = mkF m 0 #[.val (.long x0), .second] [] := by first | (simp [entryFrame, mkF, argsToLocals, Value.category]; done) | rfl
def Qrm2 (Z : State) (q : Int64) (h0 : Heap) (n0 : Nat) (v : Option Value) (h : Heap) (L : List Loc) : Prop := v = some (.long (own_ct q)) ∧ Fr n0 L ∧ h = h0
set_option maxRecDepth 65536 in
set_option maxHeartbeats 40000000 in
theorem rm2f (l : Launch) (Z : State) (a0 : Array Value) (hw : ∀ d ∈ tables_1, d.before a0 Z = true) (ws : List Jvm.Cond) (q : Int64) (h0 : Heap) (n0 : Nat) (Z0 : n0 ≤ h0.size) (hc : q = (0 : Int64)) :
    MetFree l (⟨"com/example/coretally/coretally/core/ContainerTermsChargedCoresPinLaw", "ceilThousandths", "(J)J"⟩ : MethodName) (head1 (Jvm.Cond.code (⟨"com/example/coretally/coretally/core/ContainerTermsChargedCoresPinLaw", "ceilThousandths", "(J)J"⟩ : MethodName) method_2_code 2 (some .long) :: ws) ({ frames := 0, cells := 0, slots := 0, locals := 0 } : Room)) (fun aa_ U => aa_ = #[(.long q)] ∧ Z.Warmed39 U.vm ∧ U.heap = h0) (fun _ _ _ _ _ => True) (fun _ U o U' => ∃ v L, o = .returned v ∧ Qrm2 Z q h0 n0 v U'.heap L ∧ FrameEnd U o U' L ({ frames := 0, cells := 0, slots := 0, locals := 0 } : Room).cells ({ frames := 0, cells := 0, slots := 0, locals := 0 } : Room).slots) := by
  refine MetFree.of_bodySF (plainFor_of_name pn_1) hisR ?_
  intro p e s m args below meth c s₁ Bd hml0 hP hK
  obtain ⟨rfl, hZ, hh⟩ := hP
  have hx := Bd.exec
  have hby := Bd.bytes
  have hml : c.maxLocals = 2 := hml0
  have hown : s.vm.findClass "com/example/coretally/coretally/core/ContainerTermsChargedCoresPinLaw" = some m.cls := findClass_of_methodNamed Bd.named
  have hnm := (name_of_methodNamed Bd.named Bd.method).1
  have X0 : Stand p l e ({ frames := 0, cells := 0, slots := 0, locals := 0 } : Room) s m #[(.long q)] below meth c s₁ [] 0 0 := Stand.of_body Bd
  have e0 : s₁.heap = h0 := by rw [← hh, Bd.state]; rfl
  have N0 := Fr.nil n0
  have pre0 : ∀ tt_, Steps p.tables e below (s₁.setTop (mkF m 0 #[.val (.long q), .second] [])) tt_ → Steps p.tables e below (s₁.setTop (entryFrame m #[(.long q)] 2)) tt_ := fun tt_ kk_ => castTop (ef_2 m q) kk_
  obtain ⟨fs, hr, hrun, hended, hW, hsame⟩ := X0.leave (v := some (.long (0 : Int64))) (fun h => by rw [Bd.returns] at h; cases h)
  refine ⟨_, _, pre0 _ ?_, hrun, hended, _, _, rfl, ?_, ⟨_, rfl⟩, hW, hsame.mono (by decide) (by decide)⟩
  · show Steps p.tables e below (s₁.setTop (mkF m 0 #[.val (.long q), .second] [])) _
    refine XS.lloadN X0.here hx rfl (hb hby d2_0) rfl ?_
    show Steps p.tables e below (s₁.setTop (mkF m 1 #[.val (.long q), .second] [(.long q)])) _
    refine XS.lconst X0.here hx rfl (hb hby d2_1) ?_
    show Steps p.tables e below (s₁.setTop (mkF m 2 #[.val (.long q), .second] [(.long (0 : Int64)), (.long q)])) _
    refine XS.lcmp X0.here hx rfl (hb hby d2_2) rfl ?_
    show Steps p.tables e below (s₁.setTop (mkF m 3 #[.val (.long q), .second] [(.int (lcmpW q (0 : Int64)))])) _
    refine XS.ifNo X0.here hx rfl (hb hby d2_3) rfl ((if0 _ _).trans (teq (show (lcmpW q (0 : Int64)) = (0 : Int32) from ((lw_eq _ _).mpr hc))).2) ?_
    show Steps p.tables e below (s₁.setTop (mkF m 6 #[.val (.long q), .second] [])) _
    refine XS.lconst X0.here hx rfl (hb hby d2_6) ?_
    show Steps p.tables e below (s₁.setTop (mkF m 7 #[.val (.long q), .second] [(.long (0 : Int64))])) _
    exact X0.lreturnOut hx Bd.returns (hb hby d2_7) hr
  · show Qrm2 Z q h0 n0 _ s₁.heap _
    rw [e0]
    exact ⟨by rw [own_ct, if_pos hc], N0, rfl⟩
theorem d2_8 : decode method_2_code 8 = .ok (.lload_n 0, 1) := by decide +kernel
theorem d2_9 : decode method_2_code 9 = .ok (.lconst 1, 1) := by decide +kernel
theorem d2_10 : decode method_2_code 10 = .ok (.lsub, 1) := by decide +kernel
theorem d2_11 : decode method_2_code 11 = .ok (.ldc2_w 7, 3) := by decide +kernel
theorem d2_14 : decode method_2_code 14 = .ok (.ldiv, 1) := by decide +kernel
theorem d2_15 : decode method_2_code 15 = .ok (.lconst 1, 1) := by decide +kernel
theorem d2_16 : decode method_2_code 16 = .ok (.ladd, 1) := by decide +kernel
theorem d2_17 : decode method_2_code 17 = .ok (.lreturn, 1) := by decide +kernel
set_option maxRecDepth 65536 in
set_option maxHeartbeats 40000000 in
theorem rm2t (l : Launch) (Z : State) (a0 : Array Value) (hw : ∀ d ∈ tables_1, d.before a0 Z = true) (ws : List Jvm.Cond) (q : Int64) (h0 : Heap) (n0 : Nat) (Z0 : n0 ≤ h0.size) (hc : ¬ (q = (0 : Int64))) :
    MetFree l (⟨"com/example/coretally/coretally/core/ContainerTermsChargedCoresPinLaw", "ceilThousandths", "(J)J"⟩ : MethodName) (head1 (Jvm.Cond.code (⟨"com/example/coretally/coretally/core/ContainerTermsChargedCoresPinLaw", "ceilThousandths", "(J)J"⟩ : MethodName) method_2_code 2 (some .long) :: ws) ({ frames := 0, cells := 0, slots := 0, locals := 0 } : Room)) (fun aa_ U => aa_ = #[(.long q)] ∧ Z.Warmed39 U.vm ∧ U.heap = h0) (fun _ _ _ _ _ => True) (fun _ U o U' => ∃ v L, o = .returned v ∧ Qrm2 Z q h0 n0 v U'.heap L ∧ FrameEnd U o U' L ({ frames := 0, cells := 0, slots := 0, locals := 0 } : Room).cells ({ frames := 0, cells := 0, slots := 0, locals := 0 } : Room).slots) := by
  refine MetFree.of_bodySF (plainFor_of_name pn_1) hisR ?_
  intro p e s m args below meth c s₁ Bd hml0 hP hK
  obtain ⟨rfl, hZ, hh⟩ := hP
  have hx := Bd.exec
  have hby := Bd.bytes
  have hml : c.maxLocals = 2 := hml0
  have hown : s.vm.findClass "com/example/coretally/coretally/core/ContainerTermsChargedCoresPinLaw" = some m.cls := findClass_of_methodNamed Bd.named
  have hnm := (name_of_methodNamed Bd.named Bd.method).1
  have X0 : Stand p l e ({ frames := 0, cells := 0, slots := 0, locals := 0 } : Room) s m #[(.long q)] below meth c s₁ [] 0 0 := Stand.of_body Bd
  have e0 : s₁.heap = h0 := by rw [← hh, Bd.state]; rfl
  have N0 := Fr.nil n0
  have pre0 : ∀ tt_, Steps p.tables e below (s₁.setTop (mkF m 0 #[.val (.long q), .second] [])) tt_ → Steps p.tables e below (s₁.setTop (entryFrame m #[(.long q)] 2)) tt_ := fun tt_ kk_ => castTop (ef_2 m q) kk_
  obtain ⟨fs, hr, hrun, hended, hW, hsame⟩ := X0.leave (v := some (.long (((q - (1 : Int64)) / (1000 : Int64)) + (1 : Int64)))) (fun h => by rw [Bd.returns] at h; cases h)
  refine ⟨_, _, pre0 _ ?_, hrun, hended, _, _, rfl, ?_, ⟨_, rfl⟩, hW, hsame.mono (by decide) (by decide)⟩
  · show Steps p.tables e below (s₁.setTop (mkF m 0 #[.val (.long q), .second] [])) _
    refine XS.lloadN X0.here hx rfl (hb hby d2_0) rfl ?_
    show Steps p.tables e below (s₁.setTop (mkF m 1 #[.val (.long q), .second] [(.long q)])) _
    refine XS.lconst X0.here hx rfl (hb hby d2_1) ?_
    show Steps p.tables e below (s₁.setTop (mkF m 2 #[.val (.long q), .second] [(.long (0 : Int64)), (.long q)])) _
    refine XS.lcmp X0.here hx rfl (hb hby d2_2) rfl ?_
    show Steps p.tables e below (s₁.setTop (mkF m 3 #[.val (.long q), .second] [(.int (lcmpW q (0 : Int64)))])) _
    refine XS.ifYes X0.here hx rfl (pc0 := 3) (pc' := 8) rfl (hb hby d2_3) rfl ((if0 _ _).trans (feq (show ¬ ((lcmpW q (0 : Int64)) = (0 : Int32)) from (fun u => hc ((lw_eq _ _).mp u)))).2) (by decide) (by decide) ?_
    show Steps p.tables e below (s₁.setTop (mkF m 8 #[.val (.long q), .second] [])) _
    refine XS.lloadN X0.here hx rfl (hb hby d2_8) rfl ?_
    show Steps p.tables e below (s₁.setTop (mkF m 9 #[.val (.long q), .second] [(.long q)])) _
    refine XS.lconst X0.here hx rfl (hb hby d2_9) ?_
    show Steps p.tables e below (s₁.setTop (mkF m 10 #[.val (.long q), .second] [(.long (1 : Int64)), (.long q)])) _
    refine XS.lsub X0.here hx rfl (hb hby d2_10) rfl ?_
    show Steps p.tables e below (s₁.setTop (mkF m 11 #[.val (.long q), .second] [(.long (q - (1 : Int64)))])) _
    refine X0.ldc2Long hx hown (mvT hZ (hw _ (List.mem_of_getElem? (i := 10) rfl))) (g := (mkF m 11 #[.val (.long q), .second] [(.long (q - (1 : Int64)))])) rfl (hb hby d2_11) _ ?_
    show Steps p.tables e below (s₁.setTop (mkF m 14 #[.val (.long q), .second] [(.long (1000 : Int64)), (.long (q - (1 : Int64)))])) _
    refine XS.ldiv X0.here hx rfl (hb hby d2_14) rfl (by decide) ?_
    show Steps p.tables e below (s₁.setTop (mkF m 15 #[.val (.long q), .second] [(.long ((q - (1 : Int64)) / (1000 : Int64)))])) _
    refine XS.lconst X0.here hx rfl (hb hby d2_15) ?_
    show Steps p.tables e below (s₁.setTop (mkF m 16 #[.val (.long q), .second] [(.long (1 : Int64)), (.long ((q - (1 : Int64)) / (1000 : Int64)))])) _
    refine XS.ladd X0.here hx rfl (hb hby d2_16) rfl ?_
    show Steps p.tables e below (s₁.setTop (mkF m 17 #[.val (.long q), .second] [(.long (((q - (1 : Int64)) / (1000 : Int64)) + (1 : Int64)))])) _
    exact X0.lreturnOut hx Bd.returns (hb hby d2_17) hr
  · show Qrm2 Z q h0 n0 _ s₁.heap _
    rw [e0]
    exact ⟨by rw [own_ct, if_neg hc], N0, rfl⟩
theorem rm2 (l : Launch) (Z : State) (a0 : Array Value) (hw : ∀ d ∈ tables_1, d.before a0 Z = true) (ws : List Jvm.Cond) (q : Int64) (h0 : Heap) (n0 : Nat) (Z0 : n0 ≤ h0.size) :
    MetFree l (⟨"com/example/coretally/coretally/core/ContainerTermsChargedCoresPinLaw", "ceilThousandths", "(J)J"⟩ : MethodName) (head1 (Jvm.Cond.code (⟨"com/example/coretally/coretally/core/ContainerTermsChargedCoresPinLaw", "ceilThousandths", "(J)J"⟩ : MethodName) method_2_code 2 (some .long) :: ws) ({ frames := 0, cells := 0, slots := 0, locals := 0 } : Room)) (fun aa_ U => aa_ = #[(.long q)] ∧ Z.Warmed39 U.vm ∧ U.heap = h0) (fun _ _ _ _ _ => True) (fun _ U o U' => ∃ v L, o = .returned v ∧ Qrm2 Z q h0 n0 v U'.heap L ∧ FrameEnd U o U' L ({ frames := 0, cells := 0, slots := 0, locals := 0 } : Room).cells ({ frames := 0, cells := 0, slots := 0, locals := 0 } : Room).slots) := by
  by_cases h : q = (0 : Int64)
  · exact rm2f l Z a0 hw ws q h0 n0 Z0  h
  · exact rm2t l Z a0 hw ws q h0 n0 Z0  h
theorem pd_0 : parseMethodDescriptor "(J)J" = some ⟨[.long], some .long⟩ := by decide +kernel
theorem ef_0 (m : MethodId) (x0 : Int64) (x1 : Int64) : entryFrame m #[(.long x0), (.long x1)] maxLocals = mkF m 0 #[.val (.long x0), .second, .val (.long x1), .second, .unset, .unset, .unset, .unset, .unset, .unset, .unset, .unset, .unset, .unset, .unset, .unset] [] := by first | (simp [entryFrame, mkF, argsToLocals, Value.category, maxLocals]; done) | rfl
def Qrm0 (Z : State) (p1 : Int64) (p2 : Int64) (h0 : Heap) (n0 : Nat) (v : Option Value) (h : Heap) (L : List Loc) : Prop := v = some (.int (1 : Int32)) ∧ Fr n0 L
set_option maxRecDepth 65536 in
set_option maxHeartbeats 40000000 in
theorem rm0 (l : Launch) (Z : State) (a0 : Array Value) (hw : ∀ d ∈ tables_1, d.before a0 Z = true) (ws : List Jvm.Cond) (p1 : Int64) (p2 : Int64) (h0 : Heap) (n0 : Nat) (Z0 : n0 ≤ h0.size) :
    MetFree l x (head1 (Jvm.Cond.code x code maxLocals ret :: ws) room_1) (fun aa_ U => aa_ = #[(.long p1), (.long p2)] ∧ Z.Warmed39 U.vm ∧ U.heap = h0) (fun _ _ _ _ _ => True) (fun _ U o U' => ∃ v L, o = .returned v ∧ Qrm0 Z p1 p2 h0 n0 v U'.heap L ∧ FrameEnd U o U' L room_1.cells room_1.slots) := by
  refine MetFree.of_bodySF (plainFor_of_name pn_1) hisR ?_
  intro p e s m args below meth c s₁ Bd hml0 hP hK
  obtain ⟨rfl, hZ, hh⟩ := hP
  have hx := Bd.exec
  have hby := Bd.bytes
  have hml : c.maxLocals = 16 := hml0
  have hown : s.vm.findClass "com/example/coretally/coretally/core/ContainerTermsChargedCoresPinLaw" = some m.cls := findClass_of_methodNamed Bd.named
  have hnm := (name_of_methodNamed Bd.named Bd.method).1
  have X0 : Stand p l e room_1 s m #[(.long p1), (.long p2)] below meth c s₁ [] 0 0 := Stand.of_body Bd
  have e0 : s₁.heap = h0 := by rw [← hh, Bd.state]; rfl
  have N0 := Fr.nil n0
  have pre0 : ∀ tt_, Steps p.tables e below (s₁.setTop (mkF m 0 #[.val (.long p1), .second, .val (.long p2), .second, .unset, .unset, .unset, .unset, .unset, .unset, .unset, .unset, .unset, .unset, .unset, .unset] [])) tt_ → Steps p.tables e below (s₁.setTop (entryFrame m #[(.long p1), (.long p2)] maxLocals)) tt_ := fun tt_ kk_ => castTop (ef_0 m p1 p2) kk_
  obtain ⟨_, _, ⟨T1, L1, k1, n1⟩, -, X1, ⟨Lc1, hQ1, l1, y1, z1⟩, st1⟩ := Jvm.LawKit.callS X0 hx (y := (⟨"com/example/coretally/coretally/core/ContainerTerms", "chargedCores", "(J)J"⟩ : MethodName)) hown (mvT hZ (hw _ (List.mem_of_getElem? (i := 1) rfl))) (mvT hZ (hw _ (List.mem_of_getElem? (i := 2) rfl))) (mvT hZ (hw _ (List.mem_of_getElem? (i := 3) rfl))) (mvT hZ (hw _ (List.mem_of_getElem? (i := 4) rfl))) (by decide) (backOf (W := 0) (rm1 l Z a0 hw [] (p1 &&& (9223372036854775807 : Int64)) h0 n0 Z0 ) hZ (hw _ (List.mem_of_getElem? (i := 4) rfl)) (hw _ (List.mem_of_getElem? (i := 3) rfl)) (by decide) (by decide)) (g := (mkF m 9 #[.val (.long p1), .second, .val (.long p2), .second, .val (.long (p1 &&& (9223372036854775807 : Int64))), .second, .unset, .unset, .unset, .unset, .unset, .unset, .unset, .unset, .unset, .unset] [(.long (p1 &&& (9223372036854775807 : Int64)))])) rfl (by rw [hml]; rfl) (argsL := [(.long (p1 &&& (9223372036854775807 : Int64)))]) (rest := []) (lenOf pd_0 rfl) rfl (by show 2 * 0 + _ ≤ _; exact Nat.le_of_eq rfl) (hb hby at_9) (fun _ _ => ⟨rfl, e0, (by decide : 0 + 0 ≤ _), (by decide : 0 + 0 ≤ _)⟩)
  dsimp only [Pt.U, Pt.locs, Pt.cells, Pt.slots] at X1 l1 y1 z1 st1 hQ1
  subst l1 y1 z1
  obtain ⟨rfl, N1q, e1q⟩ := hQ1
  have N1 := Fr.app N0 N1q
  obtain ⟨_, _, ⟨T2, L2, k2, n2⟩, -, X2, ⟨Lc2, hQ2, l2, y2, z2⟩, st2⟩ := Jvm.LawKit.callS X1 hx (y := (⟨"com/example/coretally/coretally/core/ContainerTermsChargedCoresPinLaw", "ceilThousandths", "(J)J"⟩ : MethodName)) hown (mvT hZ (hw _ (List.mem_of_getElem? (i := 6) rfl))) (mvT hZ (hw _ (List.mem_of_getElem? (i := 7) rfl))) (mvT hZ (hw _ (List.mem_of_getElem? (i := 8) rfl))) (mvT hZ (hw _ (List.mem_of_getElem? (i := 9) rfl))) (by decide) (backOf (W := 2) (rm2 l Z a0 hw [] (p1 &&& (9223372036854775807 : Int64)) h0 n0 Z0 ) hZ (hw _ (List.mem_of_getElem? (i := 9) rfl)) (hw _ (List.mem_of_getElem? (i := 8) rfl)) (by decide) (by decide)) (g := (mkF m 18 #[.val (.long p1), .second, .val (.long p2), .second, .val (.long (p1 &&& (9223372036854775807 : Int64))), .second, .val (.long (own_cc (p1 &&& (9223372036854775807 : Int64)))), .second, .unset, .unset, .unset, .unset, .unset, .unset, .unset, .unset] [(.long (p1 &&& (9223372036854775807 : Int64))), (.long (own_cc (p1 &&& (9223372036854775807 : Int64))))])) rfl (by rw [hml]; rfl) (argsL := [(.long (p1 &&& (9223372036854775807 : Int64)))]) (rest := [(.long (own_cc (p1 &&& (9223372036854775807 : Int64))))]) (lenOf pd_0 rfl) rfl (by show 2 * 0 + _ ≤ _; exact Nat.le_of_eq rfl) (hb hby at_18) (fun _ _ => ⟨rfl, e1q, (by decide : 0 + 0 ≤ _), (by decide : 0 + 0 ≤ _)⟩)
  dsimp only [Pt.U, Pt.locs, Pt.cells, Pt.slots] at X2 l2 y2 z2 st2 hQ2
  subst l2 y2 z2
  obtain ⟨rfl, N2q, e2q⟩ := hQ2
  have N2 := Fr.app N1 N2q
  obtain ⟨_, _, ⟨T3, L3, k3, n3⟩, -, X3, ⟨Lc3, hQ3, l3, y3, z3⟩, st3⟩ := Jvm.LawKit.callS X2 hx (y := (⟨"com/example/coretally/coretally/core/ContainerTerms", "chargedCores", "(J)J"⟩ : MethodName)) hown (mvT hZ (hw _ (List.mem_of_getElem? (i := 1) rfl))) (mvT hZ (hw _ (List.mem_of_getElem? (i := 2) rfl))) (mvT hZ (hw _ (List.mem_of_getElem? (i := 3) rfl))) (mvT hZ (hw _ (List.mem_of_getElem? (i := 4) rfl))) (by decide) (backOf (W := 0) (rm1 l Z a0 hw [] (((p2 &&& (9223372036854775807 : Int64)) / (1000 : Int64)) * (1000 : Int64)) h0 n0 Z0 ) hZ (hw _ (List.mem_of_getElem? (i := 4) rfl)) (hw _ (List.mem_of_getElem? (i := 3) rfl)) (by decide) (by decide)) (g := (mkF m 53 #[.val (.long p1), .second, .val (.long p2), .second, .val (.long (p1 &&& (9223372036854775807 : Int64))), .second, .val (.long (own_cc (p1 &&& (9223372036854775807 : Int64)))), .second, .val (.int (1 : Int32)), .val (.long ((p2 &&& (9223372036854775807 : Int64)) / (1000 : Int64))), .second, .val (.long (((p2 &&& (9223372036854775807 : Int64)) / (1000 : Int64)) * (1000 : Int64))), .second, .unset, .unset, .unset] [(.long (((p2 &&& (9223372036854775807 : Int64)) / (1000 : Int64)) * (1000 : Int64)))])) rfl (by rw [hml]; rfl) (argsL := [(.long (((p2 &&& (9223372036854775807 : Int64)) / (1000 : Int64)) * (1000 : Int64)))]) (rest := []) (lenOf pd_0 rfl) rfl (by show 2 * 0 + _ ≤ _; exact Nat.le_of_eq rfl) (hb hby at_53) (fun _ _ => ⟨rfl, e2q, (by decide : 0 + 0 ≤ _), (by decide : 0 + 0 ≤ _)⟩)
  dsimp only [Pt.U, Pt.locs, Pt.cells, Pt.slots] at X3 l3 y3 z3 st3 hQ3
  subst l3 y3 z3
  obtain ⟨rfl, N3q, e3q⟩ := hQ3
  have N3 := Fr.app N2 N3q
  obtain ⟨fs, hr, hrun, hended, hW, hsame⟩ := X3.leave (v := some (.int (1 : Int32))) (fun h => by rw [Bd.returns] at h; cases h)
  refine ⟨_, _, pre0 _ ?_, hrun, hended, _, _, rfl, ?_, ⟨_, rfl⟩, hW, hsame.mono (by decide) (by decide)⟩
  · show Steps p.tables e below (s₁.setTop (mkF m 0 #[.val (.long p1), .second, .val (.long p2), .second, .unset, .unset, .unset, .unset, .unset, .unset, .unset, .unset, .unset, .unset, .unset, .unset] [])) _
    refine XS.lloadN X0.here hx rfl (hb hby at_0) rfl ?_
    show Steps p.tables e below (s₁.setTop (mkF m 1 #[.val (.long p1), .second, .val (.long p2), .second, .unset, .unset, .unset, .unset, .unset, .unset, .unset, .unset, .unset, .unset, .unset, .unset] [(.long p1)])) _
    refine X0.ldc2Long hx hown (mvT hZ (hw _ (List.mem_of_getElem? (i := 0) rfl))) (g := (mkF m 1 #[.val (.long p1), .second, .val (.long p2), .second, .unset, .unset, .unset, .unset, .unset, .unset, .unset, .unset, .unset, .unset, .unset, .unset] [(.long p1)])) rfl (hb hby at_1) _ ?_
    show Steps p.tables e below (s₁.setTop (mkF m 4 #[.val (.long p1), .second, .val (.long p2), .second, .unset, .unset, .unset, .unset, .unset, .unset, .unset, .unset, .unset, .unset, .unset, .unset] [(.long (9223372036854775807 : Int64)), (.long p1)])) _
    refine XS.land X0.here hx rfl (hb hby at_4) rfl ?_
    show Steps p.tables e below (s₁.setTop (mkF m 5 #[.val (.long p1), .second, .val (.long p2), .second, .unset, .unset, .unset, .unset, .unset, .unset, .unset, .unset, .unset, .unset, .unset, .unset] [(.long (p1 &&& (9223372036854775807 : Int64)))])) _
    refine XS.lstore X0.here hx rfl (hb hby at_5) rfl (l' := #[.val (.long p1), .second, .val (.long p2), .second, .val (.long (p1 &&& (9223372036854775807 : Int64))), .second, .unset, .unset, .unset, .unset, .unset, .unset, .unset, .unset, .unset, .unset]) rfl ?_
    show Steps p.tables e below (s₁.setTop (mkF m 7 #[.val (.long p1), .second, .val (.long p2), .second, .val (.long (p1 &&& (9223372036854775807 : Int64))), .second, .unset, .unset, .unset, .unset, .unset, .unset, .unset, .unset, .unset, .unset] [])) _
    refine XS.lload X0.here hx rfl (hb hby at_7) rfl ?_
    show Steps p.tables e below (s₁.setTop (mkF m 9 #[.val (.long p1), .second, .val (.long p2), .second, .val (.long (p1 &&& (9223372036854775807 : Int64))), .second, .unset, .unset, .unset, .unset, .unset, .unset, .unset, .unset, .unset, .unset] [(.long (p1 &&& (9223372036854775807 : Int64)))])) _
    refine st1 _ ?_
    show Steps p.tables e below (T1.setTop (mkF m 12 #[.val (.long p1), .second, .val (.long p2), .second, .val (.long (p1 &&& (9223372036854775807 : Int64))), .second, .unset, .unset, .unset, .unset, .unset, .unset, .unset, .unset, .unset, .unset] [(.long (own_cc (p1 &&& (9223372036854775807 : Int64))))])) _
    refine XS.lstore X1.here hx rfl (hb hby at_12) rfl (l' := #[.val (.long p1), .second, .val (.long p2), .second, .val (.long (p1 &&& (9223372036854775807 : Int64))), .second, .val (.long (own_cc (p1 &&& (9223372036854775807 : Int64)))), .second, .unset, .unset, .unset, .unset, .unset, .unset, .unset, .unset]) rfl ?_
    show Steps p.tables e below (T1.setTop (mkF m 14 #[.val (.long p1), .second, .val (.long p2), .second, .val (.long (p1 &&& (9223372036854775807 : Int64))), .second, .val (.long (own_cc (p1 &&& (9223372036854775807 : Int64)))), .second, .unset, .unset, .unset, .unset, .unset, .unset, .unset, .unset] [])) _
    refine XS.lload X1.here hx rfl (hb hby at_14) rfl ?_
    show Steps p.tables e below (T1.setTop (mkF m 16 #[.val (.long p1), .second, .val (.long p2), .second, .val (.long (p1 &&& (9223372036854775807 : Int64))), .second, .val (.long (own_cc (p1 &&& (9223372036854775807 : Int64)))), .second, .unset, .unset, .unset, .unset, .unset, .unset, .unset, .unset] [(.long (own_cc (p1 &&& (9223372036854775807 : Int64))))])) _
    refine XS.lload X1.here hx rfl (hb hby at_16) rfl ?_
    show Steps p.tables e below (T1.setTop (mkF m 18 #[.val (.long p1), .second, .val (.long p2), .second, .val (.long (p1 &&& (9223372036854775807 : Int64))), .second, .val (.long (own_cc (p1 &&& (9223372036854775807 : Int64)))), .second, .unset, .unset, .unset, .unset, .unset, .unset, .unset, .unset] [(.long (p1 &&& (9223372036854775807 : Int64))), (.long (own_cc (p1 &&& (9223372036854775807 : Int64))))])) _
    refine st2 _ ?_
    show Steps p.tables e below (T2.setTop (mkF m 21 #[.val (.long p1), .second, .val (.long p2), .second, .val (.long (p1 &&& (9223372036854775807 : Int64))), .second, .val (.long (own_cc (p1 &&& (9223372036854775807 : Int64)))), .second, .unset, .unset, .unset, .unset, .unset, .unset, .unset, .unset] [(.long (own_ct (p1 &&& (9223372036854775807 : Int64)))), (.long (own_cc (p1 &&& (9223372036854775807 : Int64))))])) _
    refine XS.lcmp X2.here hx rfl (hb hby at_21) rfl ?_
    show Steps p.tables e below (T2.setTop (mkF m 22 #[.val (.long p1), .second, .val (.long p2), .second, .val (.long (p1 &&& (9223372036854775807 : Int64))), .second, .val (.long (own_cc (p1 &&& (9223372036854775807 : Int64)))), .second, .unset, .unset, .unset, .unset, .unset, .unset, .unset, .unset] [(.int (lcmpW (own_cc (p1 &&& (9223372036854775807 : Int64))) (own_ct (p1 &&& (9223372036854775807 : Int64)))))])) _
    refine XS.ifNo X2.here hx rfl (hb hby at_22) rfl ((if0 _ _).trans (teq (show (lcmpW (own_cc (p1 &&& (9223372036854775807 : Int64))) (own_ct (p1 &&& (9223372036854775807 : Int64)))) = (0 : Int32) from ((lw_eq _ _).mpr (own_gen p1)))).2) ?_
    show Steps p.tables e below (T2.setTop (mkF m 25 #[.val (.long p1), .second, .val (.long p2), .second, .val (.long (p1 &&& (9223372036854775807 : Int64))), .second, .val (.long (own_cc (p1 &&& (9223372036854775807 : Int64)))), .second, .unset, .unset, .unset, .unset, .unset, .unset, .unset, .unset] [])) _
    refine XS.iconst X2.here hx rfl (hb hby at_25) ?_
    show Steps p.tables e below (T2.setTop (mkF m 26 #[.val (.long p1), .second, .val (.long p2), .second, .val (.long (p1 &&& (9223372036854775807 : Int64))), .second, .val (.long (own_cc (p1 &&& (9223372036854775807 : Int64)))), .second, .unset, .unset, .unset, .unset, .unset, .unset, .unset, .unset] [(.int (1 : Int32))])) _
    refine XS.goto X2.here hx rfl (pc0 := 26) (pc' := 30) rfl (hb hby at_26) (by decide) (by decide) ?_
    show Steps p.tables e below (T2.setTop (mkF m 30 #[.val (.long p1), .second, .val (.long p2), .second, .val (.long (p1 &&& (9223372036854775807 : Int64))), .second, .val (.long (own_cc (p1 &&& (9223372036854775807 : Int64)))), .second, .unset, .unset, .unset, .unset, .unset, .unset, .unset, .unset] [(.int (1 : Int32))])) _
    refine XS.istore X2.here hx rfl (hb hby at_30) rfl (l' := #[.val (.long p1), .second, .val (.long p2), .second, .val (.long (p1 &&& (9223372036854775807 : Int64))), .second, .val (.long (own_cc (p1 &&& (9223372036854775807 : Int64)))), .second, .val (.int (1 : Int32)), .unset, .unset, .unset, .unset, .unset, .unset, .unset]) rfl ?_
    show Steps p.tables e below (T2.setTop (mkF m 32 #[.val (.long p1), .second, .val (.long p2), .second, .val (.long (p1 &&& (9223372036854775807 : Int64))), .second, .val (.long (own_cc (p1 &&& (9223372036854775807 : Int64)))), .second, .val (.int (1 : Int32)), .unset, .unset, .unset, .unset, .unset, .unset, .unset] [])) _
    refine XS.lloadN X2.here hx rfl (hb hby at_32) rfl ?_
    show Steps p.tables e below (T2.setTop (mkF m 33 #[.val (.long p1), .second, .val (.long p2), .second, .val (.long (p1 &&& (9223372036854775807 : Int64))), .second, .val (.long (own_cc (p1 &&& (9223372036854775807 : Int64)))), .second, .val (.int (1 : Int32)), .unset, .unset, .unset, .unset, .unset, .unset, .unset] [(.long p2)])) _
    refine X2.ldc2Long hx hown (mvT hZ (hw _ (List.mem_of_getElem? (i := 0) rfl))) (g := (mkF m 33 #[.val (.long p1), .second, .val (.long p2), .second, .val (.long (p1 &&& (9223372036854775807 : Int64))), .second, .val (.long (own_cc (p1 &&& (9223372036854775807 : Int64)))), .second, .val (.int (1 : Int32)), .unset, .unset, .unset, .unset, .unset, .unset, .unset] [(.long p2)])) rfl (hb hby at_33) _ ?_
    show Steps p.tables e below (T2.setTop (mkF m 36 #[.val (.long p1), .second, .val (.long p2), .second, .val (.long (p1 &&& (9223372036854775807 : Int64))), .second, .val (.long (own_cc (p1 &&& (9223372036854775807 : Int64)))), .second, .val (.int (1 : Int32)), .unset, .unset, .unset, .unset, .unset, .unset, .unset] [(.long (9223372036854775807 : Int64)), (.long p2)])) _
    refine XS.land X2.here hx rfl (hb hby at_36) rfl ?_
    show Steps p.tables e below (T2.setTop (mkF m 37 #[.val (.long p1), .second, .val (.long p2), .second, .val (.long (p1 &&& (9223372036854775807 : Int64))), .second, .val (.long (own_cc (p1 &&& (9223372036854775807 : Int64)))), .second, .val (.int (1 : Int32)), .unset, .unset, .unset, .unset, .unset, .unset, .unset] [(.long (p2 &&& (9223372036854775807 : Int64)))])) _
    refine X2.ldc2Long hx hown (mvT hZ (hw _ (List.mem_of_getElem? (i := 10) rfl))) (g := (mkF m 37 #[.val (.long p1), .second, .val (.long p2), .second, .val (.long (p1 &&& (9223372036854775807 : Int64))), .second, .val (.long (own_cc (p1 &&& (9223372036854775807 : Int64)))), .second, .val (.int (1 : Int32)), .unset, .unset, .unset, .unset, .unset, .unset, .unset] [(.long (p2 &&& (9223372036854775807 : Int64)))])) rfl (hb hby at_37) _ ?_
    show Steps p.tables e below (T2.setTop (mkF m 40 #[.val (.long p1), .second, .val (.long p2), .second, .val (.long (p1 &&& (9223372036854775807 : Int64))), .second, .val (.long (own_cc (p1 &&& (9223372036854775807 : Int64)))), .second, .val (.int (1 : Int32)), .unset, .unset, .unset, .unset, .unset, .unset, .unset] [(.long (1000 : Int64)), (.long (p2 &&& (9223372036854775807 : Int64)))])) _
    refine XS.ldiv X2.here hx rfl (hb hby at_40) rfl (by decide) ?_
    show Steps p.tables e below (T2.setTop (mkF m 41 #[.val (.long p1), .second, .val (.long p2), .second, .val (.long (p1 &&& (9223372036854775807 : Int64))), .second, .val (.long (own_cc (p1 &&& (9223372036854775807 : Int64)))), .second, .val (.int (1 : Int32)), .unset, .unset, .unset, .unset, .unset, .unset, .unset] [(.long ((p2 &&& (9223372036854775807 : Int64)) / (1000 : Int64)))])) _
    refine XS.lstore X2.here hx rfl (hb hby at_41) rfl (l' := #[.val (.long p1), .second, .val (.long p2), .second, .val (.long (p1 &&& (9223372036854775807 : Int64))), .second, .val (.long (own_cc (p1 &&& (9223372036854775807 : Int64)))), .second, .val (.int (1 : Int32)), .val (.long ((p2 &&& (9223372036854775807 : Int64)) / (1000 : Int64))), .second, .unset, .unset, .unset, .unset, .unset]) rfl ?_
    show Steps p.tables e below (T2.setTop (mkF m 43 #[.val (.long p1), .second, .val (.long p2), .second, .val (.long (p1 &&& (9223372036854775807 : Int64))), .second, .val (.long (own_cc (p1 &&& (9223372036854775807 : Int64)))), .second, .val (.int (1 : Int32)), .val (.long ((p2 &&& (9223372036854775807 : Int64)) / (1000 : Int64))), .second, .unset, .unset, .unset, .unset, .unset] [])) _
    refine XS.lload X2.here hx rfl (hb hby at_43) rfl ?_
    show Steps p.tables e below (T2.setTop (mkF m 45 #[.val (.long p1), .second, .val (.long p2), .second, .val (.long (p1 &&& (9223372036854775807 : Int64))), .second, .val (.long (own_cc (p1 &&& (9223372036854775807 : Int64)))), .second, .val (.int (1 : Int32)), .val (.long ((p2 &&& (9223372036854775807 : Int64)) / (1000 : Int64))), .second, .unset, .unset, .unset, .unset, .unset] [(.long ((p2 &&& (9223372036854775807 : Int64)) / (1000 : Int64)))])) _
    refine X2.ldc2Long hx hown (mvT hZ (hw _ (List.mem_of_getElem? (i := 10) rfl))) (g := (mkF m 45 #[.val (.long p1), .second, .val (.long p2), .second, .val (.long (p1 &&& (9223372036854775807 : Int64))), .second, .val (.long (own_cc (p1 &&& (9223372036854775807 : Int64)))), .second, .val (.int (1 : Int32)), .val (.long ((p2 &&& (9223372036854775807 : Int64)) / (1000 : Int64))), .second, .unset, .unset, .unset, .unset, .unset] [(.long ((p2 &&& (9223372036854775807 : Int64)) / (1000 : Int64)))])) rfl (hb hby at_45) _ ?_
    show Steps p.tables e below (T2.setTop (mkF m 48 #[.val (.long p1), .second, .val (.long p2), .second, .val (.long (p1 &&& (9223372036854775807 : Int64))), .second, .val (.long (own_cc (p1 &&& (9223372036854775807 : Int64)))), .second, .val (.int (1 : Int32)), .val (.long ((p2 &&& (9223372036854775807 : Int64)) / (1000 : Int64))), .second, .unset, .unset, .unset, .unset, .unset] [(.long (1000 : Int64)), (.long ((p2 &&& (9223372036854775807 : Int64)) / (1000 : Int64)))])) _
    refine XS.lmul X2.here hx rfl (hb hby at_48) rfl ?_
    show Steps p.tables e below (T2.setTop (mkF m 49 #[.val (.long p1), .second, .val (.long p2), .second, .val (.long (p1 &&& (9223372036854775807 : Int64))), .second, .val (.long (own_cc (p1 &&& (9223372036854775807 : Int64)))), .second, .val (.int (1 : Int32)), .val (.long ((p2 &&& (9223372036854775807 : Int64)) / (1000 : Int64))), .second, .unset, .unset, .unset, .unset, .unset] [(.long (((p2 &&& (9223372036854775807 : Int64)) / (1000 : Int64)) * (1000 : Int64)))])) _
    refine XS.lstore X2.here hx rfl (hb hby at_49) rfl (l' := #[.val (.long p1), .second, .val (.long p2), .second, .val (.long (p1 &&& (9223372036854775807 : Int64))), .second, .val (.long (own_cc (p1 &&& (9223372036854775807 : Int64)))), .second, .val (.int (1 : Int32)), .val (.long ((p2 &&& (9223372036854775807 : Int64)) / (1000 : Int64))), .second, .val (.long (((p2 &&& (9223372036854775807 : Int64)) / (1000 : Int64)) * (1000 : Int64))), .second, .unset, .unset, .unset]) rfl ?_
    show Steps p.tables e below (T2.setTop (mkF m 51 #[.val (.long p1), .second, .val (.long p2), .second, .val (.long (p1 &&& (9223372036854775807 : Int64))), .second, .val (.long (own_cc (p1 &&& (9223372036854775807 : Int64)))), .second, .val (.int (1 : Int32)), .val (.long ((p2 &&& (9223372036854775807 : Int64)) / (1000 : Int64))), .second, .val (.long (((p2 &&& (9223372036854775807 : Int64)) / (1000 : Int64)) * (1000 : Int64))), .second, .unset, .unset, .unset] [])) _
    refine XS.lload X2.here hx rfl (hb hby at_51) rfl ?_
    show Steps p.tables e below (T2.setTop (mkF m 53 #[.val (.long p1), .second, .val (.long p2), .second, .val (.long (p1 &&& (9223372036854775807 : Int64))), .second, .val (.long (own_cc (p1 &&& (9223372036854775807 : Int64)))), .second, .val (.int (1 : Int32)), .val (.long ((p2 &&& (9223372036854775807 : Int64)) / (1000 : Int64))), .second, .val (.long (((p2 &&& (9223372036854775807 : Int64)) / (1000 : Int64)) * (1000 : Int64))), .second, .unset, .unset, .unset] [(.long (((p2 &&& (9223372036854775807 : Int64)) / (1000 : Int64)) * (1000 : Int64)))])) _
    refine st3 _ ?_
    show Steps p.tables e below (T3.setTop (mkF m 56 #[.val (.long p1), .second, .val (.long p2), .second, .val (.long (p1 &&& (9223372036854775807 : Int64))), .second, .val (.long (own_cc (p1 &&& (9223372036854775807 : Int64)))), .second, .val (.int (1 : Int32)), .val (.long ((p2 &&& (9223372036854775807 : Int64)) / (1000 : Int64))), .second, .val (.long (((p2 &&& (9223372036854775807 : Int64)) / (1000 : Int64)) * (1000 : Int64))), .second, .unset, .unset, .unset] [(.long (own_cc (((p2 &&& (9223372036854775807 : Int64)) / (1000 : Int64)) * (1000 : Int64))))])) _
    refine XS.lstore X3.here hx rfl (hb hby at_56) rfl (l' := #[.val (.long p1), .second, .val (.long p2), .second, .val (.long (p1 &&& (9223372036854775807 : Int64))), .second, .val (.long (own_cc (p1 &&& (9223372036854775807 : Int64)))), .second, .val (.int (1 : Int32)), .val (.long ((p2 &&& (9223372036854775807 : Int64)) / (1000 : Int64))), .second, .val (.long (((p2 &&& (9223372036854775807 : Int64)) / (1000 : Int64)) * (1000 : Int64))), .second, .val (.long (own_cc (((p2 &&& (9223372036854775807 : Int64)) / (1000 : Int64)) * (1000 : Int64)))), .second, .unset]) rfl ?_
    show Steps p.tables e below (T3.setTop (mkF m 58 #[.val (.long p1), .second, .val (.long p2), .second, .val (.long (p1 &&& (9223372036854775807 : Int64))), .second, .val (.long (own_cc (p1 &&& (9223372036854775807 : Int64)))), .second, .val (.int (1 : Int32)), .val (.long ((p2 &&& (9223372036854775807 : Int64)) / (1000 : Int64))), .second, .val (.long (((p2 &&& (9223372036854775807 : Int64)) / (1000 : Int64)) * (1000 : Int64))), .second, .val (.long (own_cc (((p2 &&& (9223372036854775807 : Int64)) / (1000 : Int64)) * (1000 : Int64)))), .second, .unset] [])) _
    refine XS.lload X3.here hx rfl (hb hby at_58) rfl ?_
    show Steps p.tables e below (T3.setTop (mkF m 60 #[.val (.long p1), .second, .val (.long p2), .second, .val (.long (p1 &&& (9223372036854775807 : Int64))), .second, .val (.long (own_cc (p1 &&& (9223372036854775807 : Int64)))), .second, .val (.int (1 : Int32)), .val (.long ((p2 &&& (9223372036854775807 : Int64)) / (1000 : Int64))), .second, .val (.long (((p2 &&& (9223372036854775807 : Int64)) / (1000 : Int64)) * (1000 : Int64))), .second, .val (.long (own_cc (((p2 &&& (9223372036854775807 : Int64)) / (1000 : Int64)) * (1000 : Int64)))), .second, .unset] [(.long (own_cc (((p2 &&& (9223372036854775807 : Int64)) / (1000 : Int64)) * (1000 : Int64))))])) _
    refine XS.lload X3.here hx rfl (hb hby at_60) rfl ?_
    show Steps p.tables e below (T3.setTop (mkF m 62 #[.val (.long p1), .second, .val (.long p2), .second, .val (.long (p1 &&& (9223372036854775807 : Int64))), .second, .val (.long (own_cc (p1 &&& (9223372036854775807 : Int64)))), .second, .val (.int (1 : Int32)), .val (.long ((p2 &&& (9223372036854775807 : Int64)) / (1000 : Int64))), .second, .val (.long (((p2 &&& (9223372036854775807 : Int64)) / (1000 : Int64)) * (1000 : Int64))), .second, .val (.long (own_cc (((p2 &&& (9223372036854775807 : Int64)) / (1000 : Int64)) * (1000 : Int64)))), .second, .unset] [(.long ((p2 &&& (9223372036854775807 : Int64)) / (1000 : Int64))), (.long (own_cc (((p2 &&& (9223372036854775807 : Int64)) / (1000 : Int64)) * (1000 : Int64))))])) _
    refine XS.lcmp X3.here hx rfl (hb hby at_62) rfl ?_
    show Steps p.tables e below (T3.setTop (mkF m 63 #[.val (.long p1), .second, .val (.long p2), .second, .val (.long (p1 &&& (9223372036854775807 : Int64))), .second, .val (.long (own_cc (p1 &&& (9223372036854775807 : Int64)))), .second, .val (.int (1 : Int32)), .val (.long ((p2 &&& (9223372036854775807 : Int64)) / (1000 : Int64))), .second, .val (.long (((p2 &&& (9223372036854775807 : Int64)) / (1000 : Int64)) * (1000 : Int64))), .second, .val (.long (own_cc (((p2 &&& (9223372036854775807 : Int64)) / (1000 : Int64)) * (1000 : Int64)))), .second, .unset] [(.int (lcmpW (own_cc (((p2 &&& (9223372036854775807 : Int64)) / (1000 : Int64)) * (1000 : Int64))) ((p2 &&& (9223372036854775807 : Int64)) / (1000 : Int64))))])) _
    refine XS.ifNo X3.here hx rfl (hb hby at_63) rfl ((if0 _ _).trans (teq (show (lcmpW (own_cc (((p2 &&& (9223372036854775807 : Int64)) / (1000 : Int64)) * (1000 : Int64))) ((p2 &&& (9223372036854775807 : Int64)) / (1000 : Int64))) = (0 : Int32) from ((lw_eq _ _).mpr (own_mul p2)))).2) ?_
    show Steps p.tables e below (T3.setTop (mkF m 66 #[.val (.long p1), .second, .val (.long p2), .second, .val (.long (p1 &&& (9223372036854775807 : Int64))), .second, .val (.long (own_cc (p1 &&& (9223372036854775807 : Int64)))), .second, .val (.int (1 : Int32)), .val (.long ((p2 &&& (9223372036854775807 : Int64)) / (1000 : Int64))), .second, .val (.long (((p2 &&& (9223372036854775807 : Int64)) / (1000 : Int64)) * (1000 : Int64))), .second, .val (.long (own_cc (((p2 &&& (9223372036854775807 : Int64)) / (1000 : Int64)) * (1000 : Int64)))), .second, .unset] [])) _
    refine XS.iconst X3.here hx rfl (hb hby at_66) ?_
    show Steps p.tables e below (T3.setTop (mkF m 67 #[.val (.long p1), .second, .val (.long p2), .second, .val (.long (p1 &&& (9223372036854775807 : Int64))), .second, .val (.long (own_cc (p1 &&& (9223372036854775807 : Int64)))), .second, .val (.int (1 : Int32)), .val (.long ((p2 &&& (9223372036854775807 : Int64)) / (1000 : Int64))), .second, .val (.long (((p2 &&& (9223372036854775807 : Int64)) / (1000 : Int64)) * (1000 : Int64))), .second, .val (.long (own_cc (((p2 &&& (9223372036854775807 : Int64)) / (1000 : Int64)) * (1000 : Int64)))), .second, .unset] [(.int (1 : Int32))])) _
    refine XS.goto X3.here hx rfl (pc0 := 67) (pc' := 71) rfl (hb hby at_67) (by decide) (by decide) ?_
    show Steps p.tables e below (T3.setTop (mkF m 71 #[.val (.long p1), .second, .val (.long p2), .second, .val (.long (p1 &&& (9223372036854775807 : Int64))), .second, .val (.long (own_cc (p1 &&& (9223372036854775807 : Int64)))), .second, .val (.int (1 : Int32)), .val (.long ((p2 &&& (9223372036854775807 : Int64)) / (1000 : Int64))), .second, .val (.long (((p2 &&& (9223372036854775807 : Int64)) / (1000 : Int64)) * (1000 : Int64))), .second, .val (.long (own_cc (((p2 &&& (9223372036854775807 : Int64)) / (1000 : Int64)) * (1000 : Int64)))), .second, .unset] [(.int (1 : Int32))])) _
    refine XS.istore X3.here hx rfl (hb hby at_71) rfl (l' := #[.val (.long p1), .second, .val (.long p2), .second, .val (.long (p1 &&& (9223372036854775807 : Int64))), .second, .val (.long (own_cc (p1 &&& (9223372036854775807 : Int64)))), .second, .val (.int (1 : Int32)), .val (.long ((p2 &&& (9223372036854775807 : Int64)) / (1000 : Int64))), .second, .val (.long (((p2 &&& (9223372036854775807 : Int64)) / (1000 : Int64)) * (1000 : Int64))), .second, .val (.long (own_cc (((p2 &&& (9223372036854775807 : Int64)) / (1000 : Int64)) * (1000 : Int64)))), .second, .val (.int (1 : Int32))]) rfl ?_
    show Steps p.tables e below (T3.setTop (mkF m 73 #[.val (.long p1), .second, .val (.long p2), .second, .val (.long (p1 &&& (9223372036854775807 : Int64))), .second, .val (.long (own_cc (p1 &&& (9223372036854775807 : Int64)))), .second, .val (.int (1 : Int32)), .val (.long ((p2 &&& (9223372036854775807 : Int64)) / (1000 : Int64))), .second, .val (.long (((p2 &&& (9223372036854775807 : Int64)) / (1000 : Int64)) * (1000 : Int64))), .second, .val (.long (own_cc (((p2 &&& (9223372036854775807 : Int64)) / (1000 : Int64)) * (1000 : Int64)))), .second, .val (.int (1 : Int32))] [])) _
    refine XS.iload X3.here hx rfl (hb hby at_73) rfl ?_
    show Steps p.tables e below (T3.setTop (mkF m 75 #[.val (.long p1), .second, .val (.long p2), .second, .val (.long (p1 &&& (9223372036854775807 : Int64))), .second, .val (.long (own_cc (p1 &&& (9223372036854775807 : Int64)))), .second, .val (.int (1 : Int32)), .val (.long ((p2 &&& (9223372036854775807 : Int64)) / (1000 : Int64))), .second, .val (.long (((p2 &&& (9223372036854775807 : Int64)) / (1000 : Int64)) * (1000 : Int64))), .second, .val (.long (own_cc (((p2 &&& (9223372036854775807 : Int64)) / (1000 : Int64)) * (1000 : Int64)))), .second, .val (.int (1 : Int32))] [(.int (1 : Int32))])) _
    refine XS.ifNo X3.here hx rfl (hb hby at_75) rfl ((if0 _ _).trans (feq (show ¬ ((1 : Int32) = (0 : Int32)) from (by decide))).1) ?_
    show Steps p.tables e below (T3.setTop (mkF m 78 #[.val (.long p1), .second, .val (.long p2), .second, .val (.long (p1 &&& (9223372036854775807 : Int64))), .second, .val (.long (own_cc (p1 &&& (9223372036854775807 : Int64)))), .second, .val (.int (1 : Int32)), .val (.long ((p2 &&& (9223372036854775807 : Int64)) / (1000 : Int64))), .second, .val (.long (((p2 &&& (9223372036854775807 : Int64)) / (1000 : Int64)) * (1000 : Int64))), .second, .val (.long (own_cc (((p2 &&& (9223372036854775807 : Int64)) / (1000 : Int64)) * (1000 : Int64)))), .second, .val (.int (1 : Int32))] [])) _
    refine XS.iload X3.here hx rfl (hb hby at_78) rfl ?_
    show Steps p.tables e below (T3.setTop (mkF m 80 #[.val (.long p1), .second, .val (.long p2), .second, .val (.long (p1 &&& (9223372036854775807 : Int64))), .second, .val (.long (own_cc (p1 &&& (9223372036854775807 : Int64)))), .second, .val (.int (1 : Int32)), .val (.long ((p2 &&& (9223372036854775807 : Int64)) / (1000 : Int64))), .second, .val (.long (((p2 &&& (9223372036854775807 : Int64)) / (1000 : Int64)) * (1000 : Int64))), .second, .val (.long (own_cc (((p2 &&& (9223372036854775807 : Int64)) / (1000 : Int64)) * (1000 : Int64)))), .second, .val (.int (1 : Int32))] [(.int (1 : Int32))])) _
    refine XS.ifNo X3.here hx rfl (hb hby at_80) rfl ((if0 _ _).trans (feq (show ¬ ((1 : Int32) = (0 : Int32)) from (by decide))).1) ?_
    show Steps p.tables e below (T3.setTop (mkF m 83 #[.val (.long p1), .second, .val (.long p2), .second, .val (.long (p1 &&& (9223372036854775807 : Int64))), .second, .val (.long (own_cc (p1 &&& (9223372036854775807 : Int64)))), .second, .val (.int (1 : Int32)), .val (.long ((p2 &&& (9223372036854775807 : Int64)) / (1000 : Int64))), .second, .val (.long (((p2 &&& (9223372036854775807 : Int64)) / (1000 : Int64)) * (1000 : Int64))), .second, .val (.long (own_cc (((p2 &&& (9223372036854775807 : Int64)) / (1000 : Int64)) * (1000 : Int64)))), .second, .val (.int (1 : Int32))] [])) _
    refine XS.iconst X3.here hx rfl (hb hby at_83) ?_
    show Steps p.tables e below (T3.setTop (mkF m 84 #[.val (.long p1), .second, .val (.long p2), .second, .val (.long (p1 &&& (9223372036854775807 : Int64))), .second, .val (.long (own_cc (p1 &&& (9223372036854775807 : Int64)))), .second, .val (.int (1 : Int32)), .val (.long ((p2 &&& (9223372036854775807 : Int64)) / (1000 : Int64))), .second, .val (.long (((p2 &&& (9223372036854775807 : Int64)) / (1000 : Int64)) * (1000 : Int64))), .second, .val (.long (own_cc (((p2 &&& (9223372036854775807 : Int64)) / (1000 : Int64)) * (1000 : Int64)))), .second, .val (.int (1 : Int32))] [(.int (1 : Int32))])) _
    refine XS.goto X3.here hx rfl (pc0 := 84) (pc' := 88) rfl (hb hby at_84) (by decide) (by decide) ?_
    show Steps p.tables e below (T3.setTop (mkF m 88 #[.val (.long p1), .second, .val (.long p2), .second, .val (.long (p1 &&& (9223372036854775807 : Int64))), .second, .val (.long (own_cc (p1 &&& (9223372036854775807 : Int64)))), .second, .val (.int (1 : Int32)), .val (.long ((p2 &&& (9223372036854775807 : Int64)) / (1000 : Int64))), .second, .val (.long (((p2 &&& (9223372036854775807 : Int64)) / (1000 : Int64)) * (1000 : Int64))), .second, .val (.long (own_cc (((p2 &&& (9223372036854775807 : Int64)) / (1000 : Int64)) * (1000 : Int64)))), .second, .val (.int (1 : Int32))] [(.int (1 : Int32))])) _
    exact retN X3 hx (t := .boolean) Bd.returns (by simp) (hb hby at_88) hr
  · show Qrm0 Z p1 p2 h0 n0 _ T3.heap _
    rw [e3q]
    exact ⟨rfl, N3⟩
set_option maxRecDepth 65536 in
set_option maxHeartbeats 40000000 in
theorem comes_1 {Post : Tables → Env → Array Value → State → Outcome → State → Prop} (hpost : ∀ tb e args s v u, (limb_1_1.after args s (.returned v) u = true ∧ limb_1_2.after args s (.returned v) u = true ∧ True) → FrameEnd s (.returned v) u (Jvm.fieldLocs frame_1_writes args s ++ Jvm.arrayLocs frame_1_arrays args s ++ Jvm.staticLocs frame_1_statics s) 0 0 → Post tb e args s (.returned v) u) :
    ArmFor flags0 classFile x code maxLocals ret World_1 tables_1 room_1 Calls_1 rest_1 Pre_1 Post := by
  intro l hfl _ _ p e ha hc hk s m args below hf hA hF happ hP
  obtain ⟨hcalls, hrest, hpre⟩ := hP
  obtain ⟨-, -, -, hnamed, -, -, -, hat⟩ := (Spec.applies_iff hf).mp happ
  obtain ⟨hg, hn⟩ := and_e (Cond.before_iff.mp (show (Jvm.Cond.and given_1 narrow_1).before args s = true from hpre))
  obtain ⟨gv1, gv2⟩ := and_e hg
  obtain ⟨gv3, gv4⟩ := and_e gv2
  obtain ⟨w0, w1, rfl⟩ : ∃ w0 w1 : Value, args = #[w0, w1] := by
    have hs : args.size = 2 := by simpa [Cond.value, given_1] using gv1
    obtain ⟨L⟩ := args
    match L, hs with
    | [w0, w1], _ => exact ⟨w0, w1, rfl⟩
  have hw := fun d (hd : d ∈ tables_1) => atoms_spec (ws := Jvm.Cond.code x code maxLocals ret :: tables_1) hat d (List.mem_cons_of_mem _ hd)
  have hfit : Fit s := fun {y c} hc i hi => by
    obtain ⟨ha, rfl⟩ := Array.getElem?_eq_some_iff.mp hc
    have q := List.all_eq_true.mp ((Array.all_eq_true_iff_forall_mem.mp hF) _ (Array.getElem_mem ha)) i (List.mem_range.mpr hi)
    simpa [Array.getElem?_eq_getElem hi] using q
  obtain ⟨i0, ei0⟩ := isL_v gv3
  obtain rfl : w0 = (.long i0) := Option.some.inj ei0
  obtain ⟨i1, ei1⟩ := isL_v gv4
  obtain rfl : w1 = (.long i1) := Option.some.inj ei1
  obtain ⟨n, o, h1, h2, h3, _, L, rfl, ⟨rfl, N⟩, hq⟩ := rm0 l s _ hw tables_1 i0 i1  s.heap s.heap.size (Nat.le_refl _)  p e ha hc hk s m _ below hf ((Spec.applies_iff_loose hf).mp happ).1 ⟨rfl, State.Warmed39.refl s, rfl⟩ trivial
  refine ⟨n, _, h1, h2, h3, hpost _ _ _ _ _ _ ⟨Cond.after_iff.mpr rfl, Cond.after_iff.mpr (eq_i res_at (Term.int_eval (1)) rfl), trivial⟩ ⟨hq.1, hq.2.1, (hq.2.2.sift fun y hy => Or.inr (N y hy)).mono (by decide) (by decide)⟩⟩
theorem main_1_1 : Claimed_1_1 := comes_1 fun _ _ _ _ _ _ h hF => ⟨h.1, hF⟩
theorem main_1_2 : Claimed_1_2 := comes_1 fun _ _ _ _ _ _ h hF => ⟨h.2.1, hF⟩
end Jvm.Pilot.@@N@@
namespace Jvm.Pilot.@@N@@
open Jvm Jvm.ClassFile Sem Op Lib Jvm.Free Jvm.Stand Jvm.Pilot.@@N@@.Jvm.D
/-! MADE BY PROGRAM (witnessworld.py) out of the Statement's table words and the real class files: 9 classes; the members and pool entries that the words name. The judged class is class 1, her method 2. -/
namespace start1
open Jvm.ClassFile
def u (s : String) : CpInfo := .utf8 (stringToUtf16 s)
/-- a pool by its gaps: so many unusable entries, then the entry; so many at the end -/
def gap : Nat → List CpInfo → List CpInfo
  | 0, r => r
  | n + 1, r => .unusable :: gap n r
def poolList (es : List (Nat × CpInfo)) (last : Nat) : List CpInfo := es.foldr (fun e r => gap e.1 (e.2 :: r)) (gap last [])
def pool (es : List (Nat × CpInfo)) (last : Nat) : Array CpInfo := ⟨poolList es last⟩
def fileOf (pool : Array CpInfo) (this : Nat) (attrs : Array Attribute := #[]) (ms : Array MethodInfo := #[]) (fl : Nat := 33) (sup : Nat := 0) (ifs : Array Nat := #[]) (fds : Array FieldInfo := #[]) : ClassFile where
  minorVersion := 0
  majorVersion := 65
  constantPool := pool
  accessFlags := fl
  thisClass := this
  superClass := sup
  interfaces := ifs
  fields := fds
  methods := ms
  attributes := attrs
def plain (name : String) (sup : Option ClassId) : Class where
  name := name
  kind := .ordinary
  loader := none
  accessFlags := 33
  super := sup
  interfaces := #[]
  cf := none
  fields := #[]
  methods := #[]
  instanceTypes := #[]
  staticTypes := #[]
  resolved := #[]
  callSites := []
  init := .initialized
  statics := none
  mirror := none

def pool0 : Array CpInfo := pool [(5, u "<init>"), (0, u "()V"), (1, .class_ 10), (1, u "java/lang/Object")] 113

def k0m0 : Method := { name := "<init>", desc := "()V", sig := { parameters := [], returnType := none }, accessFlags := 1, code := none }
/-- java/lang/Object -/
def k0 : Class := { plain "java/lang/Object" none with
  accessFlags := 33
  interfaces := #[]
  cf := some (fileOf pool0 8 #[] #[{ accessFlags := 1, nameIndex := 5, descriptorIndex := 6, attributes := #[] }] 33 0 #[] #[])
  fields := #[]
  methods := #[k0m0]
  instanceTypes := #[]
  staticTypes := #[]
  resolved := Array.replicate 124 none
  statics := none }

def pool1 : Array CpInfo := pool [(2, .class_ 4), (1, u "java/lang/Object"), (0, u "<init>"), (0, u "()V"), (0, .long 1000), (3, .long 9223372036854775807), (1, .methodref 14 15), (0, .class_ 16), (0, .nameAndType 17 18), (0, u "com/example/coretally/coretally/core/ContainerTerms"), (0, u "chargedCores"), (0, u "(J)J"), (0, .methodref 20 21), (0, .class_ 22), (0, .nameAndType 23 18), (0, u "com/example/coretally/coretally/core/ContainerTermsChargedCoresPinLaw"), (0, u "ceilThousandths"), (3, u "law"), (0, u "(JJ)Z")] 2

def k1m0 : Method := { name := "<init>", desc := "()V", sig := { parameters := [], returnType := none }, accessFlags := 2, code := none }
def k1c1 : Code := { maxStack := 4, maxLocals := 2, code := method_2_code, exceptionTable := #[], attributes := #[] }
def k1m1 : Method := { name := "ceilThousandths", desc := "(J)J", sig := { parameters := [.long], returnType := some .long }, accessFlags := 10, code := some k1c1 }
def k1c2 : Code := { maxStack := 4, maxLocals := 16, code := code, exceptionTable := #[], attributes := #[] }
def k1m2 : Method := { name := "law", desc := "(JJ)Z", sig := { parameters := [.long, .long], returnType := some .boolean }, accessFlags := 9, code := some k1c2 }
/-- com/example/coretally/coretally/core/ContainerTermsChargedCoresPinLaw -/
def k1 : Class := { plain "com/example/coretally/coretally/core/ContainerTermsChargedCoresPinLaw" (some 0) with
  accessFlags := 49
  interfaces := #[]
  cf := some (fileOf pool1 20 #[] #[{ accessFlags := 2, nameIndex := 5, descriptorIndex := 6, attributes := #[] }, { accessFlags := 10, nameIndex := 23, descriptorIndex := 18, attributes := #[] }, { accessFlags := 9, nameIndex := 27, descriptorIndex := 28, attributes := #[] }] 49 2 #[] #[])
  fields := #[]
  methods := #[k1m0, k1m1, k1m2]
  instanceTypes := #[]
  staticTypes := #[]
  resolved := Array.replicate 31 none
  statics := none }

def pool2 : Array CpInfo := pool [(2, .class_ 4), (1, u "java/lang/Object"), (0, u "<init>"), (0, u "()V"), (5, .class_ 14), (1, u "com/example/coretally/coretally/core/ContainerTerms"), (144, u "(J)J"), (31, u "BY_BUNDLE_AND_PROGRAM_ID"), (0, u "Ljava/util/Comparator;"), (13, u "BY_PRODUCT_ID"), (5, .long 1000), (77, u "chargedCores")] 82

def k2m0 : Method := { name := "<init>", desc := "()V", sig := { parameters := [], returnType := none }, accessFlags := 2, code := none }
def k2c1 : Code := { maxStack := 6, maxLocals := 2, code := prog_26_method_4_code, exceptionTable := #[], attributes := #[] }
def k2m1 : Method := { name := "chargedCores", desc := "(J)J", sig := { parameters := [.long], returnType := some .long }, accessFlags := 9, code := some k2c1 }
/-- com/example/coretally/coretally/core/ContainerTerms -/
def k2 : Class := { plain "com/example/coretally/coretally/core/ContainerTerms" (some 0) with
  accessFlags := 33
  interfaces := #[]
  cf := some (fileOf pool2 12 #[] #[{ accessFlags := 2, nameIndex := 5, descriptorIndex := 6, attributes := #[] }, { accessFlags := 9, nameIndex := 290, descriptorIndex := 159, attributes := #[] }] 33 2 #[] #[{ accessFlags := 26, nameIndex := 206, descriptorIndex := 192, attributes := #[] }, { accessFlags := 26, nameIndex := 191, descriptorIndex := 192, attributes := #[] }])
  fields := #[{ name := "BY_PRODUCT_ID", type := (.object "java/util/Comparator"), accessFlags := 26, slot := 0, constantValue := 0 }, { name := "BY_BUNDLE_AND_PROGRAM_ID", type := (.object "java/util/Comparator"), accessFlags := 26, slot := 1, constantValue := 0 }]
  methods := #[k2m0, k2m1]
  instanceTypes := #[]
  staticTypes := #[(.object "java/util/Comparator"), (.object "java/util/Comparator")]
  resolved := Array.replicate 373 none
  statics := none }

def pool3 : Array CpInfo := pool [(1, u "java/lang/Cloneable"), (0, .class_ 1), (0, u "java/lang/Object"), (0, .class_ 3)] 3

/-- java/lang/Cloneable -/
def k3 : Class := { plain "java/lang/Cloneable" (some 0) with
  accessFlags := 1537
  interfaces := #[]
  cf := some (fileOf pool3 2 #[] #[] 1537 4 #[] #[])
  fields := #[]
  methods := #[]
  instanceTypes := #[]
  staticTypes := #[]
  resolved := Array.replicate 8 none
  statics := none }

def pool4 : Array CpInfo := pool [(1, u "java/io/Serializable"), (0, .class_ 1), (0, u "java/lang/Object"), (0, .class_ 3)] 3

/-- java/io/Serializable -/
def k4 : Class := { plain "java/io/Serializable" (some 0) with
  accessFlags := 1537
  interfaces := #[]
  cf := some (fileOf pool4 2 #[] #[] 1537 4 #[] #[])
  fields := #[]
  methods := #[]
  instanceTypes := #[]
  staticTypes := #[]
  resolved := Array.replicate 8 none
  statics := none }

/-- the primitive byte -/
def k5 : Class := { plain "byte" none with kind := .primitive 'B', accessFlags := 0x411 }
/-- [B -/
def k6 : Class := { plain "[B" (some 0) with kind := .array 5 .byte, interfaces := #[3, 4], accessFlags := 1041 }

/-- the primitive int -/
def k7 : Class := { plain "int" none with kind := .primitive 'I', accessFlags := 0x411 }
/-- [I -/
def k8 : Class := { plain "[I" (some 0) with kind := .array 7 .int, interfaces := #[3, 4], accessFlags := 1041 }

def heap : Heap := #[]
def classes : Array Class := #[k0, k1, k2, k3, k4, k5, k6, k7, k8]
def interned : List (Array UInt16 × Addr) := []
def slotsUsed : Nat := 0
def theMethod : MethodId := ⟨1, 2⟩
def args0 : Array Value := #[.long 5, .long 6]
def aboutOver (below : List Frame) : State where
  vm := { classes := classes, interned := interned.toArray }
  heap := heap
  slotsUsed := slotsUsed
  threads := #[{ frames := .invoking theMethod args0 :: below }]
def below0 : List Frame := [.native { method := ⟨0, 0⟩, args := #[] }]
def about1 : State := aboutOver below0
def p0 : Program := .bare "" "" ""
def e0 : Env := launch0.env 0 0 0
theorem w_frames : about1.frames = Frame.invoking theMethod args0 :: below0 := rfl
set_option maxRecDepth 65536 in
theorem w_args : argsFit about1.vm theMethod args0 = true := by decide +kernel
set_option maxRecDepth 65536 in
theorem w_heap : heapFits about1 = true := by decide +kernel
set_option maxRecDepth 65536 in
theorem w_runnable : about1.curStatus? = some .runnable := by decide +kernel
set_option maxRecDepth 65536 in
theorem w_alone : about1.alone = true := by decide +kernel
set_option maxRecDepth 65536 in
theorem w_named : about1.methodNamed? x = some theMethod := by decide +kernel
set_option maxRecDepth 65536 in
theorem w_hears : about1.hears theMethod below0 = true := by decide +kernel
set_option maxRecDepth 65536 in
theorem w_ripe : about1.ripe theMethod args0 below0 = true := by decide +kernel
theorem w_running : about1.status = .running := rfl
set_option maxRecDepth 65536 in
theorem w_room : about1.hasRoom e0.platform room_1 = true :=
  launch0.hasRoom_least _ room_1 (by decide +kernel) (by decide +kernel) (by decide +kernel) (by decide +kernel) (by decide +kernel) (by decide +kernel)
theorem allAtoms_all (ts : List Jvm.Cond) (a : Array Jvm.Value) (st : Jvm.State) : (allAtoms ts).before a st = ts.all (fun c => c.before a st) := by
  induction ts with
  | nil => rfl
  | cons c t ih =>
    show (Jvm.Cond.and c (allAtoms t)).before a st = _
    rw [Jvm.Cond.before_and, ih, List.all_cons]
def words1 : List Jvm.Cond := Jvm.Cond.code x code maxLocals ret :: tables_1
/-- a 'code' word, met by the world's own term for the bytes: nothing is compared byte by byte -/
theorem code_word {y : MethodName} {bytes : ByteArray} {mx : Nat} {rt : Option FieldType} {a : Array Value} {s : State} {m : MethodId} {meth : Method} {c : Code} (h1 : s.methodNamed? y = some m) (h2 : s.vm.method? m = some meth) (h3 : meth.code = some c) (h4 : c.code = bytes)
    (h5 : (c.maxLocals == mx && c.exceptionTable.isEmpty && decide (c.maxStack ≤ mostOperands) && decide (meth.sig.returnType = rt) && !meth.locks && decide (parseMethodDescriptor y.desc = some meth.sig)) = true) : (Jvm.Cond.code y bytes mx rt).before a s = true := by
  simp only [Bool.and_eq_true, beq_iff_eq, Bool.not_eq_true', decide_eq_true_eq] at h5
  obtain ⟨⟨⟨⟨⟨g1, g2⟩, g3⟩, g4⟩, g5⟩, g6⟩ := h5
  simp [Cond.before, Cond.holds, Cond.value, h1, h2, h3, h4, g1, g2, g3, g4, g5, g6]
def isCode : Jvm.Cond → Bool
  | .code _ _ _ _ => true
  | _ => false
theorem all_split {L : List Jvm.Cond} {P : Jvm.Cond → Bool} (h1 : L.all (fun c => isCode c || P c) = true) (h2 : ∀ c ∈ L.filter isCode, P c = true) : L.all P = true := by
  refine List.all_eq_true.mpr fun c hc => ?_
  have h := List.all_eq_true.mp h1 c hc
  rcases Bool.eq_false_or_eq_true (isCode c) with hi | hi
  · exact h2 c (List.mem_filter.mpr ⟨hc, hi⟩)
  · simpa [hi] using h
set_option maxRecDepth 65536 in
theorem w_c0 : (Jvm.Cond.code x code maxLocals ret).before args0 about1 = true := code_word (m := ⟨1, 2⟩) (meth := k1m2) (c := k1c2) (by decide +kernel) rfl rfl rfl (by decide +kernel)
set_option maxRecDepth 65536 in
theorem w_c1 : (Jvm.Cond.code ({ cls := "com/example/coretally/coretally/core/ContainerTerms", name := "chargedCores", desc := "(J)J" } : Jvm.MethodName) prog_26_method_4_code (2 : Nat) (Option.some Jvm.ClassFile.FieldType.long)).before args0 about1 = true := code_word (m := ⟨2, 1⟩) (meth := k2m1) (c := k2c1) (by decide +kernel) rfl rfl rfl (by decide +kernel)
set_option maxRecDepth 65536 in
theorem w_c2 : (Jvm.Cond.code ({ cls := "com/example/coretally/coretally/core/ContainerTermsChargedCoresPinLaw", name := "ceilThousandths", desc := "(J)J" } : Jvm.MethodName) method_2_code (2 : Nat) (Option.some Jvm.ClassFile.FieldType.long)).before args0 about1 = true := code_word (m := ⟨1, 1⟩) (meth := k1m1) (c := k1c1) (by decide +kernel) rfl rfl rfl (by decide +kernel)
def codes1 : List Jvm.Cond := [Jvm.Cond.code x code maxLocals ret, Jvm.Cond.code ({ cls := "com/example/coretally/coretally/core/ContainerTerms", name := "chargedCores", desc := "(J)J" } : Jvm.MethodName) prog_26_method_4_code (2 : Nat) (Option.some Jvm.ClassFile.FieldType.long), Jvm.Cond.code ({ cls := "com/example/coretally/coretally/core/ContainerTermsChargedCoresPinLaw", name := "ceilThousandths", desc := "(J)J" } : Jvm.MethodName) method_2_code (2 : Nat) (Option.some Jvm.ClassFile.FieldType.long)]
set_option maxRecDepth 65536 in
theorem codes_eq : words1.filter isCode = codes1 := rfl
theorem w_codes : ∀ c ∈ words1.filter isCode, c.before args0 about1 = true := by
  rw [codes_eq]
  intro c hc
  simp only [codes1, List.mem_cons, List.not_mem_nil, or_false] at hc
  rcases hc with rfl | rfl | rfl
  · exact w_c0
  · exact w_c1
  · exact w_c2
set_option maxRecDepth 65536 in
theorem w_t1 : words1.all (fun c => isCode c || c.before args0 about1) = true := by decide +kernel
theorem w_tables : (allAtoms (Jvm.Cond.code x code maxLocals ret :: tables_1)).before args0 about1 = true := by
  rw [allAtoms_all]
  show words1.all (fun c => c.before args0 about1) = true
  refine all_split ?_ w_codes
  rw [w_t1]
set_option maxRecDepth 65536 in
theorem w_case : (Jvm.Cond.and given_1 narrow_1).before args0 about1 = true := by decide +kernel
theorem w_applies : (headSpec (Jvm.Cond.code x code maxLocals ret :: tables_1) room_1).applies x e0.platform about1 = true :=
  (Spec.applies_iff w_frames).mpr ⟨w_running, w_runnable, w_alone, w_named, w_hears, w_ripe, w_room, w_tables⟩
theorem atStart : AtStart classFile x code maxLocals ret World_1 tables_1 room_1 Calls_1 rest_1 Pre_1 launch0 p0 e0 about1 theMethod args0 below0 :=
  ⟨lists_1, trivial, launch0.admits_env _ _ _, launch0.least_env, fairChoices_fair.cas, fairChoices_fair.clock, w_frames, w_args, w_heap, w_applies, trivial, trivial, w_case⟩
end start1
theorem witness_1 : WitnessClaimed_1 := ⟨start1.p0, start1.e0, start1.about1, start1.theMethod, start1.args0, start1.below0, start1.atStart⟩
end Jvm.Pilot.@@N@@

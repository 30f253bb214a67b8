import JvmDerived
import JvmDerived.Pilot.@@N@@Statement
import JvmDerived.Pilot.@@N@@Code
set_option linter.unusedVariables false
set_option linter.unusedSimpArgs false
namespace Jvm.RoadKit
open Sem ClassFile Op Lib Jvm.Stand Jvm.Free Jvm.LawKit
section New
variable {p : Program} {l : Launch} {e : Env} {R : Room} {s : State} {m : MethodId} {args : Array Value} {below : List Frame} {meth : Method} {c : Code} {T : State} {locs : List Loc} {cells slots : Nat}
theorem retI (X : Stand p l e R s m args below meth c T locs cells slots) (hx : p.tables.exec = Jvm.exec) {pc : Nat} {Ls : Array Slot} {z : Int32} {rest : List Value} (hret : meth.sig.returnType = some .int) (hd : decode c.code pc = .ok (.ireturn, 1)) {fs : List Frame}
    (hl : ∀ (f : JFrame) (acts : List Action), f.method = m → f.locked = none → f.entered = [] → (doReturn e (T.setTop f) acts (some (.int z))).1 = T.setFrames fs) : Steps p.tables e below (T.setTop (mkF m pc Ls (.int z :: rest))) (T.setFrames fs) := by
  have hm' : T.vm.method? m = some meth := X.method'
  have hn : narrow .int (.int z) = .int z := rfl
  show Steps p.tables e below (T.setTop { method := m, pc := pc, locals := Ls, stack := _ :: rest, locked := none }) _
  jvm_step X.here [X.here.top, hx, hd, hm', hret, hn]
  first | (intro acts; rw [hl _ acts rfl rfl rfl]) | rw [hl _ _ rfl rfl rfl]
  exact Steps.refl _
end New
end Jvm.RoadKit
namespace Jvm.Pilot.@@N@@
open Jvm Jvm.ClassFile Sem Op Lib Jvm.Free Jvm.Stand Jvm.LawKit Jvm.RoadKit Bundle Jvm.Pilot.@@N@@.Jvm.D
def own_ch (u k r : Int32) : Int32 := if (((u.toUInt32 >>> (k &&& 31).toUInt32).toInt32) &&& (3 : Int32)) = 0 then 13 else if (((u.toUInt32 >>> (k &&& 31).toUInt32).toInt32) &&& (3 : Int32)) = 1 then 10 else r
def own_exp (x y z : Int32) : Int32 := if x = 13 then 1 else if x = 10 then (if z = 0 then 1 else if y = 13 then 0 else 1) else 0
def own_take (x k : Int32) : Int32 := if x = 13 ∨ (x = 10 ∧ k = 0) then 1 else 0
theorem own_te0 (x : Int32) : own_take x 0 = own_exp x 0 0 := by
  unfold own_take own_exp
  by_cases h : x = 13
  · simp [h]
  · by_cases h2 : x = 10 <;> simp [h, h2]
theorem own_te (x d : Int32) : own_take x (if d = 13 then 1 else 0) = own_exp x d 1 := by
  unfold own_take own_exp
  by_cases h : x = 13
  · simp [h]
  · by_cases h2 : x = 10
    · by_cases h3 : d = 13 <;> simp [h, h2, h3]
    · simp [h, h2]
theorem own_bit (x y z : Int32) : own_exp x y z = 0 ∨ own_exp x y z = 1 := by
  unfold own_exp
  split
  · exact Or.inr rfl
  · split
    · split
      · exact Or.inr rfl
      · split
        · exact Or.inl rfl
        · exact Or.inr rfl
    · exact Or.inl rfl
theorem own_n {f n : Int32} (hb : f = 0 ∨ f = 1) (h : (f = (0 : Int32) ∧ n = (0 : Int32)) ∨ (¬ (f = (0 : Int32)) ∧ n = (1 : Int32))) : n = f := by
  rcases h with ⟨h1, rfl⟩ | ⟨h1, rfl⟩
  · exact h1.symm
  · exact (hb.resolve_left h1).symm
theorem d1_0 : decode method_2_code 0 = .ok (.iload_n 0, 1) := by decide +kernel
theorem d1_1 : decode method_2_code 1 = .ok (.iload_n 1, 1) := by decide +kernel
theorem d1_2 : decode method_2_code 2 = .ok (.iushr, 1) := by decide +kernel
theorem d1_3 : decode method_2_code 3 = .ok (.iconst 3, 1) := by decide +kernel
theorem d1_4 : decode method_2_code 4 = .ok (.iand, 1) := by decide +kernel
theorem d1_5 : decode method_2_code 5 = .ok (.istore_n 3, 1) := by decide +kernel
theorem d1_6 : decode method_2_code 6 = .ok (.iload_n 3, 1) := by decide +kernel
theorem d1_7 : decode method_2_code 7 = .ok (.ifCond .ne 6, 3) := by decide +kernel
theorem d1_10 : decode method_2_code 10 = .ok (.bipush 13, 2) := by decide +kernel
theorem d1_12 : decode method_2_code 12 = .ok (.ireturn, 1) := by decide +kernel
theorem pn_0 : plainName "com/example/libsitemap/libsitemap/LineCounterTakePinLaw" = true := by first | (simp [plainName, overriddenIn]; done) | decide +kernel
theorem ef_1 (m : MethodId) (x0 : Int32) (x1 : Int32) (x2 : Int32) : entryFrame m #[(.int x0), (.int x1), (.int x2)] 4 = mkF m 0 #[.val (.int x0), .val (.int x1), .val (.int x2), .unset] [] := by first | (simp [entryFrame, mkF, argsToLocals, Value.category]; done) | rfl
def Qrm1 (Z : State) (u : Int32) (k : Int32) (r : Int32) (h0 : Heap) (n0 : Nat) (v : Option Value) (h : Heap) (L : List Loc) : Prop := v = some (.int (own_ch u k r)) ∧ Fr n0 L ∧ h = h0
set_option maxRecDepth 65536 in
set_option maxHeartbeats 40000000 in
theorem rm1a (l : Launch) (Z : State) (a0 : Array Value) (hw : ∀ d ∈ tables_1, d.before a0 Z = true) (ws : List Jvm.Cond) (u : Int32) (k : Int32) (r : Int32) (h0 : Heap) (n0 : Nat) (Z0 : n0 ≤ h0.size) (hc7 : (((u.toUInt32 >>> (k &&& 31).toUInt32).toInt32) &&& (3 : Int32)) = (0 : Int32)) :
    MetFree l (⟨"com/example/libsitemap/libsitemap/LineCounterTakePinLaw", "ch", "(III)I"⟩ : MethodName) (head1 (Jvm.Cond.code (⟨"com/example/libsitemap/libsitemap/LineCounterTakePinLaw", "ch", "(III)I"⟩ : MethodName) method_2_code 4 (some .int) :: ws) ({ frames := 0, cells := 0, slots := 0, locals := 0 } : Room)) (fun aa_ U => aa_ = #[(.int u), (.int k), (.int r)] ∧ Z.Warmed39 U.vm ∧ U.heap = h0) (fun _ _ _ _ _ => True) (fun _ U o U' => ∃ v L, o = .returned v ∧ Qrm1 Z u k r h0 n0 v U'.heap L ∧ FrameEnd U o U' L ({ frames := 0, cells := 0, slots := 0, locals := 0 } : Room).cells ({ frames := 0, cells := 0, slots := 0, locals := 0 } : Room).slots) := by
  refine MetFree.of_bodySF (plainFor_of_name pn_0) hisR ?_
  intro p e s m args below meth c s₁ Bd hml0 hP hK
  obtain ⟨rfl, hZ, hh⟩ := hP
  have hx := Bd.exec
  have hby := Bd.bytes
  have hml : c.maxLocals = 4 := hml0
  have hown : s.vm.findClass "com/example/libsitemap/libsitemap/LineCounterTakePinLaw" = some m.cls := findClass_of_methodNamed Bd.named
  have hnm := (name_of_methodNamed Bd.named Bd.method).1
  have X0 : Stand p l e ({ frames := 0, cells := 0, slots := 0, locals := 0 } : Room) s m #[(.int u), (.int k), (.int r)] below meth c s₁ [] 0 0 := Stand.of_body Bd
  have e0 : s₁.heap = h0 := by rw [← hh, Bd.state]; rfl
  have N0 := Fr.nil n0
  have pre0 : ∀ tt_, Steps p.tables e below (s₁.setTop (mkF m 0 #[.val (.int u), .val (.int k), .val (.int r), .unset] [])) tt_ → Steps p.tables e below (s₁.setTop (entryFrame m #[(.int u), (.int k), (.int r)] 4)) tt_ := fun tt_ kk_ => castTop (ef_1 m u k r) kk_
  obtain ⟨fs, hr, hrun, hended, hW, hsame⟩ := X0.leave (v := some (.int (13 : Int32))) (fun h => by rw [Bd.returns] at h; cases h)
  refine ⟨_, _, pre0 _ ?_, hrun, hended, _, _, rfl, ?_, ⟨_, rfl⟩, hW, hsame.mono (by decide) (by decide)⟩
  · show Steps p.tables e below (s₁.setTop (mkF m 0 #[.val (.int u), .val (.int k), .val (.int r), .unset] [])) _
    refine XS.iloadN X0.here hx rfl (hb hby d1_0) rfl ?_
    show Steps p.tables e below (s₁.setTop (mkF m 1 #[.val (.int u), .val (.int k), .val (.int r), .unset] [(.int u)])) _
    refine XS.iloadN X0.here hx rfl (hb hby d1_1) rfl ?_
    show Steps p.tables e below (s₁.setTop (mkF m 2 #[.val (.int u), .val (.int k), .val (.int r), .unset] [(.int k), (.int u)])) _
    refine XS.iushr X0.here hx rfl (hb hby d1_2) rfl ?_
    show Steps p.tables e below (s₁.setTop (mkF m 3 #[.val (.int u), .val (.int k), .val (.int r), .unset] [(.int ((u.toUInt32 >>> (k &&& 31).toUInt32).toInt32))])) _
    refine XS.iconst X0.here hx rfl (hb hby d1_3) ?_
    show Steps p.tables e below (s₁.setTop (mkF m 4 #[.val (.int u), .val (.int k), .val (.int r), .unset] [(.int (3 : Int32)), (.int ((u.toUInt32 >>> (k &&& 31).toUInt32).toInt32))])) _
    refine XS.iand X0.here hx rfl (hb hby d1_4) rfl ?_
    show Steps p.tables e below (s₁.setTop (mkF m 5 #[.val (.int u), .val (.int k), .val (.int r), .unset] [(.int (((u.toUInt32 >>> (k &&& 31).toUInt32).toInt32) &&& (3 : Int32)))])) _
    refine XS.istoreN X0.here hx rfl (hb hby d1_5) rfl (l' := #[.val (.int u), .val (.int k), .val (.int r), .val (.int (((u.toUInt32 >>> (k &&& 31).toUInt32).toInt32) &&& (3 : Int32)))]) rfl ?_
    show Steps p.tables e below (s₁.setTop (mkF m 6 #[.val (.int u), .val (.int k), .val (.int r), .val (.int (((u.toUInt32 >>> (k &&& 31).toUInt32).toInt32) &&& (3 : Int32)))] [])) _
    refine XS.iloadN X0.here hx rfl (hb hby d1_6) rfl ?_
    show Steps p.tables e below (s₁.setTop (mkF m 7 #[.val (.int u), .val (.int k), .val (.int r), .val (.int (((u.toUInt32 >>> (k &&& 31).toUInt32).toInt32) &&& (3 : Int32)))] [(.int (((u.toUInt32 >>> (k &&& 31).toUInt32).toInt32) &&& (3 : Int32)))])) _
    refine XS.ifNo X0.here hx rfl (hb hby d1_7) rfl ((if0 _ _).trans (teq (show (((u.toUInt32 >>> (k &&& 31).toUInt32).toInt32) &&& (3 : Int32)) = (0 : Int32) from hc7)).2) ?_
    show Steps p.tables e below (s₁.setTop (mkF m 10 #[.val (.int u), .val (.int k), .val (.int r), .val (.int (((u.toUInt32 >>> (k &&& 31).toUInt32).toInt32) &&& (3 : Int32)))] [])) _
    refine XS.bipush X0.here hx rfl (hb hby d1_10) ?_
    show Steps p.tables e below (s₁.setTop (mkF m 12 #[.val (.int u), .val (.int k), .val (.int r), .val (.int (((u.toUInt32 >>> (k &&& 31).toUInt32).toInt32) &&& (3 : Int32)))] [(.int (13 : Int32))])) _
    exact retI X0 hx Bd.returns (hb hby d1_12) hr
  · show Qrm1 Z u k r h0 n0 _ s₁.heap _
    rw [e0]
    exact ⟨by rw [own_ch, if_pos hc7], N0, rfl⟩
theorem d1_13 : decode method_2_code 13 = .ok (.iload_n 3, 1) := by decide +kernel
theorem d1_14 : decode method_2_code 14 = .ok (.iconst 1, 1) := by decide +kernel
theorem d1_15 : decode method_2_code 15 = .ok (.if_icmp .ne 6, 3) := by decide +kernel
theorem d1_18 : decode method_2_code 18 = .ok (.bipush 10, 2) := by decide +kernel
theorem d1_20 : decode method_2_code 20 = .ok (.ireturn, 1) := by decide +kernel
set_option maxRecDepth 65536 in
set_option maxHeartbeats 40000000 in
theorem rm1b (l : Launch) (Z : State) (a0 : Array Value) (hw : ∀ d ∈ tables_1, d.before a0 Z = true) (ws : List Jvm.Cond) (u : Int32) (k : Int32) (r : Int32) (h0 : Heap) (n0 : Nat) (Z0 : n0 ≤ h0.size) (hc7 : ¬ ((((u.toUInt32 >>> (k &&& 31).toUInt32).toInt32) &&& (3 : Int32)) = (0 : Int32))) (hc15 : (((u.toUInt32 >>> (k &&& 31).toUInt32).toInt32) &&& (3 : Int32)) = (1 : Int32)) :
    MetFree l (⟨"com/example/libsitemap/libsitemap/LineCounterTakePinLaw", "ch", "(III)I"⟩ : MethodName) (head1 (Jvm.Cond.code (⟨"com/example/libsitemap/libsitemap/LineCounterTakePinLaw", "ch", "(III)I"⟩ : MethodName) method_2_code 4 (some .int) :: ws) ({ frames := 0, cells := 0, slots := 0, locals := 0 } : Room)) (fun aa_ U => aa_ = #[(.int u), (.int k), (.int r)] ∧ Z.Warmed39 U.vm ∧ U.heap = h0) (fun _ _ _ _ _ => True) (fun _ U o U' => ∃ v L, o = .returned v ∧ Qrm1 Z u k r h0 n0 v U'.heap L ∧ FrameEnd U o U' L ({ frames := 0, cells := 0, slots := 0, locals := 0 } : Room).cells ({ frames := 0, cells := 0, slots := 0, locals := 0 } : Room).slots) := by
  refine MetFree.of_bodySF (plainFor_of_name pn_0) hisR ?_
  intro p e s m args below meth c s₁ Bd hml0 hP hK
  obtain ⟨rfl, hZ, hh⟩ := hP
  have hx := Bd.exec
  have hby := Bd.bytes
  have hml : c.maxLocals = 4 := hml0
  have hown : s.vm.findClass "com/example/libsitemap/libsitemap/LineCounterTakePinLaw" = some m.cls := findClass_of_methodNamed Bd.named
  have hnm := (name_of_methodNamed Bd.named Bd.method).1
  have X0 : Stand p l e ({ frames := 0, cells := 0, slots := 0, locals := 0 } : Room) s m #[(.int u), (.int k), (.int r)] below meth c s₁ [] 0 0 := Stand.of_body Bd
  have e0 : s₁.heap = h0 := by rw [← hh, Bd.state]; rfl
  have N0 := Fr.nil n0
  have pre0 : ∀ tt_, Steps p.tables e below (s₁.setTop (mkF m 0 #[.val (.int u), .val (.int k), .val (.int r), .unset] [])) tt_ → Steps p.tables e below (s₁.setTop (entryFrame m #[(.int u), (.int k), (.int r)] 4)) tt_ := fun tt_ kk_ => castTop (ef_1 m u k r) kk_
  obtain ⟨fs, hr, hrun, hended, hW, hsame⟩ := X0.leave (v := some (.int (10 : Int32))) (fun h => by rw [Bd.returns] at h; cases h)
  refine ⟨_, _, pre0 _ ?_, hrun, hended, _, _, rfl, ?_, ⟨_, rfl⟩, hW, hsame.mono (by decide) (by decide)⟩
  · show Steps p.tables e below (s₁.setTop (mkF m 0 #[.val (.int u), .val (.int k), .val (.int r), .unset] [])) _
    refine XS.iloadN X0.here hx rfl (hb hby d1_0) rfl ?_
    show Steps p.tables e below (s₁.setTop (mkF m 1 #[.val (.int u), .val (.int k), .val (.int r), .unset] [(.int u)])) _
    refine XS.iloadN X0.here hx rfl (hb hby d1_1) rfl ?_
    show Steps p.tables e below (s₁.setTop (mkF m 2 #[.val (.int u), .val (.int k), .val (.int r), .unset] [(.int k), (.int u)])) _
    refine XS.iushr X0.here hx rfl (hb hby d1_2) rfl ?_
    show Steps p.tables e below (s₁.setTop (mkF m 3 #[.val (.int u), .val (.int k), .val (.int r), .unset] [(.int ((u.toUInt32 >>> (k &&& 31).toUInt32).toInt32))])) _
    refine XS.iconst X0.here hx rfl (hb hby d1_3) ?_
    show Steps p.tables e below (s₁.setTop (mkF m 4 #[.val (.int u), .val (.int k), .val (.int r), .unset] [(.int (3 : Int32)), (.int ((u.toUInt32 >>> (k &&& 31).toUInt32).toInt32))])) _
    refine XS.iand X0.here hx rfl (hb hby d1_4) rfl ?_
    show Steps p.tables e below (s₁.setTop (mkF m 5 #[.val (.int u), .val (.int k), .val (.int r), .unset] [(.int (((u.toUInt32 >>> (k &&& 31).toUInt32).toInt32) &&& (3 : Int32)))])) _
    refine XS.istoreN X0.here hx rfl (hb hby d1_5) rfl (l' := #[.val (.int u), .val (.int k), .val (.int r), .val (.int (((u.toUInt32 >>> (k &&& 31).toUInt32).toInt32) &&& (3 : Int32)))]) rfl ?_
    show Steps p.tables e below (s₁.setTop (mkF m 6 #[.val (.int u), .val (.int k), .val (.int r), .val (.int (((u.toUInt32 >>> (k &&& 31).toUInt32).toInt32) &&& (3 : Int32)))] [])) _
    refine XS.iloadN X0.here hx rfl (hb hby d1_6) rfl ?_
    show Steps p.tables e below (s₁.setTop (mkF m 7 #[.val (.int u), .val (.int k), .val (.int r), .val (.int (((u.toUInt32 >>> (k &&& 31).toUInt32).toInt32) &&& (3 : Int32)))] [(.int (((u.toUInt32 >>> (k &&& 31).toUInt32).toInt32) &&& (3 : Int32)))])) _
    refine XS.ifYes X0.here hx rfl (pc0 := 7) (pc' := 13) rfl (hb hby d1_7) rfl ((if0 _ _).trans (feq (show ¬ ((((u.toUInt32 >>> (k &&& 31).toUInt32).toInt32) &&& (3 : Int32)) = (0 : Int32)) from hc7)).2) (by decide) (by decide) ?_
    show Steps p.tables e below (s₁.setTop (mkF m 13 #[.val (.int u), .val (.int k), .val (.int r), .val (.int (((u.toUInt32 >>> (k &&& 31).toUInt32).toInt32) &&& (3 : Int32)))] [])) _
    refine XS.iloadN X0.here hx rfl (hb hby d1_13) rfl ?_
    show Steps p.tables e below (s₁.setTop (mkF m 14 #[.val (.int u), .val (.int k), .val (.int r), .val (.int (((u.toUInt32 >>> (k &&& 31).toUInt32).toInt32) &&& (3 : Int32)))] [(.int (((u.toUInt32 >>> (k &&& 31).toUInt32).toInt32) &&& (3 : Int32)))])) _
    refine XS.iconst X0.here hx rfl (hb hby d1_14) ?_
    show Steps p.tables e below (s₁.setTop (mkF m 15 #[.val (.int u), .val (.int k), .val (.int r), .val (.int (((u.toUInt32 >>> (k &&& 31).toUInt32).toInt32) &&& (3 : Int32)))] [(.int (1 : Int32)), (.int (((u.toUInt32 >>> (k &&& 31).toUInt32).toInt32) &&& (3 : Int32)))])) _
    refine XS.icmpNo X0.here hx rfl (hb hby d1_15) rfl (teq (show (((u.toUInt32 >>> (k &&& 31).toUInt32).toInt32) &&& (3 : Int32)) = (1 : Int32) from hc15)).2 ?_
    show Steps p.tables e below (s₁.setTop (mkF m 18 #[.val (.int u), .val (.int k), .val (.int r), .val (.int (((u.toUInt32 >>> (k &&& 31).toUInt32).toInt32) &&& (3 : Int32)))] [])) _
    refine XS.bipush X0.here hx rfl (hb hby d1_18) ?_
    show Steps p.tables e below (s₁.setTop (mkF m 20 #[.val (.int u), .val (.int k), .val (.int r), .val (.int (((u.toUInt32 >>> (k &&& 31).toUInt32).toInt32) &&& (3 : Int32)))] [(.int (10 : Int32))])) _
    exact retI X0 hx Bd.returns (hb hby d1_20) hr
  · show Qrm1 Z u k r h0 n0 _ s₁.heap _
    rw [e0]
    exact ⟨by rw [own_ch, if_neg hc7, if_pos hc15], N0, rfl⟩
theorem d1_21 : decode method_2_code 21 = .ok (.iload_n 2, 1) := by decide +kernel
theorem d1_22 : decode method_2_code 22 = .ok (.ireturn, 1) := by decide +kernel
set_option maxRecDepth 65536 in
set_option maxHeartbeats 40000000 in
theorem rm1c (l : Launch) (Z : State) (a0 : Array Value) (hw : ∀ d ∈ tables_1, d.before a0 Z = true) (ws : List Jvm.Cond) (u : Int32) (k : Int32) (r : Int32) (h0 : Heap) (n0 : Nat) (Z0 : n0 ≤ h0.size) (hc7 : ¬ ((((u.toUInt32 >>> (k &&& 31).toUInt32).toInt32) &&& (3 : Int32)) = (0 : Int32))) (hc15 : ¬ ((((u.toUInt32 >>> (k &&& 31).toUInt32).toInt32) &&& (3 : Int32)) = (1 : Int32))) :
    MetFree l (⟨"com/example/libsitemap/libsitemap/LineCounterTakePinLaw", "ch", "(III)I"⟩ : MethodName) (head1 (Jvm.Cond.code (⟨"com/example/libsitemap/libsitemap/LineCounterTakePinLaw", "ch", "(III)I"⟩ : MethodName) method_2_code 4 (some .int) :: ws) ({ frames := 0, cells := 0, slots := 0, locals := 0 } : Room)) (fun aa_ U => aa_ = #[(.int u), (.int k), (.int r)] ∧ Z.Warmed39 U.vm ∧ U.heap = h0) (fun _ _ _ _ _ => True) (fun _ U o U' => ∃ v L, o = .returned v ∧ Qrm1 Z u k r h0 n0 v U'.heap L ∧ FrameEnd U o U' L ({ frames := 0, cells := 0, slots := 0, locals := 0 } : Room).cells ({ frames := 0, cells := 0, slots := 0, locals := 0 } : Room).slots) := by
  refine MetFree.of_bodySF (plainFor_of_name pn_0) hisR ?_
  intro p e s m args below meth c s₁ Bd hml0 hP hK
  obtain ⟨rfl, hZ, hh⟩ := hP
  have hx := Bd.exec
  have hby := Bd.bytes
  have hml : c.maxLocals = 4 := hml0
  have hown : s.vm.findClass "com/example/libsitemap/libsitemap/LineCounterTakePinLaw" = some m.cls := findClass_of_methodNamed Bd.named
  have hnm := (name_of_methodNamed Bd.named Bd.method).1
  have X0 : Stand p l e ({ frames := 0, cells := 0, slots := 0, locals := 0 } : Room) s m #[(.int u), (.int k), (.int r)] below meth c s₁ [] 0 0 := Stand.of_body Bd
  have e0 : s₁.heap = h0 := by rw [← hh, Bd.state]; rfl
  have N0 := Fr.nil n0
  have pre0 : ∀ tt_, Steps p.tables e below (s₁.setTop (mkF m 0 #[.val (.int u), .val (.int k), .val (.int r), .unset] [])) tt_ → Steps p.tables e below (s₁.setTop (entryFrame m #[(.int u), (.int k), (.int r)] 4)) tt_ := fun tt_ kk_ => castTop (ef_1 m u k r) kk_
  obtain ⟨fs, hr, hrun, hended, hW, hsame⟩ := X0.leave (v := some (.int r)) (fun h => by rw [Bd.returns] at h; cases h)
  refine ⟨_, _, pre0 _ ?_, hrun, hended, _, _, rfl, ?_, ⟨_, rfl⟩, hW, hsame.mono (by decide) (by decide)⟩
  · show Steps p.tables e below (s₁.setTop (mkF m 0 #[.val (.int u), .val (.int k), .val (.int r), .unset] [])) _
    refine XS.iloadN X0.here hx rfl (hb hby d1_0) rfl ?_
    show Steps p.tables e below (s₁.setTop (mkF m 1 #[.val (.int u), .val (.int k), .val (.int r), .unset] [(.int u)])) _
    refine XS.iloadN X0.here hx rfl (hb hby d1_1) rfl ?_
    show Steps p.tables e below (s₁.setTop (mkF m 2 #[.val (.int u), .val (.int k), .val (.int r), .unset] [(.int k), (.int u)])) _
    refine XS.iushr X0.here hx rfl (hb hby d1_2) rfl ?_
    show Steps p.tables e below (s₁.setTop (mkF m 3 #[.val (.int u), .val (.int k), .val (.int r), .unset] [(.int ((u.toUInt32 >>> (k &&& 31).toUInt32).toInt32))])) _
    refine XS.iconst X0.here hx rfl (hb hby d1_3) ?_
    show Steps p.tables e below (s₁.setTop (mkF m 4 #[.val (.int u), .val (.int k), .val (.int r), .unset] [(.int (3 : Int32)), (.int ((u.toUInt32 >>> (k &&& 31).toUInt32).toInt32))])) _
    refine XS.iand X0.here hx rfl (hb hby d1_4) rfl ?_
    show Steps p.tables e below (s₁.setTop (mkF m 5 #[.val (.int u), .val (.int k), .val (.int r), .unset] [(.int (((u.toUInt32 >>> (k &&& 31).toUInt32).toInt32) &&& (3 : Int32)))])) _
    refine XS.istoreN X0.here hx rfl (hb hby d1_5) rfl (l' := #[.val (.int u), .val (.int k), .val (.int r), .val (.int (((u.toUInt32 >>> (k &&& 31).toUInt32).toInt32) &&& (3 : Int32)))]) rfl ?_
    show Steps p.tables e below (s₁.setTop (mkF m 6 #[.val (.int u), .val (.int k), .val (.int r), .val (.int (((u.toUInt32 >>> (k &&& 31).toUInt32).toInt32) &&& (3 : Int32)))] [])) _
    refine XS.iloadN X0.here hx rfl (hb hby d1_6) rfl ?_
    show Steps p.tables e below (s₁.setTop (mkF m 7 #[.val (.int u), .val (.int k), .val (.int r), .val (.int (((u.toUInt32 >>> (k &&& 31).toUInt32).toInt32) &&& (3 : Int32)))] [(.int (((u.toUInt32 >>> (k &&& 31).toUInt32).toInt32) &&& (3 : Int32)))])) _
    refine XS.ifYes X0.here hx rfl (pc0 := 7) (pc' := 13) rfl (hb hby d1_7) rfl ((if0 _ _).trans (feq (show ¬ ((((u.toUInt32 >>> (k &&& 31).toUInt32).toInt32) &&& (3 : Int32)) = (0 : Int32)) from hc7)).2) (by decide) (by decide) ?_
    show Steps p.tables e below (s₁.setTop (mkF m 13 #[.val (.int u), .val (.int k), .val (.int r), .val (.int (((u.toUInt32 >>> (k &&& 31).toUInt32).toInt32) &&& (3 : Int32)))] [])) _
    refine XS.iloadN X0.here hx rfl (hb hby d1_13) rfl ?_
    show Steps p.tables e below (s₁.setTop (mkF m 14 #[.val (.int u), .val (.int k), .val (.int r), .val (.int (((u.toUInt32 >>> (k &&& 31).toUInt32).toInt32) &&& (3 : Int32)))] [(.int (((u.toUInt32 >>> (k &&& 31).toUInt32).toInt32) &&& (3 : Int32)))])) _
    refine XS.iconst X0.here hx rfl (hb hby d1_14) ?_
    show Steps p.tables e below (s₁.setTop (mkF m 15 #[.val (.int u), .val (.int k), .val (.int r), .val (.int (((u.toUInt32 >>> (k &&& 31).toUInt32).toInt32) &&& (3 : Int32)))] [(.int (1 : Int32)), (.int (((u.toUInt32 >>> (k &&& 31).toUInt32).toInt32) &&& (3 : Int32)))])) _
    refine XS.icmpYes X0.here hx rfl (pc0 := 15) (pc' := 21) rfl (hb hby d1_15) rfl (feq (show ¬ ((((u.toUInt32 >>> (k &&& 31).toUInt32).toInt32) &&& (3 : Int32)) = (1 : Int32)) from hc15)).2 (by decide) (by decide) ?_
    show Steps p.tables e below (s₁.setTop (mkF m 21 #[.val (.int u), .val (.int k), .val (.int r), .val (.int (((u.toUInt32 >>> (k &&& 31).toUInt32).toInt32) &&& (3 : Int32)))] [])) _
    refine XS.iloadN X0.here hx rfl (hb hby d1_21) rfl ?_
    show Steps p.tables e below (s₁.setTop (mkF m 22 #[.val (.int u), .val (.int k), .val (.int r), .val (.int (((u.toUInt32 >>> (k &&& 31).toUInt32).toInt32) &&& (3 : Int32)))] [(.int r)])) _
    exact retI X0 hx Bd.returns (hb hby d1_22) hr
  · show Qrm1 Z u k r h0 n0 _ s₁.heap _
    rw [e0]
    exact ⟨by rw [own_ch, if_neg hc7, if_neg hc15], N0, rfl⟩
theorem rm1 (l : Launch) (Z : State) (a0 : Array Value) (hw : ∀ d ∈ tables_1, d.before a0 Z = true) (ws : List Jvm.Cond) (u : Int32) (k : Int32) (r : Int32) (h0 : Heap) (n0 : Nat) (Z0 : n0 ≤ h0.size) :
    MetFree l (⟨"com/example/libsitemap/libsitemap/LineCounterTakePinLaw", "ch", "(III)I"⟩ : MethodName) (head1 (Jvm.Cond.code (⟨"com/example/libsitemap/libsitemap/LineCounterTakePinLaw", "ch", "(III)I"⟩ : MethodName) method_2_code 4 (some .int) :: ws) ({ frames := 0, cells := 0, slots := 0, locals := 0 } : Room)) (fun aa_ U => aa_ = #[(.int u), (.int k), (.int r)] ∧ Z.Warmed39 U.vm ∧ U.heap = h0) (fun _ _ _ _ _ => True) (fun _ U o U' => ∃ v L, o = .returned v ∧ Qrm1 Z u k r h0 n0 v U'.heap L ∧ FrameEnd U o U' L ({ frames := 0, cells := 0, slots := 0, locals := 0 } : Room).cells ({ frames := 0, cells := 0, slots := 0, locals := 0 } : Room).slots) := by
  by_cases h1 : (((u.toUInt32 >>> (k &&& 31).toUInt32).toInt32) &&& (3 : Int32)) = (0 : Int32)
  · exact rm1a l Z a0 hw ws u k r h0 n0 Z0  h1
  by_cases h2 : (((u.toUInt32 >>> (k &&& 31).toUInt32).toInt32) &&& (3 : Int32)) = (1 : Int32)
  · exact rm1b l Z a0 hw ws u k r h0 n0 Z0  h1 h2
  · exact rm1c l Z a0 hw ws u k r h0 n0 Z0  h1 h2
theorem d2_0 : decode method_3_code 0 = .ok (.iload_n 0, 1) := by decide +kernel
theorem d2_1 : decode method_3_code 1 = .ok (.bipush 13, 2) := by decide +kernel
theorem d2_3 : decode method_3_code 3 = .ok (.if_icmp .ne 5, 3) := by decide +kernel
theorem d2_6 : decode method_3_code 6 = .ok (.iconst 1, 1) := by decide +kernel
theorem d2_7 : decode method_3_code 7 = .ok (.ireturn, 1) := by decide +kernel
theorem ef_2 (m : MethodId) (x0 : Int32) (x1 : Int32) (x2 : Int32) : entryFrame m #[(.int x0), (.int x1), (.int x2)] 3 = mkF m 0 #[.val (.int x0), .val (.int x1), .val (.int x2)] [] := by first | (simp [entryFrame, mkF, argsToLocals, Value.category]; done) | rfl
def Qrm2 (Z : State) (x : Int32) (y : Int32) (z : Int32) (h0 : Heap) (n0 : Nat) (v : Option Value) (h : Heap) (L : List Loc) : Prop := v = some (.int (own_exp x y z)) ∧ Fr n0 L ∧ h = h0
set_option maxRecDepth 65536 in
set_option maxHeartbeats 40000000 in
theorem rm2a (l : Launch) (Z : State) (a0 : Array Value) (hw : ∀ d ∈ tables_1, d.before a0 Z = true) (ws : List Jvm.Cond) (x : Int32) (y : Int32) (z : Int32) (h0 : Heap) (n0 : Nat) (Z0 : n0 ≤ h0.size) (hc3 : x = (13 : Int32)) :
    MetFree l (⟨"com/example/libsitemap/libsitemap/LineCounterTakePinLaw", "expect", "(IIZ)Z"⟩ : MethodName) (head1 (Jvm.Cond.code (⟨"com/example/libsitemap/libsitemap/LineCounterTakePinLaw", "expect", "(IIZ)Z"⟩ : MethodName) method_3_code 3 (some .boolean) :: ws) ({ frames := 0, cells := 0, slots := 0, locals := 0 } : Room)) (fun aa_ U => aa_ = #[(.int x), (.int y), (.int z)] ∧ Z.Warmed39 U.vm ∧ U.heap = h0) (fun _ _ _ _ _ => True) (fun _ U o U' => ∃ v L, o = .returned v ∧ Qrm2 Z x y z h0 n0 v U'.heap L ∧ FrameEnd U o U' L ({ frames := 0, cells := 0, slots := 0, locals := 0 } : Room).cells ({ frames := 0, cells := 0, slots := 0, locals := 0 } : Room).slots) := by
  refine MetFree.of_bodySF (plainFor_of_name pn_0) hisR ?_
  intro p e s m args below meth c s₁ Bd hml0 hP hK
  obtain ⟨rfl, hZ, hh⟩ := hP
  have hx := Bd.exec
  have hby := Bd.bytes
  have hml : c.maxLocals = 3 := hml0
  have hown : s.vm.findClass "com/example/libsitemap/libsitemap/LineCounterTakePinLaw" = some m.cls := findClass_of_methodNamed Bd.named
  have hnm := (name_of_methodNamed Bd.named Bd.method).1
  have X0 : Stand p l e ({ frames := 0, cells := 0, slots := 0, locals := 0 } : Room) s m #[(.int x), (.int y), (.int z)] below meth c s₁ [] 0 0 := Stand.of_body Bd
  have e0 : s₁.heap = h0 := by rw [← hh, Bd.state]; rfl
  have N0 := Fr.nil n0
  have pre0 : ∀ tt_, Steps p.tables e below (s₁.setTop (mkF m 0 #[.val (.int x), .val (.int y), .val (.int z)] [])) tt_ → Steps p.tables e below (s₁.setTop (entryFrame m #[(.int x), (.int y), (.int z)] 3)) tt_ := fun tt_ kk_ => castTop (ef_2 m x y z) kk_
  obtain ⟨fs, hr, hrun, hended, hW, hsame⟩ := X0.leave (v := some (.int (1 : Int32))) (fun h => by rw [Bd.returns] at h; cases h)
  refine ⟨_, _, pre0 _ ?_, hrun, hended, _, _, rfl, ?_, ⟨_, rfl⟩, hW, hsame.mono (by decide) (by decide)⟩
  · show Steps p.tables e below (s₁.setTop (mkF m 0 #[.val (.int x), .val (.int y), .val (.int z)] [])) _
    refine XS.iloadN X0.here hx rfl (hb hby d2_0) rfl ?_
    show Steps p.tables e below (s₁.setTop (mkF m 1 #[.val (.int x), .val (.int y), .val (.int z)] [(.int x)])) _
    refine XS.bipush X0.here hx rfl (hb hby d2_1) ?_
    show Steps p.tables e below (s₁.setTop (mkF m 3 #[.val (.int x), .val (.int y), .val (.int z)] [(.int (13 : Int32)), (.int x)])) _
    refine XS.icmpNo X0.here hx rfl (hb hby d2_3) rfl (teq (show x = (13 : Int32) from hc3)).2 ?_
    show Steps p.tables e below (s₁.setTop (mkF m 6 #[.val (.int x), .val (.int y), .val (.int z)] [])) _
    refine XS.iconst X0.here hx rfl (hb hby d2_6) ?_
    show Steps p.tables e below (s₁.setTop (mkF m 7 #[.val (.int x), .val (.int y), .val (.int z)] [(.int (1 : Int32))])) _
    exact retN X0 hx (t := .boolean) Bd.returns (by simp) (hb hby d2_7) hr
  · show Qrm2 Z x y z h0 n0 _ s₁.heap _
    rw [e0]
    exact ⟨by rw [own_exp, if_pos hc3], N0, rfl⟩
theorem d2_8 : decode method_3_code 8 = .ok (.iload_n 0, 1) := by decide +kernel
theorem d2_9 : decode method_3_code 9 = .ok (.bipush 10, 2) := by decide +kernel
theorem d2_11 : decode method_3_code 11 = .ok (.if_icmp .ne 19, 3) := by decide +kernel
theorem d2_14 : decode method_3_code 14 = .ok (.iload_n 2, 1) := by decide +kernel
theorem d2_15 : decode method_3_code 15 = .ok (.ifCond .eq 9, 3) := by decide +kernel
theorem d2_24 : decode method_3_code 24 = .ok (.iconst 1, 1) := by decide +kernel
theorem d2_25 : decode method_3_code 25 = .ok (.goto 4, 3) := by decide +kernel
theorem d2_29 : decode method_3_code 29 = .ok (.ireturn, 1) := by decide +kernel
set_option maxRecDepth 65536 in
set_option maxHeartbeats 40000000 in
theorem rm2b (l : Launch) (Z : State) (a0 : Array Value) (hw : ∀ d ∈ tables_1, d.before a0 Z = true) (ws : List Jvm.Cond) (x : Int32) (y : Int32) (z : Int32) (h0 : Heap) (n0 : Nat) (Z0 : n0 ≤ h0.size) (hc3 : ¬ (x = (13 : Int32))) (hc11 : x = (10 : Int32)) (hc15 : z = (0 : Int32)) :
    MetFree l (⟨"com/example/libsitemap/libsitemap/LineCounterTakePinLaw", "expect", "(IIZ)Z"⟩ : MethodName) (head1 (Jvm.Cond.code (⟨"com/example/libsitemap/libsitemap/LineCounterTakePinLaw", "expect", "(IIZ)Z"⟩ : MethodName) method_3_code 3 (some .boolean) :: ws) ({ frames := 0, cells := 0, slots := 0, locals := 0 } : Room)) (fun aa_ U => aa_ = #[(.int x), (.int y), (.int z)] ∧ Z.Warmed39 U.vm ∧ U.heap = h0) (fun _ _ _ _ _ => True) (fun _ U o U' => ∃ v L, o = .returned v ∧ Qrm2 Z x y z h0 n0 v U'.heap L ∧ FrameEnd U o U' L ({ frames := 0, cells := 0, slots := 0, locals := 0 } : Room).cells ({ frames := 0, cells := 0, slots := 0, locals := 0 } : Room).slots) := by
  refine MetFree.of_bodySF (plainFor_of_name pn_0) hisR ?_
  intro p e s m args below meth c s₁ Bd hml0 hP hK
  obtain ⟨rfl, hZ, hh⟩ := hP
  have hx := Bd.exec
  have hby := Bd.bytes
  have hml : c.maxLocals = 3 := hml0
  have hown : s.vm.findClass "com/example/libsitemap/libsitemap/LineCounterTakePinLaw" = some m.cls := findClass_of_methodNamed Bd.named
  have hnm := (name_of_methodNamed Bd.named Bd.method).1
  have X0 : Stand p l e ({ frames := 0, cells := 0, slots := 0, locals := 0 } : Room) s m #[(.int x), (.int y), (.int z)] below meth c s₁ [] 0 0 := Stand.of_body Bd
  have e0 : s₁.heap = h0 := by rw [← hh, Bd.state]; rfl
  have N0 := Fr.nil n0
  have pre0 : ∀ tt_, Steps p.tables e below (s₁.setTop (mkF m 0 #[.val (.int x), .val (.int y), .val (.int z)] [])) tt_ → Steps p.tables e below (s₁.setTop (entryFrame m #[(.int x), (.int y), (.int z)] 3)) tt_ := fun tt_ kk_ => castTop (ef_2 m x y z) kk_
  obtain ⟨fs, hr, hrun, hended, hW, hsame⟩ := X0.leave (v := some (.int (1 : Int32))) (fun h => by rw [Bd.returns] at h; cases h)
  refine ⟨_, _, pre0 _ ?_, hrun, hended, _, _, rfl, ?_, ⟨_, rfl⟩, hW, hsame.mono (by decide) (by decide)⟩
  · show Steps p.tables e below (s₁.setTop (mkF m 0 #[.val (.int x), .val (.int y), .val (.int z)] [])) _
    refine XS.iloadN X0.here hx rfl (hb hby d2_0) rfl ?_
    show Steps p.tables e below (s₁.setTop (mkF m 1 #[.val (.int x), .val (.int y), .val (.int z)] [(.int x)])) _
    refine XS.bipush X0.here hx rfl (hb hby d2_1) ?_
    show Steps p.tables e below (s₁.setTop (mkF m 3 #[.val (.int x), .val (.int y), .val (.int z)] [(.int (13 : Int32)), (.int x)])) _
    refine XS.icmpYes X0.here hx rfl (pc0 := 3) (pc' := 8) rfl (hb hby d2_3) rfl (feq (show ¬ (x = (13 : Int32)) from hc3)).2 (by decide) (by decide) ?_
    show Steps p.tables e below (s₁.setTop (mkF m 8 #[.val (.int x), .val (.int y), .val (.int z)] [])) _
    refine XS.iloadN X0.here hx rfl (hb hby d2_8) rfl ?_
    show Steps p.tables e below (s₁.setTop (mkF m 9 #[.val (.int x), .val (.int y), .val (.int z)] [(.int x)])) _
    refine XS.bipush X0.here hx rfl (hb hby d2_9) ?_
    show Steps p.tables e below (s₁.setTop (mkF m 11 #[.val (.int x), .val (.int y), .val (.int z)] [(.int (10 : Int32)), (.int x)])) _
    refine XS.icmpNo X0.here hx rfl (hb hby d2_11) rfl (teq (show x = (10 : Int32) from hc11)).2 ?_
    show Steps p.tables e below (s₁.setTop (mkF m 14 #[.val (.int x), .val (.int y), .val (.int z)] [])) _
    refine XS.iloadN X0.here hx rfl (hb hby d2_14) rfl ?_
    show Steps p.tables e below (s₁.setTop (mkF m 15 #[.val (.int x), .val (.int y), .val (.int z)] [(.int z)])) _
    refine XS.ifYes X0.here hx rfl (pc0 := 15) (pc' := 24) rfl (hb hby d2_15) rfl ((if0 _ _).trans (teq (show z = (0 : Int32) from hc15)).1) (by decide) (by decide) ?_
    show Steps p.tables e below (s₁.setTop (mkF m 24 #[.val (.int x), .val (.int y), .val (.int z)] [])) _
    refine XS.iconst X0.here hx rfl (hb hby d2_24) ?_
    show Steps p.tables e below (s₁.setTop (mkF m 25 #[.val (.int x), .val (.int y), .val (.int z)] [(.int (1 : Int32))])) _
    refine XS.goto X0.here hx rfl (pc0 := 25) (pc' := 29) rfl (hb hby d2_25) (by decide) (by decide) ?_
    show Steps p.tables e below (s₁.setTop (mkF m 29 #[.val (.int x), .val (.int y), .val (.int z)] [(.int (1 : Int32))])) _
    exact retN X0 hx (t := .boolean) Bd.returns (by simp) (hb hby d2_29) hr
  · show Qrm2 Z x y z h0 n0 _ s₁.heap _
    rw [e0]
    exact ⟨by rw [own_exp, if_neg hc3, if_pos hc11, if_pos hc15], N0, rfl⟩
theorem d2_18 : decode method_3_code 18 = .ok (.iload_n 1, 1) := by decide +kernel
theorem d2_19 : decode method_3_code 19 = .ok (.bipush 13, 2) := by decide +kernel
theorem d2_21 : decode method_3_code 21 = .ok (.if_icmp .eq 7, 3) := by decide +kernel
theorem d2_28 : decode method_3_code 28 = .ok (.iconst 0, 1) := by decide +kernel
set_option maxRecDepth 65536 in
set_option maxHeartbeats 40000000 in
theorem rm2c (l : Launch) (Z : State) (a0 : Array Value) (hw : ∀ d ∈ tables_1, d.before a0 Z = true) (ws : List Jvm.Cond) (x : Int32) (y : Int32) (z : Int32) (h0 : Heap) (n0 : Nat) (Z0 : n0 ≤ h0.size) (hc3 : ¬ (x = (13 : Int32))) (hc11 : x = (10 : Int32)) (hc15 : ¬ (z = (0 : Int32))) (hc21 : y = (13 : Int32)) :
    MetFree l (⟨"com/example/libsitemap/libsitemap/LineCounterTakePinLaw", "expect", "(IIZ)Z"⟩ : MethodName) (head1 (Jvm.Cond.code (⟨"com/example/libsitemap/libsitemap/LineCounterTakePinLaw", "expect", "(IIZ)Z"⟩ : MethodName) method_3_code 3 (some .boolean) :: ws) ({ frames := 0, cells := 0, slots := 0, locals := 0 } : Room)) (fun aa_ U => aa_ = #[(.int x), (.int y), (.int z)] ∧ Z.Warmed39 U.vm ∧ U.heap = h0) (fun _ _ _ _ _ => True) (fun _ U o U' => ∃ v L, o = .returned v ∧ Qrm2 Z x y z h0 n0 v U'.heap L ∧ FrameEnd U o U' L ({ frames := 0, cells := 0, slots := 0, locals := 0 } : Room).cells ({ frames := 0, cells := 0, slots := 0, locals := 0 } : Room).slots) := by
  refine MetFree.of_bodySF (plainFor_of_name pn_0) hisR ?_
  intro p e s m args below meth c s₁ Bd hml0 hP hK
  obtain ⟨rfl, hZ, hh⟩ := hP
  have hx := Bd.exec
  have hby := Bd.bytes
  have hml : c.maxLocals = 3 := hml0
  have hown : s.vm.findClass "com/example/libsitemap/libsitemap/LineCounterTakePinLaw" = some m.cls := findClass_of_methodNamed Bd.named
  have hnm := (name_of_methodNamed Bd.named Bd.method).1
  have X0 : Stand p l e ({ frames := 0, cells := 0, slots := 0, locals := 0 } : Room) s m #[(.int x), (.int y), (.int z)] below meth c s₁ [] 0 0 := Stand.of_body Bd
  have e0 : s₁.heap = h0 := by rw [← hh, Bd.state]; rfl
  have N0 := Fr.nil n0
  have pre0 : ∀ tt_, Steps p.tables e below (s₁.setTop (mkF m 0 #[.val (.int x), .val (.int y), .val (.int z)] [])) tt_ → Steps p.tables e below (s₁.setTop (entryFrame m #[(.int x), (.int y), (.int z)] 3)) tt_ := fun tt_ kk_ => castTop (ef_2 m x y z) kk_
  obtain ⟨fs, hr, hrun, hended, hW, hsame⟩ := X0.leave (v := some (.int (0 : Int32))) (fun h => by rw [Bd.returns] at h; cases h)
  refine ⟨_, _, pre0 _ ?_, hrun, hended, _, _, rfl, ?_, ⟨_, rfl⟩, hW, hsame.mono (by decide) (by decide)⟩
  · show Steps p.tables e below (s₁.setTop (mkF m 0 #[.val (.int x), .val (.int y), .val (.int z)] [])) _
    refine XS.iloadN X0.here hx rfl (hb hby d2_0) rfl ?_
    show Steps p.tables e below (s₁.setTop (mkF m 1 #[.val (.int x), .val (.int y), .val (.int z)] [(.int x)])) _
    refine XS.bipush X0.here hx rfl (hb hby d2_1) ?_
    show Steps p.tables e below (s₁.setTop (mkF m 3 #[.val (.int x), .val (.int y), .val (.int z)] [(.int (13 : Int32)), (.int x)])) _
    refine XS.icmpYes X0.here hx rfl (pc0 := 3) (pc' := 8) rfl (hb hby d2_3) rfl (feq (show ¬ (x = (13 : Int32)) from hc3)).2 (by decide) (by decide) ?_
    show Steps p.tables e below (s₁.setTop (mkF m 8 #[.val (.int x), .val (.int y), .val (.int z)] [])) _
    refine XS.iloadN X0.here hx rfl (hb hby d2_8) rfl ?_
    show Steps p.tables e below (s₁.setTop (mkF m 9 #[.val (.int x), .val (.int y), .val (.int z)] [(.int x)])) _
    refine XS.bipush X0.here hx rfl (hb hby d2_9) ?_
    show Steps p.tables e below (s₁.setTop (mkF m 11 #[.val (.int x), .val (.int y), .val (.int z)] [(.int (10 : Int32)), (.int x)])) _
    refine XS.icmpNo X0.here hx rfl (hb hby d2_11) rfl (teq (show x = (10 : Int32) from hc11)).2 ?_
    show Steps p.tables e below (s₁.setTop (mkF m 14 #[.val (.int x), .val (.int y), .val (.int z)] [])) _
    refine XS.iloadN X0.here hx rfl (hb hby d2_14) rfl ?_
    show Steps p.tables e below (s₁.setTop (mkF m 15 #[.val (.int x), .val (.int y), .val (.int z)] [(.int z)])) _
    refine XS.ifNo X0.here hx rfl (hb hby d2_15) rfl ((if0 _ _).trans (feq (show ¬ (z = (0 : Int32)) from hc15)).1) ?_
    show Steps p.tables e below (s₁.setTop (mkF m 18 #[.val (.int x), .val (.int y), .val (.int z)] [])) _
    refine XS.iloadN X0.here hx rfl (hb hby d2_18) rfl ?_
    show Steps p.tables e below (s₁.setTop (mkF m 19 #[.val (.int x), .val (.int y), .val (.int z)] [(.int y)])) _
    refine XS.bipush X0.here hx rfl (hb hby d2_19) ?_
    show Steps p.tables e below (s₁.setTop (mkF m 21 #[.val (.int x), .val (.int y), .val (.int z)] [(.int (13 : Int32)), (.int y)])) _
    refine XS.icmpYes X0.here hx rfl (pc0 := 21) (pc' := 28) rfl (hb hby d2_21) rfl (teq (show y = (13 : Int32) from hc21)).1 (by decide) (by decide) ?_
    show Steps p.tables e below (s₁.setTop (mkF m 28 #[.val (.int x), .val (.int y), .val (.int z)] [])) _
    refine XS.iconst X0.here hx rfl (hb hby d2_28) ?_
    show Steps p.tables e below (s₁.setTop (mkF m 29 #[.val (.int x), .val (.int y), .val (.int z)] [(.int (0 : Int32))])) _
    exact retN X0 hx (t := .boolean) Bd.returns (by simp) (hb hby d2_29) hr
  · show Qrm2 Z x y z h0 n0 _ s₁.heap _
    rw [e0]
    exact ⟨by rw [own_exp, if_neg hc3, if_pos hc11, if_neg hc15, if_pos hc21], N0, rfl⟩
set_option maxRecDepth 65536 in
set_option maxHeartbeats 40000000 in
theorem rm2d (l : Launch) (Z : State) (a0 : Array Value) (hw : ∀ d ∈ tables_1, d.before a0 Z = true) (ws : List Jvm.Cond) (x : Int32) (y : Int32) (z : Int32) (h0 : Heap) (n0 : Nat) (Z0 : n0 ≤ h0.size) (hc3 : ¬ (x = (13 : Int32))) (hc11 : x = (10 : Int32)) (hc15 : ¬ (z = (0 : Int32))) (hc21 : ¬ (y = (13 : Int32))) :
    MetFree l (⟨"com/example/libsitemap/libsitemap/LineCounterTakePinLaw", "expect", "(IIZ)Z"⟩ : MethodName) (head1 (Jvm.Cond.code (⟨"com/example/libsitemap/libsitemap/LineCounterTakePinLaw", "expect", "(IIZ)Z"⟩ : MethodName) method_3_code 3 (some .boolean) :: ws) ({ frames := 0, cells := 0, slots := 0, locals := 0 } : Room)) (fun aa_ U => aa_ = #[(.int x), (.int y), (.int z)] ∧ Z.Warmed39 U.vm ∧ U.heap = h0) (fun _ _ _ _ _ => True) (fun _ U o U' => ∃ v L, o = .returned v ∧ Qrm2 Z x y z h0 n0 v U'.heap L ∧ FrameEnd U o U' L ({ frames := 0, cells := 0, slots := 0, locals := 0 } : Room).cells ({ frames := 0, cells := 0, slots := 0, locals := 0 } : Room).slots) := by
  refine MetFree.of_bodySF (plainFor_of_name pn_0) hisR ?_
  intro p e s m args below meth c s₁ Bd hml0 hP hK
  obtain ⟨rfl, hZ, hh⟩ := hP
  have hx := Bd.exec
  have hby := Bd.bytes
  have hml : c.maxLocals = 3 := hml0
  have hown : s.vm.findClass "com/example/libsitemap/libsitemap/LineCounterTakePinLaw" = some m.cls := findClass_of_methodNamed Bd.named
  have hnm := (name_of_methodNamed Bd.named Bd.method).1
  have X0 : Stand p l e ({ frames := 0, cells := 0, slots := 0, locals := 0 } : Room) s m #[(.int x), (.int y), (.int z)] below meth c s₁ [] 0 0 := Stand.of_body Bd
  have e0 : s₁.heap = h0 := by rw [← hh, Bd.state]; rfl
  have N0 := Fr.nil n0
  have pre0 : ∀ tt_, Steps p.tables e below (s₁.setTop (mkF m 0 #[.val (.int x), .val (.int y), .val (.int z)] [])) tt_ → Steps p.tables e below (s₁.setTop (entryFrame m #[(.int x), (.int y), (.int z)] 3)) tt_ := fun tt_ kk_ => castTop (ef_2 m x y z) kk_
  obtain ⟨fs, hr, hrun, hended, hW, hsame⟩ := X0.leave (v := some (.int (1 : Int32))) (fun h => by rw [Bd.returns] at h; cases h)
  refine ⟨_, _, pre0 _ ?_, hrun, hended, _, _, rfl, ?_, ⟨_, rfl⟩, hW, hsame.mono (by decide) (by decide)⟩
  · show Steps p.tables e below (s₁.setTop (mkF m 0 #[.val (.int x), .val (.int y), .val (.int z)] [])) _
    refine XS.iloadN X0.here hx rfl (hb hby d2_0) rfl ?_
    show Steps p.tables e below (s₁.setTop (mkF m 1 #[.val (.int x), .val (.int y), .val (.int z)] [(.int x)])) _
    refine XS.bipush X0.here hx rfl (hb hby d2_1) ?_
    show Steps p.tables e below (s₁.setTop (mkF m 3 #[.val (.int x), .val (.int y), .val (.int z)] [(.int (13 : Int32)), (.int x)])) _
    refine XS.icmpYes X0.here hx rfl (pc0 := 3) (pc' := 8) rfl (hb hby d2_3) rfl (feq (show ¬ (x = (13 : Int32)) from hc3)).2 (by decide) (by decide) ?_
    show Steps p.tables e below (s₁.setTop (mkF m 8 #[.val (.int x), .val (.int y), .val (.int z)] [])) _
    refine XS.iloadN X0.here hx rfl (hb hby d2_8) rfl ?_
    show Steps p.tables e below (s₁.setTop (mkF m 9 #[.val (.int x), .val (.int y), .val (.int z)] [(.int x)])) _
    refine XS.bipush X0.here hx rfl (hb hby d2_9) ?_
    show Steps p.tables e below (s₁.setTop (mkF m 11 #[.val (.int x), .val (.int y), .val (.int z)] [(.int (10 : Int32)), (.int x)])) _
    refine XS.icmpNo X0.here hx rfl (hb hby d2_11) rfl (teq (show x = (10 : Int32) from hc11)).2 ?_
    show Steps p.tables e below (s₁.setTop (mkF m 14 #[.val (.int x), .val (.int y), .val (.int z)] [])) _
    refine XS.iloadN X0.here hx rfl (hb hby d2_14) rfl ?_
    show Steps p.tables e below (s₁.setTop (mkF m 15 #[.val (.int x), .val (.int y), .val (.int z)] [(.int z)])) _
    refine XS.ifNo X0.here hx rfl (hb hby d2_15) rfl ((if0 _ _).trans (feq (show ¬ (z = (0 : Int32)) from hc15)).1) ?_
    show Steps p.tables e below (s₁.setTop (mkF m 18 #[.val (.int x), .val (.int y), .val (.int z)] [])) _
    refine XS.iloadN X0.here hx rfl (hb hby d2_18) rfl ?_
    show Steps p.tables e below (s₁.setTop (mkF m 19 #[.val (.int x), .val (.int y), .val (.int z)] [(.int y)])) _
    refine XS.bipush X0.here hx rfl (hb hby d2_19) ?_
    show Steps p.tables e below (s₁.setTop (mkF m 21 #[.val (.int x), .val (.int y), .val (.int z)] [(.int (13 : Int32)), (.int y)])) _
    refine XS.icmpNo X0.here hx rfl (hb hby d2_21) rfl (feq (show ¬ (y = (13 : Int32)) from hc21)).1 ?_
    show Steps p.tables e below (s₁.setTop (mkF m 24 #[.val (.int x), .val (.int y), .val (.int z)] [])) _
    refine XS.iconst X0.here hx rfl (hb hby d2_24) ?_
    show Steps p.tables e below (s₁.setTop (mkF m 25 #[.val (.int x), .val (.int y), .val (.int z)] [(.int (1 : Int32))])) _
    refine XS.goto X0.here hx rfl (pc0 := 25) (pc' := 29) rfl (hb hby d2_25) (by decide) (by decide) ?_
    show Steps p.tables e below (s₁.setTop (mkF m 29 #[.val (.int x), .val (.int y), .val (.int z)] [(.int (1 : Int32))])) _
    exact retN X0 hx (t := .boolean) Bd.returns (by simp) (hb hby d2_29) hr
  · show Qrm2 Z x y z h0 n0 _ s₁.heap _
    rw [e0]
    exact ⟨by rw [own_exp, if_neg hc3, if_pos hc11, if_neg hc15, if_neg hc21], N0, rfl⟩
theorem d2_30 : decode method_3_code 30 = .ok (.iconst 0, 1) := by decide +kernel
theorem d2_31 : decode method_3_code 31 = .ok (.ireturn, 1) := by decide +kernel
set_option maxRecDepth 65536 in
set_option maxHeartbeats 40000000 in
theorem rm2e (l : Launch) (Z : State) (a0 : Array Value) (hw : ∀ d ∈ tables_1, d.before a0 Z = true) (ws : List Jvm.Cond) (x : Int32) (y : Int32) (z : Int32) (h0 : Heap) (n0 : Nat) (Z0 : n0 ≤ h0.size) (hc3 : ¬ (x = (13 : Int32))) (hc11 : ¬ (x = (10 : Int32))) :
    MetFree l (⟨"com/example/libsitemap/libsitemap/LineCounterTakePinLaw", "expect", "(IIZ)Z"⟩ : MethodName) (head1 (Jvm.Cond.code (⟨"com/example/libsitemap/libsitemap/LineCounterTakePinLaw", "expect", "(IIZ)Z"⟩ : MethodName) method_3_code 3 (some .boolean) :: ws) ({ frames := 0, cells := 0, slots := 0, locals := 0 } : Room)) (fun aa_ U => aa_ = #[(.int x), (.int y), (.int z)] ∧ Z.Warmed39 U.vm ∧ U.heap = h0) (fun _ _ _ _ _ => True) (fun _ U o U' => ∃ v L, o = .returned v ∧ Qrm2 Z x y z h0 n0 v U'.heap L ∧ FrameEnd U o U' L ({ frames := 0, cells := 0, slots := 0, locals := 0 } : Room).cells ({ frames := 0, cells := 0, slots := 0, locals := 0 } : Room).slots) := by
  refine MetFree.of_bodySF (plainFor_of_name pn_0) hisR ?_
  intro p e s m args below meth c s₁ Bd hml0 hP hK
  obtain ⟨rfl, hZ, hh⟩ := hP
  have hx := Bd.exec
  have hby := Bd.bytes
  have hml : c.maxLocals = 3 := hml0
  have hown : s.vm.findClass "com/example/libsitemap/libsitemap/LineCounterTakePinLaw" = some m.cls := findClass_of_methodNamed Bd.named
  have hnm := (name_of_methodNamed Bd.named Bd.method).1
  have X0 : Stand p l e ({ frames := 0, cells := 0, slots := 0, locals := 0 } : Room) s m #[(.int x), (.int y), (.int z)] below meth c s₁ [] 0 0 := Stand.of_body Bd
  have e0 : s₁.heap = h0 := by rw [← hh, Bd.state]; rfl
  have N0 := Fr.nil n0
  have pre0 : ∀ tt_, Steps p.tables e below (s₁.setTop (mkF m 0 #[.val (.int x), .val (.int y), .val (.int z)] [])) tt_ → Steps p.tables e below (s₁.setTop (entryFrame m #[(.int x), (.int y), (.int z)] 3)) tt_ := fun tt_ kk_ => castTop (ef_2 m x y z) kk_
  obtain ⟨fs, hr, hrun, hended, hW, hsame⟩ := X0.leave (v := some (.int (0 : Int32))) (fun h => by rw [Bd.returns] at h; cases h)
  refine ⟨_, _, pre0 _ ?_, hrun, hended, _, _, rfl, ?_, ⟨_, rfl⟩, hW, hsame.mono (by decide) (by decide)⟩
  · show Steps p.tables e below (s₁.setTop (mkF m 0 #[.val (.int x), .val (.int y), .val (.int z)] [])) _
    refine XS.iloadN X0.here hx rfl (hb hby d2_0) rfl ?_
    show Steps p.tables e below (s₁.setTop (mkF m 1 #[.val (.int x), .val (.int y), .val (.int z)] [(.int x)])) _
    refine XS.bipush X0.here hx rfl (hb hby d2_1) ?_
    show Steps p.tables e below (s₁.setTop (mkF m 3 #[.val (.int x), .val (.int y), .val (.int z)] [(.int (13 : Int32)), (.int x)])) _
    refine XS.icmpYes X0.here hx rfl (pc0 := 3) (pc' := 8) rfl (hb hby d2_3) rfl (feq (show ¬ (x = (13 : Int32)) from hc3)).2 (by decide) (by decide) ?_
    show Steps p.tables e below (s₁.setTop (mkF m 8 #[.val (.int x), .val (.int y), .val (.int z)] [])) _
    refine XS.iloadN X0.here hx rfl (hb hby d2_8) rfl ?_
    show Steps p.tables e below (s₁.setTop (mkF m 9 #[.val (.int x), .val (.int y), .val (.int z)] [(.int x)])) _
    refine XS.bipush X0.here hx rfl (hb hby d2_9) ?_
    show Steps p.tables e below (s₁.setTop (mkF m 11 #[.val (.int x), .val (.int y), .val (.int z)] [(.int (10 : Int32)), (.int x)])) _
    refine XS.icmpYes X0.here hx rfl (pc0 := 11) (pc' := 30) rfl (hb hby d2_11) rfl (feq (show ¬ (x = (10 : Int32)) from hc11)).2 (by decide) (by decide) ?_
    show Steps p.tables e below (s₁.setTop (mkF m 30 #[.val (.int x), .val (.int y), .val (.int z)] [])) _
    refine XS.iconst X0.here hx rfl (hb hby d2_30) ?_
    show Steps p.tables e below (s₁.setTop (mkF m 31 #[.val (.int x), .val (.int y), .val (.int z)] [(.int (0 : Int32))])) _
    exact retN X0 hx (t := .boolean) Bd.returns (by simp) (hb hby d2_31) hr
  · show Qrm2 Z x y z h0 n0 _ s₁.heap _
    rw [e0]
    exact ⟨by rw [own_exp, if_neg hc3, if_neg hc11], N0, rfl⟩
theorem rm2 (l : Launch) (Z : State) (a0 : Array Value) (hw : ∀ d ∈ tables_1, d.before a0 Z = true) (ws : List Jvm.Cond) (x : Int32) (y : Int32) (z : Int32) (h0 : Heap) (n0 : Nat) (Z0 : n0 ≤ h0.size) :
    MetFree l (⟨"com/example/libsitemap/libsitemap/LineCounterTakePinLaw", "expect", "(IIZ)Z"⟩ : MethodName) (head1 (Jvm.Cond.code (⟨"com/example/libsitemap/libsitemap/LineCounterTakePinLaw", "expect", "(IIZ)Z"⟩ : MethodName) method_3_code 3 (some .boolean) :: ws) ({ frames := 0, cells := 0, slots := 0, locals := 0 } : Room)) (fun aa_ U => aa_ = #[(.int x), (.int y), (.int z)] ∧ Z.Warmed39 U.vm ∧ U.heap = h0) (fun _ _ _ _ _ => True) (fun _ U o U' => ∃ v L, o = .returned v ∧ Qrm2 Z x y z h0 n0 v U'.heap L ∧ FrameEnd U o U' L ({ frames := 0, cells := 0, slots := 0, locals := 0 } : Room).cells ({ frames := 0, cells := 0, slots := 0, locals := 0 } : Room).slots) := by
  by_cases h1 : x = (13 : Int32)
  · exact rm2a l Z a0 hw ws x y z h0 n0 Z0  h1
  by_cases h2 : x = (10 : Int32)
  · by_cases h3 : z = (0 : Int32)
    · exact rm2b l Z a0 hw ws x y z h0 n0 Z0  h1 h2 h3
    · by_cases h4 : y = (13 : Int32)
      · exact rm2c l Z a0 hw ws x y z h0 n0 Z0  h1 h2 h3 h4
      · exact rm2d l Z a0 hw ws x y z h0 n0 Z0  h1 h2 h3 h4
  · exact rm2e l Z a0 hw ws x y z h0 n0 Z0  h1 h2
theorem d3_0 : decode prog_23_method_1_code 0 = .ok (.aload_n 0, 1) := by decide +kernel
theorem d3_1 : decode prog_23_method_1_code 1 = .ok (.invokespecial 1, 3) := by decide +kernel
theorem d3_4 : decode prog_23_method_1_code 4 = .ok (.return_, 1) := by decide +kernel
theorem pn_1 : plainName "com/example/libsitemap/libsitemap/LineCounter" = true := by first | (simp [plainName, overriddenIn]; done) | decide +kernel
theorem ef_3 (m : MethodId) (x0 : Addr) : entryFrame m #[(.ref x0)] 1 = mkF m 0 #[.val (.ref x0)] [] := by first | (simp [entryFrame, mkF, argsToLocals, Value.category]; done) | rfl
def Qrm3 (Z : State) (a : Addr) (h0 : Heap) (n0 : Nat) (v : Option Value) (h : Heap) (L : List Loc) : Prop := v = none ∧ Fr n0 L ∧ h = h0
set_option maxRecDepth 65536 in
set_option maxHeartbeats 40000000 in
theorem rm3 (l : Launch) (Z : State) (a0 : Array Value) (hw : ∀ d ∈ tables_1, d.before a0 Z = true) (ws : List Jvm.Cond) (a : Addr) (h0 : Heap) (n0 : Nat) (Z0 : n0 ≤ h0.size) :
    MetFree l (⟨"com/example/libsitemap/libsitemap/LineCounter", "<init>", "()V"⟩ : MethodName) (head1 (Jvm.Cond.code (⟨"com/example/libsitemap/libsitemap/LineCounter", "<init>", "()V"⟩ : MethodName) prog_23_method_1_code 1 none :: ws) ({ frames := 1, cells := 0, slots := 0, locals := 12 } : Room)) (fun aa_ U => aa_ = #[(.ref a)] ∧ Z.Warmed39 U.vm ∧ U.heap = h0) (fun _ _ _ _ _ => True) (fun _ U o U' => ∃ v L, o = .returned v ∧ Qrm3 Z a h0 n0 v U'.heap L ∧ FrameEnd U o U' L ({ frames := 1, cells := 0, slots := 0, locals := 12 } : Room).cells ({ frames := 1, cells := 0, slots := 0, locals := 12 } : Room).slots) := by
  refine MetFree.of_bodySF (plainFor_of_name pn_1) hisR ?_
  intro p e s m args below meth c s₁ Bd hml0 hP hK
  obtain ⟨rfl, hZ, hh⟩ := hP
  have hx := Bd.exec
  have hby := Bd.bytes
  have hml : c.maxLocals = 1 := hml0
  have hown : s.vm.findClass "com/example/libsitemap/libsitemap/LineCounter" = some m.cls := findClass_of_methodNamed Bd.named
  have hnm := (name_of_methodNamed Bd.named Bd.method).1
  have X0 : Stand p l e ({ frames := 1, cells := 0, slots := 0, locals := 12 } : Room) s m #[(.ref a)] below meth c s₁ [] 0 0 := Stand.of_body Bd
  have e0 : s₁.heap = h0 := by rw [← hh, Bd.state]; rfl
  have N0 := Fr.nil n0
  have pre0 : ∀ tt_, Steps p.tables e below (s₁.setTop (mkF m 0 #[.val (.ref a)] [])) tt_ → Steps p.tables e below (s₁.setTop (entryFrame m #[(.ref a)] 1)) tt_ := fun tt_ kk_ => castTop (ef_3 m a) kk_
  obtain ⟨T1, X1, e1, st1⟩ := initO X0 hx hZ hown (hw _ (List.mem_of_getElem? (i := 13) rfl)) (hw _ (List.mem_of_getElem? (i := 14) rfl)) (hw _ (List.mem_of_getElem? (i := 15) rfl)) e0 (g := (mkF m 1 #[.val (.ref a)] [(.ref a)])) rfl (by rw [hml]; rfl) rfl (hb hby d3_1) (by decide) (W := 0) (by show 2 * 0 + _ ≤ _; exact Nat.le_of_eq rfl) (by decide)
  obtain ⟨fs, hr, hrun, hended, hW, hsame⟩ := X1.leave (v := none) (fun _ => rfl)
  refine ⟨_, _, pre0 _ ?_, hrun, hended, _, _, rfl, ?_, ⟨_, rfl⟩, hW, hsame.mono (by decide) (by decide)⟩
  · show Steps p.tables e below (s₁.setTop (mkF m 0 #[.val (.ref a)] [])) _
    refine XS.aloadN X0.here hx rfl (hb hby d3_0) rfl rfl ?_
    show Steps p.tables e below (s₁.setTop (mkF m 1 #[.val (.ref a)] [(.ref a)])) _
    refine st1 _ ?_
    show Steps p.tables e below (T1.setTop (mkF m 4 #[.val (.ref a)] [])) _
    exact X1.returnOut hx Bd.returns (hb hby d3_4) hr
  · show Qrm3 Z a h0 n0 _ T1.heap _
    rw [e1]
    exact ⟨rfl, N0, rfl⟩
theorem d5_0 : decode prog_23_method_3_code 0 = .ok (.aload_n 0, 1) := by decide +kernel
theorem d5_1 : decode prog_23_method_3_code 1 = .ok (.getfield 13, 3) := by decide +kernel
theorem d5_4 : decode prog_23_method_3_code 4 = .ok (.ireturn, 1) := by decide +kernel
theorem ef_5 (m : MethodId) (x0 : Addr) : entryFrame m #[(.ref x0)] 1 = mkF m 0 #[.val (.ref x0)] [] := by first | (simp [entryFrame, mkF, argsToLocals, Value.category]; done) | rfl
def Qrm5 (Z : State) (a : Addr) (n : Int32) (h0 : Heap) (n0 : Nat) (v : Option Value) (h : Heap) (L : List Loc) : Prop := v = some (.int n) ∧ Fr n0 L ∧ h = h0
set_option maxRecDepth 65536 in
set_option maxHeartbeats 40000000 in
theorem rm5 (l : Launch) (Z : State) (a0 : Array Value) (hw : ∀ d ∈ tables_1, d.before a0 Z = true) (ws : List Jvm.Cond) (a : Addr) (n : Int32) (h0 : Heap) (n0 : Nat) (Z0 : n0 ≤ h0.size) (F_lineBreaks_a : Fld Z h0 a "com/example/libsitemap/libsitemap/LineCounter" "lineBreaks" "I" (.int n)) :
    MetFree l (⟨"com/example/libsitemap/libsitemap/LineCounter", "lineBreaks", "()I"⟩ : MethodName) (head1 (Jvm.Cond.code (⟨"com/example/libsitemap/libsitemap/LineCounter", "lineBreaks", "()I"⟩ : MethodName) prog_23_method_3_code 1 (some .int) :: ws) ({ frames := 0, cells := 0, slots := 0, locals := 0 } : Room)) (fun aa_ U => aa_ = #[(.ref a)] ∧ Z.Warmed39 U.vm ∧ U.heap = h0) (fun _ _ _ _ _ => True) (fun _ U o U' => ∃ v L, o = .returned v ∧ Qrm5 Z a n h0 n0 v U'.heap L ∧ FrameEnd U o U' L ({ frames := 0, cells := 0, slots := 0, locals := 0 } : Room).cells ({ frames := 0, cells := 0, slots := 0, locals := 0 } : Room).slots) := by
  refine MetFree.of_bodySF (plainFor_of_name pn_1) hisR ?_
  intro p e s m args below meth c s₁ Bd hml0 hP hK
  obtain ⟨rfl, hZ, hh⟩ := hP
  have hx := Bd.exec
  have hby := Bd.bytes
  have hml : c.maxLocals = 1 := hml0
  have hown : s.vm.findClass "com/example/libsitemap/libsitemap/LineCounter" = some m.cls := findClass_of_methodNamed Bd.named
  have hnm := (name_of_methodNamed Bd.named Bd.method).1
  have X0 : Stand p l e ({ frames := 0, cells := 0, slots := 0, locals := 0 } : Room) s m #[(.ref a)] below meth c s₁ [] 0 0 := Stand.of_body Bd
  have e0 : s₁.heap = h0 := by rw [← hh, Bd.state]; rfl
  have N0 := Fr.nil n0
  have pre0 : ∀ tt_, Steps p.tables e below (s₁.setTop (mkF m 0 #[.val (.ref a)] [])) tt_ → Steps p.tables e below (s₁.setTop (entryFrame m #[(.ref a)] 1)) tt_ := fun tt_ kk_ => castTop (ef_5 m a) kk_
  obtain ⟨T1, X1, e1, st1⟩ := getF X0 hx hZ hown (host := "") (Or.inl (hw _ (List.mem_of_getElem? (i := 21) rfl))) Via.refl e0 F_lineBreaks_a (g := (mkF m 1 #[.val (.ref a)] [(.ref a)])) rfl rfl (hb hby d5_1)
  obtain ⟨fs, hr, hrun, hended, hW, hsame⟩ := X1.leave (v := some (.int n)) (fun h => by rw [Bd.returns] at h; cases h)
  refine ⟨_, _, pre0 _ ?_, hrun, hended, _, _, rfl, ?_, ⟨_, rfl⟩, hW, hsame.mono (by decide) (by decide)⟩
  · show Steps p.tables e below (s₁.setTop (mkF m 0 #[.val (.ref a)] [])) _
    refine XS.aloadN X0.here hx rfl (hb hby d5_0) rfl rfl ?_
    show Steps p.tables e below (s₁.setTop (mkF m 1 #[.val (.ref a)] [(.ref a)])) _
    refine st1 _ ?_
    show Steps p.tables e below (T1.setTop (mkF m 4 #[.val (.ref a)] [(.int n)])) _
    exact retI X1 hx Bd.returns (hb hby d5_4) hr
  · show Qrm5 Z a n h0 n0 _ T1.heap _
    rw [e1]
    exact ⟨rfl, N0, rfl⟩
theorem d6_0 : decode prog_23_method_2_code 0 = .ok (.iload_n 1, 1) := by decide +kernel
theorem d6_1 : decode prog_23_method_2_code 1 = .ok (.bipush 13, 2) := by decide +kernel
theorem d6_3 : decode prog_23_method_2_code 3 = .ok (.if_icmp .eq 16, 3) := by decide +kernel
theorem d6_19 : decode prog_23_method_2_code 19 = .ok (.iconst 1, 1) := by decide +kernel
theorem d6_20 : decode prog_23_method_2_code 20 = .ok (.goto 4, 3) := by decide +kernel
theorem d6_24 : decode prog_23_method_2_code 24 = .ok (.istore_n 2, 1) := by decide +kernel
theorem d6_25 : decode prog_23_method_2_code 25 = .ok (.iload_n 2, 1) := by decide +kernel
theorem d6_26 : decode prog_23_method_2_code 26 = .ok (.ifCond .eq 13, 3) := by decide +kernel
theorem d6_29 : decode prog_23_method_2_code 29 = .ok (.aload_n 0, 1) := by decide +kernel
theorem d6_30 : decode prog_23_method_2_code 30 = .ok (.dup, 1) := by decide +kernel
theorem d6_31 : decode prog_23_method_2_code 31 = .ok (.getfield 13, 3) := by decide +kernel
theorem d6_34 : decode prog_23_method_2_code 34 = .ok (.iconst 1, 1) := by decide +kernel
theorem d6_35 : decode prog_23_method_2_code 35 = .ok (.iadd, 1) := by decide +kernel
theorem d6_36 : decode prog_23_method_2_code 36 = .ok (.putfield 13, 3) := by decide +kernel
theorem d6_39 : decode prog_23_method_2_code 39 = .ok (.aload_n 0, 1) := by decide +kernel
theorem d6_40 : decode prog_23_method_2_code 40 = .ok (.iload_n 1, 1) := by decide +kernel
theorem d6_41 : decode prog_23_method_2_code 41 = .ok (.bipush 13, 2) := by decide +kernel
theorem d6_43 : decode prog_23_method_2_code 43 = .ok (.if_icmp .ne 7, 3) := by decide +kernel
theorem d6_46 : decode prog_23_method_2_code 46 = .ok (.iconst 1, 1) := by decide +kernel
theorem d6_47 : decode prog_23_method_2_code 47 = .ok (.goto 4, 3) := by decide +kernel
theorem d6_51 : decode prog_23_method_2_code 51 = .ok (.putfield 7, 3) := by decide +kernel
theorem d6_54 : decode prog_23_method_2_code 54 = .ok (.iload_n 2, 1) := by decide +kernel
theorem d6_55 : decode prog_23_method_2_code 55 = .ok (.ireturn, 1) := by decide +kernel
theorem ef_6 (m : MethodId) (x0 : Addr) (x1 : Int32) : entryFrame m #[(.ref x0), (.int x1)] 3 = mkF m 0 #[.val (.ref x0), .val (.int x1), .unset] [] := by first | (simp [entryFrame, mkF, argsToLocals, Value.category]; done) | rfl
def Qrm6 (Z : State) (a : Addr) (x : Int32) (n : Int32) (k : Int32) (h0 : Heap) (n0 : Nat) (v : Option Value) (h : Heap) (L : List Loc) : Prop := v = some (.int (own_take x k)) ∧ Fr n0 L ∧ Keep h0 h [a] ∧ Exa Z h a "com/example/libsitemap/libsitemap/LineCounter" ∧ Fld Z h a "com/example/libsitemap/libsitemap/LineCounter" "lineBreaks" "I" (.int (n + own_take x k)) ∧ Fld Z h a "com/example/libsitemap/libsitemap/LineCounter" "afterCarriageReturn" "Z" (.int (if x = 13 then 1 else 0))
set_option maxRecDepth 65536 in
set_option maxHeartbeats 40000000 in
theorem rm6a (l : Launch) (Z : State) (a0 : Array Value) (hw : ∀ d ∈ tables_1, d.before a0 Z = true) (ws : List Jvm.Cond) (a : Addr) (x : Int32) (n : Int32) (k : Int32) (h0 : Heap) (n0 : Nat) (Z0 : n0 ≤ h0.size) (E_a : Exa Z h0 a "com/example/libsitemap/libsitemap/LineCounter") (F_lineBreaks_a : Fld Z h0 a "com/example/libsitemap/libsitemap/LineCounter" "lineBreaks" "I" (.int n)) (F_afterCarriageReturn_a : Fld Z h0 a "com/example/libsitemap/libsitemap/LineCounter" "afterCarriageReturn" "Z" (.int k)) (g_a : n0 ≤ a) (hc3 : x = (13 : Int32)) :
    MetFree l (⟨"com/example/libsitemap/libsitemap/LineCounter", "take", "(I)Z"⟩ : MethodName) (head1 (Jvm.Cond.code (⟨"com/example/libsitemap/libsitemap/LineCounter", "take", "(I)Z"⟩ : MethodName) prog_23_method_2_code 3 (some .boolean) :: ws) ({ frames := 0, cells := 0, slots := 0, locals := 0 } : Room)) (fun aa_ U => aa_ = #[(.ref a), (.int x)] ∧ Z.Warmed39 U.vm ∧ U.heap = h0) (fun _ _ _ _ _ => True) (fun _ U o U' => ∃ v L, o = .returned v ∧ Qrm6 Z a x n k h0 n0 v U'.heap L ∧ FrameEnd U o U' L ({ frames := 0, cells := 0, slots := 0, locals := 0 } : Room).cells ({ frames := 0, cells := 0, slots := 0, locals := 0 } : Room).slots) := by
  refine MetFree.of_bodySF (plainFor_of_name pn_1) hisR ?_
  intro p e s m args below meth c s₁ Bd hml0 hP hK
  obtain ⟨rfl, hZ, hh⟩ := hP
  have hx := Bd.exec
  have hby := Bd.bytes
  have hml : c.maxLocals = 3 := hml0
  have hown : s.vm.findClass "com/example/libsitemap/libsitemap/LineCounter" = some m.cls := findClass_of_methodNamed Bd.named
  have hnm := (name_of_methodNamed Bd.named Bd.method).1
  have X0 : Stand p l e ({ frames := 0, cells := 0, slots := 0, locals := 0 } : Room) s m #[(.ref a), (.int x)] below meth c s₁ [] 0 0 := Stand.of_body Bd
  have e0 : s₁.heap = h0 := by rw [← hh, Bd.state]; rfl
  have N0 := Fr.nil n0
  have pre0 : ∀ tt_, Steps p.tables e below (s₁.setTop (mkF m 0 #[.val (.ref a), .val (.int x), .unset] [])) tt_ → Steps p.tables e below (s₁.setTop (entryFrame m #[(.ref a), (.int x)] 3)) tt_ := fun tt_ kk_ => castTop (ef_6 m a x) kk_
  obtain ⟨T1, X1, e1, st1⟩ := getF X0 hx hZ hown (host := "") (Or.inl (hw _ (List.mem_of_getElem? (i := 21) rfl))) Via.refl e0 F_lineBreaks_a (g := (mkF m 31 #[.val (.ref a), .val (.int x), .val (.int (1 : Int32))] [(.ref a), (.ref a)])) rfl rfl (hb hby d6_31)
  obtain ⟨T2, h2, X2, e2, W2, st2⟩ := putF X1 hx hZ hown (host := "") (Or.inl (hw _ (List.mem_of_getElem? (i := 21) rfl))) Via.refl e1 F_lineBreaks_a E_a (Or.inl (hw _ (List.mem_of_getElem? (i := 22) rfl))) (hw _ (List.mem_of_getElem? (i := 8) rfl)) (ty := .int) (by decide) rfl rfl (g := (mkF m 36 #[.val (.ref a), .val (.int x), .val (.int (1 : Int32))] [(.int (n + (1 : Int32))), (.ref a)])) rfl rfl (hb hby d6_36)
  have N2 := Fr.snoc X2 N0 g_a
  have Fw2 := F_lineBreaks_a.same W2
  have f3_E_a := (E_a.wr W2)
  have f4_F_a_afterCarriageReturn := (F_afterCarriageReturn_a.other W2 (Or.inr (slot_ne (Or.inl (hw _ (List.mem_of_getElem? (i := 29) rfl))) (Or.inl (hw _ (List.mem_of_getElem? (i := 22) rfl))) (by decide) (t := .boolean) (t' := .int) (by decide) (by decide))))
  obtain ⟨T5, h5, X5, e5, W5, st5⟩ := putFN X2 hx hZ hown (hw _ (List.mem_of_getElem? (i := 28) rfl)) Via.refl e2 f4_F_a_afterCarriageReturn f3_E_a (Or.inl (hw _ (List.mem_of_getElem? (i := 29) rfl))) (hw _ (List.mem_of_getElem? (i := 8) rfl)) (ty := .boolean) (v' := (.int (1 : Int32))) (by decide) rfl (by first | exact fits_nar_bool _ | rfl) (g := (mkF m 51 #[.val (.ref a), .val (.int x), .val (.int (1 : Int32))] [(.int (1 : Int32)), (.ref a)])) rfl rfl (hb hby d6_51)
  have N5 := Fr.snoc X5 N2 g_a
  have Fw5 := f4_F_a_afterCarriageReturn.same W5
  have f6_F_a_lineBreaks := (Fw2.other W5 (Or.inr (slot_ne (Or.inl (hw _ (List.mem_of_getElem? (i := 22) rfl))) (Or.inl (hw _ (List.mem_of_getElem? (i := 29) rfl))) (by decide) (t := .int) (t' := .boolean) (by decide) (by decide))))
  have rc7 : Fld Z h5 a "com/example/libsitemap/libsitemap/LineCounter" "lineBreaks" "I" (.int (n + own_take x k)) := by rw [show ((.int (n + own_take x k)) : Value) = (.int (n + (1 : Int32))) from by rw [own_take, if_pos (Or.inl hc3)]]; exact f6_F_a_lineBreaks
  have rc8 : Fld Z h5 a "com/example/libsitemap/libsitemap/LineCounter" "afterCarriageReturn" "Z" (.int (if x = 13 then 1 else 0)) := by rw [show ((.int (if x = 13 then 1 else 0)) : Value) = (.int (1 : Int32)) from by rw [if_pos hc3]]; exact Fw5
  have kp9 : Keep h0 h5 [a] := (((Keep.refl h0 [a]).wr W2 (Or.inl (List.mem_of_getElem? (i := 0) rfl))).wr W5 (Or.inl (List.mem_of_getElem? (i := 0) rfl)))
  have f10_E_a := (f3_E_a.wr W5)
  obtain ⟨fs, hr, hrun, hended, hW, hsame⟩ := X5.leave (v := some (.int (1 : Int32))) (fun h => by rw [Bd.returns] at h; cases h)
  refine ⟨_, _, pre0 _ ?_, hrun, hended, _, _, rfl, ?_, ⟨_, rfl⟩, hW, hsame.mono (by decide) (by decide)⟩
  · show Steps p.tables e below (s₁.setTop (mkF m 0 #[.val (.ref a), .val (.int x), .unset] [])) _
    refine XS.iloadN X0.here hx rfl (hb hby d6_0) rfl ?_
    show Steps p.tables e below (s₁.setTop (mkF m 1 #[.val (.ref a), .val (.int x), .unset] [(.int x)])) _
    refine XS.bipush X0.here hx rfl (hb hby d6_1) ?_
    show Steps p.tables e below (s₁.setTop (mkF m 3 #[.val (.ref a), .val (.int x), .unset] [(.int (13 : Int32)), (.int x)])) _
    refine XS.icmpYes X0.here hx rfl (pc0 := 3) (pc' := 19) rfl (hb hby d6_3) rfl (teq (show x = (13 : Int32) from hc3)).1 (by decide) (by decide) ?_
    show Steps p.tables e below (s₁.setTop (mkF m 19 #[.val (.ref a), .val (.int x), .unset] [])) _
    refine XS.iconst X0.here hx rfl (hb hby d6_19) ?_
    show Steps p.tables e below (s₁.setTop (mkF m 20 #[.val (.ref a), .val (.int x), .unset] [(.int (1 : Int32))])) _
    refine XS.goto X0.here hx rfl (pc0 := 20) (pc' := 24) rfl (hb hby d6_20) (by decide) (by decide) ?_
    show Steps p.tables e below (s₁.setTop (mkF m 24 #[.val (.ref a), .val (.int x), .unset] [(.int (1 : Int32))])) _
    refine XS.istoreN X0.here hx rfl (hb hby d6_24) rfl (l' := #[.val (.ref a), .val (.int x), .val (.int (1 : Int32))]) rfl ?_
    show Steps p.tables e below (s₁.setTop (mkF m 25 #[.val (.ref a), .val (.int x), .val (.int (1 : Int32))] [])) _
    refine XS.iloadN X0.here hx rfl (hb hby d6_25) rfl ?_
    show Steps p.tables e below (s₁.setTop (mkF m 26 #[.val (.ref a), .val (.int x), .val (.int (1 : Int32))] [(.int (1 : Int32))])) _
    refine XS.ifNo X0.here hx rfl (hb hby d6_26) rfl ((if0 _ _).trans (feq (show ¬ ((1 : Int32) = (0 : Int32)) from (by decide))).1) ?_
    show Steps p.tables e below (s₁.setTop (mkF m 29 #[.val (.ref a), .val (.int x), .val (.int (1 : Int32))] [])) _
    refine XS.aloadN X0.here hx rfl (hb hby d6_29) rfl rfl ?_
    show Steps p.tables e below (s₁.setTop (mkF m 30 #[.val (.ref a), .val (.int x), .val (.int (1 : Int32))] [(.ref a)])) _
    refine XS.dup X0.here hx rfl (hb hby d6_30) rfl rfl ?_
    show Steps p.tables e below (s₁.setTop (mkF m 31 #[.val (.ref a), .val (.int x), .val (.int (1 : Int32))] [(.ref a), (.ref a)])) _
    refine st1 _ ?_
    show Steps p.tables e below (T1.setTop (mkF m 34 #[.val (.ref a), .val (.int x), .val (.int (1 : Int32))] [(.int n), (.ref a)])) _
    refine XS.iconst X1.here hx rfl (hb hby d6_34) ?_
    show Steps p.tables e below (T1.setTop (mkF m 35 #[.val (.ref a), .val (.int x), .val (.int (1 : Int32))] [(.int (1 : Int32)), (.int n), (.ref a)])) _
    refine XS.iadd X1.here hx rfl (hb hby d6_35) rfl ?_
    show Steps p.tables e below (T1.setTop (mkF m 36 #[.val (.ref a), .val (.int x), .val (.int (1 : Int32))] [(.int (n + (1 : Int32))), (.ref a)])) _
    refine st2 _ ?_
    show Steps p.tables e below (T2.setTop (mkF m 39 #[.val (.ref a), .val (.int x), .val (.int (1 : Int32))] [])) _
    refine XS.aloadN X2.here hx rfl (hb hby d6_39) rfl rfl ?_
    show Steps p.tables e below (T2.setTop (mkF m 40 #[.val (.ref a), .val (.int x), .val (.int (1 : Int32))] [(.ref a)])) _
    refine XS.iloadN X2.here hx rfl (hb hby d6_40) rfl ?_
    show Steps p.tables e below (T2.setTop (mkF m 41 #[.val (.ref a), .val (.int x), .val (.int (1 : Int32))] [(.int x), (.ref a)])) _
    refine XS.bipush X2.here hx rfl (hb hby d6_41) ?_
    show Steps p.tables e below (T2.setTop (mkF m 43 #[.val (.ref a), .val (.int x), .val (.int (1 : Int32))] [(.int (13 : Int32)), (.int x), (.ref a)])) _
    refine XS.icmpNo X2.here hx rfl (hb hby d6_43) rfl (teq (show x = (13 : Int32) from hc3)).2 ?_
    show Steps p.tables e below (T2.setTop (mkF m 46 #[.val (.ref a), .val (.int x), .val (.int (1 : Int32))] [(.ref a)])) _
    refine XS.iconst X2.here hx rfl (hb hby d6_46) ?_
    show Steps p.tables e below (T2.setTop (mkF m 47 #[.val (.ref a), .val (.int x), .val (.int (1 : Int32))] [(.int (1 : Int32)), (.ref a)])) _
    refine XS.goto X2.here hx rfl (pc0 := 47) (pc' := 51) rfl (hb hby d6_47) (by decide) (by decide) ?_
    show Steps p.tables e below (T2.setTop (mkF m 51 #[.val (.ref a), .val (.int x), .val (.int (1 : Int32))] [(.int (1 : Int32)), (.ref a)])) _
    refine st5 _ ?_
    show Steps p.tables e below (T5.setTop (mkF m 54 #[.val (.ref a), .val (.int x), .val (.int (1 : Int32))] [])) _
    refine XS.iloadN X5.here hx rfl (hb hby d6_54) rfl ?_
    show Steps p.tables e below (T5.setTop (mkF m 55 #[.val (.ref a), .val (.int x), .val (.int (1 : Int32))] [(.int (1 : Int32))])) _
    exact retN X5 hx (t := .boolean) Bd.returns (by simp) (hb hby d6_55) hr
  · show Qrm6 Z a x n k h0 n0 _ T5.heap _
    rw [e5]
    exact ⟨by rw [own_take, if_pos (Or.inl hc3)], N5, kp9, f10_E_a, rc7, rc8⟩
theorem d6_6 : decode prog_23_method_2_code 6 = .ok (.iload_n 1, 1) := by decide +kernel
theorem d6_7 : decode prog_23_method_2_code 7 = .ok (.bipush 10, 2) := by decide +kernel
theorem d6_9 : decode prog_23_method_2_code 9 = .ok (.if_icmp .ne 14, 3) := by decide +kernel
theorem d6_12 : decode prog_23_method_2_code 12 = .ok (.aload_n 0, 1) := by decide +kernel
theorem d6_13 : decode prog_23_method_2_code 13 = .ok (.getfield 7, 3) := by decide +kernel
theorem d6_16 : decode prog_23_method_2_code 16 = .ok (.ifCond .ne 7, 3) := by decide +kernel
theorem d6_23 : decode prog_23_method_2_code 23 = .ok (.iconst 0, 1) := by decide +kernel
theorem d6_50 : decode prog_23_method_2_code 50 = .ok (.iconst 0, 1) := by decide +kernel
set_option maxRecDepth 65536 in
set_option maxHeartbeats 40000000 in
theorem rm6b (l : Launch) (Z : State) (a0 : Array Value) (hw : ∀ d ∈ tables_1, d.before a0 Z = true) (ws : List Jvm.Cond) (a : Addr) (x : Int32) (n : Int32) (k : Int32) (h0 : Heap) (n0 : Nat) (Z0 : n0 ≤ h0.size) (E_a : Exa Z h0 a "com/example/libsitemap/libsitemap/LineCounter") (F_lineBreaks_a : Fld Z h0 a "com/example/libsitemap/libsitemap/LineCounter" "lineBreaks" "I" (.int n)) (F_afterCarriageReturn_a : Fld Z h0 a "com/example/libsitemap/libsitemap/LineCounter" "afterCarriageReturn" "Z" (.int k)) (g_a : n0 ≤ a) (hc3 : ¬ (x = (13 : Int32))) (hc9 : x = (10 : Int32)) (hc16 : ¬ (k = (0 : Int32))) :
    MetFree l (⟨"com/example/libsitemap/libsitemap/LineCounter", "take", "(I)Z"⟩ : MethodName) (head1 (Jvm.Cond.code (⟨"com/example/libsitemap/libsitemap/LineCounter", "take", "(I)Z"⟩ : MethodName) prog_23_method_2_code 3 (some .boolean) :: ws) ({ frames := 0, cells := 0, slots := 0, locals := 0 } : Room)) (fun aa_ U => aa_ = #[(.ref a), (.int x)] ∧ Z.Warmed39 U.vm ∧ U.heap = h0) (fun _ _ _ _ _ => True) (fun _ U o U' => ∃ v L, o = .returned v ∧ Qrm6 Z a x n k h0 n0 v U'.heap L ∧ FrameEnd U o U' L ({ frames := 0, cells := 0, slots := 0, locals := 0 } : Room).cells ({ frames := 0, cells := 0, slots := 0, locals := 0 } : Room).slots) := by
  refine MetFree.of_bodySF (plainFor_of_name pn_1) hisR ?_
  intro p e s m args below meth c s₁ Bd hml0 hP hK
  obtain ⟨rfl, hZ, hh⟩ := hP
  have hx := Bd.exec
  have hby := Bd.bytes
  have hml : c.maxLocals = 3 := hml0
  have hown : s.vm.findClass "com/example/libsitemap/libsitemap/LineCounter" = some m.cls := findClass_of_methodNamed Bd.named
  have hnm := (name_of_methodNamed Bd.named Bd.method).1
  have X0 : Stand p l e ({ frames := 0, cells := 0, slots := 0, locals := 0 } : Room) s m #[(.ref a), (.int x)] below meth c s₁ [] 0 0 := Stand.of_body Bd
  have e0 : s₁.heap = h0 := by rw [← hh, Bd.state]; rfl
  have N0 := Fr.nil n0
  have pre0 : ∀ tt_, Steps p.tables e below (s₁.setTop (mkF m 0 #[.val (.ref a), .val (.int x), .unset] [])) tt_ → Steps p.tables e below (s₁.setTop (entryFrame m #[(.ref a), (.int x)] 3)) tt_ := fun tt_ kk_ => castTop (ef_6 m a x) kk_
  obtain ⟨T1, X1, e1, st1⟩ := getF X0 hx hZ hown (host := "") (Or.inl (hw _ (List.mem_of_getElem? (i := 28) rfl))) Via.refl e0 F_afterCarriageReturn_a (g := (mkF m 13 #[.val (.ref a), .val (.int x), .unset] [(.ref a)])) rfl rfl (hb hby d6_13)
  obtain ⟨T2, h2, X2, e2, W2, st2⟩ := putFN X1 hx hZ hown (hw _ (List.mem_of_getElem? (i := 28) rfl)) Via.refl e1 F_afterCarriageReturn_a E_a (Or.inl (hw _ (List.mem_of_getElem? (i := 29) rfl))) (hw _ (List.mem_of_getElem? (i := 8) rfl)) (ty := .boolean) (v' := (.int (0 : Int32))) (by decide) rfl (by first | exact fits_nar_bool _ | rfl) (g := (mkF m 51 #[.val (.ref a), .val (.int x), .val (.int (0 : Int32))] [(.int (0 : Int32)), (.ref a)])) rfl rfl (hb hby d6_51)
  have N2 := Fr.snoc X2 N0 g_a
  have Fw2 := F_afterCarriageReturn_a.same W2
  have f3_F_a_lineBreaks := (F_lineBreaks_a.other W2 (Or.inr (slot_ne (Or.inl (hw _ (List.mem_of_getElem? (i := 22) rfl))) (Or.inl (hw _ (List.mem_of_getElem? (i := 29) rfl))) (by decide) (t := .int) (t' := .boolean) (by decide) (by decide))))
  have rc4 : Fld Z h2 a "com/example/libsitemap/libsitemap/LineCounter" "lineBreaks" "I" (.int (n + own_take x k)) := by rw [show ((.int (n + own_take x k)) : Value) = (.int n) from by rw [own_take, if_neg (fun q => q.elim hc3 (fun q => hc16 q.2)), Int32.add_zero]]; exact f3_F_a_lineBreaks
  have rc5 : Fld Z h2 a "com/example/libsitemap/libsitemap/LineCounter" "afterCarriageReturn" "Z" (.int (if x = 13 then 1 else 0)) := by rw [show ((.int (if x = 13 then 1 else 0)) : Value) = (.int (0 : Int32)) from by rw [if_neg hc3]]; exact Fw2
  have kp6 : Keep h0 h2 [a] := ((Keep.refl h0 [a]).wr W2 (Or.inl (List.mem_of_getElem? (i := 0) rfl)))
  have f7_E_a := (E_a.wr W2)
  obtain ⟨fs, hr, hrun, hended, hW, hsame⟩ := X2.leave (v := some (.int (0 : Int32))) (fun h => by rw [Bd.returns] at h; cases h)
  refine ⟨_, _, pre0 _ ?_, hrun, hended, _, _, rfl, ?_, ⟨_, rfl⟩, hW, hsame.mono (by decide) (by decide)⟩
  · show Steps p.tables e below (s₁.setTop (mkF m 0 #[.val (.ref a), .val (.int x), .unset] [])) _
    refine XS.iloadN X0.here hx rfl (hb hby d6_0) rfl ?_
    show Steps p.tables e below (s₁.setTop (mkF m 1 #[.val (.ref a), .val (.int x), .unset] [(.int x)])) _
    refine XS.bipush X0.here hx rfl (hb hby d6_1) ?_
    show Steps p.tables e below (s₁.setTop (mkF m 3 #[.val (.ref a), .val (.int x), .unset] [(.int (13 : Int32)), (.int x)])) _
    refine XS.icmpNo X0.here hx rfl (hb hby d6_3) rfl (feq (show ¬ (x = (13 : Int32)) from hc3)).1 ?_
    show Steps p.tables e below (s₁.setTop (mkF m 6 #[.val (.ref a), .val (.int x), .unset] [])) _
    refine XS.iloadN X0.here hx rfl (hb hby d6_6) rfl ?_
    show Steps p.tables e below (s₁.setTop (mkF m 7 #[.val (.ref a), .val (.int x), .unset] [(.int x)])) _
    refine XS.bipush X0.here hx rfl (hb hby d6_7) ?_
    show Steps p.tables e below (s₁.setTop (mkF m 9 #[.val (.ref a), .val (.int x), .unset] [(.int (10 : Int32)), (.int x)])) _
    refine XS.icmpNo X0.here hx rfl (hb hby d6_9) rfl (teq (show x = (10 : Int32) from hc9)).2 ?_
    show Steps p.tables e below (s₁.setTop (mkF m 12 #[.val (.ref a), .val (.int x), .unset] [])) _
    refine XS.aloadN X0.here hx rfl (hb hby d6_12) rfl rfl ?_
    show Steps p.tables e below (s₁.setTop (mkF m 13 #[.val (.ref a), .val (.int x), .unset] [(.ref a)])) _
    refine st1 _ ?_
    show Steps p.tables e below (T1.setTop (mkF m 16 #[.val (.ref a), .val (.int x), .unset] [(.int k)])) _
    refine XS.ifYes X1.here hx rfl (pc0 := 16) (pc' := 23) rfl (hb hby d6_16) rfl ((if0 _ _).trans (feq (show ¬ (k = (0 : Int32)) from hc16)).2) (by decide) (by decide) ?_
    show Steps p.tables e below (T1.setTop (mkF m 23 #[.val (.ref a), .val (.int x), .unset] [])) _
    refine XS.iconst X1.here hx rfl (hb hby d6_23) ?_
    show Steps p.tables e below (T1.setTop (mkF m 24 #[.val (.ref a), .val (.int x), .unset] [(.int (0 : Int32))])) _
    refine XS.istoreN X1.here hx rfl (hb hby d6_24) rfl (l' := #[.val (.ref a), .val (.int x), .val (.int (0 : Int32))]) rfl ?_
    show Steps p.tables e below (T1.setTop (mkF m 25 #[.val (.ref a), .val (.int x), .val (.int (0 : Int32))] [])) _
    refine XS.iloadN X1.here hx rfl (hb hby d6_25) rfl ?_
    show Steps p.tables e below (T1.setTop (mkF m 26 #[.val (.ref a), .val (.int x), .val (.int (0 : Int32))] [(.int (0 : Int32))])) _
    refine XS.ifYes X1.here hx rfl (pc0 := 26) (pc' := 39) rfl (hb hby d6_26) rfl ((if0 _ _).trans (teq (show (0 : Int32) = (0 : Int32) from rfl)).1) (by decide) (by decide) ?_
    show Steps p.tables e below (T1.setTop (mkF m 39 #[.val (.ref a), .val (.int x), .val (.int (0 : Int32))] [])) _
    refine XS.aloadN X1.here hx rfl (hb hby d6_39) rfl rfl ?_
    show Steps p.tables e below (T1.setTop (mkF m 40 #[.val (.ref a), .val (.int x), .val (.int (0 : Int32))] [(.ref a)])) _
    refine XS.iloadN X1.here hx rfl (hb hby d6_40) rfl ?_
    show Steps p.tables e below (T1.setTop (mkF m 41 #[.val (.ref a), .val (.int x), .val (.int (0 : Int32))] [(.int x), (.ref a)])) _
    refine XS.bipush X1.here hx rfl (hb hby d6_41) ?_
    show Steps p.tables e below (T1.setTop (mkF m 43 #[.val (.ref a), .val (.int x), .val (.int (0 : Int32))] [(.int (13 : Int32)), (.int x), (.ref a)])) _
    refine XS.icmpYes X1.here hx rfl (pc0 := 43) (pc' := 50) rfl (hb hby d6_43) rfl (feq (show ¬ (x = (13 : Int32)) from hc3)).2 (by decide) (by decide) ?_
    show Steps p.tables e below (T1.setTop (mkF m 50 #[.val (.ref a), .val (.int x), .val (.int (0 : Int32))] [(.ref a)])) _
    refine XS.iconst X1.here hx rfl (hb hby d6_50) ?_
    show Steps p.tables e below (T1.setTop (mkF m 51 #[.val (.ref a), .val (.int x), .val (.int (0 : Int32))] [(.int (0 : Int32)), (.ref a)])) _
    refine st2 _ ?_
    show Steps p.tables e below (T2.setTop (mkF m 54 #[.val (.ref a), .val (.int x), .val (.int (0 : Int32))] [])) _
    refine XS.iloadN X2.here hx rfl (hb hby d6_54) rfl ?_
    show Steps p.tables e below (T2.setTop (mkF m 55 #[.val (.ref a), .val (.int x), .val (.int (0 : Int32))] [(.int (0 : Int32))])) _
    exact retN X2 hx (t := .boolean) Bd.returns (by simp) (hb hby d6_55) hr
  · show Qrm6 Z a x n k h0 n0 _ T2.heap _
    rw [e2]
    exact ⟨by rw [own_take, if_neg (fun q => q.elim hc3 (fun q => hc16 q.2))], N2, kp6, f7_E_a, rc4, rc5⟩
set_option maxRecDepth 65536 in
set_option maxHeartbeats 40000000 in
theorem rm6c (l : Launch) (Z : State) (a0 : Array Value) (hw : ∀ d ∈ tables_1, d.before a0 Z = true) (ws : List Jvm.Cond) (a : Addr) (x : Int32) (n : Int32) (k : Int32) (h0 : Heap) (n0 : Nat) (Z0 : n0 ≤ h0.size) (E_a : Exa Z h0 a "com/example/libsitemap/libsitemap/LineCounter") (F_lineBreaks_a : Fld Z h0 a "com/example/libsitemap/libsitemap/LineCounter" "lineBreaks" "I" (.int n)) (F_afterCarriageReturn_a : Fld Z h0 a "com/example/libsitemap/libsitemap/LineCounter" "afterCarriageReturn" "Z" (.int k)) (g_a : n0 ≤ a) (hc3 : ¬ (x = (13 : Int32))) (hc9 : x = (10 : Int32)) (hc16 : k = (0 : Int32)) :
    MetFree l (⟨"com/example/libsitemap/libsitemap/LineCounter", "take", "(I)Z"⟩ : MethodName) (head1 (Jvm.Cond.code (⟨"com/example/libsitemap/libsitemap/LineCounter", "take", "(I)Z"⟩ : MethodName) prog_23_method_2_code 3 (some .boolean) :: ws) ({ frames := 0, cells := 0, slots := 0, locals := 0 } : Room)) (fun aa_ U => aa_ = #[(.ref a), (.int x)] ∧ Z.Warmed39 U.vm ∧ U.heap = h0) (fun _ _ _ _ _ => True) (fun _ U o U' => ∃ v L, o = .returned v ∧ Qrm6 Z a x n k h0 n0 v U'.heap L ∧ FrameEnd U o U' L ({ frames := 0, cells := 0, slots := 0, locals := 0 } : Room).cells ({ frames := 0, cells := 0, slots := 0, locals := 0 } : Room).slots) := by
  refine MetFree.of_bodySF (plainFor_of_name pn_1) hisR ?_
  intro p e s m args below meth c s₁ Bd hml0 hP hK
  obtain ⟨rfl, hZ, hh⟩ := hP
  have hx := Bd.exec
  have hby := Bd.bytes
  have hml : c.maxLocals = 3 := hml0
  have hown : s.vm.findClass "com/example/libsitemap/libsitemap/LineCounter" = some m.cls := findClass_of_methodNamed Bd.named
  have hnm := (name_of_methodNamed Bd.named Bd.method).1
  have X0 : Stand p l e ({ frames := 0, cells := 0, slots := 0, locals := 0 } : Room) s m #[(.ref a), (.int x)] below meth c s₁ [] 0 0 := Stand.of_body Bd
  have e0 : s₁.heap = h0 := by rw [← hh, Bd.state]; rfl
  have N0 := Fr.nil n0
  have pre0 : ∀ tt_, Steps p.tables e below (s₁.setTop (mkF m 0 #[.val (.ref a), .val (.int x), .unset] [])) tt_ → Steps p.tables e below (s₁.setTop (entryFrame m #[(.ref a), (.int x)] 3)) tt_ := fun tt_ kk_ => castTop (ef_6 m a x) kk_
  obtain ⟨T1, X1, e1, st1⟩ := getF X0 hx hZ hown (host := "") (Or.inl (hw _ (List.mem_of_getElem? (i := 28) rfl))) Via.refl e0 F_afterCarriageReturn_a (g := (mkF m 13 #[.val (.ref a), .val (.int x), .unset] [(.ref a)])) rfl rfl (hb hby d6_13)
  obtain ⟨T2, X2, e2, st2⟩ := getF X1 hx hZ hown (host := "") (Or.inl (hw _ (List.mem_of_getElem? (i := 21) rfl))) Via.refl e1 F_lineBreaks_a (g := (mkF m 31 #[.val (.ref a), .val (.int x), .val (.int (1 : Int32))] [(.ref a), (.ref a)])) rfl rfl (hb hby d6_31)
  obtain ⟨T3, h3, X3, e3, W3, st3⟩ := putF X2 hx hZ hown (host := "") (Or.inl (hw _ (List.mem_of_getElem? (i := 21) rfl))) Via.refl e2 F_lineBreaks_a E_a (Or.inl (hw _ (List.mem_of_getElem? (i := 22) rfl))) (hw _ (List.mem_of_getElem? (i := 8) rfl)) (ty := .int) (by decide) rfl rfl (g := (mkF m 36 #[.val (.ref a), .val (.int x), .val (.int (1 : Int32))] [(.int (n + (1 : Int32))), (.ref a)])) rfl rfl (hb hby d6_36)
  have N3 := Fr.snoc X3 N0 g_a
  have Fw3 := F_lineBreaks_a.same W3
  have f4_E_a := (E_a.wr W3)
  have f5_F_a_afterCarriageReturn := (F_afterCarriageReturn_a.other W3 (Or.inr (slot_ne (Or.inl (hw _ (List.mem_of_getElem? (i := 29) rfl))) (Or.inl (hw _ (List.mem_of_getElem? (i := 22) rfl))) (by decide) (t := .boolean) (t' := .int) (by decide) (by decide))))
  obtain ⟨T6, h6, X6, e6, W6, st6⟩ := putFN X3 hx hZ hown (hw _ (List.mem_of_getElem? (i := 28) rfl)) Via.refl e3 f5_F_a_afterCarriageReturn f4_E_a (Or.inl (hw _ (List.mem_of_getElem? (i := 29) rfl))) (hw _ (List.mem_of_getElem? (i := 8) rfl)) (ty := .boolean) (v' := (.int (0 : Int32))) (by decide) rfl (by first | exact fits_nar_bool _ | rfl) (g := (mkF m 51 #[.val (.ref a), .val (.int x), .val (.int (1 : Int32))] [(.int (0 : Int32)), (.ref a)])) rfl rfl (hb hby d6_51)
  have N6 := Fr.snoc X6 N3 g_a
  have Fw6 := f5_F_a_afterCarriageReturn.same W6
  have f7_F_a_lineBreaks := (Fw3.other W6 (Or.inr (slot_ne (Or.inl (hw _ (List.mem_of_getElem? (i := 22) rfl))) (Or.inl (hw _ (List.mem_of_getElem? (i := 29) rfl))) (by decide) (t := .int) (t' := .boolean) (by decide) (by decide))))
  have rc8 : Fld Z h6 a "com/example/libsitemap/libsitemap/LineCounter" "lineBreaks" "I" (.int (n + own_take x k)) := by rw [show ((.int (n + own_take x k)) : Value) = (.int (n + (1 : Int32))) from by rw [own_take, if_pos (Or.inr ⟨hc9, hc16⟩)]]; exact f7_F_a_lineBreaks
  have rc9 : Fld Z h6 a "com/example/libsitemap/libsitemap/LineCounter" "afterCarriageReturn" "Z" (.int (if x = 13 then 1 else 0)) := by rw [show ((.int (if x = 13 then 1 else 0)) : Value) = (.int (0 : Int32)) from by rw [if_neg hc3]]; exact Fw6
  have kp10 : Keep h0 h6 [a] := (((Keep.refl h0 [a]).wr W3 (Or.inl (List.mem_of_getElem? (i := 0) rfl))).wr W6 (Or.inl (List.mem_of_getElem? (i := 0) rfl)))
  have f11_E_a := (f4_E_a.wr W6)
  obtain ⟨fs, hr, hrun, hended, hW, hsame⟩ := X6.leave (v := some (.int (1 : Int32))) (fun h => by rw [Bd.returns] at h; cases h)
  refine ⟨_, _, pre0 _ ?_, hrun, hended, _, _, rfl, ?_, ⟨_, rfl⟩, hW, hsame.mono (by decide) (by decide)⟩
  · show Steps p.tables e below (s₁.setTop (mkF m 0 #[.val (.ref a), .val (.int x), .unset] [])) _
    refine XS.iloadN X0.here hx rfl (hb hby d6_0) rfl ?_
    show Steps p.tables e below (s₁.setTop (mkF m 1 #[.val (.ref a), .val (.int x), .unset] [(.int x)])) _
    refine XS.bipush X0.here hx rfl (hb hby d6_1) ?_
    show Steps p.tables e below (s₁.setTop (mkF m 3 #[.val (.ref a), .val (.int x), .unset] [(.int (13 : Int32)), (.int x)])) _
    refine XS.icmpNo X0.here hx rfl (hb hby d6_3) rfl (feq (show ¬ (x = (13 : Int32)) from hc3)).1 ?_
    show Steps p.tables e below (s₁.setTop (mkF m 6 #[.val (.ref a), .val (.int x), .unset] [])) _
    refine XS.iloadN X0.here hx rfl (hb hby d6_6) rfl ?_
    show Steps p.tables e below (s₁.setTop (mkF m 7 #[.val (.ref a), .val (.int x), .unset] [(.int x)])) _
    refine XS.bipush X0.here hx rfl (hb hby d6_7) ?_
    show Steps p.tables e below (s₁.setTop (mkF m 9 #[.val (.ref a), .val (.int x), .unset] [(.int (10 : Int32)), (.int x)])) _
    refine XS.icmpNo X0.here hx rfl (hb hby d6_9) rfl (teq (show x = (10 : Int32) from hc9)).2 ?_
    show Steps p.tables e below (s₁.setTop (mkF m 12 #[.val (.ref a), .val (.int x), .unset] [])) _
    refine XS.aloadN X0.here hx rfl (hb hby d6_12) rfl rfl ?_
    show Steps p.tables e below (s₁.setTop (mkF m 13 #[.val (.ref a), .val (.int x), .unset] [(.ref a)])) _
    refine st1 _ ?_
    show Steps p.tables e below (T1.setTop (mkF m 16 #[.val (.ref a), .val (.int x), .unset] [(.int k)])) _
    refine XS.ifNo X1.here hx rfl (hb hby d6_16) rfl ((if0 _ _).trans (teq (show k = (0 : Int32) from hc16)).2) ?_
    show Steps p.tables e below (T1.setTop (mkF m 19 #[.val (.ref a), .val (.int x), .unset] [])) _
    refine XS.iconst X1.here hx rfl (hb hby d6_19) ?_
    show Steps p.tables e below (T1.setTop (mkF m 20 #[.val (.ref a), .val (.int x), .unset] [(.int (1 : Int32))])) _
    refine XS.goto X1.here hx rfl (pc0 := 20) (pc' := 24) rfl (hb hby d6_20) (by decide) (by decide) ?_
    show Steps p.tables e below (T1.setTop (mkF m 24 #[.val (.ref a), .val (.int x), .unset] [(.int (1 : Int32))])) _
    refine XS.istoreN X1.here hx rfl (hb hby d6_24) rfl (l' := #[.val (.ref a), .val (.int x), .val (.int (1 : Int32))]) rfl ?_
    show Steps p.tables e below (T1.setTop (mkF m 25 #[.val (.ref a), .val (.int x), .val (.int (1 : Int32))] [])) _
    refine XS.iloadN X1.here hx rfl (hb hby d6_25) rfl ?_
    show Steps p.tables e below (T1.setTop (mkF m 26 #[.val (.ref a), .val (.int x), .val (.int (1 : Int32))] [(.int (1 : Int32))])) _
    refine XS.ifNo X1.here hx rfl (hb hby d6_26) rfl ((if0 _ _).trans (feq (show ¬ ((1 : Int32) = (0 : Int32)) from (by decide))).1) ?_
    show Steps p.tables e below (T1.setTop (mkF m 29 #[.val (.ref a), .val (.int x), .val (.int (1 : Int32))] [])) _
    refine XS.aloadN X1.here hx rfl (hb hby d6_29) rfl rfl ?_
    show Steps p.tables e below (T1.setTop (mkF m 30 #[.val (.ref a), .val (.int x), .val (.int (1 : Int32))] [(.ref a)])) _
    refine XS.dup X1.here hx rfl (hb hby d6_30) rfl rfl ?_
    show Steps p.tables e below (T1.setTop (mkF m 31 #[.val (.ref a), .val (.int x), .val (.int (1 : Int32))] [(.ref a), (.ref a)])) _
    refine st2 _ ?_
    show Steps p.tables e below (T2.setTop (mkF m 34 #[.val (.ref a), .val (.int x), .val (.int (1 : Int32))] [(.int n), (.ref a)])) _
    refine XS.iconst X2.here hx rfl (hb hby d6_34) ?_
    show Steps p.tables e below (T2.setTop (mkF m 35 #[.val (.ref a), .val (.int x), .val (.int (1 : Int32))] [(.int (1 : Int32)), (.int n), (.ref a)])) _
    refine XS.iadd X2.here hx rfl (hb hby d6_35) rfl ?_
    show Steps p.tables e below (T2.setTop (mkF m 36 #[.val (.ref a), .val (.int x), .val (.int (1 : Int32))] [(.int (n + (1 : Int32))), (.ref a)])) _
    refine st3 _ ?_
    show Steps p.tables e below (T3.setTop (mkF m 39 #[.val (.ref a), .val (.int x), .val (.int (1 : Int32))] [])) _
    refine XS.aloadN X3.here hx rfl (hb hby d6_39) rfl rfl ?_
    show Steps p.tables e below (T3.setTop (mkF m 40 #[.val (.ref a), .val (.int x), .val (.int (1 : Int32))] [(.ref a)])) _
    refine XS.iloadN X3.here hx rfl (hb hby d6_40) rfl ?_
    show Steps p.tables e below (T3.setTop (mkF m 41 #[.val (.ref a), .val (.int x), .val (.int (1 : Int32))] [(.int x), (.ref a)])) _
    refine XS.bipush X3.here hx rfl (hb hby d6_41) ?_
    show Steps p.tables e below (T3.setTop (mkF m 43 #[.val (.ref a), .val (.int x), .val (.int (1 : Int32))] [(.int (13 : Int32)), (.int x), (.ref a)])) _
    refine XS.icmpYes X3.here hx rfl (pc0 := 43) (pc' := 50) rfl (hb hby d6_43) rfl (feq (show ¬ (x = (13 : Int32)) from hc3)).2 (by decide) (by decide) ?_
    show Steps p.tables e below (T3.setTop (mkF m 50 #[.val (.ref a), .val (.int x), .val (.int (1 : Int32))] [(.ref a)])) _
    refine XS.iconst X3.here hx rfl (hb hby d6_50) ?_
    show Steps p.tables e below (T3.setTop (mkF m 51 #[.val (.ref a), .val (.int x), .val (.int (1 : Int32))] [(.int (0 : Int32)), (.ref a)])) _
    refine st6 _ ?_
    show Steps p.tables e below (T6.setTop (mkF m 54 #[.val (.ref a), .val (.int x), .val (.int (1 : Int32))] [])) _
    refine XS.iloadN X6.here hx rfl (hb hby d6_54) rfl ?_
    show Steps p.tables e below (T6.setTop (mkF m 55 #[.val (.ref a), .val (.int x), .val (.int (1 : Int32))] [(.int (1 : Int32))])) _
    exact retN X6 hx (t := .boolean) Bd.returns (by simp) (hb hby d6_55) hr
  · show Qrm6 Z a x n k h0 n0 _ T6.heap _
    rw [e6]
    exact ⟨by rw [own_take, if_pos (Or.inr ⟨hc9, hc16⟩)], N6, kp10, f11_E_a, rc8, rc9⟩
set_option maxRecDepth 65536 in
set_option maxHeartbeats 40000000 in
theorem rm6e (l : Launch) (Z : State) (a0 : Array Value) (hw : ∀ d ∈ tables_1, d.before a0 Z = true) (ws : List Jvm.Cond) (a : Addr) (x : Int32) (n : Int32) (k : Int32) (h0 : Heap) (n0 : Nat) (Z0 : n0 ≤ h0.size) (E_a : Exa Z h0 a "com/example/libsitemap/libsitemap/LineCounter") (F_lineBreaks_a : Fld Z h0 a "com/example/libsitemap/libsitemap/LineCounter" "lineBreaks" "I" (.int n)) (F_afterCarriageReturn_a : Fld Z h0 a "com/example/libsitemap/libsitemap/LineCounter" "afterCarriageReturn" "Z" (.int k)) (g_a : n0 ≤ a) (hc3 : ¬ (x = (13 : Int32))) (hc9 : ¬ (x = (10 : Int32))) :
    MetFree l (⟨"com/example/libsitemap/libsitemap/LineCounter", "take", "(I)Z"⟩ : MethodName) (head1 (Jvm.Cond.code (⟨"com/example/libsitemap/libsitemap/LineCounter", "take", "(I)Z"⟩ : MethodName) prog_23_method_2_code 3 (some .boolean) :: ws) ({ frames := 0, cells := 0, slots := 0, locals := 0 } : Room)) (fun aa_ U => aa_ = #[(.ref a), (.int x)] ∧ Z.Warmed39 U.vm ∧ U.heap = h0) (fun _ _ _ _ _ => True) (fun _ U o U' => ∃ v L, o = .returned v ∧ Qrm6 Z a x n k h0 n0 v U'.heap L ∧ FrameEnd U o U' L ({ frames := 0, cells := 0, slots := 0, locals := 0 } : Room).cells ({ frames := 0, cells := 0, slots := 0, locals := 0 } : Room).slots) := by
  refine MetFree.of_bodySF (plainFor_of_name pn_1) hisR ?_
  intro p e s m args below meth c s₁ Bd hml0 hP hK
  obtain ⟨rfl, hZ, hh⟩ := hP
  have hx := Bd.exec
  have hby := Bd.bytes
  have hml : c.maxLocals = 3 := hml0
  have hown : s.vm.findClass "com/example/libsitemap/libsitemap/LineCounter" = some m.cls := findClass_of_methodNamed Bd.named
  have hnm := (name_of_methodNamed Bd.named Bd.method).1
  have X0 : Stand p l e ({ frames := 0, cells := 0, slots := 0, locals := 0 } : Room) s m #[(.ref a), (.int x)] below meth c s₁ [] 0 0 := Stand.of_body Bd
  have e0 : s₁.heap = h0 := by rw [← hh, Bd.state]; rfl
  have N0 := Fr.nil n0
  have pre0 : ∀ tt_, Steps p.tables e below (s₁.setTop (mkF m 0 #[.val (.ref a), .val (.int x), .unset] [])) tt_ → Steps p.tables e below (s₁.setTop (entryFrame m #[(.ref a), (.int x)] 3)) tt_ := fun tt_ kk_ => castTop (ef_6 m a x) kk_
  obtain ⟨T1, h1, X1, e1, W1, st1⟩ := putFN X0 hx hZ hown (hw _ (List.mem_of_getElem? (i := 28) rfl)) Via.refl e0 F_afterCarriageReturn_a E_a (Or.inl (hw _ (List.mem_of_getElem? (i := 29) rfl))) (hw _ (List.mem_of_getElem? (i := 8) rfl)) (ty := .boolean) (v' := (.int (0 : Int32))) (by decide) rfl (by first | exact fits_nar_bool _ | rfl) (g := (mkF m 51 #[.val (.ref a), .val (.int x), .val (.int (0 : Int32))] [(.int (0 : Int32)), (.ref a)])) rfl rfl (hb hby d6_51)
  have N1 := Fr.snoc X1 N0 g_a
  have Fw1 := F_afterCarriageReturn_a.same W1
  have f2_F_a_lineBreaks := (F_lineBreaks_a.other W1 (Or.inr (slot_ne (Or.inl (hw _ (List.mem_of_getElem? (i := 22) rfl))) (Or.inl (hw _ (List.mem_of_getElem? (i := 29) rfl))) (by decide) (t := .int) (t' := .boolean) (by decide) (by decide))))
  have rc3 : Fld Z h1 a "com/example/libsitemap/libsitemap/LineCounter" "lineBreaks" "I" (.int (n + own_take x k)) := by rw [show ((.int (n + own_take x k)) : Value) = (.int n) from by rw [own_take, if_neg (fun q => q.elim hc3 (fun q => hc9 q.1)), Int32.add_zero]]; exact f2_F_a_lineBreaks
  have rc4 : Fld Z h1 a "com/example/libsitemap/libsitemap/LineCounter" "afterCarriageReturn" "Z" (.int (if x = 13 then 1 else 0)) := by rw [show ((.int (if x = 13 then 1 else 0)) : Value) = (.int (0 : Int32)) from by rw [if_neg hc3]]; exact Fw1
  have kp5 : Keep h0 h1 [a] := ((Keep.refl h0 [a]).wr W1 (Or.inl (List.mem_of_getElem? (i := 0) rfl)))
  have f6_E_a := (E_a.wr W1)
  obtain ⟨fs, hr, hrun, hended, hW, hsame⟩ := X1.leave (v := some (.int (0 : Int32))) (fun h => by rw [Bd.returns] at h; cases h)
  refine ⟨_, _, pre0 _ ?_, hrun, hended, _, _, rfl, ?_, ⟨_, rfl⟩, hW, hsame.mono (by decide) (by decide)⟩
  · show Steps p.tables e below (s₁.setTop (mkF m 0 #[.val (.ref a), .val (.int x), .unset] [])) _
    refine XS.iloadN X0.here hx rfl (hb hby d6_0) rfl ?_
    show Steps p.tables e below (s₁.setTop (mkF m 1 #[.val (.ref a), .val (.int x), .unset] [(.int x)])) _
    refine XS.bipush X0.here hx rfl (hb hby d6_1) ?_
    show Steps p.tables e below (s₁.setTop (mkF m 3 #[.val (.ref a), .val (.int x), .unset] [(.int (13 : Int32)), (.int x)])) _
    refine XS.icmpNo X0.here hx rfl (hb hby d6_3) rfl (feq (show ¬ (x = (13 : Int32)) from hc3)).1 ?_
    show Steps p.tables e below (s₁.setTop (mkF m 6 #[.val (.ref a), .val (.int x), .unset] [])) _
    refine XS.iloadN X0.here hx rfl (hb hby d6_6) rfl ?_
    show Steps p.tables e below (s₁.setTop (mkF m 7 #[.val (.ref a), .val (.int x), .unset] [(.int x)])) _
    refine XS.bipush X0.here hx rfl (hb hby d6_7) ?_
    show Steps p.tables e below (s₁.setTop (mkF m 9 #[.val (.ref a), .val (.int x), .unset] [(.int (10 : Int32)), (.int x)])) _
    refine XS.icmpYes X0.here hx rfl (pc0 := 9) (pc' := 23) rfl (hb hby d6_9) rfl (feq (show ¬ (x = (10 : Int32)) from hc9)).2 (by decide) (by decide) ?_
    show Steps p.tables e below (s₁.setTop (mkF m 23 #[.val (.ref a), .val (.int x), .unset] [])) _
    refine XS.iconst X0.here hx rfl (hb hby d6_23) ?_
    show Steps p.tables e below (s₁.setTop (mkF m 24 #[.val (.ref a), .val (.int x), .unset] [(.int (0 : Int32))])) _
    refine XS.istoreN X0.here hx rfl (hb hby d6_24) rfl (l' := #[.val (.ref a), .val (.int x), .val (.int (0 : Int32))]) rfl ?_
    show Steps p.tables e below (s₁.setTop (mkF m 25 #[.val (.ref a), .val (.int x), .val (.int (0 : Int32))] [])) _
    refine XS.iloadN X0.here hx rfl (hb hby d6_25) rfl ?_
    show Steps p.tables e below (s₁.setTop (mkF m 26 #[.val (.ref a), .val (.int x), .val (.int (0 : Int32))] [(.int (0 : Int32))])) _
    refine XS.ifYes X0.here hx rfl (pc0 := 26) (pc' := 39) rfl (hb hby d6_26) rfl ((if0 _ _).trans (teq (show (0 : Int32) = (0 : Int32) from rfl)).1) (by decide) (by decide) ?_
    show Steps p.tables e below (s₁.setTop (mkF m 39 #[.val (.ref a), .val (.int x), .val (.int (0 : Int32))] [])) _
    refine XS.aloadN X0.here hx rfl (hb hby d6_39) rfl rfl ?_
    show Steps p.tables e below (s₁.setTop (mkF m 40 #[.val (.ref a), .val (.int x), .val (.int (0 : Int32))] [(.ref a)])) _
    refine XS.iloadN X0.here hx rfl (hb hby d6_40) rfl ?_
    show Steps p.tables e below (s₁.setTop (mkF m 41 #[.val (.ref a), .val (.int x), .val (.int (0 : Int32))] [(.int x), (.ref a)])) _
    refine XS.bipush X0.here hx rfl (hb hby d6_41) ?_
    show Steps p.tables e below (s₁.setTop (mkF m 43 #[.val (.ref a), .val (.int x), .val (.int (0 : Int32))] [(.int (13 : Int32)), (.int x), (.ref a)])) _
    refine XS.icmpYes X0.here hx rfl (pc0 := 43) (pc' := 50) rfl (hb hby d6_43) rfl (feq (show ¬ (x = (13 : Int32)) from hc3)).2 (by decide) (by decide) ?_
    show Steps p.tables e below (s₁.setTop (mkF m 50 #[.val (.ref a), .val (.int x), .val (.int (0 : Int32))] [(.ref a)])) _
    refine XS.iconst X0.here hx rfl (hb hby d6_50) ?_
    show Steps p.tables e below (s₁.setTop (mkF m 51 #[.val (.ref a), .val (.int x), .val (.int (0 : Int32))] [(.int (0 : Int32)), (.ref a)])) _
    refine st1 _ ?_
    show Steps p.tables e below (T1.setTop (mkF m 54 #[.val (.ref a), .val (.int x), .val (.int (0 : Int32))] [])) _
    refine XS.iloadN X1.here hx rfl (hb hby d6_54) rfl ?_
    show Steps p.tables e below (T1.setTop (mkF m 55 #[.val (.ref a), .val (.int x), .val (.int (0 : Int32))] [(.int (0 : Int32))])) _
    exact retN X1 hx (t := .boolean) Bd.returns (by simp) (hb hby d6_55) hr
  · show Qrm6 Z a x n k h0 n0 _ T1.heap _
    rw [e1]
    exact ⟨by rw [own_take, if_neg (fun q => q.elim hc3 (fun q => hc9 q.1))], N1, kp5, f6_E_a, rc3, rc4⟩
theorem rm6 (l : Launch) (Z : State) (a0 : Array Value) (hw : ∀ d ∈ tables_1, d.before a0 Z = true) (ws : List Jvm.Cond) (a : Addr) (x : Int32) (n : Int32) (k : Int32) (h0 : Heap) (n0 : Nat) (Z0 : n0 ≤ h0.size) (E_a : Exa Z h0 a "com/example/libsitemap/libsitemap/LineCounter") (F_lineBreaks_a : Fld Z h0 a "com/example/libsitemap/libsitemap/LineCounter" "lineBreaks" "I" (.int n)) (F_afterCarriageReturn_a : Fld Z h0 a "com/example/libsitemap/libsitemap/LineCounter" "afterCarriageReturn" "Z" (.int k)) (g_a : n0 ≤ a) :
    MetFree l (⟨"com/example/libsitemap/libsitemap/LineCounter", "take", "(I)Z"⟩ : MethodName) (head1 (Jvm.Cond.code (⟨"com/example/libsitemap/libsitemap/LineCounter", "take", "(I)Z"⟩ : MethodName) prog_23_method_2_code 3 (some .boolean) :: ws) ({ frames := 0, cells := 0, slots := 0, locals := 0 } : Room)) (fun aa_ U => aa_ = #[(.ref a), (.int x)] ∧ Z.Warmed39 U.vm ∧ U.heap = h0) (fun _ _ _ _ _ => True) (fun _ U o U' => ∃ v L, o = .returned v ∧ Qrm6 Z a x n k h0 n0 v U'.heap L ∧ FrameEnd U o U' L ({ frames := 0, cells := 0, slots := 0, locals := 0 } : Room).cells ({ frames := 0, cells := 0, slots := 0, locals := 0 } : Room).slots) := by
  by_cases h1 : x = (13 : Int32)
  · exact rm6a l Z a0 hw ws a x n k h0 n0 Z0 E_a F_lineBreaks_a F_afterCarriageReturn_a g_a h1
  by_cases h2 : x = (10 : Int32)
  · by_cases h3 : k = (0 : Int32)
    · exact rm6c l Z a0 hw ws a x n k h0 n0 Z0 E_a F_lineBreaks_a F_afterCarriageReturn_a g_a h1 h2 h3
    · exact rm6b l Z a0 hw ws a x n k h0 n0 Z0 E_a F_lineBreaks_a F_afterCarriageReturn_a g_a h1 h2 h3
  · exact rm6e l Z a0 hw ws a x n k h0 n0 Z0 E_a F_lineBreaks_a F_afterCarriageReturn_a g_a h1 h2
theorem pd_0 : parseMethodDescriptor "(III)I" = some ⟨[.int, .int, .int], some .int⟩ := by decide +kernel
theorem pd_1 : parseMethodDescriptor "(IIZ)Z" = some ⟨[.int, .int, .boolean], some .boolean⟩ := by decide +kernel
theorem pd_2 : parseMethodDescriptor "()V" = some ⟨[], none⟩ := by decide +kernel
theorem pd_3 : parseMethodDescriptor "()I" = some ⟨[], some .int⟩ := by decide +kernel
theorem pd_4 : parseMethodDescriptor "(I)Z" = some ⟨[.int], some .boolean⟩ := by decide +kernel
theorem ef_0 (m : MethodId) (x0 : Int32) (x1 : Int32) (x2 : Int32) (x3 : Int32) (x4 : Int32) : entryFrame m #[(.int x0), (.int x1), (.int x2), (.int x3), (.int x4)] maxLocals = mkF m 0 #[.val (.int x0), .val (.int x1), .val (.int x2), .val (.int x3), .val (.int x4), .unset, .unset, .unset, .unset, .unset, .unset, .unset, .unset, .unset, .unset, .unset, .unset, .unset, .unset, .unset, .unset, .unset, .unset] [] := by first | (simp [entryFrame, mkF, argsToLocals, Value.category, maxLocals]; done) | rfl
def Qrm0 (Z : State) (p1 : Int32) (p2 : Int32) (p3 : Int32) (p4 : Int32) (p5 : Int32) (h0 : Heap) (n0 : Nat) (v : Option Value) (h : Heap) (L : List Loc) : Prop := v = some (.int (1 : Int32)) ∧ Fr n0 L
set_option maxRecDepth 65536 in
set_option maxHeartbeats 40000000 in
theorem rm0 (l : Launch) (Z : State) (a0 : Array Value) (hw : ∀ d ∈ tables_1, d.before a0 Z = true) (ws : List Jvm.Cond) (p1 : Int32) (p2 : Int32) (p3 : Int32) (p4 : Int32) (p5 : Int32) (h0 : Heap) (n0 : Nat) (Z0 : n0 ≤ h0.size) :
    MetFree l x (head1 (Jvm.Cond.code x code maxLocals ret :: ws) room_1) (fun aa_ U => aa_ = #[(.int p1), (.int p2), (.int p3), (.int p4), (.int p5)] ∧ Z.Warmed39 U.vm ∧ U.heap = h0) (fun _ _ _ _ _ => True) (fun _ U o U' => ∃ v L, o = .returned v ∧ Qrm0 Z p1 p2 p3 p4 p5 h0 n0 v U'.heap L ∧ FrameEnd U o U' L room_1.cells room_1.slots) := by
  refine MetFree.of_bodySF (plainFor_of_name pn_0) hisR ?_
  intro p e s m args below meth c s₁ Bd hml0 hP hK
  obtain ⟨rfl, hZ, hh⟩ := hP
  have hx := Bd.exec
  have hby := Bd.bytes
  have hml : c.maxLocals = 23 := hml0
  have hown : s.vm.findClass "com/example/libsitemap/libsitemap/LineCounterTakePinLaw" = some m.cls := findClass_of_methodNamed Bd.named
  have hnm := (name_of_methodNamed Bd.named Bd.method).1
  have X0 : Stand p l e room_1 s m #[(.int p1), (.int p2), (.int p3), (.int p4), (.int p5)] below meth c s₁ [] 0 0 := Stand.of_body Bd
  have e0 : s₁.heap = h0 := by rw [← hh, Bd.state]; rfl
  have N0 := Fr.nil n0
  have pre0 : ∀ tt_, Steps p.tables e below (s₁.setTop (mkF m 0 #[.val (.int p1), .val (.int p2), .val (.int p3), .val (.int p4), .val (.int p5), .unset, .unset, .unset, .unset, .unset, .unset, .unset, .unset, .unset, .unset, .unset, .unset, .unset, .unset, .unset, .unset, .unset, .unset] [])) tt_ → Steps p.tables e below (s₁.setTop (entryFrame m #[(.int p1), (.int p2), (.int p3), (.int p4), (.int p5)] maxLocals)) tt_ := fun tt_ kk_ => castTop (ef_0 m p1 p2 p3 p4 p5) kk_
  obtain ⟨_, _, ⟨T1, L1, k1, n1⟩, -, X1, ⟨Lc1, hQ1, l1, y1, z1⟩, st1⟩ := Jvm.LawKit.callS X0 hx (y := (⟨"com/example/libsitemap/libsitemap/LineCounterTakePinLaw", "ch", "(III)I"⟩ : MethodName)) hown (mvT hZ (hw _ (List.mem_of_getElem? (i := 0) rfl))) (mvT hZ (hw _ (List.mem_of_getElem? (i := 1) rfl))) (mvT hZ (hw _ (List.mem_of_getElem? (i := 2) rfl))) (mvT hZ (hw _ (List.mem_of_getElem? (i := 3) rfl))) (by decide) (backOf (W := 0) (rm1 l Z a0 hw [] p1 (0 : Int32) p2 h0 n0 Z0 ) hZ (hw _ (List.mem_of_getElem? (i := 3) rfl)) (hw _ (List.mem_of_getElem? (i := 2) rfl)) (by decide) (by decide)) (g := (mkF m 3 #[.val (.int p1), .val (.int p2), .val (.int p3), .val (.int p4), .val (.int p5), .unset, .unset, .unset, .unset, .unset, .unset, .unset, .unset, .unset, .unset, .unset, .unset, .unset, .unset, .unset, .unset, .unset, .unset] [(.int p2), (.int (0 : Int32)), (.int p1)])) rfl (by rw [hml]; rfl) (argsL := [(.int p1), (.int (0 : Int32)), (.int p2)]) (rest := []) (lenOf pd_0 rfl) rfl (by show 2 * 0 + _ ≤ _; exact Nat.le_of_eq rfl) (hb hby at_3) (fun _ _ => ⟨rfl, e0, (by decide : 0 + 0 ≤ _), (by decide : 0 + 0 ≤ _)⟩)
  dsimp only [Pt.U, Pt.locs, Pt.cells, Pt.slots] at X1 l1 y1 z1 st1 hQ1
  subst l1 y1 z1
  obtain ⟨rfl, N1q, e1q⟩ := hQ1
  have N1 := Fr.app N0 N1q
  obtain ⟨c0, h_c0⟩ : ∃ zz_ : Int32, zz_ = (own_ch p1 (0 : Int32) p2) := ⟨_, rfl⟩
  obtain ⟨_, _, ⟨T2, L2, k2, n2⟩, -, X2, ⟨Lc2, hQ2, l2, y2, z2⟩, st2⟩ := Jvm.LawKit.callS X1 hx (y := (⟨"com/example/libsitemap/libsitemap/LineCounterTakePinLaw", "ch", "(III)I"⟩ : MethodName)) hown (mvT hZ (hw _ (List.mem_of_getElem? (i := 0) rfl))) (mvT hZ (hw _ (List.mem_of_getElem? (i := 1) rfl))) (mvT hZ (hw _ (List.mem_of_getElem? (i := 2) rfl))) (mvT hZ (hw _ (List.mem_of_getElem? (i := 3) rfl))) (by decide) (backOf (W := 0) (rm1 l Z a0 hw [] p1 (2 : Int32) p3 h0 n0 Z0 ) hZ (hw _ (List.mem_of_getElem? (i := 3) rfl)) (hw _ (List.mem_of_getElem? (i := 2) rfl)) (by decide) (by decide)) (g := (mkF m 11 #[.val (.int p1), .val (.int p2), .val (.int p3), .val (.int p4), .val (.int p5), .val (.int c0), .unset, .unset, .unset, .unset, .unset, .unset, .unset, .unset, .unset, .unset, .unset, .unset, .unset, .unset, .unset, .unset, .unset] [(.int p3), (.int (2 : Int32)), (.int p1)])) rfl (by rw [hml]; rfl) (argsL := [(.int p1), (.int (2 : Int32)), (.int p3)]) (rest := []) (lenOf pd_0 rfl) rfl (by show 2 * 0 + _ ≤ _; exact Nat.le_of_eq rfl) (hb hby at_11) (fun _ _ => ⟨rfl, e1q, (by decide : 0 + 0 ≤ _), (by decide : 0 + 0 ≤ _)⟩)
  dsimp only [Pt.U, Pt.locs, Pt.cells, Pt.slots] at X2 l2 y2 z2 st2 hQ2
  subst l2 y2 z2
  obtain ⟨rfl, N2q, e2q⟩ := hQ2
  have N2 := Fr.app N1 N2q
  obtain ⟨c1, h_c1⟩ : ∃ zz_ : Int32, zz_ = (own_ch p1 (2 : Int32) p3) := ⟨_, rfl⟩
  obtain ⟨_, _, ⟨T3, L3, k3, n3⟩, -, X3, ⟨Lc3, hQ3, l3, y3, z3⟩, st3⟩ := Jvm.LawKit.callS X2 hx (y := (⟨"com/example/libsitemap/libsitemap/LineCounterTakePinLaw", "ch", "(III)I"⟩ : MethodName)) hown (mvT hZ (hw _ (List.mem_of_getElem? (i := 0) rfl))) (mvT hZ (hw _ (List.mem_of_getElem? (i := 1) rfl))) (mvT hZ (hw _ (List.mem_of_getElem? (i := 2) rfl))) (mvT hZ (hw _ (List.mem_of_getElem? (i := 3) rfl))) (by decide) (backOf (W := 0) (rm1 l Z a0 hw [] p1 (4 : Int32) p4 h0 n0 Z0 ) hZ (hw _ (List.mem_of_getElem? (i := 3) rfl)) (hw _ (List.mem_of_getElem? (i := 2) rfl)) (by decide) (by decide)) (g := (mkF m 19 #[.val (.int p1), .val (.int p2), .val (.int p3), .val (.int p4), .val (.int p5), .val (.int c0), .val (.int c1), .unset, .unset, .unset, .unset, .unset, .unset, .unset, .unset, .unset, .unset, .unset, .unset, .unset, .unset, .unset, .unset] [(.int p4), (.int (4 : Int32)), (.int p1)])) rfl (by rw [hml]; rfl) (argsL := [(.int p1), (.int (4 : Int32)), (.int p4)]) (rest := []) (lenOf pd_0 rfl) rfl (by show 2 * 0 + _ ≤ _; exact Nat.le_of_eq rfl) (hb hby at_19) (fun _ _ => ⟨rfl, e2q, (by decide : 0 + 0 ≤ _), (by decide : 0 + 0 ≤ _)⟩)
  dsimp only [Pt.U, Pt.locs, Pt.cells, Pt.slots] at X3 l3 y3 z3 st3 hQ3
  subst l3 y3 z3
  obtain ⟨rfl, N3q, e3q⟩ := hQ3
  have N3 := Fr.app N2 N3q
  obtain ⟨c2, h_c2⟩ : ∃ zz_ : Int32, zz_ = (own_ch p1 (4 : Int32) p4) := ⟨_, rfl⟩
  obtain ⟨_, _, ⟨T4, L4, k4, n4⟩, -, X4, ⟨Lc4, hQ4, l4, y4, z4⟩, st4⟩ := Jvm.LawKit.callS X3 hx (y := (⟨"com/example/libsitemap/libsitemap/LineCounterTakePinLaw", "ch", "(III)I"⟩ : MethodName)) hown (mvT hZ (hw _ (List.mem_of_getElem? (i := 0) rfl))) (mvT hZ (hw _ (List.mem_of_getElem? (i := 1) rfl))) (mvT hZ (hw _ (List.mem_of_getElem? (i := 2) rfl))) (mvT hZ (hw _ (List.mem_of_getElem? (i := 3) rfl))) (by decide) (backOf (W := 0) (rm1 l Z a0 hw [] p1 (6 : Int32) p5 h0 n0 Z0 ) hZ (hw _ (List.mem_of_getElem? (i := 3) rfl)) (hw _ (List.mem_of_getElem? (i := 2) rfl)) (by decide) (by decide)) (g := (mkF m 29 #[.val (.int p1), .val (.int p2), .val (.int p3), .val (.int p4), .val (.int p5), .val (.int c0), .val (.int c1), .val (.int c2), .unset, .unset, .unset, .unset, .unset, .unset, .unset, .unset, .unset, .unset, .unset, .unset, .unset, .unset, .unset] [(.int p5), (.int (6 : Int32)), (.int p1)])) rfl (by rw [hml]; rfl) (argsL := [(.int p1), (.int (6 : Int32)), (.int p5)]) (rest := []) (lenOf pd_0 rfl) rfl (by show 2 * 0 + _ ≤ _; exact Nat.le_of_eq rfl) (hb hby at_29) (fun _ _ => ⟨rfl, e3q, (by decide : 0 + 0 ≤ _), (by decide : 0 + 0 ≤ _)⟩)
  dsimp only [Pt.U, Pt.locs, Pt.cells, Pt.slots] at X4 l4 y4 z4 st4 hQ4
  subst l4 y4 z4
  obtain ⟨rfl, N4q, e4q⟩ := hQ4
  have N4 := Fr.app N3 N4q
  obtain ⟨c3, h_c3⟩ : ∃ zz_ : Int32, zz_ = (own_ch p1 (6 : Int32) p5) := ⟨_, rfl⟩
  obtain ⟨_, _, ⟨T5, L5, k5, n5⟩, -, X5, ⟨Lc5, hQ5, l5, y5, z5⟩, st5⟩ := Jvm.LawKit.callS X4 hx (y := (⟨"com/example/libsitemap/libsitemap/LineCounterTakePinLaw", "expect", "(IIZ)Z"⟩ : MethodName)) hown (mvT hZ (hw _ (List.mem_of_getElem? (i := 4) rfl))) (mvT hZ (hw _ (List.mem_of_getElem? (i := 5) rfl))) (mvT hZ (hw _ (List.mem_of_getElem? (i := 2) rfl))) (mvT hZ (hw _ (List.mem_of_getElem? (i := 6) rfl))) (by decide) (backOf (W := 0) (rm2 l Z a0 hw [] c0 (0 : Int32) (0 : Int32) h0 n0 Z0 ) hZ (hw _ (List.mem_of_getElem? (i := 6) rfl)) (hw _ (List.mem_of_getElem? (i := 2) rfl)) (by decide) (by decide)) (g := (mkF m 38 #[.val (.int p1), .val (.int p2), .val (.int p3), .val (.int p4), .val (.int p5), .val (.int c0), .val (.int c1), .val (.int c2), .val (.int c3), .unset, .unset, .unset, .unset, .unset, .unset, .unset, .unset, .unset, .unset, .unset, .unset, .unset, .unset] [(.int (0 : Int32)), (.int (0 : Int32)), (.int c0)])) rfl (by rw [hml]; rfl) (argsL := [(.int c0), (.int (0 : Int32)), (.int (0 : Int32))]) (rest := []) (lenOf pd_1 rfl) rfl (by show 2 * 0 + _ ≤ _; exact Nat.le_of_eq rfl) (hb hby at_38) (fun _ _ => ⟨rfl, e4q, (by decide : 0 + 0 ≤ _), (by decide : 0 + 0 ≤ _)⟩)
  dsimp only [Pt.U, Pt.locs, Pt.cells, Pt.slots] at X5 l5 y5 z5 st5 hQ5
  subst l5 y5 z5
  obtain ⟨rfl, N5q, e5q⟩ := hQ5
  have N5 := Fr.app N4 N5q
  obtain ⟨e0', h_e0'⟩ : ∃ zz_ : Int32, zz_ = (own_exp c0 (0 : Int32) (0 : Int32)) := ⟨_, rfl⟩
  obtain ⟨_, _, ⟨T6, L6, k6, n6⟩, -, X6, ⟨Lc6, hQ6, l6, y6, z6⟩, st6⟩ := Jvm.LawKit.callS X5 hx (y := (⟨"com/example/libsitemap/libsitemap/LineCounterTakePinLaw", "expect", "(IIZ)Z"⟩ : MethodName)) hown (mvT hZ (hw _ (List.mem_of_getElem? (i := 4) rfl))) (mvT hZ (hw _ (List.mem_of_getElem? (i := 5) rfl))) (mvT hZ (hw _ (List.mem_of_getElem? (i := 2) rfl))) (mvT hZ (hw _ (List.mem_of_getElem? (i := 6) rfl))) (by decide) (backOf (W := 0) (rm2 l Z a0 hw [] c1 c0 (1 : Int32) h0 n0 Z0 ) hZ (hw _ (List.mem_of_getElem? (i := 6) rfl)) (hw _ (List.mem_of_getElem? (i := 2) rfl)) (by decide) (by decide)) (g := (mkF m 48 #[.val (.int p1), .val (.int p2), .val (.int p3), .val (.int p4), .val (.int p5), .val (.int c0), .val (.int c1), .val (.int c2), .val (.int c3), .val (.int e0'), .unset, .unset, .unset, .unset, .unset, .unset, .unset, .unset, .unset, .unset, .unset, .unset, .unset] [(.int (1 : Int32)), (.int c0), (.int c1)])) rfl (by rw [hml]; rfl) (argsL := [(.int c1), (.int c0), (.int (1 : Int32))]) (rest := []) (lenOf pd_1 rfl) rfl (by show 2 * 0 + _ ≤ _; exact Nat.le_of_eq rfl) (hb hby at_48) (fun _ _ => ⟨rfl, e5q, (by decide : 0 + 0 ≤ _), (by decide : 0 + 0 ≤ _)⟩)
  dsimp only [Pt.U, Pt.locs, Pt.cells, Pt.slots] at X6 l6 y6 z6 st6 hQ6
  subst l6 y6 z6
  obtain ⟨rfl, N6q, e6q⟩ := hQ6
  have N6 := Fr.app N5 N6q
  obtain ⟨e1', h_e1'⟩ : ∃ zz_ : Int32, zz_ = (own_exp c1 c0 (1 : Int32)) := ⟨_, rfl⟩
  obtain ⟨_, _, ⟨T7, L7, k7, n7⟩, -, X7, ⟨Lc7, hQ7, l7, y7, z7⟩, st7⟩ := Jvm.LawKit.callS X6 hx (y := (⟨"com/example/libsitemap/libsitemap/LineCounterTakePinLaw", "expect", "(IIZ)Z"⟩ : MethodName)) hown (mvT hZ (hw _ (List.mem_of_getElem? (i := 4) rfl))) (mvT hZ (hw _ (List.mem_of_getElem? (i := 5) rfl))) (mvT hZ (hw _ (List.mem_of_getElem? (i := 2) rfl))) (mvT hZ (hw _ (List.mem_of_getElem? (i := 6) rfl))) (by decide) (backOf (W := 0) (rm2 l Z a0 hw [] c2 c1 (1 : Int32) h0 n0 Z0 ) hZ (hw _ (List.mem_of_getElem? (i := 6) rfl)) (hw _ (List.mem_of_getElem? (i := 2) rfl)) (by decide) (by decide)) (g := (mkF m 58 #[.val (.int p1), .val (.int p2), .val (.int p3), .val (.int p4), .val (.int p5), .val (.int c0), .val (.int c1), .val (.int c2), .val (.int c3), .val (.int e0'), .val (.int e1'), .unset, .unset, .unset, .unset, .unset, .unset, .unset, .unset, .unset, .unset, .unset, .unset] [(.int (1 : Int32)), (.int c1), (.int c2)])) rfl (by rw [hml]; rfl) (argsL := [(.int c2), (.int c1), (.int (1 : Int32))]) (rest := []) (lenOf pd_1 rfl) rfl (by show 2 * 0 + _ ≤ _; exact Nat.le_of_eq rfl) (hb hby at_58) (fun _ _ => ⟨rfl, e6q, (by decide : 0 + 0 ≤ _), (by decide : 0 + 0 ≤ _)⟩)
  dsimp only [Pt.U, Pt.locs, Pt.cells, Pt.slots] at X7 l7 y7 z7 st7 hQ7
  subst l7 y7 z7
  obtain ⟨rfl, N7q, e7q⟩ := hQ7
  have N7 := Fr.app N6 N7q
  obtain ⟨e2', h_e2'⟩ : ∃ zz_ : Int32, zz_ = (own_exp c2 c1 (1 : Int32)) := ⟨_, rfl⟩
  obtain ⟨_, _, ⟨T8, L8, k8, n8⟩, -, X8, ⟨Lc8, hQ8, l8, y8, z8⟩, st8⟩ := Jvm.LawKit.callS X7 hx (y := (⟨"com/example/libsitemap/libsitemap/LineCounterTakePinLaw", "expect", "(IIZ)Z"⟩ : MethodName)) hown (mvT hZ (hw _ (List.mem_of_getElem? (i := 4) rfl))) (mvT hZ (hw _ (List.mem_of_getElem? (i := 5) rfl))) (mvT hZ (hw _ (List.mem_of_getElem? (i := 2) rfl))) (mvT hZ (hw _ (List.mem_of_getElem? (i := 6) rfl))) (by decide) (backOf (W := 0) (rm2 l Z a0 hw [] c3 c2 (1 : Int32) h0 n0 Z0 ) hZ (hw _ (List.mem_of_getElem? (i := 6) rfl)) (hw _ (List.mem_of_getElem? (i := 2) rfl)) (by decide) (by decide)) (g := (mkF m 68 #[.val (.int p1), .val (.int p2), .val (.int p3), .val (.int p4), .val (.int p5), .val (.int c0), .val (.int c1), .val (.int c2), .val (.int c3), .val (.int e0'), .val (.int e1'), .val (.int e2'), .unset, .unset, .unset, .unset, .unset, .unset, .unset, .unset, .unset, .unset, .unset] [(.int (1 : Int32)), (.int c2), (.int c3)])) rfl (by rw [hml]; rfl) (argsL := [(.int c3), (.int c2), (.int (1 : Int32))]) (rest := []) (lenOf pd_1 rfl) rfl (by show 2 * 0 + _ ≤ _; exact Nat.le_of_eq rfl) (hb hby at_68) (fun _ _ => ⟨rfl, e7q, (by decide : 0 + 0 ≤ _), (by decide : 0 + 0 ≤ _)⟩)
  dsimp only [Pt.U, Pt.locs, Pt.cells, Pt.slots] at X8 l8 y8 z8 st8 hQ8
  subst l8 y8 z8
  obtain ⟨rfl, N8q, e8q⟩ := hQ8
  have N8 := Fr.app N7 N8q
  obtain ⟨e3', h_e3'⟩ : ∃ zz_ : Int32, zz_ = (own_exp c3 c2 (1 : Int32)) := ⟨_, rfl⟩
  obtain ⟨n0', hv_n0'⟩ : ∃ zz_ : Int32, (e0' = (0 : Int32) ∧ zz_ = (0 : Int32)) ∨ (¬ (e0' = (0 : Int32)) ∧ zz_ = (1 : Int32)) := by
    by_cases hq : e0' = (0 : Int32)
    · exact ⟨_, Or.inl ⟨hq, rfl⟩⟩
    · exact ⟨_, Or.inr ⟨hq, rfl⟩⟩
  have dm9 : ∀ t, Steps p.tables e below (T8.setTop (mkF m 83 #[.val (.int p1), .val (.int p2), .val (.int p3), .val (.int p4), .val (.int p5), .val (.int c0), .val (.int c1), .val (.int c2), .val (.int c3), .val (.int e0'), .val (.int e1'), .val (.int e2'), .val (.int e3'), .unset, .unset, .unset, .unset, .unset, .unset, .unset, .unset, .unset, .unset] [(.int n0')])) t → Steps p.tables e below (T8.setTop (mkF m 75 #[.val (.int p1), .val (.int p2), .val (.int p3), .val (.int p4), .val (.int p5), .val (.int c0), .val (.int c1), .val (.int c2), .val (.int c3), .val (.int e0'), .val (.int e1'), .val (.int e2'), .val (.int e3'), .unset, .unset, .unset, .unset, .unset, .unset, .unset, .unset, .unset, .unset] [(.int e0')])) t := by
    intro t K
    rcases hv_n0' with ⟨hq, rfl⟩ | ⟨hq, rfl⟩
    · show Steps p.tables e below (T8.setTop (mkF m 75 #[.val (.int p1), .val (.int p2), .val (.int p3), .val (.int p4), .val (.int p5), .val (.int c0), .val (.int c1), .val (.int c2), .val (.int c3), .val (.int e0'), .val (.int e1'), .val (.int e2'), .val (.int e3'), .unset, .unset, .unset, .unset, .unset, .unset, .unset, .unset, .unset, .unset] [(.int e0')])) _
      refine XS.ifYes X8.here hx rfl (pc0 := 75) (pc' := 82) rfl (hb hby at_75) rfl ((if0 _ _).trans (teq (show e0' = (0 : Int32) from hq)).1) (by decide) (by decide) ?_
      show Steps p.tables e below (T8.setTop (mkF m 82 #[.val (.int p1), .val (.int p2), .val (.int p3), .val (.int p4), .val (.int p5), .val (.int c0), .val (.int c1), .val (.int c2), .val (.int c3), .val (.int e0'), .val (.int e1'), .val (.int e2'), .val (.int e3'), .unset, .unset, .unset, .unset, .unset, .unset, .unset, .unset, .unset, .unset] [])) _
      refine XS.iconst X8.here hx rfl (hb hby at_82) ?_
      show Steps p.tables e below (T8.setTop (mkF m 83 #[.val (.int p1), .val (.int p2), .val (.int p3), .val (.int p4), .val (.int p5), .val (.int c0), .val (.int c1), .val (.int c2), .val (.int c3), .val (.int e0'), .val (.int e1'), .val (.int e2'), .val (.int e3'), .unset, .unset, .unset, .unset, .unset, .unset, .unset, .unset, .unset, .unset] [(.int (0 : Int32))])) _
      exact K
    · show Steps p.tables e below (T8.setTop (mkF m 75 #[.val (.int p1), .val (.int p2), .val (.int p3), .val (.int p4), .val (.int p5), .val (.int c0), .val (.int c1), .val (.int c2), .val (.int c3), .val (.int e0'), .val (.int e1'), .val (.int e2'), .val (.int e3'), .unset, .unset, .unset, .unset, .unset, .unset, .unset, .unset, .unset, .unset] [(.int e0')])) _
      refine XS.ifNo X8.here hx rfl (hb hby at_75) rfl ((if0 _ _).trans (feq (show ¬ (e0' = (0 : Int32)) from hq)).1) ?_
      show Steps p.tables e below (T8.setTop (mkF m 78 #[.val (.int p1), .val (.int p2), .val (.int p3), .val (.int p4), .val (.int p5), .val (.int c0), .val (.int c1), .val (.int c2), .val (.int c3), .val (.int e0'), .val (.int e1'), .val (.int e2'), .val (.int e3'), .unset, .unset, .unset, .unset, .unset, .unset, .unset, .unset, .unset, .unset] [])) _
      refine XS.iconst X8.here hx rfl (hb hby at_78) ?_
      show Steps p.tables e below (T8.setTop (mkF m 79 #[.val (.int p1), .val (.int p2), .val (.int p3), .val (.int p4), .val (.int p5), .val (.int c0), .val (.int c1), .val (.int c2), .val (.int c3), .val (.int e0'), .val (.int e1'), .val (.int e2'), .val (.int e3'), .unset, .unset, .unset, .unset, .unset, .unset, .unset, .unset, .unset, .unset] [(.int (1 : Int32))])) _
      refine XS.goto X8.here hx rfl (pc0 := 79) (pc' := 83) rfl (hb hby at_79) (by decide) (by decide) ?_
      show Steps p.tables e below (T8.setTop (mkF m 83 #[.val (.int p1), .val (.int p2), .val (.int p3), .val (.int p4), .val (.int p5), .val (.int c0), .val (.int c1), .val (.int c2), .val (.int c3), .val (.int e0'), .val (.int e1'), .val (.int e2'), .val (.int e3'), .unset, .unset, .unset, .unset, .unset, .unset, .unset, .unset, .unset, .unset] [(.int (1 : Int32))])) _
      exact K
  have hn0 : n0' = e0' := own_n (by rw [h_e0']; exact own_bit _ _ _) hv_n0'
  obtain ⟨n1', hv_n1'⟩ : ∃ zz_ : Int32, (e1' = (0 : Int32) ∧ zz_ = (0 : Int32)) ∨ (¬ (e1' = (0 : Int32)) ∧ zz_ = (1 : Int32)) := by
    by_cases hq : e1' = (0 : Int32)
    · exact ⟨_, Or.inl ⟨hq, rfl⟩⟩
    · exact ⟨_, Or.inr ⟨hq, rfl⟩⟩
  have dm10 : ∀ t, Steps p.tables e below (T8.setTop (mkF m 97 #[.val (.int p1), .val (.int p2), .val (.int p3), .val (.int p4), .val (.int p5), .val (.int c0), .val (.int c1), .val (.int c2), .val (.int c3), .val (.int e0'), .val (.int e1'), .val (.int e2'), .val (.int e3'), .val (.int n0'), .unset, .unset, .unset, .unset, .unset, .unset, .unset, .unset, .unset] [(.int n1'), (.int n0')])) t → Steps p.tables e below (T8.setTop (mkF m 89 #[.val (.int p1), .val (.int p2), .val (.int p3), .val (.int p4), .val (.int p5), .val (.int c0), .val (.int c1), .val (.int c2), .val (.int c3), .val (.int e0'), .val (.int e1'), .val (.int e2'), .val (.int e3'), .val (.int n0'), .unset, .unset, .unset, .unset, .unset, .unset, .unset, .unset, .unset] [(.int e1'), (.int n0')])) t := by
    intro t K
    rcases hv_n1' with ⟨hq, rfl⟩ | ⟨hq, rfl⟩
    · show Steps p.tables e below (T8.setTop (mkF m 89 #[.val (.int p1), .val (.int p2), .val (.int p3), .val (.int p4), .val (.int p5), .val (.int c0), .val (.int c1), .val (.int c2), .val (.int c3), .val (.int e0'), .val (.int e1'), .val (.int e2'), .val (.int e3'), .val (.int n0'), .unset, .unset, .unset, .unset, .unset, .unset, .unset, .unset, .unset] [(.int e1'), (.int n0')])) _
      refine XS.ifYes X8.here hx rfl (pc0 := 89) (pc' := 96) rfl (hb hby at_89) rfl ((if0 _ _).trans (teq (show e1' = (0 : Int32) from hq)).1) (by decide) (by decide) ?_
      show Steps p.tables e below (T8.setTop (mkF m 96 #[.val (.int p1), .val (.int p2), .val (.int p3), .val (.int p4), .val (.int p5), .val (.int c0), .val (.int c1), .val (.int c2), .val (.int c3), .val (.int e0'), .val (.int e1'), .val (.int e2'), .val (.int e3'), .val (.int n0'), .unset, .unset, .unset, .unset, .unset, .unset, .unset, .unset, .unset] [(.int n0')])) _
      refine XS.iconst X8.here hx rfl (hb hby at_96) ?_
      show Steps p.tables e below (T8.setTop (mkF m 97 #[.val (.int p1), .val (.int p2), .val (.int p3), .val (.int p4), .val (.int p5), .val (.int c0), .val (.int c1), .val (.int c2), .val (.int c3), .val (.int e0'), .val (.int e1'), .val (.int e2'), .val (.int e3'), .val (.int n0'), .unset, .unset, .unset, .unset, .unset, .unset, .unset, .unset, .unset] [(.int (0 : Int32)), (.int n0')])) _
      exact K
    · show Steps p.tables e below (T8.setTop (mkF m 89 #[.val (.int p1), .val (.int p2), .val (.int p3), .val (.int p4), .val (.int p5), .val (.int c0), .val (.int c1), .val (.int c2), .val (.int c3), .val (.int e0'), .val (.int e1'), .val (.int e2'), .val (.int e3'), .val (.int n0'), .unset, .unset, .unset, .unset, .unset, .unset, .unset, .unset, .unset] [(.int e1'), (.int n0')])) _
      refine XS.ifNo X8.here hx rfl (hb hby at_89) rfl ((if0 _ _).trans (feq (show ¬ (e1' = (0 : Int32)) from hq)).1) ?_
      show Steps p.tables e below (T8.setTop (mkF m 92 #[.val (.int p1), .val (.int p2), .val (.int p3), .val (.int p4), .val (.int p5), .val (.int c0), .val (.int c1), .val (.int c2), .val (.int c3), .val (.int e0'), .val (.int e1'), .val (.int e2'), .val (.int e3'), .val (.int n0'), .unset, .unset, .unset, .unset, .unset, .unset, .unset, .unset, .unset] [(.int n0')])) _
      refine XS.iconst X8.here hx rfl (hb hby at_92) ?_
      show Steps p.tables e below (T8.setTop (mkF m 93 #[.val (.int p1), .val (.int p2), .val (.int p3), .val (.int p4), .val (.int p5), .val (.int c0), .val (.int c1), .val (.int c2), .val (.int c3), .val (.int e0'), .val (.int e1'), .val (.int e2'), .val (.int e3'), .val (.int n0'), .unset, .unset, .unset, .unset, .unset, .unset, .unset, .unset, .unset] [(.int (1 : Int32)), (.int n0')])) _
      refine XS.goto X8.here hx rfl (pc0 := 93) (pc' := 97) rfl (hb hby at_93) (by decide) (by decide) ?_
      show Steps p.tables e below (T8.setTop (mkF m 97 #[.val (.int p1), .val (.int p2), .val (.int p3), .val (.int p4), .val (.int p5), .val (.int c0), .val (.int c1), .val (.int c2), .val (.int c3), .val (.int e0'), .val (.int e1'), .val (.int e2'), .val (.int e3'), .val (.int n0'), .unset, .unset, .unset, .unset, .unset, .unset, .unset, .unset, .unset] [(.int (1 : Int32)), (.int n0')])) _
      exact K
  have hn1 : n1' = e1' := own_n (by rw [h_e1']; exact own_bit _ _ _) hv_n1'
  obtain ⟨n2', hv_n2'⟩ : ∃ zz_ : Int32, (e2' = (0 : Int32) ∧ zz_ = (0 : Int32)) ∨ (¬ (e2' = (0 : Int32)) ∧ zz_ = (1 : Int32)) := by
    by_cases hq : e2' = (0 : Int32)
    · exact ⟨_, Or.inl ⟨hq, rfl⟩⟩
    · exact ⟨_, Or.inr ⟨hq, rfl⟩⟩
  have dm11 : ∀ t, Steps p.tables e below (T8.setTop (mkF m 112 #[.val (.int p1), .val (.int p2), .val (.int p3), .val (.int p4), .val (.int p5), .val (.int c0), .val (.int c1), .val (.int c2), .val (.int c3), .val (.int e0'), .val (.int e1'), .val (.int e2'), .val (.int e3'), .val (.int n0'), .val (.int (n0' + n1')), .unset, .unset, .unset, .unset, .unset, .unset, .unset, .unset] [(.int n2'), (.int (n0' + n1'))])) t → Steps p.tables e below (T8.setTop (mkF m 104 #[.val (.int p1), .val (.int p2), .val (.int p3), .val (.int p4), .val (.int p5), .val (.int c0), .val (.int c1), .val (.int c2), .val (.int c3), .val (.int e0'), .val (.int e1'), .val (.int e2'), .val (.int e3'), .val (.int n0'), .val (.int (n0' + n1')), .unset, .unset, .unset, .unset, .unset, .unset, .unset, .unset] [(.int e2'), (.int (n0' + n1'))])) t := by
    intro t K
    rcases hv_n2' with ⟨hq, rfl⟩ | ⟨hq, rfl⟩
    · show Steps p.tables e below (T8.setTop (mkF m 104 #[.val (.int p1), .val (.int p2), .val (.int p3), .val (.int p4), .val (.int p5), .val (.int c0), .val (.int c1), .val (.int c2), .val (.int c3), .val (.int e0'), .val (.int e1'), .val (.int e2'), .val (.int e3'), .val (.int n0'), .val (.int (n0' + n1')), .unset, .unset, .unset, .unset, .unset, .unset, .unset, .unset] [(.int e2'), (.int (n0' + n1'))])) _
      refine XS.ifYes X8.here hx rfl (pc0 := 104) (pc' := 111) rfl (hb hby at_104) rfl ((if0 _ _).trans (teq (show e2' = (0 : Int32) from hq)).1) (by decide) (by decide) ?_
      show Steps p.tables e below (T8.setTop (mkF m 111 #[.val (.int p1), .val (.int p2), .val (.int p3), .val (.int p4), .val (.int p5), .val (.int c0), .val (.int c1), .val (.int c2), .val (.int c3), .val (.int e0'), .val (.int e1'), .val (.int e2'), .val (.int e3'), .val (.int n0'), .val (.int (n0' + n1')), .unset, .unset, .unset, .unset, .unset, .unset, .unset, .unset] [(.int (n0' + n1'))])) _
      refine XS.iconst X8.here hx rfl (hb hby at_111) ?_
      show Steps p.tables e below (T8.setTop (mkF m 112 #[.val (.int p1), .val (.int p2), .val (.int p3), .val (.int p4), .val (.int p5), .val (.int c0), .val (.int c1), .val (.int c2), .val (.int c3), .val (.int e0'), .val (.int e1'), .val (.int e2'), .val (.int e3'), .val (.int n0'), .val (.int (n0' + n1')), .unset, .unset, .unset, .unset, .unset, .unset, .unset, .unset] [(.int (0 : Int32)), (.int (n0' + n1'))])) _
      exact K
    · show Steps p.tables e below (T8.setTop (mkF m 104 #[.val (.int p1), .val (.int p2), .val (.int p3), .val (.int p4), .val (.int p5), .val (.int c0), .val (.int c1), .val (.int c2), .val (.int c3), .val (.int e0'), .val (.int e1'), .val (.int e2'), .val (.int e3'), .val (.int n0'), .val (.int (n0' + n1')), .unset, .unset, .unset, .unset, .unset, .unset, .unset, .unset] [(.int e2'), (.int (n0' + n1'))])) _
      refine XS.ifNo X8.here hx rfl (hb hby at_104) rfl ((if0 _ _).trans (feq (show ¬ (e2' = (0 : Int32)) from hq)).1) ?_
      show Steps p.tables e below (T8.setTop (mkF m 107 #[.val (.int p1), .val (.int p2), .val (.int p3), .val (.int p4), .val (.int p5), .val (.int c0), .val (.int c1), .val (.int c2), .val (.int c3), .val (.int e0'), .val (.int e1'), .val (.int e2'), .val (.int e3'), .val (.int n0'), .val (.int (n0' + n1')), .unset, .unset, .unset, .unset, .unset, .unset, .unset, .unset] [(.int (n0' + n1'))])) _
      refine XS.iconst X8.here hx rfl (hb hby at_107) ?_
      show Steps p.tables e below (T8.setTop (mkF m 108 #[.val (.int p1), .val (.int p2), .val (.int p3), .val (.int p4), .val (.int p5), .val (.int c0), .val (.int c1), .val (.int c2), .val (.int c3), .val (.int e0'), .val (.int e1'), .val (.int e2'), .val (.int e3'), .val (.int n0'), .val (.int (n0' + n1')), .unset, .unset, .unset, .unset, .unset, .unset, .unset, .unset] [(.int (1 : Int32)), (.int (n0' + n1'))])) _
      refine XS.goto X8.here hx rfl (pc0 := 108) (pc' := 112) rfl (hb hby at_108) (by decide) (by decide) ?_
      show Steps p.tables e below (T8.setTop (mkF m 112 #[.val (.int p1), .val (.int p2), .val (.int p3), .val (.int p4), .val (.int p5), .val (.int c0), .val (.int c1), .val (.int c2), .val (.int c3), .val (.int e0'), .val (.int e1'), .val (.int e2'), .val (.int e3'), .val (.int n0'), .val (.int (n0' + n1')), .unset, .unset, .unset, .unset, .unset, .unset, .unset, .unset] [(.int (1 : Int32)), (.int (n0' + n1'))])) _
      exact K
  have hn2 : n2' = e2' := own_n (by rw [h_e2']; exact own_bit _ _ _) hv_n2'
  obtain ⟨n3', hv_n3'⟩ : ∃ zz_ : Int32, (e3' = (0 : Int32) ∧ zz_ = (0 : Int32)) ∨ (¬ (e3' = (0 : Int32)) ∧ zz_ = (1 : Int32)) := by
    by_cases hq : e3' = (0 : Int32)
    · exact ⟨_, Or.inl ⟨hq, rfl⟩⟩
    · exact ⟨_, Or.inr ⟨hq, rfl⟩⟩
  have dm12 : ∀ t, Steps p.tables e below (T8.setTop (mkF m 127 #[.val (.int p1), .val (.int p2), .val (.int p3), .val (.int p4), .val (.int p5), .val (.int c0), .val (.int c1), .val (.int c2), .val (.int c3), .val (.int e0'), .val (.int e1'), .val (.int e2'), .val (.int e3'), .val (.int n0'), .val (.int (n0' + n1')), .val (.int ((n0' + n1') + n2')), .unset, .unset, .unset, .unset, .unset, .unset, .unset] [(.int n3'), (.int ((n0' + n1') + n2'))])) t → Steps p.tables e below (T8.setTop (mkF m 119 #[.val (.int p1), .val (.int p2), .val (.int p3), .val (.int p4), .val (.int p5), .val (.int c0), .val (.int c1), .val (.int c2), .val (.int c3), .val (.int e0'), .val (.int e1'), .val (.int e2'), .val (.int e3'), .val (.int n0'), .val (.int (n0' + n1')), .val (.int ((n0' + n1') + n2')), .unset, .unset, .unset, .unset, .unset, .unset, .unset] [(.int e3'), (.int ((n0' + n1') + n2'))])) t := by
    intro t K
    rcases hv_n3' with ⟨hq, rfl⟩ | ⟨hq, rfl⟩
    · show Steps p.tables e below (T8.setTop (mkF m 119 #[.val (.int p1), .val (.int p2), .val (.int p3), .val (.int p4), .val (.int p5), .val (.int c0), .val (.int c1), .val (.int c2), .val (.int c3), .val (.int e0'), .val (.int e1'), .val (.int e2'), .val (.int e3'), .val (.int n0'), .val (.int (n0' + n1')), .val (.int ((n0' + n1') + n2')), .unset, .unset, .unset, .unset, .unset, .unset, .unset] [(.int e3'), (.int ((n0' + n1') + n2'))])) _
      refine XS.ifYes X8.here hx rfl (pc0 := 119) (pc' := 126) rfl (hb hby at_119) rfl ((if0 _ _).trans (teq (show e3' = (0 : Int32) from hq)).1) (by decide) (by decide) ?_
      show Steps p.tables e below (T8.setTop (mkF m 126 #[.val (.int p1), .val (.int p2), .val (.int p3), .val (.int p4), .val (.int p5), .val (.int c0), .val (.int c1), .val (.int c2), .val (.int c3), .val (.int e0'), .val (.int e1'), .val (.int e2'), .val (.int e3'), .val (.int n0'), .val (.int (n0' + n1')), .val (.int ((n0' + n1') + n2')), .unset, .unset, .unset, .unset, .unset, .unset, .unset] [(.int ((n0' + n1') + n2'))])) _
      refine XS.iconst X8.here hx rfl (hb hby at_126) ?_
      show Steps p.tables e below (T8.setTop (mkF m 127 #[.val (.int p1), .val (.int p2), .val (.int p3), .val (.int p4), .val (.int p5), .val (.int c0), .val (.int c1), .val (.int c2), .val (.int c3), .val (.int e0'), .val (.int e1'), .val (.int e2'), .val (.int e3'), .val (.int n0'), .val (.int (n0' + n1')), .val (.int ((n0' + n1') + n2')), .unset, .unset, .unset, .unset, .unset, .unset, .unset] [(.int (0 : Int32)), (.int ((n0' + n1') + n2'))])) _
      exact K
    · show Steps p.tables e below (T8.setTop (mkF m 119 #[.val (.int p1), .val (.int p2), .val (.int p3), .val (.int p4), .val (.int p5), .val (.int c0), .val (.int c1), .val (.int c2), .val (.int c3), .val (.int e0'), .val (.int e1'), .val (.int e2'), .val (.int e3'), .val (.int n0'), .val (.int (n0' + n1')), .val (.int ((n0' + n1') + n2')), .unset, .unset, .unset, .unset, .unset, .unset, .unset] [(.int e3'), (.int ((n0' + n1') + n2'))])) _
      refine XS.ifNo X8.here hx rfl (hb hby at_119) rfl ((if0 _ _).trans (feq (show ¬ (e3' = (0 : Int32)) from hq)).1) ?_
      show Steps p.tables e below (T8.setTop (mkF m 122 #[.val (.int p1), .val (.int p2), .val (.int p3), .val (.int p4), .val (.int p5), .val (.int c0), .val (.int c1), .val (.int c2), .val (.int c3), .val (.int e0'), .val (.int e1'), .val (.int e2'), .val (.int e3'), .val (.int n0'), .val (.int (n0' + n1')), .val (.int ((n0' + n1') + n2')), .unset, .unset, .unset, .unset, .unset, .unset, .unset] [(.int ((n0' + n1') + n2'))])) _
      refine XS.iconst X8.here hx rfl (hb hby at_122) ?_
      show Steps p.tables e below (T8.setTop (mkF m 123 #[.val (.int p1), .val (.int p2), .val (.int p3), .val (.int p4), .val (.int p5), .val (.int c0), .val (.int c1), .val (.int c2), .val (.int c3), .val (.int e0'), .val (.int e1'), .val (.int e2'), .val (.int e3'), .val (.int n0'), .val (.int (n0' + n1')), .val (.int ((n0' + n1') + n2')), .unset, .unset, .unset, .unset, .unset, .unset, .unset] [(.int (1 : Int32)), (.int ((n0' + n1') + n2'))])) _
      refine XS.goto X8.here hx rfl (pc0 := 123) (pc' := 127) rfl (hb hby at_123) (by decide) (by decide) ?_
      show Steps p.tables e below (T8.setTop (mkF m 127 #[.val (.int p1), .val (.int p2), .val (.int p3), .val (.int p4), .val (.int p5), .val (.int c0), .val (.int c1), .val (.int c2), .val (.int c3), .val (.int e0'), .val (.int e1'), .val (.int e2'), .val (.int e3'), .val (.int n0'), .val (.int (n0' + n1')), .val (.int ((n0' + n1') + n2')), .unset, .unset, .unset, .unset, .unset, .unset, .unset] [(.int (1 : Int32)), (.int ((n0' + n1') + n2'))])) _
      exact K
  have hn3 : n3' = e3' := own_n (by rw [h_e3']; exact own_bit _ _ _) hv_n3'
  obtain ⟨T13, h13, X13, e13, E13, A13, D13, -, st13⟩ := newO X8 hx hZ hown (hw _ (List.mem_of_getElem? (i := 7) rfl)) (hw _ (List.mem_of_getElem? (i := 8) rfl)) (hw _ (List.mem_of_getElem? (i := 9) rfl)) e8q (g := (mkF m 130 #[.val (.int p1), .val (.int p2), .val (.int p3), .val (.int p4), .val (.int p5), .val (.int c0), .val (.int c1), .val (.int c2), .val (.int c3), .val (.int e0'), .val (.int e1'), .val (.int e2'), .val (.int e3'), .val (.int n0'), .val (.int (n0' + n1')), .val (.int ((n0' + n1') + n2')), .val (.int (((n0' + n1') + n2') + n3')), .unset, .unset, .unset, .unset, .unset, .unset] [])) rfl (hb hby at_130) (by decide) (by decide)
  obtain ⟨b13, g13⟩ : ∃ zz_, zz_ = h0.size := ⟨_, rfl⟩
  rw [← g13] at A13 D13 st13
  have g_b13 : n0 ≤ b13 := Nat.le_trans Z0 (Nat.le_of_eq g13.symm)
  have sz_b13 : h0.size ≤ b13 := Nat.le_trans (Keep.refl h0 []).1 (Nat.le_of_eq g13.symm)
  have F_lineBreaks_b13 : Fld Z h13 b13 "com/example/libsitemap/libsitemap/LineCounter" "lineBreaks" "I" (.int (0 : Int32)) := D13 (Or.inl (hw _ (List.mem_of_getElem? (i := 22) rfl))) (ty := .int) (by decide)
  have F_afterCarriageReturn_b13 : Fld Z h13 b13 "com/example/libsitemap/libsitemap/LineCounter" "afterCarriageReturn" "Z" (.int (0 : Int32)) := D13 (Or.inl (hw _ (List.mem_of_getElem? (i := 29) rfl))) (ty := .boolean) (by decide)
  have sz15 : n0 ≤ h13.size := (Nat.le_trans Z0 E13.1)
  obtain ⟨_, _, ⟨T14, L14, k14, n14⟩, -, X14, ⟨Lc14, hQ14, l14, y14, z14⟩, st14⟩ := X13.specialBack hx (y := (⟨"com/example/libsitemap/libsitemap/LineCounter", "<init>", "()V"⟩ : MethodName)) rfl hown (mvT hZ (hw _ (List.mem_of_getElem? (i := 10) rfl))) (mvT hZ (hw _ (List.mem_of_getElem? (i := 11) rfl))) (mvT hZ (hw _ (List.mem_of_getElem? (i := 12) rfl))) (by decide) (backOf (W := 1) (rm3 l Z a0 hw [] b13 h13 n0 sz15 ) hZ (hw _ (List.mem_of_getElem? (i := 12) rfl)) (hw _ (List.mem_of_getElem? (i := 9) rfl)) (by decide) (by decide)) (g := (mkF m 134 #[.val (.int p1), .val (.int p2), .val (.int p3), .val (.int p4), .val (.int p5), .val (.int c0), .val (.int c1), .val (.int c2), .val (.int c3), .val (.int e0'), .val (.int e1'), .val (.int e2'), .val (.int e3'), .val (.int n0'), .val (.int (n0' + n1')), .val (.int ((n0' + n1') + n2')), .val (.int (((n0' + n1') + n2') + n3')), .unset, .unset, .unset, .unset, .unset, .unset] [(.ref b13), (.ref b13)])) rfl (by rw [hml]; rfl) (Steps.refl _) (a := b13) (argsL := []) (rest := [(.ref b13)]) (lenOf pd_2 rfl) rfl (by show 2 * 0 + _ ≤ _; exact Nat.le_of_eq rfl) (hb hby at_134) (fun _ _ => ⟨rfl, e13, (by decide : 1 + 0 ≤ _), (by decide : 2 + 0 ≤ _)⟩)
  dsimp only [Pt.U, Pt.locs, Pt.cells, Pt.slots] at X14 l14 y14 z14 st14 hQ14
  subst l14 y14 z14
  obtain ⟨rfl, N14q, e14q⟩ := hQ14
  have N14 := Fr.app N8 N14q
  obtain ⟨cq16, kq16, q16a, q16b, q16c⟩ := isOf hZ e14q A13
  obtain ⟨_, _, ⟨T16, L16, k16, n16⟩, -, X16, ⟨Lc16, hQ16, l16, y16, z16⟩, st16⟩ := X14.virtualBack hx (y := (⟨"com/example/libsitemap/libsitemap/LineCounter", "lineBreaks", "()I"⟩ : MethodName)) (z := (⟨"com/example/libsitemap/libsitemap/LineCounter", "lineBreaks", "()I"⟩ : MethodName)) hown (mvT hZ (hw _ (List.mem_of_getElem? (i := 16) rfl))) (mvT hZ (hw _ (List.mem_of_getElem? (i := 17) rfl))) (notFace_of_selects (args := #[]) (mvT hZ (hw _ (List.mem_of_getElem? (i := 19) rfl)))) (mvT hZ (hw _ (List.mem_of_getElem? (i := 19) rfl))) (mvT hZ (hw _ (List.mem_of_getElem? (i := 18) rfl))) (by decide) (backOf (W := 0) (rm5 l Z a0 hw [] b13 (0 : Int32) h13 n0 sz15 F_lineBreaks_b13) hZ (hw _ (List.mem_of_getElem? (i := 20) rfl)) (hw _ (List.mem_of_getElem? (i := 9) rfl)) (by decide) (by decide)) q16a q16c (g := (mkF m 141 #[.val (.int p1), .val (.int p2), .val (.int p3), .val (.int p4), .val (.int p5), .val (.int c0), .val (.int c1), .val (.int c2), .val (.int c3), .val (.int e0'), .val (.int e1'), .val (.int e2'), .val (.int e3'), .val (.int n0'), .val (.int (n0' + n1')), .val (.int ((n0' + n1') + n2')), .val (.int (((n0' + n1') + n2') + n3')), .val (.ref b13), .unset, .unset, .unset, .unset, .unset] [(.ref b13)])) rfl (by rw [hml]; rfl) (Steps.refl _) (argsL := []) (rest := []) (lenOf pd_3 rfl) rfl (by show 2 * 0 + _ ≤ _; exact Nat.le_of_eq rfl) (hb hby at_141) (fun _ _ => ⟨rfl, e14q, (by decide : 1 + 0 ≤ _), (by decide : 2 + 0 ≤ _)⟩)
  dsimp only [Pt.U, Pt.locs, Pt.cells, Pt.slots] at X16 l16 y16 z16 st16 hQ16
  subst l16 y16 z16
  obtain ⟨rfl, N16q, e16q⟩ := hQ16
  have N16 := Fr.app N14 N16q
  obtain ⟨cq17, kq17, q17a, q17b, q17c⟩ := isOf hZ e16q A13
  obtain ⟨_, _, ⟨T17, L17, k17, n17⟩, -, X17, ⟨Lc17, hQ17, l17, y17, z17⟩, st17⟩ := X16.virtualBack hx (y := (⟨"com/example/libsitemap/libsitemap/LineCounter", "take", "(I)Z"⟩ : MethodName)) (z := (⟨"com/example/libsitemap/libsitemap/LineCounter", "take", "(I)Z"⟩ : MethodName)) hown (mvT hZ (hw _ (List.mem_of_getElem? (i := 23) rfl))) (mvT hZ (hw _ (List.mem_of_getElem? (i := 24) rfl))) (notFace_of_selects (args := #[]) (mvT hZ (hw _ (List.mem_of_getElem? (i := 26) rfl)))) (mvT hZ (hw _ (List.mem_of_getElem? (i := 26) rfl))) (mvT hZ (hw _ (List.mem_of_getElem? (i := 25) rfl))) (by decide) (backOf (W := 0) (rm6 l Z a0 hw [] b13 c0 (0 : Int32) (0 : Int32) h13 n0 sz15 A13 F_lineBreaks_b13 F_afterCarriageReturn_b13 g_b13) hZ (hw _ (List.mem_of_getElem? (i := 27) rfl)) (hw _ (List.mem_of_getElem? (i := 9) rfl)) (by decide) (by decide)) q17a q17c (g := (mkF m 158 #[.val (.int p1), .val (.int p2), .val (.int p3), .val (.int p4), .val (.int p5), .val (.int c0), .val (.int c1), .val (.int c2), .val (.int c3), .val (.int e0'), .val (.int e1'), .val (.int e2'), .val (.int e3'), .val (.int n0'), .val (.int (n0' + n1')), .val (.int ((n0' + n1') + n2')), .val (.int (((n0' + n1') + n2') + n3')), .val (.ref b13), .val (.int (1 : Int32)), .unset, .unset, .unset, .unset] [(.int c0), (.ref b13)])) rfl (by rw [hml]; rfl) (Steps.refl _) (argsL := [(.int c0)]) (rest := []) (lenOf pd_4 rfl) rfl (by show 2 * 0 + _ ≤ _; exact Nat.le_of_eq rfl) (hb hby at_158) (fun _ _ => ⟨rfl, e16q, (by decide : 1 + 0 ≤ _), (by decide : 2 + 0 ≤ _)⟩)
  dsimp only [Pt.U, Pt.locs, Pt.cells, Pt.slots] at X17 l17 y17 z17 st17 hQ17
  subst l17 y17 z17
  obtain ⟨rfl, N17q, K17, p17_1, p17_2, p17_3⟩ := hQ17
  have N17 := Fr.app N16 N17q
  have ht0 : own_take c0 (0 : Int32) = e0' := by rw [h_e0']; exact own_te0 c0
  have ht1 : own_take c1 (if c0 = 13 then 1 else 0) = e1' := by rw [h_e1']; exact own_te c1 c0
  have ht2 : own_take c2 (if c1 = 13 then 1 else 0) = e2' := by rw [h_e2']; exact own_te c2 c1
  have ht3 : own_take c3 (if c2 = 13 then 1 else 0) = e3' := by rw [h_e3']; exact own_te c3 c2
  have sz19 : n0 ≤ T17.heap.size := (Nat.le_trans sz15 K17.1)
  obtain ⟨cq18, kq18, q18a, q18b, q18c⟩ := isOf hZ rfl p17_1
  obtain ⟨_, _, ⟨T18, L18, k18, n18⟩, -, X18, ⟨Lc18, hQ18, l18, y18, z18⟩, st18⟩ := X17.virtualBack hx (y := (⟨"com/example/libsitemap/libsitemap/LineCounter", "lineBreaks", "()I"⟩ : MethodName)) (z := (⟨"com/example/libsitemap/libsitemap/LineCounter", "lineBreaks", "()I"⟩ : MethodName)) hown (mvT hZ (hw _ (List.mem_of_getElem? (i := 16) rfl))) (mvT hZ (hw _ (List.mem_of_getElem? (i := 17) rfl))) (notFace_of_selects (args := #[]) (mvT hZ (hw _ (List.mem_of_getElem? (i := 19) rfl)))) (mvT hZ (hw _ (List.mem_of_getElem? (i := 19) rfl))) (mvT hZ (hw _ (List.mem_of_getElem? (i := 18) rfl))) (by decide) (backOf (W := 0) (rm5 l Z a0 hw [] b13 ((0 : Int32) + own_take c0 (0 : Int32)) (T17.heap) n0 sz19 p17_2) hZ (hw _ (List.mem_of_getElem? (i := 20) rfl)) (hw _ (List.mem_of_getElem? (i := 9) rfl)) (by decide) (by decide)) q18a q18c (g := (mkF m 177 #[.val (.int p1), .val (.int p2), .val (.int p3), .val (.int p4), .val (.int p5), .val (.int c0), .val (.int c1), .val (.int c2), .val (.int c3), .val (.int e0'), .val (.int e1'), .val (.int e2'), .val (.int e3'), .val (.int n0'), .val (.int (n0' + n1')), .val (.int ((n0' + n1') + n2')), .val (.int (((n0' + n1') + n2') + n3')), .val (.ref b13), .val (.int (1 : Int32)), .val (.int (own_take c0 (0 : Int32))), .unset, .unset, .unset] [(.ref b13)])) rfl (by rw [hml]; rfl) (Steps.refl _) (argsL := []) (rest := []) (lenOf pd_3 rfl) rfl (by show 2 * 0 + _ ≤ _; exact Nat.le_of_eq rfl) (hb hby at_177) (fun _ _ => ⟨rfl, rfl, (by decide : 1 + 0 ≤ _), (by decide : 2 + 0 ≤ _)⟩)
  dsimp only [Pt.U, Pt.locs, Pt.cells, Pt.slots] at X18 l18 y18 z18 st18 hQ18
  subst l18 y18 z18
  obtain ⟨rfl, N18q, e18q⟩ := hQ18
  have N18 := Fr.app N17 N18q
  obtain ⟨cq20, kq20, q20a, q20b, q20c⟩ := isOf hZ e18q p17_1
  obtain ⟨_, _, ⟨T20, L20, k20, n20⟩, -, X20, ⟨Lc20, hQ20, l20, y20, z20⟩, st20⟩ := X18.virtualBack hx (y := (⟨"com/example/libsitemap/libsitemap/LineCounter", "take", "(I)Z"⟩ : MethodName)) (z := (⟨"com/example/libsitemap/libsitemap/LineCounter", "take", "(I)Z"⟩ : MethodName)) hown (mvT hZ (hw _ (List.mem_of_getElem? (i := 23) rfl))) (mvT hZ (hw _ (List.mem_of_getElem? (i := 24) rfl))) (notFace_of_selects (args := #[]) (mvT hZ (hw _ (List.mem_of_getElem? (i := 26) rfl)))) (mvT hZ (hw _ (List.mem_of_getElem? (i := 26) rfl))) (mvT hZ (hw _ (List.mem_of_getElem? (i := 25) rfl))) (by decide) (backOf (W := 0) (rm6 l Z a0 hw [] b13 c1 ((0 : Int32) + own_take c0 (0 : Int32)) (if c0 = 13 then 1 else 0) (T17.heap) n0 sz19 p17_1 p17_2 p17_3 g_b13) hZ (hw _ (List.mem_of_getElem? (i := 27) rfl)) (hw _ (List.mem_of_getElem? (i := 9) rfl)) (by decide) (by decide)) q20a q20c (g := (mkF m 196 #[.val (.int p1), .val (.int p2), .val (.int p3), .val (.int p4), .val (.int p5), .val (.int c0), .val (.int c1), .val (.int c2), .val (.int c3), .val (.int e0'), .val (.int e1'), .val (.int e2'), .val (.int e3'), .val (.int n0'), .val (.int (n0' + n1')), .val (.int ((n0' + n1') + n2')), .val (.int (((n0' + n1') + n2') + n3')), .val (.ref b13), .val (.int (1 : Int32)), .val (.int (own_take c0 (0 : Int32))), .unset, .unset, .unset] [(.int c1), (.ref b13)])) rfl (by rw [hml]; rfl) (Steps.refl _) (argsL := [(.int c1)]) (rest := []) (lenOf pd_4 rfl) rfl (by show 2 * 0 + _ ≤ _; exact Nat.le_of_eq rfl) (hb hby at_196) (fun _ _ => ⟨rfl, e18q, (by decide : 1 + 0 ≤ _), (by decide : 2 + 0 ≤ _)⟩)
  dsimp only [Pt.U, Pt.locs, Pt.cells, Pt.slots] at X20 l20 y20 z20 st20 hQ20
  subst l20 y20 z20
  obtain ⟨rfl, N20q, K20, p20_1, p20_2, p20_3⟩ := hQ20
  have N20 := Fr.app N18 N20q
  have sz22 : n0 ≤ T20.heap.size := (Nat.le_trans sz19 K20.1)
  obtain ⟨cq21, kq21, q21a, q21b, q21c⟩ := isOf hZ rfl p20_1
  obtain ⟨_, _, ⟨T21, L21, k21, n21⟩, -, X21, ⟨Lc21, hQ21, l21, y21, z21⟩, st21⟩ := X20.virtualBack hx (y := (⟨"com/example/libsitemap/libsitemap/LineCounter", "lineBreaks", "()I"⟩ : MethodName)) (z := (⟨"com/example/libsitemap/libsitemap/LineCounter", "lineBreaks", "()I"⟩ : MethodName)) hown (mvT hZ (hw _ (List.mem_of_getElem? (i := 16) rfl))) (mvT hZ (hw _ (List.mem_of_getElem? (i := 17) rfl))) (notFace_of_selects (args := #[]) (mvT hZ (hw _ (List.mem_of_getElem? (i := 19) rfl)))) (mvT hZ (hw _ (List.mem_of_getElem? (i := 19) rfl))) (mvT hZ (hw _ (List.mem_of_getElem? (i := 18) rfl))) (by decide) (backOf (W := 0) (rm5 l Z a0 hw [] b13 (((0 : Int32) + own_take c0 (0 : Int32)) + own_take c1 (if c0 = 13 then 1 else 0)) (T20.heap) n0 sz22 p20_2) hZ (hw _ (List.mem_of_getElem? (i := 20) rfl)) (hw _ (List.mem_of_getElem? (i := 9) rfl)) (by decide) (by decide)) q21a q21c (g := (mkF m 215 #[.val (.int p1), .val (.int p2), .val (.int p3), .val (.int p4), .val (.int p5), .val (.int c0), .val (.int c1), .val (.int c2), .val (.int c3), .val (.int e0'), .val (.int e1'), .val (.int e2'), .val (.int e3'), .val (.int n0'), .val (.int (n0' + n1')), .val (.int ((n0' + n1') + n2')), .val (.int (((n0' + n1') + n2') + n3')), .val (.ref b13), .val (.int (1 : Int32)), .val (.int (own_take c0 (0 : Int32))), .val (.int (own_take c1 (if c0 = 13 then 1 else 0))), .unset, .unset] [(.ref b13)])) rfl (by rw [hml]; rfl) (Steps.refl _) (argsL := []) (rest := []) (lenOf pd_3 rfl) rfl (by show 2 * 0 + _ ≤ _; exact Nat.le_of_eq rfl) (hb hby at_215) (fun _ _ => ⟨rfl, rfl, (by decide : 1 + 0 ≤ _), (by decide : 2 + 0 ≤ _)⟩)
  dsimp only [Pt.U, Pt.locs, Pt.cells, Pt.slots] at X21 l21 y21 z21 st21 hQ21
  subst l21 y21 z21
  obtain ⟨rfl, N21q, e21q⟩ := hQ21
  have N21 := Fr.app N20 N21q
  obtain ⟨cq23, kq23, q23a, q23b, q23c⟩ := isOf hZ e21q p20_1
  obtain ⟨_, _, ⟨T23, L23, k23, n23⟩, -, X23, ⟨Lc23, hQ23, l23, y23, z23⟩, st23⟩ := X21.virtualBack hx (y := (⟨"com/example/libsitemap/libsitemap/LineCounter", "take", "(I)Z"⟩ : MethodName)) (z := (⟨"com/example/libsitemap/libsitemap/LineCounter", "take", "(I)Z"⟩ : MethodName)) hown (mvT hZ (hw _ (List.mem_of_getElem? (i := 23) rfl))) (mvT hZ (hw _ (List.mem_of_getElem? (i := 24) rfl))) (notFace_of_selects (args := #[]) (mvT hZ (hw _ (List.mem_of_getElem? (i := 26) rfl)))) (mvT hZ (hw _ (List.mem_of_getElem? (i := 26) rfl))) (mvT hZ (hw _ (List.mem_of_getElem? (i := 25) rfl))) (by decide) (backOf (W := 0) (rm6 l Z a0 hw [] b13 c2 (((0 : Int32) + own_take c0 (0 : Int32)) + own_take c1 (if c0 = 13 then 1 else 0)) (if c1 = 13 then 1 else 0) (T20.heap) n0 sz22 p20_1 p20_2 p20_3 g_b13) hZ (hw _ (List.mem_of_getElem? (i := 27) rfl)) (hw _ (List.mem_of_getElem? (i := 9) rfl)) (by decide) (by decide)) q23a q23c (g := (mkF m 234 #[.val (.int p1), .val (.int p2), .val (.int p3), .val (.int p4), .val (.int p5), .val (.int c0), .val (.int c1), .val (.int c2), .val (.int c3), .val (.int e0'), .val (.int e1'), .val (.int e2'), .val (.int e3'), .val (.int n0'), .val (.int (n0' + n1')), .val (.int ((n0' + n1') + n2')), .val (.int (((n0' + n1') + n2') + n3')), .val (.ref b13), .val (.int (1 : Int32)), .val (.int (own_take c0 (0 : Int32))), .val (.int (own_take c1 (if c0 = 13 then 1 else 0))), .unset, .unset] [(.int c2), (.ref b13)])) rfl (by rw [hml]; rfl) (Steps.refl _) (argsL := [(.int c2)]) (rest := []) (lenOf pd_4 rfl) rfl (by show 2 * 0 + _ ≤ _; exact Nat.le_of_eq rfl) (hb hby at_234) (fun _ _ => ⟨rfl, e21q, (by decide : 1 + 0 ≤ _), (by decide : 2 + 0 ≤ _)⟩)
  dsimp only [Pt.U, Pt.locs, Pt.cells, Pt.slots] at X23 l23 y23 z23 st23 hQ23
  subst l23 y23 z23
  obtain ⟨rfl, N23q, K23, p23_1, p23_2, p23_3⟩ := hQ23
  have N23 := Fr.app N21 N23q
  have sz25 : n0 ≤ T23.heap.size := (Nat.le_trans sz22 K23.1)
  obtain ⟨cq24, kq24, q24a, q24b, q24c⟩ := isOf hZ rfl p23_1
  obtain ⟨_, _, ⟨T24, L24, k24, n24⟩, -, X24, ⟨Lc24, hQ24, l24, y24, z24⟩, st24⟩ := X23.virtualBack hx (y := (⟨"com/example/libsitemap/libsitemap/LineCounter", "lineBreaks", "()I"⟩ : MethodName)) (z := (⟨"com/example/libsitemap/libsitemap/LineCounter", "lineBreaks", "()I"⟩ : MethodName)) hown (mvT hZ (hw _ (List.mem_of_getElem? (i := 16) rfl))) (mvT hZ (hw _ (List.mem_of_getElem? (i := 17) rfl))) (notFace_of_selects (args := #[]) (mvT hZ (hw _ (List.mem_of_getElem? (i := 19) rfl)))) (mvT hZ (hw _ (List.mem_of_getElem? (i := 19) rfl))) (mvT hZ (hw _ (List.mem_of_getElem? (i := 18) rfl))) (by decide) (backOf (W := 0) (rm5 l Z a0 hw [] b13 ((((0 : Int32) + own_take c0 (0 : Int32)) + own_take c1 (if c0 = 13 then 1 else 0)) + own_take c2 (if c1 = 13 then 1 else 0)) (T23.heap) n0 sz25 p23_2) hZ (hw _ (List.mem_of_getElem? (i := 20) rfl)) (hw _ (List.mem_of_getElem? (i := 9) rfl)) (by decide) (by decide)) q24a q24c (g := (mkF m 253 #[.val (.int p1), .val (.int p2), .val (.int p3), .val (.int p4), .val (.int p5), .val (.int c0), .val (.int c1), .val (.int c2), .val (.int c3), .val (.int e0'), .val (.int e1'), .val (.int e2'), .val (.int e3'), .val (.int n0'), .val (.int (n0' + n1')), .val (.int ((n0' + n1') + n2')), .val (.int (((n0' + n1') + n2') + n3')), .val (.ref b13), .val (.int (1 : Int32)), .val (.int (own_take c0 (0 : Int32))), .val (.int (own_take c1 (if c0 = 13 then 1 else 0))), .val (.int (own_take c2 (if c1 = 13 then 1 else 0))), .unset] [(.ref b13)])) rfl (by rw [hml]; rfl) (Steps.refl _) (argsL := []) (rest := []) (lenOf pd_3 rfl) rfl (by show 2 * 0 + _ ≤ _; exact Nat.le_of_eq rfl) (hb hby at_253) (fun _ _ => ⟨rfl, rfl, (by decide : 1 + 0 ≤ _), (by decide : 2 + 0 ≤ _)⟩)
  dsimp only [Pt.U, Pt.locs, Pt.cells, Pt.slots] at X24 l24 y24 z24 st24 hQ24
  subst l24 y24 z24
  obtain ⟨rfl, N24q, e24q⟩ := hQ24
  have N24 := Fr.app N23 N24q
  obtain ⟨cq26, kq26, q26a, q26b, q26c⟩ := isOf hZ e24q p23_1
  obtain ⟨_, _, ⟨T26, L26, k26, n26⟩, -, X26, ⟨Lc26, hQ26, l26, y26, z26⟩, st26⟩ := X24.virtualBack hx (y := (⟨"com/example/libsitemap/libsitemap/LineCounter", "take", "(I)Z"⟩ : MethodName)) (z := (⟨"com/example/libsitemap/libsitemap/LineCounter", "take", "(I)Z"⟩ : MethodName)) hown (mvT hZ (hw _ (List.mem_of_getElem? (i := 23) rfl))) (mvT hZ (hw _ (List.mem_of_getElem? (i := 24) rfl))) (notFace_of_selects (args := #[]) (mvT hZ (hw _ (List.mem_of_getElem? (i := 26) rfl)))) (mvT hZ (hw _ (List.mem_of_getElem? (i := 26) rfl))) (mvT hZ (hw _ (List.mem_of_getElem? (i := 25) rfl))) (by decide) (backOf (W := 0) (rm6 l Z a0 hw [] b13 c3 ((((0 : Int32) + own_take c0 (0 : Int32)) + own_take c1 (if c0 = 13 then 1 else 0)) + own_take c2 (if c1 = 13 then 1 else 0)) (if c2 = 13 then 1 else 0) (T23.heap) n0 sz25 p23_1 p23_2 p23_3 g_b13) hZ (hw _ (List.mem_of_getElem? (i := 27) rfl)) (hw _ (List.mem_of_getElem? (i := 9) rfl)) (by decide) (by decide)) q26a q26c (g := (mkF m 272 #[.val (.int p1), .val (.int p2), .val (.int p3), .val (.int p4), .val (.int p5), .val (.int c0), .val (.int c1), .val (.int c2), .val (.int c3), .val (.int e0'), .val (.int e1'), .val (.int e2'), .val (.int e3'), .val (.int n0'), .val (.int (n0' + n1')), .val (.int ((n0' + n1') + n2')), .val (.int (((n0' + n1') + n2') + n3')), .val (.ref b13), .val (.int (1 : Int32)), .val (.int (own_take c0 (0 : Int32))), .val (.int (own_take c1 (if c0 = 13 then 1 else 0))), .val (.int (own_take c2 (if c1 = 13 then 1 else 0))), .unset] [(.int c3), (.ref b13)])) rfl (by rw [hml]; rfl) (Steps.refl _) (argsL := [(.int c3)]) (rest := []) (lenOf pd_4 rfl) rfl (by show 2 * 0 + _ ≤ _; exact Nat.le_of_eq rfl) (hb hby at_272) (fun _ _ => ⟨rfl, e24q, (by decide : 1 + 0 ≤ _), (by decide : 2 + 0 ≤ _)⟩)
  dsimp only [Pt.U, Pt.locs, Pt.cells, Pt.slots] at X26 l26 y26 z26 st26 hQ26
  subst l26 y26 z26
  obtain ⟨rfl, N26q, K26, p26_1, p26_2, p26_3⟩ := hQ26
  have N26 := Fr.app N24 N26q
  have sz28 : n0 ≤ T26.heap.size := (Nat.le_trans sz25 K26.1)
  obtain ⟨cq27, kq27, q27a, q27b, q27c⟩ := isOf hZ rfl p26_1
  obtain ⟨_, _, ⟨T27, L27, k27, n27⟩, -, X27, ⟨Lc27, hQ27, l27, y27, z27⟩, st27⟩ := X26.virtualBack hx (y := (⟨"com/example/libsitemap/libsitemap/LineCounter", "lineBreaks", "()I"⟩ : MethodName)) (z := (⟨"com/example/libsitemap/libsitemap/LineCounter", "lineBreaks", "()I"⟩ : MethodName)) hown (mvT hZ (hw _ (List.mem_of_getElem? (i := 16) rfl))) (mvT hZ (hw _ (List.mem_of_getElem? (i := 17) rfl))) (notFace_of_selects (args := #[]) (mvT hZ (hw _ (List.mem_of_getElem? (i := 19) rfl)))) (mvT hZ (hw _ (List.mem_of_getElem? (i := 19) rfl))) (mvT hZ (hw _ (List.mem_of_getElem? (i := 18) rfl))) (by decide) (backOf (W := 0) (rm5 l Z a0 hw [] b13 (((((0 : Int32) + own_take c0 (0 : Int32)) + own_take c1 (if c0 = 13 then 1 else 0)) + own_take c2 (if c1 = 13 then 1 else 0)) + own_take c3 (if c2 = 13 then 1 else 0)) (T26.heap) n0 sz28 p26_2) hZ (hw _ (List.mem_of_getElem? (i := 20) rfl)) (hw _ (List.mem_of_getElem? (i := 9) rfl)) (by decide) (by decide)) q27a q27c (g := (mkF m 291 #[.val (.int p1), .val (.int p2), .val (.int p3), .val (.int p4), .val (.int p5), .val (.int c0), .val (.int c1), .val (.int c2), .val (.int c3), .val (.int e0'), .val (.int e1'), .val (.int e2'), .val (.int e3'), .val (.int n0'), .val (.int (n0' + n1')), .val (.int ((n0' + n1') + n2')), .val (.int (((n0' + n1') + n2') + n3')), .val (.ref b13), .val (.int (1 : Int32)), .val (.int (own_take c0 (0 : Int32))), .val (.int (own_take c1 (if c0 = 13 then 1 else 0))), .val (.int (own_take c2 (if c1 = 13 then 1 else 0))), .val (.int (own_take c3 (if c2 = 13 then 1 else 0)))] [(.ref b13)])) rfl (by rw [hml]; rfl) (Steps.refl _) (argsL := []) (rest := []) (lenOf pd_3 rfl) rfl (by show 2 * 0 + _ ≤ _; exact Nat.le_of_eq rfl) (hb hby at_291) (fun _ _ => ⟨rfl, rfl, (by decide : 1 + 0 ≤ _), (by decide : 2 + 0 ≤ _)⟩)
  dsimp only [Pt.U, Pt.locs, Pt.cells, Pt.slots] at X27 l27 y27 z27 st27 hQ27
  subst l27 y27 z27
  obtain ⟨rfl, N27q, e27q⟩ := hQ27
  have N27 := Fr.app N26 N27q
  obtain ⟨fs, hr, hrun, hended, hW, hsame⟩ := X27.leave (v := some (.int (1 : Int32))) (fun h => by rw [Bd.returns] at h; cases h)
  refine ⟨_, _, pre0 _ ?_, hrun, hended, _, _, rfl, ?_, ⟨_, rfl⟩, hW, hsame.mono (by decide) (by decide)⟩
  · show Steps p.tables e below (s₁.setTop (mkF m 0 #[.val (.int p1), .val (.int p2), .val (.int p3), .val (.int p4), .val (.int p5), .unset, .unset, .unset, .unset, .unset, .unset, .unset, .unset, .unset, .unset, .unset, .unset, .unset, .unset, .unset, .unset, .unset, .unset] [])) _
    refine XS.iloadN X0.here hx rfl (hb hby at_0) rfl ?_
    show Steps p.tables e below (s₁.setTop (mkF m 1 #[.val (.int p1), .val (.int p2), .val (.int p3), .val (.int p4), .val (.int p5), .unset, .unset, .unset, .unset, .unset, .unset, .unset, .unset, .unset, .unset, .unset, .unset, .unset, .unset, .unset, .unset, .unset, .unset] [(.int p1)])) _
    refine XS.iconst X0.here hx rfl (hb hby at_1) ?_
    show Steps p.tables e below (s₁.setTop (mkF m 2 #[.val (.int p1), .val (.int p2), .val (.int p3), .val (.int p4), .val (.int p5), .unset, .unset, .unset, .unset, .unset, .unset, .unset, .unset, .unset, .unset, .unset, .unset, .unset, .unset, .unset, .unset, .unset, .unset] [(.int (0 : Int32)), (.int p1)])) _
    refine XS.iloadN X0.here hx rfl (hb hby at_2) rfl ?_
    show Steps p.tables e below (s₁.setTop (mkF m 3 #[.val (.int p1), .val (.int p2), .val (.int p3), .val (.int p4), .val (.int p5), .unset, .unset, .unset, .unset, .unset, .unset, .unset, .unset, .unset, .unset, .unset, .unset, .unset, .unset, .unset, .unset, .unset, .unset] [(.int p2), (.int (0 : Int32)), (.int p1)])) _
    refine st1 _ ?_
    show Steps p.tables e below (T1.setTop (mkF m 6 #[.val (.int p1), .val (.int p2), .val (.int p3), .val (.int p4), .val (.int p5), .unset, .unset, .unset, .unset, .unset, .unset, .unset, .unset, .unset, .unset, .unset, .unset, .unset, .unset, .unset, .unset, .unset, .unset] [(.int (own_ch p1 (0 : Int32) p2))])) _
    rw [← h_c0]
    show Steps p.tables e below (T1.setTop (mkF m 6 #[.val (.int p1), .val (.int p2), .val (.int p3), .val (.int p4), .val (.int p5), .unset, .unset, .unset, .unset, .unset, .unset, .unset, .unset, .unset, .unset, .unset, .unset, .unset, .unset, .unset, .unset, .unset, .unset] [(.int c0)])) _
    refine XS.istore X1.here hx rfl (hb hby at_6) rfl (l' := #[.val (.int p1), .val (.int p2), .val (.int p3), .val (.int p4), .val (.int p5), .val (.int c0), .unset, .unset, .unset, .unset, .unset, .unset, .unset, .unset, .unset, .unset, .unset, .unset, .unset, .unset, .unset, .unset, .unset]) rfl ?_
    show Steps p.tables e below (T1.setTop (mkF m 8 #[.val (.int p1), .val (.int p2), .val (.int p3), .val (.int p4), .val (.int p5), .val (.int c0), .unset, .unset, .unset, .unset, .unset, .unset, .unset, .unset, .unset, .unset, .unset, .unset, .unset, .unset, .unset, .unset, .unset] [])) _
    refine XS.iloadN X1.here hx rfl (hb hby at_8) rfl ?_
    show Steps p.tables e below (T1.setTop (mkF m 9 #[.val (.int p1), .val (.int p2), .val (.int p3), .val (.int p4), .val (.int p5), .val (.int c0), .unset, .unset, .unset, .unset, .unset, .unset, .unset, .unset, .unset, .unset, .unset, .unset, .unset, .unset, .unset, .unset, .unset] [(.int p1)])) _
    refine XS.iconst X1.here hx rfl (hb hby at_9) ?_
    show Steps p.tables e below (T1.setTop (mkF m 10 #[.val (.int p1), .val (.int p2), .val (.int p3), .val (.int p4), .val (.int p5), .val (.int c0), .unset, .unset, .unset, .unset, .unset, .unset, .unset, .unset, .unset, .unset, .unset, .unset, .unset, .unset, .unset, .unset, .unset] [(.int (2 : Int32)), (.int p1)])) _
    refine XS.iloadN X1.here hx rfl (hb hby at_10) rfl ?_
    show Steps p.tables e below (T1.setTop (mkF m 11 #[.val (.int p1), .val (.int p2), .val (.int p3), .val (.int p4), .val (.int p5), .val (.int c0), .unset, .unset, .unset, .unset, .unset, .unset, .unset, .unset, .unset, .unset, .unset, .unset, .unset, .unset, .unset, .unset, .unset] [(.int p3), (.int (2 : Int32)), (.int p1)])) _
    refine st2 _ ?_
    show Steps p.tables e below (T2.setTop (mkF m 14 #[.val (.int p1), .val (.int p2), .val (.int p3), .val (.int p4), .val (.int p5), .val (.int c0), .unset, .unset, .unset, .unset, .unset, .unset, .unset, .unset, .unset, .unset, .unset, .unset, .unset, .unset, .unset, .unset, .unset] [(.int (own_ch p1 (2 : Int32) p3))])) _
    rw [← h_c1]
    show Steps p.tables e below (T2.setTop (mkF m 14 #[.val (.int p1), .val (.int p2), .val (.int p3), .val (.int p4), .val (.int p5), .val (.int c0), .unset, .unset, .unset, .unset, .unset, .unset, .unset, .unset, .unset, .unset, .unset, .unset, .unset, .unset, .unset, .unset, .unset] [(.int c1)])) _
    refine XS.istore X2.here hx rfl (hb hby at_14) rfl (l' := #[.val (.int p1), .val (.int p2), .val (.int p3), .val (.int p4), .val (.int p5), .val (.int c0), .val (.int c1), .unset, .unset, .unset, .unset, .unset, .unset, .unset, .unset, .unset, .unset, .unset, .unset, .unset, .unset, .unset, .unset]) rfl ?_
    show Steps p.tables e below (T2.setTop (mkF m 16 #[.val (.int p1), .val (.int p2), .val (.int p3), .val (.int p4), .val (.int p5), .val (.int c0), .val (.int c1), .unset, .unset, .unset, .unset, .unset, .unset, .unset, .unset, .unset, .unset, .unset, .unset, .unset, .unset, .unset, .unset] [])) _
    refine XS.iloadN X2.here hx rfl (hb hby at_16) rfl ?_
    show Steps p.tables e below (T2.setTop (mkF m 17 #[.val (.int p1), .val (.int p2), .val (.int p3), .val (.int p4), .val (.int p5), .val (.int c0), .val (.int c1), .unset, .unset, .unset, .unset, .unset, .unset, .unset, .unset, .unset, .unset, .unset, .unset, .unset, .unset, .unset, .unset] [(.int p1)])) _
    refine XS.iconst X2.here hx rfl (hb hby at_17) ?_
    show Steps p.tables e below (T2.setTop (mkF m 18 #[.val (.int p1), .val (.int p2), .val (.int p3), .val (.int p4), .val (.int p5), .val (.int c0), .val (.int c1), .unset, .unset, .unset, .unset, .unset, .unset, .unset, .unset, .unset, .unset, .unset, .unset, .unset, .unset, .unset, .unset] [(.int (4 : Int32)), (.int p1)])) _
    refine XS.iloadN X2.here hx rfl (hb hby at_18) rfl ?_
    show Steps p.tables e below (T2.setTop (mkF m 19 #[.val (.int p1), .val (.int p2), .val (.int p3), .val (.int p4), .val (.int p5), .val (.int c0), .val (.int c1), .unset, .unset, .unset, .unset, .unset, .unset, .unset, .unset, .unset, .unset, .unset, .unset, .unset, .unset, .unset, .unset] [(.int p4), (.int (4 : Int32)), (.int p1)])) _
    refine st3 _ ?_
    show Steps p.tables e below (T3.setTop (mkF m 22 #[.val (.int p1), .val (.int p2), .val (.int p3), .val (.int p4), .val (.int p5), .val (.int c0), .val (.int c1), .unset, .unset, .unset, .unset, .unset, .unset, .unset, .unset, .unset, .unset, .unset, .unset, .unset, .unset, .unset, .unset] [(.int (own_ch p1 (4 : Int32) p4))])) _
    rw [← h_c2]
    show Steps p.tables e below (T3.setTop (mkF m 22 #[.val (.int p1), .val (.int p2), .val (.int p3), .val (.int p4), .val (.int p5), .val (.int c0), .val (.int c1), .unset, .unset, .unset, .unset, .unset, .unset, .unset, .unset, .unset, .unset, .unset, .unset, .unset, .unset, .unset, .unset] [(.int c2)])) _
    refine XS.istore X3.here hx rfl (hb hby at_22) rfl (l' := #[.val (.int p1), .val (.int p2), .val (.int p3), .val (.int p4), .val (.int p5), .val (.int c0), .val (.int c1), .val (.int c2), .unset, .unset, .unset, .unset, .unset, .unset, .unset, .unset, .unset, .unset, .unset, .unset, .unset, .unset, .unset]) rfl ?_
    show Steps p.tables e below (T3.setTop (mkF m 24 #[.val (.int p1), .val (.int p2), .val (.int p3), .val (.int p4), .val (.int p5), .val (.int c0), .val (.int c1), .val (.int c2), .unset, .unset, .unset, .unset, .unset, .unset, .unset, .unset, .unset, .unset, .unset, .unset, .unset, .unset, .unset] [])) _
    refine XS.iloadN X3.here hx rfl (hb hby at_24) rfl ?_
    show Steps p.tables e below (T3.setTop (mkF m 25 #[.val (.int p1), .val (.int p2), .val (.int p3), .val (.int p4), .val (.int p5), .val (.int c0), .val (.int c1), .val (.int c2), .unset, .unset, .unset, .unset, .unset, .unset, .unset, .unset, .unset, .unset, .unset, .unset, .unset, .unset, .unset] [(.int p1)])) _
    refine XS.bipush X3.here hx rfl (hb hby at_25) ?_
    show Steps p.tables e below (T3.setTop (mkF m 27 #[.val (.int p1), .val (.int p2), .val (.int p3), .val (.int p4), .val (.int p5), .val (.int c0), .val (.int c1), .val (.int c2), .unset, .unset, .unset, .unset, .unset, .unset, .unset, .unset, .unset, .unset, .unset, .unset, .unset, .unset, .unset] [(.int (6 : Int32)), (.int p1)])) _
    refine XS.iload X3.here hx rfl (hb hby at_27) rfl ?_
    show Steps p.tables e below (T3.setTop (mkF m 29 #[.val (.int p1), .val (.int p2), .val (.int p3), .val (.int p4), .val (.int p5), .val (.int c0), .val (.int c1), .val (.int c2), .unset, .unset, .unset, .unset, .unset, .unset, .unset, .unset, .unset, .unset, .unset, .unset, .unset, .unset, .unset] [(.int p5), (.int (6 : Int32)), (.int p1)])) _
    refine st4 _ ?_
    show Steps p.tables e below (T4.setTop (mkF m 32 #[.val (.int p1), .val (.int p2), .val (.int p3), .val (.int p4), .val (.int p5), .val (.int c0), .val (.int c1), .val (.int c2), .unset, .unset, .unset, .unset, .unset, .unset, .unset, .unset, .unset, .unset, .unset, .unset, .unset, .unset, .unset] [(.int (own_ch p1 (6 : Int32) p5))])) _
    rw [← h_c3]
    show Steps p.tables e below (T4.setTop (mkF m 32 #[.val (.int p1), .val (.int p2), .val (.int p3), .val (.int p4), .val (.int p5), .val (.int c0), .val (.int c1), .val (.int c2), .unset, .unset, .unset, .unset, .unset, .unset, .unset, .unset, .unset, .unset, .unset, .unset, .unset, .unset, .unset] [(.int c3)])) _
    refine XS.istore X4.here hx rfl (hb hby at_32) rfl (l' := #[.val (.int p1), .val (.int p2), .val (.int p3), .val (.int p4), .val (.int p5), .val (.int c0), .val (.int c1), .val (.int c2), .val (.int c3), .unset, .unset, .unset, .unset, .unset, .unset, .unset, .unset, .unset, .unset, .unset, .unset, .unset, .unset]) rfl ?_
    show Steps p.tables e below (T4.setTop (mkF m 34 #[.val (.int p1), .val (.int p2), .val (.int p3), .val (.int p4), .val (.int p5), .val (.int c0), .val (.int c1), .val (.int c2), .val (.int c3), .unset, .unset, .unset, .unset, .unset, .unset, .unset, .unset, .unset, .unset, .unset, .unset, .unset, .unset] [])) _
    refine XS.iload X4.here hx rfl (hb hby at_34) rfl ?_
    show Steps p.tables e below (T4.setTop (mkF m 36 #[.val (.int p1), .val (.int p2), .val (.int p3), .val (.int p4), .val (.int p5), .val (.int c0), .val (.int c1), .val (.int c2), .val (.int c3), .unset, .unset, .unset, .unset, .unset, .unset, .unset, .unset, .unset, .unset, .unset, .unset, .unset, .unset] [(.int c0)])) _
    refine XS.iconst X4.here hx rfl (hb hby at_36) ?_
    show Steps p.tables e below (T4.setTop (mkF m 37 #[.val (.int p1), .val (.int p2), .val (.int p3), .val (.int p4), .val (.int p5), .val (.int c0), .val (.int c1), .val (.int c2), .val (.int c3), .unset, .unset, .unset, .unset, .unset, .unset, .unset, .unset, .unset, .unset, .unset, .unset, .unset, .unset] [(.int (0 : Int32)), (.int c0)])) _
    refine XS.iconst X4.here hx rfl (hb hby at_37) ?_
    show Steps p.tables e below (T4.setTop (mkF m 38 #[.val (.int p1), .val (.int p2), .val (.int p3), .val (.int p4), .val (.int p5), .val (.int c0), .val (.int c1), .val (.int c2), .val (.int c3), .unset, .unset, .unset, .unset, .unset, .unset, .unset, .unset, .unset, .unset, .unset, .unset, .unset, .unset] [(.int (0 : Int32)), (.int (0 : Int32)), (.int c0)])) _
    refine st5 _ ?_
    show Steps p.tables e below (T5.setTop (mkF m 41 #[.val (.int p1), .val (.int p2), .val (.int p3), .val (.int p4), .val (.int p5), .val (.int c0), .val (.int c1), .val (.int c2), .val (.int c3), .unset, .unset, .unset, .unset, .unset, .unset, .unset, .unset, .unset, .unset, .unset, .unset, .unset, .unset] [(.int (own_exp c0 (0 : Int32) (0 : Int32)))])) _
    rw [← h_e0']
    show Steps p.tables e below (T5.setTop (mkF m 41 #[.val (.int p1), .val (.int p2), .val (.int p3), .val (.int p4), .val (.int p5), .val (.int c0), .val (.int c1), .val (.int c2), .val (.int c3), .unset, .unset, .unset, .unset, .unset, .unset, .unset, .unset, .unset, .unset, .unset, .unset, .unset, .unset] [(.int e0')])) _
    refine XS.istore X5.here hx rfl (hb hby at_41) rfl (l' := #[.val (.int p1), .val (.int p2), .val (.int p3), .val (.int p4), .val (.int p5), .val (.int c0), .val (.int c1), .val (.int c2), .val (.int c3), .val (.int e0'), .unset, .unset, .unset, .unset, .unset, .unset, .unset, .unset, .unset, .unset, .unset, .unset, .unset]) rfl ?_
    show Steps p.tables e below (T5.setTop (mkF m 43 #[.val (.int p1), .val (.int p2), .val (.int p3), .val (.int p4), .val (.int p5), .val (.int c0), .val (.int c1), .val (.int c2), .val (.int c3), .val (.int e0'), .unset, .unset, .unset, .unset, .unset, .unset, .unset, .unset, .unset, .unset, .unset, .unset, .unset] [])) _
    refine XS.iload X5.here hx rfl (hb hby at_43) rfl ?_
    show Steps p.tables e below (T5.setTop (mkF m 45 #[.val (.int p1), .val (.int p2), .val (.int p3), .val (.int p4), .val (.int p5), .val (.int c0), .val (.int c1), .val (.int c2), .val (.int c3), .val (.int e0'), .unset, .unset, .unset, .unset, .unset, .unset, .unset, .unset, .unset, .unset, .unset, .unset, .unset] [(.int c1)])) _
    refine XS.iload X5.here hx rfl (hb hby at_45) rfl ?_
    show Steps p.tables e below (T5.setTop (mkF m 47 #[.val (.int p1), .val (.int p2), .val (.int p3), .val (.int p4), .val (.int p5), .val (.int c0), .val (.int c1), .val (.int c2), .val (.int c3), .val (.int e0'), .unset, .unset, .unset, .unset, .unset, .unset, .unset, .unset, .unset, .unset, .unset, .unset, .unset] [(.int c0), (.int c1)])) _
    refine XS.iconst X5.here hx rfl (hb hby at_47) ?_
    show Steps p.tables e below (T5.setTop (mkF m 48 #[.val (.int p1), .val (.int p2), .val (.int p3), .val (.int p4), .val (.int p5), .val (.int c0), .val (.int c1), .val (.int c2), .val (.int c3), .val (.int e0'), .unset, .unset, .unset, .unset, .unset, .unset, .unset, .unset, .unset, .unset, .unset, .unset, .unset] [(.int (1 : Int32)), (.int c0), (.int c1)])) _
    refine st6 _ ?_
    show Steps p.tables e below (T6.setTop (mkF m 51 #[.val (.int p1), .val (.int p2), .val (.int p3), .val (.int p4), .val (.int p5), .val (.int c0), .val (.int c1), .val (.int c2), .val (.int c3), .val (.int e0'), .unset, .unset, .unset, .unset, .unset, .unset, .unset, .unset, .unset, .unset, .unset, .unset, .unset] [(.int (own_exp c1 c0 (1 : Int32)))])) _
    rw [← h_e1']
    show Steps p.tables e below (T6.setTop (mkF m 51 #[.val (.int p1), .val (.int p2), .val (.int p3), .val (.int p4), .val (.int p5), .val (.int c0), .val (.int c1), .val (.int c2), .val (.int c3), .val (.int e0'), .unset, .unset, .unset, .unset, .unset, .unset, .unset, .unset, .unset, .unset, .unset, .unset, .unset] [(.int e1')])) _
    refine XS.istore X6.here hx rfl (hb hby at_51) rfl (l' := #[.val (.int p1), .val (.int p2), .val (.int p3), .val (.int p4), .val (.int p5), .val (.int c0), .val (.int c1), .val (.int c2), .val (.int c3), .val (.int e0'), .val (.int e1'), .unset, .unset, .unset, .unset, .unset, .unset, .unset, .unset, .unset, .unset, .unset, .unset]) rfl ?_
    show Steps p.tables e below (T6.setTop (mkF m 53 #[.val (.int p1), .val (.int p2), .val (.int p3), .val (.int p4), .val (.int p5), .val (.int c0), .val (.int c1), .val (.int c2), .val (.int c3), .val (.int e0'), .val (.int e1'), .unset, .unset, .unset, .unset, .unset, .unset, .unset, .unset, .unset, .unset, .unset, .unset] [])) _
    refine XS.iload X6.here hx rfl (hb hby at_53) rfl ?_
    show Steps p.tables e below (T6.setTop (mkF m 55 #[.val (.int p1), .val (.int p2), .val (.int p3), .val (.int p4), .val (.int p5), .val (.int c0), .val (.int c1), .val (.int c2), .val (.int c3), .val (.int e0'), .val (.int e1'), .unset, .unset, .unset, .unset, .unset, .unset, .unset, .unset, .unset, .unset, .unset, .unset] [(.int c2)])) _
    refine XS.iload X6.here hx rfl (hb hby at_55) rfl ?_
    show Steps p.tables e below (T6.setTop (mkF m 57 #[.val (.int p1), .val (.int p2), .val (.int p3), .val (.int p4), .val (.int p5), .val (.int c0), .val (.int c1), .val (.int c2), .val (.int c3), .val (.int e0'), .val (.int e1'), .unset, .unset, .unset, .unset, .unset, .unset, .unset, .unset, .unset, .unset, .unset, .unset] [(.int c1), (.int c2)])) _
    refine XS.iconst X6.here hx rfl (hb hby at_57) ?_
    show Steps p.tables e below (T6.setTop (mkF m 58 #[.val (.int p1), .val (.int p2), .val (.int p3), .val (.int p4), .val (.int p5), .val (.int c0), .val (.int c1), .val (.int c2), .val (.int c3), .val (.int e0'), .val (.int e1'), .unset, .unset, .unset, .unset, .unset, .unset, .unset, .unset, .unset, .unset, .unset, .unset] [(.int (1 : Int32)), (.int c1), (.int c2)])) _
    refine st7 _ ?_
    show Steps p.tables e below (T7.setTop (mkF m 61 #[.val (.int p1), .val (.int p2), .val (.int p3), .val (.int p4), .val (.int p5), .val (.int c0), .val (.int c1), .val (.int c2), .val (.int c3), .val (.int e0'), .val (.int e1'), .unset, .unset, .unset, .unset, .unset, .unset, .unset, .unset, .unset, .unset, .unset, .unset] [(.int (own_exp c2 c1 (1 : Int32)))])) _
    rw [← h_e2']
    show Steps p.tables e below (T7.setTop (mkF m 61 #[.val (.int p1), .val (.int p2), .val (.int p3), .val (.int p4), .val (.int p5), .val (.int c0), .val (.int c1), .val (.int c2), .val (.int c3), .val (.int e0'), .val (.int e1'), .unset, .unset, .unset, .unset, .unset, .unset, .unset, .unset, .unset, .unset, .unset, .unset] [(.int e2')])) _
    refine XS.istore X7.here hx rfl (hb hby at_61) rfl (l' := #[.val (.int p1), .val (.int p2), .val (.int p3), .val (.int p4), .val (.int p5), .val (.int c0), .val (.int c1), .val (.int c2), .val (.int c3), .val (.int e0'), .val (.int e1'), .val (.int e2'), .unset, .unset, .unset, .unset, .unset, .unset, .unset, .unset, .unset, .unset, .unset]) rfl ?_
    show Steps p.tables e below (T7.setTop (mkF m 63 #[.val (.int p1), .val (.int p2), .val (.int p3), .val (.int p4), .val (.int p5), .val (.int c0), .val (.int c1), .val (.int c2), .val (.int c3), .val (.int e0'), .val (.int e1'), .val (.int e2'), .unset, .unset, .unset, .unset, .unset, .unset, .unset, .unset, .unset, .unset, .unset] [])) _
    refine XS.iload X7.here hx rfl (hb hby at_63) rfl ?_
    show Steps p.tables e below (T7.setTop (mkF m 65 #[.val (.int p1), .val (.int p2), .val (.int p3), .val (.int p4), .val (.int p5), .val (.int c0), .val (.int c1), .val (.int c2), .val (.int c3), .val (.int e0'), .val (.int e1'), .val (.int e2'), .unset, .unset, .unset, .unset, .unset, .unset, .unset, .unset, .unset, .unset, .unset] [(.int c3)])) _
    refine XS.iload X7.here hx rfl (hb hby at_65) rfl ?_
    show Steps p.tables e below (T7.setTop (mkF m 67 #[.val (.int p1), .val (.int p2), .val (.int p3), .val (.int p4), .val (.int p5), .val (.int c0), .val (.int c1), .val (.int c2), .val (.int c3), .val (.int e0'), .val (.int e1'), .val (.int e2'), .unset, .unset, .unset, .unset, .unset, .unset, .unset, .unset, .unset, .unset, .unset] [(.int c2), (.int c3)])) _
    refine XS.iconst X7.here hx rfl (hb hby at_67) ?_
    show Steps p.tables e below (T7.setTop (mkF m 68 #[.val (.int p1), .val (.int p2), .val (.int p3), .val (.int p4), .val (.int p5), .val (.int c0), .val (.int c1), .val (.int c2), .val (.int c3), .val (.int e0'), .val (.int e1'), .val (.int e2'), .unset, .unset, .unset, .unset, .unset, .unset, .unset, .unset, .unset, .unset, .unset] [(.int (1 : Int32)), (.int c2), (.int c3)])) _
    refine st8 _ ?_
    show Steps p.tables e below (T8.setTop (mkF m 71 #[.val (.int p1), .val (.int p2), .val (.int p3), .val (.int p4), .val (.int p5), .val (.int c0), .val (.int c1), .val (.int c2), .val (.int c3), .val (.int e0'), .val (.int e1'), .val (.int e2'), .unset, .unset, .unset, .unset, .unset, .unset, .unset, .unset, .unset, .unset, .unset] [(.int (own_exp c3 c2 (1 : Int32)))])) _
    rw [← h_e3']
    show Steps p.tables e below (T8.setTop (mkF m 71 #[.val (.int p1), .val (.int p2), .val (.int p3), .val (.int p4), .val (.int p5), .val (.int c0), .val (.int c1), .val (.int c2), .val (.int c3), .val (.int e0'), .val (.int e1'), .val (.int e2'), .unset, .unset, .unset, .unset, .unset, .unset, .unset, .unset, .unset, .unset, .unset] [(.int e3')])) _
    refine XS.istore X8.here hx rfl (hb hby at_71) rfl (l' := #[.val (.int p1), .val (.int p2), .val (.int p3), .val (.int p4), .val (.int p5), .val (.int c0), .val (.int c1), .val (.int c2), .val (.int c3), .val (.int e0'), .val (.int e1'), .val (.int e2'), .val (.int e3'), .unset, .unset, .unset, .unset, .unset, .unset, .unset, .unset, .unset, .unset]) rfl ?_
    show Steps p.tables e below (T8.setTop (mkF m 73 #[.val (.int p1), .val (.int p2), .val (.int p3), .val (.int p4), .val (.int p5), .val (.int c0), .val (.int c1), .val (.int c2), .val (.int c3), .val (.int e0'), .val (.int e1'), .val (.int e2'), .val (.int e3'), .unset, .unset, .unset, .unset, .unset, .unset, .unset, .unset, .unset, .unset] [])) _
    refine XS.iload X8.here hx rfl (hb hby at_73) rfl ?_
    show Steps p.tables e below (T8.setTop (mkF m 75 #[.val (.int p1), .val (.int p2), .val (.int p3), .val (.int p4), .val (.int p5), .val (.int c0), .val (.int c1), .val (.int c2), .val (.int c3), .val (.int e0'), .val (.int e1'), .val (.int e2'), .val (.int e3'), .unset, .unset, .unset, .unset, .unset, .unset, .unset, .unset, .unset, .unset] [(.int e0')])) _
    refine dm9 _ ?_
    show Steps p.tables e below (T8.setTop (mkF m 83 #[.val (.int p1), .val (.int p2), .val (.int p3), .val (.int p4), .val (.int p5), .val (.int c0), .val (.int c1), .val (.int c2), .val (.int c3), .val (.int e0'), .val (.int e1'), .val (.int e2'), .val (.int e3'), .unset, .unset, .unset, .unset, .unset, .unset, .unset, .unset, .unset, .unset] [(.int n0')])) _
    refine XS.istore X8.here hx rfl (hb hby at_83) rfl (l' := #[.val (.int p1), .val (.int p2), .val (.int p3), .val (.int p4), .val (.int p5), .val (.int c0), .val (.int c1), .val (.int c2), .val (.int c3), .val (.int e0'), .val (.int e1'), .val (.int e2'), .val (.int e3'), .val (.int n0'), .unset, .unset, .unset, .unset, .unset, .unset, .unset, .unset, .unset]) rfl ?_
    show Steps p.tables e below (T8.setTop (mkF m 85 #[.val (.int p1), .val (.int p2), .val (.int p3), .val (.int p4), .val (.int p5), .val (.int c0), .val (.int c1), .val (.int c2), .val (.int c3), .val (.int e0'), .val (.int e1'), .val (.int e2'), .val (.int e3'), .val (.int n0'), .unset, .unset, .unset, .unset, .unset, .unset, .unset, .unset, .unset] [])) _
    refine XS.iload X8.here hx rfl (hb hby at_85) rfl ?_
    show Steps p.tables e below (T8.setTop (mkF m 87 #[.val (.int p1), .val (.int p2), .val (.int p3), .val (.int p4), .val (.int p5), .val (.int c0), .val (.int c1), .val (.int c2), .val (.int c3), .val (.int e0'), .val (.int e1'), .val (.int e2'), .val (.int e3'), .val (.int n0'), .unset, .unset, .unset, .unset, .unset, .unset, .unset, .unset, .unset] [(.int n0')])) _
    refine XS.iload X8.here hx rfl (hb hby at_87) rfl ?_
    show Steps p.tables e below (T8.setTop (mkF m 89 #[.val (.int p1), .val (.int p2), .val (.int p3), .val (.int p4), .val (.int p5), .val (.int c0), .val (.int c1), .val (.int c2), .val (.int c3), .val (.int e0'), .val (.int e1'), .val (.int e2'), .val (.int e3'), .val (.int n0'), .unset, .unset, .unset, .unset, .unset, .unset, .unset, .unset, .unset] [(.int e1'), (.int n0')])) _
    refine dm10 _ ?_
    show Steps p.tables e below (T8.setTop (mkF m 97 #[.val (.int p1), .val (.int p2), .val (.int p3), .val (.int p4), .val (.int p5), .val (.int c0), .val (.int c1), .val (.int c2), .val (.int c3), .val (.int e0'), .val (.int e1'), .val (.int e2'), .val (.int e3'), .val (.int n0'), .unset, .unset, .unset, .unset, .unset, .unset, .unset, .unset, .unset] [(.int n1'), (.int n0')])) _
    refine XS.iadd X8.here hx rfl (hb hby at_97) rfl ?_
    show Steps p.tables e below (T8.setTop (mkF m 98 #[.val (.int p1), .val (.int p2), .val (.int p3), .val (.int p4), .val (.int p5), .val (.int c0), .val (.int c1), .val (.int c2), .val (.int c3), .val (.int e0'), .val (.int e1'), .val (.int e2'), .val (.int e3'), .val (.int n0'), .unset, .unset, .unset, .unset, .unset, .unset, .unset, .unset, .unset] [(.int (n0' + n1'))])) _
    refine XS.istore X8.here hx rfl (hb hby at_98) rfl (l' := #[.val (.int p1), .val (.int p2), .val (.int p3), .val (.int p4), .val (.int p5), .val (.int c0), .val (.int c1), .val (.int c2), .val (.int c3), .val (.int e0'), .val (.int e1'), .val (.int e2'), .val (.int e3'), .val (.int n0'), .val (.int (n0' + n1')), .unset, .unset, .unset, .unset, .unset, .unset, .unset, .unset]) rfl ?_
    show Steps p.tables e below (T8.setTop (mkF m 100 #[.val (.int p1), .val (.int p2), .val (.int p3), .val (.int p4), .val (.int p5), .val (.int c0), .val (.int c1), .val (.int c2), .val (.int c3), .val (.int e0'), .val (.int e1'), .val (.int e2'), .val (.int e3'), .val (.int n0'), .val (.int (n0' + n1')), .unset, .unset, .unset, .unset, .unset, .unset, .unset, .unset] [])) _
    refine XS.iload X8.here hx rfl (hb hby at_100) rfl ?_
    show Steps p.tables e below (T8.setTop (mkF m 102 #[.val (.int p1), .val (.int p2), .val (.int p3), .val (.int p4), .val (.int p5), .val (.int c0), .val (.int c1), .val (.int c2), .val (.int c3), .val (.int e0'), .val (.int e1'), .val (.int e2'), .val (.int e3'), .val (.int n0'), .val (.int (n0' + n1')), .unset, .unset, .unset, .unset, .unset, .unset, .unset, .unset] [(.int (n0' + n1'))])) _
    refine XS.iload X8.here hx rfl (hb hby at_102) rfl ?_
    show Steps p.tables e below (T8.setTop (mkF m 104 #[.val (.int p1), .val (.int p2), .val (.int p3), .val (.int p4), .val (.int p5), .val (.int c0), .val (.int c1), .val (.int c2), .val (.int c3), .val (.int e0'), .val (.int e1'), .val (.int e2'), .val (.int e3'), .val (.int n0'), .val (.int (n0' + n1')), .unset, .unset, .unset, .unset, .unset, .unset, .unset, .unset] [(.int e2'), (.int (n0' + n1'))])) _
    refine dm11 _ ?_
    show Steps p.tables e below (T8.setTop (mkF m 112 #[.val (.int p1), .val (.int p2), .val (.int p3), .val (.int p4), .val (.int p5), .val (.int c0), .val (.int c1), .val (.int c2), .val (.int c3), .val (.int e0'), .val (.int e1'), .val (.int e2'), .val (.int e3'), .val (.int n0'), .val (.int (n0' + n1')), .unset, .unset, .unset, .unset, .unset, .unset, .unset, .unset] [(.int n2'), (.int (n0' + n1'))])) _
    refine XS.iadd X8.here hx rfl (hb hby at_112) rfl ?_
    show Steps p.tables e below (T8.setTop (mkF m 113 #[.val (.int p1), .val (.int p2), .val (.int p3), .val (.int p4), .val (.int p5), .val (.int c0), .val (.int c1), .val (.int c2), .val (.int c3), .val (.int e0'), .val (.int e1'), .val (.int e2'), .val (.int e3'), .val (.int n0'), .val (.int (n0' + n1')), .unset, .unset, .unset, .unset, .unset, .unset, .unset, .unset] [(.int ((n0' + n1') + n2'))])) _
    refine XS.istore X8.here hx rfl (hb hby at_113) rfl (l' := #[.val (.int p1), .val (.int p2), .val (.int p3), .val (.int p4), .val (.int p5), .val (.int c0), .val (.int c1), .val (.int c2), .val (.int c3), .val (.int e0'), .val (.int e1'), .val (.int e2'), .val (.int e3'), .val (.int n0'), .val (.int (n0' + n1')), .val (.int ((n0' + n1') + n2')), .unset, .unset, .unset, .unset, .unset, .unset, .unset]) rfl ?_
    show Steps p.tables e below (T8.setTop (mkF m 115 #[.val (.int p1), .val (.int p2), .val (.int p3), .val (.int p4), .val (.int p5), .val (.int c0), .val (.int c1), .val (.int c2), .val (.int c3), .val (.int e0'), .val (.int e1'), .val (.int e2'), .val (.int e3'), .val (.int n0'), .val (.int (n0' + n1')), .val (.int ((n0' + n1') + n2')), .unset, .unset, .unset, .unset, .unset, .unset, .unset] [])) _
    refine XS.iload X8.here hx rfl (hb hby at_115) rfl ?_
    show Steps p.tables e below (T8.setTop (mkF m 117 #[.val (.int p1), .val (.int p2), .val (.int p3), .val (.int p4), .val (.int p5), .val (.int c0), .val (.int c1), .val (.int c2), .val (.int c3), .val (.int e0'), .val (.int e1'), .val (.int e2'), .val (.int e3'), .val (.int n0'), .val (.int (n0' + n1')), .val (.int ((n0' + n1') + n2')), .unset, .unset, .unset, .unset, .unset, .unset, .unset] [(.int ((n0' + n1') + n2'))])) _
    refine XS.iload X8.here hx rfl (hb hby at_117) rfl ?_
    show Steps p.tables e below (T8.setTop (mkF m 119 #[.val (.int p1), .val (.int p2), .val (.int p3), .val (.int p4), .val (.int p5), .val (.int c0), .val (.int c1), .val (.int c2), .val (.int c3), .val (.int e0'), .val (.int e1'), .val (.int e2'), .val (.int e3'), .val (.int n0'), .val (.int (n0' + n1')), .val (.int ((n0' + n1') + n2')), .unset, .unset, .unset, .unset, .unset, .unset, .unset] [(.int e3'), (.int ((n0' + n1') + n2'))])) _
    refine dm12 _ ?_
    show Steps p.tables e below (T8.setTop (mkF m 127 #[.val (.int p1), .val (.int p2), .val (.int p3), .val (.int p4), .val (.int p5), .val (.int c0), .val (.int c1), .val (.int c2), .val (.int c3), .val (.int e0'), .val (.int e1'), .val (.int e2'), .val (.int e3'), .val (.int n0'), .val (.int (n0' + n1')), .val (.int ((n0' + n1') + n2')), .unset, .unset, .unset, .unset, .unset, .unset, .unset] [(.int n3'), (.int ((n0' + n1') + n2'))])) _
    refine XS.iadd X8.here hx rfl (hb hby at_127) rfl ?_
    show Steps p.tables e below (T8.setTop (mkF m 128 #[.val (.int p1), .val (.int p2), .val (.int p3), .val (.int p4), .val (.int p5), .val (.int c0), .val (.int c1), .val (.int c2), .val (.int c3), .val (.int e0'), .val (.int e1'), .val (.int e2'), .val (.int e3'), .val (.int n0'), .val (.int (n0' + n1')), .val (.int ((n0' + n1') + n2')), .unset, .unset, .unset, .unset, .unset, .unset, .unset] [(.int (((n0' + n1') + n2') + n3'))])) _
    refine XS.istore X8.here hx rfl (hb hby at_128) rfl (l' := #[.val (.int p1), .val (.int p2), .val (.int p3), .val (.int p4), .val (.int p5), .val (.int c0), .val (.int c1), .val (.int c2), .val (.int c3), .val (.int e0'), .val (.int e1'), .val (.int e2'), .val (.int e3'), .val (.int n0'), .val (.int (n0' + n1')), .val (.int ((n0' + n1') + n2')), .val (.int (((n0' + n1') + n2') + n3')), .unset, .unset, .unset, .unset, .unset, .unset]) rfl ?_
    show Steps p.tables e below (T8.setTop (mkF m 130 #[.val (.int p1), .val (.int p2), .val (.int p3), .val (.int p4), .val (.int p5), .val (.int c0), .val (.int c1), .val (.int c2), .val (.int c3), .val (.int e0'), .val (.int e1'), .val (.int e2'), .val (.int e3'), .val (.int n0'), .val (.int (n0' + n1')), .val (.int ((n0' + n1') + n2')), .val (.int (((n0' + n1') + n2') + n3')), .unset, .unset, .unset, .unset, .unset, .unset] [])) _
    refine st13 _ ?_
    show Steps p.tables e below (T13.setTop (mkF m 133 #[.val (.int p1), .val (.int p2), .val (.int p3), .val (.int p4), .val (.int p5), .val (.int c0), .val (.int c1), .val (.int c2), .val (.int c3), .val (.int e0'), .val (.int e1'), .val (.int e2'), .val (.int e3'), .val (.int n0'), .val (.int (n0' + n1')), .val (.int ((n0' + n1') + n2')), .val (.int (((n0' + n1') + n2') + n3')), .unset, .unset, .unset, .unset, .unset, .unset] [(.ref b13)])) _
    refine XS.dup X13.here hx rfl (hb hby at_133) rfl rfl ?_
    show Steps p.tables e below (T13.setTop (mkF m 134 #[.val (.int p1), .val (.int p2), .val (.int p3), .val (.int p4), .val (.int p5), .val (.int c0), .val (.int c1), .val (.int c2), .val (.int c3), .val (.int e0'), .val (.int e1'), .val (.int e2'), .val (.int e3'), .val (.int n0'), .val (.int (n0' + n1')), .val (.int ((n0' + n1') + n2')), .val (.int (((n0' + n1') + n2') + n3')), .unset, .unset, .unset, .unset, .unset, .unset] [(.ref b13), (.ref b13)])) _
    refine st14.trans ?_
    show Steps p.tables e below (T14.setTop (mkF m 137 #[.val (.int p1), .val (.int p2), .val (.int p3), .val (.int p4), .val (.int p5), .val (.int c0), .val (.int c1), .val (.int c2), .val (.int c3), .val (.int e0'), .val (.int e1'), .val (.int e2'), .val (.int e3'), .val (.int n0'), .val (.int (n0' + n1')), .val (.int ((n0' + n1') + n2')), .val (.int (((n0' + n1') + n2') + n3')), .unset, .unset, .unset, .unset, .unset, .unset] [(.ref b13)])) _
    refine XS.astore X14.here hx rfl (hb hby at_137) rfl rfl (l' := #[.val (.int p1), .val (.int p2), .val (.int p3), .val (.int p4), .val (.int p5), .val (.int c0), .val (.int c1), .val (.int c2), .val (.int c3), .val (.int e0'), .val (.int e1'), .val (.int e2'), .val (.int e3'), .val (.int n0'), .val (.int (n0' + n1')), .val (.int ((n0' + n1') + n2')), .val (.int (((n0' + n1') + n2') + n3')), .val (.ref b13), .unset, .unset, .unset, .unset, .unset]) rfl ?_
    show Steps p.tables e below (T14.setTop (mkF m 139 #[.val (.int p1), .val (.int p2), .val (.int p3), .val (.int p4), .val (.int p5), .val (.int c0), .val (.int c1), .val (.int c2), .val (.int c3), .val (.int e0'), .val (.int e1'), .val (.int e2'), .val (.int e3'), .val (.int n0'), .val (.int (n0' + n1')), .val (.int ((n0' + n1') + n2')), .val (.int (((n0' + n1') + n2') + n3')), .val (.ref b13), .unset, .unset, .unset, .unset, .unset] [])) _
    refine XS.aload X14.here hx rfl (hb hby at_139) rfl rfl ?_
    show Steps p.tables e below (T14.setTop (mkF m 141 #[.val (.int p1), .val (.int p2), .val (.int p3), .val (.int p4), .val (.int p5), .val (.int c0), .val (.int c1), .val (.int c2), .val (.int c3), .val (.int e0'), .val (.int e1'), .val (.int e2'), .val (.int e3'), .val (.int n0'), .val (.int (n0' + n1')), .val (.int ((n0' + n1') + n2')), .val (.int (((n0' + n1') + n2') + n3')), .val (.ref b13), .unset, .unset, .unset, .unset, .unset] [(.ref b13)])) _
    refine st16.trans ?_
    show Steps p.tables e below (T16.setTop (mkF m 144 #[.val (.int p1), .val (.int p2), .val (.int p3), .val (.int p4), .val (.int p5), .val (.int c0), .val (.int c1), .val (.int c2), .val (.int c3), .val (.int e0'), .val (.int e1'), .val (.int e2'), .val (.int e3'), .val (.int n0'), .val (.int (n0' + n1')), .val (.int ((n0' + n1') + n2')), .val (.int (((n0' + n1') + n2') + n3')), .val (.ref b13), .unset, .unset, .unset, .unset, .unset] [(.int (0 : Int32))])) _
    refine XS.ifNo X16.here hx rfl (hb hby at_144) rfl ((if0 _ _).trans (teq (show (0 : Int32) = (0 : Int32) from rfl)).2) ?_
    show Steps p.tables e below (T16.setTop (mkF m 147 #[.val (.int p1), .val (.int p2), .val (.int p3), .val (.int p4), .val (.int p5), .val (.int c0), .val (.int c1), .val (.int c2), .val (.int c3), .val (.int e0'), .val (.int e1'), .val (.int e2'), .val (.int e3'), .val (.int n0'), .val (.int (n0' + n1')), .val (.int ((n0' + n1') + n2')), .val (.int (((n0' + n1') + n2') + n3')), .val (.ref b13), .unset, .unset, .unset, .unset, .unset] [])) _
    refine XS.iconst X16.here hx rfl (hb hby at_147) ?_
    show Steps p.tables e below (T16.setTop (mkF m 148 #[.val (.int p1), .val (.int p2), .val (.int p3), .val (.int p4), .val (.int p5), .val (.int c0), .val (.int c1), .val (.int c2), .val (.int c3), .val (.int e0'), .val (.int e1'), .val (.int e2'), .val (.int e3'), .val (.int n0'), .val (.int (n0' + n1')), .val (.int ((n0' + n1') + n2')), .val (.int (((n0' + n1') + n2') + n3')), .val (.ref b13), .unset, .unset, .unset, .unset, .unset] [(.int (1 : Int32))])) _
    refine XS.goto X16.here hx rfl (pc0 := 148) (pc' := 152) rfl (hb hby at_148) (by decide) (by decide) ?_
    show Steps p.tables e below (T16.setTop (mkF m 152 #[.val (.int p1), .val (.int p2), .val (.int p3), .val (.int p4), .val (.int p5), .val (.int c0), .val (.int c1), .val (.int c2), .val (.int c3), .val (.int e0'), .val (.int e1'), .val (.int e2'), .val (.int e3'), .val (.int n0'), .val (.int (n0' + n1')), .val (.int ((n0' + n1') + n2')), .val (.int (((n0' + n1') + n2') + n3')), .val (.ref b13), .unset, .unset, .unset, .unset, .unset] [(.int (1 : Int32))])) _
    refine XS.istore X16.here hx rfl (hb hby at_152) rfl (l' := #[.val (.int p1), .val (.int p2), .val (.int p3), .val (.int p4), .val (.int p5), .val (.int c0), .val (.int c1), .val (.int c2), .val (.int c3), .val (.int e0'), .val (.int e1'), .val (.int e2'), .val (.int e3'), .val (.int n0'), .val (.int (n0' + n1')), .val (.int ((n0' + n1') + n2')), .val (.int (((n0' + n1') + n2') + n3')), .val (.ref b13), .val (.int (1 : Int32)), .unset, .unset, .unset, .unset]) rfl ?_
    show Steps p.tables e below (T16.setTop (mkF m 154 #[.val (.int p1), .val (.int p2), .val (.int p3), .val (.int p4), .val (.int p5), .val (.int c0), .val (.int c1), .val (.int c2), .val (.int c3), .val (.int e0'), .val (.int e1'), .val (.int e2'), .val (.int e3'), .val (.int n0'), .val (.int (n0' + n1')), .val (.int ((n0' + n1') + n2')), .val (.int (((n0' + n1') + n2') + n3')), .val (.ref b13), .val (.int (1 : Int32)), .unset, .unset, .unset, .unset] [])) _
    refine XS.aload X16.here hx rfl (hb hby at_154) rfl rfl ?_
    show Steps p.tables e below (T16.setTop (mkF m 156 #[.val (.int p1), .val (.int p2), .val (.int p3), .val (.int p4), .val (.int p5), .val (.int c0), .val (.int c1), .val (.int c2), .val (.int c3), .val (.int e0'), .val (.int e1'), .val (.int e2'), .val (.int e3'), .val (.int n0'), .val (.int (n0' + n1')), .val (.int ((n0' + n1') + n2')), .val (.int (((n0' + n1') + n2') + n3')), .val (.ref b13), .val (.int (1 : Int32)), .unset, .unset, .unset, .unset] [(.ref b13)])) _
    refine XS.iload X16.here hx rfl (hb hby at_156) rfl ?_
    show Steps p.tables e below (T16.setTop (mkF m 158 #[.val (.int p1), .val (.int p2), .val (.int p3), .val (.int p4), .val (.int p5), .val (.int c0), .val (.int c1), .val (.int c2), .val (.int c3), .val (.int e0'), .val (.int e1'), .val (.int e2'), .val (.int e3'), .val (.int n0'), .val (.int (n0' + n1')), .val (.int ((n0' + n1') + n2')), .val (.int (((n0' + n1') + n2') + n3')), .val (.ref b13), .val (.int (1 : Int32)), .unset, .unset, .unset, .unset] [(.int c0), (.ref b13)])) _
    refine st17.trans ?_
    show Steps p.tables e below (T17.setTop (mkF m 161 #[.val (.int p1), .val (.int p2), .val (.int p3), .val (.int p4), .val (.int p5), .val (.int c0), .val (.int c1), .val (.int c2), .val (.int c3), .val (.int e0'), .val (.int e1'), .val (.int e2'), .val (.int e3'), .val (.int n0'), .val (.int (n0' + n1')), .val (.int ((n0' + n1') + n2')), .val (.int (((n0' + n1') + n2') + n3')), .val (.ref b13), .val (.int (1 : Int32)), .unset, .unset, .unset, .unset] [(.int (own_take c0 (0 : Int32)))])) _
    refine XS.istore X17.here hx rfl (hb hby at_161) rfl (l' := #[.val (.int p1), .val (.int p2), .val (.int p3), .val (.int p4), .val (.int p5), .val (.int c0), .val (.int c1), .val (.int c2), .val (.int c3), .val (.int e0'), .val (.int e1'), .val (.int e2'), .val (.int e3'), .val (.int n0'), .val (.int (n0' + n1')), .val (.int ((n0' + n1') + n2')), .val (.int (((n0' + n1') + n2') + n3')), .val (.ref b13), .val (.int (1 : Int32)), .val (.int (own_take c0 (0 : Int32))), .unset, .unset, .unset]) rfl ?_
    show Steps p.tables e below (T17.setTop (mkF m 163 #[.val (.int p1), .val (.int p2), .val (.int p3), .val (.int p4), .val (.int p5), .val (.int c0), .val (.int c1), .val (.int c2), .val (.int c3), .val (.int e0'), .val (.int e1'), .val (.int e2'), .val (.int e3'), .val (.int n0'), .val (.int (n0' + n1')), .val (.int ((n0' + n1') + n2')), .val (.int (((n0' + n1') + n2') + n3')), .val (.ref b13), .val (.int (1 : Int32)), .val (.int (own_take c0 (0 : Int32))), .unset, .unset, .unset] [])) _
    refine XS.iload X17.here hx rfl (hb hby at_163) rfl ?_
    show Steps p.tables e below (T17.setTop (mkF m 165 #[.val (.int p1), .val (.int p2), .val (.int p3), .val (.int p4), .val (.int p5), .val (.int c0), .val (.int c1), .val (.int c2), .val (.int c3), .val (.int e0'), .val (.int e1'), .val (.int e2'), .val (.int e3'), .val (.int n0'), .val (.int (n0' + n1')), .val (.int ((n0' + n1') + n2')), .val (.int (((n0' + n1') + n2') + n3')), .val (.ref b13), .val (.int (1 : Int32)), .val (.int (own_take c0 (0 : Int32))), .unset, .unset, .unset] [(.int (1 : Int32))])) _
    refine XS.ifNo X17.here hx rfl (hb hby at_165) rfl ((if0 _ _).trans (feq (show ¬ ((1 : Int32) = (0 : Int32)) from (by decide))).1) ?_
    show Steps p.tables e below (T17.setTop (mkF m 168 #[.val (.int p1), .val (.int p2), .val (.int p3), .val (.int p4), .val (.int p5), .val (.int c0), .val (.int c1), .val (.int c2), .val (.int c3), .val (.int e0'), .val (.int e1'), .val (.int e2'), .val (.int e3'), .val (.int n0'), .val (.int (n0' + n1')), .val (.int ((n0' + n1') + n2')), .val (.int (((n0' + n1') + n2') + n3')), .val (.ref b13), .val (.int (1 : Int32)), .val (.int (own_take c0 (0 : Int32))), .unset, .unset, .unset] [])) _
    refine XS.iload X17.here hx rfl (hb hby at_168) rfl ?_
    show Steps p.tables e below (T17.setTop (mkF m 170 #[.val (.int p1), .val (.int p2), .val (.int p3), .val (.int p4), .val (.int p5), .val (.int c0), .val (.int c1), .val (.int c2), .val (.int c3), .val (.int e0'), .val (.int e1'), .val (.int e2'), .val (.int e3'), .val (.int n0'), .val (.int (n0' + n1')), .val (.int ((n0' + n1') + n2')), .val (.int (((n0' + n1') + n2') + n3')), .val (.ref b13), .val (.int (1 : Int32)), .val (.int (own_take c0 (0 : Int32))), .unset, .unset, .unset] [(.int (own_take c0 (0 : Int32)))])) _
    refine XS.iload X17.here hx rfl (hb hby at_170) rfl ?_
    show Steps p.tables e below (T17.setTop (mkF m 172 #[.val (.int p1), .val (.int p2), .val (.int p3), .val (.int p4), .val (.int p5), .val (.int c0), .val (.int c1), .val (.int c2), .val (.int c3), .val (.int e0'), .val (.int e1'), .val (.int e2'), .val (.int e3'), .val (.int n0'), .val (.int (n0' + n1')), .val (.int ((n0' + n1') + n2')), .val (.int (((n0' + n1') + n2') + n3')), .val (.ref b13), .val (.int (1 : Int32)), .val (.int (own_take c0 (0 : Int32))), .unset, .unset, .unset] [(.int e0'), (.int (own_take c0 (0 : Int32)))])) _
    refine XS.icmpNo X17.here hx rfl (hb hby at_172) rfl (teq (show (own_take c0 (0 : Int32)) = e0' from ht0)).2 ?_
    show Steps p.tables e below (T17.setTop (mkF m 175 #[.val (.int p1), .val (.int p2), .val (.int p3), .val (.int p4), .val (.int p5), .val (.int c0), .val (.int c1), .val (.int c2), .val (.int c3), .val (.int e0'), .val (.int e1'), .val (.int e2'), .val (.int e3'), .val (.int n0'), .val (.int (n0' + n1')), .val (.int ((n0' + n1') + n2')), .val (.int (((n0' + n1') + n2') + n3')), .val (.ref b13), .val (.int (1 : Int32)), .val (.int (own_take c0 (0 : Int32))), .unset, .unset, .unset] [])) _
    refine XS.aload X17.here hx rfl (hb hby at_175) rfl rfl ?_
    show Steps p.tables e below (T17.setTop (mkF m 177 #[.val (.int p1), .val (.int p2), .val (.int p3), .val (.int p4), .val (.int p5), .val (.int c0), .val (.int c1), .val (.int c2), .val (.int c3), .val (.int e0'), .val (.int e1'), .val (.int e2'), .val (.int e3'), .val (.int n0'), .val (.int (n0' + n1')), .val (.int ((n0' + n1') + n2')), .val (.int (((n0' + n1') + n2') + n3')), .val (.ref b13), .val (.int (1 : Int32)), .val (.int (own_take c0 (0 : Int32))), .unset, .unset, .unset] [(.ref b13)])) _
    refine st18.trans ?_
    show Steps p.tables e below (T18.setTop (mkF m 180 #[.val (.int p1), .val (.int p2), .val (.int p3), .val (.int p4), .val (.int p5), .val (.int c0), .val (.int c1), .val (.int c2), .val (.int c3), .val (.int e0'), .val (.int e1'), .val (.int e2'), .val (.int e3'), .val (.int n0'), .val (.int (n0' + n1')), .val (.int ((n0' + n1') + n2')), .val (.int (((n0' + n1') + n2') + n3')), .val (.ref b13), .val (.int (1 : Int32)), .val (.int (own_take c0 (0 : Int32))), .unset, .unset, .unset] [(.int ((0 : Int32) + own_take c0 (0 : Int32)))])) _
    refine XS.iload X18.here hx rfl (hb hby at_180) rfl ?_
    show Steps p.tables e below (T18.setTop (mkF m 182 #[.val (.int p1), .val (.int p2), .val (.int p3), .val (.int p4), .val (.int p5), .val (.int c0), .val (.int c1), .val (.int c2), .val (.int c3), .val (.int e0'), .val (.int e1'), .val (.int e2'), .val (.int e3'), .val (.int n0'), .val (.int (n0' + n1')), .val (.int ((n0' + n1') + n2')), .val (.int (((n0' + n1') + n2') + n3')), .val (.ref b13), .val (.int (1 : Int32)), .val (.int (own_take c0 (0 : Int32))), .unset, .unset, .unset] [(.int n0'), (.int ((0 : Int32) + own_take c0 (0 : Int32)))])) _
    refine XS.icmpNo X18.here hx rfl (hb hby at_182) rfl (teq (show ((0 : Int32) + own_take c0 (0 : Int32)) = n0' from (by rw [ht0, hn0, Int32.zero_add]))).2 ?_
    show Steps p.tables e below (T18.setTop (mkF m 185 #[.val (.int p1), .val (.int p2), .val (.int p3), .val (.int p4), .val (.int p5), .val (.int c0), .val (.int c1), .val (.int c2), .val (.int c3), .val (.int e0'), .val (.int e1'), .val (.int e2'), .val (.int e3'), .val (.int n0'), .val (.int (n0' + n1')), .val (.int ((n0' + n1') + n2')), .val (.int (((n0' + n1') + n2') + n3')), .val (.ref b13), .val (.int (1 : Int32)), .val (.int (own_take c0 (0 : Int32))), .unset, .unset, .unset] [])) _
    refine XS.iconst X18.here hx rfl (hb hby at_185) ?_
    show Steps p.tables e below (T18.setTop (mkF m 186 #[.val (.int p1), .val (.int p2), .val (.int p3), .val (.int p4), .val (.int p5), .val (.int c0), .val (.int c1), .val (.int c2), .val (.int c3), .val (.int e0'), .val (.int e1'), .val (.int e2'), .val (.int e3'), .val (.int n0'), .val (.int (n0' + n1')), .val (.int ((n0' + n1') + n2')), .val (.int (((n0' + n1') + n2') + n3')), .val (.ref b13), .val (.int (1 : Int32)), .val (.int (own_take c0 (0 : Int32))), .unset, .unset, .unset] [(.int (1 : Int32))])) _
    refine XS.goto X18.here hx rfl (pc0 := 186) (pc' := 190) rfl (hb hby at_186) (by decide) (by decide) ?_
    show Steps p.tables e below (T18.setTop (mkF m 190 #[.val (.int p1), .val (.int p2), .val (.int p3), .val (.int p4), .val (.int p5), .val (.int c0), .val (.int c1), .val (.int c2), .val (.int c3), .val (.int e0'), .val (.int e1'), .val (.int e2'), .val (.int e3'), .val (.int n0'), .val (.int (n0' + n1')), .val (.int ((n0' + n1') + n2')), .val (.int (((n0' + n1') + n2') + n3')), .val (.ref b13), .val (.int (1 : Int32)), .val (.int (own_take c0 (0 : Int32))), .unset, .unset, .unset] [(.int (1 : Int32))])) _
    refine XS.istore X18.here hx rfl (hb hby at_190) rfl (l' := #[.val (.int p1), .val (.int p2), .val (.int p3), .val (.int p4), .val (.int p5), .val (.int c0), .val (.int c1), .val (.int c2), .val (.int c3), .val (.int e0'), .val (.int e1'), .val (.int e2'), .val (.int e3'), .val (.int n0'), .val (.int (n0' + n1')), .val (.int ((n0' + n1') + n2')), .val (.int (((n0' + n1') + n2') + n3')), .val (.ref b13), .val (.int (1 : Int32)), .val (.int (own_take c0 (0 : Int32))), .unset, .unset, .unset]) rfl ?_
    show Steps p.tables e below (T18.setTop (mkF m 192 #[.val (.int p1), .val (.int p2), .val (.int p3), .val (.int p4), .val (.int p5), .val (.int c0), .val (.int c1), .val (.int c2), .val (.int c3), .val (.int e0'), .val (.int e1'), .val (.int e2'), .val (.int e3'), .val (.int n0'), .val (.int (n0' + n1')), .val (.int ((n0' + n1') + n2')), .val (.int (((n0' + n1') + n2') + n3')), .val (.ref b13), .val (.int (1 : Int32)), .val (.int (own_take c0 (0 : Int32))), .unset, .unset, .unset] [])) _
    refine XS.aload X18.here hx rfl (hb hby at_192) rfl rfl ?_
    show Steps p.tables e below (T18.setTop (mkF m 194 #[.val (.int p1), .val (.int p2), .val (.int p3), .val (.int p4), .val (.int p5), .val (.int c0), .val (.int c1), .val (.int c2), .val (.int c3), .val (.int e0'), .val (.int e1'), .val (.int e2'), .val (.int e3'), .val (.int n0'), .val (.int (n0' + n1')), .val (.int ((n0' + n1') + n2')), .val (.int (((n0' + n1') + n2') + n3')), .val (.ref b13), .val (.int (1 : Int32)), .val (.int (own_take c0 (0 : Int32))), .unset, .unset, .unset] [(.ref b13)])) _
    refine XS.iload X18.here hx rfl (hb hby at_194) rfl ?_
    show Steps p.tables e below (T18.setTop (mkF m 196 #[.val (.int p1), .val (.int p2), .val (.int p3), .val (.int p4), .val (.int p5), .val (.int c0), .val (.int c1), .val (.int c2), .val (.int c3), .val (.int e0'), .val (.int e1'), .val (.int e2'), .val (.int e3'), .val (.int n0'), .val (.int (n0' + n1')), .val (.int ((n0' + n1') + n2')), .val (.int (((n0' + n1') + n2') + n3')), .val (.ref b13), .val (.int (1 : Int32)), .val (.int (own_take c0 (0 : Int32))), .unset, .unset, .unset] [(.int c1), (.ref b13)])) _
    refine st20.trans ?_
    show Steps p.tables e below (T20.setTop (mkF m 199 #[.val (.int p1), .val (.int p2), .val (.int p3), .val (.int p4), .val (.int p5), .val (.int c0), .val (.int c1), .val (.int c2), .val (.int c3), .val (.int e0'), .val (.int e1'), .val (.int e2'), .val (.int e3'), .val (.int n0'), .val (.int (n0' + n1')), .val (.int ((n0' + n1') + n2')), .val (.int (((n0' + n1') + n2') + n3')), .val (.ref b13), .val (.int (1 : Int32)), .val (.int (own_take c0 (0 : Int32))), .unset, .unset, .unset] [(.int (own_take c1 (if c0 = 13 then 1 else 0)))])) _
    refine XS.istore X20.here hx rfl (hb hby at_199) rfl (l' := #[.val (.int p1), .val (.int p2), .val (.int p3), .val (.int p4), .val (.int p5), .val (.int c0), .val (.int c1), .val (.int c2), .val (.int c3), .val (.int e0'), .val (.int e1'), .val (.int e2'), .val (.int e3'), .val (.int n0'), .val (.int (n0' + n1')), .val (.int ((n0' + n1') + n2')), .val (.int (((n0' + n1') + n2') + n3')), .val (.ref b13), .val (.int (1 : Int32)), .val (.int (own_take c0 (0 : Int32))), .val (.int (own_take c1 (if c0 = 13 then 1 else 0))), .unset, .unset]) rfl ?_
    show Steps p.tables e below (T20.setTop (mkF m 201 #[.val (.int p1), .val (.int p2), .val (.int p3), .val (.int p4), .val (.int p5), .val (.int c0), .val (.int c1), .val (.int c2), .val (.int c3), .val (.int e0'), .val (.int e1'), .val (.int e2'), .val (.int e3'), .val (.int n0'), .val (.int (n0' + n1')), .val (.int ((n0' + n1') + n2')), .val (.int (((n0' + n1') + n2') + n3')), .val (.ref b13), .val (.int (1 : Int32)), .val (.int (own_take c0 (0 : Int32))), .val (.int (own_take c1 (if c0 = 13 then 1 else 0))), .unset, .unset] [])) _
    refine XS.iload X20.here hx rfl (hb hby at_201) rfl ?_
    show Steps p.tables e below (T20.setTop (mkF m 203 #[.val (.int p1), .val (.int p2), .val (.int p3), .val (.int p4), .val (.int p5), .val (.int c0), .val (.int c1), .val (.int c2), .val (.int c3), .val (.int e0'), .val (.int e1'), .val (.int e2'), .val (.int e3'), .val (.int n0'), .val (.int (n0' + n1')), .val (.int ((n0' + n1') + n2')), .val (.int (((n0' + n1') + n2') + n3')), .val (.ref b13), .val (.int (1 : Int32)), .val (.int (own_take c0 (0 : Int32))), .val (.int (own_take c1 (if c0 = 13 then 1 else 0))), .unset, .unset] [(.int (1 : Int32))])) _
    refine XS.ifNo X20.here hx rfl (hb hby at_203) rfl ((if0 _ _).trans (feq (show ¬ ((1 : Int32) = (0 : Int32)) from (by decide))).1) ?_
    show Steps p.tables e below (T20.setTop (mkF m 206 #[.val (.int p1), .val (.int p2), .val (.int p3), .val (.int p4), .val (.int p5), .val (.int c0), .val (.int c1), .val (.int c2), .val (.int c3), .val (.int e0'), .val (.int e1'), .val (.int e2'), .val (.int e3'), .val (.int n0'), .val (.int (n0' + n1')), .val (.int ((n0' + n1') + n2')), .val (.int (((n0' + n1') + n2') + n3')), .val (.ref b13), .val (.int (1 : Int32)), .val (.int (own_take c0 (0 : Int32))), .val (.int (own_take c1 (if c0 = 13 then 1 else 0))), .unset, .unset] [])) _
    refine XS.iload X20.here hx rfl (hb hby at_206) rfl ?_
    show Steps p.tables e below (T20.setTop (mkF m 208 #[.val (.int p1), .val (.int p2), .val (.int p3), .val (.int p4), .val (.int p5), .val (.int c0), .val (.int c1), .val (.int c2), .val (.int c3), .val (.int e0'), .val (.int e1'), .val (.int e2'), .val (.int e3'), .val (.int n0'), .val (.int (n0' + n1')), .val (.int ((n0' + n1') + n2')), .val (.int (((n0' + n1') + n2') + n3')), .val (.ref b13), .val (.int (1 : Int32)), .val (.int (own_take c0 (0 : Int32))), .val (.int (own_take c1 (if c0 = 13 then 1 else 0))), .unset, .unset] [(.int (own_take c1 (if c0 = 13 then 1 else 0)))])) _
    refine XS.iload X20.here hx rfl (hb hby at_208) rfl ?_
    show Steps p.tables e below (T20.setTop (mkF m 210 #[.val (.int p1), .val (.int p2), .val (.int p3), .val (.int p4), .val (.int p5), .val (.int c0), .val (.int c1), .val (.int c2), .val (.int c3), .val (.int e0'), .val (.int e1'), .val (.int e2'), .val (.int e3'), .val (.int n0'), .val (.int (n0' + n1')), .val (.int ((n0' + n1') + n2')), .val (.int (((n0' + n1') + n2') + n3')), .val (.ref b13), .val (.int (1 : Int32)), .val (.int (own_take c0 (0 : Int32))), .val (.int (own_take c1 (if c0 = 13 then 1 else 0))), .unset, .unset] [(.int e1'), (.int (own_take c1 (if c0 = 13 then 1 else 0)))])) _
    refine XS.icmpNo X20.here hx rfl (hb hby at_210) rfl (teq (show (own_take c1 (if c0 = 13 then 1 else 0)) = e1' from ht1)).2 ?_
    show Steps p.tables e below (T20.setTop (mkF m 213 #[.val (.int p1), .val (.int p2), .val (.int p3), .val (.int p4), .val (.int p5), .val (.int c0), .val (.int c1), .val (.int c2), .val (.int c3), .val (.int e0'), .val (.int e1'), .val (.int e2'), .val (.int e3'), .val (.int n0'), .val (.int (n0' + n1')), .val (.int ((n0' + n1') + n2')), .val (.int (((n0' + n1') + n2') + n3')), .val (.ref b13), .val (.int (1 : Int32)), .val (.int (own_take c0 (0 : Int32))), .val (.int (own_take c1 (if c0 = 13 then 1 else 0))), .unset, .unset] [])) _
    refine XS.aload X20.here hx rfl (hb hby at_213) rfl rfl ?_
    show Steps p.tables e below (T20.setTop (mkF m 215 #[.val (.int p1), .val (.int p2), .val (.int p3), .val (.int p4), .val (.int p5), .val (.int c0), .val (.int c1), .val (.int c2), .val (.int c3), .val (.int e0'), .val (.int e1'), .val (.int e2'), .val (.int e3'), .val (.int n0'), .val (.int (n0' + n1')), .val (.int ((n0' + n1') + n2')), .val (.int (((n0' + n1') + n2') + n3')), .val (.ref b13), .val (.int (1 : Int32)), .val (.int (own_take c0 (0 : Int32))), .val (.int (own_take c1 (if c0 = 13 then 1 else 0))), .unset, .unset] [(.ref b13)])) _
    refine st21.trans ?_
    show Steps p.tables e below (T21.setTop (mkF m 218 #[.val (.int p1), .val (.int p2), .val (.int p3), .val (.int p4), .val (.int p5), .val (.int c0), .val (.int c1), .val (.int c2), .val (.int c3), .val (.int e0'), .val (.int e1'), .val (.int e2'), .val (.int e3'), .val (.int n0'), .val (.int (n0' + n1')), .val (.int ((n0' + n1') + n2')), .val (.int (((n0' + n1') + n2') + n3')), .val (.ref b13), .val (.int (1 : Int32)), .val (.int (own_take c0 (0 : Int32))), .val (.int (own_take c1 (if c0 = 13 then 1 else 0))), .unset, .unset] [(.int (((0 : Int32) + own_take c0 (0 : Int32)) + own_take c1 (if c0 = 13 then 1 else 0)))])) _
    refine XS.iload X21.here hx rfl (hb hby at_218) rfl ?_
    show Steps p.tables e below (T21.setTop (mkF m 220 #[.val (.int p1), .val (.int p2), .val (.int p3), .val (.int p4), .val (.int p5), .val (.int c0), .val (.int c1), .val (.int c2), .val (.int c3), .val (.int e0'), .val (.int e1'), .val (.int e2'), .val (.int e3'), .val (.int n0'), .val (.int (n0' + n1')), .val (.int ((n0' + n1') + n2')), .val (.int (((n0' + n1') + n2') + n3')), .val (.ref b13), .val (.int (1 : Int32)), .val (.int (own_take c0 (0 : Int32))), .val (.int (own_take c1 (if c0 = 13 then 1 else 0))), .unset, .unset] [(.int (n0' + n1')), (.int (((0 : Int32) + own_take c0 (0 : Int32)) + own_take c1 (if c0 = 13 then 1 else 0)))])) _
    refine XS.icmpNo X21.here hx rfl (hb hby at_220) rfl (teq (show (((0 : Int32) + own_take c0 (0 : Int32)) + own_take c1 (if c0 = 13 then 1 else 0)) = (n0' + n1') from (by rw [ht0, ht1, hn0, hn1, Int32.zero_add]))).2 ?_
    show Steps p.tables e below (T21.setTop (mkF m 223 #[.val (.int p1), .val (.int p2), .val (.int p3), .val (.int p4), .val (.int p5), .val (.int c0), .val (.int c1), .val (.int c2), .val (.int c3), .val (.int e0'), .val (.int e1'), .val (.int e2'), .val (.int e3'), .val (.int n0'), .val (.int (n0' + n1')), .val (.int ((n0' + n1') + n2')), .val (.int (((n0' + n1') + n2') + n3')), .val (.ref b13), .val (.int (1 : Int32)), .val (.int (own_take c0 (0 : Int32))), .val (.int (own_take c1 (if c0 = 13 then 1 else 0))), .unset, .unset] [])) _
    refine XS.iconst X21.here hx rfl (hb hby at_223) ?_
    show Steps p.tables e below (T21.setTop (mkF m 224 #[.val (.int p1), .val (.int p2), .val (.int p3), .val (.int p4), .val (.int p5), .val (.int c0), .val (.int c1), .val (.int c2), .val (.int c3), .val (.int e0'), .val (.int e1'), .val (.int e2'), .val (.int e3'), .val (.int n0'), .val (.int (n0' + n1')), .val (.int ((n0' + n1') + n2')), .val (.int (((n0' + n1') + n2') + n3')), .val (.ref b13), .val (.int (1 : Int32)), .val (.int (own_take c0 (0 : Int32))), .val (.int (own_take c1 (if c0 = 13 then 1 else 0))), .unset, .unset] [(.int (1 : Int32))])) _
    refine XS.goto X21.here hx rfl (pc0 := 224) (pc' := 228) rfl (hb hby at_224) (by decide) (by decide) ?_
    show Steps p.tables e below (T21.setTop (mkF m 228 #[.val (.int p1), .val (.int p2), .val (.int p3), .val (.int p4), .val (.int p5), .val (.int c0), .val (.int c1), .val (.int c2), .val (.int c3), .val (.int e0'), .val (.int e1'), .val (.int e2'), .val (.int e3'), .val (.int n0'), .val (.int (n0' + n1')), .val (.int ((n0' + n1') + n2')), .val (.int (((n0' + n1') + n2') + n3')), .val (.ref b13), .val (.int (1 : Int32)), .val (.int (own_take c0 (0 : Int32))), .val (.int (own_take c1 (if c0 = 13 then 1 else 0))), .unset, .unset] [(.int (1 : Int32))])) _
    refine XS.istore X21.here hx rfl (hb hby at_228) rfl (l' := #[.val (.int p1), .val (.int p2), .val (.int p3), .val (.int p4), .val (.int p5), .val (.int c0), .val (.int c1), .val (.int c2), .val (.int c3), .val (.int e0'), .val (.int e1'), .val (.int e2'), .val (.int e3'), .val (.int n0'), .val (.int (n0' + n1')), .val (.int ((n0' + n1') + n2')), .val (.int (((n0' + n1') + n2') + n3')), .val (.ref b13), .val (.int (1 : Int32)), .val (.int (own_take c0 (0 : Int32))), .val (.int (own_take c1 (if c0 = 13 then 1 else 0))), .unset, .unset]) rfl ?_
    show Steps p.tables e below (T21.setTop (mkF m 230 #[.val (.int p1), .val (.int p2), .val (.int p3), .val (.int p4), .val (.int p5), .val (.int c0), .val (.int c1), .val (.int c2), .val (.int c3), .val (.int e0'), .val (.int e1'), .val (.int e2'), .val (.int e3'), .val (.int n0'), .val (.int (n0' + n1')), .val (.int ((n0' + n1') + n2')), .val (.int (((n0' + n1') + n2') + n3')), .val (.ref b13), .val (.int (1 : Int32)), .val (.int (own_take c0 (0 : Int32))), .val (.int (own_take c1 (if c0 = 13 then 1 else 0))), .unset, .unset] [])) _
    refine XS.aload X21.here hx rfl (hb hby at_230) rfl rfl ?_
    show Steps p.tables e below (T21.setTop (mkF m 232 #[.val (.int p1), .val (.int p2), .val (.int p3), .val (.int p4), .val (.int p5), .val (.int c0), .val (.int c1), .val (.int c2), .val (.int c3), .val (.int e0'), .val (.int e1'), .val (.int e2'), .val (.int e3'), .val (.int n0'), .val (.int (n0' + n1')), .val (.int ((n0' + n1') + n2')), .val (.int (((n0' + n1') + n2') + n3')), .val (.ref b13), .val (.int (1 : Int32)), .val (.int (own_take c0 (0 : Int32))), .val (.int (own_take c1 (if c0 = 13 then 1 else 0))), .unset, .unset] [(.ref b13)])) _
    refine XS.iload X21.here hx rfl (hb hby at_232) rfl ?_
    show Steps p.tables e below (T21.setTop (mkF m 234 #[.val (.int p1), .val (.int p2), .val (.int p3), .val (.int p4), .val (.int p5), .val (.int c0), .val (.int c1), .val (.int c2), .val (.int c3), .val (.int e0'), .val (.int e1'), .val (.int e2'), .val (.int e3'), .val (.int n0'), .val (.int (n0' + n1')), .val (.int ((n0' + n1') + n2')), .val (.int (((n0' + n1') + n2') + n3')), .val (.ref b13), .val (.int (1 : Int32)), .val (.int (own_take c0 (0 : Int32))), .val (.int (own_take c1 (if c0 = 13 then 1 else 0))), .unset, .unset] [(.int c2), (.ref b13)])) _
    refine st23.trans ?_
    show Steps p.tables e below (T23.setTop (mkF m 237 #[.val (.int p1), .val (.int p2), .val (.int p3), .val (.int p4), .val (.int p5), .val (.int c0), .val (.int c1), .val (.int c2), .val (.int c3), .val (.int e0'), .val (.int e1'), .val (.int e2'), .val (.int e3'), .val (.int n0'), .val (.int (n0' + n1')), .val (.int ((n0' + n1') + n2')), .val (.int (((n0' + n1') + n2') + n3')), .val (.ref b13), .val (.int (1 : Int32)), .val (.int (own_take c0 (0 : Int32))), .val (.int (own_take c1 (if c0 = 13 then 1 else 0))), .unset, .unset] [(.int (own_take c2 (if c1 = 13 then 1 else 0)))])) _
    refine XS.istore X23.here hx rfl (hb hby at_237) rfl (l' := #[.val (.int p1), .val (.int p2), .val (.int p3), .val (.int p4), .val (.int p5), .val (.int c0), .val (.int c1), .val (.int c2), .val (.int c3), .val (.int e0'), .val (.int e1'), .val (.int e2'), .val (.int e3'), .val (.int n0'), .val (.int (n0' + n1')), .val (.int ((n0' + n1') + n2')), .val (.int (((n0' + n1') + n2') + n3')), .val (.ref b13), .val (.int (1 : Int32)), .val (.int (own_take c0 (0 : Int32))), .val (.int (own_take c1 (if c0 = 13 then 1 else 0))), .val (.int (own_take c2 (if c1 = 13 then 1 else 0))), .unset]) rfl ?_
    show Steps p.tables e below (T23.setTop (mkF m 239 #[.val (.int p1), .val (.int p2), .val (.int p3), .val (.int p4), .val (.int p5), .val (.int c0), .val (.int c1), .val (.int c2), .val (.int c3), .val (.int e0'), .val (.int e1'), .val (.int e2'), .val (.int e3'), .val (.int n0'), .val (.int (n0' + n1')), .val (.int ((n0' + n1') + n2')), .val (.int (((n0' + n1') + n2') + n3')), .val (.ref b13), .val (.int (1 : Int32)), .val (.int (own_take c0 (0 : Int32))), .val (.int (own_take c1 (if c0 = 13 then 1 else 0))), .val (.int (own_take c2 (if c1 = 13 then 1 else 0))), .unset] [])) _
    refine XS.iload X23.here hx rfl (hb hby at_239) rfl ?_
    show Steps p.tables e below (T23.setTop (mkF m 241 #[.val (.int p1), .val (.int p2), .val (.int p3), .val (.int p4), .val (.int p5), .val (.int c0), .val (.int c1), .val (.int c2), .val (.int c3), .val (.int e0'), .val (.int e1'), .val (.int e2'), .val (.int e3'), .val (.int n0'), .val (.int (n0' + n1')), .val (.int ((n0' + n1') + n2')), .val (.int (((n0' + n1') + n2') + n3')), .val (.ref b13), .val (.int (1 : Int32)), .val (.int (own_take c0 (0 : Int32))), .val (.int (own_take c1 (if c0 = 13 then 1 else 0))), .val (.int (own_take c2 (if c1 = 13 then 1 else 0))), .unset] [(.int (1 : Int32))])) _
    refine XS.ifNo X23.here hx rfl (hb hby at_241) rfl ((if0 _ _).trans (feq (show ¬ ((1 : Int32) = (0 : Int32)) from (by decide))).1) ?_
    show Steps p.tables e below (T23.setTop (mkF m 244 #[.val (.int p1), .val (.int p2), .val (.int p3), .val (.int p4), .val (.int p5), .val (.int c0), .val (.int c1), .val (.int c2), .val (.int c3), .val (.int e0'), .val (.int e1'), .val (.int e2'), .val (.int e3'), .val (.int n0'), .val (.int (n0' + n1')), .val (.int ((n0' + n1') + n2')), .val (.int (((n0' + n1') + n2') + n3')), .val (.ref b13), .val (.int (1 : Int32)), .val (.int (own_take c0 (0 : Int32))), .val (.int (own_take c1 (if c0 = 13 then 1 else 0))), .val (.int (own_take c2 (if c1 = 13 then 1 else 0))), .unset] [])) _
    refine XS.iload X23.here hx rfl (hb hby at_244) rfl ?_
    show Steps p.tables e below (T23.setTop (mkF m 246 #[.val (.int p1), .val (.int p2), .val (.int p3), .val (.int p4), .val (.int p5), .val (.int c0), .val (.int c1), .val (.int c2), .val (.int c3), .val (.int e0'), .val (.int e1'), .val (.int e2'), .val (.int e3'), .val (.int n0'), .val (.int (n0' + n1')), .val (.int ((n0' + n1') + n2')), .val (.int (((n0' + n1') + n2') + n3')), .val (.ref b13), .val (.int (1 : Int32)), .val (.int (own_take c0 (0 : Int32))), .val (.int (own_take c1 (if c0 = 13 then 1 else 0))), .val (.int (own_take c2 (if c1 = 13 then 1 else 0))), .unset] [(.int (own_take c2 (if c1 = 13 then 1 else 0)))])) _
    refine XS.iload X23.here hx rfl (hb hby at_246) rfl ?_
    show Steps p.tables e below (T23.setTop (mkF m 248 #[.val (.int p1), .val (.int p2), .val (.int p3), .val (.int p4), .val (.int p5), .val (.int c0), .val (.int c1), .val (.int c2), .val (.int c3), .val (.int e0'), .val (.int e1'), .val (.int e2'), .val (.int e3'), .val (.int n0'), .val (.int (n0' + n1')), .val (.int ((n0' + n1') + n2')), .val (.int (((n0' + n1') + n2') + n3')), .val (.ref b13), .val (.int (1 : Int32)), .val (.int (own_take c0 (0 : Int32))), .val (.int (own_take c1 (if c0 = 13 then 1 else 0))), .val (.int (own_take c2 (if c1 = 13 then 1 else 0))), .unset] [(.int e2'), (.int (own_take c2 (if c1 = 13 then 1 else 0)))])) _
    refine XS.icmpNo X23.here hx rfl (hb hby at_248) rfl (teq (show (own_take c2 (if c1 = 13 then 1 else 0)) = e2' from ht2)).2 ?_
    show Steps p.tables e below (T23.setTop (mkF m 251 #[.val (.int p1), .val (.int p2), .val (.int p3), .val (.int p4), .val (.int p5), .val (.int c0), .val (.int c1), .val (.int c2), .val (.int c3), .val (.int e0'), .val (.int e1'), .val (.int e2'), .val (.int e3'), .val (.int n0'), .val (.int (n0' + n1')), .val (.int ((n0' + n1') + n2')), .val (.int (((n0' + n1') + n2') + n3')), .val (.ref b13), .val (.int (1 : Int32)), .val (.int (own_take c0 (0 : Int32))), .val (.int (own_take c1 (if c0 = 13 then 1 else 0))), .val (.int (own_take c2 (if c1 = 13 then 1 else 0))), .unset] [])) _
    refine XS.aload X23.here hx rfl (hb hby at_251) rfl rfl ?_
    show Steps p.tables e below (T23.setTop (mkF m 253 #[.val (.int p1), .val (.int p2), .val (.int p3), .val (.int p4), .val (.int p5), .val (.int c0), .val (.int c1), .val (.int c2), .val (.int c3), .val (.int e0'), .val (.int e1'), .val (.int e2'), .val (.int e3'), .val (.int n0'), .val (.int (n0' + n1')), .val (.int ((n0' + n1') + n2')), .val (.int (((n0' + n1') + n2') + n3')), .val (.ref b13), .val (.int (1 : Int32)), .val (.int (own_take c0 (0 : Int32))), .val (.int (own_take c1 (if c0 = 13 then 1 else 0))), .val (.int (own_take c2 (if c1 = 13 then 1 else 0))), .unset] [(.ref b13)])) _
    refine st24.trans ?_
    show Steps p.tables e below (T24.setTop (mkF m 256 #[.val (.int p1), .val (.int p2), .val (.int p3), .val (.int p4), .val (.int p5), .val (.int c0), .val (.int c1), .val (.int c2), .val (.int c3), .val (.int e0'), .val (.int e1'), .val (.int e2'), .val (.int e3'), .val (.int n0'), .val (.int (n0' + n1')), .val (.int ((n0' + n1') + n2')), .val (.int (((n0' + n1') + n2') + n3')), .val (.ref b13), .val (.int (1 : Int32)), .val (.int (own_take c0 (0 : Int32))), .val (.int (own_take c1 (if c0 = 13 then 1 else 0))), .val (.int (own_take c2 (if c1 = 13 then 1 else 0))), .unset] [(.int ((((0 : Int32) + own_take c0 (0 : Int32)) + own_take c1 (if c0 = 13 then 1 else 0)) + own_take c2 (if c1 = 13 then 1 else 0)))])) _
    refine XS.iload X24.here hx rfl (hb hby at_256) rfl ?_
    show Steps p.tables e below (T24.setTop (mkF m 258 #[.val (.int p1), .val (.int p2), .val (.int p3), .val (.int p4), .val (.int p5), .val (.int c0), .val (.int c1), .val (.int c2), .val (.int c3), .val (.int e0'), .val (.int e1'), .val (.int e2'), .val (.int e3'), .val (.int n0'), .val (.int (n0' + n1')), .val (.int ((n0' + n1') + n2')), .val (.int (((n0' + n1') + n2') + n3')), .val (.ref b13), .val (.int (1 : Int32)), .val (.int (own_take c0 (0 : Int32))), .val (.int (own_take c1 (if c0 = 13 then 1 else 0))), .val (.int (own_take c2 (if c1 = 13 then 1 else 0))), .unset] [(.int ((n0' + n1') + n2')), (.int ((((0 : Int32) + own_take c0 (0 : Int32)) + own_take c1 (if c0 = 13 then 1 else 0)) + own_take c2 (if c1 = 13 then 1 else 0)))])) _
    refine XS.icmpNo X24.here hx rfl (hb hby at_258) rfl (teq (show ((((0 : Int32) + own_take c0 (0 : Int32)) + own_take c1 (if c0 = 13 then 1 else 0)) + own_take c2 (if c1 = 13 then 1 else 0)) = ((n0' + n1') + n2') from (by rw [ht0, ht1, ht2, hn0, hn1, hn2, Int32.zero_add]))).2 ?_
    show Steps p.tables e below (T24.setTop (mkF m 261 #[.val (.int p1), .val (.int p2), .val (.int p3), .val (.int p4), .val (.int p5), .val (.int c0), .val (.int c1), .val (.int c2), .val (.int c3), .val (.int e0'), .val (.int e1'), .val (.int e2'), .val (.int e3'), .val (.int n0'), .val (.int (n0' + n1')), .val (.int ((n0' + n1') + n2')), .val (.int (((n0' + n1') + n2') + n3')), .val (.ref b13), .val (.int (1 : Int32)), .val (.int (own_take c0 (0 : Int32))), .val (.int (own_take c1 (if c0 = 13 then 1 else 0))), .val (.int (own_take c2 (if c1 = 13 then 1 else 0))), .unset] [])) _
    refine XS.iconst X24.here hx rfl (hb hby at_261) ?_
    show Steps p.tables e below (T24.setTop (mkF m 262 #[.val (.int p1), .val (.int p2), .val (.int p3), .val (.int p4), .val (.int p5), .val (.int c0), .val (.int c1), .val (.int c2), .val (.int c3), .val (.int e0'), .val (.int e1'), .val (.int e2'), .val (.int e3'), .val (.int n0'), .val (.int (n0' + n1')), .val (.int ((n0' + n1') + n2')), .val (.int (((n0' + n1') + n2') + n3')), .val (.ref b13), .val (.int (1 : Int32)), .val (.int (own_take c0 (0 : Int32))), .val (.int (own_take c1 (if c0 = 13 then 1 else 0))), .val (.int (own_take c2 (if c1 = 13 then 1 else 0))), .unset] [(.int (1 : Int32))])) _
    refine XS.goto X24.here hx rfl (pc0 := 262) (pc' := 266) rfl (hb hby at_262) (by decide) (by decide) ?_
    show Steps p.tables e below (T24.setTop (mkF m 266 #[.val (.int p1), .val (.int p2), .val (.int p3), .val (.int p4), .val (.int p5), .val (.int c0), .val (.int c1), .val (.int c2), .val (.int c3), .val (.int e0'), .val (.int e1'), .val (.int e2'), .val (.int e3'), .val (.int n0'), .val (.int (n0' + n1')), .val (.int ((n0' + n1') + n2')), .val (.int (((n0' + n1') + n2') + n3')), .val (.ref b13), .val (.int (1 : Int32)), .val (.int (own_take c0 (0 : Int32))), .val (.int (own_take c1 (if c0 = 13 then 1 else 0))), .val (.int (own_take c2 (if c1 = 13 then 1 else 0))), .unset] [(.int (1 : Int32))])) _
    refine XS.istore X24.here hx rfl (hb hby at_266) rfl (l' := #[.val (.int p1), .val (.int p2), .val (.int p3), .val (.int p4), .val (.int p5), .val (.int c0), .val (.int c1), .val (.int c2), .val (.int c3), .val (.int e0'), .val (.int e1'), .val (.int e2'), .val (.int e3'), .val (.int n0'), .val (.int (n0' + n1')), .val (.int ((n0' + n1') + n2')), .val (.int (((n0' + n1') + n2') + n3')), .val (.ref b13), .val (.int (1 : Int32)), .val (.int (own_take c0 (0 : Int32))), .val (.int (own_take c1 (if c0 = 13 then 1 else 0))), .val (.int (own_take c2 (if c1 = 13 then 1 else 0))), .unset]) rfl ?_
    show Steps p.tables e below (T24.setTop (mkF m 268 #[.val (.int p1), .val (.int p2), .val (.int p3), .val (.int p4), .val (.int p5), .val (.int c0), .val (.int c1), .val (.int c2), .val (.int c3), .val (.int e0'), .val (.int e1'), .val (.int e2'), .val (.int e3'), .val (.int n0'), .val (.int (n0' + n1')), .val (.int ((n0' + n1') + n2')), .val (.int (((n0' + n1') + n2') + n3')), .val (.ref b13), .val (.int (1 : Int32)), .val (.int (own_take c0 (0 : Int32))), .val (.int (own_take c1 (if c0 = 13 then 1 else 0))), .val (.int (own_take c2 (if c1 = 13 then 1 else 0))), .unset] [])) _
    refine XS.aload X24.here hx rfl (hb hby at_268) rfl rfl ?_
    show Steps p.tables e below (T24.setTop (mkF m 270 #[.val (.int p1), .val (.int p2), .val (.int p3), .val (.int p4), .val (.int p5), .val (.int c0), .val (.int c1), .val (.int c2), .val (.int c3), .val (.int e0'), .val (.int e1'), .val (.int e2'), .val (.int e3'), .val (.int n0'), .val (.int (n0' + n1')), .val (.int ((n0' + n1') + n2')), .val (.int (((n0' + n1') + n2') + n3')), .val (.ref b13), .val (.int (1 : Int32)), .val (.int (own_take c0 (0 : Int32))), .val (.int (own_take c1 (if c0 = 13 then 1 else 0))), .val (.int (own_take c2 (if c1 = 13 then 1 else 0))), .unset] [(.ref b13)])) _
    refine XS.iload X24.here hx rfl (hb hby at_270) rfl ?_
    show Steps p.tables e below (T24.setTop (mkF m 272 #[.val (.int p1), .val (.int p2), .val (.int p3), .val (.int p4), .val (.int p5), .val (.int c0), .val (.int c1), .val (.int c2), .val (.int c3), .val (.int e0'), .val (.int e1'), .val (.int e2'), .val (.int e3'), .val (.int n0'), .val (.int (n0' + n1')), .val (.int ((n0' + n1') + n2')), .val (.int (((n0' + n1') + n2') + n3')), .val (.ref b13), .val (.int (1 : Int32)), .val (.int (own_take c0 (0 : Int32))), .val (.int (own_take c1 (if c0 = 13 then 1 else 0))), .val (.int (own_take c2 (if c1 = 13 then 1 else 0))), .unset] [(.int c3), (.ref b13)])) _
    refine st26.trans ?_
    show Steps p.tables e below (T26.setTop (mkF m 275 #[.val (.int p1), .val (.int p2), .val (.int p3), .val (.int p4), .val (.int p5), .val (.int c0), .val (.int c1), .val (.int c2), .val (.int c3), .val (.int e0'), .val (.int e1'), .val (.int e2'), .val (.int e3'), .val (.int n0'), .val (.int (n0' + n1')), .val (.int ((n0' + n1') + n2')), .val (.int (((n0' + n1') + n2') + n3')), .val (.ref b13), .val (.int (1 : Int32)), .val (.int (own_take c0 (0 : Int32))), .val (.int (own_take c1 (if c0 = 13 then 1 else 0))), .val (.int (own_take c2 (if c1 = 13 then 1 else 0))), .unset] [(.int (own_take c3 (if c2 = 13 then 1 else 0)))])) _
    refine XS.istore X26.here hx rfl (hb hby at_275) rfl (l' := #[.val (.int p1), .val (.int p2), .val (.int p3), .val (.int p4), .val (.int p5), .val (.int c0), .val (.int c1), .val (.int c2), .val (.int c3), .val (.int e0'), .val (.int e1'), .val (.int e2'), .val (.int e3'), .val (.int n0'), .val (.int (n0' + n1')), .val (.int ((n0' + n1') + n2')), .val (.int (((n0' + n1') + n2') + n3')), .val (.ref b13), .val (.int (1 : Int32)), .val (.int (own_take c0 (0 : Int32))), .val (.int (own_take c1 (if c0 = 13 then 1 else 0))), .val (.int (own_take c2 (if c1 = 13 then 1 else 0))), .val (.int (own_take c3 (if c2 = 13 then 1 else 0)))]) rfl ?_
    show Steps p.tables e below (T26.setTop (mkF m 277 #[.val (.int p1), .val (.int p2), .val (.int p3), .val (.int p4), .val (.int p5), .val (.int c0), .val (.int c1), .val (.int c2), .val (.int c3), .val (.int e0'), .val (.int e1'), .val (.int e2'), .val (.int e3'), .val (.int n0'), .val (.int (n0' + n1')), .val (.int ((n0' + n1') + n2')), .val (.int (((n0' + n1') + n2') + n3')), .val (.ref b13), .val (.int (1 : Int32)), .val (.int (own_take c0 (0 : Int32))), .val (.int (own_take c1 (if c0 = 13 then 1 else 0))), .val (.int (own_take c2 (if c1 = 13 then 1 else 0))), .val (.int (own_take c3 (if c2 = 13 then 1 else 0)))] [])) _
    refine XS.iload X26.here hx rfl (hb hby at_277) rfl ?_
    show Steps p.tables e below (T26.setTop (mkF m 279 #[.val (.int p1), .val (.int p2), .val (.int p3), .val (.int p4), .val (.int p5), .val (.int c0), .val (.int c1), .val (.int c2), .val (.int c3), .val (.int e0'), .val (.int e1'), .val (.int e2'), .val (.int e3'), .val (.int n0'), .val (.int (n0' + n1')), .val (.int ((n0' + n1') + n2')), .val (.int (((n0' + n1') + n2') + n3')), .val (.ref b13), .val (.int (1 : Int32)), .val (.int (own_take c0 (0 : Int32))), .val (.int (own_take c1 (if c0 = 13 then 1 else 0))), .val (.int (own_take c2 (if c1 = 13 then 1 else 0))), .val (.int (own_take c3 (if c2 = 13 then 1 else 0)))] [(.int (1 : Int32))])) _
    refine XS.ifNo X26.here hx rfl (hb hby at_279) rfl ((if0 _ _).trans (feq (show ¬ ((1 : Int32) = (0 : Int32)) from (by decide))).1) ?_
    show Steps p.tables e below (T26.setTop (mkF m 282 #[.val (.int p1), .val (.int p2), .val (.int p3), .val (.int p4), .val (.int p5), .val (.int c0), .val (.int c1), .val (.int c2), .val (.int c3), .val (.int e0'), .val (.int e1'), .val (.int e2'), .val (.int e3'), .val (.int n0'), .val (.int (n0' + n1')), .val (.int ((n0' + n1') + n2')), .val (.int (((n0' + n1') + n2') + n3')), .val (.ref b13), .val (.int (1 : Int32)), .val (.int (own_take c0 (0 : Int32))), .val (.int (own_take c1 (if c0 = 13 then 1 else 0))), .val (.int (own_take c2 (if c1 = 13 then 1 else 0))), .val (.int (own_take c3 (if c2 = 13 then 1 else 0)))] [])) _
    refine XS.iload X26.here hx rfl (hb hby at_282) rfl ?_
    show Steps p.tables e below (T26.setTop (mkF m 284 #[.val (.int p1), .val (.int p2), .val (.int p3), .val (.int p4), .val (.int p5), .val (.int c0), .val (.int c1), .val (.int c2), .val (.int c3), .val (.int e0'), .val (.int e1'), .val (.int e2'), .val (.int e3'), .val (.int n0'), .val (.int (n0' + n1')), .val (.int ((n0' + n1') + n2')), .val (.int (((n0' + n1') + n2') + n3')), .val (.ref b13), .val (.int (1 : Int32)), .val (.int (own_take c0 (0 : Int32))), .val (.int (own_take c1 (if c0 = 13 then 1 else 0))), .val (.int (own_take c2 (if c1 = 13 then 1 else 0))), .val (.int (own_take c3 (if c2 = 13 then 1 else 0)))] [(.int (own_take c3 (if c2 = 13 then 1 else 0)))])) _
    refine XS.iload X26.here hx rfl (hb hby at_284) rfl ?_
    show Steps p.tables e below (T26.setTop (mkF m 286 #[.val (.int p1), .val (.int p2), .val (.int p3), .val (.int p4), .val (.int p5), .val (.int c0), .val (.int c1), .val (.int c2), .val (.int c3), .val (.int e0'), .val (.int e1'), .val (.int e2'), .val (.int e3'), .val (.int n0'), .val (.int (n0' + n1')), .val (.int ((n0' + n1') + n2')), .val (.int (((n0' + n1') + n2') + n3')), .val (.ref b13), .val (.int (1 : Int32)), .val (.int (own_take c0 (0 : Int32))), .val (.int (own_take c1 (if c0 = 13 then 1 else 0))), .val (.int (own_take c2 (if c1 = 13 then 1 else 0))), .val (.int (own_take c3 (if c2 = 13 then 1 else 0)))] [(.int e3'), (.int (own_take c3 (if c2 = 13 then 1 else 0)))])) _
    refine XS.icmpNo X26.here hx rfl (hb hby at_286) rfl (teq (show (own_take c3 (if c2 = 13 then 1 else 0)) = e3' from ht3)).2 ?_
    show Steps p.tables e below (T26.setTop (mkF m 289 #[.val (.int p1), .val (.int p2), .val (.int p3), .val (.int p4), .val (.int p5), .val (.int c0), .val (.int c1), .val (.int c2), .val (.int c3), .val (.int e0'), .val (.int e1'), .val (.int e2'), .val (.int e3'), .val (.int n0'), .val (.int (n0' + n1')), .val (.int ((n0' + n1') + n2')), .val (.int (((n0' + n1') + n2') + n3')), .val (.ref b13), .val (.int (1 : Int32)), .val (.int (own_take c0 (0 : Int32))), .val (.int (own_take c1 (if c0 = 13 then 1 else 0))), .val (.int (own_take c2 (if c1 = 13 then 1 else 0))), .val (.int (own_take c3 (if c2 = 13 then 1 else 0)))] [])) _
    refine XS.aload X26.here hx rfl (hb hby at_289) rfl rfl ?_
    show Steps p.tables e below (T26.setTop (mkF m 291 #[.val (.int p1), .val (.int p2), .val (.int p3), .val (.int p4), .val (.int p5), .val (.int c0), .val (.int c1), .val (.int c2), .val (.int c3), .val (.int e0'), .val (.int e1'), .val (.int e2'), .val (.int e3'), .val (.int n0'), .val (.int (n0' + n1')), .val (.int ((n0' + n1') + n2')), .val (.int (((n0' + n1') + n2') + n3')), .val (.ref b13), .val (.int (1 : Int32)), .val (.int (own_take c0 (0 : Int32))), .val (.int (own_take c1 (if c0 = 13 then 1 else 0))), .val (.int (own_take c2 (if c1 = 13 then 1 else 0))), .val (.int (own_take c3 (if c2 = 13 then 1 else 0)))] [(.ref b13)])) _
    refine st27.trans ?_
    show Steps p.tables e below (T27.setTop (mkF m 294 #[.val (.int p1), .val (.int p2), .val (.int p3), .val (.int p4), .val (.int p5), .val (.int c0), .val (.int c1), .val (.int c2), .val (.int c3), .val (.int e0'), .val (.int e1'), .val (.int e2'), .val (.int e3'), .val (.int n0'), .val (.int (n0' + n1')), .val (.int ((n0' + n1') + n2')), .val (.int (((n0' + n1') + n2') + n3')), .val (.ref b13), .val (.int (1 : Int32)), .val (.int (own_take c0 (0 : Int32))), .val (.int (own_take c1 (if c0 = 13 then 1 else 0))), .val (.int (own_take c2 (if c1 = 13 then 1 else 0))), .val (.int (own_take c3 (if c2 = 13 then 1 else 0)))] [(.int (((((0 : Int32) + own_take c0 (0 : Int32)) + own_take c1 (if c0 = 13 then 1 else 0)) + own_take c2 (if c1 = 13 then 1 else 0)) + own_take c3 (if c2 = 13 then 1 else 0)))])) _
    refine XS.iload X27.here hx rfl (hb hby at_294) rfl ?_
    show Steps p.tables e below (T27.setTop (mkF m 296 #[.val (.int p1), .val (.int p2), .val (.int p3), .val (.int p4), .val (.int p5), .val (.int c0), .val (.int c1), .val (.int c2), .val (.int c3), .val (.int e0'), .val (.int e1'), .val (.int e2'), .val (.int e3'), .val (.int n0'), .val (.int (n0' + n1')), .val (.int ((n0' + n1') + n2')), .val (.int (((n0' + n1') + n2') + n3')), .val (.ref b13), .val (.int (1 : Int32)), .val (.int (own_take c0 (0 : Int32))), .val (.int (own_take c1 (if c0 = 13 then 1 else 0))), .val (.int (own_take c2 (if c1 = 13 then 1 else 0))), .val (.int (own_take c3 (if c2 = 13 then 1 else 0)))] [(.int (((n0' + n1') + n2') + n3')), (.int (((((0 : Int32) + own_take c0 (0 : Int32)) + own_take c1 (if c0 = 13 then 1 else 0)) + own_take c2 (if c1 = 13 then 1 else 0)) + own_take c3 (if c2 = 13 then 1 else 0)))])) _
    refine XS.icmpNo X27.here hx rfl (hb hby at_296) rfl (teq (show (((((0 : Int32) + own_take c0 (0 : Int32)) + own_take c1 (if c0 = 13 then 1 else 0)) + own_take c2 (if c1 = 13 then 1 else 0)) + own_take c3 (if c2 = 13 then 1 else 0)) = (((n0' + n1') + n2') + n3') from (by rw [ht0, ht1, ht2, ht3, hn0, hn1, hn2, hn3, Int32.zero_add]))).2 ?_
    show Steps p.tables e below (T27.setTop (mkF m 299 #[.val (.int p1), .val (.int p2), .val (.int p3), .val (.int p4), .val (.int p5), .val (.int c0), .val (.int c1), .val (.int c2), .val (.int c3), .val (.int e0'), .val (.int e1'), .val (.int e2'), .val (.int e3'), .val (.int n0'), .val (.int (n0' + n1')), .val (.int ((n0' + n1') + n2')), .val (.int (((n0' + n1') + n2') + n3')), .val (.ref b13), .val (.int (1 : Int32)), .val (.int (own_take c0 (0 : Int32))), .val (.int (own_take c1 (if c0 = 13 then 1 else 0))), .val (.int (own_take c2 (if c1 = 13 then 1 else 0))), .val (.int (own_take c3 (if c2 = 13 then 1 else 0)))] [])) _
    refine XS.iconst X27.here hx rfl (hb hby at_299) ?_
    show Steps p.tables e below (T27.setTop (mkF m 300 #[.val (.int p1), .val (.int p2), .val (.int p3), .val (.int p4), .val (.int p5), .val (.int c0), .val (.int c1), .val (.int c2), .val (.int c3), .val (.int e0'), .val (.int e1'), .val (.int e2'), .val (.int e3'), .val (.int n0'), .val (.int (n0' + n1')), .val (.int ((n0' + n1') + n2')), .val (.int (((n0' + n1') + n2') + n3')), .val (.ref b13), .val (.int (1 : Int32)), .val (.int (own_take c0 (0 : Int32))), .val (.int (own_take c1 (if c0 = 13 then 1 else 0))), .val (.int (own_take c2 (if c1 = 13 then 1 else 0))), .val (.int (own_take c3 (if c2 = 13 then 1 else 0)))] [(.int (1 : Int32))])) _
    refine XS.goto X27.here hx rfl (pc0 := 300) (pc' := 304) rfl (hb hby at_300) (by decide) (by decide) ?_
    show Steps p.tables e below (T27.setTop (mkF m 304 #[.val (.int p1), .val (.int p2), .val (.int p3), .val (.int p4), .val (.int p5), .val (.int c0), .val (.int c1), .val (.int c2), .val (.int c3), .val (.int e0'), .val (.int e1'), .val (.int e2'), .val (.int e3'), .val (.int n0'), .val (.int (n0' + n1')), .val (.int ((n0' + n1') + n2')), .val (.int (((n0' + n1') + n2') + n3')), .val (.ref b13), .val (.int (1 : Int32)), .val (.int (own_take c0 (0 : Int32))), .val (.int (own_take c1 (if c0 = 13 then 1 else 0))), .val (.int (own_take c2 (if c1 = 13 then 1 else 0))), .val (.int (own_take c3 (if c2 = 13 then 1 else 0)))] [(.int (1 : Int32))])) _
    refine XS.istore X27.here hx rfl (hb hby at_304) rfl (l' := #[.val (.int p1), .val (.int p2), .val (.int p3), .val (.int p4), .val (.int p5), .val (.int c0), .val (.int c1), .val (.int c2), .val (.int c3), .val (.int e0'), .val (.int e1'), .val (.int e2'), .val (.int e3'), .val (.int n0'), .val (.int (n0' + n1')), .val (.int ((n0' + n1') + n2')), .val (.int (((n0' + n1') + n2') + n3')), .val (.ref b13), .val (.int (1 : Int32)), .val (.int (own_take c0 (0 : Int32))), .val (.int (own_take c1 (if c0 = 13 then 1 else 0))), .val (.int (own_take c2 (if c1 = 13 then 1 else 0))), .val (.int (own_take c3 (if c2 = 13 then 1 else 0)))]) rfl ?_
    show Steps p.tables e below (T27.setTop (mkF m 306 #[.val (.int p1), .val (.int p2), .val (.int p3), .val (.int p4), .val (.int p5), .val (.int c0), .val (.int c1), .val (.int c2), .val (.int c3), .val (.int e0'), .val (.int e1'), .val (.int e2'), .val (.int e3'), .val (.int n0'), .val (.int (n0' + n1')), .val (.int ((n0' + n1') + n2')), .val (.int (((n0' + n1') + n2') + n3')), .val (.ref b13), .val (.int (1 : Int32)), .val (.int (own_take c0 (0 : Int32))), .val (.int (own_take c1 (if c0 = 13 then 1 else 0))), .val (.int (own_take c2 (if c1 = 13 then 1 else 0))), .val (.int (own_take c3 (if c2 = 13 then 1 else 0)))] [])) _
    refine XS.iload X27.here hx rfl (hb hby at_306) rfl ?_
    show Steps p.tables e below (T27.setTop (mkF m 308 #[.val (.int p1), .val (.int p2), .val (.int p3), .val (.int p4), .val (.int p5), .val (.int c0), .val (.int c1), .val (.int c2), .val (.int c3), .val (.int e0'), .val (.int e1'), .val (.int e2'), .val (.int e3'), .val (.int n0'), .val (.int (n0' + n1')), .val (.int ((n0' + n1') + n2')), .val (.int (((n0' + n1') + n2') + n3')), .val (.ref b13), .val (.int (1 : Int32)), .val (.int (own_take c0 (0 : Int32))), .val (.int (own_take c1 (if c0 = 13 then 1 else 0))), .val (.int (own_take c2 (if c1 = 13 then 1 else 0))), .val (.int (own_take c3 (if c2 = 13 then 1 else 0)))] [(.int (1 : Int32))])) _
    exact retN X27 hx (t := .boolean) Bd.returns (by simp) (hb hby at_308) hr
  · show Qrm0 Z p1 p2 p3 p4 p5 h0 n0 _ T27.heap _
    rw [e27q]
    exact ⟨rfl, N27⟩
set_option maxRecDepth 65536 in
set_option maxHeartbeats 40000000 in
theorem comes_1 {Post : Tables → Env → Array Value → State → Outcome → State → Prop} (hpost : ∀ tb e args s v u, (limb_1_1.after args s (.returned v) u = true ∧ limb_1_2.after args s (.returned v) u = true ∧ True) → FrameEnd s (.returned v) u (Jvm.fieldLocs frame_1_writes args s ++ Jvm.arrayLocs frame_1_arrays args s ++ Jvm.staticLocs frame_1_statics s) 16 128 → Post tb e args s (.returned v) u) :
    ArmFor flags0 classFile x code maxLocals ret World_1 tables_1 room_1 Calls_1 rest_1 Pre_1 Post := by
  intro l hfl _ _ p e ha hc hk s m args below hf hA hF happ hP
  obtain ⟨hcalls, hrest, hpre⟩ := hP
  obtain ⟨-, -, -, hnamed, -, -, -, hat⟩ := (Spec.applies_iff hf).mp happ
  obtain ⟨hg, hn⟩ := and_e (Cond.before_iff.mp (show (Jvm.Cond.and given_1 narrow_1).before args s = true from hpre))
  obtain ⟨gv1, gv2⟩ := and_e hg
  obtain ⟨gv3, gv4⟩ := and_e gv2
  obtain ⟨gv5, gv6⟩ := and_e gv4
  obtain ⟨gv7, gv8⟩ := and_e gv6
  obtain ⟨gv9, gv10⟩ := and_e gv8
  obtain ⟨w0, w1, w2, w3, w4, rfl⟩ : ∃ w0 w1 w2 w3 w4 : Value, args = #[w0, w1, w2, w3, w4] := by
    have hs : args.size = 5 := by simpa [Cond.value, given_1] using gv1
    obtain ⟨L⟩ := args
    match L, hs with
    | [w0, w1, w2, w3, w4], _ => exact ⟨w0, w1, w2, w3, w4, rfl⟩
  have hw := fun d (hd : d ∈ tables_1) => atoms_spec (ws := Jvm.Cond.code x code maxLocals ret :: tables_1) hat d (List.mem_cons_of_mem _ hd)
  have hfit : Fit s := fun {y c} hc i hi => by
    obtain ⟨ha, rfl⟩ := Array.getElem?_eq_some_iff.mp hc
    have q := List.all_eq_true.mp ((Array.all_eq_true_iff_forall_mem.mp hF) _ (Array.getElem_mem ha)) i (List.mem_range.mpr hi)
    simpa [Array.getElem?_eq_getElem hi] using q
  obtain ⟨i0, ei0⟩ := is_v gv3
  obtain rfl : w0 = (.int i0) := Option.some.inj ei0
  obtain ⟨i1, ei1⟩ := is_v gv5
  obtain rfl : w1 = (.int i1) := Option.some.inj ei1
  obtain ⟨i2, ei2⟩ := is_v gv7
  obtain rfl : w2 = (.int i2) := Option.some.inj ei2
  obtain ⟨i3, ei3⟩ := is_v gv9
  obtain rfl : w3 = (.int i3) := Option.some.inj ei3
  obtain ⟨i4, ei4⟩ := is_v gv10
  obtain rfl : w4 = (.int i4) := Option.some.inj ei4
  obtain ⟨n, o, h1, h2, h3, _, L, rfl, ⟨rfl, N⟩, hq⟩ := rm0 l s _ hw tables_1 i0 i1 i2 i3 i4  s.heap s.heap.size (Nat.le_refl _)  p e ha hc hk s m _ below hf ((Spec.applies_iff_loose hf).mp happ).1 ⟨rfl, State.Warmed39.refl s, rfl⟩ trivial
  refine ⟨n, _, h1, h2, h3, hpost _ _ _ _ _ _ ⟨Cond.after_iff.mpr rfl, Cond.after_iff.mpr (eq_i res_at (Term.int_eval (1)) rfl), trivial⟩ ⟨hq.1, hq.2.1, (hq.2.2.sift fun y hy => Or.inr (N y hy)).mono (by decide) (by decide)⟩⟩
theorem main_1_1 : Claimed_1_1 := comes_1 fun _ _ _ _ _ _ h hF => ⟨h.1, hF⟩
theorem main_1_2 : Claimed_1_2 := comes_1 fun _ _ _ _ _ _ h hF => ⟨h.2.1, hF⟩
end Jvm.Pilot.@@N@@
namespace Jvm.Pilot.@@N@@
open Jvm Jvm.ClassFile Sem Op Lib Jvm.Free Jvm.Stand Jvm.Pilot.@@N@@.Jvm.D
/-! MADE BY PROGRAM (witnessworld.py) out of the Statement's table words and the real class files: 9 classes; the members and pool entries that the words name. The judged class is class 1, her method 3. -/
namespace start1
open Jvm.ClassFile
def u (s : String) : CpInfo := .utf8 (stringToUtf16 s)
/-- a pool by its gaps: so many unusable entries, then the entry; so many at the end -/
def gap : Nat → List CpInfo → List CpInfo
  | 0, r => r
  | n + 1, r => .unusable :: gap n r
def poolList (es : List (Nat × CpInfo)) (last : Nat) : List CpInfo := es.foldr (fun e r => gap e.1 (e.2 :: r)) (gap last [])
def pool (es : List (Nat × CpInfo)) (last : Nat) : Array CpInfo := ⟨poolList es last⟩
def fileOf (pool : Array CpInfo) (this : Nat) (attrs : Array Attribute := #[]) (ms : Array MethodInfo := #[]) (fl : Nat := 33) (sup : Nat := 0) (ifs : Array Nat := #[]) (fds : Array FieldInfo := #[]) : ClassFile where
  minorVersion := 0
  majorVersion := 65
  constantPool := pool
  accessFlags := fl
  thisClass := this
  superClass := sup
  interfaces := ifs
  fields := fds
  methods := ms
  attributes := attrs
def plain (name : String) (sup : Option ClassId) : Class where
  name := name
  kind := .ordinary
  loader := none
  accessFlags := 33
  super := sup
  interfaces := #[]
  cf := none
  fields := #[]
  methods := #[]
  instanceTypes := #[]
  staticTypes := #[]
  resolved := #[]
  callSites := []
  init := .initialized
  statics := none
  mirror := none

def pool0 : Array CpInfo := pool [(5, u "<init>"), (0, u "()V"), (1, .class_ 10), (1, u "java/lang/Object")] 113

def k0c0 : Code := { maxStack := 0, maxLocals := 1, code := object_method_1_code, exceptionTable := #[], attributes := #[] }
def k0m0 : Method := { name := "<init>", desc := "()V", sig := { parameters := [], returnType := none }, accessFlags := 1, code := some k0c0 }
/-- java/lang/Object -/
def k0 : Class := { plain "java/lang/Object" none with
  accessFlags := 33
  interfaces := #[]
  cf := some (fileOf pool0 8 #[] #[{ accessFlags := 1, nameIndex := 5, descriptorIndex := 6, attributes := #[] }] 33 0 #[] #[])
  fields := #[]
  methods := #[k0m0]
  instanceTypes := #[]
  staticTypes := #[]
  resolved := Array.replicate 124 none
  statics := none }

def pool1 : Array CpInfo := pool [(2, .class_ 4), (0, .nameAndType 5 6), (0, u "java/lang/Object"), (0, u "<init>"), (0, u "()V"), (0, .methodref 8 9), (0, .class_ 10), (0, .nameAndType 11 12), (0, u "com/example/libsitemap/libsitemap/LineCounterTakePinLaw"), (0, u "ch"), (0, u "(III)I"), (0, .methodref 8 14), (0, .nameAndType 15 16), (0, u "expect"), (0, u "(IIZ)Z"), (0, .class_ 18), (0, u "com/example/libsitemap/libsitemap/LineCounter"), (0, .methodref 17 3), (0, .methodref 17 21), (0, .nameAndType 22 23), (0, u "lineBreaks"), (0, u "()I"), (0, .methodref 17 25), (0, .nameAndType 26 27), (0, u "take"), (0, u "(I)Z"), (3, u "law"), (0, u "(IIIII)Z")] 2

def k1m0 : Method := { name := "<init>", desc := "()V", sig := { parameters := [], returnType := none }, accessFlags := 1, code := none }
def k1c1 : Code := { maxStack := 2, maxLocals := 4, code := method_2_code, exceptionTable := #[], attributes := #[] }
def k1m1 : Method := { name := "ch", desc := "(III)I", sig := { parameters := [.int, .int, .int], returnType := some .int }, accessFlags := 10, code := some k1c1 }
def k1c2 : Code := { maxStack := 2, maxLocals := 3, code := method_3_code, exceptionTable := #[], attributes := #[] }
def k1m2 : Method := { name := "expect", desc := "(IIZ)Z", sig := { parameters := [.int, .int, .boolean], returnType := some .boolean }, accessFlags := 10, code := some k1c2 }
def k1c3 : Code := { maxStack := 3, maxLocals := 23, code := code, exceptionTable := #[], attributes := #[] }
def k1m3 : Method := { name := "law", desc := "(IIIII)Z", sig := { parameters := [.int, .int, .int, .int, .int], returnType := some .boolean }, accessFlags := 9, code := some k1c3 }
/-- com/example/libsitemap/libsitemap/LineCounterTakePinLaw -/
def k1 : Class := { plain "com/example/libsitemap/libsitemap/LineCounterTakePinLaw" (some 0) with
  accessFlags := 49
  interfaces := #[]
  cf := some (fileOf pool1 8 #[] #[{ accessFlags := 1, nameIndex := 5, descriptorIndex := 6, attributes := #[] }, { accessFlags := 10, nameIndex := 11, descriptorIndex := 12, attributes := #[] }, { accessFlags := 10, nameIndex := 15, descriptorIndex := 16, attributes := #[] }, { accessFlags := 9, nameIndex := 31, descriptorIndex := 32, attributes := #[] }] 49 2 #[] #[])
  fields := #[]
  methods := #[k1m0, k1m1, k1m2, k1m3]
  instanceTypes := #[]
  staticTypes := #[]
  resolved := Array.replicate 35 none
  statics := none }

def pool2 : Array CpInfo := pool [(1, .methodref 2 3), (0, .class_ 4), (0, .nameAndType 5 6), (0, u "java/lang/Object"), (0, u "<init>"), (0, u "()V"), (0, .fieldref 8 9), (0, .class_ 10), (0, .nameAndType 11 12), (0, u "com/example/libsitemap/libsitemap/LineCounter"), (0, u "afterCarriageReturn"), (0, u "Z"), (0, .fieldref 8 14), (0, .nameAndType 15 16), (0, u "lineBreaks"), (0, u "I"), (2, u "take"), (0, u "(I)Z"), (1, u "()I")] 2

def k2c0 : Code := { maxStack := 1, maxLocals := 1, code := prog_23_method_1_code, exceptionTable := #[], attributes := #[] }
def k2m0 : Method := { name := "<init>", desc := "()V", sig := { parameters := [], returnType := none }, accessFlags := 0, code := some k2c0 }
def k2c1 : Code := { maxStack := 3, maxLocals := 3, code := prog_23_method_2_code, exceptionTable := #[], attributes := #[] }
def k2m1 : Method := { name := "take", desc := "(I)Z", sig := { parameters := [.int], returnType := some .boolean }, accessFlags := 0, code := some k2c1 }
def k2c2 : Code := { maxStack := 1, maxLocals := 1, code := prog_23_method_3_code, exceptionTable := #[], attributes := #[] }
def k2m2 : Method := { name := "lineBreaks", desc := "()I", sig := { parameters := [], returnType := some .int }, accessFlags := 0, code := some k2c2 }
/-- com/example/libsitemap/libsitemap/LineCounter -/
def k2 : Class := { plain "com/example/libsitemap/libsitemap/LineCounter" (some 0) with
  accessFlags := 48
  interfaces := #[]
  cf := some (fileOf pool2 8 #[] #[{ accessFlags := 0, nameIndex := 5, descriptorIndex := 6, attributes := #[] }, { accessFlags := 0, nameIndex := 19, descriptorIndex := 20, attributes := #[] }, { accessFlags := 0, nameIndex := 15, descriptorIndex := 22, attributes := #[] }] 48 2 #[] #[{ accessFlags := 2, nameIndex := 15, descriptorIndex := 16, attributes := #[] }, { accessFlags := 2, nameIndex := 11, descriptorIndex := 12, attributes := #[] }])
  fields := #[{ name := "lineBreaks", type := .int, accessFlags := 2, slot := 0, constantValue := 0 }, { name := "afterCarriageReturn", type := .boolean, accessFlags := 2, slot := 1, constantValue := 0 }]
  methods := #[k2m0, k2m1, k2m2]
  instanceTypes := #[.int, .boolean]
  staticTypes := #[]
  resolved := Array.replicate 25 none
  statics := none }

def pool3 : Array CpInfo := pool [(1, u "java/lang/Cloneable"), (0, .class_ 1), (0, u "java/lang/Object"), (0, .class_ 3)] 3

/-- java/lang/Cloneable -/
def k3 : Class := { plain "java/lang/Cloneable" (some 0) with
  accessFlags := 1537
  interfaces := #[]
  cf := some (fileOf pool3 2 #[] #[] 1537 4 #[] #[])
  fields := #[]
  methods := #[]
  instanceTypes := #[]
  staticTypes := #[]
  resolved := Array.replicate 8 none
  statics := none }

def pool4 : Array CpInfo := pool [(1, u "java/io/Serializable"), (0, .class_ 1), (0, u "java/lang/Object"), (0, .class_ 3)] 3

/-- java/io/Serializable -/
def k4 : Class := { plain "java/io/Serializable" (some 0) with
  accessFlags := 1537
  interfaces := #[]
  cf := some (fileOf pool4 2 #[] #[] 1537 4 #[] #[])
  fields := #[]
  methods := #[]
  instanceTypes := #[]
  staticTypes := #[]
  resolved := Array.replicate 8 none
  statics := none }

/-- the primitive byte -/
def k5 : Class := { plain "byte" none with kind := .primitive 'B', accessFlags := 0x411 }
/-- [B -/
def k6 : Class := { plain "[B" (some 0) with kind := .array 5 .byte, interfaces := #[3, 4], accessFlags := 1041 }

/-- the primitive int -/
def k7 : Class := { plain "int" none with kind := .primitive 'I', accessFlags := 0x411 }
/-- [I -/
def k8 : Class := { plain "[I" (some 0) with kind := .array 7 .int, interfaces := #[3, 4], accessFlags := 1041 }

def heap : Heap := #[]
def classes : Array Class := #[k0, k1, k2, k3, k4, k5, k6, k7, k8]
def interned : List (Array UInt16 × Addr) := []
def slotsUsed : Nat := 0
def theMethod : MethodId := ⟨1, 3⟩
def args0 : Array Value := #[.int 5, .int 6, .int 7, .int 8, .int 4]
def aboutOver (below : List Frame) : State where
  vm := { classes := classes, interned := interned.toArray }
  heap := heap
  slotsUsed := slotsUsed
  threads := #[{ frames := .invoking theMethod args0 :: below }]
def below0 : List Frame := [.native { method := ⟨0, 0⟩, args := #[] }]
def about1 : State := aboutOver below0
def p0 : Program := .bare "" "" ""
def e0 : Env := launch0.env 0 0 0
theorem w_frames : about1.frames = Frame.invoking theMethod args0 :: below0 := rfl
set_option maxRecDepth 65536 in
theorem w_args : argsFit about1.vm theMethod args0 = true := by decide +kernel
set_option maxRecDepth 65536 in
theorem w_heap : heapFits about1 = true := by decide +kernel
set_option maxRecDepth 65536 in
theorem w_runnable : about1.curStatus? = some .runnable := by decide +kernel
set_option maxRecDepth 65536 in
theorem w_alone : about1.alone = true := by decide +kernel
set_option maxRecDepth 65536 in
theorem w_named : about1.methodNamed? x = some theMethod := by decide +kernel
set_option maxRecDepth 65536 in
theorem w_hears : about1.hears theMethod below0 = true := by decide +kernel
set_option maxRecDepth 65536 in
theorem w_ripe : about1.ripe theMethod args0 below0 = true := by decide +kernel
theorem w_running : about1.status = .running := rfl
set_option maxRecDepth 65536 in
theorem w_room : about1.hasRoom e0.platform room_1 = true :=
  launch0.hasRoom_least _ room_1 (by decide +kernel) (by decide +kernel) (by decide +kernel) (by decide +kernel) (by decide +kernel) (by decide +kernel)
theorem allAtoms_all (ts : List Jvm.Cond) (a : Array Jvm.Value) (st : Jvm.State) : (allAtoms ts).before a st = ts.all (fun c => c.before a st) := by
  induction ts with
  | nil => rfl
  | cons c t ih =>
    show (Jvm.Cond.and c (allAtoms t)).before a st = _
    rw [Jvm.Cond.before_and, ih, List.all_cons]
def words1 : List Jvm.Cond := Jvm.Cond.code x code maxLocals ret :: tables_1
/-- a 'code' word, met by the world's own term for the bytes: nothing is compared byte by byte -/
theorem code_word {y : MethodName} {bytes : ByteArray} {mx : Nat} {rt : Option FieldType} {a : Array Value} {s : State} {m : MethodId} {meth : Method} {c : Code} (h1 : s.methodNamed? y = some m) (h2 : s.vm.method? m = some meth) (h3 : meth.code = some c) (h4 : c.code = bytes)
    (h5 : (c.maxLocals == mx && c.exceptionTable.isEmpty && decide (c.maxStack ≤ mostOperands) && decide (meth.sig.returnType = rt) && !meth.locks && decide (parseMethodDescriptor y.desc = some meth.sig)) = true) : (Jvm.Cond.code y bytes mx rt).before a s = true := by
  simp only [Bool.and_eq_true, beq_iff_eq, Bool.not_eq_true', decide_eq_true_eq] at h5
  obtain ⟨⟨⟨⟨⟨g1, g2⟩, g3⟩, g4⟩, g5⟩, g6⟩ := h5
  simp [Cond.before, Cond.holds, Cond.value, h1, h2, h3, h4, g1, g2, g3, g4, g5, g6]
def isCode : Jvm.Cond → Bool
  | .code _ _ _ _ => true
  | _ => false
theorem all_split {L : List Jvm.Cond} {P : Jvm.Cond → Bool} (h1 : L.all (fun c => isCode c || P c) = true) (h2 : ∀ c ∈ L.filter isCode, P c = true) : L.all P = true := by
  refine List.all_eq_true.mpr fun c hc => ?_
  have h := List.all_eq_true.mp h1 c hc
  rcases Bool.eq_false_or_eq_true (isCode c) with hi | hi
  · exact h2 c (List.mem_filter.mpr ⟨hc, hi⟩)
  · simpa [hi] using h
set_option maxRecDepth 65536 in
theorem w_c0 : (Jvm.Cond.code x code maxLocals ret).before args0 about1 = true := code_word (m := ⟨1, 3⟩) (meth := k1m3) (c := k1c3) (by decide +kernel) rfl rfl rfl (by decide +kernel)
set_option maxRecDepth 65536 in
theorem w_c1 : (Jvm.Cond.code ({ cls := "com/example/libsitemap/libsitemap/LineCounterTakePinLaw", name := "ch", desc := "(III)I" } : Jvm.MethodName) method_2_code (4 : Nat) (Option.some Jvm.ClassFile.FieldType.int)).before args0 about1 = true := code_word (m := ⟨1, 1⟩) (meth := k1m1) (c := k1c1) (by decide +kernel) rfl rfl rfl (by decide +kernel)
set_option maxRecDepth 65536 in
theorem w_c2 : (Jvm.Cond.code ({ cls := "com/example/libsitemap/libsitemap/LineCounterTakePinLaw", name := "expect", desc := "(IIZ)Z" } : Jvm.MethodName) method_3_code (3 : Nat) (Option.some Jvm.ClassFile.FieldType.boolean)).before args0 about1 = true := code_word (m := ⟨1, 2⟩) (meth := k1m2) (c := k1c2) (by decide +kernel) rfl rfl rfl (by decide +kernel)
set_option maxRecDepth 65536 in
theorem w_c3 : (Jvm.Cond.code ({ cls := "com/example/libsitemap/libsitemap/LineCounter", name := "<init>", desc := "()V" } : Jvm.MethodName) prog_23_method_1_code (1 : Nat) (Option.none : Option Jvm.ClassFile.FieldType)).before args0 about1 = true := code_word (m := ⟨2, 0⟩) (meth := k2m0) (c := k2c0) (by decide +kernel) rfl rfl rfl (by decide +kernel)
set_option maxRecDepth 65536 in
theorem w_c4 : (Jvm.Cond.code ({ cls := "java/lang/Object", name := "<init>", desc := "()V" } : Jvm.MethodName) object_method_1_code (1 : Nat) (Option.none : Option Jvm.ClassFile.FieldType)).before args0 about1 = true := code_word (m := ⟨0, 0⟩) (meth := k0m0) (c := k0c0) (by decide +kernel) rfl rfl rfl (by decide +kernel)
set_option maxRecDepth 65536 in
theorem w_c5 : (Jvm.Cond.code ({ cls := "com/example/libsitemap/libsitemap/LineCounter", name := "lineBreaks", desc := "()I" } : Jvm.MethodName) prog_23_method_3_code (1 : Nat) (Option.some Jvm.ClassFile.FieldType.int)).before args0 about1 = true := code_word (m := ⟨2, 2⟩) (meth := k2m2) (c := k2c2) (by decide +kernel) rfl rfl rfl (by decide +kernel)
set_option maxRecDepth 65536 in
theorem w_c6 : (Jvm.Cond.code ({ cls := "com/example/libsitemap/libsitemap/LineCounter", name := "take", desc := "(I)Z" } : Jvm.MethodName) prog_23_method_2_code (3 : Nat) (Option.some Jvm.ClassFile.FieldType.boolean)).before args0 about1 = true := code_word (m := ⟨2, 1⟩) (meth := k2m1) (c := k2c1) (by decide +kernel) rfl rfl rfl (by decide +kernel)
def codes1 : List Jvm.Cond := [Jvm.Cond.code x code maxLocals ret, Jvm.Cond.code ({ cls := "com/example/libsitemap/libsitemap/LineCounterTakePinLaw", name := "ch", desc := "(III)I" } : Jvm.MethodName) method_2_code (4 : Nat) (Option.some Jvm.ClassFile.FieldType.int), Jvm.Cond.code ({ cls := "com/example/libsitemap/libsitemap/LineCounterTakePinLaw", name := "expect", desc := "(IIZ)Z" } : Jvm.MethodName) method_3_code (3 : Nat) (Option.some Jvm.ClassFile.FieldType.boolean), Jvm.Cond.code ({ cls := "com/example/libsitemap/libsitemap/LineCounter", name := "<init>", desc := "()V" } : Jvm.MethodName) prog_23_method_1_code (1 : Nat) (Option.none : Option Jvm.ClassFile.FieldType), Jvm.Cond.code ({ cls := "java/lang/Object", name := "<init>", desc := "()V" } : Jvm.MethodName) object_method_1_code (1 : Nat) (Option.none : Option Jvm.ClassFile.FieldType), Jvm.Cond.code ({ cls := "com/example/libsitemap/libsitemap/LineCounter", name := "lineBreaks", desc := "()I" } : Jvm.MethodName) prog_23_method_3_code (1 : Nat) (Option.some Jvm.ClassFile.FieldType.int), Jvm.Cond.code ({ cls := "com/example/libsitemap/libsitemap/LineCounter", name := "take", desc := "(I)Z" } : Jvm.MethodName) prog_23_method_2_code (3 : Nat) (Option.some Jvm.ClassFile.FieldType.boolean)]
set_option maxRecDepth 65536 in
theorem codes_eq : words1.filter isCode = codes1 := rfl
theorem w_codes : ∀ c ∈ words1.filter isCode, c.before args0 about1 = true := by
  rw [codes_eq]
  intro c hc
  simp only [codes1, List.mem_cons, List.not_mem_nil, or_false] at hc
  rcases hc with rfl | rfl | rfl | rfl | rfl | rfl | rfl
  · exact w_c0
  · exact w_c1
  · exact w_c2
  · exact w_c3
  · exact w_c4
  · exact w_c5
  · exact w_c6
set_option maxRecDepth 65536 in
theorem w_t1 : (words1.take 24).all (fun c => isCode c || c.before args0 about1) = true := by decide +kernel
set_option maxRecDepth 65536 in
theorem w_t2 : (words1.drop 24).all (fun c => isCode c || c.before args0 about1) = true := by decide +kernel
theorem w_tables : (allAtoms (Jvm.Cond.code x code maxLocals ret :: tables_1)).before args0 about1 = true := by
  rw [allAtoms_all]
  show words1.all (fun c => c.before args0 about1) = true
  refine all_split ?_ w_codes
  rw [← List.take_append_drop 24 words1, List.all_append, w_t1, w_t2]
  rfl
set_option maxRecDepth 65536 in
theorem w_case : (Jvm.Cond.and given_1 narrow_1).before args0 about1 = true := by decide +kernel
theorem w_applies : (headSpec (Jvm.Cond.code x code maxLocals ret :: tables_1) room_1).applies x e0.platform about1 = true :=
  (Spec.applies_iff w_frames).mpr ⟨w_running, w_runnable, w_alone, w_named, w_hears, w_ripe, w_room, w_tables⟩
theorem atStart : AtStart classFile x code maxLocals ret World_1 tables_1 room_1 Calls_1 rest_1 Pre_1 launch0 p0 e0 about1 theMethod args0 below0 :=
  ⟨lists_1, trivial, launch0.admits_env _ _ _, launch0.least_env, fairChoices_fair.cas, fairChoices_fair.clock, w_frames, w_args, w_heap, w_applies, trivial, trivial, w_case⟩
end start1
theorem witness_1 : WitnessClaimed_1 := ⟨start1.p0, start1.e0, start1.about1, start1.theMethod, start1.args0, start1.below0, start1.atStart⟩
end Jvm.Pilot.@@N@@

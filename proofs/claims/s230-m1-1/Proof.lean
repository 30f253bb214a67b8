import JvmDerived
import JvmDerived.Pilot.@@N@@Statement
import JvmDerived.Pilot.@@N@@Code
set_option linter.unusedVariables false
set_option linter.unusedSimpArgs false
namespace Jvm.RoadKit
open Sem ClassFile Op Lib Jvm.Stand Jvm.Free Jvm.LawKit
section New
variable {p : Program} {l : Launch} {e : Env} {R : Room} {s : State} {m : MethodId} {args : Array Value} {below : List Frame} {meth : Method} {c : Code} {T : State} {locs : List Loc} {cells slots : Nat}
theorem retI (X : Stand p l e R s m args below meth c T locs cells slots) (hx : p.tables.exec = Jvm.exec) {pc : Nat} {Ls : Array Slot} {z : Int32} {rest : List Value} (hret : meth.sig.returnType = some .int) (hd : decode c.code pc = .ok (.ireturn, 1)) {fs : List Frame}
    (hl : ∀ (f : JFrame) (acts : List Action), f.method = m → f.locked = none → f.entered = [] → (doReturn e (T.setTop f) acts (some (.int z))).1 = T.setFrames fs) : Steps p.tables e below (T.setTop (mkF m pc Ls (.int z :: rest))) (T.setFrames fs) := by
  have hm' : T.vm.method? m = some meth := X.method'
  have hn : narrow .int (.int z) = .int z := rfl
  show Steps p.tables e below (T.setTop { method := m, pc := pc, locals := Ls, stack := _ :: rest, locked := none }) _
  jvm_step X.here [X.here.top, hx, hd, hm', hret, hn]
  first | (intro acts; rw [hl _ acts rfl rfl rfl]) | rw [hl _ _ rfl rfl rfl]
  exact Steps.refl _
end New
end Jvm.RoadKit
namespace Jvm.Pilot.@@N@@
open Jvm Jvm.ClassFile Sem Op Lib Jvm.Free Jvm.Stand Jvm.LawKit Jvm.RoadKit Bundle Jvm.Pilot.@@N@@.Jvm.D
theorem own_bv32 (m : BitVec 32) (k : Nat) (hk : 11 ≤ k) : (m ^^^ (m >>> k)) ^^^ ((m ^^^ (m >>> k)) >>> k) ^^^ ((m ^^^ (m >>> k)) >>> (k + k)) = m := by
  apply BitVec.eq_of_getLsbD_eq
  intro i hi
  simp only [BitVec.getLsbD_xor, BitVec.getLsbD_ushiftRight]
  have h3 : m.getLsbD (k + (k + k + i)) = false := BitVec.getLsbD_of_ge _ _ (by omega)
  rw [show k + k + i = k + (k + i) by omega]
  rw [show k + (k + k + i) = k + (k + (k + i)) by omega] at h3
  rw [h3]
  cases m.getLsbD i <;> cases m.getLsbD (k + i) <;> cases m.getLsbD (k + (k + i)) <;> rfl
def own_sh (x : Int32) (k : Int32) : Int32 := ((x.toUInt32 >>> (k &&& 31).toUInt32).toInt32)
theorem own_sh_bv (x : Int32) (k : Int32) (n : Nat) (h : ((k &&& 31).toUInt32 % 32).toNat = n) : (own_sh x k).toBitVec = x.toBitVec >>> n := by
  show (x.toUInt32 >>> (k &&& 31).toUInt32).toBitVec = _
  rw [UInt32.toBitVec_shiftRight, BitVec.ushiftRight_eq']
  rw [← h]; rfl
def own_hash (a b : Int32) : Int32 := (a * (-1640531535 : Int32) + b * (-2048144777 : Int32)) ^^^ own_sh (a * (-1640531535 : Int32) + b * (-2048144777 : Int32)) 15
theorem own_xs_inj (m n : Int32) (h : m ^^^ own_sh m 15 = n ^^^ own_sh n 15) : m = n := by
  apply Int32.toBitVec_inj.mp
  have h := congrArg Int32.toBitVec h
  rw [Int32.toBitVec_xor, Int32.toBitVec_xor, own_sh_bv m 15 15 (by decide), own_sh_bv n 15 15 (by decide)] at h
  rw [← own_bv32 m.toBitVec 15 (by decide), ← own_bv32 n.toBitVec 15 (by decide), h]
theorem own_cancel (u a d c i : Int32) (hi : c * i = 1) (h : a * c + u = (a + d) * c + u) : d = 0 := by
  have h : a * c = (a + d) * c := (Int32.add_left_inj u).mp h
  have h2 : a * c * i = (a + d) * c * i := by rw [h]
  rw [Int32.mul_assoc, Int32.mul_assoc, hi, Int32.mul_one, Int32.mul_one] at h2
  have h3 : a + 0 = a + d := by rw [Int32.add_zero]; exact h2
  exact ((Int32.add_right_inj a).mp h3).symm
theorem own_a (a b d : Int32) : own_hash a b = own_hash (a + d) b ↔ d = 0 := by
  constructor
  · intro h
    exact own_cancel _ a d (-1640531535 : Int32) 244002641 (by decide +kernel) (own_xs_inj _ _ h)
  · rintro rfl; rw [Int32.add_zero]
theorem own_b (a b d : Int32) : own_hash a b = own_hash a (b + d) ↔ d = 0 := by
  constructor
  · intro h
    have h := own_xs_inj _ _ h
    rw [Int32.add_comm (a * _), Int32.add_comm (a * _)] at h
    exact own_cancel _ b d (-2048144777 : Int32) 3066638151 (by decide +kernel) h
  · rintro rfl; rw [Int32.add_zero]
theorem own_same {p q : Prop} (h : p ↔ q) {x y : Int32} (hx : (p ∧ x = 1) ∨ (¬ p ∧ x = 0)) (hy : (q ∧ y = 1) ∨ (¬ q ∧ y = 0)) : x = y := by
  rcases hx with ⟨h1, rfl⟩ | ⟨h1, rfl⟩ <;> rcases hy with ⟨h2, rfl⟩ | ⟨h2, rfl⟩
  · rfl
  · exact absurd (h.mp h1) h2
  · exact absurd (h.mpr h2) h1
  · rfl
theorem d1_0 : decode prog_4_method_30_code 0 = .ok (.iload_n 0, 1) := by decide +kernel
theorem d1_1 : decode prog_4_method_30_code 1 = .ok (.ldc 157, 2) := by decide +kernel
theorem d1_3 : decode prog_4_method_30_code 3 = .ok (.imul, 1) := by decide +kernel
theorem d1_4 : decode prog_4_method_30_code 4 = .ok (.iload_n 1, 1) := by decide +kernel
theorem d1_5 : decode prog_4_method_30_code 5 = .ok (.ldc 158, 2) := by decide +kernel
theorem d1_7 : decode prog_4_method_30_code 7 = .ok (.imul, 1) := by decide +kernel
theorem d1_8 : decode prog_4_method_30_code 8 = .ok (.iadd, 1) := by decide +kernel
theorem d1_9 : decode prog_4_method_30_code 9 = .ok (.istore_n 2, 1) := by decide +kernel
theorem d1_10 : decode prog_4_method_30_code 10 = .ok (.iload_n 2, 1) := by decide +kernel
theorem d1_11 : decode prog_4_method_30_code 11 = .ok (.iload_n 2, 1) := by decide +kernel
theorem d1_12 : decode prog_4_method_30_code 12 = .ok (.bipush 15, 2) := by decide +kernel
theorem d1_14 : decode prog_4_method_30_code 14 = .ok (.iushr, 1) := by decide +kernel
theorem d1_15 : decode prog_4_method_30_code 15 = .ok (.ixor, 1) := by decide +kernel
theorem d1_16 : decode prog_4_method_30_code 16 = .ok (.ireturn, 1) := by decide +kernel
theorem pn_0 : plainName "com/example/gleipnir/gleipnir/bdd/NodeTable" = true := by first | (simp [plainName, overriddenIn]; done) | decide +kernel
theorem ef_1 (m : MethodId) (x0 : Int32) (x1 : Int32) : entryFrame m #[(.int x0), (.int x1)] 3 = mkF m 0 #[.val (.int x0), .val (.int x1), .unset] [] := by first | (simp [entryFrame, mkF, argsToLocals, Value.category]; done) | rfl
def Qrm1 (Z : State) (a : Int32) (b : Int32) (h0 : Heap) (n0 : Nat) (v : Option Value) (h : Heap) (L : List Loc) : Prop := v = some (.int (own_hash a b)) ∧ Fr n0 L ∧ h = h0
set_option maxRecDepth 65536 in
set_option maxHeartbeats 40000000 in
theorem rm1 (l : Launch) (Z : State) (a0 : Array Value) (hw : ∀ d ∈ tables_1, d.before a0 Z = true) (ws : List Jvm.Cond) (a : Int32) (b : Int32) (h0 : Heap) (n0 : Nat) (Z0 : n0 ≤ h0.size) :
    MetFree l (⟨"com/example/gleipnir/gleipnir/bdd/NodeTable", "hash", "(II)I"⟩ : MethodName) (head1 (Jvm.Cond.code (⟨"com/example/gleipnir/gleipnir/bdd/NodeTable", "hash", "(II)I"⟩ : MethodName) prog_4_method_30_code 3 (some .int) :: ws) ({ frames := 0, cells := 0, slots := 0, locals := 0 } : Room)) (fun aa_ U => aa_ = #[(.int a), (.int b)] ∧ Z.Warmed39 U.vm ∧ U.heap = h0) (fun _ _ _ _ _ => True) (fun _ U o U' => ∃ v L, o = .returned v ∧ Qrm1 Z a b h0 n0 v U'.heap L ∧ FrameEnd U o U' L ({ frames := 0, cells := 0, slots := 0, locals := 0 } : Room).cells ({ frames := 0, cells := 0, slots := 0, locals := 0 } : Room).slots) := by
  refine MetFree.of_bodySF (plainFor_of_name pn_0) hisR ?_
  intro p e s m args below meth c s₁ Bd hml0 hP hK
  obtain ⟨rfl, hZ, hh⟩ := hP
  have hx := Bd.exec
  have hby := Bd.bytes
  have hml : c.maxLocals = 3 := hml0
  have hown : s.vm.findClass "com/example/gleipnir/gleipnir/bdd/NodeTable" = some m.cls := findClass_of_methodNamed Bd.named
  have hnm := (name_of_methodNamed Bd.named Bd.method).1
  have X0 : Stand p l e ({ frames := 0, cells := 0, slots := 0, locals := 0 } : Room) s m #[(.int a), (.int b)] below meth c s₁ [] 0 0 := Stand.of_body Bd
  have e0 : s₁.heap = h0 := by rw [← hh, Bd.state]; rfl
  have N0 := Fr.nil n0
  have pre0 : ∀ tt_, Steps p.tables e below (s₁.setTop (mkF m 0 #[.val (.int a), .val (.int b), .unset] [])) tt_ → Steps p.tables e below (s₁.setTop (entryFrame m #[(.int a), (.int b)] 3)) tt_ := fun tt_ kk_ => castTop (ef_1 m a b) kk_
  obtain ⟨fs, hr, hrun, hended, hW, hsame⟩ := X0.leave (v := some (.int (((a * (-1640531535 : Int32)) + (b * (-2048144777 : Int32))) ^^^ ((((a * (-1640531535 : Int32)) + (b * (-2048144777 : Int32))).toUInt32 >>> ((15 : Int32) &&& 31).toUInt32).toInt32)))) (fun h => by rw [Bd.returns] at h; cases h)
  refine ⟨_, _, pre0 _ ?_, hrun, hended, _, _, rfl, ?_, ⟨_, rfl⟩, hW, hsame.mono (by decide) (by decide)⟩
  · show Steps p.tables e below (s₁.setTop (mkF m 0 #[.val (.int a), .val (.int b), .unset] [])) _
    refine XS.iloadN X0.here hx rfl (hb hby d1_0) rfl ?_
    show Steps p.tables e below (s₁.setTop (mkF m 1 #[.val (.int a), .val (.int b), .unset] [(.int a)])) _
    refine X0.ldcInt hx hown (mvT hZ (hw _ (List.mem_of_getElem? (i := 4) rfl))) (g := (mkF m 1 #[.val (.int a), .val (.int b), .unset] [(.int a)])) rfl (hb hby d1_1) _ ?_
    show Steps p.tables e below (s₁.setTop (mkF m 3 #[.val (.int a), .val (.int b), .unset] [(.int (-1640531535 : Int32)), (.int a)])) _
    refine XS.imul X0.here hx rfl (hb hby d1_3) rfl ?_
    show Steps p.tables e below (s₁.setTop (mkF m 4 #[.val (.int a), .val (.int b), .unset] [(.int (a * (-1640531535 : Int32)))])) _
    refine XS.iloadN X0.here hx rfl (hb hby d1_4) rfl ?_
    show Steps p.tables e below (s₁.setTop (mkF m 5 #[.val (.int a), .val (.int b), .unset] [(.int b), (.int (a * (-1640531535 : Int32)))])) _
    refine X0.ldcInt hx hown (mvT hZ (hw _ (List.mem_of_getElem? (i := 5) rfl))) (g := (mkF m 5 #[.val (.int a), .val (.int b), .unset] [(.int b), (.int (a * (-1640531535 : Int32)))])) rfl (hb hby d1_5) _ ?_
    show Steps p.tables e below (s₁.setTop (mkF m 7 #[.val (.int a), .val (.int b), .unset] [(.int (-2048144777 : Int32)), (.int b), (.int (a * (-1640531535 : Int32)))])) _
    refine XS.imul X0.here hx rfl (hb hby d1_7) rfl ?_
    show Steps p.tables e below (s₁.setTop (mkF m 8 #[.val (.int a), .val (.int b), .unset] [(.int (b * (-2048144777 : Int32))), (.int (a * (-1640531535 : Int32)))])) _
    refine XS.iadd X0.here hx rfl (hb hby d1_8) rfl ?_
    show Steps p.tables e below (s₁.setTop (mkF m 9 #[.val (.int a), .val (.int b), .unset] [(.int ((a * (-1640531535 : Int32)) + (b * (-2048144777 : Int32))))])) _
    refine XS.istoreN X0.here hx rfl (hb hby d1_9) rfl (l' := #[.val (.int a), .val (.int b), .val (.int ((a * (-1640531535 : Int32)) + (b * (-2048144777 : Int32))))]) rfl ?_
    show Steps p.tables e below (s₁.setTop (mkF m 10 #[.val (.int a), .val (.int b), .val (.int ((a * (-1640531535 : Int32)) + (b * (-2048144777 : Int32))))] [])) _
    refine XS.iloadN X0.here hx rfl (hb hby d1_10) rfl ?_
    show Steps p.tables e below (s₁.setTop (mkF m 11 #[.val (.int a), .val (.int b), .val (.int ((a * (-1640531535 : Int32)) + (b * (-2048144777 : Int32))))] [(.int ((a * (-1640531535 : Int32)) + (b * (-2048144777 : Int32))))])) _
    refine XS.iloadN X0.here hx rfl (hb hby d1_11) rfl ?_
    show Steps p.tables e below (s₁.setTop (mkF m 12 #[.val (.int a), .val (.int b), .val (.int ((a * (-1640531535 : Int32)) + (b * (-2048144777 : Int32))))] [(.int ((a * (-1640531535 : Int32)) + (b * (-2048144777 : Int32)))), (.int ((a * (-1640531535 : Int32)) + (b * (-2048144777 : Int32))))])) _
    refine XS.bipush X0.here hx rfl (hb hby d1_12) ?_
    show Steps p.tables e below (s₁.setTop (mkF m 14 #[.val (.int a), .val (.int b), .val (.int ((a * (-1640531535 : Int32)) + (b * (-2048144777 : Int32))))] [(.int (15 : Int32)), (.int ((a * (-1640531535 : Int32)) + (b * (-2048144777 : Int32)))), (.int ((a * (-1640531535 : Int32)) + (b * (-2048144777 : Int32))))])) _
    refine XS.iushr X0.here hx rfl (hb hby d1_14) rfl ?_
    show Steps p.tables e below (s₁.setTop (mkF m 15 #[.val (.int a), .val (.int b), .val (.int ((a * (-1640531535 : Int32)) + (b * (-2048144777 : Int32))))] [(.int ((((a * (-1640531535 : Int32)) + (b * (-2048144777 : Int32))).toUInt32 >>> ((15 : Int32) &&& 31).toUInt32).toInt32)), (.int ((a * (-1640531535 : Int32)) + (b * (-2048144777 : Int32))))])) _
    refine XS.ixor X0.here hx rfl (hb hby d1_15) rfl ?_
    show Steps p.tables e below (s₁.setTop (mkF m 16 #[.val (.int a), .val (.int b), .val (.int ((a * (-1640531535 : Int32)) + (b * (-2048144777 : Int32))))] [(.int (((a * (-1640531535 : Int32)) + (b * (-2048144777 : Int32))) ^^^ ((((a * (-1640531535 : Int32)) + (b * (-2048144777 : Int32))).toUInt32 >>> ((15 : Int32) &&& 31).toUInt32).toInt32)))])) _
    exact retI X0 hx Bd.returns (hb hby d1_16) hr
  · show Qrm1 Z a b h0 n0 _ s₁.heap _
    rw [e0]
    exact ⟨rfl, N0, rfl⟩
theorem pd_0 : parseMethodDescriptor "(II)I" = some ⟨[.int, .int], some .int⟩ := by decide +kernel
theorem pn_1 : plainName "com/example/gleipnir/gleipnir/bdd/NodeTableHashPinLaw" = true := by first | (simp [plainName, overriddenIn]; done) | decide +kernel
theorem ef_0 (m : MethodId) (x0 : Int32) (x1 : Int32) (x2 : Int32) (x3 : Int32) : entryFrame m #[(.int x0), (.int x1), (.int x2), (.int x3)] maxLocals = mkF m 0 #[.val (.int x0), .val (.int x1), .val (.int x2), .val (.int x3), .unset, .unset, .unset, .unset, .unset, .unset, .unset] [] := by first | (simp [entryFrame, mkF, argsToLocals, Value.category, maxLocals]; done) | rfl
def Qrm0 (Z : State) (p1 : Int32) (p2 : Int32) (p3 : Int32) (p4 : Int32) (h0 : Heap) (n0 : Nat) (v : Option Value) (h : Heap) (L : List Loc) : Prop := v = some (.int (1 : Int32)) ∧ Fr n0 L
set_option maxRecDepth 65536 in
set_option maxHeartbeats 40000000 in
theorem rm0 (l : Launch) (Z : State) (a0 : Array Value) (hw : ∀ d ∈ tables_1, d.before a0 Z = true) (ws : List Jvm.Cond) (p1 : Int32) (p2 : Int32) (p3 : Int32) (p4 : Int32) (h0 : Heap) (n0 : Nat) (Z0 : n0 ≤ h0.size) :
    MetFree l x (head1 (Jvm.Cond.code x code maxLocals ret :: ws) room_1) (fun aa_ U => aa_ = #[(.int p1), (.int p2), (.int p3), (.int p4)] ∧ Z.Warmed39 U.vm ∧ U.heap = h0) (fun _ _ _ _ _ => True) (fun _ U o U' => ∃ v L, o = .returned v ∧ Qrm0 Z p1 p2 p3 p4 h0 n0 v U'.heap L ∧ FrameEnd U o U' L room_1.cells room_1.slots) := by
  refine MetFree.of_bodySF (plainFor_of_name pn_1) hisR ?_
  intro p e s m args below meth c s₁ Bd hml0 hP hK
  obtain ⟨rfl, hZ, hh⟩ := hP
  have hx := Bd.exec
  have hby := Bd.bytes
  have hml : c.maxLocals = 11 := hml0
  have hown : s.vm.findClass "com/example/gleipnir/gleipnir/bdd/NodeTableHashPinLaw" = some m.cls := findClass_of_methodNamed Bd.named
  have hnm := (name_of_methodNamed Bd.named Bd.method).1
  have X0 : Stand p l e room_1 s m #[(.int p1), (.int p2), (.int p3), (.int p4)] below meth c s₁ [] 0 0 := Stand.of_body Bd
  have e0 : s₁.heap = h0 := by rw [← hh, Bd.state]; rfl
  have N0 := Fr.nil n0
  have pre0 : ∀ tt_, Steps p.tables e below (s₁.setTop (mkF m 0 #[.val (.int p1), .val (.int p2), .val (.int p3), .val (.int p4), .unset, .unset, .unset, .unset, .unset, .unset, .unset] [])) tt_ → Steps p.tables e below (s₁.setTop (entryFrame m #[(.int p1), (.int p2), (.int p3), (.int p4)] maxLocals)) tt_ := fun tt_ kk_ => castTop (ef_0 m p1 p2 p3 p4) kk_
  obtain ⟨_, _, ⟨T1, L1, k1, n1⟩, -, X1, ⟨Lc1, hQ1, l1, y1, z1⟩, st1⟩ := Jvm.LawKit.callS X0 hx (y := (⟨"com/example/gleipnir/gleipnir/bdd/NodeTable", "hash", "(II)I"⟩ : MethodName)) hown (mvT hZ (hw _ (List.mem_of_getElem? (i := 0) rfl))) (mvT hZ (hw _ (List.mem_of_getElem? (i := 1) rfl))) (mvT hZ (hw _ (List.mem_of_getElem? (i := 2) rfl))) (mvT hZ (hw _ (List.mem_of_getElem? (i := 3) rfl))) (by decide) (backOf (W := 0) (rm1 l Z a0 hw [] p1 p2 h0 n0 Z0 ) hZ (hw _ (List.mem_of_getElem? (i := 3) rfl)) (hw _ (List.mem_of_getElem? (i := 2) rfl)) (by decide) (by decide)) (g := (mkF m 12 #[.val (.int p1), .val (.int p2), .val (.int p3), .val (.int p4), .val (.int (p1 + p3)), .val (.int (p2 + p4)), .unset, .unset, .unset, .unset, .unset] [(.int p2), (.int p1)])) rfl (by rw [hml]; rfl) (argsL := [(.int p1), (.int p2)]) (rest := []) (lenOf pd_0 rfl) rfl (by show 2 * 0 + _ ≤ _; exact Nat.le_of_eq rfl) (hb hby at_12) (fun _ _ => ⟨rfl, e0, (by decide : 0 + 0 ≤ _), (by decide : 0 + 0 ≤ _)⟩)
  dsimp only [Pt.U, Pt.locs, Pt.cells, Pt.slots] at X1 l1 y1 z1 st1 hQ1
  subst l1 y1 z1
  obtain ⟨rfl, N1q, e1q⟩ := hQ1
  have N1 := Fr.app N0 N1q
  obtain ⟨_, _, ⟨T2, L2, k2, n2⟩, -, X2, ⟨Lc2, hQ2, l2, y2, z2⟩, st2⟩ := Jvm.LawKit.callS X1 hx (y := (⟨"com/example/gleipnir/gleipnir/bdd/NodeTable", "hash", "(II)I"⟩ : MethodName)) hown (mvT hZ (hw _ (List.mem_of_getElem? (i := 0) rfl))) (mvT hZ (hw _ (List.mem_of_getElem? (i := 1) rfl))) (mvT hZ (hw _ (List.mem_of_getElem? (i := 2) rfl))) (mvT hZ (hw _ (List.mem_of_getElem? (i := 3) rfl))) (by decide) (backOf (W := 0) (rm1 l Z a0 hw [] (p1 + p3) p2 h0 n0 Z0 ) hZ (hw _ (List.mem_of_getElem? (i := 3) rfl)) (hw _ (List.mem_of_getElem? (i := 2) rfl)) (by decide) (by decide)) (g := (mkF m 20 #[.val (.int p1), .val (.int p2), .val (.int p3), .val (.int p4), .val (.int (p1 + p3)), .val (.int (p2 + p4)), .val (.int (own_hash p1 p2)), .unset, .unset, .unset, .unset] [(.int p2), (.int (p1 + p3))])) rfl (by rw [hml]; rfl) (argsL := [(.int (p1 + p3)), (.int p2)]) (rest := []) (lenOf pd_0 rfl) rfl (by show 2 * 0 + _ ≤ _; exact Nat.le_of_eq rfl) (hb hby at_20) (fun _ _ => ⟨rfl, e1q, (by decide : 0 + 0 ≤ _), (by decide : 0 + 0 ≤ _)⟩)
  dsimp only [Pt.U, Pt.locs, Pt.cells, Pt.slots] at X2 l2 y2 z2 st2 hQ2
  subst l2 y2 z2
  obtain ⟨rfl, N2q, e2q⟩ := hQ2
  have N2 := Fr.app N1 N2q
  obtain ⟨_, _, ⟨T3, L3, k3, n3⟩, -, X3, ⟨Lc3, hQ3, l3, y3, z3⟩, st3⟩ := Jvm.LawKit.callS X2 hx (y := (⟨"com/example/gleipnir/gleipnir/bdd/NodeTable", "hash", "(II)I"⟩ : MethodName)) hown (mvT hZ (hw _ (List.mem_of_getElem? (i := 0) rfl))) (mvT hZ (hw _ (List.mem_of_getElem? (i := 1) rfl))) (mvT hZ (hw _ (List.mem_of_getElem? (i := 2) rfl))) (mvT hZ (hw _ (List.mem_of_getElem? (i := 3) rfl))) (by decide) (backOf (W := 0) (rm1 l Z a0 hw [] p1 (p2 + p4) h0 n0 Z0 ) hZ (hw _ (List.mem_of_getElem? (i := 3) rfl)) (hw _ (List.mem_of_getElem? (i := 2) rfl)) (by decide) (by decide)) (g := (mkF m 28 #[.val (.int p1), .val (.int p2), .val (.int p3), .val (.int p4), .val (.int (p1 + p3)), .val (.int (p2 + p4)), .val (.int (own_hash p1 p2)), .val (.int (own_hash (p1 + p3) p2)), .unset, .unset, .unset] [(.int (p2 + p4)), (.int p1)])) rfl (by rw [hml]; rfl) (argsL := [(.int p1), (.int (p2 + p4))]) (rest := []) (lenOf pd_0 rfl) rfl (by show 2 * 0 + _ ≤ _; exact Nat.le_of_eq rfl) (hb hby at_28) (fun _ _ => ⟨rfl, e2q, (by decide : 0 + 0 ≤ _), (by decide : 0 + 0 ≤ _)⟩)
  dsimp only [Pt.U, Pt.locs, Pt.cells, Pt.slots] at X3 l3 y3 z3 st3 hQ3
  subst l3 y3 z3
  obtain ⟨rfl, N3q, e3q⟩ := hQ3
  have N3 := Fr.app N2 N3q
  obtain ⟨v1, hv_v1⟩ : ∃ zz_ : Int32, ((own_hash p1 p2) = (own_hash (p1 + p3) p2) ∧ zz_ = (1 : Int32)) ∨ (¬ ((own_hash p1 p2) = (own_hash (p1 + p3) p2)) ∧ zz_ = (0 : Int32)) := by
    by_cases hq : (own_hash p1 p2) = (own_hash (p1 + p3) p2)
    · exact ⟨_, Or.inl ⟨hq, rfl⟩⟩
    · exact ⟨_, Or.inr ⟨hq, rfl⟩⟩
  have dm4 : ∀ t, Steps p.tables e below (T3.setTop (mkF m 45 #[.val (.int p1), .val (.int p2), .val (.int p3), .val (.int p4), .val (.int (p1 + p3)), .val (.int (p2 + p4)), .val (.int (own_hash p1 p2)), .val (.int (own_hash (p1 + p3) p2)), .val (.int (own_hash p1 (p2 + p4))), .unset, .unset] [(.int v1)])) t → Steps p.tables e below (T3.setTop (mkF m 37 #[.val (.int p1), .val (.int p2), .val (.int p3), .val (.int p4), .val (.int (p1 + p3)), .val (.int (p2 + p4)), .val (.int (own_hash p1 p2)), .val (.int (own_hash (p1 + p3) p2)), .val (.int (own_hash p1 (p2 + p4))), .unset, .unset] [(.int (own_hash (p1 + p3) p2)), (.int (own_hash p1 p2))])) t := by
    intro t K
    rcases hv_v1 with ⟨hq, rfl⟩ | ⟨hq, rfl⟩
    · show Steps p.tables e below (T3.setTop (mkF m 37 #[.val (.int p1), .val (.int p2), .val (.int p3), .val (.int p4), .val (.int (p1 + p3)), .val (.int (p2 + p4)), .val (.int (own_hash p1 p2)), .val (.int (own_hash (p1 + p3) p2)), .val (.int (own_hash p1 (p2 + p4))), .unset, .unset] [(.int (own_hash (p1 + p3) p2)), (.int (own_hash p1 p2))])) _
      refine XS.icmpNo X3.here hx rfl (hb hby at_37) rfl (teq (show (own_hash p1 p2) = (own_hash (p1 + p3) p2) from hq)).2 ?_
      show Steps p.tables e below (T3.setTop (mkF m 40 #[.val (.int p1), .val (.int p2), .val (.int p3), .val (.int p4), .val (.int (p1 + p3)), .val (.int (p2 + p4)), .val (.int (own_hash p1 p2)), .val (.int (own_hash (p1 + p3) p2)), .val (.int (own_hash p1 (p2 + p4))), .unset, .unset] [])) _
      refine XS.iconst X3.here hx rfl (hb hby at_40) ?_
      show Steps p.tables e below (T3.setTop (mkF m 41 #[.val (.int p1), .val (.int p2), .val (.int p3), .val (.int p4), .val (.int (p1 + p3)), .val (.int (p2 + p4)), .val (.int (own_hash p1 p2)), .val (.int (own_hash (p1 + p3) p2)), .val (.int (own_hash p1 (p2 + p4))), .unset, .unset] [(.int (1 : Int32))])) _
      refine XS.goto X3.here hx rfl (pc0 := 41) (pc' := 45) rfl (hb hby at_41) (by decide) (by decide) ?_
      show Steps p.tables e below (T3.setTop (mkF m 45 #[.val (.int p1), .val (.int p2), .val (.int p3), .val (.int p4), .val (.int (p1 + p3)), .val (.int (p2 + p4)), .val (.int (own_hash p1 p2)), .val (.int (own_hash (p1 + p3) p2)), .val (.int (own_hash p1 (p2 + p4))), .unset, .unset] [(.int (1 : Int32))])) _
      exact K
    · show Steps p.tables e below (T3.setTop (mkF m 37 #[.val (.int p1), .val (.int p2), .val (.int p3), .val (.int p4), .val (.int (p1 + p3)), .val (.int (p2 + p4)), .val (.int (own_hash p1 p2)), .val (.int (own_hash (p1 + p3) p2)), .val (.int (own_hash p1 (p2 + p4))), .unset, .unset] [(.int (own_hash (p1 + p3) p2)), (.int (own_hash p1 p2))])) _
      refine XS.icmpYes X3.here hx rfl (pc0 := 37) (pc' := 44) rfl (hb hby at_37) rfl (feq (show ¬ ((own_hash p1 p2) = (own_hash (p1 + p3) p2)) from hq)).2 (by decide) (by decide) ?_
      show Steps p.tables e below (T3.setTop (mkF m 44 #[.val (.int p1), .val (.int p2), .val (.int p3), .val (.int p4), .val (.int (p1 + p3)), .val (.int (p2 + p4)), .val (.int (own_hash p1 p2)), .val (.int (own_hash (p1 + p3) p2)), .val (.int (own_hash p1 (p2 + p4))), .unset, .unset] [])) _
      refine XS.iconst X3.here hx rfl (hb hby at_44) ?_
      show Steps p.tables e below (T3.setTop (mkF m 45 #[.val (.int p1), .val (.int p2), .val (.int p3), .val (.int p4), .val (.int (p1 + p3)), .val (.int (p2 + p4)), .val (.int (own_hash p1 p2)), .val (.int (own_hash (p1 + p3) p2)), .val (.int (own_hash p1 (p2 + p4))), .unset, .unset] [(.int (0 : Int32))])) _
      exact K
  obtain ⟨v2, hv_v2⟩ : ∃ zz_ : Int32, (p3 = (0 : Int32) ∧ zz_ = (1 : Int32)) ∨ (¬ (p3 = (0 : Int32)) ∧ zz_ = (0 : Int32)) := by
    by_cases hq : p3 = (0 : Int32)
    · exact ⟨_, Or.inl ⟨hq, rfl⟩⟩
    · exact ⟨_, Or.inr ⟨hq, rfl⟩⟩
  have dm5 : ∀ t, Steps p.tables e below (T3.setTop (mkF m 54 #[.val (.int p1), .val (.int p2), .val (.int p3), .val (.int p4), .val (.int (p1 + p3)), .val (.int (p2 + p4)), .val (.int (own_hash p1 p2)), .val (.int (own_hash (p1 + p3) p2)), .val (.int (own_hash p1 (p2 + p4))), .unset, .unset] [(.int v2), (.int v1)])) t → Steps p.tables e below (T3.setTop (mkF m 46 #[.val (.int p1), .val (.int p2), .val (.int p3), .val (.int p4), .val (.int (p1 + p3)), .val (.int (p2 + p4)), .val (.int (own_hash p1 p2)), .val (.int (own_hash (p1 + p3) p2)), .val (.int (own_hash p1 (p2 + p4))), .unset, .unset] [(.int p3), (.int v1)])) t := by
    intro t K
    rcases hv_v2 with ⟨hq, rfl⟩ | ⟨hq, rfl⟩
    · show Steps p.tables e below (T3.setTop (mkF m 46 #[.val (.int p1), .val (.int p2), .val (.int p3), .val (.int p4), .val (.int (p1 + p3)), .val (.int (p2 + p4)), .val (.int (own_hash p1 p2)), .val (.int (own_hash (p1 + p3) p2)), .val (.int (own_hash p1 (p2 + p4))), .unset, .unset] [(.int p3), (.int v1)])) _
      refine XS.ifNo X3.here hx rfl (hb hby at_46) rfl ((if0 _ _).trans (teq (show p3 = (0 : Int32) from hq)).2) ?_
      show Steps p.tables e below (T3.setTop (mkF m 49 #[.val (.int p1), .val (.int p2), .val (.int p3), .val (.int p4), .val (.int (p1 + p3)), .val (.int (p2 + p4)), .val (.int (own_hash p1 p2)), .val (.int (own_hash (p1 + p3) p2)), .val (.int (own_hash p1 (p2 + p4))), .unset, .unset] [(.int v1)])) _
      refine XS.iconst X3.here hx rfl (hb hby at_49) ?_
      show Steps p.tables e below (T3.setTop (mkF m 50 #[.val (.int p1), .val (.int p2), .val (.int p3), .val (.int p4), .val (.int (p1 + p3)), .val (.int (p2 + p4)), .val (.int (own_hash p1 p2)), .val (.int (own_hash (p1 + p3) p2)), .val (.int (own_hash p1 (p2 + p4))), .unset, .unset] [(.int (1 : Int32)), (.int v1)])) _
      refine XS.goto X3.here hx rfl (pc0 := 50) (pc' := 54) rfl (hb hby at_50) (by decide) (by decide) ?_
      show Steps p.tables e below (T3.setTop (mkF m 54 #[.val (.int p1), .val (.int p2), .val (.int p3), .val (.int p4), .val (.int (p1 + p3)), .val (.int (p2 + p4)), .val (.int (own_hash p1 p2)), .val (.int (own_hash (p1 + p3) p2)), .val (.int (own_hash p1 (p2 + p4))), .unset, .unset] [(.int (1 : Int32)), (.int v1)])) _
      exact K
    · show Steps p.tables e below (T3.setTop (mkF m 46 #[.val (.int p1), .val (.int p2), .val (.int p3), .val (.int p4), .val (.int (p1 + p3)), .val (.int (p2 + p4)), .val (.int (own_hash p1 p2)), .val (.int (own_hash (p1 + p3) p2)), .val (.int (own_hash p1 (p2 + p4))), .unset, .unset] [(.int p3), (.int v1)])) _
      refine XS.ifYes X3.here hx rfl (pc0 := 46) (pc' := 53) rfl (hb hby at_46) rfl ((if0 _ _).trans (feq (show ¬ (p3 = (0 : Int32)) from hq)).2) (by decide) (by decide) ?_
      show Steps p.tables e below (T3.setTop (mkF m 53 #[.val (.int p1), .val (.int p2), .val (.int p3), .val (.int p4), .val (.int (p1 + p3)), .val (.int (p2 + p4)), .val (.int (own_hash p1 p2)), .val (.int (own_hash (p1 + p3) p2)), .val (.int (own_hash p1 (p2 + p4))), .unset, .unset] [(.int v1)])) _
      refine XS.iconst X3.here hx rfl (hb hby at_53) ?_
      show Steps p.tables e below (T3.setTop (mkF m 54 #[.val (.int p1), .val (.int p2), .val (.int p3), .val (.int p4), .val (.int (p1 + p3)), .val (.int (p2 + p4)), .val (.int (own_hash p1 p2)), .val (.int (own_hash (p1 + p3) p2)), .val (.int (own_hash p1 (p2 + p4))), .unset, .unset] [(.int (0 : Int32)), (.int v1)])) _
      exact K
  obtain ⟨v3, hv_v3⟩ : ∃ zz_ : Int32, ((own_hash p1 p2) = (own_hash p1 (p2 + p4)) ∧ zz_ = (1 : Int32)) ∨ (¬ ((own_hash p1 p2) = (own_hash p1 (p2 + p4))) ∧ zz_ = (0 : Int32)) := by
    by_cases hq : (own_hash p1 p2) = (own_hash p1 (p2 + p4))
    · exact ⟨_, Or.inl ⟨hq, rfl⟩⟩
    · exact ⟨_, Or.inr ⟨hq, rfl⟩⟩
  have dm6 : ∀ t, Steps p.tables e below (T3.setTop (mkF m 76 #[.val (.int p1), .val (.int p2), .val (.int p3), .val (.int p4), .val (.int (p1 + p3)), .val (.int (p2 + p4)), .val (.int (own_hash p1 p2)), .val (.int (own_hash (p1 + p3) p2)), .val (.int (own_hash p1 (p2 + p4))), .val (.int (1 : Int32)), .unset] [(.int v3)])) t → Steps p.tables e below (T3.setTop (mkF m 68 #[.val (.int p1), .val (.int p2), .val (.int p3), .val (.int p4), .val (.int (p1 + p3)), .val (.int (p2 + p4)), .val (.int (own_hash p1 p2)), .val (.int (own_hash (p1 + p3) p2)), .val (.int (own_hash p1 (p2 + p4))), .val (.int (1 : Int32)), .unset] [(.int (own_hash p1 (p2 + p4))), (.int (own_hash p1 p2))])) t := by
    intro t K
    rcases hv_v3 with ⟨hq, rfl⟩ | ⟨hq, rfl⟩
    · show Steps p.tables e below (T3.setTop (mkF m 68 #[.val (.int p1), .val (.int p2), .val (.int p3), .val (.int p4), .val (.int (p1 + p3)), .val (.int (p2 + p4)), .val (.int (own_hash p1 p2)), .val (.int (own_hash (p1 + p3) p2)), .val (.int (own_hash p1 (p2 + p4))), .val (.int (1 : Int32)), .unset] [(.int (own_hash p1 (p2 + p4))), (.int (own_hash p1 p2))])) _
      refine XS.icmpNo X3.here hx rfl (hb hby at_68) rfl (teq (show (own_hash p1 p2) = (own_hash p1 (p2 + p4)) from hq)).2 ?_
      show Steps p.tables e below (T3.setTop (mkF m 71 #[.val (.int p1), .val (.int p2), .val (.int p3), .val (.int p4), .val (.int (p1 + p3)), .val (.int (p2 + p4)), .val (.int (own_hash p1 p2)), .val (.int (own_hash (p1 + p3) p2)), .val (.int (own_hash p1 (p2 + p4))), .val (.int (1 : Int32)), .unset] [])) _
      refine XS.iconst X3.here hx rfl (hb hby at_71) ?_
      show Steps p.tables e below (T3.setTop (mkF m 72 #[.val (.int p1), .val (.int p2), .val (.int p3), .val (.int p4), .val (.int (p1 + p3)), .val (.int (p2 + p4)), .val (.int (own_hash p1 p2)), .val (.int (own_hash (p1 + p3) p2)), .val (.int (own_hash p1 (p2 + p4))), .val (.int (1 : Int32)), .unset] [(.int (1 : Int32))])) _
      refine XS.goto X3.here hx rfl (pc0 := 72) (pc' := 76) rfl (hb hby at_72) (by decide) (by decide) ?_
      show Steps p.tables e below (T3.setTop (mkF m 76 #[.val (.int p1), .val (.int p2), .val (.int p3), .val (.int p4), .val (.int (p1 + p3)), .val (.int (p2 + p4)), .val (.int (own_hash p1 p2)), .val (.int (own_hash (p1 + p3) p2)), .val (.int (own_hash p1 (p2 + p4))), .val (.int (1 : Int32)), .unset] [(.int (1 : Int32))])) _
      exact K
    · show Steps p.tables e below (T3.setTop (mkF m 68 #[.val (.int p1), .val (.int p2), .val (.int p3), .val (.int p4), .val (.int (p1 + p3)), .val (.int (p2 + p4)), .val (.int (own_hash p1 p2)), .val (.int (own_hash (p1 + p3) p2)), .val (.int (own_hash p1 (p2 + p4))), .val (.int (1 : Int32)), .unset] [(.int (own_hash p1 (p2 + p4))), (.int (own_hash p1 p2))])) _
      refine XS.icmpYes X3.here hx rfl (pc0 := 68) (pc' := 75) rfl (hb hby at_68) rfl (feq (show ¬ ((own_hash p1 p2) = (own_hash p1 (p2 + p4))) from hq)).2 (by decide) (by decide) ?_
      show Steps p.tables e below (T3.setTop (mkF m 75 #[.val (.int p1), .val (.int p2), .val (.int p3), .val (.int p4), .val (.int (p1 + p3)), .val (.int (p2 + p4)), .val (.int (own_hash p1 p2)), .val (.int (own_hash (p1 + p3) p2)), .val (.int (own_hash p1 (p2 + p4))), .val (.int (1 : Int32)), .unset] [])) _
      refine XS.iconst X3.here hx rfl (hb hby at_75) ?_
      show Steps p.tables e below (T3.setTop (mkF m 76 #[.val (.int p1), .val (.int p2), .val (.int p3), .val (.int p4), .val (.int (p1 + p3)), .val (.int (p2 + p4)), .val (.int (own_hash p1 p2)), .val (.int (own_hash (p1 + p3) p2)), .val (.int (own_hash p1 (p2 + p4))), .val (.int (1 : Int32)), .unset] [(.int (0 : Int32))])) _
      exact K
  obtain ⟨v4, hv_v4⟩ : ∃ zz_ : Int32, (p4 = (0 : Int32) ∧ zz_ = (1 : Int32)) ∨ (¬ (p4 = (0 : Int32)) ∧ zz_ = (0 : Int32)) := by
    by_cases hq : p4 = (0 : Int32)
    · exact ⟨_, Or.inl ⟨hq, rfl⟩⟩
    · exact ⟨_, Or.inr ⟨hq, rfl⟩⟩
  have dm7 : ∀ t, Steps p.tables e below (T3.setTop (mkF m 85 #[.val (.int p1), .val (.int p2), .val (.int p3), .val (.int p4), .val (.int (p1 + p3)), .val (.int (p2 + p4)), .val (.int (own_hash p1 p2)), .val (.int (own_hash (p1 + p3) p2)), .val (.int (own_hash p1 (p2 + p4))), .val (.int (1 : Int32)), .unset] [(.int v4), (.int v3)])) t → Steps p.tables e below (T3.setTop (mkF m 77 #[.val (.int p1), .val (.int p2), .val (.int p3), .val (.int p4), .val (.int (p1 + p3)), .val (.int (p2 + p4)), .val (.int (own_hash p1 p2)), .val (.int (own_hash (p1 + p3) p2)), .val (.int (own_hash p1 (p2 + p4))), .val (.int (1 : Int32)), .unset] [(.int p4), (.int v3)])) t := by
    intro t K
    rcases hv_v4 with ⟨hq, rfl⟩ | ⟨hq, rfl⟩
    · show Steps p.tables e below (T3.setTop (mkF m 77 #[.val (.int p1), .val (.int p2), .val (.int p3), .val (.int p4), .val (.int (p1 + p3)), .val (.int (p2 + p4)), .val (.int (own_hash p1 p2)), .val (.int (own_hash (p1 + p3) p2)), .val (.int (own_hash p1 (p2 + p4))), .val (.int (1 : Int32)), .unset] [(.int p4), (.int v3)])) _
      refine XS.ifNo X3.here hx rfl (hb hby at_77) rfl ((if0 _ _).trans (teq (show p4 = (0 : Int32) from hq)).2) ?_
      show Steps p.tables e below (T3.setTop (mkF m 80 #[.val (.int p1), .val (.int p2), .val (.int p3), .val (.int p4), .val (.int (p1 + p3)), .val (.int (p2 + p4)), .val (.int (own_hash p1 p2)), .val (.int (own_hash (p1 + p3) p2)), .val (.int (own_hash p1 (p2 + p4))), .val (.int (1 : Int32)), .unset] [(.int v3)])) _
      refine XS.iconst X3.here hx rfl (hb hby at_80) ?_
      show Steps p.tables e below (T3.setTop (mkF m 81 #[.val (.int p1), .val (.int p2), .val (.int p3), .val (.int p4), .val (.int (p1 + p3)), .val (.int (p2 + p4)), .val (.int (own_hash p1 p2)), .val (.int (own_hash (p1 + p3) p2)), .val (.int (own_hash p1 (p2 + p4))), .val (.int (1 : Int32)), .unset] [(.int (1 : Int32)), (.int v3)])) _
      refine XS.goto X3.here hx rfl (pc0 := 81) (pc' := 85) rfl (hb hby at_81) (by decide) (by decide) ?_
      show Steps p.tables e below (T3.setTop (mkF m 85 #[.val (.int p1), .val (.int p2), .val (.int p3), .val (.int p4), .val (.int (p1 + p3)), .val (.int (p2 + p4)), .val (.int (own_hash p1 p2)), .val (.int (own_hash (p1 + p3) p2)), .val (.int (own_hash p1 (p2 + p4))), .val (.int (1 : Int32)), .unset] [(.int (1 : Int32)), (.int v3)])) _
      exact K
    · show Steps p.tables e below (T3.setTop (mkF m 77 #[.val (.int p1), .val (.int p2), .val (.int p3), .val (.int p4), .val (.int (p1 + p3)), .val (.int (p2 + p4)), .val (.int (own_hash p1 p2)), .val (.int (own_hash (p1 + p3) p2)), .val (.int (own_hash p1 (p2 + p4))), .val (.int (1 : Int32)), .unset] [(.int p4), (.int v3)])) _
      refine XS.ifYes X3.here hx rfl (pc0 := 77) (pc' := 84) rfl (hb hby at_77) rfl ((if0 _ _).trans (feq (show ¬ (p4 = (0 : Int32)) from hq)).2) (by decide) (by decide) ?_
      show Steps p.tables e below (T3.setTop (mkF m 84 #[.val (.int p1), .val (.int p2), .val (.int p3), .val (.int p4), .val (.int (p1 + p3)), .val (.int (p2 + p4)), .val (.int (own_hash p1 p2)), .val (.int (own_hash (p1 + p3) p2)), .val (.int (own_hash p1 (p2 + p4))), .val (.int (1 : Int32)), .unset] [(.int v3)])) _
      refine XS.iconst X3.here hx rfl (hb hby at_84) ?_
      show Steps p.tables e below (T3.setTop (mkF m 85 #[.val (.int p1), .val (.int p2), .val (.int p3), .val (.int p4), .val (.int (p1 + p3)), .val (.int (p2 + p4)), .val (.int (own_hash p1 p2)), .val (.int (own_hash (p1 + p3) p2)), .val (.int (own_hash p1 (p2 + p4))), .val (.int (1 : Int32)), .unset] [(.int (0 : Int32)), (.int v3)])) _
      exact K
  obtain ⟨fs, hr, hrun, hended, hW, hsame⟩ := X3.leave (v := some (.int (1 : Int32))) (fun h => by rw [Bd.returns] at h; cases h)
  refine ⟨_, _, pre0 _ ?_, hrun, hended, _, _, rfl, ?_, ⟨_, rfl⟩, hW, hsame.mono (by decide) (by decide)⟩
  · show Steps p.tables e below (s₁.setTop (mkF m 0 #[.val (.int p1), .val (.int p2), .val (.int p3), .val (.int p4), .unset, .unset, .unset, .unset, .unset, .unset, .unset] [])) _
    refine XS.iloadN X0.here hx rfl (hb hby at_0) rfl ?_
    show Steps p.tables e below (s₁.setTop (mkF m 1 #[.val (.int p1), .val (.int p2), .val (.int p3), .val (.int p4), .unset, .unset, .unset, .unset, .unset, .unset, .unset] [(.int p1)])) _
    refine XS.iloadN X0.here hx rfl (hb hby at_1) rfl ?_
    show Steps p.tables e below (s₁.setTop (mkF m 2 #[.val (.int p1), .val (.int p2), .val (.int p3), .val (.int p4), .unset, .unset, .unset, .unset, .unset, .unset, .unset] [(.int p3), (.int p1)])) _
    refine XS.iadd X0.here hx rfl (hb hby at_2) rfl ?_
    show Steps p.tables e below (s₁.setTop (mkF m 3 #[.val (.int p1), .val (.int p2), .val (.int p3), .val (.int p4), .unset, .unset, .unset, .unset, .unset, .unset, .unset] [(.int (p1 + p3))])) _
    refine XS.istore X0.here hx rfl (hb hby at_3) rfl (l' := #[.val (.int p1), .val (.int p2), .val (.int p3), .val (.int p4), .val (.int (p1 + p3)), .unset, .unset, .unset, .unset, .unset, .unset]) rfl ?_
    show Steps p.tables e below (s₁.setTop (mkF m 5 #[.val (.int p1), .val (.int p2), .val (.int p3), .val (.int p4), .val (.int (p1 + p3)), .unset, .unset, .unset, .unset, .unset, .unset] [])) _
    refine XS.iloadN X0.here hx rfl (hb hby at_5) rfl ?_
    show Steps p.tables e below (s₁.setTop (mkF m 6 #[.val (.int p1), .val (.int p2), .val (.int p3), .val (.int p4), .val (.int (p1 + p3)), .unset, .unset, .unset, .unset, .unset, .unset] [(.int p2)])) _
    refine XS.iloadN X0.here hx rfl (hb hby at_6) rfl ?_
    show Steps p.tables e below (s₁.setTop (mkF m 7 #[.val (.int p1), .val (.int p2), .val (.int p3), .val (.int p4), .val (.int (p1 + p3)), .unset, .unset, .unset, .unset, .unset, .unset] [(.int p4), (.int p2)])) _
    refine XS.iadd X0.here hx rfl (hb hby at_7) rfl ?_
    show Steps p.tables e below (s₁.setTop (mkF m 8 #[.val (.int p1), .val (.int p2), .val (.int p3), .val (.int p4), .val (.int (p1 + p3)), .unset, .unset, .unset, .unset, .unset, .unset] [(.int (p2 + p4))])) _
    refine XS.istore X0.here hx rfl (hb hby at_8) rfl (l' := #[.val (.int p1), .val (.int p2), .val (.int p3), .val (.int p4), .val (.int (p1 + p3)), .val (.int (p2 + p4)), .unset, .unset, .unset, .unset, .unset]) rfl ?_
    show Steps p.tables e below (s₁.setTop (mkF m 10 #[.val (.int p1), .val (.int p2), .val (.int p3), .val (.int p4), .val (.int (p1 + p3)), .val (.int (p2 + p4)), .unset, .unset, .unset, .unset, .unset] [])) _
    refine XS.iloadN X0.here hx rfl (hb hby at_10) rfl ?_
    show Steps p.tables e below (s₁.setTop (mkF m 11 #[.val (.int p1), .val (.int p2), .val (.int p3), .val (.int p4), .val (.int (p1 + p3)), .val (.int (p2 + p4)), .unset, .unset, .unset, .unset, .unset] [(.int p1)])) _
    refine XS.iloadN X0.here hx rfl (hb hby at_11) rfl ?_
    show Steps p.tables e below (s₁.setTop (mkF m 12 #[.val (.int p1), .val (.int p2), .val (.int p3), .val (.int p4), .val (.int (p1 + p3)), .val (.int (p2 + p4)), .unset, .unset, .unset, .unset, .unset] [(.int p2), (.int p1)])) _
    refine st1 _ ?_
    show Steps p.tables e below (T1.setTop (mkF m 15 #[.val (.int p1), .val (.int p2), .val (.int p3), .val (.int p4), .val (.int (p1 + p3)), .val (.int (p2 + p4)), .unset, .unset, .unset, .unset, .unset] [(.int (own_hash p1 p2))])) _
    refine XS.istore X1.here hx rfl (hb hby at_15) rfl (l' := #[.val (.int p1), .val (.int p2), .val (.int p3), .val (.int p4), .val (.int (p1 + p3)), .val (.int (p2 + p4)), .val (.int (own_hash p1 p2)), .unset, .unset, .unset, .unset]) rfl ?_
    show Steps p.tables e below (T1.setTop (mkF m 17 #[.val (.int p1), .val (.int p2), .val (.int p3), .val (.int p4), .val (.int (p1 + p3)), .val (.int (p2 + p4)), .val (.int (own_hash p1 p2)), .unset, .unset, .unset, .unset] [])) _
    refine XS.iload X1.here hx rfl (hb hby at_17) rfl ?_
    show Steps p.tables e below (T1.setTop (mkF m 19 #[.val (.int p1), .val (.int p2), .val (.int p3), .val (.int p4), .val (.int (p1 + p3)), .val (.int (p2 + p4)), .val (.int (own_hash p1 p2)), .unset, .unset, .unset, .unset] [(.int (p1 + p3))])) _
    refine XS.iloadN X1.here hx rfl (hb hby at_19) rfl ?_
    show Steps p.tables e below (T1.setTop (mkF m 20 #[.val (.int p1), .val (.int p2), .val (.int p3), .val (.int p4), .val (.int (p1 + p3)), .val (.int (p2 + p4)), .val (.int (own_hash p1 p2)), .unset, .unset, .unset, .unset] [(.int p2), (.int (p1 + p3))])) _
    refine st2 _ ?_
    show Steps p.tables e below (T2.setTop (mkF m 23 #[.val (.int p1), .val (.int p2), .val (.int p3), .val (.int p4), .val (.int (p1 + p3)), .val (.int (p2 + p4)), .val (.int (own_hash p1 p2)), .unset, .unset, .unset, .unset] [(.int (own_hash (p1 + p3) p2))])) _
    refine XS.istore X2.here hx rfl (hb hby at_23) rfl (l' := #[.val (.int p1), .val (.int p2), .val (.int p3), .val (.int p4), .val (.int (p1 + p3)), .val (.int (p2 + p4)), .val (.int (own_hash p1 p2)), .val (.int (own_hash (p1 + p3) p2)), .unset, .unset, .unset]) rfl ?_
    show Steps p.tables e below (T2.setTop (mkF m 25 #[.val (.int p1), .val (.int p2), .val (.int p3), .val (.int p4), .val (.int (p1 + p3)), .val (.int (p2 + p4)), .val (.int (own_hash p1 p2)), .val (.int (own_hash (p1 + p3) p2)), .unset, .unset, .unset] [])) _
    refine XS.iloadN X2.here hx rfl (hb hby at_25) rfl ?_
    show Steps p.tables e below (T2.setTop (mkF m 26 #[.val (.int p1), .val (.int p2), .val (.int p3), .val (.int p4), .val (.int (p1 + p3)), .val (.int (p2 + p4)), .val (.int (own_hash p1 p2)), .val (.int (own_hash (p1 + p3) p2)), .unset, .unset, .unset] [(.int p1)])) _
    refine XS.iload X2.here hx rfl (hb hby at_26) rfl ?_
    show Steps p.tables e below (T2.setTop (mkF m 28 #[.val (.int p1), .val (.int p2), .val (.int p3), .val (.int p4), .val (.int (p1 + p3)), .val (.int (p2 + p4)), .val (.int (own_hash p1 p2)), .val (.int (own_hash (p1 + p3) p2)), .unset, .unset, .unset] [(.int (p2 + p4)), (.int p1)])) _
    refine st3 _ ?_
    show Steps p.tables e below (T3.setTop (mkF m 31 #[.val (.int p1), .val (.int p2), .val (.int p3), .val (.int p4), .val (.int (p1 + p3)), .val (.int (p2 + p4)), .val (.int (own_hash p1 p2)), .val (.int (own_hash (p1 + p3) p2)), .unset, .unset, .unset] [(.int (own_hash p1 (p2 + p4)))])) _
    refine XS.istore X3.here hx rfl (hb hby at_31) rfl (l' := #[.val (.int p1), .val (.int p2), .val (.int p3), .val (.int p4), .val (.int (p1 + p3)), .val (.int (p2 + p4)), .val (.int (own_hash p1 p2)), .val (.int (own_hash (p1 + p3) p2)), .val (.int (own_hash p1 (p2 + p4))), .unset, .unset]) rfl ?_
    show Steps p.tables e below (T3.setTop (mkF m 33 #[.val (.int p1), .val (.int p2), .val (.int p3), .val (.int p4), .val (.int (p1 + p3)), .val (.int (p2 + p4)), .val (.int (own_hash p1 p2)), .val (.int (own_hash (p1 + p3) p2)), .val (.int (own_hash p1 (p2 + p4))), .unset, .unset] [])) _
    refine XS.iload X3.here hx rfl (hb hby at_33) rfl ?_
    show Steps p.tables e below (T3.setTop (mkF m 35 #[.val (.int p1), .val (.int p2), .val (.int p3), .val (.int p4), .val (.int (p1 + p3)), .val (.int (p2 + p4)), .val (.int (own_hash p1 p2)), .val (.int (own_hash (p1 + p3) p2)), .val (.int (own_hash p1 (p2 + p4))), .unset, .unset] [(.int (own_hash p1 p2))])) _
    refine XS.iload X3.here hx rfl (hb hby at_35) rfl ?_
    show Steps p.tables e below (T3.setTop (mkF m 37 #[.val (.int p1), .val (.int p2), .val (.int p3), .val (.int p4), .val (.int (p1 + p3)), .val (.int (p2 + p4)), .val (.int (own_hash p1 p2)), .val (.int (own_hash (p1 + p3) p2)), .val (.int (own_hash p1 (p2 + p4))), .unset, .unset] [(.int (own_hash (p1 + p3) p2)), (.int (own_hash p1 p2))])) _
    refine dm4 _ ?_
    show Steps p.tables e below (T3.setTop (mkF m 45 #[.val (.int p1), .val (.int p2), .val (.int p3), .val (.int p4), .val (.int (p1 + p3)), .val (.int (p2 + p4)), .val (.int (own_hash p1 p2)), .val (.int (own_hash (p1 + p3) p2)), .val (.int (own_hash p1 (p2 + p4))), .unset, .unset] [(.int v1)])) _
    refine XS.iloadN X3.here hx rfl (hb hby at_45) rfl ?_
    show Steps p.tables e below (T3.setTop (mkF m 46 #[.val (.int p1), .val (.int p2), .val (.int p3), .val (.int p4), .val (.int (p1 + p3)), .val (.int (p2 + p4)), .val (.int (own_hash p1 p2)), .val (.int (own_hash (p1 + p3) p2)), .val (.int (own_hash p1 (p2 + p4))), .unset, .unset] [(.int p3), (.int v1)])) _
    refine dm5 _ ?_
    show Steps p.tables e below (T3.setTop (mkF m 54 #[.val (.int p1), .val (.int p2), .val (.int p3), .val (.int p4), .val (.int (p1 + p3)), .val (.int (p2 + p4)), .val (.int (own_hash p1 p2)), .val (.int (own_hash (p1 + p3) p2)), .val (.int (own_hash p1 (p2 + p4))), .unset, .unset] [(.int v2), (.int v1)])) _
    refine XS.icmpNo X3.here hx rfl (hb hby at_54) rfl (teq (show v1 = v2 from (own_same (own_a p1 p2 p3) hv_v1 hv_v2))).2 ?_
    show Steps p.tables e below (T3.setTop (mkF m 57 #[.val (.int p1), .val (.int p2), .val (.int p3), .val (.int p4), .val (.int (p1 + p3)), .val (.int (p2 + p4)), .val (.int (own_hash p1 p2)), .val (.int (own_hash (p1 + p3) p2)), .val (.int (own_hash p1 (p2 + p4))), .unset, .unset] [])) _
    refine XS.iconst X3.here hx rfl (hb hby at_57) ?_
    show Steps p.tables e below (T3.setTop (mkF m 58 #[.val (.int p1), .val (.int p2), .val (.int p3), .val (.int p4), .val (.int (p1 + p3)), .val (.int (p2 + p4)), .val (.int (own_hash p1 p2)), .val (.int (own_hash (p1 + p3) p2)), .val (.int (own_hash p1 (p2 + p4))), .unset, .unset] [(.int (1 : Int32))])) _
    refine XS.goto X3.here hx rfl (pc0 := 58) (pc' := 62) rfl (hb hby at_58) (by decide) (by decide) ?_
    show Steps p.tables e below (T3.setTop (mkF m 62 #[.val (.int p1), .val (.int p2), .val (.int p3), .val (.int p4), .val (.int (p1 + p3)), .val (.int (p2 + p4)), .val (.int (own_hash p1 p2)), .val (.int (own_hash (p1 + p3) p2)), .val (.int (own_hash p1 (p2 + p4))), .unset, .unset] [(.int (1 : Int32))])) _
    refine XS.istore X3.here hx rfl (hb hby at_62) rfl (l' := #[.val (.int p1), .val (.int p2), .val (.int p3), .val (.int p4), .val (.int (p1 + p3)), .val (.int (p2 + p4)), .val (.int (own_hash p1 p2)), .val (.int (own_hash (p1 + p3) p2)), .val (.int (own_hash p1 (p2 + p4))), .val (.int (1 : Int32)), .unset]) rfl ?_
    show Steps p.tables e below (T3.setTop (mkF m 64 #[.val (.int p1), .val (.int p2), .val (.int p3), .val (.int p4), .val (.int (p1 + p3)), .val (.int (p2 + p4)), .val (.int (own_hash p1 p2)), .val (.int (own_hash (p1 + p3) p2)), .val (.int (own_hash p1 (p2 + p4))), .val (.int (1 : Int32)), .unset] [])) _
    refine XS.iload X3.here hx rfl (hb hby at_64) rfl ?_
    show Steps p.tables e below (T3.setTop (mkF m 66 #[.val (.int p1), .val (.int p2), .val (.int p3), .val (.int p4), .val (.int (p1 + p3)), .val (.int (p2 + p4)), .val (.int (own_hash p1 p2)), .val (.int (own_hash (p1 + p3) p2)), .val (.int (own_hash p1 (p2 + p4))), .val (.int (1 : Int32)), .unset] [(.int (own_hash p1 p2))])) _
    refine XS.iload X3.here hx rfl (hb hby at_66) rfl ?_
    show Steps p.tables e below (T3.setTop (mkF m 68 #[.val (.int p1), .val (.int p2), .val (.int p3), .val (.int p4), .val (.int (p1 + p3)), .val (.int (p2 + p4)), .val (.int (own_hash p1 p2)), .val (.int (own_hash (p1 + p3) p2)), .val (.int (own_hash p1 (p2 + p4))), .val (.int (1 : Int32)), .unset] [(.int (own_hash p1 (p2 + p4))), (.int (own_hash p1 p2))])) _
    refine dm6 _ ?_
    show Steps p.tables e below (T3.setTop (mkF m 76 #[.val (.int p1), .val (.int p2), .val (.int p3), .val (.int p4), .val (.int (p1 + p3)), .val (.int (p2 + p4)), .val (.int (own_hash p1 p2)), .val (.int (own_hash (p1 + p3) p2)), .val (.int (own_hash p1 (p2 + p4))), .val (.int (1 : Int32)), .unset] [(.int v3)])) _
    refine XS.iloadN X3.here hx rfl (hb hby at_76) rfl ?_
    show Steps p.tables e below (T3.setTop (mkF m 77 #[.val (.int p1), .val (.int p2), .val (.int p3), .val (.int p4), .val (.int (p1 + p3)), .val (.int (p2 + p4)), .val (.int (own_hash p1 p2)), .val (.int (own_hash (p1 + p3) p2)), .val (.int (own_hash p1 (p2 + p4))), .val (.int (1 : Int32)), .unset] [(.int p4), (.int v3)])) _
    refine dm7 _ ?_
    show Steps p.tables e below (T3.setTop (mkF m 85 #[.val (.int p1), .val (.int p2), .val (.int p3), .val (.int p4), .val (.int (p1 + p3)), .val (.int (p2 + p4)), .val (.int (own_hash p1 p2)), .val (.int (own_hash (p1 + p3) p2)), .val (.int (own_hash p1 (p2 + p4))), .val (.int (1 : Int32)), .unset] [(.int v4), (.int v3)])) _
    refine XS.icmpNo X3.here hx rfl (hb hby at_85) rfl (teq (show v3 = v4 from (own_same (own_b p1 p2 p4) hv_v3 hv_v4))).2 ?_
    show Steps p.tables e below (T3.setTop (mkF m 88 #[.val (.int p1), .val (.int p2), .val (.int p3), .val (.int p4), .val (.int (p1 + p3)), .val (.int (p2 + p4)), .val (.int (own_hash p1 p2)), .val (.int (own_hash (p1 + p3) p2)), .val (.int (own_hash p1 (p2 + p4))), .val (.int (1 : Int32)), .unset] [])) _
    refine XS.iconst X3.here hx rfl (hb hby at_88) ?_
    show Steps p.tables e below (T3.setTop (mkF m 89 #[.val (.int p1), .val (.int p2), .val (.int p3), .val (.int p4), .val (.int (p1 + p3)), .val (.int (p2 + p4)), .val (.int (own_hash p1 p2)), .val (.int (own_hash (p1 + p3) p2)), .val (.int (own_hash p1 (p2 + p4))), .val (.int (1 : Int32)), .unset] [(.int (1 : Int32))])) _
    refine XS.goto X3.here hx rfl (pc0 := 89) (pc' := 93) rfl (hb hby at_89) (by decide) (by decide) ?_
    show Steps p.tables e below (T3.setTop (mkF m 93 #[.val (.int p1), .val (.int p2), .val (.int p3), .val (.int p4), .val (.int (p1 + p3)), .val (.int (p2 + p4)), .val (.int (own_hash p1 p2)), .val (.int (own_hash (p1 + p3) p2)), .val (.int (own_hash p1 (p2 + p4))), .val (.int (1 : Int32)), .unset] [(.int (1 : Int32))])) _
    refine XS.istore X3.here hx rfl (hb hby at_93) rfl (l' := #[.val (.int p1), .val (.int p2), .val (.int p3), .val (.int p4), .val (.int (p1 + p3)), .val (.int (p2 + p4)), .val (.int (own_hash p1 p2)), .val (.int (own_hash (p1 + p3) p2)), .val (.int (own_hash p1 (p2 + p4))), .val (.int (1 : Int32)), .val (.int (1 : Int32))]) rfl ?_
    show Steps p.tables e below (T3.setTop (mkF m 95 #[.val (.int p1), .val (.int p2), .val (.int p3), .val (.int p4), .val (.int (p1 + p3)), .val (.int (p2 + p4)), .val (.int (own_hash p1 p2)), .val (.int (own_hash (p1 + p3) p2)), .val (.int (own_hash p1 (p2 + p4))), .val (.int (1 : Int32)), .val (.int (1 : Int32))] [])) _
    refine XS.iload X3.here hx rfl (hb hby at_95) rfl ?_
    show Steps p.tables e below (T3.setTop (mkF m 97 #[.val (.int p1), .val (.int p2), .val (.int p3), .val (.int p4), .val (.int (p1 + p3)), .val (.int (p2 + p4)), .val (.int (own_hash p1 p2)), .val (.int (own_hash (p1 + p3) p2)), .val (.int (own_hash p1 (p2 + p4))), .val (.int (1 : Int32)), .val (.int (1 : Int32))] [(.int (1 : Int32))])) _
    refine XS.ifNo X3.here hx rfl (hb hby at_97) rfl ((if0 _ _).trans (feq (show ¬ ((1 : Int32) = (0 : Int32)) from (by decide))).1) ?_
    show Steps p.tables e below (T3.setTop (mkF m 100 #[.val (.int p1), .val (.int p2), .val (.int p3), .val (.int p4), .val (.int (p1 + p3)), .val (.int (p2 + p4)), .val (.int (own_hash p1 p2)), .val (.int (own_hash (p1 + p3) p2)), .val (.int (own_hash p1 (p2 + p4))), .val (.int (1 : Int32)), .val (.int (1 : Int32))] [])) _
    refine XS.iload X3.here hx rfl (hb hby at_100) rfl ?_
    show Steps p.tables e below (T3.setTop (mkF m 102 #[.val (.int p1), .val (.int p2), .val (.int p3), .val (.int p4), .val (.int (p1 + p3)), .val (.int (p2 + p4)), .val (.int (own_hash p1 p2)), .val (.int (own_hash (p1 + p3) p2)), .val (.int (own_hash p1 (p2 + p4))), .val (.int (1 : Int32)), .val (.int (1 : Int32))] [(.int (1 : Int32))])) _
    refine XS.ifNo X3.here hx rfl (hb hby at_102) rfl ((if0 _ _).trans (feq (show ¬ ((1 : Int32) = (0 : Int32)) from (by decide))).1) ?_
    show Steps p.tables e below (T3.setTop (mkF m 105 #[.val (.int p1), .val (.int p2), .val (.int p3), .val (.int p4), .val (.int (p1 + p3)), .val (.int (p2 + p4)), .val (.int (own_hash p1 p2)), .val (.int (own_hash (p1 + p3) p2)), .val (.int (own_hash p1 (p2 + p4))), .val (.int (1 : Int32)), .val (.int (1 : Int32))] [])) _
    refine XS.iconst X3.here hx rfl (hb hby at_105) ?_
    show Steps p.tables e below (T3.setTop (mkF m 106 #[.val (.int p1), .val (.int p2), .val (.int p3), .val (.int p4), .val (.int (p1 + p3)), .val (.int (p2 + p4)), .val (.int (own_hash p1 p2)), .val (.int (own_hash (p1 + p3) p2)), .val (.int (own_hash p1 (p2 + p4))), .val (.int (1 : Int32)), .val (.int (1 : Int32))] [(.int (1 : Int32))])) _
    refine XS.goto X3.here hx rfl (pc0 := 106) (pc' := 110) rfl (hb hby at_106) (by decide) (by decide) ?_
    show Steps p.tables e below (T3.setTop (mkF m 110 #[.val (.int p1), .val (.int p2), .val (.int p3), .val (.int p4), .val (.int (p1 + p3)), .val (.int (p2 + p4)), .val (.int (own_hash p1 p2)), .val (.int (own_hash (p1 + p3) p2)), .val (.int (own_hash p1 (p2 + p4))), .val (.int (1 : Int32)), .val (.int (1 : Int32))] [(.int (1 : Int32))])) _
    exact retN X3 hx (t := .boolean) Bd.returns (by simp) (hb hby at_110) hr
  · show Qrm0 Z p1 p2 p3 p4 h0 n0 _ T3.heap _
    rw [e3q]
    exact ⟨rfl, N3⟩
set_option maxRecDepth 65536 in
set_option maxHeartbeats 40000000 in
theorem comes_1 {Post : Tables → Env → Array Value → State → Outcome → State → Prop} (hpost : ∀ tb e args s v u, (limb_1_1.after args s (.returned v) u = true ∧ limb_1_2.after args s (.returned v) u = true ∧ True) → FrameEnd s (.returned v) u (Jvm.fieldLocs frame_1_writes args s ++ Jvm.arrayLocs frame_1_arrays args s ++ Jvm.staticLocs frame_1_statics s) 0 0 → Post tb e args s (.returned v) u) :
    ArmFor flags0 classFile x code maxLocals ret World_1 tables_1 room_1 Calls_1 rest_1 Pre_1 Post := by
  intro l hfl _ _ p e ha hc hk s m args below hf hA hF happ hP
  obtain ⟨hcalls, hrest, hpre⟩ := hP
  obtain ⟨-, -, -, hnamed, -, -, -, hat⟩ := (Spec.applies_iff hf).mp happ
  obtain ⟨hg, hn⟩ := and_e (Cond.before_iff.mp (show (Jvm.Cond.and given_1 narrow_1).before args s = true from hpre))
  obtain ⟨gv1, gv2⟩ := and_e hg
  obtain ⟨gv3, gv4⟩ := and_e gv2
  obtain ⟨gv5, gv6⟩ := and_e gv4
  obtain ⟨gv7, gv8⟩ := and_e gv6
  obtain ⟨w0, w1, w2, w3, rfl⟩ : ∃ w0 w1 w2 w3 : Value, args = #[w0, w1, w2, w3] := by
    have hs : args.size = 4 := by simpa [Cond.value, given_1] using gv1
    obtain ⟨L⟩ := args
    match L, hs with
    | [w0, w1, w2, w3], _ => exact ⟨w0, w1, w2, w3, rfl⟩
  have hw := fun d (hd : d ∈ tables_1) => atoms_spec (ws := Jvm.Cond.code x code maxLocals ret :: tables_1) hat d (List.mem_cons_of_mem _ hd)
  have hfit : Fit s := fun {y c} hc i hi => by
    obtain ⟨ha, rfl⟩ := Array.getElem?_eq_some_iff.mp hc
    have q := List.all_eq_true.mp ((Array.all_eq_true_iff_forall_mem.mp hF) _ (Array.getElem_mem ha)) i (List.mem_range.mpr hi)
    simpa [Array.getElem?_eq_getElem hi] using q
  obtain ⟨i0, ei0⟩ := is_v gv3
  obtain rfl : w0 = (.int i0) := Option.some.inj ei0
  obtain ⟨i1, ei1⟩ := is_v gv5
  obtain rfl : w1 = (.int i1) := Option.some.inj ei1
  obtain ⟨i2, ei2⟩ := is_v gv7
  obtain rfl : w2 = (.int i2) := Option.some.inj ei2
  obtain ⟨i3, ei3⟩ := is_v gv8
  obtain rfl : w3 = (.int i3) := Option.some.inj ei3
  obtain ⟨n, o, h1, h2, h3, _, L, rfl, ⟨rfl, N⟩, hq⟩ := rm0 l s _ hw tables_1 i0 i1 i2 i3  s.heap s.heap.size (Nat.le_refl _)  p e ha hc hk s m _ below hf ((Spec.applies_iff_loose hf).mp happ).1 ⟨rfl, State.Warmed39.refl s, rfl⟩ trivial
  refine ⟨n, _, h1, h2, h3, hpost _ _ _ _ _ _ ⟨Cond.after_iff.mpr rfl, Cond.after_iff.mpr (eq_i res_at (Term.int_eval (1)) rfl), trivial⟩ ⟨hq.1, hq.2.1, (hq.2.2.sift fun y hy => Or.inr (N y hy)).mono (by decide) (by decide)⟩⟩
theorem main_1_1 : Claimed_1_1 := comes_1 fun _ _ _ _ _ _ h hF => ⟨h.1, hF⟩
theorem main_1_2 : Claimed_1_2 := comes_1 fun _ _ _ _ _ _ h hF => ⟨h.2.1, hF⟩
end Jvm.Pilot.@@N@@
namespace Jvm.Pilot.@@N@@
open Jvm Jvm.ClassFile Sem Op Lib Jvm.Free Jvm.Stand Jvm.Pilot.@@N@@.Jvm.D
/-! MADE BY PROGRAM (witnessworld.py) out of the Statement's table words and the real class files: 9 classes; the members and pool entries that the words name. The judged class is class 1, her method 1. -/
namespace start1
open Jvm.ClassFile
def u (s : String) : CpInfo := .utf8 (stringToUtf16 s)
/-- a pool by its gaps: so many unusable entries, then the entry; so many at the end -/
def gap : Nat → List CpInfo → List CpInfo
  | 0, r => r
  | n + 1, r => .unusable :: gap n r
def poolList (es : List (Nat × CpInfo)) (last : Nat) : List CpInfo := es.foldr (fun e r => gap e.1 (e.2 :: r)) (gap last [])
def pool (es : List (Nat × CpInfo)) (last : Nat) : Array CpInfo := ⟨poolList es last⟩
def fileOf (pool : Array CpInfo) (this : Nat) (attrs : Array Attribute := #[]) (ms : Array MethodInfo := #[]) (fl : Nat := 33) (sup : Nat := 0) (ifs : Array Nat := #[]) (fds : Array FieldInfo := #[]) : ClassFile where
  minorVersion := 0
  majorVersion := 65
  constantPool := pool
  accessFlags := fl
  thisClass := this
  superClass := sup
  interfaces := ifs
  fields := fds
  methods := ms
  attributes := attrs
def plain (name : String) (sup : Option ClassId) : Class where
  name := name
  kind := .ordinary
  loader := none
  accessFlags := 33
  super := sup
  interfaces := #[]
  cf := none
  fields := #[]
  methods := #[]
  instanceTypes := #[]
  staticTypes := #[]
  resolved := #[]
  callSites := []
  init := .initialized
  statics := none
  mirror := none

def pool0 : Array CpInfo := pool [(5, u "<init>"), (0, u "()V"), (1, .class_ 10), (1, u "java/lang/Object")] 113

def k0m0 : Method := { name := "<init>", desc := "()V", sig := { parameters := [], returnType := none }, accessFlags := 1, code := none }
/-- java/lang/Object -/
def k0 : Class := { plain "java/lang/Object" none with
  accessFlags := 33
  interfaces := #[]
  cf := some (fileOf pool0 8 #[] #[{ accessFlags := 1, nameIndex := 5, descriptorIndex := 6, attributes := #[] }] 33 0 #[] #[])
  fields := #[]
  methods := #[k0m0]
  instanceTypes := #[]
  staticTypes := #[]
  resolved := Array.replicate 124 none
  statics := none }

def pool1 : Array CpInfo := pool [(2, .class_ 4), (1, u "java/lang/Object"), (0, u "<init>"), (0, u "()V"), (0, .methodref 8 9), (0, .class_ 10), (0, .nameAndType 11 12), (0, u "com/example/gleipnir/gleipnir/bdd/NodeTable"), (0, u "hash"), (0, u "(II)I"), (0, .class_ 14), (0, u "com/example/gleipnir/gleipnir/bdd/NodeTableHashPinLaw"), (2, u "law"), (0, u "(IIII)Z")] 3

def k1m0 : Method := { name := "<init>", desc := "()V", sig := { parameters := [], returnType := none }, accessFlags := 1, code := none }
def k1c1 : Code := { maxStack := 2, maxLocals := 11, code := code, exceptionTable := #[], attributes := #[] }
def k1m1 : Method := { name := "law", desc := "(IIII)Z", sig := { parameters := [.int, .int, .int, .int], returnType := some .boolean }, accessFlags := 9, code := some k1c1 }
/-- com/example/gleipnir/gleipnir/bdd/NodeTableHashPinLaw -/
def k1 : Class := { plain "com/example/gleipnir/gleipnir/bdd/NodeTableHashPinLaw" (some 0) with
  accessFlags := 49
  interfaces := #[]
  cf := some (fileOf pool1 13 #[] #[{ accessFlags := 1, nameIndex := 5, descriptorIndex := 6, attributes := #[] }, { accessFlags := 9, nameIndex := 17, descriptorIndex := 18, attributes := #[] }] 49 2 #[] #[])
  fields := #[]
  methods := #[k1m0, k1m1]
  instanceTypes := #[]
  staticTypes := #[]
  resolved := Array.replicate 22 none
  statics := none }

def pool2 : Array CpInfo := pool [(3, .class_ 4), (0, u "com/example/gleipnir/gleipnir/bdd/NodeTable"), (1, .class_ 8), (1, u "java/lang/Object"), (4, u "slots"), (0, u "[I"), (2, u "free"), (0, u "I"), (2, u "dead"), (2, u "variableCount"), (2, u "grown"), (0, u "Ljava/util/function/IntConsumer;"), (2, u "levels"), (2, u "variables"), (3, u "buckets"), (0, u "[[I"), (2, u "counts"), (8, u "top"), (2, u "count"), (2, u "peak"), (9, u "hash"), (0, u "(II)I"), (23, u "references"), (20, u "deadCount"), (43, .integer 2654435761), (0, .integer 2246822519), (0, u "FALSE"), (2, u "TRUE"), (1, u "NONE"), (1, u "INITIAL_SLOTS"), (1, u "STRIDE"), (1, u "VARIABLE"), (0, u "LOW"), (0, u "HIGH"), (1, u "NEXT"), (1, u "FREE"), (0, u "INITIAL_BUCKETS"), (1, u "MAX_SLOTS"), (1, u "PERMANENT")] 34

def k2c0 : Code := { maxStack := 3, maxLocals := 3, code := prog_4_method_30_code, exceptionTable := #[], attributes := #[] }
def k2m0 : Method := { name := "hash", desc := "(II)I", sig := { parameters := [.int, .int], returnType := some .int }, accessFlags := 8, code := some k2c0 }
/-- com/example/gleipnir/gleipnir/bdd/NodeTable -/
def k2 : Class := { plain "com/example/gleipnir/gleipnir/bdd/NodeTable" (some 0) with
  accessFlags := 48
  interfaces := #[]
  cf := some (fileOf pool2 3 #[] #[{ accessFlags := 8, nameIndex := 67, descriptorIndex := 68, attributes := #[] }] 48 6 #[] #[{ accessFlags := 24, nameIndex := 159, descriptorIndex := 18, attributes := #[] }, { accessFlags := 24, nameIndex := 162, descriptorIndex := 18, attributes := #[] }, { accessFlags := 24, nameIndex := 164, descriptorIndex := 18, attributes := #[] }, { accessFlags := 24, nameIndex := 166, descriptorIndex := 18, attributes := #[] }, { accessFlags := 26, nameIndex := 168, descriptorIndex := 18, attributes := #[] }, { accessFlags := 26, nameIndex := 170, descriptorIndex := 18, attributes := #[] }, { accessFlags := 26, nameIndex := 171, descriptorIndex := 18, attributes := #[] }, { accessFlags := 26, nameIndex := 172, descriptorIndex := 18, attributes := #[] }, { accessFlags := 26, nameIndex := 174, descriptorIndex := 18, attributes := #[] }, { accessFlags := 26, nameIndex := 176, descriptorIndex := 18, attributes := #[] }, { accessFlags := 26, nameIndex := 177, descriptorIndex := 18, attributes := #[] }, { accessFlags := 26, nameIndex := 179, descriptorIndex := 18, attributes := #[] }, { accessFlags := 26, nameIndex := 181, descriptorIndex := 18, attributes := #[] }, { accessFlags := 18, nameIndex := 24, descriptorIndex := 18, attributes := #[] }, { accessFlags := 18, nameIndex := 31, descriptorIndex := 14, attributes := #[] }, { accessFlags := 18, nameIndex := 34, descriptorIndex := 14, attributes := #[] }, { accessFlags := 18, nameIndex := 38, descriptorIndex := 39, attributes := #[] }, { accessFlags := 18, nameIndex := 42, descriptorIndex := 14, attributes := #[] }, { accessFlags := 18, nameIndex := 27, descriptorIndex := 28, attributes := #[] }, { accessFlags := 2, nameIndex := 13, descriptorIndex := 14, attributes := #[] }, { accessFlags := 2, nameIndex := 51, descriptorIndex := 18, attributes := #[] }, { accessFlags := 2, nameIndex := 17, descriptorIndex := 18, attributes := #[] }, { accessFlags := 2, nameIndex := 54, descriptorIndex := 18, attributes := #[] }, { accessFlags := 2, nameIndex := 57, descriptorIndex := 18, attributes := #[] }, { accessFlags := 2, nameIndex := 92, descriptorIndex := 14, attributes := #[] }, { accessFlags := 2, nameIndex := 21, descriptorIndex := 14, attributes := #[] }, { accessFlags := 2, nameIndex := 113, descriptorIndex := 18, attributes := #[] }])
  fields := #[{ name := "FALSE", type := .int, accessFlags := 24, slot := 0, constantValue := 0 }, { name := "TRUE", type := .int, accessFlags := 24, slot := 1, constantValue := 0 }, { name := "NONE", type := .int, accessFlags := 24, slot := 2, constantValue := 0 }, { name := "INITIAL_SLOTS", type := .int, accessFlags := 24, slot := 3, constantValue := 0 }, { name := "STRIDE", type := .int, accessFlags := 26, slot := 4, constantValue := 0 }, { name := "VARIABLE", type := .int, accessFlags := 26, slot := 5, constantValue := 0 }, { name := "LOW", type := .int, accessFlags := 26, slot := 6, constantValue := 0 }, { name := "HIGH", type := .int, accessFlags := 26, slot := 7, constantValue := 0 }, { name := "NEXT", type := .int, accessFlags := 26, slot := 8, constantValue := 0 }, { name := "FREE", type := .int, accessFlags := 26, slot := 9, constantValue := 0 }, { name := "INITIAL_BUCKETS", type := .int, accessFlags := 26, slot := 10, constantValue := 0 }, { name := "MAX_SLOTS", type := .int, accessFlags := 26, slot := 11, constantValue := 0 }, { name := "PERMANENT", type := .int, accessFlags := 26, slot := 12, constantValue := 0 }, { name := "variableCount", type := .int, accessFlags := 18, slot := 0, constantValue := 0 }, { name := "levels", type := (.array .int), accessFlags := 18, slot := 1, constantValue := 0 }, { name := "variables", type := (.array .int), accessFlags := 18, slot := 2, constantValue := 0 }, { name := "buckets", type := (.array (.array .int)), accessFlags := 18, slot := 3, constantValue := 0 }, { name := "counts", type := (.array .int), accessFlags := 18, slot := 4, constantValue := 0 }, { name := "grown", type := (.object "java/util/function/IntConsumer"), accessFlags := 18, slot := 5, constantValue := 0 }, { name := "slots", type := (.array .int), accessFlags := 2, slot := 6, constantValue := 0 }, { name := "top", type := .int, accessFlags := 2, slot := 7, constantValue := 0 }, { name := "free", type := .int, accessFlags := 2, slot := 8, constantValue := 0 }, { name := "count", type := .int, accessFlags := 2, slot := 9, constantValue := 0 }, { name := "peak", type := .int, accessFlags := 2, slot := 10, constantValue := 0 }, { name := "references", type := (.array .int), accessFlags := 2, slot := 11, constantValue := 0 }, { name := "dead", type := (.array .int), accessFlags := 2, slot := 12, constantValue := 0 }, { name := "deadCount", type := .int, accessFlags := 2, slot := 13, constantValue := 0 }]
  methods := #[k2m0]
  instanceTypes := #[.int, (.array .int), (.array .int), (.array (.array .int)), (.array .int), (.object "java/util/function/IntConsumer"), (.array .int), .int, .int, .int, .int, (.array .int), (.array .int), .int]
  staticTypes := #[.int, .int, .int, .int, .int, .int, .int, .int, .int, .int, .int, .int, .int]
  resolved := Array.replicate 216 none
  statics := none }

def pool3 : Array CpInfo := pool [(1, u "java/lang/Cloneable"), (0, .class_ 1), (0, u "java/lang/Object"), (0, .class_ 3)] 3

/-- java/lang/Cloneable -/
def k3 : Class := { plain "java/lang/Cloneable" (some 0) with
  accessFlags := 1537
  interfaces := #[]
  cf := some (fileOf pool3 2 #[] #[] 1537 4 #[] #[])
  fields := #[]
  methods := #[]
  instanceTypes := #[]
  staticTypes := #[]
  resolved := Array.replicate 8 none
  statics := none }

def pool4 : Array CpInfo := pool [(1, u "java/io/Serializable"), (0, .class_ 1), (0, u "java/lang/Object"), (0, .class_ 3)] 3

/-- java/io/Serializable -/
def k4 : Class := { plain "java/io/Serializable" (some 0) with
  accessFlags := 1537
  interfaces := #[]
  cf := some (fileOf pool4 2 #[] #[] 1537 4 #[] #[])
  fields := #[]
  methods := #[]
  instanceTypes := #[]
  staticTypes := #[]
  resolved := Array.replicate 8 none
  statics := none }

/-- the primitive byte -/
def k5 : Class := { plain "byte" none with kind := .primitive 'B', accessFlags := 0x411 }
/-- [B -/
def k6 : Class := { plain "[B" (some 0) with kind := .array 5 .byte, interfaces := #[3, 4], accessFlags := 1041 }

/-- the primitive int -/
def k7 : Class := { plain "int" none with kind := .primitive 'I', accessFlags := 0x411 }
/-- [I -/
def k8 : Class := { plain "[I" (some 0) with kind := .array 7 .int, interfaces := #[3, 4], accessFlags := 1041 }

def heap : Heap := #[]
def classes : Array Class := #[k0, k1, k2, k3, k4, k5, k6, k7, k8]
def interned : List (Array UInt16 × Addr) := []
def slotsUsed : Nat := 0
def theMethod : MethodId := ⟨1, 1⟩
def args0 : Array Value := #[.int 5, .int 6, .int 7, .int 0]
def aboutOver (below : List Frame) : State where
  vm := { classes := classes, interned := interned.toArray }
  heap := heap
  slotsUsed := slotsUsed
  threads := #[{ frames := .invoking theMethod args0 :: below }]
def below0 : List Frame := [.native { method := ⟨0, 0⟩, args := #[] }]
def about1 : State := aboutOver below0
def p0 : Program := .bare "" "" ""
def e0 : Env := launch0.env 0 0 0
theorem w_frames : about1.frames = Frame.invoking theMethod args0 :: below0 := rfl
set_option maxRecDepth 65536 in
theorem w_args : argsFit about1.vm theMethod args0 = true := by decide +kernel
set_option maxRecDepth 65536 in
theorem w_heap : heapFits about1 = true := by decide +kernel
set_option maxRecDepth 65536 in
theorem w_runnable : about1.curStatus? = some .runnable := by decide +kernel
set_option maxRecDepth 65536 in
theorem w_alone : about1.alone = true := by decide +kernel
set_option maxRecDepth 65536 in
theorem w_named : about1.methodNamed? x = some theMethod := by decide +kernel
set_option maxRecDepth 65536 in
theorem w_hears : about1.hears theMethod below0 = true := by decide +kernel
set_option maxRecDepth 65536 in
theorem w_ripe : about1.ripe theMethod args0 below0 = true := by decide +kernel
theorem w_running : about1.status = .running := rfl
set_option maxRecDepth 65536 in
theorem w_room : about1.hasRoom e0.platform room_1 = true :=
  launch0.hasRoom_least _ room_1 (by decide +kernel) (by decide +kernel) (by decide +kernel) (by decide +kernel) (by decide +kernel) (by decide +kernel)
theorem allAtoms_all (ts : List Jvm.Cond) (a : Array Jvm.Value) (st : Jvm.State) : (allAtoms ts).before a st = ts.all (fun c => c.before a st) := by
  induction ts with
  | nil => rfl
  | cons c t ih =>
    show (Jvm.Cond.and c (allAtoms t)).before a st = _
    rw [Jvm.Cond.before_and, ih, List.all_cons]
def words1 : List Jvm.Cond := Jvm.Cond.code x code maxLocals ret :: tables_1
/-- a 'code' word, met by the world's own term for the bytes: nothing is compared byte by byte -/
theorem code_word {y : MethodName} {bytes : ByteArray} {mx : Nat} {rt : Option FieldType} {a : Array Value} {s : State} {m : MethodId} {meth : Method} {c : Code} (h1 : s.methodNamed? y = some m) (h2 : s.vm.method? m = some meth) (h3 : meth.code = some c) (h4 : c.code = bytes)
    (h5 : (c.maxLocals == mx && c.exceptionTable.isEmpty && decide (c.maxStack ≤ mostOperands) && decide (meth.sig.returnType = rt) && !meth.locks && decide (parseMethodDescriptor y.desc = some meth.sig)) = true) : (Jvm.Cond.code y bytes mx rt).before a s = true := by
  simp only [Bool.and_eq_true, beq_iff_eq, Bool.not_eq_true', decide_eq_true_eq] at h5
  obtain ⟨⟨⟨⟨⟨g1, g2⟩, g3⟩, g4⟩, g5⟩, g6⟩ := h5
  simp [Cond.before, Cond.holds, Cond.value, h1, h2, h3, h4, g1, g2, g3, g4, g5, g6]
def isCode : Jvm.Cond → Bool
  | .code _ _ _ _ => true
  | _ => false
theorem all_split {L : List Jvm.Cond} {P : Jvm.Cond → Bool} (h1 : L.all (fun c => isCode c || P c) = true) (h2 : ∀ c ∈ L.filter isCode, P c = true) : L.all P = true := by
  refine List.all_eq_true.mpr fun c hc => ?_
  have h := List.all_eq_true.mp h1 c hc
  rcases Bool.eq_false_or_eq_true (isCode c) with hi | hi
  · exact h2 c (List.mem_filter.mpr ⟨hc, hi⟩)
  · simpa [hi] using h
set_option maxRecDepth 65536 in
theorem w_c0 : (Jvm.Cond.code x code maxLocals ret).before args0 about1 = true := code_word (m := ⟨1, 1⟩) (meth := k1m1) (c := k1c1) (by decide +kernel) rfl rfl rfl (by decide +kernel)
set_option maxRecDepth 65536 in
theorem w_c1 : (Jvm.Cond.code ({ cls := "com/example/gleipnir/gleipnir/bdd/NodeTable", name := "hash", desc := "(II)I" } : Jvm.MethodName) prog_4_method_30_code (3 : Nat) (Option.some Jvm.ClassFile.FieldType.int)).before args0 about1 = true := code_word (m := ⟨2, 0⟩) (meth := k2m0) (c := k2c0) (by decide +kernel) rfl rfl rfl (by decide +kernel)
def codes1 : List Jvm.Cond := [Jvm.Cond.code x code maxLocals ret, Jvm.Cond.code ({ cls := "com/example/gleipnir/gleipnir/bdd/NodeTable", name := "hash", desc := "(II)I" } : Jvm.MethodName) prog_4_method_30_code (3 : Nat) (Option.some Jvm.ClassFile.FieldType.int)]
set_option maxRecDepth 65536 in
theorem codes_eq : words1.filter isCode = codes1 := rfl
theorem w_codes : ∀ c ∈ words1.filter isCode, c.before args0 about1 = true := by
  rw [codes_eq]
  intro c hc
  simp only [codes1, List.mem_cons, List.not_mem_nil, or_false] at hc
  rcases hc with rfl | rfl
  · exact w_c0
  · exact w_c1
set_option maxRecDepth 65536 in
theorem w_t1 : words1.all (fun c => isCode c || c.before args0 about1) = true := by decide +kernel
theorem w_tables : (allAtoms (Jvm.Cond.code x code maxLocals ret :: tables_1)).before args0 about1 = true := by
  rw [allAtoms_all]
  show words1.all (fun c => c.before args0 about1) = true
  refine all_split ?_ w_codes
  rw [w_t1]
set_option maxRecDepth 65536 in
theorem w_case : (Jvm.Cond.and given_1 narrow_1).before args0 about1 = true := by decide +kernel
theorem w_applies : (headSpec (Jvm.Cond.code x code maxLocals ret :: tables_1) room_1).applies x e0.platform about1 = true :=
  (Spec.applies_iff w_frames).mpr ⟨w_running, w_runnable, w_alone, w_named, w_hears, w_ripe, w_room, w_tables⟩
theorem atStart : AtStart classFile x code maxLocals ret World_1 tables_1 room_1 Calls_1 rest_1 Pre_1 launch0 p0 e0 about1 theMethod args0 below0 :=
  ⟨lists_1, trivial, launch0.admits_env _ _ _, launch0.least_env, fairChoices_fair.cas, fairChoices_fair.clock, w_frames, w_args, w_heap, w_applies, trivial, trivial, w_case⟩
end start1
theorem witness_1 : WitnessClaimed_1 := ⟨start1.p0, start1.e0, start1.about1, start1.theMethod, start1.args0, start1.below0, start1.atStart⟩
end Jvm.Pilot.@@N@@

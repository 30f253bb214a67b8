import JvmDerived
import JvmDerived.Pilot.@@N@@Statement
import JvmDerived.Pilot.@@N@@Code
set_option linter.unusedVariables false
set_option linter.unusedSimpArgs false
namespace Jvm.RoadKit
open Sem ClassFile Op Lib Jvm.Stand Jvm.Free Jvm.LawKit
section New
variable {p : Program} {l : Launch} {e : Env} {R : Room} {s : State} {m : MethodId} {args : Array Value} {below : List Frame} {meth : Method} {c : Code} {T : State} {locs : List Loc} {cells slots : Nat}
theorem retI (X : Stand p l e R s m args below meth c T locs cells slots) (hx : p.tables.exec = Jvm.exec) {pc : Nat} {Ls : Array Slot} {z : Int32} {rest : List Value} (hret : meth.sig.returnType = some .int) (hd : decode c.code pc = .ok (.ireturn, 1)) {fs : List Frame}
    (hl : ∀ (f : JFrame) (acts : List Action), f.method = m → f.locked = none → f.entered = [] → (doReturn e (T.setTop f) acts (some (.int z))).1 = T.setFrames fs) : Steps p.tables e below (T.setTop (mkF m pc Ls (.int z :: rest))) (T.setFrames fs) := by
  have hm' : T.vm.method? m = some meth := X.method'
  have hn : narrow .int (.int z) = .int z := rfl
  show Steps p.tables e below (T.setTop { method := m, pc := pc, locals := Ls, stack := _ :: rest, locked := none }) _
  jvm_step X.here [X.here.top, hx, hd, hm', hret, hn]
  first | (intro acts; rw [hl _ acts rfl rfl rfl]) | rw [hl _ _ rfl rfl rfl]
  exact Steps.refl _
end New
end Jvm.RoadKit
namespace Jvm.Pilot.@@N@@
open Jvm Jvm.ClassFile Sem Op Lib Jvm.Free Jvm.Stand Jvm.LawKit Jvm.RoadKit Bundle Jvm.Pilot.@@N@@.Jvm.D
/-- an array of n places, place j holds f j -/
def Av (Z : State) (h : Heap) (a : Addr) (ty : FieldType) (n : Nat) (f : Nat → Value) : Prop := ∃ cl : Cell, Arr Z h a cl ty ∧ cl.slots.size = n ∧ ∀ j, j < n → cl.slots[j]? = some (f j)
theorem Av.ext {Z : State} {h h' : Heap} {a : Addr} {ty : FieldType} {n : Nat} {f : Nat → Value} (A : Av Z h a ty n f) (E : Ext h h') : Av Z h' a ty n f := by obtain ⟨c, A, r⟩ := A; exact ⟨c, A.ext E, r⟩
theorem Av.lt {Z : State} {h : Heap} {a : Addr} {ty : FieldType} {n : Nat} {f : Nat → Value} (A : Av Z h a ty n f) : a < h.size := by obtain ⟨c, A, r⟩ := A; exact A.lt
theorem Av.other {Z : State} {h h' : Heap} {a b : Addr} {ty : FieldType} {n sl : Nat} {v : Value} {f : Nat → Value} (A : Av Z h b ty n f) (W : Wr h h' a sl v) (q : b ≠ a) : Av Z h' b ty n f := by obtain ⟨c, A, r⟩ := A; exact ⟨c, A.other W q, r⟩
theorem Av.keep {Z : State} {h h' : Heap} {a : Addr} {ws : List Addr} {ty : FieldType} {n : Nat} {f : Nat → Value} (A : Av Z h a ty n f) (K : Keep h h' ws) (q : a ∉ ws) : Av Z h' a ty n f := by obtain ⟨c, A, r⟩ := A; exact ⟨c, ⟨K.2.1 a c A.1 q, A.2⟩, r⟩
theorem Av.congr {Z : State} {h : Heap} {a : Addr} {ty : FieldType} {n : Nat} {f f' : Nat → Value} (e : ∀ j, j < n → f' j = f j) (A : Av Z h a ty n f) : Av Z h a ty n f' := by obtain ⟨c, A, S, H⟩ := A; exact ⟨c, A, S, fun j hj => by rw [H j hj, e j hj]⟩
theorem Av.new {Z : State} {h : Heap} {a : Addr} {k : ClassId} {ty : FieldType} {z : Int32} {n : Nat} (A : Arr Z h a (newA k ty z) ty) (q : ¬ z < 0) (e : z.toNatClampNeg = n) : Av Z h a ty n (fun _ => defaultValue ty) := by
  obtain ⟨c, B, -, S, -, H, -⟩ := Arv.new A q
  exact ⟨c, B, S.trans e, fun j hj => by have := H j (by rw [S, e]; exact hj); simpa using this⟩
theorem Av.set {Z : State} {h h' : Heap} {a : Addr} {ty : FieldType} {n i : Nat} {f : Nat → Value} {cl : Cell} {j : Int32} {v w : Value} (A : Arr Z h a cl ty) (S : cl.slots.size = n) (H : ∀ j, j < n → cl.slots[j]? = some (f j)) (W : Wr h h' a j.toNatClampNeg v) (hj : j.toNatClampNeg = i) (e : v = w) : Av Z h' a ty n (fun j => if j = i then w else f j) := by
  subst e hj
  refine ⟨_, A.same W, by simp [Cell.setSlot, S], fun k hk => ?_⟩
  show (cl.slots.setIfInBounds j.toNatClampNeg v)[k]? = _
  rw [Array.getElem?_setIfInBounds]
  by_cases q : j.toNatClampNeg = k
  · subst q; simp [S, hk]
  · rw [if_neg q, H k hk]
    show some (f k) = some (if k = j.toNatClampNeg then v else f k)
    rw [if_neg (fun u => q (Eq.symm u))]
theorem hwd48 {Z : State} {a0 : Array Value} (hw : ∀ d ∈ tables_1, d.before a0 Z = true) : (Jvm.Cond.superclass "java/util/ArrayList" "java/util/AbstractList").before a0 Z = true := hw _ (List.mem_of_getElem? (i := 48) rfl)
theorem hwd49 {Z : State} {a0 : Array Value} (hw : ∀ d ∈ tables_1, d.before a0 Z = true) : (Jvm.Cond.superclass "java/util/AbstractList" "java/util/AbstractCollection").before a0 Z = true := hw _ (List.mem_of_getElem? (i := 49) rfl)
theorem hwd50 {Z : State} {a0 : Array Value} (hw : ∀ d ∈ tables_1, d.before a0 Z = true) : (Jvm.Cond.superclass "java/util/AbstractCollection" "java/lang/Object").before a0 Z = true := hw _ (List.mem_of_getElem? (i := 50) rfl)
theorem hwd51 {Z : State} {a0 : Array Value} (hw : ∀ d ∈ tables_1, d.before a0 Z = true) : (Jvm.Cond.noSuperclass "java/lang/Object").before a0 Z = true := hw _ (List.mem_of_getElem? (i := 51) rfl)
theorem own_root {Z : State} {a0 : Array Value} {O K : String} {t : ClassId} (w : (Cond.noSuperclass O).before a0 Z = true) (g1 : Z.vm.findClass K = some t) (hn : O ≠ K) : NS Z O K := by
  obtain ⟨c, k, h1, h2, h3, -, -⟩ := Cond.noSuperclass_spec w
  refine ⟨c, t, h1, g1, fun fuel => ?_⟩
  have ne := ids_ne h1 g1 hn
  cases fuel <;> simp [Vm.isSubclassAux, ne, h2, h3]
theorem own_no {Z : State} {a0 : Array Value} {C S K : String} {n : Nat} (w : (Cond.superclass C S).before a0 Z = true) (wi : (Cond.instantiable K n).before a0 Z = true) (N : NS Z C K) (hn : C ≠ K) : ∃ c t, Z.vm.findClass C = some c ∧ Z.vm.findClass K = some t ∧ Z.vm.assignable c t = false := by
  obtain ⟨c, t, h0, g0, n3⟩ := N
  obtain ⟨p, k, kp, h1, h2, h3, h4, h5, -, h7⟩ := Cond.superclass_spec h0 w
  obtain ⟨t', kt, g1, g2, g5, g7, -⟩ := Cond.instantiable_spec wi
  cases g0.symm.trans g1
  have ne := ids_ne h0 g0 hn
  have g8 : kt.isInterface = false := (Bool.or_eq_false_iff.mp g7).1
  refine ⟨c, t, h0, g0, ?_⟩
  show Z.vm.assignableAux (255 + 1) c t = false
  simp [Vm.assignableAux, ne, h2, g2, h5, g5, g8, Vm.isSubclass, n3]
theorem own_hev {Z s : State} {args : Array Value} {C : String} {mr : Addr} (hZ : Z.Warmed39 s.vm) (M : Mir Z C mr) : (Term.mirror C).eval args s none [] s = some (.ref mr) := by
  obtain ⟨c, k, m1, m2, m3, -⟩ := M
  obtain ⟨k', q, ek⟩ := hZ.alike.2.2 _ _ m2
  have hf : s.vm.findClass C = some c := by rw [hZ.alike.findClass]; exact m1
  have hm : k'.mirror = some mr := by rw [ek]; exact m3
  simp [Term.eval, hf, q, hm]
theorem own_listno {Z : State} {a0 : Array Value} {K : String} {n : Nat} (hw : ∀ d ∈ tables_1, d.before a0 Z = true) (wi : (Cond.instantiable K n).before a0 Z = true) (h1 : "java/lang/Object" ≠ K) (h2 : "java/util/AbstractCollection" ≠ K) (h3 : "java/util/AbstractList" ≠ K) (h4 : "java/util/ArrayList" ≠ K) : ∃ c t, Z.vm.findClass "java/util/ArrayList" = some c ∧ Z.vm.findClass K = some t ∧ Z.vm.assignable c t = false := by
  obtain ⟨t, kt, g1, -⟩ := Cond.instantiable_spec wi
  exact own_no (hwd48 hw) wi (NS.step (hwd48 hw) (NS.step (hwd49 hw) (NS.step (hwd50 hw) (own_root (hwd51 hw) g1 h1) h2) h3) h4) h4
theorem own_len {s : State} {args : Array Value} {t : Term} {a : Addr} {cl : Cell} {ty : FieldType} (e : t.eval args s none [] s = some (.ref a)) (A : Arr s s.heap a cl ty) (h : (Cond.eq (.length t) (.int (0 : Int32))).value args s none s [] = some true) : cl.slots.size = 0 := by
  have ha : s.arrayAt? a = some cl := IntBox.arrayAt_of A.1 A.2.1 A.2.2
  by_cases hs : cl.slots.size < 2 ^ 31
  · have h1 : (Term.length t).eval args s none [] s = some (.int cl.slots.size.toInt32) := len_f e ha hs
    have h2 := gotT (Cond.eq_ints h1 (Term.int_eval (0))) h
    have h3 := len_toInt hs
    rw [h2] at h3
    have h4 : (0 : Int32).toInt = 0 := by decide
    omega
  · have h1 : (Term.length t).eval args s none [] s = none := by simp [Term.eval, e, ha, hs]
    simp [Cond.value, h1] at h
theorem own_mir {s : State} {C : String} (h : MirrorMade s C) : ∃ mr, Mir s C mr := by
  obtain ⟨c, k, m, h1, h2, h3, h4⟩ := h
  exact ⟨m, c, k, h1, h2, h3, h4⟩
theorem own_3 (x : Int32) : ((1 : Int32) + (x &&& (3 : Int32))) = 1 ∨ ((1 : Int32) + (x &&& (3 : Int32))) = 2 ∨ ((1 : Int32) + (x &&& (3 : Int32))) = 3 ∨ ((1 : Int32) + (x &&& (3 : Int32))) = 4 := by
  have h := c_and x 3 (by decide)
  rw [show (3 : Int32).toInt = 3 by decide] at h
  generalize (x &&& (3 : Int32)) = y at h
  have : y.toInt = 0 ∨ y.toInt = 1 ∨ y.toInt = 2 ∨ y.toInt = 3 := by omega
  rcases this with e | e | e | e
  · left; rw [show y = 0 from Int32.toInt_inj.mp (e.trans (by decide))]; decide
  · right; left; rw [show y = 1 from Int32.toInt_inj.mp (e.trans (by decide))]; decide
  · right; right; left; rw [show y = 2 from Int32.toInt_inj.mp (e.trans (by decide))]; decide
  · right; right; right; rw [show y = 3 from Int32.toInt_inj.mp (e.trans (by decide))]; decide
theorem own_rem (x : Int32) : ((x &&& (2147483647 : Int32)) - ((x &&& (2147483647 : Int32)) / (3 : Int32)) * (3 : Int32)) = 0 ∨ ((x &&& (2147483647 : Int32)) - ((x &&& (2147483647 : Int32)) / (3 : Int32)) * (3 : Int32)) = 1 ∨ ((x &&& (2147483647 : Int32)) - ((x &&& (2147483647 : Int32)) / (3 : Int32)) * (3 : Int32)) = 2 := by
  have h0 := c_and x 2147483647 (by decide)
  rw [show (2147483647 : Int32).toInt = 2147483647 by decide] at h0
  generalize (x &&& (2147483647 : Int32)) = v at h0
  have hd := (c_idiv v 3 3 (by decide) (by decide)).1 h0.1
  generalize v / (3 : Int32) = w at hd
  have m1 := c_imul w 3
  have r1 := rng32 (w * 3)
  rw [show (3 : Int32).toInt = 3 by decide] at m1
  have s1 := c_isub v (w * 3)
  have r2 := rng32 (v - w * 3)
  generalize v - w * 3 = y at s1 r2
  have : y.toInt = 0 ∨ y.toInt = 1 ∨ y.toInt = 2 := by omega
  rcases this with e | e | e
  · exact Or.inl (Int32.toInt_inj.mp (e.trans (by decide)))
  · exact Or.inr (Or.inl (Int32.toInt_inj.mp (e.trans (by decide))))
  · exact Or.inr (Or.inr (Int32.toInt_inj.mp (e.trans (by decide))))
theorem own_b (x : Int32) : ((1 : Int32) + (x &&& (1 : Int32))) = 1 ∨ ((1 : Int32) + (x &&& (1 : Int32))) = 2 := by
  rcases and_one x with e | e <;> rw [e]
  · exact Or.inl (by decide)
  · exact Or.inr (by decide)
theorem own_six {u v w : Int32} (hu : u = 0 ∨ u = 1 ∨ u = 2) (hv : v = 1 ∨ v = 2) (hw : w = 1 ∨ w = 2) : u + v * w = 1 ∨ u + v * w = 2 ∨ u + v * w = 3 ∨ u + v * w = 4 ∨ u + v * w = 5 ∨ u + v * w = 6 := by
  rcases hu with rfl | rfl | rfl <;> rcases hv with rfl | rfl <;> rcases hw with rfl | rfl <;> decide
theorem hwd19 {Z : State} {a0 : Array Value} (hw : ∀ d ∈ tables_1, d.before a0 Z = true) : (Jvm.Cond.methodLink "java/util/AbstractCollection" (1 : Nat) ({ cls := "java/lang/Object", name := "<init>", desc := "()V" } : Jvm.MethodName)).before a0 Z = true := hw _ (List.mem_of_getElem? (i := 19) rfl)
theorem hwd20 {Z : State} {a0 : Array Value} (hw : ∀ d ∈ tables_1, d.before a0 Z = true) : (Jvm.Cond.instanceMethod ({ cls := "java/lang/Object", name := "<init>", desc := "()V" } : Jvm.MethodName)).before a0 Z = true := hw _ (List.mem_of_getElem? (i := 20) rfl)
theorem hwd21 {Z : State} {a0 : Array Value} (hw : ∀ d ∈ tables_1, d.before a0 Z = true) : (Jvm.Cond.code ({ cls := "java/lang/Object", name := "<init>", desc := "()V" } : Jvm.MethodName) object_method_1_code (1 : Nat) (Option.none : Option Jvm.ClassFile.FieldType)).before a0 Z = true := hw _ (List.mem_of_getElem? (i := 21) rfl)
theorem d3_0 : decode jdk_22_method_1_code 0 = .ok (.aload_n 0, 1) := by decide +kernel
theorem d3_1 : decode jdk_22_method_1_code 1 = .ok (.invokespecial 1, 3) := by decide +kernel
theorem d3_4 : decode jdk_22_method_1_code 4 = .ok (.return_, 1) := by decide +kernel
theorem pn_0 : plainName "java/util/AbstractCollection" = true := by first | (simp [plainName, overriddenIn]; done) | decide +kernel
theorem ef_3 (m : MethodId) (x0 : Addr) : entryFrame m #[(.ref x0)] 1 = mkF m 0 #[.val (.ref x0)] [] := by first | (simp [entryFrame, mkF, argsToLocals, Value.category]; done) | rfl
def Qrm3 (Z : State) (a : Addr) (h0 : Heap) (n0 : Nat) (v : Option Value) (h : Heap) (L : List Loc) : Prop := v = none ∧ Fr n0 L ∧ h = h0
set_option maxRecDepth 65536 in
set_option maxHeartbeats 40000000 in
abbrev my0 : MethodName := ⟨"java/util/AbstractCollection", "<init>", "()V"⟩
abbrev Rm_rm3 : Room := { frames := 1, cells := 0, slots := 0, locals := 12 }
theorem rm3 (l : Launch) (Z : State) (a0 : Array Value) (hw : ∀ d ∈ tables_1, d.before a0 Z = true) (ws : List Jvm.Cond) (a : Addr) (h0 : Heap) (n0 : Nat) (Z0 : n0 ≤ h0.size) :
    MetFree l my0 (head1 (Jvm.Cond.code my0 jdk_22_method_1_code 1 none :: ws) Rm_rm3) (fun aa_ U => aa_ = #[(.ref a)] ∧ Z.Warmed39 U.vm ∧ U.heap = h0) (fun _ _ _ _ _ => True) (fun _ U oo_ U' => ∃ v L, oo_ = .returned v ∧ Qrm3 Z a h0 n0 v U'.heap L ∧ FrameEnd U oo_ U' L Rm_rm3.cells Rm_rm3.slots) := by
  refine MetFree.of_bodySF (plainFor_of_name pn_0) hisR ?_
  intro p e s m args below meth c s₁ Bd hml0 hP hK
  obtain ⟨rfl, hZ, hh⟩ := hP
  have hx := Bd.exec
  have hby := Bd.bytes
  have hml : c.maxLocals = 1 := hml0
  have hown : s.vm.findClass "java/util/AbstractCollection" = some m.cls := findClass_of_methodNamed Bd.named
  have hnm := (name_of_methodNamed Bd.named Bd.method).1
  have X0 : Stand p l e Rm_rm3 s m #[(.ref a)] below meth c s₁ [] 0 0 := Stand.of_body Bd
  have e0 : s₁.heap = h0 := by rw [← hh, Bd.state]; rfl
  have N0 := Fr.nil n0
  have pre0 : ∀ tt_, Steps p.tables e below (s₁.setTop (mkF m 0 #[.val (.ref a)] [])) tt_ → Steps p.tables e below (s₁.setTop (entryFrame m #[(.ref a)] 1)) tt_ := fun tt_ kk_ => castTop (ef_3 m a) kk_
  obtain ⟨T1, X1, e1, st1⟩ := initO X0 hx hZ hown (hwd19 hw) (hwd20 hw) (hwd21 hw) e0 (g := (mkF m 1 #[.val (.ref a)] [(.ref a)])) rfl (by rw [hml]; rfl) rfl (hb hby d3_1) (by decide) (W := 0) (by show 2 * 0 + _ ≤ _; exact Nat.le_of_eq rfl) (by decide)
  obtain ⟨fs, hr, hrun, hended, hW, hsame⟩ := X1.leave (v := none) (fun _ => rfl)
  refine ⟨_, _, pre0 _ ?_, hrun, hended, _, _, rfl, ?_, ⟨_, rfl⟩, hW, hsame.mono (by decide) (by decide)⟩
  · show Steps p.tables e below (s₁.setTop (mkF m 0 #[.val (.ref a)] [])) _
    refine XS.aloadN X0.here hx rfl (hb hby d3_0) rfl rfl ?_
    refine st1 _ ?_
    exact X1.returnOut hx Bd.returns (hb hby d3_4) hr
  · show Qrm3 Z a h0 n0 _ T1.heap _
    rw [e1]
    exact ⟨rfl, N0, rfl⟩
theorem hwd38 {Z : State} {a0 : Array Value} (hw : ∀ d ∈ tables_1, d.before a0 Z = true) : (Jvm.Cond.methodLink "java/lang/Record" (1 : Nat) ({ cls := "java/lang/Object", name := "<init>", desc := "()V" } : Jvm.MethodName)).before a0 Z = true := hw _ (List.mem_of_getElem? (i := 38) rfl)
theorem d6_0 : decode jdk_30_method_1_code 0 = .ok (.aload_n 0, 1) := by decide +kernel
theorem d6_1 : decode jdk_30_method_1_code 1 = .ok (.invokespecial 1, 3) := by decide +kernel
theorem d6_4 : decode jdk_30_method_1_code 4 = .ok (.return_, 1) := by decide +kernel
theorem pn_1 : plainName "java/lang/Record" = true := by first | (simp [plainName, overriddenIn]; done) | decide +kernel
theorem ef_6 (m : MethodId) (x0 : Addr) : entryFrame m #[(.ref x0)] 1 = mkF m 0 #[.val (.ref x0)] [] := by first | (simp [entryFrame, mkF, argsToLocals, Value.category]; done) | rfl
def Qrm6 (Z : State) (a : Addr) (h0 : Heap) (n0 : Nat) (v : Option Value) (h : Heap) (L : List Loc) : Prop := v = none ∧ Fr n0 L ∧ h = h0
set_option maxRecDepth 65536 in
set_option maxHeartbeats 40000000 in
abbrev my1 : MethodName := ⟨"java/lang/Record", "<init>", "()V"⟩
abbrev Rm_rm6 : Room := { frames := 1, cells := 0, slots := 0, locals := 12 }
theorem rm6 (l : Launch) (Z : State) (a0 : Array Value) (hw : ∀ d ∈ tables_1, d.before a0 Z = true) (ws : List Jvm.Cond) (a : Addr) (h0 : Heap) (n0 : Nat) (Z0 : n0 ≤ h0.size) :
    MetFree l my1 (head1 (Jvm.Cond.code my1 jdk_30_method_1_code 1 none :: ws) Rm_rm6) (fun aa_ U => aa_ = #[(.ref a)] ∧ Z.Warmed39 U.vm ∧ U.heap = h0) (fun _ _ _ _ _ => True) (fun _ U oo_ U' => ∃ v L, oo_ = .returned v ∧ Qrm6 Z a h0 n0 v U'.heap L ∧ FrameEnd U oo_ U' L Rm_rm6.cells Rm_rm6.slots) := by
  refine MetFree.of_bodySF (plainFor_of_name pn_1) hisR ?_
  intro p e s m args below meth c s₁ Bd hml0 hP hK
  obtain ⟨rfl, hZ, hh⟩ := hP
  have hx := Bd.exec
  have hby := Bd.bytes
  have hml : c.maxLocals = 1 := hml0
  have hown : s.vm.findClass "java/lang/Record" = some m.cls := findClass_of_methodNamed Bd.named
  have hnm := (name_of_methodNamed Bd.named Bd.method).1
  have X0 : Stand p l e Rm_rm6 s m #[(.ref a)] below meth c s₁ [] 0 0 := Stand.of_body Bd
  have e0 : s₁.heap = h0 := by rw [← hh, Bd.state]; rfl
  have N0 := Fr.nil n0
  have pre0 : ∀ tt_, Steps p.tables e below (s₁.setTop (mkF m 0 #[.val (.ref a)] [])) tt_ → Steps p.tables e below (s₁.setTop (entryFrame m #[(.ref a)] 1)) tt_ := fun tt_ kk_ => castTop (ef_6 m a) kk_
  obtain ⟨T1, X1, e1, st1⟩ := initO X0 hx hZ hown (hwd38 hw) (hwd20 hw) (hwd21 hw) e0 (g := (mkF m 1 #[.val (.ref a)] [(.ref a)])) rfl (by rw [hml]; rfl) rfl (hb hby d6_1) (by decide) (W := 0) (by show 2 * 0 + _ ≤ _; exact Nat.le_of_eq rfl) (by decide)
  obtain ⟨fs, hr, hrun, hended, hW, hsame⟩ := X1.leave (v := none) (fun _ => rfl)
  refine ⟨_, _, pre0 _ ?_, hrun, hended, _, _, rfl, ?_, ⟨_, rfl⟩, hW, hsame.mono (by decide) (by decide)⟩
  · show Steps p.tables e below (s₁.setTop (mkF m 0 #[.val (.ref a)] [])) _
    refine XS.aloadN X0.here hx rfl (hb hby d6_0) rfl rfl ?_
    refine st1 _ ?_
    exact X1.returnOut hx Bd.returns (hb hby d6_4) hr
  · show Qrm6 Z a h0 n0 _ T1.heap _
    rw [e1]
    exact ⟨rfl, N0, rfl⟩
theorem hwd172 {Z : State} {a0 : Array Value} (hw : ∀ d ∈ tables_1, d.before a0 Z = true) : (Jvm.Cond.methodLink "java/util/ImmutableCollections$AbstractImmutableCollection" (1 : Nat) ({ cls := "java/util/AbstractCollection", name := "<init>", desc := "()V" } : Jvm.MethodName)).before a0 Z = true := hw _ (List.mem_of_getElem? (i := 172) rfl)
theorem hwd18 {Z : State} {a0 : Array Value} (hw : ∀ d ∈ tables_1, d.before a0 Z = true) : (Jvm.Cond.code ({ cls := "java/util/AbstractCollection", name := "<init>", desc := "()V" } : Jvm.MethodName) jdk_22_method_1_code (1 : Nat) (Option.none : Option Jvm.ClassFile.FieldType)).before a0 Z = true := hw _ (List.mem_of_getElem? (i := 18) rfl)
theorem hwd17 {Z : State} {a0 : Array Value} (hw : ∀ d ∈ tables_1, d.before a0 Z = true) : (Jvm.Cond.initialized "java/util/AbstractCollection").before a0 Z = true := hw _ (List.mem_of_getElem? (i := 17) rfl)
theorem pd_0 : parseMethodDescriptor "()V" = some ⟨[], none⟩ := by decide +kernel
theorem hwd14 {Z : State} {a0 : Array Value} (hw : ∀ d ∈ tables_1, d.before a0 Z = true) : (Jvm.Cond.instanceMethod ({ cls := "java/util/AbstractCollection", name := "<init>", desc := "()V" } : Jvm.MethodName)).before a0 Z = true := hw _ (List.mem_of_getElem? (i := 14) rfl)
theorem d27_0 : decode jdk_47_method_1_code 0 = .ok (.aload_n 0, 1) := by decide +kernel
theorem d27_1 : decode jdk_47_method_1_code 1 = .ok (.invokespecial 1, 3) := by decide +kernel
theorem d27_4 : decode jdk_47_method_1_code 4 = .ok (.return_, 1) := by decide +kernel
theorem pn_2 : plainName "java/util/ImmutableCollections$AbstractImmutableCollection" = true := by first | (simp [plainName, overriddenIn]; done) | decide +kernel
theorem ef_27 (m : MethodId) (x0 : Addr) : entryFrame m #[(.ref x0)] 1 = mkF m 0 #[.val (.ref x0)] [] := by first | (simp [entryFrame, mkF, argsToLocals, Value.category]; done) | rfl
def Qrm27 (Z : State) (a : Addr) (h0 : Heap) (n0 : Nat) (v : Option Value) (h : Heap) (L : List Loc) : Prop := v = none ∧ Fr n0 L ∧ h = h0
set_option maxRecDepth 65536 in
set_option maxHeartbeats 40000000 in
abbrev my2 : MethodName := ⟨"java/util/ImmutableCollections$AbstractImmutableCollection", "<init>", "()V"⟩
abbrev Rm_rm27 : Room := { frames := 2, cells := 0, slots := 0, locals := 24 }
theorem rm27 (l : Launch) (Z : State) (a0 : Array Value) (hw : ∀ d ∈ tables_1, d.before a0 Z = true) (ws : List Jvm.Cond) (a : Addr) (h0 : Heap) (n0 : Nat) (Z0 : n0 ≤ h0.size) :
    MetFree l my2 (head1 (Jvm.Cond.code my2 jdk_47_method_1_code 1 none :: ws) Rm_rm27) (fun aa_ U => aa_ = #[(.ref a)] ∧ Z.Warmed39 U.vm ∧ U.heap = h0) (fun _ _ _ _ _ => True) (fun _ U oo_ U' => ∃ v L, oo_ = .returned v ∧ Qrm27 Z a h0 n0 v U'.heap L ∧ FrameEnd U oo_ U' L Rm_rm27.cells Rm_rm27.slots) := by
  refine MetFree.of_bodySF (plainFor_of_name pn_2) hisR ?_
  intro p e s m args below meth c s₁ Bd hml0 hP hK
  obtain ⟨rfl, hZ, hh⟩ := hP
  have hx := Bd.exec
  have hby := Bd.bytes
  have hml : c.maxLocals = 1 := hml0
  have hown : s.vm.findClass "java/util/ImmutableCollections$AbstractImmutableCollection" = some m.cls := findClass_of_methodNamed Bd.named
  have hnm := (name_of_methodNamed Bd.named Bd.method).1
  have X0 : Stand p l e Rm_rm27 s m #[(.ref a)] below meth c s₁ [] 0 0 := Stand.of_body Bd
  have e0 : s₁.heap = h0 := by rw [← hh, Bd.state]; rfl
  have N0 := Fr.nil n0
  have pre0 : ∀ tt_, Steps p.tables e below (s₁.setTop (mkF m 0 #[.val (.ref a)] [])) tt_ → Steps p.tables e below (s₁.setTop (entryFrame m #[(.ref a)] 1)) tt_ := fun tt_ kk_ => castTop (ef_27 m a) kk_
  obtain ⟨_, _, ⟨T1, L1, k1, n1⟩, -, X1, ⟨Lc1, hQ1, l1, y1, z1⟩, st1⟩ := X0.specialBack hx (y := my0) rfl hown (mvT hZ (hwd172 hw)) (mvT hZ (hwd14 hw)) (mvT hZ (hwd18 hw)) (by decide) (backOf (W := 0) (rm3 l Z a0 hw [] a h0 n0 Z0 ) hZ (hwd18 hw) (hwd17 hw) (by decide) (by decide)) (g := (mkF m 1 #[.val (.ref a)] [(.ref a)])) rfl (by rw [hml]; rfl) (Steps.refl _) (a := a) (argsL := []) (rest := []) (lenOf pd_0 rfl) rfl (by show 2 * 0 + _ ≤ _; exact Nat.le_of_eq rfl) (hb hby d27_1) (fun _ _ => ⟨rfl, e0, (by decide : 0 + 0 ≤ _), (by decide : 0 + 0 ≤ _)⟩)
  dsimp only [Pt.U, Pt.locs, Pt.cells, Pt.slots] at X1 l1 y1 z1 st1 hQ1
  subst l1 y1 z1
  obtain ⟨rfl, N1q, e1q⟩ := hQ1
  have N1 := Fr.app N0 N1q
  obtain ⟨fs, hr, hrun, hended, hW, hsame⟩ := X1.leave (v := none) (fun _ => rfl)
  refine ⟨_, _, pre0 _ ?_, hrun, hended, _, _, rfl, ?_, ⟨_, rfl⟩, hW, hsame.mono (by decide) (by decide)⟩
  · show Steps p.tables e below (s₁.setTop (mkF m 0 #[.val (.ref a)] [])) _
    refine XS.aloadN X0.here hx rfl (hb hby d27_0) rfl rfl ?_
    refine st1.trans ?_
    exact X1.returnOut hx Bd.returns (hb hby d27_4) hr
  · show Qrm27 Z a h0 n0 _ T1.heap _
    rw [e1q]
    exact ⟨rfl, N1, rfl⟩
theorem hwd166 {Z : State} {a0 : Array Value} (hw : ∀ d ∈ tables_1, d.before a0 Z = true) : (Jvm.Cond.methodLink "java/util/ImmutableCollections$AbstractImmutableList" (1 : Nat) ({ cls := "java/util/ImmutableCollections$AbstractImmutableCollection", name := "<init>", desc := "()V" } : Jvm.MethodName)).before a0 Z = true := hw _ (List.mem_of_getElem? (i := 166) rfl)
theorem hwd171 {Z : State} {a0 : Array Value} (hw : ∀ d ∈ tables_1, d.before a0 Z = true) : (Jvm.Cond.code ({ cls := "java/util/ImmutableCollections$AbstractImmutableCollection", name := "<init>", desc := "()V" } : Jvm.MethodName) jdk_47_method_1_code (1 : Nat) (Option.none : Option Jvm.ClassFile.FieldType)).before a0 Z = true := hw _ (List.mem_of_getElem? (i := 171) rfl)
theorem hwd170 {Z : State} {a0 : Array Value} (hw : ∀ d ∈ tables_1, d.before a0 Z = true) : (Jvm.Cond.initialized "java/util/ImmutableCollections$AbstractImmutableCollection").before a0 Z = true := hw _ (List.mem_of_getElem? (i := 170) rfl)
theorem hwd167 {Z : State} {a0 : Array Value} (hw : ∀ d ∈ tables_1, d.before a0 Z = true) : (Jvm.Cond.instanceMethod ({ cls := "java/util/ImmutableCollections$AbstractImmutableCollection", name := "<init>", desc := "()V" } : Jvm.MethodName)).before a0 Z = true := hw _ (List.mem_of_getElem? (i := 167) rfl)
theorem d26_0 : decode jdk_46_method_1_code 0 = .ok (.aload_n 0, 1) := by decide +kernel
theorem d26_1 : decode jdk_46_method_1_code 1 = .ok (.invokespecial 1, 3) := by decide +kernel
theorem d26_4 : decode jdk_46_method_1_code 4 = .ok (.return_, 1) := by decide +kernel
theorem pn_3 : plainName "java/util/ImmutableCollections$AbstractImmutableList" = true := by first | (simp [plainName, overriddenIn]; done) | decide +kernel
theorem ef_26 (m : MethodId) (x0 : Addr) : entryFrame m #[(.ref x0)] 1 = mkF m 0 #[.val (.ref x0)] [] := by first | (simp [entryFrame, mkF, argsToLocals, Value.category]; done) | rfl
def Qrm26 (Z : State) (a : Addr) (h0 : Heap) (n0 : Nat) (v : Option Value) (h : Heap) (L : List Loc) : Prop := v = none ∧ Fr n0 L ∧ h = h0
set_option maxRecDepth 65536 in
set_option maxHeartbeats 40000000 in
abbrev my3 : MethodName := ⟨"java/util/ImmutableCollections$AbstractImmutableList", "<init>", "()V"⟩
abbrev Rm_rm26 : Room := { frames := 3, cells := 0, slots := 0, locals := 36 }
theorem rm26 (l : Launch) (Z : State) (a0 : Array Value) (hw : ∀ d ∈ tables_1, d.before a0 Z = true) (ws : List Jvm.Cond) (a : Addr) (h0 : Heap) (n0 : Nat) (Z0 : n0 ≤ h0.size) :
    MetFree l my3 (head1 (Jvm.Cond.code my3 jdk_46_method_1_code 1 none :: ws) Rm_rm26) (fun aa_ U => aa_ = #[(.ref a)] ∧ Z.Warmed39 U.vm ∧ U.heap = h0) (fun _ _ _ _ _ => True) (fun _ U oo_ U' => ∃ v L, oo_ = .returned v ∧ Qrm26 Z a h0 n0 v U'.heap L ∧ FrameEnd U oo_ U' L Rm_rm26.cells Rm_rm26.slots) := by
  refine MetFree.of_bodySF (plainFor_of_name pn_3) hisR ?_
  intro p e s m args below meth c s₁ Bd hml0 hP hK
  obtain ⟨rfl, hZ, hh⟩ := hP
  have hx := Bd.exec
  have hby := Bd.bytes
  have hml : c.maxLocals = 1 := hml0
  have hown : s.vm.findClass "java/util/ImmutableCollections$AbstractImmutableList" = some m.cls := findClass_of_methodNamed Bd.named
  have hnm := (name_of_methodNamed Bd.named Bd.method).1
  have X0 : Stand p l e Rm_rm26 s m #[(.ref a)] below meth c s₁ [] 0 0 := Stand.of_body Bd
  have e0 : s₁.heap = h0 := by rw [← hh, Bd.state]; rfl
  have N0 := Fr.nil n0
  have pre0 : ∀ tt_, Steps p.tables e below (s₁.setTop (mkF m 0 #[.val (.ref a)] [])) tt_ → Steps p.tables e below (s₁.setTop (entryFrame m #[(.ref a)] 1)) tt_ := fun tt_ kk_ => castTop (ef_26 m a) kk_
  obtain ⟨_, _, ⟨T1, L1, k1, n1⟩, -, X1, ⟨Lc1, hQ1, l1, y1, z1⟩, st1⟩ := X0.specialBack hx (y := my2) rfl hown (mvT hZ (hwd166 hw)) (mvT hZ (hwd167 hw)) (mvT hZ (hwd171 hw)) (by decide) (backOf (W := 0) (rm27 l Z a0 hw [] a h0 n0 Z0 ) hZ (hwd171 hw) (hwd170 hw) (by decide) (by decide)) (g := (mkF m 1 #[.val (.ref a)] [(.ref a)])) rfl (by rw [hml]; rfl) (Steps.refl _) (a := a) (argsL := []) (rest := []) (lenOf pd_0 rfl) rfl (by show 2 * 0 + _ ≤ _; exact Nat.le_of_eq rfl) (hb hby d26_1) (fun _ _ => ⟨rfl, e0, (by decide : 0 + 0 ≤ _), (by decide : 0 + 0 ≤ _)⟩)
  dsimp only [Pt.U, Pt.locs, Pt.cells, Pt.slots] at X1 l1 y1 z1 st1 hQ1
  subst l1 y1 z1
  obtain ⟨rfl, N1q, e1q⟩ := hQ1
  have N1 := Fr.app N0 N1q
  obtain ⟨fs, hr, hrun, hended, hW, hsame⟩ := X1.leave (v := none) (fun _ => rfl)
  refine ⟨_, _, pre0 _ ?_, hrun, hended, _, _, rfl, ?_, ⟨_, rfl⟩, hW, hsame.mono (by decide) (by decide)⟩
  · show Steps p.tables e below (s₁.setTop (mkF m 0 #[.val (.ref a)] [])) _
    refine XS.aloadN X0.here hx rfl (hb hby d26_0) rfl rfl ?_
    refine st1.trans ?_
    exact X1.returnOut hx Bd.returns (hb hby d26_4) hr
  · show Qrm26 Z a h0 n0 _ T1.heap _
    rw [e1q]
    exact ⟨rfl, N1, rfl⟩
theorem hwd13 {Z : State} {a0 : Array Value} (hw : ∀ d ∈ tables_1, d.before a0 Z = true) : (Jvm.Cond.methodLink "java/util/AbstractList" (1 : Nat) ({ cls := "java/util/AbstractCollection", name := "<init>", desc := "()V" } : Jvm.MethodName)).before a0 Z = true := hw _ (List.mem_of_getElem? (i := 13) rfl)
theorem hwd22 {Z : State} {a0 : Array Value} (hw : ∀ d ∈ tables_1, d.before a0 Z = true) : (Jvm.Cond.fieldLink "java/util/AbstractList" (7 : Nat) "java/util/AbstractList" "modCount" "I").before a0 Z = true := hw _ (List.mem_of_getElem? (i := 22) rfl)
theorem hwd23 {Z : State} {a0 : Array Value} (hw : ∀ d ∈ tables_1, d.before a0 Z = true) : (Jvm.Cond.lays "java/util/ArrayList" "java/util/AbstractList" "modCount" "I").before a0 Z = true := hw _ (List.mem_of_getElem? (i := 23) rfl)
theorem hwd2 {Z : State} {a0 : Array Value} (hw : ∀ d ∈ tables_1, d.before a0 Z = true) : (Jvm.Cond.instantiable "java/util/ArrayList" (3 : Nat)).before a0 Z = true := hw _ (List.mem_of_getElem? (i := 2) rfl)
theorem d2_0 : decode jdk_39_method_1_code 0 = .ok (.aload_n 0, 1) := by decide +kernel
theorem d2_1 : decode jdk_39_method_1_code 1 = .ok (.invokespecial 1, 3) := by decide +kernel
theorem d2_4 : decode jdk_39_method_1_code 4 = .ok (.aload_n 0, 1) := by decide +kernel
theorem d2_5 : decode jdk_39_method_1_code 5 = .ok (.iconst 0, 1) := by decide +kernel
theorem d2_6 : decode jdk_39_method_1_code 6 = .ok (.putfield 7, 3) := by decide +kernel
theorem d2_9 : decode jdk_39_method_1_code 9 = .ok (.return_, 1) := by decide +kernel
theorem pn_4 : plainName "java/util/AbstractList" = true := by first | (simp [plainName, overriddenIn]; done) | decide +kernel
theorem ef_2 (m : MethodId) (x0 : Addr) : entryFrame m #[(.ref x0)] 1 = mkF m 0 #[.val (.ref x0)] [] := by first | (simp [entryFrame, mkF, argsToLocals, Value.category]; done) | rfl
theorem hwd63 {Z : State} {a0 : Array Value} (hw : ∀ d ∈ tables_1, d.before a0 Z = true) : (Jvm.Cond.lays "java/util/ArrayList" "java/util/ArrayList" "size" "I").before a0 Z = true := hw _ (List.mem_of_getElem? (i := 63) rfl)
theorem hwd26 {Z : State} {a0 : Array Value} (hw : ∀ d ∈ tables_1, d.before a0 Z = true) : (Jvm.Cond.lays "java/util/ArrayList" "java/util/ArrayList" "elementData" "[Ljava/lang/Object;").before a0 Z = true := hw _ (List.mem_of_getElem? (i := 26) rfl)
def Qrm2 (Z : State) (a : Addr) (h0 : Heap) (n0 : Nat) (v : Option Value) (h : Heap) (L : List Loc) : Prop := v = none ∧ Fr n0 L ∧ Keep h0 h [a] ∧ Exa Z h a "java/util/ArrayList" ∧ Fld Z h a "java/util/ArrayList" "size" "I" (.int (0 : Int32)) ∧ Fld Z h a "java/util/ArrayList" "elementData" "[Ljava/lang/Object;" .null ∧ Fld Z h a "java/util/AbstractList" "modCount" "I" (.int (0 : Int32))
set_option maxRecDepth 65536 in
set_option maxHeartbeats 40000000 in
abbrev my4 : MethodName := ⟨"java/util/AbstractList", "<init>", "()V"⟩
abbrev Rm_rm2 : Room := { frames := 2, cells := 0, slots := 0, locals := 24 }
theorem rm2 (l : Launch) (Z : State) (a0 : Array Value) (hw : ∀ d ∈ tables_1, d.before a0 Z = true) (ws : List Jvm.Cond) (a : Addr) (h0 : Heap) (n0 : Nat) (Z0 : n0 ≤ h0.size) (E_a : Exa Z h0 a "java/util/ArrayList") (F_size_a : Fld Z h0 a "java/util/ArrayList" "size" "I" (.int (0 : Int32))) (F_elementData_a : Fld Z h0 a "java/util/ArrayList" "elementData" "[Ljava/lang/Object;" .null) (F_modCount_a : Fld Z h0 a "java/util/AbstractList" "modCount" "I" (.int (0 : Int32))) (g_a : n0 ≤ a) :
    MetFree l my4 (head1 (Jvm.Cond.code my4 jdk_39_method_1_code 1 none :: ws) Rm_rm2) (fun aa_ U => aa_ = #[(.ref a)] ∧ Z.Warmed39 U.vm ∧ U.heap = h0) (fun _ _ _ _ _ => True) (fun _ U oo_ U' => ∃ v L, oo_ = .returned v ∧ Qrm2 Z a h0 n0 v U'.heap L ∧ FrameEnd U oo_ U' L Rm_rm2.cells Rm_rm2.slots) := by
  refine MetFree.of_bodySF (plainFor_of_name pn_4) hisR ?_
  intro p e s m args below meth c s₁ Bd hml0 hP hK
  obtain ⟨rfl, hZ, hh⟩ := hP
  have hx := Bd.exec
  have hby := Bd.bytes
  have hml : c.maxLocals = 1 := hml0
  have hown : s.vm.findClass "java/util/AbstractList" = some m.cls := findClass_of_methodNamed Bd.named
  have hnm := (name_of_methodNamed Bd.named Bd.method).1
  have X0 : Stand p l e Rm_rm2 s m #[(.ref a)] below meth c s₁ [] 0 0 := Stand.of_body Bd
  have e0 : s₁.heap = h0 := by rw [← hh, Bd.state]; rfl
  have N0 := Fr.nil n0
  have pre0 : ∀ tt_, Steps p.tables e below (s₁.setTop (mkF m 0 #[.val (.ref a)] [])) tt_ → Steps p.tables e below (s₁.setTop (entryFrame m #[(.ref a)] 1)) tt_ := fun tt_ kk_ => castTop (ef_2 m a) kk_
  obtain ⟨_, _, ⟨T1, L1, k1, n1⟩, -, X1, ⟨Lc1, hQ1, l1, y1, z1⟩, st1⟩ := X0.specialBack hx (y := my0) rfl hown (mvT hZ (hwd13 hw)) (mvT hZ (hwd14 hw)) (mvT hZ (hwd18 hw)) (by decide) (backOf (W := 0) (rm3 l Z a0 hw [] a h0 n0 Z0 ) hZ (hwd18 hw) (hwd17 hw) (by decide) (by decide)) (g := (mkF m 1 #[.val (.ref a)] [(.ref a)])) rfl (by rw [hml]; rfl) (Steps.refl _) (a := a) (argsL := []) (rest := []) (lenOf pd_0 rfl) rfl (by show 2 * 0 + _ ≤ _; exact Nat.le_of_eq rfl) (hb hby d2_1) (fun _ _ => ⟨rfl, e0, (by decide : 0 + 0 ≤ _), (by decide : 0 + 0 ≤ _)⟩)
  dsimp only [Pt.U, Pt.locs, Pt.cells, Pt.slots] at X1 l1 y1 z1 st1 hQ1
  subst l1 y1 z1
  obtain ⟨rfl, N1q, e1q⟩ := hQ1
  have N1 := Fr.app N0 N1q
  obtain ⟨T2, h2, X2, e2, W2, st2⟩ := putF X1 hx hZ hown (host := "") (Or.inl (hwd22 hw)) Via.refl e1q F_modCount_a E_a (Or.inl (hwd23 hw)) (hwd2 hw) (ty := .int) (by decide) rfl rfl (g := (mkF m 6 #[.val (.ref a)] [(.int (0 : Int32)), (.ref a)])) rfl rfl (hb hby d2_6)
  have N2 := Fr.snoc X2 N1 g_a
  have Fw2 := F_modCount_a.same W2
  have kp3 : Keep h0 h2 [a] := ((Keep.refl h0 [a]).wr W2 (Or.inl (List.mem_of_getElem? (i := 0) rfl)))
  have f4_E_a := (E_a.wr W2)
  have f5_F_a_size := (F_size_a.other W2 (Or.inr (slot_ne (Or.inl (hwd63 hw)) (Or.inl (hwd23 hw)) (by decide) (t := .int) (t' := .int) (by decide) (by decide))))
  have f6_F_a_elementData := (F_elementData_a.other W2 (Or.inr (slot_ne (Or.inl (hwd26 hw)) (Or.inl (hwd23 hw)) (by decide) (t := (.array (.object "java/lang/Object"))) (t' := .int) (by decide) (by decide))))
  obtain ⟨fs, hr, hrun, hended, hW, hsame⟩ := X2.leave (v := none) (fun _ => rfl)
  refine ⟨_, _, pre0 _ ?_, hrun, hended, _, _, rfl, ?_, ⟨_, rfl⟩, hW, hsame.mono (by decide) (by decide)⟩
  · show Steps p.tables e below (s₁.setTop (mkF m 0 #[.val (.ref a)] [])) _
    refine XS.aloadN X0.here hx rfl (hb hby d2_0) rfl rfl ?_
    refine st1.trans ?_
    refine XS.aloadN X1.here hx rfl (hb hby d2_4) rfl rfl ?_
    refine XS.iconst X1.here hx rfl (hb hby d2_5) ?_
    refine st2 _ ?_
    exact X2.returnOut hx Bd.returns (hb hby d2_9) hr
  · show Qrm2 Z a h0 n0 _ T2.heap _
    rw [e2]
    exact ⟨rfl, N2, kp3, f4_E_a, f5_F_a_size, f6_F_a_elementData, Fw2⟩
theorem hwd7 {Z : State} {a0 : Array Value} (hw : ∀ d ∈ tables_1, d.before a0 Z = true) : (Jvm.Cond.methodLink "java/util/ArrayList" (1 : Nat) ({ cls := "java/util/AbstractList", name := "<init>", desc := "()V" } : Jvm.MethodName)).before a0 Z = true := hw _ (List.mem_of_getElem? (i := 7) rfl)
theorem hwd12 {Z : State} {a0 : Array Value} (hw : ∀ d ∈ tables_1, d.before a0 Z = true) : (Jvm.Cond.code ({ cls := "java/util/AbstractList", name := "<init>", desc := "()V" } : Jvm.MethodName) jdk_39_method_1_code (1 : Nat) (Option.none : Option Jvm.ClassFile.FieldType)).before a0 Z = true := hw _ (List.mem_of_getElem? (i := 12) rfl)
theorem hwd11 {Z : State} {a0 : Array Value} (hw : ∀ d ∈ tables_1, d.before a0 Z = true) : (Jvm.Cond.initialized "java/util/AbstractList").before a0 Z = true := hw _ (List.mem_of_getElem? (i := 11) rfl)
theorem hwd8 {Z : State} {a0 : Array Value} (hw : ∀ d ∈ tables_1, d.before a0 Z = true) : (Jvm.Cond.instanceMethod ({ cls := "java/util/AbstractList", name := "<init>", desc := "()V" } : Jvm.MethodName)).before a0 Z = true := hw _ (List.mem_of_getElem? (i := 8) rfl)
theorem hwd24 {Z : State} {a0 : Array Value} (hw : ∀ d ∈ tables_1, d.before a0 Z = true) : (Jvm.Cond.fieldLink "java/util/ArrayList" (39 : Nat) "java/util/ArrayList" "DEFAULTCAPACITY_EMPTY_ELEMENTDATA" "[Ljava/lang/Object;").before a0 Z = true := hw _ (List.mem_of_getElem? (i := 24) rfl)
theorem hwd25 {Z : State} {a0 : Array Value} (hw : ∀ d ∈ tables_1, d.before a0 Z = true) : (Jvm.Cond.fieldLink "java/util/ArrayList" (9 : Nat) "java/util/ArrayList" "elementData" "[Ljava/lang/Object;").before a0 Z = true := hw _ (List.mem_of_getElem? (i := 25) rfl)
theorem d1_0 : decode jdk_38_method_2_code 0 = .ok (.aload_n 0, 1) := by decide +kernel
theorem d1_1 : decode jdk_38_method_2_code 1 = .ok (.invokespecial 1, 3) := by decide +kernel
theorem d1_4 : decode jdk_38_method_2_code 4 = .ok (.aload_n 0, 1) := by decide +kernel
theorem d1_5 : decode jdk_38_method_2_code 5 = .ok (.getstatic 39, 3) := by decide +kernel
theorem d1_8 : decode jdk_38_method_2_code 8 = .ok (.putfield 9, 3) := by decide +kernel
theorem d1_11 : decode jdk_38_method_2_code 11 = .ok (.return_, 1) := by decide +kernel
theorem pn_5 : plainName "java/util/ArrayList" = true := by first | (simp [plainName, overriddenIn]; done) | decide +kernel
theorem ef_1 (m : MethodId) (x0 : Addr) : entryFrame m #[(.ref x0)] 1 = mkF m 0 #[.val (.ref x0)] [] := by first | (simp [entryFrame, mkF, argsToLocals, Value.category]; done) | rfl
def Qrm1 (Z : State) (a : Addr) (dd : Addr) (h0 : Heap) (n0 : Nat) (v : Option Value) (h : Heap) (L : List Loc) : Prop := v = none ∧ Fr n0 L ∧ Keep h0 h [a] ∧ Exa Z h a "java/util/ArrayList" ∧ Fld Z h a "java/util/ArrayList" "size" "I" (.int (0 : Int32)) ∧ Fld Z h a "java/util/ArrayList" "elementData" "[Ljava/lang/Object;" (.ref dd) ∧ Fld Z h a "java/util/AbstractList" "modCount" "I" (.int (0 : Int32))
set_option maxRecDepth 65536 in
set_option maxHeartbeats 40000000 in
abbrev my5 : MethodName := ⟨"java/util/ArrayList", "<init>", "()V"⟩
abbrev Rm_rm1 : Room := { frames := 3, cells := 0, slots := 0, locals := 36 }
theorem rm1 (l : Launch) (Z : State) (a0 : Array Value) (hw : ∀ d ∈ tables_1, d.before a0 Z = true) (ws : List Jvm.Cond) (a : Addr) (dd : Addr) (h0 : Heap) (n0 : Nat) (Z0 : n0 ≤ h0.size) (E_a : Exa Z h0 a "java/util/ArrayList") (F_size_a : Fld Z h0 a "java/util/ArrayList" "size" "I" (.int (0 : Int32))) (F_elementData_a : Fld Z h0 a "java/util/ArrayList" "elementData" "[Ljava/lang/Object;" .null) (F_modCount_a : Fld Z h0 a "java/util/AbstractList" "modCount" "I" (.int (0 : Int32))) (g_a : n0 ≤ a) (O_D : Sta Z Z.heap "java/util/ArrayList" "DEFAULTCAPACITY_EMPTY_ELEMENTDATA" "[Ljava/lang/Object;" (.ref dd)) (X00 : Old Z n0 h0) :
    MetFree l my5 (head1 (Jvm.Cond.code my5 jdk_38_method_2_code 1 none :: ws) Rm_rm1) (fun aa_ U => aa_ = #[(.ref a)] ∧ Z.Warmed39 U.vm ∧ U.heap = h0) (fun _ _ _ _ _ => True) (fun _ U oo_ U' => ∃ v L, oo_ = .returned v ∧ Qrm1 Z a dd h0 n0 v U'.heap L ∧ FrameEnd U oo_ U' L Rm_rm1.cells Rm_rm1.slots) := by
  refine MetFree.of_bodySF (plainFor_of_name pn_5) hisR ?_
  intro p e s m args below meth c s₁ Bd hml0 hP hK
  obtain ⟨rfl, hZ, hh⟩ := hP
  have hx := Bd.exec
  have hby := Bd.bytes
  have hml : c.maxLocals = 1 := hml0
  have hown : s.vm.findClass "java/util/ArrayList" = some m.cls := findClass_of_methodNamed Bd.named
  have hnm := (name_of_methodNamed Bd.named Bd.method).1
  have X0 : Stand p l e Rm_rm1 s m #[(.ref a)] below meth c s₁ [] 0 0 := Stand.of_body Bd
  have e0 : s₁.heap = h0 := by rw [← hh, Bd.state]; rfl
  have N0 := Fr.nil n0
  have pre0 : ∀ tt_, Steps p.tables e below (s₁.setTop (mkF m 0 #[.val (.ref a)] [])) tt_ → Steps p.tables e below (s₁.setTop (entryFrame m #[(.ref a)] 1)) tt_ := fun tt_ kk_ => castTop (ef_1 m a) kk_
  obtain ⟨_, _, ⟨T1, L1, k1, n1⟩, -, X1, ⟨Lc1, hQ1, l1, y1, z1⟩, st1⟩ := X0.specialBack hx (y := my4) rfl hown (mvT hZ (hwd7 hw)) (mvT hZ (hwd8 hw)) (mvT hZ (hwd12 hw)) (by decide) (backOf (W := 0) (rm2 l Z a0 hw [] a h0 n0 Z0 E_a F_size_a F_elementData_a F_modCount_a g_a) hZ (hwd12 hw) (hwd11 hw) (by decide) (by decide)) (g := (mkF m 1 #[.val (.ref a)] [(.ref a)])) rfl (by rw [hml]; rfl) (Steps.refl _) (a := a) (argsL := []) (rest := []) (lenOf pd_0 rfl) rfl (by show 2 * 0 + _ ≤ _; exact Nat.le_of_eq rfl) (hb hby d1_1) (fun _ _ => ⟨rfl, e0, (by decide : 0 + 0 ≤ _), (by decide : 0 + 0 ≤ _)⟩)
  dsimp only [Pt.U, Pt.locs, Pt.cells, Pt.slots] at X1 l1 y1 z1 st1 hQ1
  subst l1 y1 z1
  obtain ⟨rfl, N1q, K1, p1_1, p1_2, p1_3, p1_4⟩ := hQ1
  have N1 := Fr.app N0 N1q
  have old2 : Old Z n0 T1.heap := (X00.keep K1 (allS g_a all0))
  obtain ⟨T3, X3, e3, st3⟩ := getS2 X1 hx hZ hown (host := "") (Or.inl (hwd24 hw)) Via.refl rfl (O_D.ext old2.2) (g := (mkF m 5 #[.val (.ref a)] [(.ref a)])) rfl (hb hby d1_5)
  obtain ⟨T4, h4, X4, e4, W4, st4⟩ := putF X3 hx hZ hown (host := "") (Or.inl (hwd25 hw)) Via.refl e3 p1_3 p1_1 (Or.inl (hwd26 hw)) (hwd2 hw) (ty := (.array (.object "java/lang/Object"))) (by decide) rfl rfl (g := (mkF m 8 #[.val (.ref a)] [(.ref dd), (.ref a)])) rfl rfl (hb hby d1_8)
  have N4 := Fr.snoc X4 N1 g_a
  have Fw4 := p1_3.same W4
  have kp5 : Keep h0 h4 [a] := (((Keep.refl h0 [a]).trans K1 (allS (Or.inl (List.mem_of_getElem? (i := 0) rfl)) all0)).wr W4 (Or.inl (List.mem_of_getElem? (i := 0) rfl)))
  have f6_E_a := (p1_1.wr W4)
  have f7_F_a_size := (p1_2.other W4 (Or.inr (slot_ne (Or.inl (hwd63 hw)) (Or.inl (hwd26 hw)) (by decide) (t := .int) (t' := (.array (.object "java/lang/Object"))) (by decide) (by decide))))
  have f8_F_a_modCount := (p1_4.other W4 (Or.inr (slot_ne (Or.inl (hwd23 hw)) (Or.inl (hwd26 hw)) (by decide) (t := .int) (t' := (.array (.object "java/lang/Object"))) (by decide) (by decide))))
  obtain ⟨fs, hr, hrun, hended, hW, hsame⟩ := X4.leave (v := none) (fun _ => rfl)
  refine ⟨_, _, pre0 _ ?_, hrun, hended, _, _, rfl, ?_, ⟨_, rfl⟩, hW, hsame.mono (by decide) (by decide)⟩
  · show Steps p.tables e below (s₁.setTop (mkF m 0 #[.val (.ref a)] [])) _
    refine XS.aloadN X0.here hx rfl (hb hby d1_0) rfl rfl ?_
    refine st1.trans ?_
    refine XS.aloadN X1.here hx rfl (hb hby d1_4) rfl rfl ?_
    refine st3 _ ?_
    refine st4 _ ?_
    exact X4.returnOut hx Bd.returns (hb hby d1_11) hr
  · show Qrm1 Z a dd h0 n0 _ T4.heap _
    rw [e4]
    exact ⟨rfl, N4, kp5, f6_E_a, f7_F_a_size, Fw4, f8_F_a_modCount⟩
theorem hwd62 {Z : State} {a0 : Array Value} (hw : ∀ d ∈ tables_1, d.before a0 Z = true) : (Jvm.Cond.fieldLink "java/util/ArrayList" (48 : Nat) "java/util/ArrayList" "size" "I").before a0 Z = true := hw _ (List.mem_of_getElem? (i := 62) rfl)
theorem d9_0 : decode jdk_38_method_9_code 0 = .ok (.aload_n 0, 1) := by decide +kernel
theorem d9_1 : decode jdk_38_method_9_code 1 = .ok (.getfield 48, 3) := by decide +kernel
theorem d9_4 : decode jdk_38_method_9_code 4 = .ok (.ifCond .ne 7, 3) := by decide +kernel
theorem d9_7 : decode jdk_38_method_9_code 7 = .ok (.iconst 1, 1) := by decide +kernel
theorem d9_8 : decode jdk_38_method_9_code 8 = .ok (.goto 4, 3) := by decide +kernel
theorem d9_12 : decode jdk_38_method_9_code 12 = .ok (.ireturn, 1) := by decide +kernel
theorem ef_9 (m : MethodId) (x0 : Addr) : entryFrame m #[(.ref x0)] 1 = mkF m 0 #[.val (.ref x0)] [] := by first | (simp [entryFrame, mkF, argsToLocals, Value.category]; done) | rfl
def Qrm9 (Z : State) (a : Addr) (w : Int32) (h0 : Heap) (n0 : Nat) (v : Option Value) (h : Heap) (L : List Loc) : Prop := v = some (.int (if w = (0 : Int32) then (1 : Int32) else (0 : Int32))) ∧ Fr n0 L ∧ h = h0
set_option maxRecDepth 65536 in
set_option maxHeartbeats 40000000 in
abbrev my6 : MethodName := ⟨"java/util/ArrayList", "isEmpty", "()Z"⟩
abbrev Rm_rm9 : Room := { frames := 0, cells := 0, slots := 0, locals := 0 }
theorem rm9f (l : Launch) (Z : State) (a0 : Array Value) (hw : ∀ d ∈ tables_1, d.before a0 Z = true) (ws : List Jvm.Cond) (a : Addr) (w : Int32) (h0 : Heap) (n0 : Nat) (Z0 : n0 ≤ h0.size) (F_size_a : Fld Z h0 a "java/util/ArrayList" "size" "I" (.int w)) (hc4 : w = (0 : Int32)) :
    MetFree l my6 (head1 (Jvm.Cond.code my6 jdk_38_method_9_code 1 (some .boolean) :: ws) Rm_rm9) (fun aa_ U => aa_ = #[(.ref a)] ∧ Z.Warmed39 U.vm ∧ U.heap = h0) (fun _ _ _ _ _ => True) (fun _ U oo_ U' => ∃ v L, oo_ = .returned v ∧ Qrm9 Z a w h0 n0 v U'.heap L ∧ FrameEnd U oo_ U' L Rm_rm9.cells Rm_rm9.slots) := by
  refine MetFree.of_bodySF (plainFor_of_name pn_5) hisR ?_
  intro p e s m args below meth c s₁ Bd hml0 hP hK
  obtain ⟨rfl, hZ, hh⟩ := hP
  have hx := Bd.exec
  have hby := Bd.bytes
  have hml : c.maxLocals = 1 := hml0
  have hown : s.vm.findClass "java/util/ArrayList" = some m.cls := findClass_of_methodNamed Bd.named
  have hnm := (name_of_methodNamed Bd.named Bd.method).1
  have X0 : Stand p l e Rm_rm9 s m #[(.ref a)] below meth c s₁ [] 0 0 := Stand.of_body Bd
  have e0 : s₁.heap = h0 := by rw [← hh, Bd.state]; rfl
  have N0 := Fr.nil n0
  have pre0 : ∀ tt_, Steps p.tables e below (s₁.setTop (mkF m 0 #[.val (.ref a)] [])) tt_ → Steps p.tables e below (s₁.setTop (entryFrame m #[(.ref a)] 1)) tt_ := fun tt_ kk_ => castTop (ef_9 m a) kk_
  obtain ⟨T1, X1, e1, st1⟩ := getF X0 hx hZ hown (host := "") (Or.inl (hwd62 hw)) Via.refl e0 F_size_a (g := (mkF m 1 #[.val (.ref a)] [(.ref a)])) rfl rfl (hb hby d9_1)
  obtain ⟨fs, hr, hrun, hended, hW, hsame⟩ := X1.leave (v := some (.int (1 : Int32))) (fun h => by rw [Bd.returns] at h; cases h)
  refine ⟨_, _, pre0 _ ?_, hrun, hended, _, _, rfl, ?_, ⟨_, rfl⟩, hW, hsame.mono (by decide) (by decide)⟩
  · show Steps p.tables e below (s₁.setTop (mkF m 0 #[.val (.ref a)] [])) _
    refine XS.aloadN X0.here hx rfl (hb hby d9_0) rfl rfl ?_
    refine st1 _ ?_
    refine XS.ifNo X1.here hx rfl (hb hby d9_4) rfl ((if0 _ _).trans (teq (show w = (0 : Int32) from hc4)).2) ?_
    refine XS.iconst X1.here hx rfl (hb hby d9_7) ?_
    refine XS.goto X1.here hx rfl (pc0 := 8) (pc' := 12) rfl (hb hby d9_8) (by decide) (by decide) ?_
    exact retN X1 hx (t := .boolean) Bd.returns (by simp) (hb hby d9_12) hr
  · show Qrm9 Z a w h0 n0 _ T1.heap _
    rw [e1]
    exact ⟨by rw [if_pos hc4], N0, rfl⟩
theorem d9_11 : decode jdk_38_method_9_code 11 = .ok (.iconst 0, 1) := by decide +kernel
set_option maxRecDepth 65536 in
set_option maxHeartbeats 40000000 in
theorem rm9t (l : Launch) (Z : State) (a0 : Array Value) (hw : ∀ d ∈ tables_1, d.before a0 Z = true) (ws : List Jvm.Cond) (a : Addr) (w : Int32) (h0 : Heap) (n0 : Nat) (Z0 : n0 ≤ h0.size) (F_size_a : Fld Z h0 a "java/util/ArrayList" "size" "I" (.int w)) (hc4 : ¬ (w = (0 : Int32))) :
    MetFree l my6 (head1 (Jvm.Cond.code my6 jdk_38_method_9_code 1 (some .boolean) :: ws) Rm_rm9) (fun aa_ U => aa_ = #[(.ref a)] ∧ Z.Warmed39 U.vm ∧ U.heap = h0) (fun _ _ _ _ _ => True) (fun _ U oo_ U' => ∃ v L, oo_ = .returned v ∧ Qrm9 Z a w h0 n0 v U'.heap L ∧ FrameEnd U oo_ U' L Rm_rm9.cells Rm_rm9.slots) := by
  refine MetFree.of_bodySF (plainFor_of_name pn_5) hisR ?_
  intro p e s m args below meth c s₁ Bd hml0 hP hK
  obtain ⟨rfl, hZ, hh⟩ := hP
  have hx := Bd.exec
  have hby := Bd.bytes
  have hml : c.maxLocals = 1 := hml0
  have hown : s.vm.findClass "java/util/ArrayList" = some m.cls := findClass_of_methodNamed Bd.named
  have hnm := (name_of_methodNamed Bd.named Bd.method).1
  have X0 : Stand p l e Rm_rm9 s m #[(.ref a)] below meth c s₁ [] 0 0 := Stand.of_body Bd
  have e0 : s₁.heap = h0 := by rw [← hh, Bd.state]; rfl
  have N0 := Fr.nil n0
  have pre0 : ∀ tt_, Steps p.tables e below (s₁.setTop (mkF m 0 #[.val (.ref a)] [])) tt_ → Steps p.tables e below (s₁.setTop (entryFrame m #[(.ref a)] 1)) tt_ := fun tt_ kk_ => castTop (ef_9 m a) kk_
  obtain ⟨T1, X1, e1, st1⟩ := getF X0 hx hZ hown (host := "") (Or.inl (hwd62 hw)) Via.refl e0 F_size_a (g := (mkF m 1 #[.val (.ref a)] [(.ref a)])) rfl rfl (hb hby d9_1)
  obtain ⟨fs, hr, hrun, hended, hW, hsame⟩ := X1.leave (v := some (.int (0 : Int32))) (fun h => by rw [Bd.returns] at h; cases h)
  refine ⟨_, _, pre0 _ ?_, hrun, hended, _, _, rfl, ?_, ⟨_, rfl⟩, hW, hsame.mono (by decide) (by decide)⟩
  · show Steps p.tables e below (s₁.setTop (mkF m 0 #[.val (.ref a)] [])) _
    refine XS.aloadN X0.here hx rfl (hb hby d9_0) rfl rfl ?_
    refine st1 _ ?_
    refine XS.ifYes X1.here hx rfl (pc0 := 4) (pc' := 11) rfl (hb hby d9_4) rfl ((if0 _ _).trans (feq (show ¬ (w = (0 : Int32)) from hc4)).2) (by decide) (by decide) ?_
    refine XS.iconst X1.here hx rfl (hb hby d9_11) ?_
    exact retN X1 hx (t := .boolean) Bd.returns (by simp) (hb hby d9_12) hr
  · show Qrm9 Z a w h0 n0 _ T1.heap _
    rw [e1]
    exact ⟨by rw [if_neg hc4], N0, rfl⟩
theorem rm9 (l : Launch) (Z : State) (a0 : Array Value) (hw : ∀ d ∈ tables_1, d.before a0 Z = true) (ws : List Jvm.Cond) (a : Addr) (w : Int32) (h0 : Heap) (n0 : Nat) (Z0 : n0 ≤ h0.size) (F_size_a : Fld Z h0 a "java/util/ArrayList" "size" "I" (.int w)) :
    MetFree l my6 (head1 (Jvm.Cond.code my6 jdk_38_method_9_code 1 (some .boolean) :: ws) Rm_rm9) (fun aa_ U => aa_ = #[(.ref a)] ∧ Z.Warmed39 U.vm ∧ U.heap = h0) (fun _ _ _ _ _ => True) (fun _ U oo_ U' => ∃ v L, oo_ = .returned v ∧ Qrm9 Z a w h0 n0 v U'.heap L ∧ FrameEnd U oo_ U' L Rm_rm9.cells Rm_rm9.slots) := by
  by_cases h : w = (0 : Int32)
  · exact rm9f l Z a0 hw ws a w h0 n0 Z0 F_size_a h
  · exact rm9t l Z a0 hw ws a w h0 n0 Z0 F_size_a h
theorem hwd67 {Z : State} {a0 : Array Value} (hw : ∀ d ∈ tables_1, d.before a0 Z = true) : (Jvm.Cond.fieldLink "java/util/List" (90 : Nat) "java/util/ImmutableCollections" "EMPTY_LIST" "Ljava/util/ImmutableCollections$ListN;").before a0 Z = true := hw _ (List.mem_of_getElem? (i := 67) rfl)
theorem d10_0 : decode jdk_40_method_36_code 0 = .ok (.getstatic 90, 3) := by decide +kernel
theorem d10_3 : decode jdk_40_method_36_code 3 = .ok (.areturn, 1) := by decide +kernel
theorem pn_6 : plainName "java/util/List" = true := by first | (simp [plainName, overriddenIn]; done) | decide +kernel
theorem ef_10 (m : MethodId)  : entryFrame m #[] 0 = mkF m 0 #[] [] := by first | (simp [entryFrame, mkF, argsToLocals, Value.category]; done) | rfl
def Qrm10 (Z : State) (el : Addr) (h0 : Heap) (n0 : Nat) (v : Option Value) (h : Heap) (L : List Loc) : Prop := v = some (.ref el) ∧ Fr n0 L ∧ h = h0
set_option maxRecDepth 65536 in
set_option maxHeartbeats 40000000 in
abbrev my7 : MethodName := ⟨"java/util/List", "of", "()Ljava/util/List;"⟩
abbrev Rm_rm10 : Room := { frames := 0, cells := 0, slots := 0, locals := 0 }
theorem rm10 (l : Launch) (Z : State) (a0 : Array Value) (hw : ∀ d ∈ tables_1, d.before a0 Z = true) (ws : List Jvm.Cond) (el : Addr) (h0 : Heap) (n0 : Nat) (Z0 : n0 ≤ h0.size) (O_L : Sta Z Z.heap "java/util/ImmutableCollections" "EMPTY_LIST" "Ljava/util/ImmutableCollections$ListN;" (.ref el)) (X00 : Old Z n0 h0) :
    MetFree l my7 (head1 (Jvm.Cond.code my7 jdk_40_method_36_code 0 (some (.object "java/util/List")) :: ws) Rm_rm10) (fun aa_ U => aa_ = #[] ∧ Z.Warmed39 U.vm ∧ U.heap = h0) (fun _ _ _ _ _ => True) (fun _ U oo_ U' => ∃ v L, oo_ = .returned v ∧ Qrm10 Z el h0 n0 v U'.heap L ∧ FrameEnd U oo_ U' L Rm_rm10.cells Rm_rm10.slots) := by
  refine MetFree.of_bodySF (plainFor_of_name pn_6) hisR ?_
  intro p e s m args below meth c s₁ Bd hml0 hP hK
  obtain ⟨rfl, hZ, hh⟩ := hP
  have hx := Bd.exec
  have hby := Bd.bytes
  have hml : c.maxLocals = 0 := hml0
  have hown : s.vm.findClass "java/util/List" = some m.cls := findClass_of_methodNamed Bd.named
  have hnm := (name_of_methodNamed Bd.named Bd.method).1
  have X0 : Stand p l e Rm_rm10 s m #[] below meth c s₁ [] 0 0 := Stand.of_body Bd
  have e0 : s₁.heap = h0 := by rw [← hh, Bd.state]; rfl
  have N0 := Fr.nil n0
  have pre0 : ∀ tt_, Steps p.tables e below (s₁.setTop (mkF m 0 #[] [])) tt_ → Steps p.tables e below (s₁.setTop (entryFrame m #[] 0)) tt_ := fun tt_ kk_ => castTop (ef_10 m) kk_
  obtain ⟨T1, X1, e1, st1⟩ := getS2 X0 hx hZ hown (host := "") (Or.inl (hwd67 hw)) Via.refl e0 (O_L.ext X00.2) (g := (mkF m 0 #[] [])) rfl (hb hby d10_0)
  obtain ⟨fs, hr, hrun, hended, hW, hsame⟩ := X1.leave (v := some (.ref el)) (fun h => by rw [Bd.returns] at h; cases h)
  refine ⟨_, _, pre0 _ ?_, hrun, hended, _, _, rfl, ?_, ⟨_, rfl⟩, hW, hsame.mono (by decide) (by decide)⟩
  · show Steps p.tables e below (s₁.setTop (mkF m 0 #[] [])) _
    refine st1 _ ?_
    jvm_step X1.here [X1.here.top, hx, (hb hby d10_3), X1.method', Bd.returns, Value.isRef, FieldType.isReference]
    first | (intro acts; rw [hr _ acts rfl rfl rfl]) | rw [hr _ _ rfl rfl rfl]
    exact Steps.refl _
  · show Qrm10 Z el h0 n0 _ T1.heap _
    rw [e1]
    exact ⟨rfl, N0, rfl⟩
theorem hwd215 {Z : State} {a0 : Array Value} (hw : ∀ d ∈ tables_1, d.before a0 Z = true) : (Jvm.Cond.instantiable "java/util/ImmutableCollections$List12" (2 : Nat)).before a0 Z = true := hw _ (List.mem_of_getElem? (i := 215) rfl)
theorem hwd154 {Z : State} {a0 : Array Value} (hw : ∀ d ∈ tables_1, d.before a0 Z = true) : (Jvm.Cond.instantiable "java/util/ImmutableCollections$ListN" (2 : Nat)).before a0 Z = true := hw _ (List.mem_of_getElem? (i := 154) rfl)
theorem hwd47 {Z : State} {a0 : Array Value} (hw : ∀ d ∈ tables_1, d.before a0 Z = true) : (Jvm.Cond.classLink "java/util/ImmutableCollections" (10 : Nat) "java/util/ImmutableCollections$List12").before a0 Z = true := hw _ (List.mem_of_getElem? (i := 47) rfl)
theorem hwd52 {Z : State} {a0 : Array Value} (hw : ∀ d ∈ tables_1, d.before a0 Z = true) : (Jvm.Cond.classLink "java/util/ImmutableCollections" (12 : Nat) "java/util/ImmutableCollections$ListN").before a0 Z = true := hw _ (List.mem_of_getElem? (i := 52) rfl)
theorem hwd53 {Z : State} {a0 : Array Value} (hw : ∀ d ∈ tables_1, d.before a0 Z = true) : (Jvm.Cond.methodLink "java/util/ImmutableCollections" (20 : Nat) ({ cls := "java/util/Collection", name := "isEmpty", desc := "()Z" } : Jvm.MethodName)).before a0 Z = true := hw _ (List.mem_of_getElem? (i := 53) rfl)
theorem hwd61 {Z : State} {a0 : Array Value} (hw : ∀ d ∈ tables_1, d.before a0 Z = true) : (Jvm.Cond.code ({ cls := "java/util/ArrayList", name := "isEmpty", desc := "()Z" } : Jvm.MethodName) jdk_38_method_9_code (1 : Nat) (Option.some Jvm.ClassFile.FieldType.boolean)).before a0 Z = true := hw _ (List.mem_of_getElem? (i := 61) rfl)
theorem hwd3 {Z : State} {a0 : Array Value} (hw : ∀ d ∈ tables_1, d.before a0 Z = true) : (Jvm.Cond.initialized "java/util/ArrayList").before a0 Z = true := hw _ (List.mem_of_getElem? (i := 3) rfl)
theorem pd_1 : parseMethodDescriptor "()Z" = some ⟨[], some .boolean⟩ := by decide +kernel
theorem hwd56 {Z : State} {a0 : Array Value} (hw : ∀ d ∈ tables_1, d.before a0 Z = true) : (Jvm.Cond.selects "java/util/ArrayList" ({ cls := "java/util/Collection", name := "isEmpty", desc := "()Z" } : Jvm.MethodName) ({ cls := "java/util/ArrayList", name := "isEmpty", desc := "()Z" } : Jvm.MethodName)).before a0 Z = true := hw _ (List.mem_of_getElem? (i := 56) rfl)
abbrev my8 : MethodName := ⟨"java/util/Collection", "isEmpty", "()Z"⟩
theorem hwd54 {Z : State} {a0 : Array Value} (hw : ∀ d ∈ tables_1, d.before a0 Z = true) : (Jvm.Cond.declares ({ cls := "java/util/Collection", name := "isEmpty", desc := "()Z" } : Jvm.MethodName)).before a0 Z = true := hw _ (List.mem_of_getElem? (i := 54) rfl)
theorem hwd55 {Z : State} {a0 : Array Value} (hw : ∀ d ∈ tables_1, d.before a0 Z = true) : (Jvm.Cond.interfaceMethod "java/util/Collection" "java/util/Collection" "isEmpty" "()Z").before a0 Z = true := hw _ (List.mem_of_getElem? (i := 55) rfl)
theorem hwd57 {Z : State} {a0 : Array Value} (hw : ∀ d ∈ tables_1, d.before a0 Z = true) : (Jvm.Cond.instanceMethod ({ cls := "java/util/ArrayList", name := "isEmpty", desc := "()Z" } : Jvm.MethodName)).before a0 Z = true := hw _ (List.mem_of_getElem? (i := 57) rfl)
theorem hwd58 {Z : State} {a0 : Array Value} (hw : ∀ d ∈ tables_1, d.before a0 Z = true) : (Jvm.Cond.publicMethod ({ cls := "java/util/ArrayList", name := "isEmpty", desc := "()Z" } : Jvm.MethodName)).before a0 Z = true := hw _ (List.mem_of_getElem? (i := 58) rfl)
theorem hwd59 {Z : State} {a0 : Array Value} (hw : ∀ d ∈ tables_1, d.before a0 Z = true) : (Jvm.Cond.unhidden "java/util/ArrayList" "isEmpty" "()Z").before a0 Z = true := hw _ (List.mem_of_getElem? (i := 59) rfl)
theorem hwd60 {Z : State} {a0 : Array Value} (hw : ∀ d ∈ tables_1, d.before a0 Z = true) : (Jvm.Cond.castable "java/util/ArrayList" "java/util/Collection").before a0 Z = true := hw _ (List.mem_of_getElem? (i := 60) rfl)
theorem hwd64 {Z : State} {a0 : Array Value} (hw : ∀ d ∈ tables_1, d.before a0 Z = true) : (Jvm.Cond.methodLink "java/util/ImmutableCollections" (26 : Nat) ({ cls := "java/util/List", name := "of", desc := "()Ljava/util/List;" } : Jvm.MethodName)).before a0 Z = true := hw _ (List.mem_of_getElem? (i := 64) rfl)
theorem hwd66 {Z : State} {a0 : Array Value} (hw : ∀ d ∈ tables_1, d.before a0 Z = true) : (Jvm.Cond.code ({ cls := "java/util/List", name := "of", desc := "()Ljava/util/List;" } : Jvm.MethodName) jdk_40_method_36_code (0 : Nat) (Option.some (Jvm.ClassFile.FieldType.object "java/util/List"))).before a0 Z = true := hw _ (List.mem_of_getElem? (i := 66) rfl)
theorem hwd41 {Z : State} {a0 : Array Value} (hw : ∀ d ∈ tables_1, d.before a0 Z = true) : (Jvm.Cond.initialized "java/util/List").before a0 Z = true := hw _ (List.mem_of_getElem? (i := 41) rfl)
theorem pd_2 : parseMethodDescriptor "()Ljava/util/List;" = some ⟨[], some (.object "java/util/List")⟩ := by decide +kernel
theorem hwd65 {Z : State} {a0 : Array Value} (hw : ∀ d ∈ tables_1, d.before a0 Z = true) : (Jvm.Cond.static ({ cls := "java/util/List", name := "of", desc := "()Ljava/util/List;" } : Jvm.MethodName)).before a0 Z = true := hw _ (List.mem_of_getElem? (i := 65) rfl)
theorem d8_0 : decode jdk_56_method_3_code 0 = .ok (.aload_n 0, 1) := by decide +kernel
theorem d8_1 : decode jdk_56_method_3_code 1 = .ok (.instanceof 10, 3) := by decide +kernel
theorem d8_4 : decode jdk_56_method_3_code 4 = .ok (.ifCond .ne 22, 3) := by decide +kernel
theorem d8_7 : decode jdk_56_method_3_code 7 = .ok (.aload_n 0, 1) := by decide +kernel
theorem d8_8 : decode jdk_56_method_3_code 8 = .ok (.instanceof 12, 3) := by decide +kernel
theorem d8_11 : decode jdk_56_method_3_code 11 = .ok (.ifCond .eq 20, 3) := by decide +kernel
theorem d8_31 : decode jdk_56_method_3_code 31 = .ok (.aload_n 0, 1) := by decide +kernel
theorem d8_32 : decode jdk_56_method_3_code 32 = .ok (.invokeinterface 20 1, 5) := by decide +kernel
theorem d8_37 : decode jdk_56_method_3_code 37 = .ok (.ifCond .eq 7, 3) := by decide +kernel
theorem d8_40 : decode jdk_56_method_3_code 40 = .ok (.invokestatic 26, 3) := by decide +kernel
theorem d8_43 : decode jdk_56_method_3_code 43 = .ok (.areturn, 1) := by decide +kernel
theorem pn_7 : plainName "java/util/ImmutableCollections" = true := by first | (simp [plainName, overriddenIn]; done) | decide +kernel
theorem ef_8 (m : MethodId) (x0 : Addr) : entryFrame m #[(.ref x0)] 2 = mkF m 0 #[.val (.ref x0), .unset] [] := by first | (simp [entryFrame, mkF, argsToLocals, Value.category]; done) | rfl
def Qlc0 (Z : State) (a : Addr) (el : Addr) (h0 : Heap) (n0 : Nat) (v : Option Value) (h : Heap) (L : List Loc) : Prop := v = some (.ref el) ∧ Fr n0 L ∧ h = h0
set_option maxRecDepth 65536 in
set_option maxHeartbeats 40000000 in
abbrev my9 : MethodName := ⟨"java/util/ImmutableCollections", "listCopy", "(Ljava/util/Collection;)Ljava/util/List;"⟩
abbrev Rm_lc0 : Room := { frames := 1, cells := 0, slots := 0, locals := 12 }
theorem lc0 (l : Launch) (Z : State) (a0 : Array Value) (hw : ∀ d ∈ tables_1, d.before a0 Z = true) (ws : List Jvm.Cond) (a : Addr) (el : Addr) (h0 : Heap) (n0 : Nat) (Z0 : n0 ≤ h0.size) (E_a : Exa Z h0 a "java/util/ArrayList") (F_size_a : Fld Z h0 a "java/util/ArrayList" "size" "I" (.int (0 : Int32))) (O_L : Sta Z Z.heap "java/util/ImmutableCollections" "EMPTY_LIST" "Ljava/util/ImmutableCollections$ListN;" (.ref el)) (X00 : Old Z n0 h0) :
    MetFree l my9 (head1 (Jvm.Cond.code my9 jdk_56_method_3_code 2 (some (.object "java/util/List")) :: ws) Rm_lc0) (fun aa_ U => aa_ = #[(.ref a)] ∧ Z.Warmed39 U.vm ∧ U.heap = h0) (fun _ _ _ _ _ => True) (fun _ U oo_ U' => ∃ v L, oo_ = .returned v ∧ Qlc0 Z a el h0 n0 v U'.heap L ∧ FrameEnd U oo_ U' L Rm_lc0.cells Rm_lc0.slots) := by
  refine MetFree.of_bodySF (plainFor_of_name pn_7) hisR ?_
  intro p e s m args below meth c s₁ Bd hml0 hP hK
  obtain ⟨rfl, hZ, hh⟩ := hP
  have hx := Bd.exec
  have hby := Bd.bytes
  have hml : c.maxLocals = 2 := hml0
  have hown : s.vm.findClass "java/util/ImmutableCollections" = some m.cls := findClass_of_methodNamed Bd.named
  have hnm := (name_of_methodNamed Bd.named Bd.method).1
  have X0 : Stand p l e Rm_lc0 s m #[(.ref a)] below meth c s₁ [] 0 0 := Stand.of_body Bd
  have e0 : s₁.heap = h0 := by rw [← hh, Bd.state]; rfl
  have N0 := Fr.nil n0
  have pre0 : ∀ tt_, Steps p.tables e below (s₁.setTop (mkF m 0 #[.val (.ref a), .unset] [])) tt_ → Steps p.tables e below (s₁.setTop (entryFrame m #[(.ref a)] 2)) tt_ := fun tt_ kk_ => castTop (ef_8 m a) kk_
  obtain ⟨T1, X1, e1, st1⟩ := instNo X0 hx hZ hown (hwd47 hw) e0 E_a (own_listno hw (hwd215 hw) (by decide) (by decide) (by decide) (by decide)) (g := (mkF m 1 #[.val (.ref a), .unset] [(.ref a)])) rfl rfl (hb hby d8_1)
  obtain ⟨T2, X2, e2, st2⟩ := instNo X1 hx hZ hown (hwd52 hw) e1 E_a (own_listno hw (hwd154 hw) (by decide) (by decide) (by decide) (by decide)) (g := (mkF m 8 #[.val (.ref a), .unset] [(.ref a)])) rfl rfl (hb hby d8_8)
  obtain ⟨cq3, kq3, q3a, q3b, q3c⟩ := isOf hZ e2 E_a
  obtain ⟨_, _, ⟨T3, L3, k3, n3⟩, -, X3, ⟨Lc3, hQ3, l3, y3, z3⟩, st3⟩ := X2.interfaceBack hx (xi := my8) (y := my6) hown (mvT hZ (hwd53 hw)) (mvT hZ (hwd54 hw)) (mvT hZ (hwd55 hw)) (mvT hZ (hwd56 hw)) (mvT hZ (hwd57 hw)) (mvT hZ (hwd58 hw)) (mvT hZ (hwd59 hw)) (mvT hZ (hwd60 hw)) (by decide) (backOf (W := 0) (rm9 l Z a0 hw [] a (0 : Int32) h0 n0 Z0 F_size_a) hZ (hwd61 hw) (hwd3 hw) (by decide) (by decide)) q3a q3b q3c (g := (mkF m 32 #[.val (.ref a), .unset] [(.ref a)])) rfl (by rw [hml]; rfl) (Steps.refl _) (argsL := []) (rest := []) (lenOf pd_1 rfl) rfl (by show 2 * 0 + _ ≤ _; exact Nat.le_of_eq rfl) (hb hby d8_32) (fun _ _ => ⟨rfl, e2, (by decide : 0 + 0 ≤ _), (by decide : 0 + 0 ≤ _)⟩)
  dsimp only [Pt.U, Pt.locs, Pt.cells, Pt.slots] at X3 l3 y3 z3 st3 hQ3
  subst l3 y3 z3
  obtain ⟨rfl, N3q, e3q⟩ := hQ3
  have N3 := Fr.app N0 N3q
  obtain ⟨_, _, ⟨T4, L4, k4, n4⟩, -, X4, ⟨Lc4, hQ4, l4, y4, z4⟩, st4⟩ := Jvm.LawKit.callS X3 hx (y := my7) hown (mvT hZ (hwd64 hw)) (mvT hZ (hwd65 hw)) (mvT hZ (hwd41 hw)) (mvT hZ (hwd66 hw)) (by decide) (backOf (W := 0) (rm10 l Z a0 hw [] el h0 n0 Z0 O_L X00) hZ (hwd66 hw) (hwd41 hw) (by decide) (by decide)) (g := (mkF m 40 #[.val (.ref a), .unset] [])) rfl (by rw [hml]; rfl) (argsL := []) (rest := []) (lenOf pd_2 rfl) rfl (by show 2 * 0 + _ ≤ _; exact Nat.le_of_eq rfl) (hb hby d8_40) (fun _ _ => ⟨rfl, e3q, (by decide : 0 + 0 ≤ _), (by decide : 0 + 0 ≤ _)⟩)
  dsimp only [Pt.U, Pt.locs, Pt.cells, Pt.slots] at X4 l4 y4 z4 st4 hQ4
  subst l4 y4 z4
  obtain ⟨rfl, N4q, e4q⟩ := hQ4
  have N4 := Fr.app N3 N4q
  obtain ⟨fs, hr, hrun, hended, hW, hsame⟩ := X4.leave (v := some (.ref el)) (fun h => by rw [Bd.returns] at h; cases h)
  refine ⟨_, _, pre0 _ ?_, hrun, hended, _, _, rfl, ?_, ⟨_, rfl⟩, hW, hsame.mono (by decide) (by decide)⟩
  · show Steps p.tables e below (s₁.setTop (mkF m 0 #[.val (.ref a), .unset] [])) _
    refine XS.aloadN X0.here hx rfl (hb hby d8_0) rfl rfl ?_
    refine st1 _ ?_
    refine XS.ifNo X1.here hx rfl (hb hby d8_4) rfl ((if0 _ _).trans (teq (show (0 : Int32) = (0 : Int32) from rfl)).2) ?_
    refine XS.aloadN X1.here hx rfl (hb hby d8_7) rfl rfl ?_
    refine st2 _ ?_
    refine XS.ifYes X2.here hx rfl (pc0 := 11) (pc' := 31) rfl (hb hby d8_11) rfl ((if0 _ _).trans (teq (show (0 : Int32) = (0 : Int32) from rfl)).1) (by decide) (by decide) ?_
    show Steps p.tables e below (T2.setTop (mkF m 31 #[.val (.ref a), .unset] [])) _
    refine XS.aloadN X2.here hx rfl (hb hby d8_31) rfl rfl ?_
    refine st3.trans ?_
    refine XS.ifNo X3.here hx rfl (hb hby d8_37) rfl ((if0 _ _).trans (feq (show ¬ ((if (0 : Int32) = (0 : Int32) then (1 : Int32) else (0 : Int32)) = (0 : Int32)) from (by decide))).1) ?_
    refine st4 _ ?_
    jvm_step X4.here [X4.here.top, hx, (hb hby d8_43), X4.method', Bd.returns, Value.isRef, FieldType.isReference]
    first | (intro acts; rw [hr _ acts rfl rfl rfl]) | rw [hr _ _ rfl rfl rfl]
    exact Steps.refl _
  · show Qlc0 Z a el h0 n0 _ T4.heap _
    rw [e4q]
    exact ⟨rfl, N4, rfl⟩
theorem hwd43 {Z : State} {a0 : Array Value} (hw : ∀ d ∈ tables_1, d.before a0 Z = true) : (Jvm.Cond.methodLink "java/util/List" (112 : Nat) ({ cls := "java/util/ImmutableCollections", name := "listCopy", desc := "(Ljava/util/Collection;)Ljava/util/List;" } : Jvm.MethodName)).before a0 Z = true := hw _ (List.mem_of_getElem? (i := 43) rfl)
theorem hwd46 {Z : State} {a0 : Array Value} (hw : ∀ d ∈ tables_1, d.before a0 Z = true) : (Jvm.Cond.code ({ cls := "java/util/ImmutableCollections", name := "listCopy", desc := "(Ljava/util/Collection;)Ljava/util/List;" } : Jvm.MethodName) jdk_56_method_3_code (2 : Nat) (Option.some (Jvm.ClassFile.FieldType.object "java/util/List"))).before a0 Z = true := hw _ (List.mem_of_getElem? (i := 46) rfl)
theorem hwd45 {Z : State} {a0 : Array Value} (hw : ∀ d ∈ tables_1, d.before a0 Z = true) : (Jvm.Cond.initialized "java/util/ImmutableCollections").before a0 Z = true := hw _ (List.mem_of_getElem? (i := 45) rfl)
theorem pd_3 : parseMethodDescriptor "(Ljava/util/Collection;)Ljava/util/List;" = some ⟨[(.object "java/util/Collection")], some (.object "java/util/List")⟩ := by decide +kernel
theorem hwd44 {Z : State} {a0 : Array Value} (hw : ∀ d ∈ tables_1, d.before a0 Z = true) : (Jvm.Cond.static ({ cls := "java/util/ImmutableCollections", name := "listCopy", desc := "(Ljava/util/Collection;)Ljava/util/List;" } : Jvm.MethodName)).before a0 Z = true := hw _ (List.mem_of_getElem? (i := 44) rfl)
theorem d7_0 : decode jdk_40_method_48_code 0 = .ok (.aload_n 0, 1) := by decide +kernel
theorem d7_1 : decode jdk_40_method_48_code 1 = .ok (.invokestatic 112, 3) := by decide +kernel
theorem d7_4 : decode jdk_40_method_48_code 4 = .ok (.areturn, 1) := by decide +kernel
theorem ef_7 (m : MethodId) (x0 : Addr) : entryFrame m #[(.ref x0)] 1 = mkF m 0 #[.val (.ref x0)] [] := by first | (simp [entryFrame, mkF, argsToLocals, Value.category]; done) | rfl
def Qco0 (Z : State) (a : Addr) (el : Addr) (h0 : Heap) (n0 : Nat) (v : Option Value) (h : Heap) (L : List Loc) : Prop := v = some (.ref el) ∧ Fr n0 L ∧ h = h0
set_option maxRecDepth 65536 in
set_option maxHeartbeats 40000000 in
abbrev my10 : MethodName := ⟨"java/util/List", "copyOf", "(Ljava/util/Collection;)Ljava/util/List;"⟩
abbrev Rm_co0 : Room := { frames := 2, cells := 0, slots := 0, locals := 25 }
theorem co0 (l : Launch) (Z : State) (a0 : Array Value) (hw : ∀ d ∈ tables_1, d.before a0 Z = true) (ws : List Jvm.Cond) (a : Addr) (el : Addr) (h0 : Heap) (n0 : Nat) (Z0 : n0 ≤ h0.size) (E_a : Exa Z h0 a "java/util/ArrayList") (F_size_a : Fld Z h0 a "java/util/ArrayList" "size" "I" (.int (0 : Int32))) (O_L : Sta Z Z.heap "java/util/ImmutableCollections" "EMPTY_LIST" "Ljava/util/ImmutableCollections$ListN;" (.ref el)) (X00 : Old Z n0 h0) :
    MetFree l my10 (head1 (Jvm.Cond.code my10 jdk_40_method_48_code 1 (some (.object "java/util/List")) :: ws) Rm_co0) (fun aa_ U => aa_ = #[(.ref a)] ∧ Z.Warmed39 U.vm ∧ U.heap = h0) (fun _ _ _ _ _ => True) (fun _ U oo_ U' => ∃ v L, oo_ = .returned v ∧ Qco0 Z a el h0 n0 v U'.heap L ∧ FrameEnd U oo_ U' L Rm_co0.cells Rm_co0.slots) := by
  refine MetFree.of_bodySF (plainFor_of_name pn_6) hisR ?_
  intro p e s m args below meth c s₁ Bd hml0 hP hK
  obtain ⟨rfl, hZ, hh⟩ := hP
  have hx := Bd.exec
  have hby := Bd.bytes
  have hml : c.maxLocals = 1 := hml0
  have hown : s.vm.findClass "java/util/List" = some m.cls := findClass_of_methodNamed Bd.named
  have hnm := (name_of_methodNamed Bd.named Bd.method).1
  have X0 : Stand p l e Rm_co0 s m #[(.ref a)] below meth c s₁ [] 0 0 := Stand.of_body Bd
  have e0 : s₁.heap = h0 := by rw [← hh, Bd.state]; rfl
  have N0 := Fr.nil n0
  have pre0 : ∀ tt_, Steps p.tables e below (s₁.setTop (mkF m 0 #[.val (.ref a)] [])) tt_ → Steps p.tables e below (s₁.setTop (entryFrame m #[(.ref a)] 1)) tt_ := fun tt_ kk_ => castTop (ef_7 m a) kk_
  obtain ⟨_, _, ⟨T1, L1, k1, n1⟩, -, X1, ⟨Lc1, hQ1, l1, y1, z1⟩, st1⟩ := Jvm.LawKit.callS X0 hx (y := my9) hown (mvT hZ (hwd43 hw)) (mvT hZ (hwd44 hw)) (mvT hZ (hwd45 hw)) (mvT hZ (hwd46 hw)) (by decide) (backOf (W := 0) (lc0 l Z a0 hw [] a el h0 n0 Z0 E_a F_size_a O_L X00) hZ (hwd46 hw) (hwd45 hw) (by decide) (by decide)) (g := (mkF m 1 #[.val (.ref a)] [(.ref a)])) rfl (by rw [hml]; rfl) (argsL := [(.ref a)]) (rest := []) (lenOf pd_3 rfl) rfl (by show 2 * 0 + _ ≤ _; exact Nat.le_of_eq rfl) (hb hby d7_1) (fun _ _ => ⟨rfl, e0, (by decide : 0 + 0 ≤ _), (by decide : 0 + 0 ≤ _)⟩)
  dsimp only [Pt.U, Pt.locs, Pt.cells, Pt.slots] at X1 l1 y1 z1 st1 hQ1
  subst l1 y1 z1
  obtain ⟨rfl, N1q, e1q⟩ := hQ1
  have N1 := Fr.app N0 N1q
  obtain ⟨fs, hr, hrun, hended, hW, hsame⟩ := X1.leave (v := some (.ref el)) (fun h => by rw [Bd.returns] at h; cases h)
  refine ⟨_, _, pre0 _ ?_, hrun, hended, _, _, rfl, ?_, ⟨_, rfl⟩, hW, hsame.mono (by decide) (by decide)⟩
  · show Steps p.tables e below (s₁.setTop (mkF m 0 #[.val (.ref a)] [])) _
    refine XS.aloadN X0.here hx rfl (hb hby d7_0) rfl rfl ?_
    refine st1 _ ?_
    jvm_step X1.here [X1.here.top, hx, (hb hby d7_4), X1.method', Bd.returns, Value.isRef, FieldType.isReference]
    first | (intro acts; rw [hr _ acts rfl rfl rfl]) | rw [hr _ _ rfl rfl rfl]
    exact Steps.refl _
  · show Qco0 Z a el h0 n0 _ T1.heap _
    rw [e1q]
    exact ⟨rfl, N1, rfl⟩
theorem hwd33 {Z : State} {a0 : Array Value} (hw : ∀ d ∈ tables_1, d.before a0 Z = true) : (Jvm.Cond.methodLink "com/example/gleipnir/gleipnir/service/Counterplay$Position" (1 : Nat) ({ cls := "java/lang/Record", name := "<init>", desc := "()V" } : Jvm.MethodName)).before a0 Z = true := hw _ (List.mem_of_getElem? (i := 33) rfl)
theorem hwd37 {Z : State} {a0 : Array Value} (hw : ∀ d ∈ tables_1, d.before a0 Z = true) : (Jvm.Cond.code ({ cls := "java/lang/Record", name := "<init>", desc := "()V" } : Jvm.MethodName) jdk_30_method_1_code (1 : Nat) (Option.none : Option Jvm.ClassFile.FieldType)).before a0 Z = true := hw _ (List.mem_of_getElem? (i := 37) rfl)
theorem hwd36 {Z : State} {a0 : Array Value} (hw : ∀ d ∈ tables_1, d.before a0 Z = true) : (Jvm.Cond.initialized "java/lang/Record").before a0 Z = true := hw _ (List.mem_of_getElem? (i := 36) rfl)
theorem hwd34 {Z : State} {a0 : Array Value} (hw : ∀ d ∈ tables_1, d.before a0 Z = true) : (Jvm.Cond.instanceMethod ({ cls := "java/lang/Record", name := "<init>", desc := "()V" } : Jvm.MethodName)).before a0 Z = true := hw _ (List.mem_of_getElem? (i := 34) rfl)
theorem hwd39 {Z : State} {a0 : Array Value} (hw : ∀ d ∈ tables_1, d.before a0 Z = true) : (Jvm.Cond.methodLink "com/example/gleipnir/gleipnir/service/Counterplay$Position" (7 : Nat) ({ cls := "java/util/List", name := "copyOf", desc := "(Ljava/util/Collection;)Ljava/util/List;" } : Jvm.MethodName)).before a0 Z = true := hw _ (List.mem_of_getElem? (i := 39) rfl)
theorem hwd42 {Z : State} {a0 : Array Value} (hw : ∀ d ∈ tables_1, d.before a0 Z = true) : (Jvm.Cond.code ({ cls := "java/util/List", name := "copyOf", desc := "(Ljava/util/Collection;)Ljava/util/List;" } : Jvm.MethodName) jdk_40_method_48_code (1 : Nat) (Option.some (Jvm.ClassFile.FieldType.object "java/util/List"))).before a0 Z = true := hw _ (List.mem_of_getElem? (i := 42) rfl)
theorem hwd40 {Z : State} {a0 : Array Value} (hw : ∀ d ∈ tables_1, d.before a0 Z = true) : (Jvm.Cond.static ({ cls := "java/util/List", name := "copyOf", desc := "(Ljava/util/Collection;)Ljava/util/List;" } : Jvm.MethodName)).before a0 Z = true := hw _ (List.mem_of_getElem? (i := 40) rfl)
theorem hwd68 {Z : State} {a0 : Array Value} (hw : ∀ d ∈ tables_1, d.before a0 Z = true) : (Jvm.Cond.fieldLink "com/example/gleipnir/gleipnir/service/Counterplay$Position" (13 : Nat) "com/example/gleipnir/gleipnir/service/Counterplay$Position" "inputs" "Ljava/util/List;").before a0 Z = true := hw _ (List.mem_of_getElem? (i := 68) rfl)
theorem hwd69 {Z : State} {a0 : Array Value} (hw : ∀ d ∈ tables_1, d.before a0 Z = true) : (Jvm.Cond.laysFinal "com/example/gleipnir/gleipnir/service/Counterplay$Position" "com/example/gleipnir/gleipnir/service/Counterplay$Position" "inputs" "Ljava/util/List;").before a0 Z = true := hw _ (List.mem_of_getElem? (i := 69) rfl)
theorem hwd28 {Z : State} {a0 : Array Value} (hw : ∀ d ∈ tables_1, d.before a0 Z = true) : (Jvm.Cond.instantiable "com/example/gleipnir/gleipnir/service/Counterplay$Position" (2 : Nat)).before a0 Z = true := hw _ (List.mem_of_getElem? (i := 28) rfl)
theorem hwd70 {Z : State} {a0 : Array Value} (hw : ∀ d ∈ tables_1, d.before a0 Z = true) : (Jvm.Cond.fieldLink "com/example/gleipnir/gleipnir/service/Counterplay$Position" (19 : Nat) "com/example/gleipnir/gleipnir/service/Counterplay$Position" "outputs" "Ljava/util/List;").before a0 Z = true := hw _ (List.mem_of_getElem? (i := 70) rfl)
theorem hwd71 {Z : State} {a0 : Array Value} (hw : ∀ d ∈ tables_1, d.before a0 Z = true) : (Jvm.Cond.laysFinal "com/example/gleipnir/gleipnir/service/Counterplay$Position" "com/example/gleipnir/gleipnir/service/Counterplay$Position" "outputs" "Ljava/util/List;").before a0 Z = true := hw _ (List.mem_of_getElem? (i := 71) rfl)
theorem d5_0 : decode prog_57_method_1_code 0 = .ok (.aload_n 0, 1) := by decide +kernel
theorem d5_1 : decode prog_57_method_1_code 1 = .ok (.invokespecial 1, 3) := by decide +kernel
theorem d5_4 : decode prog_57_method_1_code 4 = .ok (.aload_n 1, 1) := by decide +kernel
theorem d5_5 : decode prog_57_method_1_code 5 = .ok (.invokestatic 7, 3) := by decide +kernel
theorem d5_8 : decode prog_57_method_1_code 8 = .ok (.astore_n 1, 1) := by decide +kernel
theorem d5_9 : decode prog_57_method_1_code 9 = .ok (.aload_n 2, 1) := by decide +kernel
theorem d5_10 : decode prog_57_method_1_code 10 = .ok (.invokestatic 7, 3) := by decide +kernel
theorem d5_13 : decode prog_57_method_1_code 13 = .ok (.astore_n 2, 1) := by decide +kernel
theorem d5_14 : decode prog_57_method_1_code 14 = .ok (.aload_n 0, 1) := by decide +kernel
theorem d5_15 : decode prog_57_method_1_code 15 = .ok (.aload_n 1, 1) := by decide +kernel
theorem d5_16 : decode prog_57_method_1_code 16 = .ok (.putfield 13, 3) := by decide +kernel
theorem d5_19 : decode prog_57_method_1_code 19 = .ok (.aload_n 0, 1) := by decide +kernel
theorem d5_20 : decode prog_57_method_1_code 20 = .ok (.aload_n 2, 1) := by decide +kernel
theorem d5_21 : decode prog_57_method_1_code 21 = .ok (.putfield 19, 3) := by decide +kernel
theorem d5_24 : decode prog_57_method_1_code 24 = .ok (.return_, 1) := by decide +kernel
theorem pn_8 : plainName "com/example/gleipnir/gleipnir/service/Counterplay$Position" = true := by first | (simp [plainName, overriddenIn]; done) | decide +kernel
theorem ef_5 (m : MethodId) (x0 : Addr) (x1 : Addr) (x2 : Addr) : entryFrame m #[(.ref x0), (.ref x1), (.ref x2)] 3 = mkF m 0 #[.val (.ref x0), .val (.ref x1), .val (.ref x2)] [] := by first | (simp [entryFrame, mkF, argsToLocals, Value.category]; done) | rfl
def Qrm5 (Z : State) (a : Addr) (b : Addr) (el : Addr) (h0 : Heap) (n0 : Nat) (v : Option Value) (h : Heap) (L : List Loc) : Prop := v = none ∧ Fr n0 L ∧ Keep h0 h [a] ∧ Exa Z h a "com/example/gleipnir/gleipnir/service/Counterplay$Position"
set_option maxRecDepth 65536 in
set_option maxHeartbeats 40000000 in
abbrev my11 : MethodName := ⟨"com/example/gleipnir/gleipnir/service/Counterplay$Position", "<init>", "(Ljava/util/List;Ljava/util/List;)V"⟩
abbrev Rm_rm5 : Room := { frames := 3, cells := 0, slots := 0, locals := 37 }
theorem rm5 (l : Launch) (Z : State) (a0 : Array Value) (hw : ∀ d ∈ tables_1, d.before a0 Z = true) (ws : List Jvm.Cond) (a : Addr) (b : Addr) (el : Addr) (h0 : Heap) (n0 : Nat) (Z0 : n0 ≤ h0.size) (E_a : Exa Z h0 a "com/example/gleipnir/gleipnir/service/Counterplay$Position") (F_inputs_a : Fld Z h0 a "com/example/gleipnir/gleipnir/service/Counterplay$Position" "inputs" "Ljava/util/List;" .null) (F_outputs_a : Fld Z h0 a "com/example/gleipnir/gleipnir/service/Counterplay$Position" "outputs" "Ljava/util/List;" .null) (g_a : n0 ≤ a) (E_b : Exa Z h0 b "java/util/ArrayList") (F_size_b : Fld Z h0 b "java/util/ArrayList" "size" "I" (.int (0 : Int32))) (ne_a_b : a ≠ b) (O_L : Sta Z Z.heap "java/util/ImmutableCollections" "EMPTY_LIST" "Ljava/util/ImmutableCollections$ListN;" (.ref el)) (X00 : Old Z n0 h0) :
    MetFree l my11 (head1 (Jvm.Cond.code my11 prog_57_method_1_code 3 none :: ws) Rm_rm5) (fun aa_ U => aa_ = #[(.ref a), (.ref b), (.ref b)] ∧ Z.Warmed39 U.vm ∧ U.heap = h0) (fun _ _ _ _ _ => True) (fun _ U oo_ U' => ∃ v L, oo_ = .returned v ∧ Qrm5 Z a b el h0 n0 v U'.heap L ∧ FrameEnd U oo_ U' L Rm_rm5.cells Rm_rm5.slots) := by
  refine MetFree.of_bodySF (plainFor_of_name pn_8) hisR ?_
  intro p e s m args below meth c s₁ Bd hml0 hP hK
  obtain ⟨rfl, hZ, hh⟩ := hP
  have hx := Bd.exec
  have hby := Bd.bytes
  have hml : c.maxLocals = 3 := hml0
  have hown : s.vm.findClass "com/example/gleipnir/gleipnir/service/Counterplay$Position" = some m.cls := findClass_of_methodNamed Bd.named
  have hnm := (name_of_methodNamed Bd.named Bd.method).1
  have X0 : Stand p l e Rm_rm5 s m #[(.ref a), (.ref b), (.ref b)] below meth c s₁ [] 0 0 := Stand.of_body Bd
  have e0 : s₁.heap = h0 := by rw [← hh, Bd.state]; rfl
  have N0 := Fr.nil n0
  have pre0 : ∀ tt_, Steps p.tables e below (s₁.setTop (mkF m 0 #[.val (.ref a), .val (.ref b), .val (.ref b)] [])) tt_ → Steps p.tables e below (s₁.setTop (entryFrame m #[(.ref a), (.ref b), (.ref b)] 3)) tt_ := fun tt_ kk_ => castTop (ef_5 m a b b) kk_
  obtain ⟨_, _, ⟨T1, L1, k1, n1⟩, -, X1, ⟨Lc1, hQ1, l1, y1, z1⟩, st1⟩ := X0.specialBack hx (y := my1) rfl hown (mvT hZ (hwd33 hw)) (mvT hZ (hwd34 hw)) (mvT hZ (hwd37 hw)) (by decide) (backOf (W := 0) (rm6 l Z a0 hw [] a h0 n0 Z0 ) hZ (hwd37 hw) (hwd36 hw) (by decide) (by decide)) (g := (mkF m 1 #[.val (.ref a), .val (.ref b), .val (.ref b)] [(.ref a)])) rfl (by rw [hml]; rfl) (Steps.refl _) (a := a) (argsL := []) (rest := []) (lenOf pd_0 rfl) rfl (by show 2 * 0 + _ ≤ _; exact Nat.le_of_eq rfl) (hb hby d5_1) (fun _ _ => ⟨rfl, e0, (by decide : 0 + 0 ≤ _), (by decide : 0 + 0 ≤ _)⟩)
  dsimp only [Pt.U, Pt.locs, Pt.cells, Pt.slots] at X1 l1 y1 z1 st1 hQ1
  subst l1 y1 z1
  obtain ⟨rfl, N1q, e1q⟩ := hQ1
  have N1 := Fr.app N0 N1q
  obtain ⟨_, _, ⟨T2, L2, k2, n2⟩, -, X2, ⟨Lc2, hQ2, l2, y2, z2⟩, st2⟩ := Jvm.LawKit.callS X1 hx (y := my10) hown (mvT hZ (hwd39 hw)) (mvT hZ (hwd40 hw)) (mvT hZ (hwd41 hw)) (mvT hZ (hwd42 hw)) (by decide) (backOf (W := 0) (co0 l Z a0 hw [] b el h0 n0 Z0 E_b F_size_b O_L X00) hZ (hwd42 hw) (hwd41 hw) (by decide) (by decide)) (g := (mkF m 5 #[.val (.ref a), .val (.ref b), .val (.ref b)] [(.ref b)])) rfl (by rw [hml]; rfl) (argsL := [(.ref b)]) (rest := []) (lenOf pd_3 rfl) rfl (by show 2 * 0 + _ ≤ _; exact Nat.le_of_eq rfl) (hb hby d5_5) (fun _ _ => ⟨rfl, e1q, (by decide : 0 + 0 ≤ _), (by decide : 0 + 0 ≤ _)⟩)
  dsimp only [Pt.U, Pt.locs, Pt.cells, Pt.slots] at X2 l2 y2 z2 st2 hQ2
  subst l2 y2 z2
  obtain ⟨rfl, N2q, e2q⟩ := hQ2
  have N2 := Fr.app N1 N2q
  obtain ⟨_, _, ⟨T3, L3, k3, n3⟩, -, X3, ⟨Lc3, hQ3, l3, y3, z3⟩, st3⟩ := Jvm.LawKit.callS X2 hx (y := my10) hown (mvT hZ (hwd39 hw)) (mvT hZ (hwd40 hw)) (mvT hZ (hwd41 hw)) (mvT hZ (hwd42 hw)) (by decide) (backOf (W := 0) (co0 l Z a0 hw [] b el h0 n0 Z0 E_b F_size_b O_L X00) hZ (hwd42 hw) (hwd41 hw) (by decide) (by decide)) (g := (mkF m 10 #[.val (.ref a), .val (.ref el), .val (.ref b)] [(.ref b)])) rfl (by rw [hml]; rfl) (argsL := [(.ref b)]) (rest := []) (lenOf pd_3 rfl) rfl (by show 2 * 0 + _ ≤ _; exact Nat.le_of_eq rfl) (hb hby d5_10) (fun _ _ => ⟨rfl, e2q, (by decide : 0 + 0 ≤ _), (by decide : 0 + 0 ≤ _)⟩)
  dsimp only [Pt.U, Pt.locs, Pt.cells, Pt.slots] at X3 l3 y3 z3 st3 hQ3
  subst l3 y3 z3
  obtain ⟨rfl, N3q, e3q⟩ := hQ3
  have N3 := Fr.app N2 N3q
  obtain ⟨T4, h4, X4, e4, W4, st4⟩ := putF X3 hx hZ hown (host := "") (Or.inl (hwd68 hw)) Via.refl e3q F_inputs_a E_a (Or.inr ⟨(hwd69 hw), rfl, hnm⟩) (hwd28 hw) (ty := (.object "java/util/List")) (by decide) rfl rfl (g := (mkF m 16 #[.val (.ref a), .val (.ref el), .val (.ref el)] [(.ref el), (.ref a)])) rfl rfl (hb hby d5_16)
  have N4 := Fr.snoc X4 N3 g_a
  have Fw4 := F_inputs_a.same W4
  have f5_E_a := (E_a.wr W4)
  have f6_F_a_outputs := (F_outputs_a.other W4 (Or.inr (slot_ne (Or.inr (hwd71 hw)) (Or.inr (hwd69 hw)) (by decide) (t := (.object "java/util/List")) (t' := (.object "java/util/List")) (by decide) (by decide))))
  obtain ⟨T7, h7, X7, e7, W7, st7⟩ := putF X4 hx hZ hown (host := "") (Or.inl (hwd70 hw)) Via.refl e4 f6_F_a_outputs f5_E_a (Or.inr ⟨(hwd71 hw), rfl, hnm⟩) (hwd28 hw) (ty := (.object "java/util/List")) (by decide) rfl rfl (g := (mkF m 21 #[.val (.ref a), .val (.ref el), .val (.ref el)] [(.ref el), (.ref a)])) rfl rfl (hb hby d5_21)
  have N7 := Fr.snoc X7 N4 g_a
  have Fw7 := f6_F_a_outputs.same W7
  have kp8 : Keep h0 h7 [a] := (((Keep.refl h0 [a]).wr W4 (Or.inl (List.mem_of_getElem? (i := 0) rfl))).wr W7 (Or.inl (List.mem_of_getElem? (i := 0) rfl)))
  have f9_E_a := (f5_E_a.wr W7)
  obtain ⟨fs, hr, hrun, hended, hW, hsame⟩ := X7.leave (v := none) (fun _ => rfl)
  refine ⟨_, _, pre0 _ ?_, hrun, hended, _, _, rfl, ?_, ⟨_, rfl⟩, hW, hsame.mono (by decide) (by decide)⟩
  · show Steps p.tables e below (s₁.setTop (mkF m 0 #[.val (.ref a), .val (.ref b), .val (.ref b)] [])) _
    refine XS.aloadN X0.here hx rfl (hb hby d5_0) rfl rfl ?_
    refine st1.trans ?_
    refine XS.aloadN X1.here hx rfl (hb hby d5_4) rfl rfl ?_
    refine st2 _ ?_
    refine XS.astoreN X2.here hx rfl (hb hby d5_8) rfl rfl (l' := #[.val (.ref a), .val (.ref el), .val (.ref b)]) rfl ?_
    refine XS.aloadN X2.here hx rfl (hb hby d5_9) rfl rfl ?_
    show Steps p.tables e below (T2.setTop (mkF m 10 #[.val (.ref a), .val (.ref el), .val (.ref b)] [(.ref b)])) _
    refine st3 _ ?_
    refine XS.astoreN X3.here hx rfl (hb hby d5_13) rfl rfl (l' := #[.val (.ref a), .val (.ref el), .val (.ref el)]) rfl ?_
    refine XS.aloadN X3.here hx rfl (hb hby d5_14) rfl rfl ?_
    refine XS.aloadN X3.here hx rfl (hb hby d5_15) rfl rfl ?_
    refine st4 _ ?_
    refine XS.aloadN X4.here hx rfl (hb hby d5_19) rfl rfl ?_
    show Steps p.tables e below (T4.setTop (mkF m 20 #[.val (.ref a), .val (.ref el), .val (.ref el)] [(.ref a)])) _
    refine XS.aloadN X4.here hx rfl (hb hby d5_20) rfl rfl ?_
    refine st7 _ ?_
    exact X7.returnOut hx Bd.returns (hb hby d5_24) hr
  · show Qrm5 Z a b el h0 n0 _ T7.heap _
    rw [e7]
    exact ⟨rfl, N7, kp8, f9_E_a⟩
theorem d16_0 : decode jdk_29_method_65_code 0 = .ok (.iload_n 0, 1) := by decide +kernel
theorem d16_1 : decode jdk_29_method_65_code 1 = .ok (.iload_n 1, 1) := by decide +kernel
theorem d16_2 : decode jdk_29_method_65_code 2 = .ok (.if_icmp .lt 7, 3) := by decide +kernel
theorem d16_5 : decode jdk_29_method_65_code 5 = .ok (.iload_n 0, 1) := by decide +kernel
theorem d16_6 : decode jdk_29_method_65_code 6 = .ok (.goto 4, 3) := by decide +kernel
theorem d16_10 : decode jdk_29_method_65_code 10 = .ok (.ireturn, 1) := by decide +kernel
theorem ef_16 (m : MethodId) (x0 : Int32) (x1 : Int32) : entryFrame m #[(.int x0), (.int x1)] 2 = mkF m 0 #[.val (.int x0), .val (.int x1)] [] := by first | (simp [entryFrame, mkF, argsToLocals, Value.category]; done) | rfl
def Qrm16 (Z : State)  (h0 : Heap) (n0 : Nat) (v : Option Value) (h : Heap) (L : List Loc) : Prop := v = some (.int (10 : Int32)) ∧ Fr n0 L ∧ h = h0
set_option maxRecDepth 65536 in
set_option maxHeartbeats 40000000 in
abbrev my12 : MethodName := ⟨"java/lang/Math", "max", "(II)I"⟩
abbrev Rm_rm16 : Room := { frames := 0, cells := 0, slots := 0, locals := 0 }
theorem rm16 (l : Launch) (Z : State) (a0 : Array Value) (hw : ∀ d ∈ tables_1, d.before a0 Z = true) (ws : List Jvm.Cond)  (h0 : Heap) (n0 : Nat) (Z0 : n0 ≤ h0.size) :
    MetFree l my12 (head1 (Jvm.Cond.code my12 jdk_29_method_65_code 2 (some .int) :: ws) Rm_rm16) (fun aa_ U => aa_ = #[(.int (10 : Int32)), (.int (1 : Int32))] ∧ Z.Warmed39 U.vm ∧ U.heap = h0) (fun _ _ _ _ _ => True) (fun _ U oo_ U' => ∃ v L, oo_ = .returned v ∧ Qrm16 Z  h0 n0 v U'.heap L ∧ FrameEnd U oo_ U' L Rm_rm16.cells Rm_rm16.slots) := by
  refine MetFree.of_bodySF (Jvm.Free.JP.mathPlain rfl (by decide +kernel)) hisR ?_
  intro p e s m args below meth c s₁ Bd hml0 hP hK
  obtain ⟨rfl, hZ, hh⟩ := hP
  have hx := Bd.exec
  have hby := Bd.bytes
  have hml : c.maxLocals = 2 := hml0
  have hown : s.vm.findClass "java/lang/Math" = some m.cls := findClass_of_methodNamed Bd.named
  have hnm := (name_of_methodNamed Bd.named Bd.method).1
  have X0 : Stand p l e Rm_rm16 s m #[(.int (10 : Int32)), (.int (1 : Int32))] below meth c s₁ [] 0 0 := Stand.of_body Bd
  have e0 : s₁.heap = h0 := by rw [← hh, Bd.state]; rfl
  have N0 := Fr.nil n0
  have pre0 : ∀ tt_, Steps p.tables e below (s₁.setTop (mkF m 0 #[.val (.int (10 : Int32)), .val (.int (1 : Int32))] [])) tt_ → Steps p.tables e below (s₁.setTop (entryFrame m #[(.int (10 : Int32)), (.int (1 : Int32))] 2)) tt_ := fun tt_ kk_ => castTop (ef_16 m (10 : Int32) (1 : Int32)) kk_
  obtain ⟨fs, hr, hrun, hended, hW, hsame⟩ := X0.leave (v := some (.int (10 : Int32))) (fun h => by rw [Bd.returns] at h; cases h)
  refine ⟨_, _, pre0 _ ?_, hrun, hended, _, _, rfl, ?_, ⟨_, rfl⟩, hW, hsame.mono (by decide) (by decide)⟩
  · show Steps p.tables e below (s₁.setTop (mkF m 0 #[.val (.int (10 : Int32)), .val (.int (1 : Int32))] [])) _
    refine XS.iloadN X0.here hx rfl (hb hby d16_0) rfl ?_
    refine XS.iloadN X0.here hx rfl (hb hby d16_1) rfl ?_
    refine XS.icmpNo X0.here hx rfl (hb hby d16_2) rfl (flt (show ¬ ((10 : Int32) < (1 : Int32)) from (by decide))).1 ?_
    refine XS.iloadN X0.here hx rfl (hb hby d16_5) rfl ?_
    refine XS.goto X0.here hx rfl (pc0 := 6) (pc' := 10) rfl (hb hby d16_6) (by decide) (by decide) ?_
    exact retI X0 hx Bd.returns (hb hby d16_10) hr
  · show Qrm16 Z  h0 n0 _ s₁.heap _
    rw [e0]
    exact ⟨rfl, N0, rfl⟩
theorem hwd98 {Z : State} {a0 : Array Value} (hw : ∀ d ∈ tables_1, d.before a0 Z = true) : (Jvm.Cond.methodLink "java/util/ArrayList" (79 : Nat) ({ cls := "java/lang/Math", name := "max", desc := "(II)I" } : Jvm.MethodName)).before a0 Z = true := hw _ (List.mem_of_getElem? (i := 98) rfl)
theorem hwd101 {Z : State} {a0 : Array Value} (hw : ∀ d ∈ tables_1, d.before a0 Z = true) : (Jvm.Cond.code ({ cls := "java/lang/Math", name := "max", desc := "(II)I" } : Jvm.MethodName) jdk_29_method_65_code (2 : Nat) (Option.some Jvm.ClassFile.FieldType.int)).before a0 Z = true := hw _ (List.mem_of_getElem? (i := 101) rfl)
theorem hwd100 {Z : State} {a0 : Array Value} (hw : ∀ d ∈ tables_1, d.before a0 Z = true) : (Jvm.Cond.initialized "java/lang/Math").before a0 Z = true := hw _ (List.mem_of_getElem? (i := 100) rfl)
theorem pd_4 : parseMethodDescriptor "(II)I" = some ⟨[.int, .int], some .int⟩ := by decide +kernel
theorem hwd99 {Z : State} {a0 : Array Value} (hw : ∀ d ∈ tables_1, d.before a0 Z = true) : (Jvm.Cond.static ({ cls := "java/lang/Math", name := "max", desc := "(II)I" } : Jvm.MethodName)).before a0 Z = true := hw _ (List.mem_of_getElem? (i := 99) rfl)
theorem hwd102 {Z : State} {a0 : Array Value} (hw : ∀ d ∈ tables_1, d.before a0 Z = true) : (Jvm.Cond.classLink "java/util/ArrayList" (7 : Nat) "java/lang/Object").before a0 Z = true := hw _ (List.mem_of_getElem? (i := 102) rfl)
theorem hwd103 {Z : State} {a0 : Array Value} (hw : ∀ d ∈ tables_1, d.before a0 Z = true) : (Jvm.Cond.arrayOver (Jvm.ClassFile.FieldType.object "java/lang/Object")).before a0 Z = true := hw _ (List.mem_of_getElem? (i := 103) rfl)
theorem d15_0 : decode jdk_38_method_6_code 0 = .ok (.aload_n 0, 1) := by decide +kernel
theorem d15_1 : decode jdk_38_method_6_code 1 = .ok (.getfield 9, 3) := by decide +kernel
theorem d15_4 : decode jdk_38_method_6_code 4 = .ok (.arraylength, 1) := by decide +kernel
theorem d15_5 : decode jdk_38_method_6_code 5 = .ok (.istore_n 2, 1) := by decide +kernel
theorem d15_6 : decode jdk_38_method_6_code 6 = .ok (.iload_n 2, 1) := by decide +kernel
theorem d15_7 : decode jdk_38_method_6_code 7 = .ok (.ifCond .gt 13, 3) := by decide +kernel
theorem d15_10 : decode jdk_38_method_6_code 10 = .ok (.aload_n 0, 1) := by decide +kernel
theorem d15_11 : decode jdk_38_method_6_code 11 = .ok (.getfield 9, 3) := by decide +kernel
theorem d15_14 : decode jdk_38_method_6_code 14 = .ok (.getstatic 39, 3) := by decide +kernel
theorem d15_17 : decode jdk_38_method_6_code 17 = .ok (.if_acmp .eq 28, 3) := by decide +kernel
theorem d15_45 : decode jdk_38_method_6_code 45 = .ok (.aload_n 0, 1) := by decide +kernel
theorem d15_46 : decode jdk_38_method_6_code 46 = .ok (.bipush 10, 2) := by decide +kernel
theorem d15_48 : decode jdk_38_method_6_code 48 = .ok (.iload_n 1, 1) := by decide +kernel
theorem d15_49 : decode jdk_38_method_6_code 49 = .ok (.invokestatic 79, 3) := by decide +kernel
theorem d15_52 : decode jdk_38_method_6_code 52 = .ok (.anewarray 7, 3) := by decide +kernel
theorem d15_55 : decode jdk_38_method_6_code 55 = .ok (.dup_x1, 1) := by decide +kernel
theorem d15_56 : decode jdk_38_method_6_code 56 = .ok (.putfield 9, 3) := by decide +kernel
theorem d15_59 : decode jdk_38_method_6_code 59 = .ok (.areturn, 1) := by decide +kernel
theorem ef_15 (m : MethodId) (x0 : Addr) (x1 : Int32) : entryFrame m #[(.ref x0), (.int x1)] 4 = mkF m 0 #[.val (.ref x0), .val (.int x1), .unset, .unset] [] := by first | (simp [entryFrame, mkF, argsToLocals, Value.category]; done) | rfl
def Qrm15 (Z : State) (a : Addr) (dd : Addr) (h0 : Heap) (n0 : Nat) (v : Option Value) (h : Heap) (L : List Loc) : Prop := ∃ b : Addr, ∃ kb : ClassId, v = some (.ref b) ∧ Fr n0 L ∧ Keep h0 h [a] ∧ Exa Z h a "java/util/ArrayList" ∧ Fld Z h a "java/util/ArrayList" "size" "I" (.int (0 : Int32)) ∧ Fld Z h a "java/util/ArrayList" "elementData" "[Ljava/lang/Object;" (.ref b) ∧ Fld Z h a "java/util/AbstractList" "modCount" "I" (.int (1 : Int32)) ∧ Arv Z h b kb (.object "java/lang/Object") (10 : Int32) [.null, .null, .null, .null, .null, .null, .null, .null, .null, .null] .null ∧ Exa Z h b "[Ljava/lang/Object;" ∧ Ovr Z kb "java/lang/Object" ∧ n0 ≤ b ∧ a ≠ b ∧ h0.size ≤ b
set_option maxRecDepth 65536 in
set_option maxHeartbeats 40000000 in
abbrev my13 : MethodName := ⟨"java/util/ArrayList", "grow", "(I)[Ljava/lang/Object;"⟩
abbrev Rm_rm15 : Room := { frames := 1, cells := 1, slots := 10, locals := 14 }
theorem rm15 (l : Launch) (Z : State) (a0 : Array Value) (hw : ∀ d ∈ tables_1, d.before a0 Z = true) (ws : List Jvm.Cond) (a : Addr) (dd : Addr) (h0 : Heap) (n0 : Nat) (Z0 : n0 ≤ h0.size) (E_a : Exa Z h0 a "java/util/ArrayList") (F_size_a : Fld Z h0 a "java/util/ArrayList" "size" "I" (.int (0 : Int32))) (F_elementData_a : Fld Z h0 a "java/util/ArrayList" "elementData" "[Ljava/lang/Object;" (.ref dd)) (F_modCount_a : Fld Z h0 a "java/util/AbstractList" "modCount" "I" (.int (1 : Int32))) (g_a : n0 ≤ a) (O_D : Sta Z Z.heap "java/util/ArrayList" "DEFAULTCAPACITY_EMPTY_ELEMENTDATA" "[Ljava/lang/Object;" (.ref dd)) (A_D : Av Z Z.heap dd (.object "java/lang/Object") 0 (fun _ => .null)) (X00 : Old Z n0 h0) :
    MetFree l my13 (head1 (Jvm.Cond.code my13 jdk_38_method_6_code 4 (some (.array (.object "java/lang/Object"))) :: ws) Rm_rm15) (fun aa_ U => aa_ = #[(.ref a), (.int (1 : Int32))] ∧ Z.Warmed39 U.vm ∧ U.heap = h0) (fun _ _ _ _ _ => True) (fun _ U oo_ U' => ∃ v L, oo_ = .returned v ∧ Qrm15 Z a dd h0 n0 v U'.heap L ∧ FrameEnd U oo_ U' L Rm_rm15.cells Rm_rm15.slots) := by
  refine MetFree.of_bodySF (plainFor_of_name pn_5) hisR ?_
  intro p e s m args below meth c s₁ Bd hml0 hP hK
  obtain ⟨rfl, hZ, hh⟩ := hP
  have hx := Bd.exec
  have hby := Bd.bytes
  have hml : c.maxLocals = 4 := hml0
  have hown : s.vm.findClass "java/util/ArrayList" = some m.cls := findClass_of_methodNamed Bd.named
  have hnm := (name_of_methodNamed Bd.named Bd.method).1
  have X0 : Stand p l e Rm_rm15 s m #[(.ref a), (.int (1 : Int32))] below meth c s₁ [] 0 0 := Stand.of_body Bd
  have e0 : s₁.heap = h0 := by rw [← hh, Bd.state]; rfl
  have N0 := Fr.nil n0
  have pre0 : ∀ tt_, Steps p.tables e below (s₁.setTop (mkF m 0 #[.val (.ref a), .val (.int (1 : Int32)), .unset, .unset] [])) tt_ → Steps p.tables e below (s₁.setTop (entryFrame m #[(.ref a), (.int (1 : Int32))] 4)) tt_ := fun tt_ kk_ => castTop (ef_15 m a (1 : Int32)) kk_
  obtain ⟨T1, X1, e1, st1⟩ := getF X0 hx hZ hown (host := "") (Or.inl (hwd25 hw)) Via.refl e0 F_elementData_a (g := (mkF m 1 #[.val (.ref a), .val (.int (1 : Int32)), .unset, .unset] [(.ref a)])) rfl rfl (hb hby d15_1)
  have f2_olda := A_D.ext X00.2
  obtain ⟨cl3, Ar3, S3, -⟩ := id f2_olda
  obtain ⟨T4, X4, e4, st4⟩ := getF X1 hx hZ hown (host := "") (Or.inl (hwd25 hw)) Via.refl e1 F_elementData_a (g := (mkF m 11 #[.val (.ref a), .val (.int (1 : Int32)), .val (.int (0 : Int32)), .unset] [(.ref a)])) rfl rfl (hb hby d15_11)
  obtain ⟨T5, X5, e5, st5⟩ := getS2 X4 hx hZ hown (host := "") (Or.inl (hwd24 hw)) Via.refl e4 (O_D.ext X00.2) (g := (mkF m 14 #[.val (.ref a), .val (.int (1 : Int32)), .val (.int (0 : Int32)), .unset] [(.ref dd)])) rfl (hb hby d15_14)
  obtain ⟨_, _, ⟨T6, L6, k6, n6⟩, -, X6, ⟨Lc6, hQ6, l6, y6, z6⟩, st6⟩ := Jvm.LawKit.callS X5 hx (y := my12) hown (mvT hZ (hwd98 hw)) (mvT hZ (hwd99 hw)) (mvT hZ (hwd100 hw)) (mvT hZ (hwd101 hw)) (by decide) (backOf (W := 1) (rm16 l Z a0 hw []  h0 n0 Z0 ) hZ (hwd101 hw) (hwd100 hw) (by decide) (by decide)) (g := (mkF m 49 #[.val (.ref a), .val (.int (1 : Int32)), .val (.int (0 : Int32)), .unset] [(.int (1 : Int32)), (.int (10 : Int32)), (.ref a)])) rfl (by rw [hml]; rfl) (argsL := [(.int (10 : Int32)), (.int (1 : Int32))]) (rest := [(.ref a)]) (lenOf pd_4 rfl) rfl (by show 2 * 0 + _ ≤ _; exact Nat.le_of_eq rfl) (hb hby d15_49) (fun _ _ => ⟨rfl, e5, (by decide : 0 + 0 ≤ _), (by decide : 0 + 0 ≤ _)⟩)
  dsimp only [Pt.U, Pt.locs, Pt.cells, Pt.slots] at X6 l6 y6 z6 st6 hQ6
  subst l6 y6 z6
  obtain ⟨rfl, N6q, e6q⟩ := hQ6
  have N6 := Fr.app N0 N6q
  obtain ⟨T7, h7, k7, X7, e7, E7, A7, B7, O7, st7⟩ := newRE X6 hx hZ hown (hwd102 hw) (hwd103 hw) e6q (g := (mkF m 52 #[.val (.ref a), .val (.int (1 : Int32)), .val (.int (0 : Int32)), .unset] [(.int (10 : Int32)), (.ref a)])) rfl (hb hby d15_52) rfl (by decide) (cap := 10) (by decide) (by decide) (by decide) (by decide) (ad := "[Ljava/lang/Object;") (by decide)
  obtain ⟨b7, g7⟩ : ∃ zz_, zz_ = h0.size := ⟨_, rfl⟩
  rw [← g7] at A7 B7 st7
  have ne_a_b7 : a ≠ b7 := Nat.ne_of_lt (Nat.lt_of_lt_of_le E_a.lt (Nat.le_of_eq g7.symm))
  have ne_dd_b7 : dd ≠ b7 := Nat.ne_of_lt (Nat.lt_of_lt_of_le f2_olda.lt (Nat.le_of_eq g7.symm))
  have g_b7 : n0 ≤ b7 := Nat.le_trans Z0 (Nat.le_of_eq g7.symm)
  have sz_b7 : h0.size ≤ b7 := Nat.le_trans (Keep.refl h0 [a]).1 (Nat.le_of_eq g7.symm)
  have V_b7 : Arv Z h7 b7 k7 (.object "java/lang/Object") (10 : Int32) [.null, .null, .null, .null, .null, .null, .null, .null, .null, .null] .null := (Arv.new A7 (by decide)).pad (pad_rep [] .null 10)
  have f8_E_a := (E_a.ext E7)
  have f9_F_a_elementData := (F_elementData_a.ext E7)
  obtain ⟨T10, h10, X10, e10, W10, st10⟩ := putF X7 hx hZ hown (host := "") (Or.inl (hwd25 hw)) Via.refl e7 f9_F_a_elementData f8_E_a (Or.inl (hwd26 hw)) (hwd2 hw) (ty := (.array (.object "java/lang/Object"))) (by decide) rfl rfl (g := (mkF m 56 #[.val (.ref a), .val (.int (1 : Int32)), .val (.int (0 : Int32)), .unset] [(.ref b7), (.ref a), (.ref b7)])) rfl rfl (hb hby d15_56)
  have N10 := Fr.snoc X10 N6 g_a
  have Fw10 := f9_F_a_elementData.same W10
  have kp11 : Keep h0 h10 [a] := (((Keep.refl h0 [a]).ext E7).wr W10 (Or.inl (List.mem_of_getElem? (i := 0) rfl)))
  have f12_E_a := (f8_E_a.wr W10)
  have f13_F_a_size := ((F_size_a.ext E7).other W10 (Or.inr (slot_ne (Or.inl (hwd63 hw)) (Or.inl (hwd26 hw)) (by decide) (t := .int) (t' := (.array (.object "java/lang/Object"))) (by decide) (by decide))))
  have f14_F_a_modCount := ((F_modCount_a.ext E7).other W10 (Or.inr (slot_ne (Or.inl (hwd23 hw)) (Or.inl (hwd26 hw)) (by decide) (t := .int) (t' := (.array (.object "java/lang/Object"))) (by decide) (by decide))))
  have f15_V_b7 := (V_b7.other W10 (Ne.symm ne_a_b7))
  have f16_E_b7 := (B7.wr W10)
  obtain ⟨fs, hr, hrun, hended, hW, hsame⟩ := X10.leave (v := some (.ref b7)) (fun h => by rw [Bd.returns] at h; cases h)
  refine ⟨_, _, pre0 _ ?_, hrun, hended, _, _, rfl, ?_, ⟨_, rfl⟩, hW, hsame.mono (by decide) (by decide)⟩
  · show Steps p.tables e below (s₁.setTop (mkF m 0 #[.val (.ref a), .val (.int (1 : Int32)), .unset, .unset] [])) _
    refine XS.aloadN X0.here hx rfl (hb hby d15_0) rfl rfl ?_
    refine st1 _ ?_
    refine X1.arraylength hx (by rw [e1]; exact Ar3.1) (State.isArrayOf_alike hZ.alike Ar3.2.1) (g := (mkF m 4 #[.val (.ref a), .val (.int (1 : Int32)), .unset, .unset] [(.ref dd)])) rfl rfl (hb hby d15_4) _ ?_
    rw [S3]
    show Steps p.tables e below (T1.setTop (mkF m 5 #[.val (.ref a), .val (.int (1 : Int32)), .unset, .unset] [(.int (Nat.toInt32 0))])) _
    rw [show ((Nat.toInt32 0) : Int32) = (0 : Int32) from by decide]
    refine XS.istoreN X1.here hx rfl (hb hby d15_5) rfl (l' := #[.val (.ref a), .val (.int (1 : Int32)), .val (.int (0 : Int32)), .unset]) rfl ?_
    refine XS.iloadN X1.here hx rfl (hb hby d15_6) rfl ?_
    refine XS.ifNo X1.here hx rfl (hb hby d15_7) rfl ((if0 _ _).trans (flt (show ¬ ((0 : Int32) < (0 : Int32)) from (by decide))).2.2.1) ?_
    refine XS.aloadN X1.here hx rfl (hb hby d15_10) rfl rfl ?_
    refine st4 _ ?_
    show Steps p.tables e below (T4.setTop (mkF m 14 #[.val (.ref a), .val (.int (1 : Int32)), .val (.int (0 : Int32)), .unset] [(.ref dd)])) _
    refine st5 _ ?_
    refine Jvm.RoadKit.acmp (g := (mkF m 17 #[.val (.ref a), .val (.int (1 : Int32)), .val (.int (0 : Int32)), .unset] [(.ref dd), (.ref dd)])) X5 hx rfl rfl rfl (pc0 := 17) (pc' := 45) (same := true) rfl (hb hby d15_17) rfl (decide_eq_true rfl) (by decide) (by decide) ?_
    refine XS.aloadN X5.here hx rfl (hb hby d15_45) rfl rfl ?_
    refine XS.bipush X5.here hx rfl (hb hby d15_46) ?_
    refine XS.iloadN X5.here hx rfl (hb hby d15_48) rfl ?_
    refine st6 _ ?_
    show Steps p.tables e below (T6.setTop (mkF m 52 #[.val (.ref a), .val (.int (1 : Int32)), .val (.int (0 : Int32)), .unset] [(.int (10 : Int32)), (.ref a)])) _
    refine st7 _ ?_
    refine XS.dupX1 X7.here hx rfl (hb hby d15_55) rfl rfl rfl ?_
    refine st10 _ ?_
    jvm_step X10.here [X10.here.top, hx, (hb hby d15_59), X10.method', Bd.returns, Value.isRef, FieldType.isReference]
    first | (intro acts; rw [hr _ acts rfl rfl rfl]) | rw [hr _ _ rfl rfl rfl]
    exact Steps.refl _
  · show Qrm15 Z a dd h0 n0 _ T10.heap _
    rw [e10]
    exact ⟨b7, k7, rfl, N10, kp11, f12_E_a, f13_F_a_size, Fw10, f14_F_a_modCount, f15_V_b7, f16_E_b7, O7, g_b7, ne_a_b7, sz_b7⟩
theorem hwd93 {Z : State} {a0 : Array Value} (hw : ∀ d ∈ tables_1, d.before a0 Z = true) : (Jvm.Cond.methodLink "java/util/ArrayList" (69 : Nat) ({ cls := "java/util/ArrayList", name := "grow", desc := "(I)[Ljava/lang/Object;" } : Jvm.MethodName)).before a0 Z = true := hw _ (List.mem_of_getElem? (i := 93) rfl)
theorem hwd97 {Z : State} {a0 : Array Value} (hw : ∀ d ∈ tables_1, d.before a0 Z = true) : (Jvm.Cond.code ({ cls := "java/util/ArrayList", name := "grow", desc := "(I)[Ljava/lang/Object;" } : Jvm.MethodName) jdk_38_method_6_code (4 : Nat) (Option.some (Jvm.ClassFile.FieldType.array (Jvm.ClassFile.FieldType.object "java/lang/Object")))).before a0 Z = true := hw _ (List.mem_of_getElem? (i := 97) rfl)
theorem pd_5 : parseMethodDescriptor "(I)[Ljava/lang/Object;" = some ⟨[.int], some (.array (.object "java/lang/Object"))⟩ := by decide +kernel
theorem hwd96 {Z : State} {a0 : Array Value} (hw : ∀ d ∈ tables_1, d.before a0 Z = true) : (Jvm.Cond.selects "java/util/ArrayList" ({ cls := "java/util/ArrayList", name := "grow", desc := "(I)[Ljava/lang/Object;" } : Jvm.MethodName) ({ cls := "java/util/ArrayList", name := "grow", desc := "(I)[Ljava/lang/Object;" } : Jvm.MethodName)).before a0 Z = true := hw _ (List.mem_of_getElem? (i := 96) rfl)
theorem hwd94 {Z : State} {a0 : Array Value} (hw : ∀ d ∈ tables_1, d.before a0 Z = true) : (Jvm.Cond.instanceMethod ({ cls := "java/util/ArrayList", name := "grow", desc := "(I)[Ljava/lang/Object;" } : Jvm.MethodName)).before a0 Z = true := hw _ (List.mem_of_getElem? (i := 94) rfl)
theorem hwd95 {Z : State} {a0 : Array Value} (hw : ∀ d ∈ tables_1, d.before a0 Z = true) : (Jvm.Cond.privateMethod ({ cls := "java/util/ArrayList", name := "grow", desc := "(I)[Ljava/lang/Object;" } : Jvm.MethodName)).before a0 Z = true := hw _ (List.mem_of_getElem? (i := 95) rfl)
theorem d14_0 : decode jdk_38_method_7_code 0 = .ok (.aload_n 0, 1) := by decide +kernel
theorem d14_1 : decode jdk_38_method_7_code 1 = .ok (.aload_n 0, 1) := by decide +kernel
theorem d14_2 : decode jdk_38_method_7_code 2 = .ok (.getfield 48, 3) := by decide +kernel
theorem d14_5 : decode jdk_38_method_7_code 5 = .ok (.iconst 1, 1) := by decide +kernel
theorem d14_6 : decode jdk_38_method_7_code 6 = .ok (.iadd, 1) := by decide +kernel
theorem d14_7 : decode jdk_38_method_7_code 7 = .ok (.invokevirtual 69, 3) := by decide +kernel
theorem d14_10 : decode jdk_38_method_7_code 10 = .ok (.areturn, 1) := by decide +kernel
theorem ef_14 (m : MethodId) (x0 : Addr) : entryFrame m #[(.ref x0)] 1 = mkF m 0 #[.val (.ref x0)] [] := by first | (simp [entryFrame, mkF, argsToLocals, Value.category]; done) | rfl
def Qrm14 (Z : State) (a : Addr) (dd : Addr) (h0 : Heap) (n0 : Nat) (v : Option Value) (h : Heap) (L : List Loc) : Prop := ∃ b : Addr, ∃ kb : ClassId, v = some (.ref b) ∧ Fr n0 L ∧ Keep h0 h [a] ∧ Exa Z h a "java/util/ArrayList" ∧ Fld Z h a "java/util/ArrayList" "size" "I" (.int (0 : Int32)) ∧ Fld Z h a "java/util/ArrayList" "elementData" "[Ljava/lang/Object;" (.ref b) ∧ Fld Z h a "java/util/AbstractList" "modCount" "I" (.int (1 : Int32)) ∧ Arv Z h b kb (.object "java/lang/Object") (10 : Int32) [.null, .null, .null, .null, .null, .null, .null, .null, .null, .null] .null ∧ Exa Z h b "[Ljava/lang/Object;" ∧ Ovr Z kb "java/lang/Object" ∧ n0 ≤ b ∧ a ≠ b ∧ h0.size ≤ b
set_option maxRecDepth 65536 in
set_option maxHeartbeats 40000000 in
abbrev my14 : MethodName := ⟨"java/util/ArrayList", "grow", "()[Ljava/lang/Object;"⟩
abbrev Rm_rm14 : Room := { frames := 2, cells := 1, slots := 10, locals := 29 }
theorem rm14 (l : Launch) (Z : State) (a0 : Array Value) (hw : ∀ d ∈ tables_1, d.before a0 Z = true) (ws : List Jvm.Cond) (a : Addr) (dd : Addr) (h0 : Heap) (n0 : Nat) (Z0 : n0 ≤ h0.size) (E_a : Exa Z h0 a "java/util/ArrayList") (F_size_a : Fld Z h0 a "java/util/ArrayList" "size" "I" (.int (0 : Int32))) (F_elementData_a : Fld Z h0 a "java/util/ArrayList" "elementData" "[Ljava/lang/Object;" (.ref dd)) (F_modCount_a : Fld Z h0 a "java/util/AbstractList" "modCount" "I" (.int (1 : Int32))) (g_a : n0 ≤ a) (O_D : Sta Z Z.heap "java/util/ArrayList" "DEFAULTCAPACITY_EMPTY_ELEMENTDATA" "[Ljava/lang/Object;" (.ref dd)) (A_D : Av Z Z.heap dd (.object "java/lang/Object") 0 (fun _ => .null)) (X00 : Old Z n0 h0) :
    MetFree l my14 (head1 (Jvm.Cond.code my14 jdk_38_method_7_code 1 (some (.array (.object "java/lang/Object"))) :: ws) Rm_rm14) (fun aa_ U => aa_ = #[(.ref a)] ∧ Z.Warmed39 U.vm ∧ U.heap = h0) (fun _ _ _ _ _ => True) (fun _ U oo_ U' => ∃ v L, oo_ = .returned v ∧ Qrm14 Z a dd h0 n0 v U'.heap L ∧ FrameEnd U oo_ U' L Rm_rm14.cells Rm_rm14.slots) := by
  refine MetFree.of_bodySF (plainFor_of_name pn_5) hisR ?_
  intro p e s m args below meth c s₁ Bd hml0 hP hK
  obtain ⟨rfl, hZ, hh⟩ := hP
  have hx := Bd.exec
  have hby := Bd.bytes
  have hml : c.maxLocals = 1 := hml0
  have hown : s.vm.findClass "java/util/ArrayList" = some m.cls := findClass_of_methodNamed Bd.named
  have hnm := (name_of_methodNamed Bd.named Bd.method).1
  have X0 : Stand p l e Rm_rm14 s m #[(.ref a)] below meth c s₁ [] 0 0 := Stand.of_body Bd
  have e0 : s₁.heap = h0 := by rw [← hh, Bd.state]; rfl
  have N0 := Fr.nil n0
  have pre0 : ∀ tt_, Steps p.tables e below (s₁.setTop (mkF m 0 #[.val (.ref a)] [])) tt_ → Steps p.tables e below (s₁.setTop (entryFrame m #[(.ref a)] 1)) tt_ := fun tt_ kk_ => castTop (ef_14 m a) kk_
  obtain ⟨T1, X1, e1, st1⟩ := getF X0 hx hZ hown (host := "") (Or.inl (hwd62 hw)) Via.refl e0 F_size_a (g := (mkF m 2 #[.val (.ref a)] [(.ref a), (.ref a)])) rfl rfl (hb hby d14_2)
  obtain ⟨cq2, q2, q2'⟩ := E_a.cell
  obtain ⟨_, _, ⟨T2, L2, k2, n2⟩, -, X2, ⟨Lc2, hQ2, l2, y2, z2⟩, st2⟩ := X1.privateBack hx (y := my13) hown (mvT hZ (hwd93 hw)) (mvT hZ (hwd94 hw)) (mvT hZ (hwd96 hw)) (Cond.privateMethod_at (mvP hZ (hwd95 hw) (args := #[]))) (mvT hZ (hwd97 hw)) (by decide) (backOf (W := 0) (rm15 l Z a0 hw [] a dd h0 n0 Z0 E_a F_size_a F_elementData_a F_modCount_a g_a O_D A_D X00) hZ (hwd97 hw) (hwd3 hw) (by decide) (by decide)) (g := (mkF m 7 #[.val (.ref a)] [(.int (1 : Int32)), (.ref a)])) rfl (by rw [hml]; rfl) (Steps.refl _) (a := a) (by rw [e1]; exact q2) q2' (argsL := [(.int (1 : Int32))]) (rest := []) (lenOf pd_5 rfl) rfl (by show 2 * 0 + _ ≤ _; exact Nat.le_of_eq rfl) (hb hby d14_7) (fun _ _ => ⟨rfl, e1, (by decide : 0 + 1 ≤ _), (by decide : 0 + 10 ≤ _)⟩)
  dsimp only [Pt.U, Pt.locs, Pt.cells, Pt.slots] at X2 l2 y2 z2 st2 hQ2
  subst l2 y2 z2
  obtain ⟨b_e2, kb_e2, rfl, N2q, K2, p2_1, p2_2, p2_3, p2_4, p2_5, p2_6, O_b_2, g_b_2, ne_a_b_2, sz_b_2⟩ := hQ2
  have N2 := Fr.app N0 N2q
  have kp3 : Keep h0 T2.heap [a] := ((Keep.refl h0 [a]).trans K2 (allS (Or.inl (List.mem_of_getElem? (i := 0) rfl)) all0))
  obtain ⟨fs, hr, hrun, hended, hW, hsame⟩ := X2.leave (v := some (.ref b_e2)) (fun h => by rw [Bd.returns] at h; cases h)
  refine ⟨_, _, pre0 _ ?_, hrun, hended, _, _, rfl, ?_, ⟨_, rfl⟩, hW, hsame.mono (by decide) (by decide)⟩
  · show Steps p.tables e below (s₁.setTop (mkF m 0 #[.val (.ref a)] [])) _
    refine XS.aloadN X0.here hx rfl (hb hby d14_0) rfl rfl ?_
    refine XS.aloadN X0.here hx rfl (hb hby d14_1) rfl rfl ?_
    refine st1 _ ?_
    refine XS.iconst X1.here hx rfl (hb hby d14_5) ?_
    refine XS.iadd X1.here hx rfl (hb hby d14_6) rfl ?_
    show Steps p.tables e below (T1.setTop (mkF m 7 #[.val (.ref a)] [(.int ((0 : Int32) + (1 : Int32))), (.ref a)])) _
    rw [show (((0 : Int32) + (1 : Int32)) : Int32) = (1 : Int32) from by decide]
    refine st2.trans ?_
    jvm_step X2.here [X2.here.top, hx, (hb hby d14_10), X2.method', Bd.returns, Value.isRef, FieldType.isReference]
    first | (intro acts; rw [hr _ acts rfl rfl rfl]) | rw [hr _ _ rfl rfl rfl]
    exact Steps.refl _
  · show Qrm14 Z a dd h0 n0 _ T2.heap _
    exact ⟨b_e2, kb_e2, rfl, N2, kp3, p2_1, p2_2, p2_3, p2_4, p2_5, p2_6, O_b_2, g_b_2, ne_a_b_2, (Nat.le_trans (Keep.refl h0 [a]).1 sz_b_2)⟩
theorem hwd88 {Z : State} {a0 : Array Value} (hw : ∀ d ∈ tables_1, d.before a0 Z = true) : (Jvm.Cond.methodLink "java/util/ArrayList" (129 : Nat) ({ cls := "java/util/ArrayList", name := "grow", desc := "()[Ljava/lang/Object;" } : Jvm.MethodName)).before a0 Z = true := hw _ (List.mem_of_getElem? (i := 88) rfl)
theorem hwd92 {Z : State} {a0 : Array Value} (hw : ∀ d ∈ tables_1, d.before a0 Z = true) : (Jvm.Cond.code ({ cls := "java/util/ArrayList", name := "grow", desc := "()[Ljava/lang/Object;" } : Jvm.MethodName) jdk_38_method_7_code (1 : Nat) (Option.some (Jvm.ClassFile.FieldType.array (Jvm.ClassFile.FieldType.object "java/lang/Object")))).before a0 Z = true := hw _ (List.mem_of_getElem? (i := 92) rfl)
theorem pd_6 : parseMethodDescriptor "()[Ljava/lang/Object;" = some ⟨[], some (.array (.object "java/lang/Object"))⟩ := by decide +kernel
theorem hwd91 {Z : State} {a0 : Array Value} (hw : ∀ d ∈ tables_1, d.before a0 Z = true) : (Jvm.Cond.selects "java/util/ArrayList" ({ cls := "java/util/ArrayList", name := "grow", desc := "()[Ljava/lang/Object;" } : Jvm.MethodName) ({ cls := "java/util/ArrayList", name := "grow", desc := "()[Ljava/lang/Object;" } : Jvm.MethodName)).before a0 Z = true := hw _ (List.mem_of_getElem? (i := 91) rfl)
theorem hwd89 {Z : State} {a0 : Array Value} (hw : ∀ d ∈ tables_1, d.before a0 Z = true) : (Jvm.Cond.instanceMethod ({ cls := "java/util/ArrayList", name := "grow", desc := "()[Ljava/lang/Object;" } : Jvm.MethodName)).before a0 Z = true := hw _ (List.mem_of_getElem? (i := 89) rfl)
theorem hwd90 {Z : State} {a0 : Array Value} (hw : ∀ d ∈ tables_1, d.before a0 Z = true) : (Jvm.Cond.privateMethod ({ cls := "java/util/ArrayList", name := "grow", desc := "()[Ljava/lang/Object;" } : Jvm.MethodName)).before a0 Z = true := hw _ (List.mem_of_getElem? (i := 90) rfl)
theorem hwd104 {Z : State} {a0 : Array Value} (hw : ∀ d ∈ tables_1, d.before a0 Z = true) : (Jvm.Cond.castable "com/example/gleipnir/gleipnir/service/Counterplay$Position" "java/lang/Object").before a0 Z = true := hw _ (List.mem_of_getElem? (i := 104) rfl)
theorem d13_0 : decode jdk_38_method_24_code 0 = .ok (.iload_n 3, 1) := by decide +kernel
theorem d13_1 : decode jdk_38_method_24_code 1 = .ok (.aload_n 2, 1) := by decide +kernel
theorem d13_2 : decode jdk_38_method_24_code 2 = .ok (.arraylength, 1) := by decide +kernel
theorem d13_3 : decode jdk_38_method_24_code 3 = .ok (.if_icmp .ne 8, 3) := by decide +kernel
theorem d13_6 : decode jdk_38_method_24_code 6 = .ok (.aload_n 0, 1) := by decide +kernel
theorem d13_7 : decode jdk_38_method_24_code 7 = .ok (.invokevirtual 129, 3) := by decide +kernel
theorem d13_10 : decode jdk_38_method_24_code 10 = .ok (.astore_n 2, 1) := by decide +kernel
theorem d13_11 : decode jdk_38_method_24_code 11 = .ok (.aload_n 2, 1) := by decide +kernel
theorem d13_12 : decode jdk_38_method_24_code 12 = .ok (.iload_n 3, 1) := by decide +kernel
theorem d13_13 : decode jdk_38_method_24_code 13 = .ok (.aload_n 1, 1) := by decide +kernel
theorem d13_14 : decode jdk_38_method_24_code 14 = .ok (.aastore, 1) := by decide +kernel
theorem d13_15 : decode jdk_38_method_24_code 15 = .ok (.aload_n 0, 1) := by decide +kernel
theorem d13_16 : decode jdk_38_method_24_code 16 = .ok (.iload_n 3, 1) := by decide +kernel
theorem d13_17 : decode jdk_38_method_24_code 17 = .ok (.iconst 1, 1) := by decide +kernel
theorem d13_18 : decode jdk_38_method_24_code 18 = .ok (.iadd, 1) := by decide +kernel
theorem d13_19 : decode jdk_38_method_24_code 19 = .ok (.putfield 48, 3) := by decide +kernel
theorem d13_22 : decode jdk_38_method_24_code 22 = .ok (.return_, 1) := by decide +kernel
theorem ef_13 (m : MethodId) (x0 : Addr) (x1 : Addr) (x2 : Addr) (x3 : Int32) : entryFrame m #[(.ref x0), (.ref x1), (.ref x2), (.int x3)] 4 = mkF m 0 #[.val (.ref x0), .val (.ref x1), .val (.ref x2), .val (.int x3)] [] := by first | (simp [entryFrame, mkF, argsToLocals, Value.category]; done) | rfl
def Qa3_0 (Z : State) (a : Addr) (q : Addr) (dd : Addr) (h0 : Heap) (n0 : Nat) (v : Option Value) (h : Heap) (L : List Loc) : Prop := ∃ b : Addr, ∃ kb : ClassId, v = none ∧ Fr n0 L ∧ Keep h0 h [a] ∧ Exa Z h a "java/util/ArrayList" ∧ Fld Z h a "java/util/ArrayList" "size" "I" (.int (1 : Int32)) ∧ Fld Z h a "java/util/ArrayList" "elementData" "[Ljava/lang/Object;" (.ref b) ∧ Fld Z h a "java/util/AbstractList" "modCount" "I" (.int (1 : Int32)) ∧ Arv Z h b kb (.object "java/lang/Object") (10 : Int32) [(.ref q), .null, .null, .null, .null, .null, .null, .null, .null, .null] .null ∧ Exa Z h b "[Ljava/lang/Object;" ∧ Ovr Z kb "java/lang/Object" ∧ n0 ≤ b ∧ a ≠ b ∧ h0.size ≤ b
set_option maxRecDepth 65536 in
set_option maxHeartbeats 40000000 in
abbrev my15 : MethodName := ⟨"java/util/ArrayList", "add", "(Ljava/lang/Object;[Ljava/lang/Object;I)V"⟩
abbrev Rm_a3_0 : Room := { frames := 3, cells := 1, slots := 10, locals := 41 }
theorem a3_0 (l : Launch) (Z : State) (a0 : Array Value) (hw : ∀ d ∈ tables_1, d.before a0 Z = true) (ws : List Jvm.Cond) (a : Addr) (q : Addr) (dd : Addr) (h0 : Heap) (n0 : Nat) (Z0 : n0 ≤ h0.size) (E_a : Exa Z h0 a "java/util/ArrayList") (F_size_a : Fld Z h0 a "java/util/ArrayList" "size" "I" (.int (0 : Int32))) (F_elementData_a : Fld Z h0 a "java/util/ArrayList" "elementData" "[Ljava/lang/Object;" (.ref dd)) (F_modCount_a : Fld Z h0 a "java/util/AbstractList" "modCount" "I" (.int (1 : Int32))) (g_a : n0 ≤ a) (O_D : Sta Z Z.heap "java/util/ArrayList" "DEFAULTCAPACITY_EMPTY_ELEMENTDATA" "[Ljava/lang/Object;" (.ref dd)) (A_D : Av Z Z.heap dd (.object "java/lang/Object") 0 (fun _ => .null)) (X00 : Old Z n0 h0) (E_q : Exa Z h0 q "com/example/gleipnir/gleipnir/service/Counterplay$Position") :
    MetFree l my15 (head1 (Jvm.Cond.code my15 jdk_38_method_24_code 4 none :: ws) Rm_a3_0) (fun aa_ U => aa_ = #[(.ref a), (.ref q), (.ref dd), (.int (0 : Int32))] ∧ Z.Warmed39 U.vm ∧ U.heap = h0) (fun _ _ _ _ _ => True) (fun _ U oo_ U' => ∃ v L, oo_ = .returned v ∧ Qa3_0 Z a q dd h0 n0 v U'.heap L ∧ FrameEnd U oo_ U' L Rm_a3_0.cells Rm_a3_0.slots) := by
  refine MetFree.of_bodySF (plainFor_of_name pn_5) hisR ?_
  intro p e s m args below meth c s₁ Bd hml0 hP hK
  obtain ⟨rfl, hZ, hh⟩ := hP
  have hx := Bd.exec
  have hby := Bd.bytes
  have hml : c.maxLocals = 4 := hml0
  have hown : s.vm.findClass "java/util/ArrayList" = some m.cls := findClass_of_methodNamed Bd.named
  have hnm := (name_of_methodNamed Bd.named Bd.method).1
  have X0 : Stand p l e Rm_a3_0 s m #[(.ref a), (.ref q), (.ref dd), (.int (0 : Int32))] below meth c s₁ [] 0 0 := Stand.of_body Bd
  have e0 : s₁.heap = h0 := by rw [← hh, Bd.state]; rfl
  have N0 := Fr.nil n0
  have pre0 : ∀ tt_, Steps p.tables e below (s₁.setTop (mkF m 0 #[.val (.ref a), .val (.ref q), .val (.ref dd), .val (.int (0 : Int32))] [])) tt_ → Steps p.tables e below (s₁.setTop (entryFrame m #[(.ref a), (.ref q), (.ref dd), (.int (0 : Int32))] 4)) tt_ := fun tt_ kk_ => castTop (ef_13 m a q dd (0 : Int32)) kk_
  have f1_olda := A_D.ext X00.2
  obtain ⟨cl2, Ar2, S2, -⟩ := id f1_olda
  obtain ⟨cq3, q3, q3'⟩ := E_a.cell
  obtain ⟨_, _, ⟨T3, L3, k3, n3⟩, -, X3, ⟨Lc3, hQ3, l3, y3, z3⟩, st3⟩ := X0.privateBack hx (y := my14) hown (mvT hZ (hwd88 hw)) (mvT hZ (hwd89 hw)) (mvT hZ (hwd91 hw)) (Cond.privateMethod_at (mvP hZ (hwd90 hw) (args := #[]))) (mvT hZ (hwd92 hw)) (by decide) (backOf (W := 0) (rm14 l Z a0 hw [] a dd h0 n0 Z0 E_a F_size_a F_elementData_a F_modCount_a g_a O_D A_D X00) hZ (hwd92 hw) (hwd3 hw) (by decide) (by decide)) (g := (mkF m 7 #[.val (.ref a), .val (.ref q), .val (.ref dd), .val (.int (0 : Int32))] [(.ref a)])) rfl (by rw [hml]; rfl) (Steps.refl _) (a := a) (by rw [e0]; exact q3) q3' (argsL := []) (rest := []) (lenOf pd_6 rfl) rfl (by show 2 * 0 + _ ≤ _; exact Nat.le_of_eq rfl) (hb hby d13_7) (fun _ _ => ⟨rfl, e0, (by decide : 0 + 1 ≤ _), (by decide : 0 + 10 ≤ _)⟩)
  dsimp only [Pt.U, Pt.locs, Pt.cells, Pt.slots] at X3 l3 y3 z3 st3 hQ3
  subst l3 y3 z3
  obtain ⟨b_e3, kb_e3, rfl, N3q, K3, p3_1, p3_2, p3_3, p3_4, p3_5, p3_6, O_b_3, g_b_3, ne_a_b_3, sz_b_3⟩ := hQ3
  have N3 := Fr.app N0 N3q
  have f5_E_q := (E_q.keep K3)
  obtain ⟨cl4, Ar4, q4, S4, M4, H4, G4⟩ := id p3_5
  obtain ⟨T6, h6, X6, e6, W6, st6⟩ := stR X3 hx hZ rfl Ar4 (j := (0 : Int32)) (inb_of S4 ⟨by decide, by decide⟩) rfl (Sto.ofV Ar4 q4 O_b_3 (Ins.of_exa f5_E_q (hwd104 hw))) (g := (mkF m 14 #[.val (.ref a), .val (.ref q), .val (.ref b_e3), .val (.int (0 : Int32))] [(.ref q), (.int (0 : Int32)), (.ref b_e3)])) rfl rfl (hb hby d13_14)
  have N6 := Fr.snoc X6 N3 g_b_3
  have Vw6 : Arv Z h6 b_e3 kb_e3 (.object "java/lang/Object") (10 : Int32) [(.ref q), .null, .null, .null, .null, .null, .null, .null, .null, .null] .null := Arv.set Ar4 q4 S4 M4 H4 G4 rfl W6 0 rfl (Nat.le_of_ble_eq_true rfl)
  have f7_E_a := (p3_1.wr W6)
  have f8_F_a_size := (p3_2.other W6 (Or.inl ne_a_b_3))
  obtain ⟨T9, h9, X9, e9, W9, st9⟩ := putF X6 hx hZ hown (host := "") (Or.inl (hwd62 hw)) Via.refl e6 f8_F_a_size f7_E_a (Or.inl (hwd63 hw)) (hwd2 hw) (ty := .int) (by decide) rfl rfl (g := (mkF m 19 #[.val (.ref a), .val (.ref q), .val (.ref b_e3), .val (.int (0 : Int32))] [(.int (1 : Int32)), (.ref a)])) rfl rfl (hb hby d13_19)
  have N9 := Fr.snoc X9 N6 g_a
  have Fw9 := f8_F_a_size.same W9
  have kp10 : Keep h0 h9 [a] := ((((Keep.refl h0 [a]).trans K3 (allS (Or.inl (List.mem_of_getElem? (i := 0) rfl)) all0)).wr W6 (Or.inr (Nat.le_trans (Keep.refl h0 [a]).1 sz_b_3))).wr W9 (Or.inl (List.mem_of_getElem? (i := 0) rfl)))
  have f11_E_a := (f7_E_a.wr W9)
  have f12_F_a_elementData := ((p3_3.other W6 (Or.inl ne_a_b_3)).other W9 (Or.inr (slot_ne (Or.inl (hwd26 hw)) (Or.inl (hwd63 hw)) (by decide) (t := (.array (.object "java/lang/Object"))) (t' := .int) (by decide) (by decide))))
  have f13_F_a_modCount := ((p3_4.other W6 (Or.inl ne_a_b_3)).other W9 (Or.inr (slot_ne (Or.inl (hwd23 hw)) (Or.inl (hwd63 hw)) (by decide) (t := .int) (t' := .int) (by decide) (by decide))))
  have f14_V_b_e3 := (Vw6.other W9 (Ne.symm ne_a_b_3))
  have f15_E_b_e3 := ((p3_6.wr W6).wr W9)
  obtain ⟨fs, hr, hrun, hended, hW, hsame⟩ := X9.leave (v := none) (fun _ => rfl)
  refine ⟨_, _, pre0 _ ?_, hrun, hended, _, _, rfl, ?_, ⟨_, rfl⟩, hW, hsame.mono (by decide) (by decide)⟩
  · show Steps p.tables e below (s₁.setTop (mkF m 0 #[.val (.ref a), .val (.ref q), .val (.ref dd), .val (.int (0 : Int32))] [])) _
    refine XS.iloadN X0.here hx rfl (hb hby d13_0) rfl ?_
    refine XS.aloadN X0.here hx rfl (hb hby d13_1) rfl rfl ?_
    refine X0.arraylength hx (by rw [e0]; exact Ar2.1) (State.isArrayOf_alike hZ.alike Ar2.2.1) (g := (mkF m 2 #[.val (.ref a), .val (.ref q), .val (.ref dd), .val (.int (0 : Int32))] [(.ref dd), (.int (0 : Int32))])) rfl rfl (hb hby d13_2) _ ?_
    rw [S2]
    show Steps p.tables e below (s₁.setTop (mkF m 3 #[.val (.ref a), .val (.ref q), .val (.ref dd), .val (.int (0 : Int32))] [(.int (Nat.toInt32 0)), (.int (0 : Int32))])) _
    rw [show ((Nat.toInt32 0) : Int32) = (0 : Int32) from by decide]
    refine XS.icmpNo X0.here hx rfl (hb hby d13_3) rfl (teq (show (0 : Int32) = (0 : Int32) from rfl)).2 ?_
    refine XS.aloadN X0.here hx rfl (hb hby d13_6) rfl rfl ?_
    refine st3.trans ?_
    refine XS.astoreN X3.here hx rfl (hb hby d13_10) rfl rfl (l' := #[.val (.ref a), .val (.ref q), .val (.ref b_e3), .val (.int (0 : Int32))]) rfl ?_
    refine XS.aloadN X3.here hx rfl (hb hby d13_11) rfl rfl ?_
    show Steps p.tables e below (T3.setTop (mkF m 12 #[.val (.ref a), .val (.ref q), .val (.ref b_e3), .val (.int (0 : Int32))] [(.ref b_e3)])) _
    refine XS.iloadN X3.here hx rfl (hb hby d13_12) rfl ?_
    refine XS.aloadN X3.here hx rfl (hb hby d13_13) rfl rfl ?_
    refine st6 _ ?_
    refine XS.aloadN X6.here hx rfl (hb hby d13_15) rfl rfl ?_
    refine XS.iloadN X6.here hx rfl (hb hby d13_16) rfl ?_
    refine XS.iconst X6.here hx rfl (hb hby d13_17) ?_
    show Steps p.tables e below (T6.setTop (mkF m 18 #[.val (.ref a), .val (.ref q), .val (.ref b_e3), .val (.int (0 : Int32))] [(.int (1 : Int32)), (.int (0 : Int32)), (.ref a)])) _
    refine XS.iadd X6.here hx rfl (hb hby d13_18) rfl ?_
    show Steps p.tables e below (T6.setTop (mkF m 19 #[.val (.ref a), .val (.ref q), .val (.ref b_e3), .val (.int (0 : Int32))] [(.int ((0 : Int32) + (1 : Int32))), (.ref a)])) _
    rw [show (((0 : Int32) + (1 : Int32)) : Int32) = (1 : Int32) from by decide]
    refine st9 _ ?_
    exact X9.returnOut hx Bd.returns (hb hby d13_22) hr
  · show Qa3_0 Z a q dd h0 n0 _ T9.heap _
    rw [e9]
    exact ⟨b_e3, kb_e3, rfl, N9, kp10, f11_E_a, Fw9, f12_F_a_elementData, f13_F_a_modCount, f14_V_b_e3, f15_E_b_e3, O_b_3, g_b_3, ne_a_b_3, (Nat.le_trans (Keep.refl h0 [a]).1 sz_b_3)⟩
theorem hwd81 {Z : State} {a0 : Array Value} (hw : ∀ d ∈ tables_1, d.before a0 Z = true) : (Jvm.Cond.fieldLink "java/util/ArrayList" (63 : Nat) "java/util/ArrayList" "modCount" "I").before a0 Z = true := hw _ (List.mem_of_getElem? (i := 81) rfl)
theorem hwd82 {Z : State} {a0 : Array Value} (hw : ∀ d ∈ tables_1, d.before a0 Z = true) : (Jvm.Cond.sameField "java/util/ArrayList" "java/util/AbstractList" "modCount" "I").before a0 Z = true := hw _ (List.mem_of_getElem? (i := 82) rfl)
theorem hwd83 {Z : State} {a0 : Array Value} (hw : ∀ d ∈ tables_1, d.before a0 Z = true) : (Jvm.Cond.methodLink "java/util/ArrayList" (131 : Nat) ({ cls := "java/util/ArrayList", name := "add", desc := "(Ljava/lang/Object;[Ljava/lang/Object;I)V" } : Jvm.MethodName)).before a0 Z = true := hw _ (List.mem_of_getElem? (i := 83) rfl)
theorem hwd87 {Z : State} {a0 : Array Value} (hw : ∀ d ∈ tables_1, d.before a0 Z = true) : (Jvm.Cond.code ({ cls := "java/util/ArrayList", name := "add", desc := "(Ljava/lang/Object;[Ljava/lang/Object;I)V" } : Jvm.MethodName) jdk_38_method_24_code (4 : Nat) (Option.none : Option Jvm.ClassFile.FieldType)).before a0 Z = true := hw _ (List.mem_of_getElem? (i := 87) rfl)
theorem pd_7 : parseMethodDescriptor "(Ljava/lang/Object;[Ljava/lang/Object;I)V" = some ⟨[(.object "java/lang/Object"), (.array (.object "java/lang/Object")), .int], none⟩ := by decide +kernel
theorem hwd86 {Z : State} {a0 : Array Value} (hw : ∀ d ∈ tables_1, d.before a0 Z = true) : (Jvm.Cond.selects "java/util/ArrayList" ({ cls := "java/util/ArrayList", name := "add", desc := "(Ljava/lang/Object;[Ljava/lang/Object;I)V" } : Jvm.MethodName) ({ cls := "java/util/ArrayList", name := "add", desc := "(Ljava/lang/Object;[Ljava/lang/Object;I)V" } : Jvm.MethodName)).before a0 Z = true := hw _ (List.mem_of_getElem? (i := 86) rfl)
theorem hwd84 {Z : State} {a0 : Array Value} (hw : ∀ d ∈ tables_1, d.before a0 Z = true) : (Jvm.Cond.instanceMethod ({ cls := "java/util/ArrayList", name := "add", desc := "(Ljava/lang/Object;[Ljava/lang/Object;I)V" } : Jvm.MethodName)).before a0 Z = true := hw _ (List.mem_of_getElem? (i := 84) rfl)
theorem hwd85 {Z : State} {a0 : Array Value} (hw : ∀ d ∈ tables_1, d.before a0 Z = true) : (Jvm.Cond.privateMethod ({ cls := "java/util/ArrayList", name := "add", desc := "(Ljava/lang/Object;[Ljava/lang/Object;I)V" } : Jvm.MethodName)).before a0 Z = true := hw _ (List.mem_of_getElem? (i := 85) rfl)
theorem d12_0 : decode jdk_38_method_25_code 0 = .ok (.aload_n 0, 1) := by decide +kernel
theorem d12_1 : decode jdk_38_method_25_code 1 = .ok (.dup, 1) := by decide +kernel
theorem d12_2 : decode jdk_38_method_25_code 2 = .ok (.getfield 63, 3) := by decide +kernel
theorem d12_5 : decode jdk_38_method_25_code 5 = .ok (.iconst 1, 1) := by decide +kernel
theorem d12_6 : decode jdk_38_method_25_code 6 = .ok (.iadd, 1) := by decide +kernel
theorem d12_7 : decode jdk_38_method_25_code 7 = .ok (.putfield 63, 3) := by decide +kernel
theorem d12_10 : decode jdk_38_method_25_code 10 = .ok (.aload_n 0, 1) := by decide +kernel
theorem d12_11 : decode jdk_38_method_25_code 11 = .ok (.aload_n 1, 1) := by decide +kernel
theorem d12_12 : decode jdk_38_method_25_code 12 = .ok (.aload_n 0, 1) := by decide +kernel
theorem d12_13 : decode jdk_38_method_25_code 13 = .ok (.getfield 9, 3) := by decide +kernel
theorem d12_16 : decode jdk_38_method_25_code 16 = .ok (.aload_n 0, 1) := by decide +kernel
theorem d12_17 : decode jdk_38_method_25_code 17 = .ok (.getfield 48, 3) := by decide +kernel
theorem d12_20 : decode jdk_38_method_25_code 20 = .ok (.invokevirtual 131, 3) := by decide +kernel
theorem d12_23 : decode jdk_38_method_25_code 23 = .ok (.iconst 1, 1) := by decide +kernel
theorem d12_24 : decode jdk_38_method_25_code 24 = .ok (.ireturn, 1) := by decide +kernel
theorem ef_12 (m : MethodId) (x0 : Addr) (x1 : Addr) : entryFrame m #[(.ref x0), (.ref x1)] 2 = mkF m 0 #[.val (.ref x0), .val (.ref x1)] [] := by first | (simp [entryFrame, mkF, argsToLocals, Value.category]; done) | rfl
def Qa1_0 (Z : State) (a : Addr) (q : Addr) (dd : Addr) (h0 : Heap) (n0 : Nat) (v : Option Value) (h : Heap) (L : List Loc) : Prop := ∃ b : Addr, ∃ kb : ClassId, v = some (.int (1 : Int32)) ∧ Fr n0 L ∧ Keep h0 h [a] ∧ Exa Z h a "java/util/ArrayList" ∧ Fld Z h a "java/util/ArrayList" "size" "I" (.int (1 : Int32)) ∧ Fld Z h a "java/util/ArrayList" "elementData" "[Ljava/lang/Object;" (.ref b) ∧ Fld Z h a "java/util/AbstractList" "modCount" "I" (.int (1 : Int32)) ∧ Arv Z h b kb (.object "java/lang/Object") (10 : Int32) [(.ref q), .null, .null, .null, .null, .null, .null, .null, .null, .null] .null ∧ Exa Z h b "[Ljava/lang/Object;" ∧ Ovr Z kb "java/lang/Object" ∧ n0 ≤ b ∧ a ≠ b ∧ h0.size ≤ b
set_option maxRecDepth 65536 in
set_option maxHeartbeats 40000000 in
abbrev my16 : MethodName := ⟨"java/util/ArrayList", "add", "(Ljava/lang/Object;)Z"⟩
abbrev Rm_a1_0 : Room := { frames := 4, cells := 1, slots := 10, locals := 56 }
theorem a1_0 (l : Launch) (Z : State) (a0 : Array Value) (hw : ∀ d ∈ tables_1, d.before a0 Z = true) (ws : List Jvm.Cond) (a : Addr) (q : Addr) (dd : Addr) (h0 : Heap) (n0 : Nat) (Z0 : n0 ≤ h0.size) (E_a : Exa Z h0 a "java/util/ArrayList") (F_size_a : Fld Z h0 a "java/util/ArrayList" "size" "I" (.int (0 : Int32))) (F_elementData_a : Fld Z h0 a "java/util/ArrayList" "elementData" "[Ljava/lang/Object;" (.ref dd)) (F_modCount_a : Fld Z h0 a "java/util/AbstractList" "modCount" "I" (.int (0 : Int32))) (g_a : n0 ≤ a) (O_D : Sta Z Z.heap "java/util/ArrayList" "DEFAULTCAPACITY_EMPTY_ELEMENTDATA" "[Ljava/lang/Object;" (.ref dd)) (A_D : Av Z Z.heap dd (.object "java/lang/Object") 0 (fun _ => .null)) (X00 : Old Z n0 h0) (E_q : Exa Z h0 q "com/example/gleipnir/gleipnir/service/Counterplay$Position") :
    MetFree l my16 (head1 (Jvm.Cond.code my16 jdk_38_method_25_code 2 (some .boolean) :: ws) Rm_a1_0) (fun aa_ U => aa_ = #[(.ref a), (.ref q)] ∧ Z.Warmed39 U.vm ∧ U.heap = h0) (fun _ _ _ _ _ => True) (fun _ U oo_ U' => ∃ v L, oo_ = .returned v ∧ Qa1_0 Z a q dd h0 n0 v U'.heap L ∧ FrameEnd U oo_ U' L Rm_a1_0.cells Rm_a1_0.slots) := by
  refine MetFree.of_bodySF (plainFor_of_name pn_5) hisR ?_
  intro p e s m args below meth c s₁ Bd hml0 hP hK
  obtain ⟨rfl, hZ, hh⟩ := hP
  have hx := Bd.exec
  have hby := Bd.bytes
  have hml : c.maxLocals = 2 := hml0
  have hown : s.vm.findClass "java/util/ArrayList" = some m.cls := findClass_of_methodNamed Bd.named
  have hnm := (name_of_methodNamed Bd.named Bd.method).1
  have X0 : Stand p l e Rm_a1_0 s m #[(.ref a), (.ref q)] below meth c s₁ [] 0 0 := Stand.of_body Bd
  have e0 : s₁.heap = h0 := by rw [← hh, Bd.state]; rfl
  have N0 := Fr.nil n0
  have pre0 : ∀ tt_, Steps p.tables e below (s₁.setTop (mkF m 0 #[.val (.ref a), .val (.ref q)] [])) tt_ → Steps p.tables e below (s₁.setTop (entryFrame m #[(.ref a), (.ref q)] 2)) tt_ := fun tt_ kk_ => castTop (ef_12 m a q) kk_
  obtain ⟨T1, X1, e1, st1⟩ := getF X0 hx hZ hown (host := "") (Or.inl (hwd81 hw)) (Via.of (hwd82 hw)) e0 F_modCount_a (g := (mkF m 2 #[.val (.ref a), .val (.ref q)] [(.ref a), (.ref a)])) rfl rfl (hb hby d12_2)
  obtain ⟨T2, h2, X2, e2, W2, st2⟩ := putF X1 hx hZ hown (host := "") (Or.inl (hwd81 hw)) (Via.of (hwd82 hw)) e1 F_modCount_a E_a (Or.inl (hwd23 hw)) (hwd2 hw) (ty := .int) (by decide) rfl rfl (g := (mkF m 7 #[.val (.ref a), .val (.ref q)] [(.int (1 : Int32)), (.ref a)])) rfl rfl (hb hby d12_7)
  have N2 := Fr.snoc X2 N0 g_a
  have Fw2 := F_modCount_a.same W2
  have f3_F_a_elementData := (F_elementData_a.other W2 (Or.inr (slot_ne (Or.inl (hwd26 hw)) (Or.inl (hwd23 hw)) (by decide) (t := (.array (.object "java/lang/Object"))) (t' := .int) (by decide) (by decide))))
  obtain ⟨T4, X4, e4, st4⟩ := getF X2 hx hZ hown (host := "") (Or.inl (hwd25 hw)) Via.refl e2 f3_F_a_elementData (g := (mkF m 13 #[.val (.ref a), .val (.ref q)] [(.ref a), (.ref q), (.ref a)])) rfl rfl (hb hby d12_13)
  have f5_F_a_size := (F_size_a.other W2 (Or.inr (slot_ne (Or.inl (hwd63 hw)) (Or.inl (hwd23 hw)) (by decide) (t := .int) (t' := .int) (by decide) (by decide))))
  obtain ⟨T6, X6, e6, st6⟩ := getF X4 hx hZ hown (host := "") (Or.inl (hwd62 hw)) Via.refl e4 f5_F_a_size (g := (mkF m 17 #[.val (.ref a), .val (.ref q)] [(.ref a), (.ref dd), (.ref q), (.ref a)])) rfl rfl (hb hby d12_17)
  have f8_E_a := (E_a.wr W2)
  have old9 : Old Z n0 h2 := (X00.wr W2 g_a)
  have f10_E_q := (E_q.wr W2)
  have sz11 : n0 ≤ h2.size := (Nat.le_trans Z0 (Keep.of_wr W2).1)
  obtain ⟨cq7, q7, q7'⟩ := f8_E_a.cell
  have kp12 : Keep h0 h2 [a] := ((Keep.refl h0 [a]).wr W2 (Or.inl (List.mem_of_getElem? (i := 0) rfl)))
  obtain ⟨_, _, ⟨T7, L7, k7, n7⟩, -, X7, ⟨Lc7, hQ7, l7, y7, z7⟩, st7⟩ := X6.privateBack hx (y := my15) hown (mvT hZ (hwd83 hw)) (mvT hZ (hwd84 hw)) (mvT hZ (hwd86 hw)) (Cond.privateMethod_at (mvP hZ (hwd85 hw) (args := #[]))) (mvT hZ (hwd87 hw)) (by decide) (backOf (W := 0) (a3_0 l Z a0 hw [] a q dd h2 n0 sz11 f8_E_a f5_F_a_size f3_F_a_elementData Fw2 g_a O_D A_D old9 f10_E_q) hZ (hwd87 hw) (hwd3 hw) (by decide) (by decide)) (g := (mkF m 20 #[.val (.ref a), .val (.ref q)] [(.int (0 : Int32)), (.ref dd), (.ref q), (.ref a)])) rfl (by rw [hml]; rfl) (Steps.refl _) (a := a) (by rw [e6]; exact q7) q7' (argsL := [(.ref q), (.ref dd), (.int (0 : Int32))]) (rest := []) (lenOf pd_7 rfl) rfl (by show 2 * 0 + _ ≤ _; exact Nat.le_of_eq rfl) (hb hby d12_20) (fun _ _ => ⟨rfl, e6, (by decide : 0 + 1 ≤ _), (by decide : 0 + 10 ≤ _)⟩)
  dsimp only [Pt.U, Pt.locs, Pt.cells, Pt.slots] at X7 l7 y7 z7 st7 hQ7
  subst l7 y7 z7
  obtain ⟨b_e7, kb_e7, rfl, N7q, K7, p7_1, p7_2, p7_3, p7_4, p7_5, p7_6, O_b_7, g_b_7, ne_a_b_7, sz_b_7⟩ := hQ7
  have N7 := Fr.app N2 N7q
  have kp13 : Keep h0 T7.heap [a] := (kp12.trans K7 (allS (Or.inl (List.mem_of_getElem? (i := 0) rfl)) all0))
  obtain ⟨fs, hr, hrun, hended, hW, hsame⟩ := X7.leave (v := some (.int (1 : Int32))) (fun h => by rw [Bd.returns] at h; cases h)
  refine ⟨_, _, pre0 _ ?_, hrun, hended, _, _, rfl, ?_, ⟨_, rfl⟩, hW, hsame.mono (by decide) (by decide)⟩
  · show Steps p.tables e below (s₁.setTop (mkF m 0 #[.val (.ref a), .val (.ref q)] [])) _
    refine XS.aloadN X0.here hx rfl (hb hby d12_0) rfl rfl ?_
    refine XS.dup X0.here hx rfl (hb hby d12_1) rfl rfl ?_
    refine st1 _ ?_
    refine XS.iconst X1.here hx rfl (hb hby d12_5) ?_
    refine XS.iadd X1.here hx rfl (hb hby d12_6) rfl ?_
    show Steps p.tables e below (T1.setTop (mkF m 7 #[.val (.ref a), .val (.ref q)] [(.int ((0 : Int32) + (1 : Int32))), (.ref a)])) _
    rw [show (((0 : Int32) + (1 : Int32)) : Int32) = (1 : Int32) from by decide]
    refine st2 _ ?_
    refine XS.aloadN X2.here hx rfl (hb hby d12_10) rfl rfl ?_
    refine XS.aloadN X2.here hx rfl (hb hby d12_11) rfl rfl ?_
    refine XS.aloadN X2.here hx rfl (hb hby d12_12) rfl rfl ?_
    refine st4 _ ?_
    show Steps p.tables e below (T4.setTop (mkF m 16 #[.val (.ref a), .val (.ref q)] [(.ref dd), (.ref q), (.ref a)])) _
    refine XS.aloadN X4.here hx rfl (hb hby d12_16) rfl rfl ?_
    refine st6 _ ?_
    refine st7.trans ?_
    refine XS.iconst X7.here hx rfl (hb hby d12_23) ?_
    exact retN X7 hx (t := .boolean) Bd.returns (by simp) (hb hby d12_24) hr
  · show Qa1_0 Z a q dd h0 n0 _ T7.heap _
    exact ⟨b_e7, kb_e7, rfl, N7, kp13, p7_1, p7_2, p7_3, p7_4, p7_5, p7_6, O_b_7, g_b_7, ne_a_b_7, (Nat.le_trans kp12.1 sz_b_7)⟩
def Qa3_1 (Z : State) (a : Addr) (q : Addr) (b : Addr) (kb : ClassId) (h0 : Heap) (n0 : Nat) (v : Option Value) (h : Heap) (L : List Loc) : Prop := v = none ∧ Fr n0 L ∧ Keep h0 h [a, b] ∧ Exa Z h a "java/util/ArrayList" ∧ Fld Z h a "java/util/ArrayList" "size" "I" (.int (2 : Int32)) ∧ Fld Z h a "java/util/ArrayList" "elementData" "[Ljava/lang/Object;" (.ref b) ∧ Fld Z h a "java/util/AbstractList" "modCount" "I" (.int (2 : Int32)) ∧ Arv Z h b kb (.object "java/lang/Object") (10 : Int32) [(.ref q), (.ref q), .null, .null, .null, .null, .null, .null, .null, .null] .null
set_option maxRecDepth 65536 in
set_option maxHeartbeats 40000000 in
abbrev Rm_a3_1 : Room := { frames := 0, cells := 0, slots := 0, locals := 0 }
theorem a3_1 (l : Launch) (Z : State) (a0 : Array Value) (hw : ∀ d ∈ tables_1, d.before a0 Z = true) (ws : List Jvm.Cond) (a : Addr) (q : Addr) (b : Addr) (kb : ClassId) (h0 : Heap) (n0 : Nat) (Z0 : n0 ≤ h0.size) (E_a : Exa Z h0 a "java/util/ArrayList") (F_size_a : Fld Z h0 a "java/util/ArrayList" "size" "I" (.int (1 : Int32))) (F_elementData_a : Fld Z h0 a "java/util/ArrayList" "elementData" "[Ljava/lang/Object;" (.ref b)) (F_modCount_a : Fld Z h0 a "java/util/AbstractList" "modCount" "I" (.int (2 : Int32))) (V_b : Arv Z h0 b kb (.object "java/lang/Object") (10 : Int32) [(.ref q), .null, .null, .null, .null, .null, .null, .null, .null, .null] .null) (O_b : Ovr Z kb "java/lang/Object") (g_a : n0 ≤ a) (g_b : n0 ≤ b) (ne_a_b : a ≠ b) (E_q : Exa Z h0 q "com/example/gleipnir/gleipnir/service/Counterplay$Position") :
    MetFree l my15 (head1 (Jvm.Cond.code my15 jdk_38_method_24_code 4 none :: ws) Rm_a3_1) (fun aa_ U => aa_ = #[(.ref a), (.ref q), (.ref b), (.int (1 : Int32))] ∧ Z.Warmed39 U.vm ∧ U.heap = h0) (fun _ _ _ _ _ => True) (fun _ U oo_ U' => ∃ v L, oo_ = .returned v ∧ Qa3_1 Z a q b kb h0 n0 v U'.heap L ∧ FrameEnd U oo_ U' L Rm_a3_1.cells Rm_a3_1.slots) := by
  refine MetFree.of_bodySF (plainFor_of_name pn_5) hisR ?_
  intro p e s m args below meth c s₁ Bd hml0 hP hK
  obtain ⟨rfl, hZ, hh⟩ := hP
  have hx := Bd.exec
  have hby := Bd.bytes
  have hml : c.maxLocals = 4 := hml0
  have hown : s.vm.findClass "java/util/ArrayList" = some m.cls := findClass_of_methodNamed Bd.named
  have hnm := (name_of_methodNamed Bd.named Bd.method).1
  have X0 : Stand p l e Rm_a3_1 s m #[(.ref a), (.ref q), (.ref b), (.int (1 : Int32))] below meth c s₁ [] 0 0 := Stand.of_body Bd
  have e0 : s₁.heap = h0 := by rw [← hh, Bd.state]; rfl
  have N0 := Fr.nil n0
  have pre0 : ∀ tt_, Steps p.tables e below (s₁.setTop (mkF m 0 #[.val (.ref a), .val (.ref q), .val (.ref b), .val (.int (1 : Int32))] [])) tt_ → Steps p.tables e below (s₁.setTop (entryFrame m #[(.ref a), (.ref q), (.ref b), (.int (1 : Int32))] 4)) tt_ := fun tt_ kk_ => castTop (ef_13 m a q b (1 : Int32)) kk_
  obtain ⟨cl1, Ar1, -, S1, M1, -, -⟩ := id V_b
  obtain ⟨cl2, Ar2, q2, S2, M2, H2, G2⟩ := id V_b
  obtain ⟨T3, h3, X3, e3, W3, st3⟩ := stR X0 hx hZ e0 Ar2 (j := (1 : Int32)) (inb_of S2 ⟨by decide, by decide⟩) rfl (Sto.ofV Ar2 q2 O_b (Ins.of_exa E_q (hwd104 hw))) (g := (mkF m 14 #[.val (.ref a), .val (.ref q), .val (.ref b), .val (.int (1 : Int32))] [(.ref q), (.int (1 : Int32)), (.ref b)])) rfl rfl (hb hby d13_14)
  have N3 := Fr.snoc X3 N0 g_b
  have Vw3 : Arv Z h3 b kb (.object "java/lang/Object") (10 : Int32) [(.ref q), (.ref q), .null, .null, .null, .null, .null, .null, .null, .null] .null := Arv.set Ar2 q2 S2 M2 H2 G2 rfl W3 1 rfl (Nat.le_of_ble_eq_true rfl)
  have f4_E_a := (E_a.wr W3)
  have f5_F_a_size := (F_size_a.other W3 (Or.inl ne_a_b))
  obtain ⟨T6, h6, X6, e6, W6, st6⟩ := putF X3 hx hZ hown (host := "") (Or.inl (hwd62 hw)) Via.refl e3 f5_F_a_size f4_E_a (Or.inl (hwd63 hw)) (hwd2 hw) (ty := .int) (by decide) rfl rfl (g := (mkF m 19 #[.val (.ref a), .val (.ref q), .val (.ref b), .val (.int (1 : Int32))] [(.int (2 : Int32)), (.ref a)])) rfl rfl (hb hby d13_19)
  have N6 := Fr.snoc X6 N3 g_a
  have Fw6 := f5_F_a_size.same W6
  have kp7 : Keep h0 h6 [a, b] := (((Keep.refl h0 [a, b]).wr W3 (Or.inl (List.mem_of_getElem? (i := 1) rfl))).wr W6 (Or.inl (List.mem_of_getElem? (i := 0) rfl)))
  have f8_E_a := (f4_E_a.wr W6)
  have f9_F_a_elementData := ((F_elementData_a.other W3 (Or.inl ne_a_b)).other W6 (Or.inr (slot_ne (Or.inl (hwd26 hw)) (Or.inl (hwd63 hw)) (by decide) (t := (.array (.object "java/lang/Object"))) (t' := .int) (by decide) (by decide))))
  have f10_F_a_modCount := ((F_modCount_a.other W3 (Or.inl ne_a_b)).other W6 (Or.inr (slot_ne (Or.inl (hwd23 hw)) (Or.inl (hwd63 hw)) (by decide) (t := .int) (t' := .int) (by decide) (by decide))))
  have f11_V_b := (Vw3.other W6 (Ne.symm ne_a_b))
  obtain ⟨fs, hr, hrun, hended, hW, hsame⟩ := X6.leave (v := none) (fun _ => rfl)
  refine ⟨_, _, pre0 _ ?_, hrun, hended, _, _, rfl, ?_, ⟨_, rfl⟩, hW, hsame.mono (by decide) (by decide)⟩
  · show Steps p.tables e below (s₁.setTop (mkF m 0 #[.val (.ref a), .val (.ref q), .val (.ref b), .val (.int (1 : Int32))] [])) _
    refine XS.iloadN X0.here hx rfl (hb hby d13_0) rfl ?_
    refine XS.aloadN X0.here hx rfl (hb hby d13_1) rfl rfl ?_
    refine X0.arraylength hx (by rw [e0]; exact Ar1.1) (State.isArrayOf_alike hZ.alike Ar1.2.1) (g := (mkF m 2 #[.val (.ref a), .val (.ref q), .val (.ref b), .val (.int (1 : Int32))] [(.ref b), (.int (1 : Int32))])) rfl rfl (hb hby d13_2) _ ?_
    rw [len_of S1 M1]
    refine XS.icmpYes X0.here hx rfl (pc0 := 3) (pc' := 11) rfl (hb hby d13_3) rfl (feq (show ¬ ((1 : Int32) = (10 : Int32)) from (by decide))).2 (by decide) (by decide) ?_
    refine XS.aloadN X0.here hx rfl (hb hby d13_11) rfl rfl ?_
    refine XS.iloadN X0.here hx rfl (hb hby d13_12) rfl ?_
    show Steps p.tables e below (s₁.setTop (mkF m 13 #[.val (.ref a), .val (.ref q), .val (.ref b), .val (.int (1 : Int32))] [(.int (1 : Int32)), (.ref b)])) _
    refine XS.aloadN X0.here hx rfl (hb hby d13_13) rfl rfl ?_
    refine st3 _ ?_
    refine XS.aloadN X3.here hx rfl (hb hby d13_15) rfl rfl ?_
    refine XS.iloadN X3.here hx rfl (hb hby d13_16) rfl ?_
    refine XS.iconst X3.here hx rfl (hb hby d13_17) ?_
    refine XS.iadd X3.here hx rfl (hb hby d13_18) rfl ?_
    show Steps p.tables e below (T3.setTop (mkF m 19 #[.val (.ref a), .val (.ref q), .val (.ref b), .val (.int (1 : Int32))] [(.int ((1 : Int32) + (1 : Int32))), (.ref a)])) _
    rw [show (((1 : Int32) + (1 : Int32)) : Int32) = (2 : Int32) from by decide]
    refine st6 _ ?_
    exact X6.returnOut hx Bd.returns (hb hby d13_22) hr
  · show Qa3_1 Z a q b kb h0 n0 _ T6.heap _
    rw [e6]
    exact ⟨rfl, N6, kp7, f8_E_a, Fw6, f9_F_a_elementData, f10_F_a_modCount, f11_V_b⟩
def Qa1_1 (Z : State) (a : Addr) (q : Addr) (b : Addr) (kb : ClassId) (h0 : Heap) (n0 : Nat) (v : Option Value) (h : Heap) (L : List Loc) : Prop := v = some (.int (1 : Int32)) ∧ Fr n0 L ∧ Keep h0 h [a, b] ∧ Exa Z h a "java/util/ArrayList" ∧ Fld Z h a "java/util/ArrayList" "size" "I" (.int (2 : Int32)) ∧ Fld Z h a "java/util/ArrayList" "elementData" "[Ljava/lang/Object;" (.ref b) ∧ Fld Z h a "java/util/AbstractList" "modCount" "I" (.int (2 : Int32)) ∧ Arv Z h b kb (.object "java/lang/Object") (10 : Int32) [(.ref q), (.ref q), .null, .null, .null, .null, .null, .null, .null, .null] .null
set_option maxRecDepth 65536 in
set_option maxHeartbeats 40000000 in
abbrev Rm_a1_1 : Room := { frames := 1, cells := 0, slots := 0, locals := 15 }
theorem a1_1 (l : Launch) (Z : State) (a0 : Array Value) (hw : ∀ d ∈ tables_1, d.before a0 Z = true) (ws : List Jvm.Cond) (a : Addr) (q : Addr) (b : Addr) (kb : ClassId) (h0 : Heap) (n0 : Nat) (Z0 : n0 ≤ h0.size) (E_a : Exa Z h0 a "java/util/ArrayList") (F_size_a : Fld Z h0 a "java/util/ArrayList" "size" "I" (.int (1 : Int32))) (F_elementData_a : Fld Z h0 a "java/util/ArrayList" "elementData" "[Ljava/lang/Object;" (.ref b)) (F_modCount_a : Fld Z h0 a "java/util/AbstractList" "modCount" "I" (.int (1 : Int32))) (V_b : Arv Z h0 b kb (.object "java/lang/Object") (10 : Int32) [(.ref q), .null, .null, .null, .null, .null, .null, .null, .null, .null] .null) (O_b : Ovr Z kb "java/lang/Object") (g_a : n0 ≤ a) (g_b : n0 ≤ b) (ne_a_b : a ≠ b) (E_q : Exa Z h0 q "com/example/gleipnir/gleipnir/service/Counterplay$Position") :
    MetFree l my16 (head1 (Jvm.Cond.code my16 jdk_38_method_25_code 2 (some .boolean) :: ws) Rm_a1_1) (fun aa_ U => aa_ = #[(.ref a), (.ref q)] ∧ Z.Warmed39 U.vm ∧ U.heap = h0) (fun _ _ _ _ _ => True) (fun _ U oo_ U' => ∃ v L, oo_ = .returned v ∧ Qa1_1 Z a q b kb h0 n0 v U'.heap L ∧ FrameEnd U oo_ U' L Rm_a1_1.cells Rm_a1_1.slots) := by
  refine MetFree.of_bodySF (plainFor_of_name pn_5) hisR ?_
  intro p e s m args below meth c s₁ Bd hml0 hP hK
  obtain ⟨rfl, hZ, hh⟩ := hP
  have hx := Bd.exec
  have hby := Bd.bytes
  have hml : c.maxLocals = 2 := hml0
  have hown : s.vm.findClass "java/util/ArrayList" = some m.cls := findClass_of_methodNamed Bd.named
  have hnm := (name_of_methodNamed Bd.named Bd.method).1
  have X0 : Stand p l e Rm_a1_1 s m #[(.ref a), (.ref q)] below meth c s₁ [] 0 0 := Stand.of_body Bd
  have e0 : s₁.heap = h0 := by rw [← hh, Bd.state]; rfl
  have N0 := Fr.nil n0
  have pre0 : ∀ tt_, Steps p.tables e below (s₁.setTop (mkF m 0 #[.val (.ref a), .val (.ref q)] [])) tt_ → Steps p.tables e below (s₁.setTop (entryFrame m #[(.ref a), (.ref q)] 2)) tt_ := fun tt_ kk_ => castTop (ef_12 m a q) kk_
  obtain ⟨T1, X1, e1, st1⟩ := getF X0 hx hZ hown (host := "") (Or.inl (hwd81 hw)) (Via.of (hwd82 hw)) e0 F_modCount_a (g := (mkF m 2 #[.val (.ref a), .val (.ref q)] [(.ref a), (.ref a)])) rfl rfl (hb hby d12_2)
  obtain ⟨T2, h2, X2, e2, W2, st2⟩ := putF X1 hx hZ hown (host := "") (Or.inl (hwd81 hw)) (Via.of (hwd82 hw)) e1 F_modCount_a E_a (Or.inl (hwd23 hw)) (hwd2 hw) (ty := .int) (by decide) rfl rfl (g := (mkF m 7 #[.val (.ref a), .val (.ref q)] [(.int (2 : Int32)), (.ref a)])) rfl rfl (hb hby d12_7)
  have N2 := Fr.snoc X2 N0 g_a
  have Fw2 := F_modCount_a.same W2
  have f3_F_a_elementData := (F_elementData_a.other W2 (Or.inr (slot_ne (Or.inl (hwd26 hw)) (Or.inl (hwd23 hw)) (by decide) (t := (.array (.object "java/lang/Object"))) (t' := .int) (by decide) (by decide))))
  obtain ⟨T4, X4, e4, st4⟩ := getF X2 hx hZ hown (host := "") (Or.inl (hwd25 hw)) Via.refl e2 f3_F_a_elementData (g := (mkF m 13 #[.val (.ref a), .val (.ref q)] [(.ref a), (.ref q), (.ref a)])) rfl rfl (hb hby d12_13)
  have f5_F_a_size := (F_size_a.other W2 (Or.inr (slot_ne (Or.inl (hwd63 hw)) (Or.inl (hwd23 hw)) (by decide) (t := .int) (t' := .int) (by decide) (by decide))))
  obtain ⟨T6, X6, e6, st6⟩ := getF X4 hx hZ hown (host := "") (Or.inl (hwd62 hw)) Via.refl e4 f5_F_a_size (g := (mkF m 17 #[.val (.ref a), .val (.ref q)] [(.ref a), (.ref b), (.ref q), (.ref a)])) rfl rfl (hb hby d12_17)
  have f8_E_a := (E_a.wr W2)
  have f9_V_b := (V_b.other W2 (Ne.symm ne_a_b))
  have f10_E_q := (E_q.wr W2)
  have sz11 : n0 ≤ h2.size := (Nat.le_trans Z0 (Keep.of_wr W2).1)
  obtain ⟨cq7, q7, q7'⟩ := f8_E_a.cell
  obtain ⟨_, _, ⟨T7, L7, k7, n7⟩, -, X7, ⟨Lc7, hQ7, l7, y7, z7⟩, st7⟩ := X6.privateBack hx (y := my15) hown (mvT hZ (hwd83 hw)) (mvT hZ (hwd84 hw)) (mvT hZ (hwd86 hw)) (Cond.privateMethod_at (mvP hZ (hwd85 hw) (args := #[]))) (mvT hZ (hwd87 hw)) (by decide) (backOf (W := 0) (a3_1 l Z a0 hw [] a q b kb h2 n0 sz11 f8_E_a f5_F_a_size f3_F_a_elementData Fw2 f9_V_b O_b g_a g_b ne_a_b f10_E_q) hZ (hwd87 hw) (hwd3 hw) (by decide) (by decide)) (g := (mkF m 20 #[.val (.ref a), .val (.ref q)] [(.int (1 : Int32)), (.ref b), (.ref q), (.ref a)])) rfl (by rw [hml]; rfl) (Steps.refl _) (a := a) (by rw [e6]; exact q7) q7' (argsL := [(.ref q), (.ref b), (.int (1 : Int32))]) (rest := []) (lenOf pd_7 rfl) rfl (by show 2 * 0 + _ ≤ _; exact Nat.le_of_eq rfl) (hb hby d12_20) (fun _ _ => ⟨rfl, e6, (by decide : 0 + 0 ≤ _), (by decide : 0 + 0 ≤ _)⟩)
  dsimp only [Pt.U, Pt.locs, Pt.cells, Pt.slots] at X7 l7 y7 z7 st7 hQ7
  subst l7 y7 z7
  obtain ⟨rfl, N7q, K7, p7_1, p7_2, p7_3, p7_4, p7_5⟩ := hQ7
  have N7 := Fr.app N2 N7q
  have kp12 : Keep h0 T7.heap [a, b] := (((Keep.refl h0 [a, b]).wr W2 (Or.inl (List.mem_of_getElem? (i := 0) rfl))).trans K7 (allS (Or.inl (List.mem_of_getElem? (i := 0) rfl)) (allS (Or.inl (List.mem_of_getElem? (i := 1) rfl)) all0)))
  obtain ⟨fs, hr, hrun, hended, hW, hsame⟩ := X7.leave (v := some (.int (1 : Int32))) (fun h => by rw [Bd.returns] at h; cases h)
  refine ⟨_, _, pre0 _ ?_, hrun, hended, _, _, rfl, ?_, ⟨_, rfl⟩, hW, hsame.mono (by decide) (by decide)⟩
  · show Steps p.tables e below (s₁.setTop (mkF m 0 #[.val (.ref a), .val (.ref q)] [])) _
    refine XS.aloadN X0.here hx rfl (hb hby d12_0) rfl rfl ?_
    refine XS.dup X0.here hx rfl (hb hby d12_1) rfl rfl ?_
    refine st1 _ ?_
    refine XS.iconst X1.here hx rfl (hb hby d12_5) ?_
    refine XS.iadd X1.here hx rfl (hb hby d12_6) rfl ?_
    show Steps p.tables e below (T1.setTop (mkF m 7 #[.val (.ref a), .val (.ref q)] [(.int ((1 : Int32) + (1 : Int32))), (.ref a)])) _
    rw [show (((1 : Int32) + (1 : Int32)) : Int32) = (2 : Int32) from by decide]
    refine st2 _ ?_
    refine XS.aloadN X2.here hx rfl (hb hby d12_10) rfl rfl ?_
    refine XS.aloadN X2.here hx rfl (hb hby d12_11) rfl rfl ?_
    refine XS.aloadN X2.here hx rfl (hb hby d12_12) rfl rfl ?_
    refine st4 _ ?_
    show Steps p.tables e below (T4.setTop (mkF m 16 #[.val (.ref a), .val (.ref q)] [(.ref b), (.ref q), (.ref a)])) _
    refine XS.aloadN X4.here hx rfl (hb hby d12_16) rfl rfl ?_
    refine st6 _ ?_
    refine st7.trans ?_
    refine XS.iconst X7.here hx rfl (hb hby d12_23) ?_
    exact retN X7 hx (t := .boolean) Bd.returns (by simp) (hb hby d12_24) hr
  · show Qa1_1 Z a q b kb h0 n0 _ T7.heap _
    exact ⟨rfl, N7, kp12, p7_1, p7_2, p7_3, p7_4, p7_5⟩
def Qa3_2 (Z : State) (a : Addr) (q : Addr) (b : Addr) (kb : ClassId) (h0 : Heap) (n0 : Nat) (v : Option Value) (h : Heap) (L : List Loc) : Prop := v = none ∧ Fr n0 L ∧ Keep h0 h [a, b] ∧ Exa Z h a "java/util/ArrayList" ∧ Fld Z h a "java/util/ArrayList" "size" "I" (.int (3 : Int32)) ∧ Fld Z h a "java/util/ArrayList" "elementData" "[Ljava/lang/Object;" (.ref b) ∧ Fld Z h a "java/util/AbstractList" "modCount" "I" (.int (3 : Int32)) ∧ Arv Z h b kb (.object "java/lang/Object") (10 : Int32) [(.ref q), (.ref q), (.ref q), .null, .null, .null, .null, .null, .null, .null] .null
set_option maxRecDepth 65536 in
set_option maxHeartbeats 40000000 in
abbrev Rm_a3_2 : Room := { frames := 0, cells := 0, slots := 0, locals := 0 }
theorem a3_2 (l : Launch) (Z : State) (a0 : Array Value) (hw : ∀ d ∈ tables_1, d.before a0 Z = true) (ws : List Jvm.Cond) (a : Addr) (q : Addr) (b : Addr) (kb : ClassId) (h0 : Heap) (n0 : Nat) (Z0 : n0 ≤ h0.size) (E_a : Exa Z h0 a "java/util/ArrayList") (F_size_a : Fld Z h0 a "java/util/ArrayList" "size" "I" (.int (2 : Int32))) (F_elementData_a : Fld Z h0 a "java/util/ArrayList" "elementData" "[Ljava/lang/Object;" (.ref b)) (F_modCount_a : Fld Z h0 a "java/util/AbstractList" "modCount" "I" (.int (3 : Int32))) (V_b : Arv Z h0 b kb (.object "java/lang/Object") (10 : Int32) [(.ref q), (.ref q), .null, .null, .null, .null, .null, .null, .null, .null] .null) (O_b : Ovr Z kb "java/lang/Object") (g_a : n0 ≤ a) (g_b : n0 ≤ b) (ne_a_b : a ≠ b) (E_q : Exa Z h0 q "com/example/gleipnir/gleipnir/service/Counterplay$Position") :
    MetFree l my15 (head1 (Jvm.Cond.code my15 jdk_38_method_24_code 4 none :: ws) Rm_a3_2) (fun aa_ U => aa_ = #[(.ref a), (.ref q), (.ref b), (.int (2 : Int32))] ∧ Z.Warmed39 U.vm ∧ U.heap = h0) (fun _ _ _ _ _ => True) (fun _ U oo_ U' => ∃ v L, oo_ = .returned v ∧ Qa3_2 Z a q b kb h0 n0 v U'.heap L ∧ FrameEnd U oo_ U' L Rm_a3_2.cells Rm_a3_2.slots) := by
  refine MetFree.of_bodySF (plainFor_of_name pn_5) hisR ?_
  intro p e s m args below meth c s₁ Bd hml0 hP hK
  obtain ⟨rfl, hZ, hh⟩ := hP
  have hx := Bd.exec
  have hby := Bd.bytes
  have hml : c.maxLocals = 4 := hml0
  have hown : s.vm.findClass "java/util/ArrayList" = some m.cls := findClass_of_methodNamed Bd.named
  have hnm := (name_of_methodNamed Bd.named Bd.method).1
  have X0 : Stand p l e Rm_a3_2 s m #[(.ref a), (.ref q), (.ref b), (.int (2 : Int32))] below meth c s₁ [] 0 0 := Stand.of_body Bd
  have e0 : s₁.heap = h0 := by rw [← hh, Bd.state]; rfl
  have N0 := Fr.nil n0
  have pre0 : ∀ tt_, Steps p.tables e below (s₁.setTop (mkF m 0 #[.val (.ref a), .val (.ref q), .val (.ref b), .val (.int (2 : Int32))] [])) tt_ → Steps p.tables e below (s₁.setTop (entryFrame m #[(.ref a), (.ref q), (.ref b), (.int (2 : Int32))] 4)) tt_ := fun tt_ kk_ => castTop (ef_13 m a q b (2 : Int32)) kk_
  obtain ⟨cl1, Ar1, -, S1, M1, -, -⟩ := id V_b
  obtain ⟨cl2, Ar2, q2, S2, M2, H2, G2⟩ := id V_b
  obtain ⟨T3, h3, X3, e3, W3, st3⟩ := stR X0 hx hZ e0 Ar2 (j := (2 : Int32)) (inb_of S2 ⟨by decide, by decide⟩) rfl (Sto.ofV Ar2 q2 O_b (Ins.of_exa E_q (hwd104 hw))) (g := (mkF m 14 #[.val (.ref a), .val (.ref q), .val (.ref b), .val (.int (2 : Int32))] [(.ref q), (.int (2 : Int32)), (.ref b)])) rfl rfl (hb hby d13_14)
  have N3 := Fr.snoc X3 N0 g_b
  have Vw3 : Arv Z h3 b kb (.object "java/lang/Object") (10 : Int32) [(.ref q), (.ref q), (.ref q), .null, .null, .null, .null, .null, .null, .null] .null := Arv.set Ar2 q2 S2 M2 H2 G2 rfl W3 2 rfl (Nat.le_of_ble_eq_true rfl)
  have f4_E_a := (E_a.wr W3)
  have f5_F_a_size := (F_size_a.other W3 (Or.inl ne_a_b))
  obtain ⟨T6, h6, X6, e6, W6, st6⟩ := putF X3 hx hZ hown (host := "") (Or.inl (hwd62 hw)) Via.refl e3 f5_F_a_size f4_E_a (Or.inl (hwd63 hw)) (hwd2 hw) (ty := .int) (by decide) rfl rfl (g := (mkF m 19 #[.val (.ref a), .val (.ref q), .val (.ref b), .val (.int (2 : Int32))] [(.int (3 : Int32)), (.ref a)])) rfl rfl (hb hby d13_19)
  have N6 := Fr.snoc X6 N3 g_a
  have Fw6 := f5_F_a_size.same W6
  have kp7 : Keep h0 h6 [a, b] := (((Keep.refl h0 [a, b]).wr W3 (Or.inl (List.mem_of_getElem? (i := 1) rfl))).wr W6 (Or.inl (List.mem_of_getElem? (i := 0) rfl)))
  have f8_E_a := (f4_E_a.wr W6)
  have f9_F_a_elementData := ((F_elementData_a.other W3 (Or.inl ne_a_b)).other W6 (Or.inr (slot_ne (Or.inl (hwd26 hw)) (Or.inl (hwd63 hw)) (by decide) (t := (.array (.object "java/lang/Object"))) (t' := .int) (by decide) (by decide))))
  have f10_F_a_modCount := ((F_modCount_a.other W3 (Or.inl ne_a_b)).other W6 (Or.inr (slot_ne (Or.inl (hwd23 hw)) (Or.inl (hwd63 hw)) (by decide) (t := .int) (t' := .int) (by decide) (by decide))))
  have f11_V_b := (Vw3.other W6 (Ne.symm ne_a_b))
  obtain ⟨fs, hr, hrun, hended, hW, hsame⟩ := X6.leave (v := none) (fun _ => rfl)
  refine ⟨_, _, pre0 _ ?_, hrun, hended, _, _, rfl, ?_, ⟨_, rfl⟩, hW, hsame.mono (by decide) (by decide)⟩
  · show Steps p.tables e below (s₁.setTop (mkF m 0 #[.val (.ref a), .val (.ref q), .val (.ref b), .val (.int (2 : Int32))] [])) _
    refine XS.iloadN X0.here hx rfl (hb hby d13_0) rfl ?_
    refine XS.aloadN X0.here hx rfl (hb hby d13_1) rfl rfl ?_
    refine X0.arraylength hx (by rw [e0]; exact Ar1.1) (State.isArrayOf_alike hZ.alike Ar1.2.1) (g := (mkF m 2 #[.val (.ref a), .val (.ref q), .val (.ref b), .val (.int (2 : Int32))] [(.ref b), (.int (2 : Int32))])) rfl rfl (hb hby d13_2) _ ?_
    rw [len_of S1 M1]
    refine XS.icmpYes X0.here hx rfl (pc0 := 3) (pc' := 11) rfl (hb hby d13_3) rfl (feq (show ¬ ((2 : Int32) = (10 : Int32)) from (by decide))).2 (by decide) (by decide) ?_
    refine XS.aloadN X0.here hx rfl (hb hby d13_11) rfl rfl ?_
    refine XS.iloadN X0.here hx rfl (hb hby d13_12) rfl ?_
    show Steps p.tables e below (s₁.setTop (mkF m 13 #[.val (.ref a), .val (.ref q), .val (.ref b), .val (.int (2 : Int32))] [(.int (2 : Int32)), (.ref b)])) _
    refine XS.aloadN X0.here hx rfl (hb hby d13_13) rfl rfl ?_
    refine st3 _ ?_
    refine XS.aloadN X3.here hx rfl (hb hby d13_15) rfl rfl ?_
    refine XS.iloadN X3.here hx rfl (hb hby d13_16) rfl ?_
    refine XS.iconst X3.here hx rfl (hb hby d13_17) ?_
    refine XS.iadd X3.here hx rfl (hb hby d13_18) rfl ?_
    show Steps p.tables e below (T3.setTop (mkF m 19 #[.val (.ref a), .val (.ref q), .val (.ref b), .val (.int (2 : Int32))] [(.int ((2 : Int32) + (1 : Int32))), (.ref a)])) _
    rw [show (((2 : Int32) + (1 : Int32)) : Int32) = (3 : Int32) from by decide]
    refine st6 _ ?_
    exact X6.returnOut hx Bd.returns (hb hby d13_22) hr
  · show Qa3_2 Z a q b kb h0 n0 _ T6.heap _
    rw [e6]
    exact ⟨rfl, N6, kp7, f8_E_a, Fw6, f9_F_a_elementData, f10_F_a_modCount, f11_V_b⟩
def Qa1_2 (Z : State) (a : Addr) (q : Addr) (b : Addr) (kb : ClassId) (h0 : Heap) (n0 : Nat) (v : Option Value) (h : Heap) (L : List Loc) : Prop := v = some (.int (1 : Int32)) ∧ Fr n0 L ∧ Keep h0 h [a, b] ∧ Exa Z h a "java/util/ArrayList" ∧ Fld Z h a "java/util/ArrayList" "size" "I" (.int (3 : Int32)) ∧ Fld Z h a "java/util/ArrayList" "elementData" "[Ljava/lang/Object;" (.ref b) ∧ Fld Z h a "java/util/AbstractList" "modCount" "I" (.int (3 : Int32)) ∧ Arv Z h b kb (.object "java/lang/Object") (10 : Int32) [(.ref q), (.ref q), (.ref q), .null, .null, .null, .null, .null, .null, .null] .null
set_option maxRecDepth 65536 in
set_option maxHeartbeats 40000000 in
abbrev Rm_a1_2 : Room := { frames := 1, cells := 0, slots := 0, locals := 15 }
theorem a1_2 (l : Launch) (Z : State) (a0 : Array Value) (hw : ∀ d ∈ tables_1, d.before a0 Z = true) (ws : List Jvm.Cond) (a : Addr) (q : Addr) (b : Addr) (kb : ClassId) (h0 : Heap) (n0 : Nat) (Z0 : n0 ≤ h0.size) (E_a : Exa Z h0 a "java/util/ArrayList") (F_size_a : Fld Z h0 a "java/util/ArrayList" "size" "I" (.int (2 : Int32))) (F_elementData_a : Fld Z h0 a "java/util/ArrayList" "elementData" "[Ljava/lang/Object;" (.ref b)) (F_modCount_a : Fld Z h0 a "java/util/AbstractList" "modCount" "I" (.int (2 : Int32))) (V_b : Arv Z h0 b kb (.object "java/lang/Object") (10 : Int32) [(.ref q), (.ref q), .null, .null, .null, .null, .null, .null, .null, .null] .null) (O_b : Ovr Z kb "java/lang/Object") (g_a : n0 ≤ a) (g_b : n0 ≤ b) (ne_a_b : a ≠ b) (E_q : Exa Z h0 q "com/example/gleipnir/gleipnir/service/Counterplay$Position") :
    MetFree l my16 (head1 (Jvm.Cond.code my16 jdk_38_method_25_code 2 (some .boolean) :: ws) Rm_a1_2) (fun aa_ U => aa_ = #[(.ref a), (.ref q)] ∧ Z.Warmed39 U.vm ∧ U.heap = h0) (fun _ _ _ _ _ => True) (fun _ U oo_ U' => ∃ v L, oo_ = .returned v ∧ Qa1_2 Z a q b kb h0 n0 v U'.heap L ∧ FrameEnd U oo_ U' L Rm_a1_2.cells Rm_a1_2.slots) := by
  refine MetFree.of_bodySF (plainFor_of_name pn_5) hisR ?_
  intro p e s m args below meth c s₁ Bd hml0 hP hK
  obtain ⟨rfl, hZ, hh⟩ := hP
  have hx := Bd.exec
  have hby := Bd.bytes
  have hml : c.maxLocals = 2 := hml0
  have hown : s.vm.findClass "java/util/ArrayList" = some m.cls := findClass_of_methodNamed Bd.named
  have hnm := (name_of_methodNamed Bd.named Bd.method).1
  have X0 : Stand p l e Rm_a1_2 s m #[(.ref a), (.ref q)] below meth c s₁ [] 0 0 := Stand.of_body Bd
  have e0 : s₁.heap = h0 := by rw [← hh, Bd.state]; rfl
  have N0 := Fr.nil n0
  have pre0 : ∀ tt_, Steps p.tables e below (s₁.setTop (mkF m 0 #[.val (.ref a), .val (.ref q)] [])) tt_ → Steps p.tables e below (s₁.setTop (entryFrame m #[(.ref a), (.ref q)] 2)) tt_ := fun tt_ kk_ => castTop (ef_12 m a q) kk_
  obtain ⟨T1, X1, e1, st1⟩ := getF X0 hx hZ hown (host := "") (Or.inl (hwd81 hw)) (Via.of (hwd82 hw)) e0 F_modCount_a (g := (mkF m 2 #[.val (.ref a), .val (.ref q)] [(.ref a), (.ref a)])) rfl rfl (hb hby d12_2)
  obtain ⟨T2, h2, X2, e2, W2, st2⟩ := putF X1 hx hZ hown (host := "") (Or.inl (hwd81 hw)) (Via.of (hwd82 hw)) e1 F_modCount_a E_a (Or.inl (hwd23 hw)) (hwd2 hw) (ty := .int) (by decide) rfl rfl (g := (mkF m 7 #[.val (.ref a), .val (.ref q)] [(.int (3 : Int32)), (.ref a)])) rfl rfl (hb hby d12_7)
  have N2 := Fr.snoc X2 N0 g_a
  have Fw2 := F_modCount_a.same W2
  have f3_F_a_elementData := (F_elementData_a.other W2 (Or.inr (slot_ne (Or.inl (hwd26 hw)) (Or.inl (hwd23 hw)) (by decide) (t := (.array (.object "java/lang/Object"))) (t' := .int) (by decide) (by decide))))
  obtain ⟨T4, X4, e4, st4⟩ := getF X2 hx hZ hown (host := "") (Or.inl (hwd25 hw)) Via.refl e2 f3_F_a_elementData (g := (mkF m 13 #[.val (.ref a), .val (.ref q)] [(.ref a), (.ref q), (.ref a)])) rfl rfl (hb hby d12_13)
  have f5_F_a_size := (F_size_a.other W2 (Or.inr (slot_ne (Or.inl (hwd63 hw)) (Or.inl (hwd23 hw)) (by decide) (t := .int) (t' := .int) (by decide) (by decide))))
  obtain ⟨T6, X6, e6, st6⟩ := getF X4 hx hZ hown (host := "") (Or.inl (hwd62 hw)) Via.refl e4 f5_F_a_size (g := (mkF m 17 #[.val (.ref a), .val (.ref q)] [(.ref a), (.ref b), (.ref q), (.ref a)])) rfl rfl (hb hby d12_17)
  have f8_E_a := (E_a.wr W2)
  have f9_V_b := (V_b.other W2 (Ne.symm ne_a_b))
  have f10_E_q := (E_q.wr W2)
  have sz11 : n0 ≤ h2.size := (Nat.le_trans Z0 (Keep.of_wr W2).1)
  obtain ⟨cq7, q7, q7'⟩ := f8_E_a.cell
  obtain ⟨_, _, ⟨T7, L7, k7, n7⟩, -, X7, ⟨Lc7, hQ7, l7, y7, z7⟩, st7⟩ := X6.privateBack hx (y := my15) hown (mvT hZ (hwd83 hw)) (mvT hZ (hwd84 hw)) (mvT hZ (hwd86 hw)) (Cond.privateMethod_at (mvP hZ (hwd85 hw) (args := #[]))) (mvT hZ (hwd87 hw)) (by decide) (backOf (W := 0) (a3_2 l Z a0 hw [] a q b kb h2 n0 sz11 f8_E_a f5_F_a_size f3_F_a_elementData Fw2 f9_V_b O_b g_a g_b ne_a_b f10_E_q) hZ (hwd87 hw) (hwd3 hw) (by decide) (by decide)) (g := (mkF m 20 #[.val (.ref a), .val (.ref q)] [(.int (2 : Int32)), (.ref b), (.ref q), (.ref a)])) rfl (by rw [hml]; rfl) (Steps.refl _) (a := a) (by rw [e6]; exact q7) q7' (argsL := [(.ref q), (.ref b), (.int (2 : Int32))]) (rest := []) (lenOf pd_7 rfl) rfl (by show 2 * 0 + _ ≤ _; exact Nat.le_of_eq rfl) (hb hby d12_20) (fun _ _ => ⟨rfl, e6, (by decide : 0 + 0 ≤ _), (by decide : 0 + 0 ≤ _)⟩)
  dsimp only [Pt.U, Pt.locs, Pt.cells, Pt.slots] at X7 l7 y7 z7 st7 hQ7
  subst l7 y7 z7
  obtain ⟨rfl, N7q, K7, p7_1, p7_2, p7_3, p7_4, p7_5⟩ := hQ7
  have N7 := Fr.app N2 N7q
  have kp12 : Keep h0 T7.heap [a, b] := (((Keep.refl h0 [a, b]).wr W2 (Or.inl (List.mem_of_getElem? (i := 0) rfl))).trans K7 (allS (Or.inl (List.mem_of_getElem? (i := 0) rfl)) (allS (Or.inl (List.mem_of_getElem? (i := 1) rfl)) all0)))
  obtain ⟨fs, hr, hrun, hended, hW, hsame⟩ := X7.leave (v := some (.int (1 : Int32))) (fun h => by rw [Bd.returns] at h; cases h)
  refine ⟨_, _, pre0 _ ?_, hrun, hended, _, _, rfl, ?_, ⟨_, rfl⟩, hW, hsame.mono (by decide) (by decide)⟩
  · show Steps p.tables e below (s₁.setTop (mkF m 0 #[.val (.ref a), .val (.ref q)] [])) _
    refine XS.aloadN X0.here hx rfl (hb hby d12_0) rfl rfl ?_
    refine XS.dup X0.here hx rfl (hb hby d12_1) rfl rfl ?_
    refine st1 _ ?_
    refine XS.iconst X1.here hx rfl (hb hby d12_5) ?_
    refine XS.iadd X1.here hx rfl (hb hby d12_6) rfl ?_
    show Steps p.tables e below (T1.setTop (mkF m 7 #[.val (.ref a), .val (.ref q)] [(.int ((2 : Int32) + (1 : Int32))), (.ref a)])) _
    rw [show (((2 : Int32) + (1 : Int32)) : Int32) = (3 : Int32) from by decide]
    refine st2 _ ?_
    refine XS.aloadN X2.here hx rfl (hb hby d12_10) rfl rfl ?_
    refine XS.aloadN X2.here hx rfl (hb hby d12_11) rfl rfl ?_
    refine XS.aloadN X2.here hx rfl (hb hby d12_12) rfl rfl ?_
    refine st4 _ ?_
    show Steps p.tables e below (T4.setTop (mkF m 16 #[.val (.ref a), .val (.ref q)] [(.ref b), (.ref q), (.ref a)])) _
    refine XS.aloadN X4.here hx rfl (hb hby d12_16) rfl rfl ?_
    refine st6 _ ?_
    refine st7.trans ?_
    refine XS.iconst X7.here hx rfl (hb hby d12_23) ?_
    exact retN X7 hx (t := .boolean) Bd.returns (by simp) (hb hby d12_24) hr
  · show Qa1_2 Z a q b kb h0 n0 _ T7.heap _
    exact ⟨rfl, N7, kp12, p7_1, p7_2, p7_3, p7_4, p7_5⟩
def Qa3_3 (Z : State) (a : Addr) (q : Addr) (b : Addr) (kb : ClassId) (h0 : Heap) (n0 : Nat) (v : Option Value) (h : Heap) (L : List Loc) : Prop := v = none ∧ Fr n0 L ∧ Keep h0 h [a, b] ∧ Exa Z h a "java/util/ArrayList" ∧ Fld Z h a "java/util/ArrayList" "size" "I" (.int (4 : Int32)) ∧ Fld Z h a "java/util/ArrayList" "elementData" "[Ljava/lang/Object;" (.ref b) ∧ Fld Z h a "java/util/AbstractList" "modCount" "I" (.int (4 : Int32)) ∧ Arv Z h b kb (.object "java/lang/Object") (10 : Int32) [(.ref q), (.ref q), (.ref q), (.ref q), .null, .null, .null, .null, .null, .null] .null
set_option maxRecDepth 65536 in
set_option maxHeartbeats 40000000 in
abbrev Rm_a3_3 : Room := { frames := 0, cells := 0, slots := 0, locals := 0 }
theorem a3_3 (l : Launch) (Z : State) (a0 : Array Value) (hw : ∀ d ∈ tables_1, d.before a0 Z = true) (ws : List Jvm.Cond) (a : Addr) (q : Addr) (b : Addr) (kb : ClassId) (h0 : Heap) (n0 : Nat) (Z0 : n0 ≤ h0.size) (E_a : Exa Z h0 a "java/util/ArrayList") (F_size_a : Fld Z h0 a "java/util/ArrayList" "size" "I" (.int (3 : Int32))) (F_elementData_a : Fld Z h0 a "java/util/ArrayList" "elementData" "[Ljava/lang/Object;" (.ref b)) (F_modCount_a : Fld Z h0 a "java/util/AbstractList" "modCount" "I" (.int (4 : Int32))) (V_b : Arv Z h0 b kb (.object "java/lang/Object") (10 : Int32) [(.ref q), (.ref q), (.ref q), .null, .null, .null, .null, .null, .null, .null] .null) (O_b : Ovr Z kb "java/lang/Object") (g_a : n0 ≤ a) (g_b : n0 ≤ b) (ne_a_b : a ≠ b) (E_q : Exa Z h0 q "com/example/gleipnir/gleipnir/service/Counterplay$Position") :
    MetFree l my15 (head1 (Jvm.Cond.code my15 jdk_38_method_24_code 4 none :: ws) Rm_a3_3) (fun aa_ U => aa_ = #[(.ref a), (.ref q), (.ref b), (.int (3 : Int32))] ∧ Z.Warmed39 U.vm ∧ U.heap = h0) (fun _ _ _ _ _ => True) (fun _ U oo_ U' => ∃ v L, oo_ = .returned v ∧ Qa3_3 Z a q b kb h0 n0 v U'.heap L ∧ FrameEnd U oo_ U' L Rm_a3_3.cells Rm_a3_3.slots) := by
  refine MetFree.of_bodySF (plainFor_of_name pn_5) hisR ?_
  intro p e s m args below meth c s₁ Bd hml0 hP hK
  obtain ⟨rfl, hZ, hh⟩ := hP
  have hx := Bd.exec
  have hby := Bd.bytes
  have hml : c.maxLocals = 4 := hml0
  have hown : s.vm.findClass "java/util/ArrayList" = some m.cls := findClass_of_methodNamed Bd.named
  have hnm := (name_of_methodNamed Bd.named Bd.method).1
  have X0 : Stand p l e Rm_a3_3 s m #[(.ref a), (.ref q), (.ref b), (.int (3 : Int32))] below meth c s₁ [] 0 0 := Stand.of_body Bd
  have e0 : s₁.heap = h0 := by rw [← hh, Bd.state]; rfl
  have N0 := Fr.nil n0
  have pre0 : ∀ tt_, Steps p.tables e below (s₁.setTop (mkF m 0 #[.val (.ref a), .val (.ref q), .val (.ref b), .val (.int (3 : Int32))] [])) tt_ → Steps p.tables e below (s₁.setTop (entryFrame m #[(.ref a), (.ref q), (.ref b), (.int (3 : Int32))] 4)) tt_ := fun tt_ kk_ => castTop (ef_13 m a q b (3 : Int32)) kk_
  obtain ⟨cl1, Ar1, -, S1, M1, -, -⟩ := id V_b
  obtain ⟨cl2, Ar2, q2, S2, M2, H2, G2⟩ := id V_b
  obtain ⟨T3, h3, X3, e3, W3, st3⟩ := stR X0 hx hZ e0 Ar2 (j := (3 : Int32)) (inb_of S2 ⟨by decide, by decide⟩) rfl (Sto.ofV Ar2 q2 O_b (Ins.of_exa E_q (hwd104 hw))) (g := (mkF m 14 #[.val (.ref a), .val (.ref q), .val (.ref b), .val (.int (3 : Int32))] [(.ref q), (.int (3 : Int32)), (.ref b)])) rfl rfl (hb hby d13_14)
  have N3 := Fr.snoc X3 N0 g_b
  have Vw3 : Arv Z h3 b kb (.object "java/lang/Object") (10 : Int32) [(.ref q), (.ref q), (.ref q), (.ref q), .null, .null, .null, .null, .null, .null] .null := Arv.set Ar2 q2 S2 M2 H2 G2 rfl W3 3 rfl (Nat.le_of_ble_eq_true rfl)
  have f4_E_a := (E_a.wr W3)
  have f5_F_a_size := (F_size_a.other W3 (Or.inl ne_a_b))
  obtain ⟨T6, h6, X6, e6, W6, st6⟩ := putF X3 hx hZ hown (host := "") (Or.inl (hwd62 hw)) Via.refl e3 f5_F_a_size f4_E_a (Or.inl (hwd63 hw)) (hwd2 hw) (ty := .int) (by decide) rfl rfl (g := (mkF m 19 #[.val (.ref a), .val (.ref q), .val (.ref b), .val (.int (3 : Int32))] [(.int (4 : Int32)), (.ref a)])) rfl rfl (hb hby d13_19)
  have N6 := Fr.snoc X6 N3 g_a
  have Fw6 := f5_F_a_size.same W6
  have kp7 : Keep h0 h6 [a, b] := (((Keep.refl h0 [a, b]).wr W3 (Or.inl (List.mem_of_getElem? (i := 1) rfl))).wr W6 (Or.inl (List.mem_of_getElem? (i := 0) rfl)))
  have f8_E_a := (f4_E_a.wr W6)
  have f9_F_a_elementData := ((F_elementData_a.other W3 (Or.inl ne_a_b)).other W6 (Or.inr (slot_ne (Or.inl (hwd26 hw)) (Or.inl (hwd63 hw)) (by decide) (t := (.array (.object "java/lang/Object"))) (t' := .int) (by decide) (by decide))))
  have f10_F_a_modCount := ((F_modCount_a.other W3 (Or.inl ne_a_b)).other W6 (Or.inr (slot_ne (Or.inl (hwd23 hw)) (Or.inl (hwd63 hw)) (by decide) (t := .int) (t' := .int) (by decide) (by decide))))
  have f11_V_b := (Vw3.other W6 (Ne.symm ne_a_b))
  obtain ⟨fs, hr, hrun, hended, hW, hsame⟩ := X6.leave (v := none) (fun _ => rfl)
  refine ⟨_, _, pre0 _ ?_, hrun, hended, _, _, rfl, ?_, ⟨_, rfl⟩, hW, hsame.mono (by decide) (by decide)⟩
  · show Steps p.tables e below (s₁.setTop (mkF m 0 #[.val (.ref a), .val (.ref q), .val (.ref b), .val (.int (3 : Int32))] [])) _
    refine XS.iloadN X0.here hx rfl (hb hby d13_0) rfl ?_
    refine XS.aloadN X0.here hx rfl (hb hby d13_1) rfl rfl ?_
    refine X0.arraylength hx (by rw [e0]; exact Ar1.1) (State.isArrayOf_alike hZ.alike Ar1.2.1) (g := (mkF m 2 #[.val (.ref a), .val (.ref q), .val (.ref b), .val (.int (3 : Int32))] [(.ref b), (.int (3 : Int32))])) rfl rfl (hb hby d13_2) _ ?_
    rw [len_of S1 M1]
    refine XS.icmpYes X0.here hx rfl (pc0 := 3) (pc' := 11) rfl (hb hby d13_3) rfl (feq (show ¬ ((3 : Int32) = (10 : Int32)) from (by decide))).2 (by decide) (by decide) ?_
    refine XS.aloadN X0.here hx rfl (hb hby d13_11) rfl rfl ?_
    refine XS.iloadN X0.here hx rfl (hb hby d13_12) rfl ?_
    show Steps p.tables e below (s₁.setTop (mkF m 13 #[.val (.ref a), .val (.ref q), .val (.ref b), .val (.int (3 : Int32))] [(.int (3 : Int32)), (.ref b)])) _
    refine XS.aloadN X0.here hx rfl (hb hby d13_13) rfl rfl ?_
    refine st3 _ ?_
    refine XS.aloadN X3.here hx rfl (hb hby d13_15) rfl rfl ?_
    refine XS.iloadN X3.here hx rfl (hb hby d13_16) rfl ?_
    refine XS.iconst X3.here hx rfl (hb hby d13_17) ?_
    refine XS.iadd X3.here hx rfl (hb hby d13_18) rfl ?_
    show Steps p.tables e below (T3.setTop (mkF m 19 #[.val (.ref a), .val (.ref q), .val (.ref b), .val (.int (3 : Int32))] [(.int ((3 : Int32) + (1 : Int32))), (.ref a)])) _
    rw [show (((3 : Int32) + (1 : Int32)) : Int32) = (4 : Int32) from by decide]
    refine st6 _ ?_
    exact X6.returnOut hx Bd.returns (hb hby d13_22) hr
  · show Qa3_3 Z a q b kb h0 n0 _ T6.heap _
    rw [e6]
    exact ⟨rfl, N6, kp7, f8_E_a, Fw6, f9_F_a_elementData, f10_F_a_modCount, f11_V_b⟩
def Qa1_3 (Z : State) (a : Addr) (q : Addr) (b : Addr) (kb : ClassId) (h0 : Heap) (n0 : Nat) (v : Option Value) (h : Heap) (L : List Loc) : Prop := v = some (.int (1 : Int32)) ∧ Fr n0 L ∧ Keep h0 h [a, b] ∧ Exa Z h a "java/util/ArrayList" ∧ Fld Z h a "java/util/ArrayList" "size" "I" (.int (4 : Int32)) ∧ Fld Z h a "java/util/ArrayList" "elementData" "[Ljava/lang/Object;" (.ref b) ∧ Fld Z h a "java/util/AbstractList" "modCount" "I" (.int (4 : Int32)) ∧ Arv Z h b kb (.object "java/lang/Object") (10 : Int32) [(.ref q), (.ref q), (.ref q), (.ref q), .null, .null, .null, .null, .null, .null] .null
set_option maxRecDepth 65536 in
set_option maxHeartbeats 40000000 in
abbrev Rm_a1_3 : Room := { frames := 1, cells := 0, slots := 0, locals := 15 }
theorem a1_3 (l : Launch) (Z : State) (a0 : Array Value) (hw : ∀ d ∈ tables_1, d.before a0 Z = true) (ws : List Jvm.Cond) (a : Addr) (q : Addr) (b : Addr) (kb : ClassId) (h0 : Heap) (n0 : Nat) (Z0 : n0 ≤ h0.size) (E_a : Exa Z h0 a "java/util/ArrayList") (F_size_a : Fld Z h0 a "java/util/ArrayList" "size" "I" (.int (3 : Int32))) (F_elementData_a : Fld Z h0 a "java/util/ArrayList" "elementData" "[Ljava/lang/Object;" (.ref b)) (F_modCount_a : Fld Z h0 a "java/util/AbstractList" "modCount" "I" (.int (3 : Int32))) (V_b : Arv Z h0 b kb (.object "java/lang/Object") (10 : Int32) [(.ref q), (.ref q), (.ref q), .null, .null, .null, .null, .null, .null, .null] .null) (O_b : Ovr Z kb "java/lang/Object") (g_a : n0 ≤ a) (g_b : n0 ≤ b) (ne_a_b : a ≠ b) (E_q : Exa Z h0 q "com/example/gleipnir/gleipnir/service/Counterplay$Position") :
    MetFree l my16 (head1 (Jvm.Cond.code my16 jdk_38_method_25_code 2 (some .boolean) :: ws) Rm_a1_3) (fun aa_ U => aa_ = #[(.ref a), (.ref q)] ∧ Z.Warmed39 U.vm ∧ U.heap = h0) (fun _ _ _ _ _ => True) (fun _ U oo_ U' => ∃ v L, oo_ = .returned v ∧ Qa1_3 Z a q b kb h0 n0 v U'.heap L ∧ FrameEnd U oo_ U' L Rm_a1_3.cells Rm_a1_3.slots) := by
  refine MetFree.of_bodySF (plainFor_of_name pn_5) hisR ?_
  intro p e s m args below meth c s₁ Bd hml0 hP hK
  obtain ⟨rfl, hZ, hh⟩ := hP
  have hx := Bd.exec
  have hby := Bd.bytes
  have hml : c.maxLocals = 2 := hml0
  have hown : s.vm.findClass "java/util/ArrayList" = some m.cls := findClass_of_methodNamed Bd.named
  have hnm := (name_of_methodNamed Bd.named Bd.method).1
  have X0 : Stand p l e Rm_a1_3 s m #[(.ref a), (.ref q)] below meth c s₁ [] 0 0 := Stand.of_body Bd
  have e0 : s₁.heap = h0 := by rw [← hh, Bd.state]; rfl
  have N0 := Fr.nil n0
  have pre0 : ∀ tt_, Steps p.tables e below (s₁.setTop (mkF m 0 #[.val (.ref a), .val (.ref q)] [])) tt_ → Steps p.tables e below (s₁.setTop (entryFrame m #[(.ref a), (.ref q)] 2)) tt_ := fun tt_ kk_ => castTop (ef_12 m a q) kk_
  obtain ⟨T1, X1, e1, st1⟩ := getF X0 hx hZ hown (host := "") (Or.inl (hwd81 hw)) (Via.of (hwd82 hw)) e0 F_modCount_a (g := (mkF m 2 #[.val (.ref a), .val (.ref q)] [(.ref a), (.ref a)])) rfl rfl (hb hby d12_2)
  obtain ⟨T2, h2, X2, e2, W2, st2⟩ := putF X1 hx hZ hown (host := "") (Or.inl (hwd81 hw)) (Via.of (hwd82 hw)) e1 F_modCount_a E_a (Or.inl (hwd23 hw)) (hwd2 hw) (ty := .int) (by decide) rfl rfl (g := (mkF m 7 #[.val (.ref a), .val (.ref q)] [(.int (4 : Int32)), (.ref a)])) rfl rfl (hb hby d12_7)
  have N2 := Fr.snoc X2 N0 g_a
  have Fw2 := F_modCount_a.same W2
  have f3_F_a_elementData := (F_elementData_a.other W2 (Or.inr (slot_ne (Or.inl (hwd26 hw)) (Or.inl (hwd23 hw)) (by decide) (t := (.array (.object "java/lang/Object"))) (t' := .int) (by decide) (by decide))))
  obtain ⟨T4, X4, e4, st4⟩ := getF X2 hx hZ hown (host := "") (Or.inl (hwd25 hw)) Via.refl e2 f3_F_a_elementData (g := (mkF m 13 #[.val (.ref a), .val (.ref q)] [(.ref a), (.ref q), (.ref a)])) rfl rfl (hb hby d12_13)
  have f5_F_a_size := (F_size_a.other W2 (Or.inr (slot_ne (Or.inl (hwd63 hw)) (Or.inl (hwd23 hw)) (by decide) (t := .int) (t' := .int) (by decide) (by decide))))
  obtain ⟨T6, X6, e6, st6⟩ := getF X4 hx hZ hown (host := "") (Or.inl (hwd62 hw)) Via.refl e4 f5_F_a_size (g := (mkF m 17 #[.val (.ref a), .val (.ref q)] [(.ref a), (.ref b), (.ref q), (.ref a)])) rfl rfl (hb hby d12_17)
  have f8_E_a := (E_a.wr W2)
  have f9_V_b := (V_b.other W2 (Ne.symm ne_a_b))
  have f10_E_q := (E_q.wr W2)
  have sz11 : n0 ≤ h2.size := (Nat.le_trans Z0 (Keep.of_wr W2).1)
  obtain ⟨cq7, q7, q7'⟩ := f8_E_a.cell
  obtain ⟨_, _, ⟨T7, L7, k7, n7⟩, -, X7, ⟨Lc7, hQ7, l7, y7, z7⟩, st7⟩ := X6.privateBack hx (y := my15) hown (mvT hZ (hwd83 hw)) (mvT hZ (hwd84 hw)) (mvT hZ (hwd86 hw)) (Cond.privateMethod_at (mvP hZ (hwd85 hw) (args := #[]))) (mvT hZ (hwd87 hw)) (by decide) (backOf (W := 0) (a3_3 l Z a0 hw [] a q b kb h2 n0 sz11 f8_E_a f5_F_a_size f3_F_a_elementData Fw2 f9_V_b O_b g_a g_b ne_a_b f10_E_q) hZ (hwd87 hw) (hwd3 hw) (by decide) (by decide)) (g := (mkF m 20 #[.val (.ref a), .val (.ref q)] [(.int (3 : Int32)), (.ref b), (.ref q), (.ref a)])) rfl (by rw [hml]; rfl) (Steps.refl _) (a := a) (by rw [e6]; exact q7) q7' (argsL := [(.ref q), (.ref b), (.int (3 : Int32))]) (rest := []) (lenOf pd_7 rfl) rfl (by show 2 * 0 + _ ≤ _; exact Nat.le_of_eq rfl) (hb hby d12_20) (fun _ _ => ⟨rfl, e6, (by decide : 0 + 0 ≤ _), (by decide : 0 + 0 ≤ _)⟩)
  dsimp only [Pt.U, Pt.locs, Pt.cells, Pt.slots] at X7 l7 y7 z7 st7 hQ7
  subst l7 y7 z7
  obtain ⟨rfl, N7q, K7, p7_1, p7_2, p7_3, p7_4, p7_5⟩ := hQ7
  have N7 := Fr.app N2 N7q
  have kp12 : Keep h0 T7.heap [a, b] := (((Keep.refl h0 [a, b]).wr W2 (Or.inl (List.mem_of_getElem? (i := 0) rfl))).trans K7 (allS (Or.inl (List.mem_of_getElem? (i := 0) rfl)) (allS (Or.inl (List.mem_of_getElem? (i := 1) rfl)) all0)))
  obtain ⟨fs, hr, hrun, hended, hW, hsame⟩ := X7.leave (v := some (.int (1 : Int32))) (fun h => by rw [Bd.returns] at h; cases h)
  refine ⟨_, _, pre0 _ ?_, hrun, hended, _, _, rfl, ?_, ⟨_, rfl⟩, hW, hsame.mono (by decide) (by decide)⟩
  · show Steps p.tables e below (s₁.setTop (mkF m 0 #[.val (.ref a), .val (.ref q)] [])) _
    refine XS.aloadN X0.here hx rfl (hb hby d12_0) rfl rfl ?_
    refine XS.dup X0.here hx rfl (hb hby d12_1) rfl rfl ?_
    refine st1 _ ?_
    refine XS.iconst X1.here hx rfl (hb hby d12_5) ?_
    refine XS.iadd X1.here hx rfl (hb hby d12_6) rfl ?_
    show Steps p.tables e below (T1.setTop (mkF m 7 #[.val (.ref a), .val (.ref q)] [(.int ((3 : Int32) + (1 : Int32))), (.ref a)])) _
    rw [show (((3 : Int32) + (1 : Int32)) : Int32) = (4 : Int32) from by decide]
    refine st2 _ ?_
    refine XS.aloadN X2.here hx rfl (hb hby d12_10) rfl rfl ?_
    refine XS.aloadN X2.here hx rfl (hb hby d12_11) rfl rfl ?_
    refine XS.aloadN X2.here hx rfl (hb hby d12_12) rfl rfl ?_
    refine st4 _ ?_
    show Steps p.tables e below (T4.setTop (mkF m 16 #[.val (.ref a), .val (.ref q)] [(.ref b), (.ref q), (.ref a)])) _
    refine XS.aloadN X4.here hx rfl (hb hby d12_16) rfl rfl ?_
    refine st6 _ ?_
    refine st7.trans ?_
    refine XS.iconst X7.here hx rfl (hb hby d12_23) ?_
    exact retN X7 hx (t := .boolean) Bd.returns (by simp) (hb hby d12_24) hr
  · show Qa1_3 Z a q b kb h0 n0 _ T7.heap _
    exact ⟨rfl, N7, kp12, p7_1, p7_2, p7_3, p7_4, p7_5⟩
def Qa3_4 (Z : State) (a : Addr) (q : Addr) (b : Addr) (kb : ClassId) (h0 : Heap) (n0 : Nat) (v : Option Value) (h : Heap) (L : List Loc) : Prop := v = none ∧ Fr n0 L ∧ Keep h0 h [a, b] ∧ Exa Z h a "java/util/ArrayList" ∧ Fld Z h a "java/util/ArrayList" "size" "I" (.int (5 : Int32)) ∧ Fld Z h a "java/util/ArrayList" "elementData" "[Ljava/lang/Object;" (.ref b) ∧ Fld Z h a "java/util/AbstractList" "modCount" "I" (.int (5 : Int32)) ∧ Arv Z h b kb (.object "java/lang/Object") (10 : Int32) [(.ref q), (.ref q), (.ref q), (.ref q), (.ref q), .null, .null, .null, .null, .null] .null
set_option maxRecDepth 65536 in
set_option maxHeartbeats 40000000 in
abbrev Rm_a3_4 : Room := { frames := 0, cells := 0, slots := 0, locals := 0 }
theorem a3_4 (l : Launch) (Z : State) (a0 : Array Value) (hw : ∀ d ∈ tables_1, d.before a0 Z = true) (ws : List Jvm.Cond) (a : Addr) (q : Addr) (b : Addr) (kb : ClassId) (h0 : Heap) (n0 : Nat) (Z0 : n0 ≤ h0.size) (E_a : Exa Z h0 a "java/util/ArrayList") (F_size_a : Fld Z h0 a "java/util/ArrayList" "size" "I" (.int (4 : Int32))) (F_elementData_a : Fld Z h0 a "java/util/ArrayList" "elementData" "[Ljava/lang/Object;" (.ref b)) (F_modCount_a : Fld Z h0 a "java/util/AbstractList" "modCount" "I" (.int (5 : Int32))) (V_b : Arv Z h0 b kb (.object "java/lang/Object") (10 : Int32) [(.ref q), (.ref q), (.ref q), (.ref q), .null, .null, .null, .null, .null, .null] .null) (O_b : Ovr Z kb "java/lang/Object") (g_a : n0 ≤ a) (g_b : n0 ≤ b) (ne_a_b : a ≠ b) (E_q : Exa Z h0 q "com/example/gleipnir/gleipnir/service/Counterplay$Position") :
    MetFree l my15 (head1 (Jvm.Cond.code my15 jdk_38_method_24_code 4 none :: ws) Rm_a3_4) (fun aa_ U => aa_ = #[(.ref a), (.ref q), (.ref b), (.int (4 : Int32))] ∧ Z.Warmed39 U.vm ∧ U.heap = h0) (fun _ _ _ _ _ => True) (fun _ U oo_ U' => ∃ v L, oo_ = .returned v ∧ Qa3_4 Z a q b kb h0 n0 v U'.heap L ∧ FrameEnd U oo_ U' L Rm_a3_4.cells Rm_a3_4.slots) := by
  refine MetFree.of_bodySF (plainFor_of_name pn_5) hisR ?_
  intro p e s m args below meth c s₁ Bd hml0 hP hK
  obtain ⟨rfl, hZ, hh⟩ := hP
  have hx := Bd.exec
  have hby := Bd.bytes
  have hml : c.maxLocals = 4 := hml0
  have hown : s.vm.findClass "java/util/ArrayList" = some m.cls := findClass_of_methodNamed Bd.named
  have hnm := (name_of_methodNamed Bd.named Bd.method).1
  have X0 : Stand p l e Rm_a3_4 s m #[(.ref a), (.ref q), (.ref b), (.int (4 : Int32))] below meth c s₁ [] 0 0 := Stand.of_body Bd
  have e0 : s₁.heap = h0 := by rw [← hh, Bd.state]; rfl
  have N0 := Fr.nil n0
  have pre0 : ∀ tt_, Steps p.tables e below (s₁.setTop (mkF m 0 #[.val (.ref a), .val (.ref q), .val (.ref b), .val (.int (4 : Int32))] [])) tt_ → Steps p.tables e below (s₁.setTop (entryFrame m #[(.ref a), (.ref q), (.ref b), (.int (4 : Int32))] 4)) tt_ := fun tt_ kk_ => castTop (ef_13 m a q b (4 : Int32)) kk_
  obtain ⟨cl1, Ar1, -, S1, M1, -, -⟩ := id V_b
  obtain ⟨cl2, Ar2, q2, S2, M2, H2, G2⟩ := id V_b
  obtain ⟨T3, h3, X3, e3, W3, st3⟩ := stR X0 hx hZ e0 Ar2 (j := (4 : Int32)) (inb_of S2 ⟨by decide, by decide⟩) rfl (Sto.ofV Ar2 q2 O_b (Ins.of_exa E_q (hwd104 hw))) (g := (mkF m 14 #[.val (.ref a), .val (.ref q), .val (.ref b), .val (.int (4 : Int32))] [(.ref q), (.int (4 : Int32)), (.ref b)])) rfl rfl (hb hby d13_14)
  have N3 := Fr.snoc X3 N0 g_b
  have Vw3 : Arv Z h3 b kb (.object "java/lang/Object") (10 : Int32) [(.ref q), (.ref q), (.ref q), (.ref q), (.ref q), .null, .null, .null, .null, .null] .null := Arv.set Ar2 q2 S2 M2 H2 G2 rfl W3 4 rfl (Nat.le_of_ble_eq_true rfl)
  have f4_E_a := (E_a.wr W3)
  have f5_F_a_size := (F_size_a.other W3 (Or.inl ne_a_b))
  obtain ⟨T6, h6, X6, e6, W6, st6⟩ := putF X3 hx hZ hown (host := "") (Or.inl (hwd62 hw)) Via.refl e3 f5_F_a_size f4_E_a (Or.inl (hwd63 hw)) (hwd2 hw) (ty := .int) (by decide) rfl rfl (g := (mkF m 19 #[.val (.ref a), .val (.ref q), .val (.ref b), .val (.int (4 : Int32))] [(.int (5 : Int32)), (.ref a)])) rfl rfl (hb hby d13_19)
  have N6 := Fr.snoc X6 N3 g_a
  have Fw6 := f5_F_a_size.same W6
  have kp7 : Keep h0 h6 [a, b] := (((Keep.refl h0 [a, b]).wr W3 (Or.inl (List.mem_of_getElem? (i := 1) rfl))).wr W6 (Or.inl (List.mem_of_getElem? (i := 0) rfl)))
  have f8_E_a := (f4_E_a.wr W6)
  have f9_F_a_elementData := ((F_elementData_a.other W3 (Or.inl ne_a_b)).other W6 (Or.inr (slot_ne (Or.inl (hwd26 hw)) (Or.inl (hwd63 hw)) (by decide) (t := (.array (.object "java/lang/Object"))) (t' := .int) (by decide) (by decide))))
  have f10_F_a_modCount := ((F_modCount_a.other W3 (Or.inl ne_a_b)).other W6 (Or.inr (slot_ne (Or.inl (hwd23 hw)) (Or.inl (hwd63 hw)) (by decide) (t := .int) (t' := .int) (by decide) (by decide))))
  have f11_V_b := (Vw3.other W6 (Ne.symm ne_a_b))
  obtain ⟨fs, hr, hrun, hended, hW, hsame⟩ := X6.leave (v := none) (fun _ => rfl)
  refine ⟨_, _, pre0 _ ?_, hrun, hended, _, _, rfl, ?_, ⟨_, rfl⟩, hW, hsame.mono (by decide) (by decide)⟩
  · show Steps p.tables e below (s₁.setTop (mkF m 0 #[.val (.ref a), .val (.ref q), .val (.ref b), .val (.int (4 : Int32))] [])) _
    refine XS.iloadN X0.here hx rfl (hb hby d13_0) rfl ?_
    refine XS.aloadN X0.here hx rfl (hb hby d13_1) rfl rfl ?_
    refine X0.arraylength hx (by rw [e0]; exact Ar1.1) (State.isArrayOf_alike hZ.alike Ar1.2.1) (g := (mkF m 2 #[.val (.ref a), .val (.ref q), .val (.ref b), .val (.int (4 : Int32))] [(.ref b), (.int (4 : Int32))])) rfl rfl (hb hby d13_2) _ ?_
    rw [len_of S1 M1]
    refine XS.icmpYes X0.here hx rfl (pc0 := 3) (pc' := 11) rfl (hb hby d13_3) rfl (feq (show ¬ ((4 : Int32) = (10 : Int32)) from (by decide))).2 (by decide) (by decide) ?_
    refine XS.aloadN X0.here hx rfl (hb hby d13_11) rfl rfl ?_
    refine XS.iloadN X0.here hx rfl (hb hby d13_12) rfl ?_
    show Steps p.tables e below (s₁.setTop (mkF m 13 #[.val (.ref a), .val (.ref q), .val (.ref b), .val (.int (4 : Int32))] [(.int (4 : Int32)), (.ref b)])) _
    refine XS.aloadN X0.here hx rfl (hb hby d13_13) rfl rfl ?_
    refine st3 _ ?_
    refine XS.aloadN X3.here hx rfl (hb hby d13_15) rfl rfl ?_
    refine XS.iloadN X3.here hx rfl (hb hby d13_16) rfl ?_
    refine XS.iconst X3.here hx rfl (hb hby d13_17) ?_
    refine XS.iadd X3.here hx rfl (hb hby d13_18) rfl ?_
    show Steps p.tables e below (T3.setTop (mkF m 19 #[.val (.ref a), .val (.ref q), .val (.ref b), .val (.int (4 : Int32))] [(.int ((4 : Int32) + (1 : Int32))), (.ref a)])) _
    rw [show (((4 : Int32) + (1 : Int32)) : Int32) = (5 : Int32) from by decide]
    refine st6 _ ?_
    exact X6.returnOut hx Bd.returns (hb hby d13_22) hr
  · show Qa3_4 Z a q b kb h0 n0 _ T6.heap _
    rw [e6]
    exact ⟨rfl, N6, kp7, f8_E_a, Fw6, f9_F_a_elementData, f10_F_a_modCount, f11_V_b⟩
def Qa1_4 (Z : State) (a : Addr) (q : Addr) (b : Addr) (kb : ClassId) (h0 : Heap) (n0 : Nat) (v : Option Value) (h : Heap) (L : List Loc) : Prop := v = some (.int (1 : Int32)) ∧ Fr n0 L ∧ Keep h0 h [a, b] ∧ Exa Z h a "java/util/ArrayList" ∧ Fld Z h a "java/util/ArrayList" "size" "I" (.int (5 : Int32)) ∧ Fld Z h a "java/util/ArrayList" "elementData" "[Ljava/lang/Object;" (.ref b) ∧ Fld Z h a "java/util/AbstractList" "modCount" "I" (.int (5 : Int32)) ∧ Arv Z h b kb (.object "java/lang/Object") (10 : Int32) [(.ref q), (.ref q), (.ref q), (.ref q), (.ref q), .null, .null, .null, .null, .null] .null
set_option maxRecDepth 65536 in
set_option maxHeartbeats 40000000 in
abbrev Rm_a1_4 : Room := { frames := 1, cells := 0, slots := 0, locals := 15 }
theorem a1_4 (l : Launch) (Z : State) (a0 : Array Value) (hw : ∀ d ∈ tables_1, d.before a0 Z = true) (ws : List Jvm.Cond) (a : Addr) (q : Addr) (b : Addr) (kb : ClassId) (h0 : Heap) (n0 : Nat) (Z0 : n0 ≤ h0.size) (E_a : Exa Z h0 a "java/util/ArrayList") (F_size_a : Fld Z h0 a "java/util/ArrayList" "size" "I" (.int (4 : Int32))) (F_elementData_a : Fld Z h0 a "java/util/ArrayList" "elementData" "[Ljava/lang/Object;" (.ref b)) (F_modCount_a : Fld Z h0 a "java/util/AbstractList" "modCount" "I" (.int (4 : Int32))) (V_b : Arv Z h0 b kb (.object "java/lang/Object") (10 : Int32) [(.ref q), (.ref q), (.ref q), (.ref q), .null, .null, .null, .null, .null, .null] .null) (O_b : Ovr Z kb "java/lang/Object") (g_a : n0 ≤ a) (g_b : n0 ≤ b) (ne_a_b : a ≠ b) (E_q : Exa Z h0 q "com/example/gleipnir/gleipnir/service/Counterplay$Position") :
    MetFree l my16 (head1 (Jvm.Cond.code my16 jdk_38_method_25_code 2 (some .boolean) :: ws) Rm_a1_4) (fun aa_ U => aa_ = #[(.ref a), (.ref q)] ∧ Z.Warmed39 U.vm ∧ U.heap = h0) (fun _ _ _ _ _ => True) (fun _ U oo_ U' => ∃ v L, oo_ = .returned v ∧ Qa1_4 Z a q b kb h0 n0 v U'.heap L ∧ FrameEnd U oo_ U' L Rm_a1_4.cells Rm_a1_4.slots) := by
  refine MetFree.of_bodySF (plainFor_of_name pn_5) hisR ?_
  intro p e s m args below meth c s₁ Bd hml0 hP hK
  obtain ⟨rfl, hZ, hh⟩ := hP
  have hx := Bd.exec
  have hby := Bd.bytes
  have hml : c.maxLocals = 2 := hml0
  have hown : s.vm.findClass "java/util/ArrayList" = some m.cls := findClass_of_methodNamed Bd.named
  have hnm := (name_of_methodNamed Bd.named Bd.method).1
  have X0 : Stand p l e Rm_a1_4 s m #[(.ref a), (.ref q)] below meth c s₁ [] 0 0 := Stand.of_body Bd
  have e0 : s₁.heap = h0 := by rw [← hh, Bd.state]; rfl
  have N0 := Fr.nil n0
  have pre0 : ∀ tt_, Steps p.tables e below (s₁.setTop (mkF m 0 #[.val (.ref a), .val (.ref q)] [])) tt_ → Steps p.tables e below (s₁.setTop (entryFrame m #[(.ref a), (.ref q)] 2)) tt_ := fun tt_ kk_ => castTop (ef_12 m a q) kk_
  obtain ⟨T1, X1, e1, st1⟩ := getF X0 hx hZ hown (host := "") (Or.inl (hwd81 hw)) (Via.of (hwd82 hw)) e0 F_modCount_a (g := (mkF m 2 #[.val (.ref a), .val (.ref q)] [(.ref a), (.ref a)])) rfl rfl (hb hby d12_2)
  obtain ⟨T2, h2, X2, e2, W2, st2⟩ := putF X1 hx hZ hown (host := "") (Or.inl (hwd81 hw)) (Via.of (hwd82 hw)) e1 F_modCount_a E_a (Or.inl (hwd23 hw)) (hwd2 hw) (ty := .int) (by decide) rfl rfl (g := (mkF m 7 #[.val (.ref a), .val (.ref q)] [(.int (5 : Int32)), (.ref a)])) rfl rfl (hb hby d12_7)
  have N2 := Fr.snoc X2 N0 g_a
  have Fw2 := F_modCount_a.same W2
  have f3_F_a_elementData := (F_elementData_a.other W2 (Or.inr (slot_ne (Or.inl (hwd26 hw)) (Or.inl (hwd23 hw)) (by decide) (t := (.array (.object "java/lang/Object"))) (t' := .int) (by decide) (by decide))))
  obtain ⟨T4, X4, e4, st4⟩ := getF X2 hx hZ hown (host := "") (Or.inl (hwd25 hw)) Via.refl e2 f3_F_a_elementData (g := (mkF m 13 #[.val (.ref a), .val (.ref q)] [(.ref a), (.ref q), (.ref a)])) rfl rfl (hb hby d12_13)
  have f5_F_a_size := (F_size_a.other W2 (Or.inr (slot_ne (Or.inl (hwd63 hw)) (Or.inl (hwd23 hw)) (by decide) (t := .int) (t' := .int) (by decide) (by decide))))
  obtain ⟨T6, X6, e6, st6⟩ := getF X4 hx hZ hown (host := "") (Or.inl (hwd62 hw)) Via.refl e4 f5_F_a_size (g := (mkF m 17 #[.val (.ref a), .val (.ref q)] [(.ref a), (.ref b), (.ref q), (.ref a)])) rfl rfl (hb hby d12_17)
  have f8_E_a := (E_a.wr W2)
  have f9_V_b := (V_b.other W2 (Ne.symm ne_a_b))
  have f10_E_q := (E_q.wr W2)
  have sz11 : n0 ≤ h2.size := (Nat.le_trans Z0 (Keep.of_wr W2).1)
  obtain ⟨cq7, q7, q7'⟩ := f8_E_a.cell
  obtain ⟨_, _, ⟨T7, L7, k7, n7⟩, -, X7, ⟨Lc7, hQ7, l7, y7, z7⟩, st7⟩ := X6.privateBack hx (y := my15) hown (mvT hZ (hwd83 hw)) (mvT hZ (hwd84 hw)) (mvT hZ (hwd86 hw)) (Cond.privateMethod_at (mvP hZ (hwd85 hw) (args := #[]))) (mvT hZ (hwd87 hw)) (by decide) (backOf (W := 0) (a3_4 l Z a0 hw [] a q b kb h2 n0 sz11 f8_E_a f5_F_a_size f3_F_a_elementData Fw2 f9_V_b O_b g_a g_b ne_a_b f10_E_q) hZ (hwd87 hw) (hwd3 hw) (by decide) (by decide)) (g := (mkF m 20 #[.val (.ref a), .val (.ref q)] [(.int (4 : Int32)), (.ref b), (.ref q), (.ref a)])) rfl (by rw [hml]; rfl) (Steps.refl _) (a := a) (by rw [e6]; exact q7) q7' (argsL := [(.ref q), (.ref b), (.int (4 : Int32))]) (rest := []) (lenOf pd_7 rfl) rfl (by show 2 * 0 + _ ≤ _; exact Nat.le_of_eq rfl) (hb hby d12_20) (fun _ _ => ⟨rfl, e6, (by decide : 0 + 0 ≤ _), (by decide : 0 + 0 ≤ _)⟩)
  dsimp only [Pt.U, Pt.locs, Pt.cells, Pt.slots] at X7 l7 y7 z7 st7 hQ7
  subst l7 y7 z7
  obtain ⟨rfl, N7q, K7, p7_1, p7_2, p7_3, p7_4, p7_5⟩ := hQ7
  have N7 := Fr.app N2 N7q
  have kp12 : Keep h0 T7.heap [a, b] := (((Keep.refl h0 [a, b]).wr W2 (Or.inl (List.mem_of_getElem? (i := 0) rfl))).trans K7 (allS (Or.inl (List.mem_of_getElem? (i := 0) rfl)) (allS (Or.inl (List.mem_of_getElem? (i := 1) rfl)) all0)))
  obtain ⟨fs, hr, hrun, hended, hW, hsame⟩ := X7.leave (v := some (.int (1 : Int32))) (fun h => by rw [Bd.returns] at h; cases h)
  refine ⟨_, _, pre0 _ ?_, hrun, hended, _, _, rfl, ?_, ⟨_, rfl⟩, hW, hsame.mono (by decide) (by decide)⟩
  · show Steps p.tables e below (s₁.setTop (mkF m 0 #[.val (.ref a), .val (.ref q)] [])) _
    refine XS.aloadN X0.here hx rfl (hb hby d12_0) rfl rfl ?_
    refine XS.dup X0.here hx rfl (hb hby d12_1) rfl rfl ?_
    refine st1 _ ?_
    refine XS.iconst X1.here hx rfl (hb hby d12_5) ?_
    refine XS.iadd X1.here hx rfl (hb hby d12_6) rfl ?_
    show Steps p.tables e below (T1.setTop (mkF m 7 #[.val (.ref a), .val (.ref q)] [(.int ((4 : Int32) + (1 : Int32))), (.ref a)])) _
    rw [show (((4 : Int32) + (1 : Int32)) : Int32) = (5 : Int32) from by decide]
    refine st2 _ ?_
    refine XS.aloadN X2.here hx rfl (hb hby d12_10) rfl rfl ?_
    refine XS.aloadN X2.here hx rfl (hb hby d12_11) rfl rfl ?_
    refine XS.aloadN X2.here hx rfl (hb hby d12_12) rfl rfl ?_
    refine st4 _ ?_
    show Steps p.tables e below (T4.setTop (mkF m 16 #[.val (.ref a), .val (.ref q)] [(.ref b), (.ref q), (.ref a)])) _
    refine XS.aloadN X4.here hx rfl (hb hby d12_16) rfl rfl ?_
    refine st6 _ ?_
    refine st7.trans ?_
    refine XS.iconst X7.here hx rfl (hb hby d12_23) ?_
    exact retN X7 hx (t := .boolean) Bd.returns (by simp) (hb hby d12_24) hr
  · show Qa1_4 Z a q b kb h0 n0 _ T7.heap _
    exact ⟨rfl, N7, kp12, p7_1, p7_2, p7_3, p7_4, p7_5⟩
def Qa3_5 (Z : State) (a : Addr) (q : Addr) (b : Addr) (kb : ClassId) (h0 : Heap) (n0 : Nat) (v : Option Value) (h : Heap) (L : List Loc) : Prop := v = none ∧ Fr n0 L ∧ Keep h0 h [a, b] ∧ Exa Z h a "java/util/ArrayList" ∧ Fld Z h a "java/util/ArrayList" "size" "I" (.int (6 : Int32)) ∧ Fld Z h a "java/util/ArrayList" "elementData" "[Ljava/lang/Object;" (.ref b) ∧ Fld Z h a "java/util/AbstractList" "modCount" "I" (.int (6 : Int32)) ∧ Arv Z h b kb (.object "java/lang/Object") (10 : Int32) [(.ref q), (.ref q), (.ref q), (.ref q), (.ref q), (.ref q), .null, .null, .null, .null] .null
set_option maxRecDepth 65536 in
set_option maxHeartbeats 40000000 in
abbrev Rm_a3_5 : Room := { frames := 0, cells := 0, slots := 0, locals := 0 }
theorem a3_5 (l : Launch) (Z : State) (a0 : Array Value) (hw : ∀ d ∈ tables_1, d.before a0 Z = true) (ws : List Jvm.Cond) (a : Addr) (q : Addr) (b : Addr) (kb : ClassId) (h0 : Heap) (n0 : Nat) (Z0 : n0 ≤ h0.size) (E_a : Exa Z h0 a "java/util/ArrayList") (F_size_a : Fld Z h0 a "java/util/ArrayList" "size" "I" (.int (5 : Int32))) (F_elementData_a : Fld Z h0 a "java/util/ArrayList" "elementData" "[Ljava/lang/Object;" (.ref b)) (F_modCount_a : Fld Z h0 a "java/util/AbstractList" "modCount" "I" (.int (6 : Int32))) (V_b : Arv Z h0 b kb (.object "java/lang/Object") (10 : Int32) [(.ref q), (.ref q), (.ref q), (.ref q), (.ref q), .null, .null, .null, .null, .null] .null) (O_b : Ovr Z kb "java/lang/Object") (g_a : n0 ≤ a) (g_b : n0 ≤ b) (ne_a_b : a ≠ b) (E_q : Exa Z h0 q "com/example/gleipnir/gleipnir/service/Counterplay$Position") :
    MetFree l my15 (head1 (Jvm.Cond.code my15 jdk_38_method_24_code 4 none :: ws) Rm_a3_5) (fun aa_ U => aa_ = #[(.ref a), (.ref q), (.ref b), (.int (5 : Int32))] ∧ Z.Warmed39 U.vm ∧ U.heap = h0) (fun _ _ _ _ _ => True) (fun _ U oo_ U' => ∃ v L, oo_ = .returned v ∧ Qa3_5 Z a q b kb h0 n0 v U'.heap L ∧ FrameEnd U oo_ U' L Rm_a3_5.cells Rm_a3_5.slots) := by
  refine MetFree.of_bodySF (plainFor_of_name pn_5) hisR ?_
  intro p e s m args below meth c s₁ Bd hml0 hP hK
  obtain ⟨rfl, hZ, hh⟩ := hP
  have hx := Bd.exec
  have hby := Bd.bytes
  have hml : c.maxLocals = 4 := hml0
  have hown : s.vm.findClass "java/util/ArrayList" = some m.cls := findClass_of_methodNamed Bd.named
  have hnm := (name_of_methodNamed Bd.named Bd.method).1
  have X0 : Stand p l e Rm_a3_5 s m #[(.ref a), (.ref q), (.ref b), (.int (5 : Int32))] below meth c s₁ [] 0 0 := Stand.of_body Bd
  have e0 : s₁.heap = h0 := by rw [← hh, Bd.state]; rfl
  have N0 := Fr.nil n0
  have pre0 : ∀ tt_, Steps p.tables e below (s₁.setTop (mkF m 0 #[.val (.ref a), .val (.ref q), .val (.ref b), .val (.int (5 : Int32))] [])) tt_ → Steps p.tables e below (s₁.setTop (entryFrame m #[(.ref a), (.ref q), (.ref b), (.int (5 : Int32))] 4)) tt_ := fun tt_ kk_ => castTop (ef_13 m a q b (5 : Int32)) kk_
  obtain ⟨cl1, Ar1, -, S1, M1, -, -⟩ := id V_b
  obtain ⟨cl2, Ar2, q2, S2, M2, H2, G2⟩ := id V_b
  obtain ⟨T3, h3, X3, e3, W3, st3⟩ := stR X0 hx hZ e0 Ar2 (j := (5 : Int32)) (inb_of S2 ⟨by decide, by decide⟩) rfl (Sto.ofV Ar2 q2 O_b (Ins.of_exa E_q (hwd104 hw))) (g := (mkF m 14 #[.val (.ref a), .val (.ref q), .val (.ref b), .val (.int (5 : Int32))] [(.ref q), (.int (5 : Int32)), (.ref b)])) rfl rfl (hb hby d13_14)
  have N3 := Fr.snoc X3 N0 g_b
  have Vw3 : Arv Z h3 b kb (.object "java/lang/Object") (10 : Int32) [(.ref q), (.ref q), (.ref q), (.ref q), (.ref q), (.ref q), .null, .null, .null, .null] .null := Arv.set Ar2 q2 S2 M2 H2 G2 rfl W3 5 rfl (Nat.le_of_ble_eq_true rfl)
  have f4_E_a := (E_a.wr W3)
  have f5_F_a_size := (F_size_a.other W3 (Or.inl ne_a_b))
  obtain ⟨T6, h6, X6, e6, W6, st6⟩ := putF X3 hx hZ hown (host := "") (Or.inl (hwd62 hw)) Via.refl e3 f5_F_a_size f4_E_a (Or.inl (hwd63 hw)) (hwd2 hw) (ty := .int) (by decide) rfl rfl (g := (mkF m 19 #[.val (.ref a), .val (.ref q), .val (.ref b), .val (.int (5 : Int32))] [(.int (6 : Int32)), (.ref a)])) rfl rfl (hb hby d13_19)
  have N6 := Fr.snoc X6 N3 g_a
  have Fw6 := f5_F_a_size.same W6
  have kp7 : Keep h0 h6 [a, b] := (((Keep.refl h0 [a, b]).wr W3 (Or.inl (List.mem_of_getElem? (i := 1) rfl))).wr W6 (Or.inl (List.mem_of_getElem? (i := 0) rfl)))
  have f8_E_a := (f4_E_a.wr W6)
  have f9_F_a_elementData := ((F_elementData_a.other W3 (Or.inl ne_a_b)).other W6 (Or.inr (slot_ne (Or.inl (hwd26 hw)) (Or.inl (hwd63 hw)) (by decide) (t := (.array (.object "java/lang/Object"))) (t' := .int) (by decide) (by decide))))
  have f10_F_a_modCount := ((F_modCount_a.other W3 (Or.inl ne_a_b)).other W6 (Or.inr (slot_ne (Or.inl (hwd23 hw)) (Or.inl (hwd63 hw)) (by decide) (t := .int) (t' := .int) (by decide) (by decide))))
  have f11_V_b := (Vw3.other W6 (Ne.symm ne_a_b))
  obtain ⟨fs, hr, hrun, hended, hW, hsame⟩ := X6.leave (v := none) (fun _ => rfl)
  refine ⟨_, _, pre0 _ ?_, hrun, hended, _, _, rfl, ?_, ⟨_, rfl⟩, hW, hsame.mono (by decide) (by decide)⟩
  · show Steps p.tables e below (s₁.setTop (mkF m 0 #[.val (.ref a), .val (.ref q), .val (.ref b), .val (.int (5 : Int32))] [])) _
    refine XS.iloadN X0.here hx rfl (hb hby d13_0) rfl ?_
    refine XS.aloadN X0.here hx rfl (hb hby d13_1) rfl rfl ?_
    refine X0.arraylength hx (by rw [e0]; exact Ar1.1) (State.isArrayOf_alike hZ.alike Ar1.2.1) (g := (mkF m 2 #[.val (.ref a), .val (.ref q), .val (.ref b), .val (.int (5 : Int32))] [(.ref b), (.int (5 : Int32))])) rfl rfl (hb hby d13_2) _ ?_
    rw [len_of S1 M1]
    refine XS.icmpYes X0.here hx rfl (pc0 := 3) (pc' := 11) rfl (hb hby d13_3) rfl (feq (show ¬ ((5 : Int32) = (10 : Int32)) from (by decide))).2 (by decide) (by decide) ?_
    refine XS.aloadN X0.here hx rfl (hb hby d13_11) rfl rfl ?_
    refine XS.iloadN X0.here hx rfl (hb hby d13_12) rfl ?_
    show Steps p.tables e below (s₁.setTop (mkF m 13 #[.val (.ref a), .val (.ref q), .val (.ref b), .val (.int (5 : Int32))] [(.int (5 : Int32)), (.ref b)])) _
    refine XS.aloadN X0.here hx rfl (hb hby d13_13) rfl rfl ?_
    refine st3 _ ?_
    refine XS.aloadN X3.here hx rfl (hb hby d13_15) rfl rfl ?_
    refine XS.iloadN X3.here hx rfl (hb hby d13_16) rfl ?_
    refine XS.iconst X3.here hx rfl (hb hby d13_17) ?_
    refine XS.iadd X3.here hx rfl (hb hby d13_18) rfl ?_
    show Steps p.tables e below (T3.setTop (mkF m 19 #[.val (.ref a), .val (.ref q), .val (.ref b), .val (.int (5 : Int32))] [(.int ((5 : Int32) + (1 : Int32))), (.ref a)])) _
    rw [show (((5 : Int32) + (1 : Int32)) : Int32) = (6 : Int32) from by decide]
    refine st6 _ ?_
    exact X6.returnOut hx Bd.returns (hb hby d13_22) hr
  · show Qa3_5 Z a q b kb h0 n0 _ T6.heap _
    rw [e6]
    exact ⟨rfl, N6, kp7, f8_E_a, Fw6, f9_F_a_elementData, f10_F_a_modCount, f11_V_b⟩
def Qa1_5 (Z : State) (a : Addr) (q : Addr) (b : Addr) (kb : ClassId) (h0 : Heap) (n0 : Nat) (v : Option Value) (h : Heap) (L : List Loc) : Prop := v = some (.int (1 : Int32)) ∧ Fr n0 L ∧ Keep h0 h [a, b] ∧ Exa Z h a "java/util/ArrayList" ∧ Fld Z h a "java/util/ArrayList" "size" "I" (.int (6 : Int32)) ∧ Fld Z h a "java/util/ArrayList" "elementData" "[Ljava/lang/Object;" (.ref b) ∧ Fld Z h a "java/util/AbstractList" "modCount" "I" (.int (6 : Int32)) ∧ Arv Z h b kb (.object "java/lang/Object") (10 : Int32) [(.ref q), (.ref q), (.ref q), (.ref q), (.ref q), (.ref q), .null, .null, .null, .null] .null
set_option maxRecDepth 65536 in
set_option maxHeartbeats 40000000 in
abbrev Rm_a1_5 : Room := { frames := 1, cells := 0, slots := 0, locals := 15 }
theorem a1_5 (l : Launch) (Z : State) (a0 : Array Value) (hw : ∀ d ∈ tables_1, d.before a0 Z = true) (ws : List Jvm.Cond) (a : Addr) (q : Addr) (b : Addr) (kb : ClassId) (h0 : Heap) (n0 : Nat) (Z0 : n0 ≤ h0.size) (E_a : Exa Z h0 a "java/util/ArrayList") (F_size_a : Fld Z h0 a "java/util/ArrayList" "size" "I" (.int (5 : Int32))) (F_elementData_a : Fld Z h0 a "java/util/ArrayList" "elementData" "[Ljava/lang/Object;" (.ref b)) (F_modCount_a : Fld Z h0 a "java/util/AbstractList" "modCount" "I" (.int (5 : Int32))) (V_b : Arv Z h0 b kb (.object "java/lang/Object") (10 : Int32) [(.ref q), (.ref q), (.ref q), (.ref q), (.ref q), .null, .null, .null, .null, .null] .null) (O_b : Ovr Z kb "java/lang/Object") (g_a : n0 ≤ a) (g_b : n0 ≤ b) (ne_a_b : a ≠ b) (E_q : Exa Z h0 q "com/example/gleipnir/gleipnir/service/Counterplay$Position") :
    MetFree l my16 (head1 (Jvm.Cond.code my16 jdk_38_method_25_code 2 (some .boolean) :: ws) Rm_a1_5) (fun aa_ U => aa_ = #[(.ref a), (.ref q)] ∧ Z.Warmed39 U.vm ∧ U.heap = h0) (fun _ _ _ _ _ => True) (fun _ U oo_ U' => ∃ v L, oo_ = .returned v ∧ Qa1_5 Z a q b kb h0 n0 v U'.heap L ∧ FrameEnd U oo_ U' L Rm_a1_5.cells Rm_a1_5.slots) := by
  refine MetFree.of_bodySF (plainFor_of_name pn_5) hisR ?_
  intro p e s m args below meth c s₁ Bd hml0 hP hK
  obtain ⟨rfl, hZ, hh⟩ := hP
  have hx := Bd.exec
  have hby := Bd.bytes
  have hml : c.maxLocals = 2 := hml0
  have hown : s.vm.findClass "java/util/ArrayList" = some m.cls := findClass_of_methodNamed Bd.named
  have hnm := (name_of_methodNamed Bd.named Bd.method).1
  have X0 : Stand p l e Rm_a1_5 s m #[(.ref a), (.ref q)] below meth c s₁ [] 0 0 := Stand.of_body Bd
  have e0 : s₁.heap = h0 := by rw [← hh, Bd.state]; rfl
  have N0 := Fr.nil n0
  have pre0 : ∀ tt_, Steps p.tables e below (s₁.setTop (mkF m 0 #[.val (.ref a), .val (.ref q)] [])) tt_ → Steps p.tables e below (s₁.setTop (entryFrame m #[(.ref a), (.ref q)] 2)) tt_ := fun tt_ kk_ => castTop (ef_12 m a q) kk_
  obtain ⟨T1, X1, e1, st1⟩ := getF X0 hx hZ hown (host := "") (Or.inl (hwd81 hw)) (Via.of (hwd82 hw)) e0 F_modCount_a (g := (mkF m 2 #[.val (.ref a), .val (.ref q)] [(.ref a), (.ref a)])) rfl rfl (hb hby d12_2)
  obtain ⟨T2, h2, X2, e2, W2, st2⟩ := putF X1 hx hZ hown (host := "") (Or.inl (hwd81 hw)) (Via.of (hwd82 hw)) e1 F_modCount_a E_a (Or.inl (hwd23 hw)) (hwd2 hw) (ty := .int) (by decide) rfl rfl (g := (mkF m 7 #[.val (.ref a), .val (.ref q)] [(.int (6 : Int32)), (.ref a)])) rfl rfl (hb hby d12_7)
  have N2 := Fr.snoc X2 N0 g_a
  have Fw2 := F_modCount_a.same W2
  have f3_F_a_elementData := (F_elementData_a.other W2 (Or.inr (slot_ne (Or.inl (hwd26 hw)) (Or.inl (hwd23 hw)) (by decide) (t := (.array (.object "java/lang/Object"))) (t' := .int) (by decide) (by decide))))
  obtain ⟨T4, X4, e4, st4⟩ := getF X2 hx hZ hown (host := "") (Or.inl (hwd25 hw)) Via.refl e2 f3_F_a_elementData (g := (mkF m 13 #[.val (.ref a), .val (.ref q)] [(.ref a), (.ref q), (.ref a)])) rfl rfl (hb hby d12_13)
  have f5_F_a_size := (F_size_a.other W2 (Or.inr (slot_ne (Or.inl (hwd63 hw)) (Or.inl (hwd23 hw)) (by decide) (t := .int) (t' := .int) (by decide) (by decide))))
  obtain ⟨T6, X6, e6, st6⟩ := getF X4 hx hZ hown (host := "") (Or.inl (hwd62 hw)) Via.refl e4 f5_F_a_size (g := (mkF m 17 #[.val (.ref a), .val (.ref q)] [(.ref a), (.ref b), (.ref q), (.ref a)])) rfl rfl (hb hby d12_17)
  have f8_E_a := (E_a.wr W2)
  have f9_V_b := (V_b.other W2 (Ne.symm ne_a_b))
  have f10_E_q := (E_q.wr W2)
  have sz11 : n0 ≤ h2.size := (Nat.le_trans Z0 (Keep.of_wr W2).1)
  obtain ⟨cq7, q7, q7'⟩ := f8_E_a.cell
  obtain ⟨_, _, ⟨T7, L7, k7, n7⟩, -, X7, ⟨Lc7, hQ7, l7, y7, z7⟩, st7⟩ := X6.privateBack hx (y := my15) hown (mvT hZ (hwd83 hw)) (mvT hZ (hwd84 hw)) (mvT hZ (hwd86 hw)) (Cond.privateMethod_at (mvP hZ (hwd85 hw) (args := #[]))) (mvT hZ (hwd87 hw)) (by decide) (backOf (W := 0) (a3_5 l Z a0 hw [] a q b kb h2 n0 sz11 f8_E_a f5_F_a_size f3_F_a_elementData Fw2 f9_V_b O_b g_a g_b ne_a_b f10_E_q) hZ (hwd87 hw) (hwd3 hw) (by decide) (by decide)) (g := (mkF m 20 #[.val (.ref a), .val (.ref q)] [(.int (5 : Int32)), (.ref b), (.ref q), (.ref a)])) rfl (by rw [hml]; rfl) (Steps.refl _) (a := a) (by rw [e6]; exact q7) q7' (argsL := [(.ref q), (.ref b), (.int (5 : Int32))]) (rest := []) (lenOf pd_7 rfl) rfl (by show 2 * 0 + _ ≤ _; exact Nat.le_of_eq rfl) (hb hby d12_20) (fun _ _ => ⟨rfl, e6, (by decide : 0 + 0 ≤ _), (by decide : 0 + 0 ≤ _)⟩)
  dsimp only [Pt.U, Pt.locs, Pt.cells, Pt.slots] at X7 l7 y7 z7 st7 hQ7
  subst l7 y7 z7
  obtain ⟨rfl, N7q, K7, p7_1, p7_2, p7_3, p7_4, p7_5⟩ := hQ7
  have N7 := Fr.app N2 N7q
  have kp12 : Keep h0 T7.heap [a, b] := (((Keep.refl h0 [a, b]).wr W2 (Or.inl (List.mem_of_getElem? (i := 0) rfl))).trans K7 (allS (Or.inl (List.mem_of_getElem? (i := 0) rfl)) (allS (Or.inl (List.mem_of_getElem? (i := 1) rfl)) all0)))
  obtain ⟨fs, hr, hrun, hended, hW, hsame⟩ := X7.leave (v := some (.int (1 : Int32))) (fun h => by rw [Bd.returns] at h; cases h)
  refine ⟨_, _, pre0 _ ?_, hrun, hended, _, _, rfl, ?_, ⟨_, rfl⟩, hW, hsame.mono (by decide) (by decide)⟩
  · show Steps p.tables e below (s₁.setTop (mkF m 0 #[.val (.ref a), .val (.ref q)] [])) _
    refine XS.aloadN X0.here hx rfl (hb hby d12_0) rfl rfl ?_
    refine XS.dup X0.here hx rfl (hb hby d12_1) rfl rfl ?_
    refine st1 _ ?_
    refine XS.iconst X1.here hx rfl (hb hby d12_5) ?_
    refine XS.iadd X1.here hx rfl (hb hby d12_6) rfl ?_
    show Steps p.tables e below (T1.setTop (mkF m 7 #[.val (.ref a), .val (.ref q)] [(.int ((5 : Int32) + (1 : Int32))), (.ref a)])) _
    rw [show (((5 : Int32) + (1 : Int32)) : Int32) = (6 : Int32) from by decide]
    refine st2 _ ?_
    refine XS.aloadN X2.here hx rfl (hb hby d12_10) rfl rfl ?_
    refine XS.aloadN X2.here hx rfl (hb hby d12_11) rfl rfl ?_
    refine XS.aloadN X2.here hx rfl (hb hby d12_12) rfl rfl ?_
    refine st4 _ ?_
    show Steps p.tables e below (T4.setTop (mkF m 16 #[.val (.ref a), .val (.ref q)] [(.ref b), (.ref q), (.ref a)])) _
    refine XS.aloadN X4.here hx rfl (hb hby d12_16) rfl rfl ?_
    refine st6 _ ?_
    refine st7.trans ?_
    refine XS.iconst X7.here hx rfl (hb hby d12_23) ?_
    exact retN X7 hx (t := .boolean) Bd.returns (by simp) (hb hby d12_24) hr
  · show Qa1_5 Z a q b kb h0 n0 _ T7.heap _
    exact ⟨rfl, N7, kp12, p7_1, p7_2, p7_3, p7_4, p7_5⟩
abbrev HN (n : Nat) (z : Int32) : Prop := (n = 1 ∧ z = 1) ∨ (n = 2 ∧ z = 2) ∨ (n = 3 ∧ z = 3) ∨ (n = 4 ∧ z = 4) ∨ (n = 5 ∧ z = 5) ∨ (n = 6 ∧ z = 6)
theorem own_z0 {n : Nat} {z : Int32} (h : HN n z) : ¬ (z = (0 : Int32)) := by rcases h with ⟨rfl, rfl⟩ | ⟨rfl, rfl⟩ | ⟨rfl, rfl⟩ | ⟨rfl, rfl⟩ | ⟨rfl, rfl⟩ | ⟨rfl, rfl⟩ <;> decide
theorem own_hn6 {z : Int32} (h : z = 1 ∨ z = 2 ∨ z = 3 ∨ z = 4 ∨ z = 5 ∨ z = 6) : ∃ n, HN n z := by rcases h with rfl | rfl | rfl | rfl | rfl | rfl <;> simp [HN]
def vm (q : Addr) (n : Nat) : List Value := List.replicate n (.ref q)
def vl (q : Addr) (n : Nat) : List Value := List.replicate n (.ref q) ++ List.replicate (10 - n) .null
def Lg (Z : State) (h : Heap) (g : Nat) (z : Int32) (q em lst : Addr) : Prop := g ≤ lst ∧ ((z = 1 ∧ Exa Z h lst "java/util/ImmutableCollections$List12" ∧ Fld Z h lst "java/util/ImmutableCollections$List12" "e1" "Ljava/lang/Object;" (.ref em)) ∨ (z = 2 ∧ Exa Z h lst "java/util/ImmutableCollections$List12" ∧ Fld Z h lst "java/util/ImmutableCollections$List12" "e1" "Ljava/lang/Object;" (.ref q)) ∨ ∃ (tt : Addr) (ktt : ClassId) (vs : List Value), g ≤ tt ∧ Exa Z h lst "java/util/ImmutableCollections$ListN" ∧ Fld Z h lst "java/util/ImmutableCollections$ListN" "elements" "[Ljava/lang/Object;" (.ref tt) ∧ Arv Z h tt ktt (.object "java/lang/Object") z vs .null)
theorem Lg.le {Z : State} {h : Heap} {g g' : Nat} {z : Int32} {q em lst : Addr} (A : Lg Z h g z q em lst) (k : g' ≤ g) : Lg Z h g' z q em lst := by
  obtain ⟨a, b | b | ⟨tt, ktt, vs, c, d⟩⟩ := A
  · exact ⟨Nat.le_trans k a, Or.inl b⟩
  · exact ⟨Nat.le_trans k a, Or.inr (Or.inl b)⟩
  · exact ⟨Nat.le_trans k a, Or.inr (Or.inr ⟨tt, ktt, vs, Nat.le_trans k c, d⟩)⟩
theorem Lg.wr {Z : State} {h h' : Heap} {g : Nat} {z : Int32} {q em lst w : Addr} {sl : Nat} {v : Value} (A : Lg Z h g z q em lst) (W : Wr h h' w sl v) (k : w < g) : Lg Z h' g z q em lst := by
  have ne : ∀ {y : Addr}, g ≤ y → y ≠ w := fun hy => Ne.symm (Nat.ne_of_lt (Nat.lt_of_lt_of_le k hy))
  obtain ⟨a, ⟨b1, b2, b3⟩ | ⟨b1, b2, b3⟩ | ⟨tt, ktt, vs, c, d1, d2, d3⟩⟩ := A
  · exact ⟨a, Or.inl ⟨b1, b2.wr W, b3.other W (Or.inl (ne a))⟩⟩
  · exact ⟨a, Or.inr (Or.inl ⟨b1, b2.wr W, b3.other W (Or.inl (ne a))⟩)⟩
  · exact ⟨a, Or.inr (Or.inr ⟨tt, ktt, vs, c, d1.wr W, d2.other W (Or.inl (ne a)), d3.other W (ne c)⟩)⟩
theorem hwd76 {Z : State} {a0 : Array Value} (hw : ∀ d ∈ tables_1, d.before a0 Z = true) : (Jvm.Cond.methodLink "com/example/gleipnir/gleipnir/service/CounterplayFinitePinLaw" (39 : Nat) ({ cls := "java/util/ArrayList", name := "add", desc := "(Ljava/lang/Object;)Z" } : Jvm.MethodName)).before a0 Z = true := hw _ (List.mem_of_getElem? (i := 76) rfl)
theorem hwd80 {Z : State} {a0 : Array Value} (hw : ∀ d ∈ tables_1, d.before a0 Z = true) : (Jvm.Cond.code ({ cls := "java/util/ArrayList", name := "add", desc := "(Ljava/lang/Object;)Z" } : Jvm.MethodName) jdk_38_method_25_code (2 : Nat) (Option.some Jvm.ClassFile.FieldType.boolean)).before a0 Z = true := hw _ (List.mem_of_getElem? (i := 80) rfl)
theorem pd_8 : parseMethodDescriptor "(Ljava/lang/Object;)Z" = some ⟨[(.object "java/lang/Object")], some .boolean⟩ := by decide +kernel
theorem hwd79 {Z : State} {a0 : Array Value} (hw : ∀ d ∈ tables_1, d.before a0 Z = true) : (Jvm.Cond.selects "java/util/ArrayList" ({ cls := "java/util/ArrayList", name := "add", desc := "(Ljava/lang/Object;)Z" } : Jvm.MethodName) ({ cls := "java/util/ArrayList", name := "add", desc := "(Ljava/lang/Object;)Z" } : Jvm.MethodName)).before a0 Z = true := hw _ (List.mem_of_getElem? (i := 79) rfl)
theorem hwd77 {Z : State} {a0 : Array Value} (hw : ∀ d ∈ tables_1, d.before a0 Z = true) : (Jvm.Cond.declares ({ cls := "java/util/ArrayList", name := "add", desc := "(Ljava/lang/Object;)Z" } : Jvm.MethodName)).before a0 Z = true := hw _ (List.mem_of_getElem? (i := 77) rfl)
theorem hwd78 {Z : State} {a0 : Array Value} (hw : ∀ d ∈ tables_1, d.before a0 Z = true) : (Jvm.Cond.instanceMethod ({ cls := "java/util/ArrayList", name := "add", desc := "(Ljava/lang/Object;)Z" } : Jvm.MethodName)).before a0 Z = true := hw _ (List.mem_of_getElem? (i := 78) rfl)
theorem d11_0 : decode method_3_code 0 = .ok (.iload_n 2, 1) := by decide +kernel
theorem d11_1 : decode method_3_code 1 = .ok (.ifCond .le 9, 3) := by decide +kernel
theorem d11_4 : decode method_3_code 4 = .ok (.aload_n 0, 1) := by decide +kernel
theorem d11_5 : decode method_3_code 5 = .ok (.aload_n 1, 1) := by decide +kernel
theorem d11_6 : decode method_3_code 6 = .ok (.invokevirtual 39, 3) := by decide +kernel
theorem d11_9 : decode method_3_code 9 = .ok (.pop, 1) := by decide +kernel
theorem d11_10 : decode method_3_code 10 = .ok (.iload_n 2, 1) := by decide +kernel
theorem d11_11 : decode method_3_code 11 = .ok (.iconst 1, 1) := by decide +kernel
theorem d11_12 : decode method_3_code 12 = .ok (.if_icmp .le 9, 3) := by decide +kernel
theorem d11_21 : decode method_3_code 21 = .ok (.iload_n 2, 1) := by decide +kernel
theorem d11_22 : decode method_3_code 22 = .ok (.iconst 2, 1) := by decide +kernel
theorem d11_23 : decode method_3_code 23 = .ok (.if_icmp .le 9, 3) := by decide +kernel
theorem d11_32 : decode method_3_code 32 = .ok (.iload_n 2, 1) := by decide +kernel
theorem d11_33 : decode method_3_code 33 = .ok (.iconst 3, 1) := by decide +kernel
theorem d11_34 : decode method_3_code 34 = .ok (.if_icmp .le 9, 3) := by decide +kernel
theorem d11_43 : decode method_3_code 43 = .ok (.iload_n 2, 1) := by decide +kernel
theorem d11_44 : decode method_3_code 44 = .ok (.iconst 4, 1) := by decide +kernel
theorem d11_45 : decode method_3_code 45 = .ok (.if_icmp .le 9, 3) := by decide +kernel
theorem d11_54 : decode method_3_code 54 = .ok (.iload_n 2, 1) := by decide +kernel
theorem d11_55 : decode method_3_code 55 = .ok (.iconst 5, 1) := by decide +kernel
theorem d11_56 : decode method_3_code 56 = .ok (.if_icmp .le 9, 3) := by decide +kernel
theorem d11_65 : decode method_3_code 65 = .ok (.return_, 1) := by decide +kernel
theorem pn_10 : plainName "com/example/gleipnir/gleipnir/service/CounterplayFinitePinLaw" = true := by first | (simp [plainName, overriddenIn]; done) | decide +kernel
theorem ef_11 (m : MethodId) (x0 : Addr) (x1 : Addr) (x2 : Int32) : entryFrame m #[(.ref x0), (.ref x1), (.int x2)] 3 = mkF m 0 #[.val (.ref x0), .val (.ref x1), .val (.int x2)] [] := by first | (simp [entryFrame, mkF, argsToLocals, Value.category]; done) | rfl
def Qfill_1 (Z : State) (a : Addr) (q : Addr) (dd : Addr) (h0 : Heap) (n0 : Nat) (v : Option Value) (h : Heap) (L : List Loc) : Prop := ∃ b : Addr, ∃ kb : ClassId, v = none ∧ Fr n0 L ∧ Keep h0 h [a] ∧ Exa Z h a "java/util/ArrayList" ∧ Fld Z h a "java/util/ArrayList" "size" "I" (.int (1 : Int32)) ∧ Fld Z h a "java/util/ArrayList" "elementData" "[Ljava/lang/Object;" (.ref b) ∧ Arv Z h b kb (.object "java/lang/Object") (10 : Int32) [(.ref q), .null, .null, .null, .null, .null, .null, .null, .null, .null] .null ∧ Exa Z h b "[Ljava/lang/Object;" ∧ Ovr Z kb "java/lang/Object" ∧ n0 ≤ b ∧ a ≠ b ∧ h0.size ≤ b
set_option maxRecDepth 65536 in
set_option maxHeartbeats 40000000 in
abbrev my17 : MethodName := ⟨"com/example/gleipnir/gleipnir/service/CounterplayFinitePinLaw", "fill", "(Ljava/util/ArrayList;Lcom/example/gleipnir/gleipnir/service/Counterplay$Position;I)V"⟩
abbrev Rm_fill_1 : Room := { frames := 5, cells := 1, slots := 10, locals := 69 }
theorem fill_1 (l : Launch) (Z : State) (a0 : Array Value) (hw : ∀ d ∈ tables_1, d.before a0 Z = true) (ws : List Jvm.Cond) (a : Addr) (q : Addr) (dd : Addr) (h0 : Heap) (n0 : Nat) (Z0 : n0 ≤ h0.size) (E_a : Exa Z h0 a "java/util/ArrayList") (F_size_a : Fld Z h0 a "java/util/ArrayList" "size" "I" (.int (0 : Int32))) (F_elementData_a : Fld Z h0 a "java/util/ArrayList" "elementData" "[Ljava/lang/Object;" (.ref dd)) (F_modCount_a : Fld Z h0 a "java/util/AbstractList" "modCount" "I" (.int (0 : Int32))) (g_a : n0 ≤ a) (O_D : Sta Z Z.heap "java/util/ArrayList" "DEFAULTCAPACITY_EMPTY_ELEMENTDATA" "[Ljava/lang/Object;" (.ref dd)) (A_D : Av Z Z.heap dd (.object "java/lang/Object") 0 (fun _ => .null)) (X00 : Old Z n0 h0) (E_q : Exa Z h0 q "com/example/gleipnir/gleipnir/service/Counterplay$Position") :
    MetFree l my17 (head1 (Jvm.Cond.code my17 method_3_code 3 none :: ws) Rm_fill_1) (fun aa_ U => aa_ = #[(.ref a), (.ref q), (.int (1 : Int32))] ∧ Z.Warmed39 U.vm ∧ U.heap = h0) (fun _ _ _ _ _ => True) (fun _ U oo_ U' => ∃ v L, oo_ = .returned v ∧ Qfill_1 Z a q dd h0 n0 v U'.heap L ∧ FrameEnd U oo_ U' L Rm_fill_1.cells Rm_fill_1.slots) := by
  refine MetFree.of_bodySF (plainFor_of_name pn_10) hisR ?_
  intro p e s m args below meth c s₁ Bd hml0 hP hK
  obtain ⟨rfl, hZ, hh⟩ := hP
  have hx := Bd.exec
  have hby := Bd.bytes
  have hml : c.maxLocals = 3 := hml0
  have hown : s.vm.findClass "com/example/gleipnir/gleipnir/service/CounterplayFinitePinLaw" = some m.cls := findClass_of_methodNamed Bd.named
  have hnm := (name_of_methodNamed Bd.named Bd.method).1
  have X0 : Stand p l e Rm_fill_1 s m #[(.ref a), (.ref q), (.int (1 : Int32))] below meth c s₁ [] 0 0 := Stand.of_body Bd
  have e0 : s₁.heap = h0 := by rw [← hh, Bd.state]; rfl
  have N0 := Fr.nil n0
  have pre0 : ∀ tt_, Steps p.tables e below (s₁.setTop (mkF m 0 #[.val (.ref a), .val (.ref q), .val (.int (1 : Int32))] [])) tt_ → Steps p.tables e below (s₁.setTop (entryFrame m #[(.ref a), (.ref q), (.int (1 : Int32))] 3)) tt_ := fun tt_ kk_ => castTop (ef_11 m a q (1 : Int32)) kk_
  obtain ⟨cq1, kq1, q1a, q1b, q1c⟩ := isOf hZ e0 E_a
  obtain ⟨_, _, ⟨T1, L1, k1, n1⟩, -, X1, ⟨Lc1, hQ1, l1, y1, z1⟩, st1⟩ := X0.virtualBack hx (y := my16) (z := my16) hown (mvT hZ (hwd76 hw)) (mvT hZ (hwd77 hw)) (notFace_of_selects (args := #[]) (mvT hZ (hwd79 hw))) (mvT hZ (hwd79 hw)) (mvT hZ (hwd78 hw)) (by decide) (backOf (W := 0) (a1_0 l Z a0 hw [] a q dd h0 n0 Z0 E_a F_size_a F_elementData_a F_modCount_a g_a O_D A_D X00 E_q) hZ (hwd80 hw) (hwd3 hw) (by decide) (by decide)) q1a q1c (g := (mkF m 6 #[.val (.ref a), .val (.ref q), .val (.int (1 : Int32))] [(.ref q), (.ref a)])) rfl (by rw [hml]; rfl) (Steps.refl _) (argsL := [(.ref q)]) (rest := []) (lenOf pd_8 rfl) rfl (by show 2 * 0 + _ ≤ _; exact Nat.le_of_eq rfl) (hb hby d11_6) (fun _ _ => ⟨rfl, e0, (by decide : 0 + 1 ≤ _), (by decide : 0 + 10 ≤ _)⟩)
  dsimp only [Pt.U, Pt.locs, Pt.cells, Pt.slots] at X1 l1 y1 z1 st1 hQ1
  subst l1 y1 z1
  obtain ⟨b_e1, kb_e1, rfl, N1q, K1, p1_1, p1_2, p1_3, p1_4, p1_5, p1_6, O_b_1, g_b_1, ne_a_b_1, sz_b_1⟩ := hQ1
  have N1 := Fr.app N0 N1q
  have kp2 : Keep h0 T1.heap [a] := ((Keep.refl h0 [a]).trans K1 (allS (Or.inl (List.mem_of_getElem? (i := 0) rfl)) all0))
  obtain ⟨fs, hr, hrun, hended, hW, hsame⟩ := X1.leave (v := none) (fun _ => rfl)
  refine ⟨_, _, pre0 _ ?_, hrun, hended, _, _, rfl, ?_, ⟨_, rfl⟩, hW, hsame.mono (by decide) (by decide)⟩
  · show Steps p.tables e below (s₁.setTop (mkF m 0 #[.val (.ref a), .val (.ref q), .val (.int (1 : Int32))] [])) _
    refine XS.iloadN X0.here hx rfl (hb hby d11_0) rfl ?_
    refine XS.ifNo X0.here hx rfl (hb hby d11_1) rfl ((if0 _ _).trans (tlt (show (0 : Int32) < (1 : Int32) from (by decide))).2.2.2) ?_
    refine XS.aloadN X0.here hx rfl (hb hby d11_4) rfl rfl ?_
    refine XS.aloadN X0.here hx rfl (hb hby d11_5) rfl rfl ?_
    refine st1.trans ?_
    refine XS.pop X1.here hx rfl (hb hby d11_9) rfl rfl ?_
    show Steps p.tables e below (T1.setTop (mkF m 10 #[.val (.ref a), .val (.ref q), .val (.int (1 : Int32))] [])) _
    refine XS.iloadN X1.here hx rfl (hb hby d11_10) rfl ?_
    refine XS.iconst X1.here hx rfl (hb hby d11_11) ?_
    refine XS.icmpYes X1.here hx rfl (pc0 := 12) (pc' := 21) rfl (hb hby d11_12) rfl (flt (show ¬ ((1 : Int32) < (1 : Int32)) from (by decide))).2.2.2 (by decide) (by decide) ?_
    refine XS.iloadN X1.here hx rfl (hb hby d11_21) rfl ?_
    refine XS.iconst X1.here hx rfl (hb hby d11_22) ?_
    refine XS.icmpYes X1.here hx rfl (pc0 := 23) (pc' := 32) rfl (hb hby d11_23) rfl (flt (show ¬ ((2 : Int32) < (1 : Int32)) from (by decide))).2.2.2 (by decide) (by decide) ?_
    show Steps p.tables e below (T1.setTop (mkF m 32 #[.val (.ref a), .val (.ref q), .val (.int (1 : Int32))] [])) _
    refine XS.iloadN X1.here hx rfl (hb hby d11_32) rfl ?_
    refine XS.iconst X1.here hx rfl (hb hby d11_33) ?_
    refine XS.icmpYes X1.here hx rfl (pc0 := 34) (pc' := 43) rfl (hb hby d11_34) rfl (flt (show ¬ ((3 : Int32) < (1 : Int32)) from (by decide))).2.2.2 (by decide) (by decide) ?_
    refine XS.iloadN X1.here hx rfl (hb hby d11_43) rfl ?_
    refine XS.iconst X1.here hx rfl (hb hby d11_44) ?_
    refine XS.icmpYes X1.here hx rfl (pc0 := 45) (pc' := 54) rfl (hb hby d11_45) rfl (flt (show ¬ ((4 : Int32) < (1 : Int32)) from (by decide))).2.2.2 (by decide) (by decide) ?_
    show Steps p.tables e below (T1.setTop (mkF m 54 #[.val (.ref a), .val (.ref q), .val (.int (1 : Int32))] [])) _
    refine XS.iloadN X1.here hx rfl (hb hby d11_54) rfl ?_
    refine XS.iconst X1.here hx rfl (hb hby d11_55) ?_
    refine XS.icmpYes X1.here hx rfl (pc0 := 56) (pc' := 65) rfl (hb hby d11_56) rfl (flt (show ¬ ((5 : Int32) < (1 : Int32)) from (by decide))).2.2.2 (by decide) (by decide) ?_
    exact X1.returnOut hx Bd.returns (hb hby d11_65) hr
  · show Qfill_1 Z a q dd h0 n0 _ T1.heap _
    exact ⟨b_e1, kb_e1, rfl, N1, kp2, p1_1, p1_2, p1_3, p1_5, p1_6, O_b_1, g_b_1, ne_a_b_1, (Nat.le_trans (Keep.refl h0 [a]).1 sz_b_1)⟩
theorem d11_15 : decode method_3_code 15 = .ok (.aload_n 0, 1) := by decide +kernel
theorem d11_16 : decode method_3_code 16 = .ok (.aload_n 1, 1) := by decide +kernel
theorem d11_17 : decode method_3_code 17 = .ok (.invokevirtual 39, 3) := by decide +kernel
theorem d11_20 : decode method_3_code 20 = .ok (.pop, 1) := by decide +kernel
def Qfill_2 (Z : State) (a : Addr) (q : Addr) (dd : Addr) (h0 : Heap) (n0 : Nat) (v : Option Value) (h : Heap) (L : List Loc) : Prop := ∃ b : Addr, ∃ kb : ClassId, v = none ∧ Fr n0 L ∧ Keep h0 h [a] ∧ Exa Z h a "java/util/ArrayList" ∧ Fld Z h a "java/util/ArrayList" "size" "I" (.int (2 : Int32)) ∧ Fld Z h a "java/util/ArrayList" "elementData" "[Ljava/lang/Object;" (.ref b) ∧ Arv Z h b kb (.object "java/lang/Object") (10 : Int32) [(.ref q), (.ref q), .null, .null, .null, .null, .null, .null, .null, .null] .null ∧ Exa Z h b "[Ljava/lang/Object;" ∧ Ovr Z kb "java/lang/Object" ∧ n0 ≤ b ∧ a ≠ b ∧ h0.size ≤ b
set_option maxRecDepth 65536 in
set_option maxHeartbeats 40000000 in
abbrev Rm_fill_2 : Room := { frames := 5, cells := 1, slots := 10, locals := 69 }
theorem fill_2 (l : Launch) (Z : State) (a0 : Array Value) (hw : ∀ d ∈ tables_1, d.before a0 Z = true) (ws : List Jvm.Cond) (a : Addr) (q : Addr) (dd : Addr) (h0 : Heap) (n0 : Nat) (Z0 : n0 ≤ h0.size) (E_a : Exa Z h0 a "java/util/ArrayList") (F_size_a : Fld Z h0 a "java/util/ArrayList" "size" "I" (.int (0 : Int32))) (F_elementData_a : Fld Z h0 a "java/util/ArrayList" "elementData" "[Ljava/lang/Object;" (.ref dd)) (F_modCount_a : Fld Z h0 a "java/util/AbstractList" "modCount" "I" (.int (0 : Int32))) (g_a : n0 ≤ a) (O_D : Sta Z Z.heap "java/util/ArrayList" "DEFAULTCAPACITY_EMPTY_ELEMENTDATA" "[Ljava/lang/Object;" (.ref dd)) (A_D : Av Z Z.heap dd (.object "java/lang/Object") 0 (fun _ => .null)) (X00 : Old Z n0 h0) (E_q : Exa Z h0 q "com/example/gleipnir/gleipnir/service/Counterplay$Position") :
    MetFree l my17 (head1 (Jvm.Cond.code my17 method_3_code 3 none :: ws) Rm_fill_2) (fun aa_ U => aa_ = #[(.ref a), (.ref q), (.int (2 : Int32))] ∧ Z.Warmed39 U.vm ∧ U.heap = h0) (fun _ _ _ _ _ => True) (fun _ U oo_ U' => ∃ v L, oo_ = .returned v ∧ Qfill_2 Z a q dd h0 n0 v U'.heap L ∧ FrameEnd U oo_ U' L Rm_fill_2.cells Rm_fill_2.slots) := by
  refine MetFree.of_bodySF (plainFor_of_name pn_10) hisR ?_
  intro p e s m args below meth c s₁ Bd hml0 hP hK
  obtain ⟨rfl, hZ, hh⟩ := hP
  have hx := Bd.exec
  have hby := Bd.bytes
  have hml : c.maxLocals = 3 := hml0
  have hown : s.vm.findClass "com/example/gleipnir/gleipnir/service/CounterplayFinitePinLaw" = some m.cls := findClass_of_methodNamed Bd.named
  have hnm := (name_of_methodNamed Bd.named Bd.method).1
  have X0 : Stand p l e Rm_fill_2 s m #[(.ref a), (.ref q), (.int (2 : Int32))] below meth c s₁ [] 0 0 := Stand.of_body Bd
  have e0 : s₁.heap = h0 := by rw [← hh, Bd.state]; rfl
  have N0 := Fr.nil n0
  have pre0 : ∀ tt_, Steps p.tables e below (s₁.setTop (mkF m 0 #[.val (.ref a), .val (.ref q), .val (.int (2 : Int32))] [])) tt_ → Steps p.tables e below (s₁.setTop (entryFrame m #[(.ref a), (.ref q), (.int (2 : Int32))] 3)) tt_ := fun tt_ kk_ => castTop (ef_11 m a q (2 : Int32)) kk_
  obtain ⟨cq1, kq1, q1a, q1b, q1c⟩ := isOf hZ e0 E_a
  obtain ⟨_, _, ⟨T1, L1, k1, n1⟩, -, X1, ⟨Lc1, hQ1, l1, y1, z1⟩, st1⟩ := X0.virtualBack hx (y := my16) (z := my16) hown (mvT hZ (hwd76 hw)) (mvT hZ (hwd77 hw)) (notFace_of_selects (args := #[]) (mvT hZ (hwd79 hw))) (mvT hZ (hwd79 hw)) (mvT hZ (hwd78 hw)) (by decide) (backOf (W := 0) (a1_0 l Z a0 hw [] a q dd h0 n0 Z0 E_a F_size_a F_elementData_a F_modCount_a g_a O_D A_D X00 E_q) hZ (hwd80 hw) (hwd3 hw) (by decide) (by decide)) q1a q1c (g := (mkF m 6 #[.val (.ref a), .val (.ref q), .val (.int (2 : Int32))] [(.ref q), (.ref a)])) rfl (by rw [hml]; rfl) (Steps.refl _) (argsL := [(.ref q)]) (rest := []) (lenOf pd_8 rfl) rfl (by show 2 * 0 + _ ≤ _; exact Nat.le_of_eq rfl) (hb hby d11_6) (fun _ _ => ⟨rfl, e0, (by decide : 0 + 1 ≤ _), (by decide : 0 + 10 ≤ _)⟩)
  dsimp only [Pt.U, Pt.locs, Pt.cells, Pt.slots] at X1 l1 y1 z1 st1 hQ1
  subst l1 y1 z1
  obtain ⟨b_e1, kb_e1, rfl, N1q, K1, p1_1, p1_2, p1_3, p1_4, p1_5, p1_6, O_b_1, g_b_1, ne_a_b_1, sz_b_1⟩ := hQ1
  have N1 := Fr.app N0 N1q
  have f3_E_q := (E_q.keep K1)
  have sz4 : n0 ≤ T1.heap.size := (Nat.le_trans Z0 K1.1)
  obtain ⟨cq2, kq2, q2a, q2b, q2c⟩ := isOf hZ rfl p1_1
  obtain ⟨_, _, ⟨T2, L2, k2, n2⟩, -, X2, ⟨Lc2, hQ2, l2, y2, z2⟩, st2⟩ := X1.virtualBack hx (y := my16) (z := my16) hown (mvT hZ (hwd76 hw)) (mvT hZ (hwd77 hw)) (notFace_of_selects (args := #[]) (mvT hZ (hwd79 hw))) (mvT hZ (hwd79 hw)) (mvT hZ (hwd78 hw)) (by decide) (backOf (W := 0) (a1_1 l Z a0 hw [] a q b_e1 kb_e1 (T1.heap) n0 sz4 p1_1 p1_2 p1_3 p1_4 p1_5 O_b_1 g_a g_b_1 ne_a_b_1 f3_E_q) hZ (hwd80 hw) (hwd3 hw) (by decide) (by decide)) q2a q2c (g := (mkF m 17 #[.val (.ref a), .val (.ref q), .val (.int (2 : Int32))] [(.ref q), (.ref a)])) rfl (by rw [hml]; rfl) (Steps.refl _) (argsL := [(.ref q)]) (rest := []) (lenOf pd_8 rfl) rfl (by show 2 * 0 + _ ≤ _; exact Nat.le_of_eq rfl) (hb hby d11_17) (fun _ _ => ⟨rfl, rfl, (by decide : 1 + 0 ≤ _), (by decide : 10 + 0 ≤ _)⟩)
  dsimp only [Pt.U, Pt.locs, Pt.cells, Pt.slots] at X2 l2 y2 z2 st2 hQ2
  subst l2 y2 z2
  obtain ⟨rfl, N2q, K2, p2_1, p2_2, p2_3, p2_4, p2_5⟩ := hQ2
  have N2 := Fr.app N1 N2q
  have kp5 : Keep h0 T2.heap [a] := (((Keep.refl h0 [a]).trans K1 (allS (Or.inl (List.mem_of_getElem? (i := 0) rfl)) all0)).trans K2 (allS (Or.inl (List.mem_of_getElem? (i := 0) rfl)) (allS (Or.inr (Nat.le_trans (Keep.refl h0 [a]).1 sz_b_1)) all0)))
  have f6_E_b_e1 := (p1_6.keep K2)
  obtain ⟨fs, hr, hrun, hended, hW, hsame⟩ := X2.leave (v := none) (fun _ => rfl)
  refine ⟨_, _, pre0 _ ?_, hrun, hended, _, _, rfl, ?_, ⟨_, rfl⟩, hW, hsame.mono (by decide) (by decide)⟩
  · show Steps p.tables e below (s₁.setTop (mkF m 0 #[.val (.ref a), .val (.ref q), .val (.int (2 : Int32))] [])) _
    refine XS.iloadN X0.here hx rfl (hb hby d11_0) rfl ?_
    refine XS.ifNo X0.here hx rfl (hb hby d11_1) rfl ((if0 _ _).trans (tlt (show (0 : Int32) < (2 : Int32) from (by decide))).2.2.2) ?_
    refine XS.aloadN X0.here hx rfl (hb hby d11_4) rfl rfl ?_
    refine XS.aloadN X0.here hx rfl (hb hby d11_5) rfl rfl ?_
    refine st1.trans ?_
    refine XS.pop X1.here hx rfl (hb hby d11_9) rfl rfl ?_
    show Steps p.tables e below (T1.setTop (mkF m 10 #[.val (.ref a), .val (.ref q), .val (.int (2 : Int32))] [])) _
    refine XS.iloadN X1.here hx rfl (hb hby d11_10) rfl ?_
    refine XS.iconst X1.here hx rfl (hb hby d11_11) ?_
    refine XS.icmpNo X1.here hx rfl (hb hby d11_12) rfl (tlt (show (1 : Int32) < (2 : Int32) from (by decide))).2.2.2 ?_
    refine XS.aloadN X1.here hx rfl (hb hby d11_15) rfl rfl ?_
    refine XS.aloadN X1.here hx rfl (hb hby d11_16) rfl rfl ?_
    refine st2.trans ?_
    show Steps p.tables e below (T2.setTop (mkF m 20 #[.val (.ref a), .val (.ref q), .val (.int (2 : Int32))] [(.int (1 : Int32))])) _
    refine XS.pop X2.here hx rfl (hb hby d11_20) rfl rfl ?_
    refine XS.iloadN X2.here hx rfl (hb hby d11_21) rfl ?_
    refine XS.iconst X2.here hx rfl (hb hby d11_22) ?_
    refine XS.icmpYes X2.here hx rfl (pc0 := 23) (pc' := 32) rfl (hb hby d11_23) rfl (flt (show ¬ ((2 : Int32) < (2 : Int32)) from (by decide))).2.2.2 (by decide) (by decide) ?_
    refine XS.iloadN X2.here hx rfl (hb hby d11_32) rfl ?_
    refine XS.iconst X2.here hx rfl (hb hby d11_33) ?_
    show Steps p.tables e below (T2.setTop (mkF m 34 #[.val (.ref a), .val (.ref q), .val (.int (2 : Int32))] [(.int (3 : Int32)), (.int (2 : Int32))])) _
    refine XS.icmpYes X2.here hx rfl (pc0 := 34) (pc' := 43) rfl (hb hby d11_34) rfl (flt (show ¬ ((3 : Int32) < (2 : Int32)) from (by decide))).2.2.2 (by decide) (by decide) ?_
    refine XS.iloadN X2.here hx rfl (hb hby d11_43) rfl ?_
    refine XS.iconst X2.here hx rfl (hb hby d11_44) ?_
    refine XS.icmpYes X2.here hx rfl (pc0 := 45) (pc' := 54) rfl (hb hby d11_45) rfl (flt (show ¬ ((4 : Int32) < (2 : Int32)) from (by decide))).2.2.2 (by decide) (by decide) ?_
    refine XS.iloadN X2.here hx rfl (hb hby d11_54) rfl ?_
    refine XS.iconst X2.here hx rfl (hb hby d11_55) ?_
    show Steps p.tables e below (T2.setTop (mkF m 56 #[.val (.ref a), .val (.ref q), .val (.int (2 : Int32))] [(.int (5 : Int32)), (.int (2 : Int32))])) _
    refine XS.icmpYes X2.here hx rfl (pc0 := 56) (pc' := 65) rfl (hb hby d11_56) rfl (flt (show ¬ ((5 : Int32) < (2 : Int32)) from (by decide))).2.2.2 (by decide) (by decide) ?_
    exact X2.returnOut hx Bd.returns (hb hby d11_65) hr
  · show Qfill_2 Z a q dd h0 n0 _ T2.heap _
    exact ⟨b_e1, kb_e1, rfl, N2, kp5, p2_1, p2_2, p2_3, p2_5, f6_E_b_e1, O_b_1, g_b_1, ne_a_b_1, (Nat.le_trans (Keep.refl h0 [a]).1 sz_b_1)⟩
theorem d11_26 : decode method_3_code 26 = .ok (.aload_n 0, 1) := by decide +kernel
theorem d11_27 : decode method_3_code 27 = .ok (.aload_n 1, 1) := by decide +kernel
theorem d11_28 : decode method_3_code 28 = .ok (.invokevirtual 39, 3) := by decide +kernel
theorem d11_31 : decode method_3_code 31 = .ok (.pop, 1) := by decide +kernel
def Qfill_3 (Z : State) (a : Addr) (q : Addr) (dd : Addr) (h0 : Heap) (n0 : Nat) (v : Option Value) (h : Heap) (L : List Loc) : Prop := ∃ b : Addr, ∃ kb : ClassId, v = none ∧ Fr n0 L ∧ Keep h0 h [a] ∧ Exa Z h a "java/util/ArrayList" ∧ Fld Z h a "java/util/ArrayList" "size" "I" (.int (3 : Int32)) ∧ Fld Z h a "java/util/ArrayList" "elementData" "[Ljava/lang/Object;" (.ref b) ∧ Arv Z h b kb (.object "java/lang/Object") (10 : Int32) [(.ref q), (.ref q), (.ref q), .null, .null, .null, .null, .null, .null, .null] .null ∧ Exa Z h b "[Ljava/lang/Object;" ∧ Ovr Z kb "java/lang/Object" ∧ n0 ≤ b ∧ a ≠ b ∧ h0.size ≤ b
set_option maxRecDepth 65536 in
set_option maxHeartbeats 40000000 in
abbrev Rm_fill_3 : Room := { frames := 5, cells := 1, slots := 10, locals := 69 }
theorem fill_3 (l : Launch) (Z : State) (a0 : Array Value) (hw : ∀ d ∈ tables_1, d.before a0 Z = true) (ws : List Jvm.Cond) (a : Addr) (q : Addr) (dd : Addr) (h0 : Heap) (n0 : Nat) (Z0 : n0 ≤ h0.size) (E_a : Exa Z h0 a "java/util/ArrayList") (F_size_a : Fld Z h0 a "java/util/ArrayList" "size" "I" (.int (0 : Int32))) (F_elementData_a : Fld Z h0 a "java/util/ArrayList" "elementData" "[Ljava/lang/Object;" (.ref dd)) (F_modCount_a : Fld Z h0 a "java/util/AbstractList" "modCount" "I" (.int (0 : Int32))) (g_a : n0 ≤ a) (O_D : Sta Z Z.heap "java/util/ArrayList" "DEFAULTCAPACITY_EMPTY_ELEMENTDATA" "[Ljava/lang/Object;" (.ref dd)) (A_D : Av Z Z.heap dd (.object "java/lang/Object") 0 (fun _ => .null)) (X00 : Old Z n0 h0) (E_q : Exa Z h0 q "com/example/gleipnir/gleipnir/service/Counterplay$Position") :
    MetFree l my17 (head1 (Jvm.Cond.code my17 method_3_code 3 none :: ws) Rm_fill_3) (fun aa_ U => aa_ = #[(.ref a), (.ref q), (.int (3 : Int32))] ∧ Z.Warmed39 U.vm ∧ U.heap = h0) (fun _ _ _ _ _ => True) (fun _ U oo_ U' => ∃ v L, oo_ = .returned v ∧ Qfill_3 Z a q dd h0 n0 v U'.heap L ∧ FrameEnd U oo_ U' L Rm_fill_3.cells Rm_fill_3.slots) := by
  refine MetFree.of_bodySF (plainFor_of_name pn_10) hisR ?_
  intro p e s m args below meth c s₁ Bd hml0 hP hK
  obtain ⟨rfl, hZ, hh⟩ := hP
  have hx := Bd.exec
  have hby := Bd.bytes
  have hml : c.maxLocals = 3 := hml0
  have hown : s.vm.findClass "com/example/gleipnir/gleipnir/service/CounterplayFinitePinLaw" = some m.cls := findClass_of_methodNamed Bd.named
  have hnm := (name_of_methodNamed Bd.named Bd.method).1
  have X0 : Stand p l e Rm_fill_3 s m #[(.ref a), (.ref q), (.int (3 : Int32))] below meth c s₁ [] 0 0 := Stand.of_body Bd
  have e0 : s₁.heap = h0 := by rw [← hh, Bd.state]; rfl
  have N0 := Fr.nil n0
  have pre0 : ∀ tt_, Steps p.tables e below (s₁.setTop (mkF m 0 #[.val (.ref a), .val (.ref q), .val (.int (3 : Int32))] [])) tt_ → Steps p.tables e below (s₁.setTop (entryFrame m #[(.ref a), (.ref q), (.int (3 : Int32))] 3)) tt_ := fun tt_ kk_ => castTop (ef_11 m a q (3 : Int32)) kk_
  obtain ⟨cq1, kq1, q1a, q1b, q1c⟩ := isOf hZ e0 E_a
  obtain ⟨_, _, ⟨T1, L1, k1, n1⟩, -, X1, ⟨Lc1, hQ1, l1, y1, z1⟩, st1⟩ := X0.virtualBack hx (y := my16) (z := my16) hown (mvT hZ (hwd76 hw)) (mvT hZ (hwd77 hw)) (notFace_of_selects (args := #[]) (mvT hZ (hwd79 hw))) (mvT hZ (hwd79 hw)) (mvT hZ (hwd78 hw)) (by decide) (backOf (W := 0) (a1_0 l Z a0 hw [] a q dd h0 n0 Z0 E_a F_size_a F_elementData_a F_modCount_a g_a O_D A_D X00 E_q) hZ (hwd80 hw) (hwd3 hw) (by decide) (by decide)) q1a q1c (g := (mkF m 6 #[.val (.ref a), .val (.ref q), .val (.int (3 : Int32))] [(.ref q), (.ref a)])) rfl (by rw [hml]; rfl) (Steps.refl _) (argsL := [(.ref q)]) (rest := []) (lenOf pd_8 rfl) rfl (by show 2 * 0 + _ ≤ _; exact Nat.le_of_eq rfl) (hb hby d11_6) (fun _ _ => ⟨rfl, e0, (by decide : 0 + 1 ≤ _), (by decide : 0 + 10 ≤ _)⟩)
  dsimp only [Pt.U, Pt.locs, Pt.cells, Pt.slots] at X1 l1 y1 z1 st1 hQ1
  subst l1 y1 z1
  obtain ⟨b_e1, kb_e1, rfl, N1q, K1, p1_1, p1_2, p1_3, p1_4, p1_5, p1_6, O_b_1, g_b_1, ne_a_b_1, sz_b_1⟩ := hQ1
  have N1 := Fr.app N0 N1q
  have f3_E_q := (E_q.keep K1)
  have sz4 : n0 ≤ T1.heap.size := (Nat.le_trans Z0 K1.1)
  obtain ⟨cq2, kq2, q2a, q2b, q2c⟩ := isOf hZ rfl p1_1
  obtain ⟨_, _, ⟨T2, L2, k2, n2⟩, -, X2, ⟨Lc2, hQ2, l2, y2, z2⟩, st2⟩ := X1.virtualBack hx (y := my16) (z := my16) hown (mvT hZ (hwd76 hw)) (mvT hZ (hwd77 hw)) (notFace_of_selects (args := #[]) (mvT hZ (hwd79 hw))) (mvT hZ (hwd79 hw)) (mvT hZ (hwd78 hw)) (by decide) (backOf (W := 0) (a1_1 l Z a0 hw [] a q b_e1 kb_e1 (T1.heap) n0 sz4 p1_1 p1_2 p1_3 p1_4 p1_5 O_b_1 g_a g_b_1 ne_a_b_1 f3_E_q) hZ (hwd80 hw) (hwd3 hw) (by decide) (by decide)) q2a q2c (g := (mkF m 17 #[.val (.ref a), .val (.ref q), .val (.int (3 : Int32))] [(.ref q), (.ref a)])) rfl (by rw [hml]; rfl) (Steps.refl _) (argsL := [(.ref q)]) (rest := []) (lenOf pd_8 rfl) rfl (by show 2 * 0 + _ ≤ _; exact Nat.le_of_eq rfl) (hb hby d11_17) (fun _ _ => ⟨rfl, rfl, (by decide : 1 + 0 ≤ _), (by decide : 10 + 0 ≤ _)⟩)
  dsimp only [Pt.U, Pt.locs, Pt.cells, Pt.slots] at X2 l2 y2 z2 st2 hQ2
  subst l2 y2 z2
  obtain ⟨rfl, N2q, K2, p2_1, p2_2, p2_3, p2_4, p2_5⟩ := hQ2
  have N2 := Fr.app N1 N2q
  have f6_E_q := (f3_E_q.keep K2)
  have sz7 : n0 ≤ T2.heap.size := (Nat.le_trans sz4 K2.1)
  obtain ⟨cq5, kq5, q5a, q5b, q5c⟩ := isOf hZ rfl p2_1
  obtain ⟨_, _, ⟨T5, L5, k5, n5⟩, -, X5, ⟨Lc5, hQ5, l5, y5, z5⟩, st5⟩ := X2.virtualBack hx (y := my16) (z := my16) hown (mvT hZ (hwd76 hw)) (mvT hZ (hwd77 hw)) (notFace_of_selects (args := #[]) (mvT hZ (hwd79 hw))) (mvT hZ (hwd79 hw)) (mvT hZ (hwd78 hw)) (by decide) (backOf (W := 0) (a1_2 l Z a0 hw [] a q b_e1 kb_e1 (T2.heap) n0 sz7 p2_1 p2_2 p2_3 p2_4 p2_5 O_b_1 g_a g_b_1 ne_a_b_1 f6_E_q) hZ (hwd80 hw) (hwd3 hw) (by decide) (by decide)) q5a q5c (g := (mkF m 28 #[.val (.ref a), .val (.ref q), .val (.int (3 : Int32))] [(.ref q), (.ref a)])) rfl (by rw [hml]; rfl) (Steps.refl _) (argsL := [(.ref q)]) (rest := []) (lenOf pd_8 rfl) rfl (by show 2 * 0 + _ ≤ _; exact Nat.le_of_eq rfl) (hb hby d11_28) (fun _ _ => ⟨rfl, rfl, (by decide : 1 + 0 ≤ _), (by decide : 10 + 0 ≤ _)⟩)
  dsimp only [Pt.U, Pt.locs, Pt.cells, Pt.slots] at X5 l5 y5 z5 st5 hQ5
  subst l5 y5 z5
  obtain ⟨rfl, N5q, K5, p5_1, p5_2, p5_3, p5_4, p5_5⟩ := hQ5
  have N5 := Fr.app N2 N5q
  have kp8 : Keep h0 T5.heap [a] := ((((Keep.refl h0 [a]).trans K1 (allS (Or.inl (List.mem_of_getElem? (i := 0) rfl)) all0)).trans K2 (allS (Or.inl (List.mem_of_getElem? (i := 0) rfl)) (allS (Or.inr (Nat.le_trans (Keep.refl h0 [a]).1 sz_b_1)) all0))).trans K5 (allS (Or.inl (List.mem_of_getElem? (i := 0) rfl)) (allS (Or.inr (Nat.le_trans (Keep.refl h0 [a]).1 sz_b_1)) all0)))
  have f9_E_b_e1 := ((p1_6.keep K2).keep K5)
  obtain ⟨fs, hr, hrun, hended, hW, hsame⟩ := X5.leave (v := none) (fun _ => rfl)
  refine ⟨_, _, pre0 _ ?_, hrun, hended, _, _, rfl, ?_, ⟨_, rfl⟩, hW, hsame.mono (by decide) (by decide)⟩
  · show Steps p.tables e below (s₁.setTop (mkF m 0 #[.val (.ref a), .val (.ref q), .val (.int (3 : Int32))] [])) _
    refine XS.iloadN X0.here hx rfl (hb hby d11_0) rfl ?_
    refine XS.ifNo X0.here hx rfl (hb hby d11_1) rfl ((if0 _ _).trans (tlt (show (0 : Int32) < (3 : Int32) from (by decide))).2.2.2) ?_
    refine XS.aloadN X0.here hx rfl (hb hby d11_4) rfl rfl ?_
    refine XS.aloadN X0.here hx rfl (hb hby d11_5) rfl rfl ?_
    refine st1.trans ?_
    refine XS.pop X1.here hx rfl (hb hby d11_9) rfl rfl ?_
    show Steps p.tables e below (T1.setTop (mkF m 10 #[.val (.ref a), .val (.ref q), .val (.int (3 : Int32))] [])) _
    refine XS.iloadN X1.here hx rfl (hb hby d11_10) rfl ?_
    refine XS.iconst X1.here hx rfl (hb hby d11_11) ?_
    refine XS.icmpNo X1.here hx rfl (hb hby d11_12) rfl (tlt (show (1 : Int32) < (3 : Int32) from (by decide))).2.2.2 ?_
    refine XS.aloadN X1.here hx rfl (hb hby d11_15) rfl rfl ?_
    refine XS.aloadN X1.here hx rfl (hb hby d11_16) rfl rfl ?_
    refine st2.trans ?_
    show Steps p.tables e below (T2.setTop (mkF m 20 #[.val (.ref a), .val (.ref q), .val (.int (3 : Int32))] [(.int (1 : Int32))])) _
    refine XS.pop X2.here hx rfl (hb hby d11_20) rfl rfl ?_
    refine XS.iloadN X2.here hx rfl (hb hby d11_21) rfl ?_
    refine XS.iconst X2.here hx rfl (hb hby d11_22) ?_
    refine XS.icmpNo X2.here hx rfl (hb hby d11_23) rfl (tlt (show (2 : Int32) < (3 : Int32) from (by decide))).2.2.2 ?_
    refine XS.aloadN X2.here hx rfl (hb hby d11_26) rfl rfl ?_
    refine XS.aloadN X2.here hx rfl (hb hby d11_27) rfl rfl ?_
    show Steps p.tables e below (T2.setTop (mkF m 28 #[.val (.ref a), .val (.ref q), .val (.int (3 : Int32))] [(.ref q), (.ref a)])) _
    refine st5.trans ?_
    refine XS.pop X5.here hx rfl (hb hby d11_31) rfl rfl ?_
    refine XS.iloadN X5.here hx rfl (hb hby d11_32) rfl ?_
    refine XS.iconst X5.here hx rfl (hb hby d11_33) ?_
    refine XS.icmpYes X5.here hx rfl (pc0 := 34) (pc' := 43) rfl (hb hby d11_34) rfl (flt (show ¬ ((3 : Int32) < (3 : Int32)) from (by decide))).2.2.2 (by decide) (by decide) ?_
    refine XS.iloadN X5.here hx rfl (hb hby d11_43) rfl ?_
    show Steps p.tables e below (T5.setTop (mkF m 44 #[.val (.ref a), .val (.ref q), .val (.int (3 : Int32))] [(.int (3 : Int32))])) _
    refine XS.iconst X5.here hx rfl (hb hby d11_44) ?_
    refine XS.icmpYes X5.here hx rfl (pc0 := 45) (pc' := 54) rfl (hb hby d11_45) rfl (flt (show ¬ ((4 : Int32) < (3 : Int32)) from (by decide))).2.2.2 (by decide) (by decide) ?_
    refine XS.iloadN X5.here hx rfl (hb hby d11_54) rfl ?_
    refine XS.iconst X5.here hx rfl (hb hby d11_55) ?_
    refine XS.icmpYes X5.here hx rfl (pc0 := 56) (pc' := 65) rfl (hb hby d11_56) rfl (flt (show ¬ ((5 : Int32) < (3 : Int32)) from (by decide))).2.2.2 (by decide) (by decide) ?_
    exact X5.returnOut hx Bd.returns (hb hby d11_65) hr
  · show Qfill_3 Z a q dd h0 n0 _ T5.heap _
    exact ⟨b_e1, kb_e1, rfl, N5, kp8, p5_1, p5_2, p5_3, p5_5, f9_E_b_e1, O_b_1, g_b_1, ne_a_b_1, (Nat.le_trans (Keep.refl h0 [a]).1 sz_b_1)⟩
theorem d11_37 : decode method_3_code 37 = .ok (.aload_n 0, 1) := by decide +kernel
theorem d11_38 : decode method_3_code 38 = .ok (.aload_n 1, 1) := by decide +kernel
theorem d11_39 : decode method_3_code 39 = .ok (.invokevirtual 39, 3) := by decide +kernel
theorem d11_42 : decode method_3_code 42 = .ok (.pop, 1) := by decide +kernel
def Qfill_4 (Z : State) (a : Addr) (q : Addr) (dd : Addr) (h0 : Heap) (n0 : Nat) (v : Option Value) (h : Heap) (L : List Loc) : Prop := ∃ b : Addr, ∃ kb : ClassId, v = none ∧ Fr n0 L ∧ Keep h0 h [a] ∧ Exa Z h a "java/util/ArrayList" ∧ Fld Z h a "java/util/ArrayList" "size" "I" (.int (4 : Int32)) ∧ Fld Z h a "java/util/ArrayList" "elementData" "[Ljava/lang/Object;" (.ref b) ∧ Arv Z h b kb (.object "java/lang/Object") (10 : Int32) [(.ref q), (.ref q), (.ref q), (.ref q), .null, .null, .null, .null, .null, .null] .null ∧ Exa Z h b "[Ljava/lang/Object;" ∧ Ovr Z kb "java/lang/Object" ∧ n0 ≤ b ∧ a ≠ b ∧ h0.size ≤ b
set_option maxRecDepth 65536 in
set_option maxHeartbeats 40000000 in
abbrev Rm_fill_4 : Room := { frames := 5, cells := 1, slots := 10, locals := 69 }
theorem fill_4 (l : Launch) (Z : State) (a0 : Array Value) (hw : ∀ d ∈ tables_1, d.before a0 Z = true) (ws : List Jvm.Cond) (a : Addr) (q : Addr) (dd : Addr) (h0 : Heap) (n0 : Nat) (Z0 : n0 ≤ h0.size) (E_a : Exa Z h0 a "java/util/ArrayList") (F_size_a : Fld Z h0 a "java/util/ArrayList" "size" "I" (.int (0 : Int32))) (F_elementData_a : Fld Z h0 a "java/util/ArrayList" "elementData" "[Ljava/lang/Object;" (.ref dd)) (F_modCount_a : Fld Z h0 a "java/util/AbstractList" "modCount" "I" (.int (0 : Int32))) (g_a : n0 ≤ a) (O_D : Sta Z Z.heap "java/util/ArrayList" "DEFAULTCAPACITY_EMPTY_ELEMENTDATA" "[Ljava/lang/Object;" (.ref dd)) (A_D : Av Z Z.heap dd (.object "java/lang/Object") 0 (fun _ => .null)) (X00 : Old Z n0 h0) (E_q : Exa Z h0 q "com/example/gleipnir/gleipnir/service/Counterplay$Position") :
    MetFree l my17 (head1 (Jvm.Cond.code my17 method_3_code 3 none :: ws) Rm_fill_4) (fun aa_ U => aa_ = #[(.ref a), (.ref q), (.int (4 : Int32))] ∧ Z.Warmed39 U.vm ∧ U.heap = h0) (fun _ _ _ _ _ => True) (fun _ U oo_ U' => ∃ v L, oo_ = .returned v ∧ Qfill_4 Z a q dd h0 n0 v U'.heap L ∧ FrameEnd U oo_ U' L Rm_fill_4.cells Rm_fill_4.slots) := by
  refine MetFree.of_bodySF (plainFor_of_name pn_10) hisR ?_
  intro p e s m args below meth c s₁ Bd hml0 hP hK
  obtain ⟨rfl, hZ, hh⟩ := hP
  have hx := Bd.exec
  have hby := Bd.bytes
  have hml : c.maxLocals = 3 := hml0
  have hown : s.vm.findClass "com/example/gleipnir/gleipnir/service/CounterplayFinitePinLaw" = some m.cls := findClass_of_methodNamed Bd.named
  have hnm := (name_of_methodNamed Bd.named Bd.method).1
  have X0 : Stand p l e Rm_fill_4 s m #[(.ref a), (.ref q), (.int (4 : Int32))] below meth c s₁ [] 0 0 := Stand.of_body Bd
  have e0 : s₁.heap = h0 := by rw [← hh, Bd.state]; rfl
  have N0 := Fr.nil n0
  have pre0 : ∀ tt_, Steps p.tables e below (s₁.setTop (mkF m 0 #[.val (.ref a), .val (.ref q), .val (.int (4 : Int32))] [])) tt_ → Steps p.tables e below (s₁.setTop (entryFrame m #[(.ref a), (.ref q), (.int (4 : Int32))] 3)) tt_ := fun tt_ kk_ => castTop (ef_11 m a q (4 : Int32)) kk_
  obtain ⟨cq1, kq1, q1a, q1b, q1c⟩ := isOf hZ e0 E_a
  obtain ⟨_, _, ⟨T1, L1, k1, n1⟩, -, X1, ⟨Lc1, hQ1, l1, y1, z1⟩, st1⟩ := X0.virtualBack hx (y := my16) (z := my16) hown (mvT hZ (hwd76 hw)) (mvT hZ (hwd77 hw)) (notFace_of_selects (args := #[]) (mvT hZ (hwd79 hw))) (mvT hZ (hwd79 hw)) (mvT hZ (hwd78 hw)) (by decide) (backOf (W := 0) (a1_0 l Z a0 hw [] a q dd h0 n0 Z0 E_a F_size_a F_elementData_a F_modCount_a g_a O_D A_D X00 E_q) hZ (hwd80 hw) (hwd3 hw) (by decide) (by decide)) q1a q1c (g := (mkF m 6 #[.val (.ref a), .val (.ref q), .val (.int (4 : Int32))] [(.ref q), (.ref a)])) rfl (by rw [hml]; rfl) (Steps.refl _) (argsL := [(.ref q)]) (rest := []) (lenOf pd_8 rfl) rfl (by show 2 * 0 + _ ≤ _; exact Nat.le_of_eq rfl) (hb hby d11_6) (fun _ _ => ⟨rfl, e0, (by decide : 0 + 1 ≤ _), (by decide : 0 + 10 ≤ _)⟩)
  dsimp only [Pt.U, Pt.locs, Pt.cells, Pt.slots] at X1 l1 y1 z1 st1 hQ1
  subst l1 y1 z1
  obtain ⟨b_e1, kb_e1, rfl, N1q, K1, p1_1, p1_2, p1_3, p1_4, p1_5, p1_6, O_b_1, g_b_1, ne_a_b_1, sz_b_1⟩ := hQ1
  have N1 := Fr.app N0 N1q
  have f3_E_q := (E_q.keep K1)
  have sz4 : n0 ≤ T1.heap.size := (Nat.le_trans Z0 K1.1)
  obtain ⟨cq2, kq2, q2a, q2b, q2c⟩ := isOf hZ rfl p1_1
  obtain ⟨_, _, ⟨T2, L2, k2, n2⟩, -, X2, ⟨Lc2, hQ2, l2, y2, z2⟩, st2⟩ := X1.virtualBack hx (y := my16) (z := my16) hown (mvT hZ (hwd76 hw)) (mvT hZ (hwd77 hw)) (notFace_of_selects (args := #[]) (mvT hZ (hwd79 hw))) (mvT hZ (hwd79 hw)) (mvT hZ (hwd78 hw)) (by decide) (backOf (W := 0) (a1_1 l Z a0 hw [] a q b_e1 kb_e1 (T1.heap) n0 sz4 p1_1 p1_2 p1_3 p1_4 p1_5 O_b_1 g_a g_b_1 ne_a_b_1 f3_E_q) hZ (hwd80 hw) (hwd3 hw) (by decide) (by decide)) q2a q2c (g := (mkF m 17 #[.val (.ref a), .val (.ref q), .val (.int (4 : Int32))] [(.ref q), (.ref a)])) rfl (by rw [hml]; rfl) (Steps.refl _) (argsL := [(.ref q)]) (rest := []) (lenOf pd_8 rfl) rfl (by show 2 * 0 + _ ≤ _; exact Nat.le_of_eq rfl) (hb hby d11_17) (fun _ _ => ⟨rfl, rfl, (by decide : 1 + 0 ≤ _), (by decide : 10 + 0 ≤ _)⟩)
  dsimp only [Pt.U, Pt.locs, Pt.cells, Pt.slots] at X2 l2 y2 z2 st2 hQ2
  subst l2 y2 z2
  obtain ⟨rfl, N2q, K2, p2_1, p2_2, p2_3, p2_4, p2_5⟩ := hQ2
  have N2 := Fr.app N1 N2q
  have f6_E_q := (f3_E_q.keep K2)
  have sz7 : n0 ≤ T2.heap.size := (Nat.le_trans sz4 K2.1)
  obtain ⟨cq5, kq5, q5a, q5b, q5c⟩ := isOf hZ rfl p2_1
  obtain ⟨_, _, ⟨T5, L5, k5, n5⟩, -, X5, ⟨Lc5, hQ5, l5, y5, z5⟩, st5⟩ := X2.virtualBack hx (y := my16) (z := my16) hown (mvT hZ (hwd76 hw)) (mvT hZ (hwd77 hw)) (notFace_of_selects (args := #[]) (mvT hZ (hwd79 hw))) (mvT hZ (hwd79 hw)) (mvT hZ (hwd78 hw)) (by decide) (backOf (W := 0) (a1_2 l Z a0 hw [] a q b_e1 kb_e1 (T2.heap) n0 sz7 p2_1 p2_2 p2_3 p2_4 p2_5 O_b_1 g_a g_b_1 ne_a_b_1 f6_E_q) hZ (hwd80 hw) (hwd3 hw) (by decide) (by decide)) q5a q5c (g := (mkF m 28 #[.val (.ref a), .val (.ref q), .val (.int (4 : Int32))] [(.ref q), (.ref a)])) rfl (by rw [hml]; rfl) (Steps.refl _) (argsL := [(.ref q)]) (rest := []) (lenOf pd_8 rfl) rfl (by show 2 * 0 + _ ≤ _; exact Nat.le_of_eq rfl) (hb hby d11_28) (fun _ _ => ⟨rfl, rfl, (by decide : 1 + 0 ≤ _), (by decide : 10 + 0 ≤ _)⟩)
  dsimp only [Pt.U, Pt.locs, Pt.cells, Pt.slots] at X5 l5 y5 z5 st5 hQ5
  subst l5 y5 z5
  obtain ⟨rfl, N5q, K5, p5_1, p5_2, p5_3, p5_4, p5_5⟩ := hQ5
  have N5 := Fr.app N2 N5q
  have f9_E_q := (f6_E_q.keep K5)
  have sz10 : n0 ≤ T5.heap.size := (Nat.le_trans sz7 K5.1)
  obtain ⟨cq8, kq8, q8a, q8b, q8c⟩ := isOf hZ rfl p5_1
  obtain ⟨_, _, ⟨T8, L8, k8, n8⟩, -, X8, ⟨Lc8, hQ8, l8, y8, z8⟩, st8⟩ := X5.virtualBack hx (y := my16) (z := my16) hown (mvT hZ (hwd76 hw)) (mvT hZ (hwd77 hw)) (notFace_of_selects (args := #[]) (mvT hZ (hwd79 hw))) (mvT hZ (hwd79 hw)) (mvT hZ (hwd78 hw)) (by decide) (backOf (W := 0) (a1_3 l Z a0 hw [] a q b_e1 kb_e1 (T5.heap) n0 sz10 p5_1 p5_2 p5_3 p5_4 p5_5 O_b_1 g_a g_b_1 ne_a_b_1 f9_E_q) hZ (hwd80 hw) (hwd3 hw) (by decide) (by decide)) q8a q8c (g := (mkF m 39 #[.val (.ref a), .val (.ref q), .val (.int (4 : Int32))] [(.ref q), (.ref a)])) rfl (by rw [hml]; rfl) (Steps.refl _) (argsL := [(.ref q)]) (rest := []) (lenOf pd_8 rfl) rfl (by show 2 * 0 + _ ≤ _; exact Nat.le_of_eq rfl) (hb hby d11_39) (fun _ _ => ⟨rfl, rfl, (by decide : 1 + 0 ≤ _), (by decide : 10 + 0 ≤ _)⟩)
  dsimp only [Pt.U, Pt.locs, Pt.cells, Pt.slots] at X8 l8 y8 z8 st8 hQ8
  subst l8 y8 z8
  obtain ⟨rfl, N8q, K8, p8_1, p8_2, p8_3, p8_4, p8_5⟩ := hQ8
  have N8 := Fr.app N5 N8q
  have kp11 : Keep h0 T8.heap [a] := (((((Keep.refl h0 [a]).trans K1 (allS (Or.inl (List.mem_of_getElem? (i := 0) rfl)) all0)).trans K2 (allS (Or.inl (List.mem_of_getElem? (i := 0) rfl)) (allS (Or.inr (Nat.le_trans (Keep.refl h0 [a]).1 sz_b_1)) all0))).trans K5 (allS (Or.inl (List.mem_of_getElem? (i := 0) rfl)) (allS (Or.inr (Nat.le_trans (Keep.refl h0 [a]).1 sz_b_1)) all0))).trans K8 (allS (Or.inl (List.mem_of_getElem? (i := 0) rfl)) (allS (Or.inr (Nat.le_trans (Keep.refl h0 [a]).1 sz_b_1)) all0)))
  have f12_E_b_e1 := (((p1_6.keep K2).keep K5).keep K8)
  obtain ⟨fs, hr, hrun, hended, hW, hsame⟩ := X8.leave (v := none) (fun _ => rfl)
  refine ⟨_, _, pre0 _ ?_, hrun, hended, _, _, rfl, ?_, ⟨_, rfl⟩, hW, hsame.mono (by decide) (by decide)⟩
  · show Steps p.tables e below (s₁.setTop (mkF m 0 #[.val (.ref a), .val (.ref q), .val (.int (4 : Int32))] [])) _
    refine XS.iloadN X0.here hx rfl (hb hby d11_0) rfl ?_
    refine XS.ifNo X0.here hx rfl (hb hby d11_1) rfl ((if0 _ _).trans (tlt (show (0 : Int32) < (4 : Int32) from (by decide))).2.2.2) ?_
    refine XS.aloadN X0.here hx rfl (hb hby d11_4) rfl rfl ?_
    refine XS.aloadN X0.here hx rfl (hb hby d11_5) rfl rfl ?_
    refine st1.trans ?_
    refine XS.pop X1.here hx rfl (hb hby d11_9) rfl rfl ?_
    show Steps p.tables e below (T1.setTop (mkF m 10 #[.val (.ref a), .val (.ref q), .val (.int (4 : Int32))] [])) _
    refine XS.iloadN X1.here hx rfl (hb hby d11_10) rfl ?_
    refine XS.iconst X1.here hx rfl (hb hby d11_11) ?_
    refine XS.icmpNo X1.here hx rfl (hb hby d11_12) rfl (tlt (show (1 : Int32) < (4 : Int32) from (by decide))).2.2.2 ?_
    refine XS.aloadN X1.here hx rfl (hb hby d11_15) rfl rfl ?_
    refine XS.aloadN X1.here hx rfl (hb hby d11_16) rfl rfl ?_
    refine st2.trans ?_
    show Steps p.tables e below (T2.setTop (mkF m 20 #[.val (.ref a), .val (.ref q), .val (.int (4 : Int32))] [(.int (1 : Int32))])) _
    refine XS.pop X2.here hx rfl (hb hby d11_20) rfl rfl ?_
    refine XS.iloadN X2.here hx rfl (hb hby d11_21) rfl ?_
    refine XS.iconst X2.here hx rfl (hb hby d11_22) ?_
    refine XS.icmpNo X2.here hx rfl (hb hby d11_23) rfl (tlt (show (2 : Int32) < (4 : Int32) from (by decide))).2.2.2 ?_
    refine XS.aloadN X2.here hx rfl (hb hby d11_26) rfl rfl ?_
    refine XS.aloadN X2.here hx rfl (hb hby d11_27) rfl rfl ?_
    show Steps p.tables e below (T2.setTop (mkF m 28 #[.val (.ref a), .val (.ref q), .val (.int (4 : Int32))] [(.ref q), (.ref a)])) _
    refine st5.trans ?_
    refine XS.pop X5.here hx rfl (hb hby d11_31) rfl rfl ?_
    refine XS.iloadN X5.here hx rfl (hb hby d11_32) rfl ?_
    refine XS.iconst X5.here hx rfl (hb hby d11_33) ?_
    refine XS.icmpNo X5.here hx rfl (hb hby d11_34) rfl (tlt (show (3 : Int32) < (4 : Int32) from (by decide))).2.2.2 ?_
    refine XS.aloadN X5.here hx rfl (hb hby d11_37) rfl rfl ?_
    show Steps p.tables e below (T5.setTop (mkF m 38 #[.val (.ref a), .val (.ref q), .val (.int (4 : Int32))] [(.ref a)])) _
    refine XS.aloadN X5.here hx rfl (hb hby d11_38) rfl rfl ?_
    refine st8.trans ?_
    refine XS.pop X8.here hx rfl (hb hby d11_42) rfl rfl ?_
    refine XS.iloadN X8.here hx rfl (hb hby d11_43) rfl ?_
    refine XS.iconst X8.here hx rfl (hb hby d11_44) ?_
    refine XS.icmpYes X8.here hx rfl (pc0 := 45) (pc' := 54) rfl (hb hby d11_45) rfl (flt (show ¬ ((4 : Int32) < (4 : Int32)) from (by decide))).2.2.2 (by decide) (by decide) ?_
    show Steps p.tables e below (T8.setTop (mkF m 54 #[.val (.ref a), .val (.ref q), .val (.int (4 : Int32))] [])) _
    refine XS.iloadN X8.here hx rfl (hb hby d11_54) rfl ?_
    refine XS.iconst X8.here hx rfl (hb hby d11_55) ?_
    refine XS.icmpYes X8.here hx rfl (pc0 := 56) (pc' := 65) rfl (hb hby d11_56) rfl (flt (show ¬ ((5 : Int32) < (4 : Int32)) from (by decide))).2.2.2 (by decide) (by decide) ?_
    exact X8.returnOut hx Bd.returns (hb hby d11_65) hr
  · show Qfill_4 Z a q dd h0 n0 _ T8.heap _
    exact ⟨b_e1, kb_e1, rfl, N8, kp11, p8_1, p8_2, p8_3, p8_5, f12_E_b_e1, O_b_1, g_b_1, ne_a_b_1, (Nat.le_trans (Keep.refl h0 [a]).1 sz_b_1)⟩
theorem d11_48 : decode method_3_code 48 = .ok (.aload_n 0, 1) := by decide +kernel
theorem d11_49 : decode method_3_code 49 = .ok (.aload_n 1, 1) := by decide +kernel
theorem d11_50 : decode method_3_code 50 = .ok (.invokevirtual 39, 3) := by decide +kernel
theorem d11_53 : decode method_3_code 53 = .ok (.pop, 1) := by decide +kernel
def Qfill_5 (Z : State) (a : Addr) (q : Addr) (dd : Addr) (h0 : Heap) (n0 : Nat) (v : Option Value) (h : Heap) (L : List Loc) : Prop := ∃ b : Addr, ∃ kb : ClassId, v = none ∧ Fr n0 L ∧ Keep h0 h [a] ∧ Exa Z h a "java/util/ArrayList" ∧ Fld Z h a "java/util/ArrayList" "size" "I" (.int (5 : Int32)) ∧ Fld Z h a "java/util/ArrayList" "elementData" "[Ljava/lang/Object;" (.ref b) ∧ Arv Z h b kb (.object "java/lang/Object") (10 : Int32) [(.ref q), (.ref q), (.ref q), (.ref q), (.ref q), .null, .null, .null, .null, .null] .null ∧ Exa Z h b "[Ljava/lang/Object;" ∧ Ovr Z kb "java/lang/Object" ∧ n0 ≤ b ∧ a ≠ b ∧ h0.size ≤ b
set_option maxRecDepth 65536 in
set_option maxHeartbeats 40000000 in
abbrev Rm_fill_5 : Room := { frames := 5, cells := 1, slots := 10, locals := 69 }
theorem fill_5 (l : Launch) (Z : State) (a0 : Array Value) (hw : ∀ d ∈ tables_1, d.before a0 Z = true) (ws : List Jvm.Cond) (a : Addr) (q : Addr) (dd : Addr) (h0 : Heap) (n0 : Nat) (Z0 : n0 ≤ h0.size) (E_a : Exa Z h0 a "java/util/ArrayList") (F_size_a : Fld Z h0 a "java/util/ArrayList" "size" "I" (.int (0 : Int32))) (F_elementData_a : Fld Z h0 a "java/util/ArrayList" "elementData" "[Ljava/lang/Object;" (.ref dd)) (F_modCount_a : Fld Z h0 a "java/util/AbstractList" "modCount" "I" (.int (0 : Int32))) (g_a : n0 ≤ a) (O_D : Sta Z Z.heap "java/util/ArrayList" "DEFAULTCAPACITY_EMPTY_ELEMENTDATA" "[Ljava/lang/Object;" (.ref dd)) (A_D : Av Z Z.heap dd (.object "java/lang/Object") 0 (fun _ => .null)) (X00 : Old Z n0 h0) (E_q : Exa Z h0 q "com/example/gleipnir/gleipnir/service/Counterplay$Position") :
    MetFree l my17 (head1 (Jvm.Cond.code my17 method_3_code 3 none :: ws) Rm_fill_5) (fun aa_ U => aa_ = #[(.ref a), (.ref q), (.int (5 : Int32))] ∧ Z.Warmed39 U.vm ∧ U.heap = h0) (fun _ _ _ _ _ => True) (fun _ U oo_ U' => ∃ v L, oo_ = .returned v ∧ Qfill_5 Z a q dd h0 n0 v U'.heap L ∧ FrameEnd U oo_ U' L Rm_fill_5.cells Rm_fill_5.slots) := by
  refine MetFree.of_bodySF (plainFor_of_name pn_10) hisR ?_
  intro p e s m args below meth c s₁ Bd hml0 hP hK
  obtain ⟨rfl, hZ, hh⟩ := hP
  have hx := Bd.exec
  have hby := Bd.bytes
  have hml : c.maxLocals = 3 := hml0
  have hown : s.vm.findClass "com/example/gleipnir/gleipnir/service/CounterplayFinitePinLaw" = some m.cls := findClass_of_methodNamed Bd.named
  have hnm := (name_of_methodNamed Bd.named Bd.method).1
  have X0 : Stand p l e Rm_fill_5 s m #[(.ref a), (.ref q), (.int (5 : Int32))] below meth c s₁ [] 0 0 := Stand.of_body Bd
  have e0 : s₁.heap = h0 := by rw [← hh, Bd.state]; rfl
  have N0 := Fr.nil n0
  have pre0 : ∀ tt_, Steps p.tables e below (s₁.setTop (mkF m 0 #[.val (.ref a), .val (.ref q), .val (.int (5 : Int32))] [])) tt_ → Steps p.tables e below (s₁.setTop (entryFrame m #[(.ref a), (.ref q), (.int (5 : Int32))] 3)) tt_ := fun tt_ kk_ => castTop (ef_11 m a q (5 : Int32)) kk_
  obtain ⟨cq1, kq1, q1a, q1b, q1c⟩ := isOf hZ e0 E_a
  obtain ⟨_, _, ⟨T1, L1, k1, n1⟩, -, X1, ⟨Lc1, hQ1, l1, y1, z1⟩, st1⟩ := X0.virtualBack hx (y := my16) (z := my16) hown (mvT hZ (hwd76 hw)) (mvT hZ (hwd77 hw)) (notFace_of_selects (args := #[]) (mvT hZ (hwd79 hw))) (mvT hZ (hwd79 hw)) (mvT hZ (hwd78 hw)) (by decide) (backOf (W := 0) (a1_0 l Z a0 hw [] a q dd h0 n0 Z0 E_a F_size_a F_elementData_a F_modCount_a g_a O_D A_D X00 E_q) hZ (hwd80 hw) (hwd3 hw) (by decide) (by decide)) q1a q1c (g := (mkF m 6 #[.val (.ref a), .val (.ref q), .val (.int (5 : Int32))] [(.ref q), (.ref a)])) rfl (by rw [hml]; rfl) (Steps.refl _) (argsL := [(.ref q)]) (rest := []) (lenOf pd_8 rfl) rfl (by show 2 * 0 + _ ≤ _; exact Nat.le_of_eq rfl) (hb hby d11_6) (fun _ _ => ⟨rfl, e0, (by decide : 0 + 1 ≤ _), (by decide : 0 + 10 ≤ _)⟩)
  dsimp only [Pt.U, Pt.locs, Pt.cells, Pt.slots] at X1 l1 y1 z1 st1 hQ1
  subst l1 y1 z1
  obtain ⟨b_e1, kb_e1, rfl, N1q, K1, p1_1, p1_2, p1_3, p1_4, p1_5, p1_6, O_b_1, g_b_1, ne_a_b_1, sz_b_1⟩ := hQ1
  have N1 := Fr.app N0 N1q
  have f3_E_q := (E_q.keep K1)
  have sz4 : n0 ≤ T1.heap.size := (Nat.le_trans Z0 K1.1)
  obtain ⟨cq2, kq2, q2a, q2b, q2c⟩ := isOf hZ rfl p1_1
  obtain ⟨_, _, ⟨T2, L2, k2, n2⟩, -, X2, ⟨Lc2, hQ2, l2, y2, z2⟩, st2⟩ := X1.virtualBack hx (y := my16) (z := my16) hown (mvT hZ (hwd76 hw)) (mvT hZ (hwd77 hw)) (notFace_of_selects (args := #[]) (mvT hZ (hwd79 hw))) (mvT hZ (hwd79 hw)) (mvT hZ (hwd78 hw)) (by decide) (backOf (W := 0) (a1_1 l Z a0 hw [] a q b_e1 kb_e1 (T1.heap) n0 sz4 p1_1 p1_2 p1_3 p1_4 p1_5 O_b_1 g_a g_b_1 ne_a_b_1 f3_E_q) hZ (hwd80 hw) (hwd3 hw) (by decide) (by decide)) q2a q2c (g := (mkF m 17 #[.val (.ref a), .val (.ref q), .val (.int (5 : Int32))] [(.ref q), (.ref a)])) rfl (by rw [hml]; rfl) (Steps.refl _) (argsL := [(.ref q)]) (rest := []) (lenOf pd_8 rfl) rfl (by show 2 * 0 + _ ≤ _; exact Nat.le_of_eq rfl) (hb hby d11_17) (fun _ _ => ⟨rfl, rfl, (by decide : 1 + 0 ≤ _), (by decide : 10 + 0 ≤ _)⟩)
  dsimp only [Pt.U, Pt.locs, Pt.cells, Pt.slots] at X2 l2 y2 z2 st2 hQ2
  subst l2 y2 z2
  obtain ⟨rfl, N2q, K2, p2_1, p2_2, p2_3, p2_4, p2_5⟩ := hQ2
  have N2 := Fr.app N1 N2q
  have f6_E_q := (f3_E_q.keep K2)
  have sz7 : n0 ≤ T2.heap.size := (Nat.le_trans sz4 K2.1)
  obtain ⟨cq5, kq5, q5a, q5b, q5c⟩ := isOf hZ rfl p2_1
  obtain ⟨_, _, ⟨T5, L5, k5, n5⟩, -, X5, ⟨Lc5, hQ5, l5, y5, z5⟩, st5⟩ := X2.virtualBack hx (y := my16) (z := my16) hown (mvT hZ (hwd76 hw)) (mvT hZ (hwd77 hw)) (notFace_of_selects (args := #[]) (mvT hZ (hwd79 hw))) (mvT hZ (hwd79 hw)) (mvT hZ (hwd78 hw)) (by decide) (backOf (W := 0) (a1_2 l Z a0 hw [] a q b_e1 kb_e1 (T2.heap) n0 sz7 p2_1 p2_2 p2_3 p2_4 p2_5 O_b_1 g_a g_b_1 ne_a_b_1 f6_E_q) hZ (hwd80 hw) (hwd3 hw) (by decide) (by decide)) q5a q5c (g := (mkF m 28 #[.val (.ref a), .val (.ref q), .val (.int (5 : Int32))] [(.ref q), (.ref a)])) rfl (by rw [hml]; rfl) (Steps.refl _) (argsL := [(.ref q)]) (rest := []) (lenOf pd_8 rfl) rfl (by show 2 * 0 + _ ≤ _; exact Nat.le_of_eq rfl) (hb hby d11_28) (fun _ _ => ⟨rfl, rfl, (by decide : 1 + 0 ≤ _), (by decide : 10 + 0 ≤ _)⟩)
  dsimp only [Pt.U, Pt.locs, Pt.cells, Pt.slots] at X5 l5 y5 z5 st5 hQ5
  subst l5 y5 z5
  obtain ⟨rfl, N5q, K5, p5_1, p5_2, p5_3, p5_4, p5_5⟩ := hQ5
  have N5 := Fr.app N2 N5q
  have f9_E_q := (f6_E_q.keep K5)
  have sz10 : n0 ≤ T5.heap.size := (Nat.le_trans sz7 K5.1)
  obtain ⟨cq8, kq8, q8a, q8b, q8c⟩ := isOf hZ rfl p5_1
  obtain ⟨_, _, ⟨T8, L8, k8, n8⟩, -, X8, ⟨Lc8, hQ8, l8, y8, z8⟩, st8⟩ := X5.virtualBack hx (y := my16) (z := my16) hown (mvT hZ (hwd76 hw)) (mvT hZ (hwd77 hw)) (notFace_of_selects (args := #[]) (mvT hZ (hwd79 hw))) (mvT hZ (hwd79 hw)) (mvT hZ (hwd78 hw)) (by decide) (backOf (W := 0) (a1_3 l Z a0 hw [] a q b_e1 kb_e1 (T5.heap) n0 sz10 p5_1 p5_2 p5_3 p5_4 p5_5 O_b_1 g_a g_b_1 ne_a_b_1 f9_E_q) hZ (hwd80 hw) (hwd3 hw) (by decide) (by decide)) q8a q8c (g := (mkF m 39 #[.val (.ref a), .val (.ref q), .val (.int (5 : Int32))] [(.ref q), (.ref a)])) rfl (by rw [hml]; rfl) (Steps.refl _) (argsL := [(.ref q)]) (rest := []) (lenOf pd_8 rfl) rfl (by show 2 * 0 + _ ≤ _; exact Nat.le_of_eq rfl) (hb hby d11_39) (fun _ _ => ⟨rfl, rfl, (by decide : 1 + 0 ≤ _), (by decide : 10 + 0 ≤ _)⟩)
  dsimp only [Pt.U, Pt.locs, Pt.cells, Pt.slots] at X8 l8 y8 z8 st8 hQ8
  subst l8 y8 z8
  obtain ⟨rfl, N8q, K8, p8_1, p8_2, p8_3, p8_4, p8_5⟩ := hQ8
  have N8 := Fr.app N5 N8q
  have f12_E_q := (f9_E_q.keep K8)
  have sz13 : n0 ≤ T8.heap.size := (Nat.le_trans sz10 K8.1)
  obtain ⟨cq11, kq11, q11a, q11b, q11c⟩ := isOf hZ rfl p8_1
  obtain ⟨_, _, ⟨T11, L11, k11, n11⟩, -, X11, ⟨Lc11, hQ11, l11, y11, z11⟩, st11⟩ := X8.virtualBack hx (y := my16) (z := my16) hown (mvT hZ (hwd76 hw)) (mvT hZ (hwd77 hw)) (notFace_of_selects (args := #[]) (mvT hZ (hwd79 hw))) (mvT hZ (hwd79 hw)) (mvT hZ (hwd78 hw)) (by decide) (backOf (W := 0) (a1_4 l Z a0 hw [] a q b_e1 kb_e1 (T8.heap) n0 sz13 p8_1 p8_2 p8_3 p8_4 p8_5 O_b_1 g_a g_b_1 ne_a_b_1 f12_E_q) hZ (hwd80 hw) (hwd3 hw) (by decide) (by decide)) q11a q11c (g := (mkF m 50 #[.val (.ref a), .val (.ref q), .val (.int (5 : Int32))] [(.ref q), (.ref a)])) rfl (by rw [hml]; rfl) (Steps.refl _) (argsL := [(.ref q)]) (rest := []) (lenOf pd_8 rfl) rfl (by show 2 * 0 + _ ≤ _; exact Nat.le_of_eq rfl) (hb hby d11_50) (fun _ _ => ⟨rfl, rfl, (by decide : 1 + 0 ≤ _), (by decide : 10 + 0 ≤ _)⟩)
  dsimp only [Pt.U, Pt.locs, Pt.cells, Pt.slots] at X11 l11 y11 z11 st11 hQ11
  subst l11 y11 z11
  obtain ⟨rfl, N11q, K11, p11_1, p11_2, p11_3, p11_4, p11_5⟩ := hQ11
  have N11 := Fr.app N8 N11q
  have kp14 : Keep h0 T11.heap [a] := ((((((Keep.refl h0 [a]).trans K1 (allS (Or.inl (List.mem_of_getElem? (i := 0) rfl)) all0)).trans K2 (allS (Or.inl (List.mem_of_getElem? (i := 0) rfl)) (allS (Or.inr (Nat.le_trans (Keep.refl h0 [a]).1 sz_b_1)) all0))).trans K5 (allS (Or.inl (List.mem_of_getElem? (i := 0) rfl)) (allS (Or.inr (Nat.le_trans (Keep.refl h0 [a]).1 sz_b_1)) all0))).trans K8 (allS (Or.inl (List.mem_of_getElem? (i := 0) rfl)) (allS (Or.inr (Nat.le_trans (Keep.refl h0 [a]).1 sz_b_1)) all0))).trans K11 (allS (Or.inl (List.mem_of_getElem? (i := 0) rfl)) (allS (Or.inr (Nat.le_trans (Keep.refl h0 [a]).1 sz_b_1)) all0)))
  have f15_E_b_e1 := ((((p1_6.keep K2).keep K5).keep K8).keep K11)
  obtain ⟨fs, hr, hrun, hended, hW, hsame⟩ := X11.leave (v := none) (fun _ => rfl)
  refine ⟨_, _, pre0 _ ?_, hrun, hended, _, _, rfl, ?_, ⟨_, rfl⟩, hW, hsame.mono (by decide) (by decide)⟩
  · show Steps p.tables e below (s₁.setTop (mkF m 0 #[.val (.ref a), .val (.ref q), .val (.int (5 : Int32))] [])) _
    refine XS.iloadN X0.here hx rfl (hb hby d11_0) rfl ?_
    refine XS.ifNo X0.here hx rfl (hb hby d11_1) rfl ((if0 _ _).trans (tlt (show (0 : Int32) < (5 : Int32) from (by decide))).2.2.2) ?_
    refine XS.aloadN X0.here hx rfl (hb hby d11_4) rfl rfl ?_
    refine XS.aloadN X0.here hx rfl (hb hby d11_5) rfl rfl ?_
    refine st1.trans ?_
    refine XS.pop X1.here hx rfl (hb hby d11_9) rfl rfl ?_
    show Steps p.tables e below (T1.setTop (mkF m 10 #[.val (.ref a), .val (.ref q), .val (.int (5 : Int32))] [])) _
    refine XS.iloadN X1.here hx rfl (hb hby d11_10) rfl ?_
    refine XS.iconst X1.here hx rfl (hb hby d11_11) ?_
    refine XS.icmpNo X1.here hx rfl (hb hby d11_12) rfl (tlt (show (1 : Int32) < (5 : Int32) from (by decide))).2.2.2 ?_
    refine XS.aloadN X1.here hx rfl (hb hby d11_15) rfl rfl ?_
    refine XS.aloadN X1.here hx rfl (hb hby d11_16) rfl rfl ?_
    refine st2.trans ?_
    show Steps p.tables e below (T2.setTop (mkF m 20 #[.val (.ref a), .val (.ref q), .val (.int (5 : Int32))] [(.int (1 : Int32))])) _
    refine XS.pop X2.here hx rfl (hb hby d11_20) rfl rfl ?_
    refine XS.iloadN X2.here hx rfl (hb hby d11_21) rfl ?_
    refine XS.iconst X2.here hx rfl (hb hby d11_22) ?_
    refine XS.icmpNo X2.here hx rfl (hb hby d11_23) rfl (tlt (show (2 : Int32) < (5 : Int32) from (by decide))).2.2.2 ?_
    refine XS.aloadN X2.here hx rfl (hb hby d11_26) rfl rfl ?_
    refine XS.aloadN X2.here hx rfl (hb hby d11_27) rfl rfl ?_
    show Steps p.tables e below (T2.setTop (mkF m 28 #[.val (.ref a), .val (.ref q), .val (.int (5 : Int32))] [(.ref q), (.ref a)])) _
    refine st5.trans ?_
    refine XS.pop X5.here hx rfl (hb hby d11_31) rfl rfl ?_
    refine XS.iloadN X5.here hx rfl (hb hby d11_32) rfl ?_
    refine XS.iconst X5.here hx rfl (hb hby d11_33) ?_
    refine XS.icmpNo X5.here hx rfl (hb hby d11_34) rfl (tlt (show (3 : Int32) < (5 : Int32) from (by decide))).2.2.2 ?_
    refine XS.aloadN X5.here hx rfl (hb hby d11_37) rfl rfl ?_
    show Steps p.tables e below (T5.setTop (mkF m 38 #[.val (.ref a), .val (.ref q), .val (.int (5 : Int32))] [(.ref a)])) _
    refine XS.aloadN X5.here hx rfl (hb hby d11_38) rfl rfl ?_
    refine st8.trans ?_
    refine XS.pop X8.here hx rfl (hb hby d11_42) rfl rfl ?_
    refine XS.iloadN X8.here hx rfl (hb hby d11_43) rfl ?_
    refine XS.iconst X8.here hx rfl (hb hby d11_44) ?_
    refine XS.icmpNo X8.here hx rfl (hb hby d11_45) rfl (tlt (show (4 : Int32) < (5 : Int32) from (by decide))).2.2.2 ?_
    show Steps p.tables e below (T8.setTop (mkF m 48 #[.val (.ref a), .val (.ref q), .val (.int (5 : Int32))] [])) _
    refine XS.aloadN X8.here hx rfl (hb hby d11_48) rfl rfl ?_
    refine XS.aloadN X8.here hx rfl (hb hby d11_49) rfl rfl ?_
    refine st11.trans ?_
    refine XS.pop X11.here hx rfl (hb hby d11_53) rfl rfl ?_
    refine XS.iloadN X11.here hx rfl (hb hby d11_54) rfl ?_
    refine XS.iconst X11.here hx rfl (hb hby d11_55) ?_
    show Steps p.tables e below (T11.setTop (mkF m 56 #[.val (.ref a), .val (.ref q), .val (.int (5 : Int32))] [(.int (5 : Int32)), (.int (5 : Int32))])) _
    refine XS.icmpYes X11.here hx rfl (pc0 := 56) (pc' := 65) rfl (hb hby d11_56) rfl (flt (show ¬ ((5 : Int32) < (5 : Int32)) from (by decide))).2.2.2 (by decide) (by decide) ?_
    exact X11.returnOut hx Bd.returns (hb hby d11_65) hr
  · show Qfill_5 Z a q dd h0 n0 _ T11.heap _
    exact ⟨b_e1, kb_e1, rfl, N11, kp14, p11_1, p11_2, p11_3, p11_5, f15_E_b_e1, O_b_1, g_b_1, ne_a_b_1, (Nat.le_trans (Keep.refl h0 [a]).1 sz_b_1)⟩
theorem d11_59 : decode method_3_code 59 = .ok (.aload_n 0, 1) := by decide +kernel
theorem d11_60 : decode method_3_code 60 = .ok (.aload_n 1, 1) := by decide +kernel
theorem d11_61 : decode method_3_code 61 = .ok (.invokevirtual 39, 3) := by decide +kernel
theorem d11_64 : decode method_3_code 64 = .ok (.pop, 1) := by decide +kernel
def Qfill_6 (Z : State) (a : Addr) (q : Addr) (dd : Addr) (h0 : Heap) (n0 : Nat) (v : Option Value) (h : Heap) (L : List Loc) : Prop := ∃ b : Addr, ∃ kb : ClassId, v = none ∧ Fr n0 L ∧ Keep h0 h [a] ∧ Exa Z h a "java/util/ArrayList" ∧ Fld Z h a "java/util/ArrayList" "size" "I" (.int (6 : Int32)) ∧ Fld Z h a "java/util/ArrayList" "elementData" "[Ljava/lang/Object;" (.ref b) ∧ Arv Z h b kb (.object "java/lang/Object") (10 : Int32) [(.ref q), (.ref q), (.ref q), (.ref q), (.ref q), (.ref q), .null, .null, .null, .null] .null ∧ Exa Z h b "[Ljava/lang/Object;" ∧ Ovr Z kb "java/lang/Object" ∧ n0 ≤ b ∧ a ≠ b ∧ h0.size ≤ b
set_option maxRecDepth 65536 in
set_option maxHeartbeats 40000000 in
abbrev Rm_fill_6 : Room := { frames := 5, cells := 1, slots := 10, locals := 69 }
theorem fill_6 (l : Launch) (Z : State) (a0 : Array Value) (hw : ∀ d ∈ tables_1, d.before a0 Z = true) (ws : List Jvm.Cond) (a : Addr) (q : Addr) (dd : Addr) (h0 : Heap) (n0 : Nat) (Z0 : n0 ≤ h0.size) (E_a : Exa Z h0 a "java/util/ArrayList") (F_size_a : Fld Z h0 a "java/util/ArrayList" "size" "I" (.int (0 : Int32))) (F_elementData_a : Fld Z h0 a "java/util/ArrayList" "elementData" "[Ljava/lang/Object;" (.ref dd)) (F_modCount_a : Fld Z h0 a "java/util/AbstractList" "modCount" "I" (.int (0 : Int32))) (g_a : n0 ≤ a) (O_D : Sta Z Z.heap "java/util/ArrayList" "DEFAULTCAPACITY_EMPTY_ELEMENTDATA" "[Ljava/lang/Object;" (.ref dd)) (A_D : Av Z Z.heap dd (.object "java/lang/Object") 0 (fun _ => .null)) (X00 : Old Z n0 h0) (E_q : Exa Z h0 q "com/example/gleipnir/gleipnir/service/Counterplay$Position") :
    MetFree l my17 (head1 (Jvm.Cond.code my17 method_3_code 3 none :: ws) Rm_fill_6) (fun aa_ U => aa_ = #[(.ref a), (.ref q), (.int (6 : Int32))] ∧ Z.Warmed39 U.vm ∧ U.heap = h0) (fun _ _ _ _ _ => True) (fun _ U oo_ U' => ∃ v L, oo_ = .returned v ∧ Qfill_6 Z a q dd h0 n0 v U'.heap L ∧ FrameEnd U oo_ U' L Rm_fill_6.cells Rm_fill_6.slots) := by
  refine MetFree.of_bodySF (plainFor_of_name pn_10) hisR ?_
  intro p e s m args below meth c s₁ Bd hml0 hP hK
  obtain ⟨rfl, hZ, hh⟩ := hP
  have hx := Bd.exec
  have hby := Bd.bytes
  have hml : c.maxLocals = 3 := hml0
  have hown : s.vm.findClass "com/example/gleipnir/gleipnir/service/CounterplayFinitePinLaw" = some m.cls := findClass_of_methodNamed Bd.named
  have hnm := (name_of_methodNamed Bd.named Bd.method).1
  have X0 : Stand p l e Rm_fill_6 s m #[(.ref a), (.ref q), (.int (6 : Int32))] below meth c s₁ [] 0 0 := Stand.of_body Bd
  have e0 : s₁.heap = h0 := by rw [← hh, Bd.state]; rfl
  have N0 := Fr.nil n0
  have pre0 : ∀ tt_, Steps p.tables e below (s₁.setTop (mkF m 0 #[.val (.ref a), .val (.ref q), .val (.int (6 : Int32))] [])) tt_ → Steps p.tables e below (s₁.setTop (entryFrame m #[(.ref a), (.ref q), (.int (6 : Int32))] 3)) tt_ := fun tt_ kk_ => castTop (ef_11 m a q (6 : Int32)) kk_
  obtain ⟨cq1, kq1, q1a, q1b, q1c⟩ := isOf hZ e0 E_a
  obtain ⟨_, _, ⟨T1, L1, k1, n1⟩, -, X1, ⟨Lc1, hQ1, l1, y1, z1⟩, st1⟩ := X0.virtualBack hx (y := my16) (z := my16) hown (mvT hZ (hwd76 hw)) (mvT hZ (hwd77 hw)) (notFace_of_selects (args := #[]) (mvT hZ (hwd79 hw))) (mvT hZ (hwd79 hw)) (mvT hZ (hwd78 hw)) (by decide) (backOf (W := 0) (a1_0 l Z a0 hw [] a q dd h0 n0 Z0 E_a F_size_a F_elementData_a F_modCount_a g_a O_D A_D X00 E_q) hZ (hwd80 hw) (hwd3 hw) (by decide) (by decide)) q1a q1c (g := (mkF m 6 #[.val (.ref a), .val (.ref q), .val (.int (6 : Int32))] [(.ref q), (.ref a)])) rfl (by rw [hml]; rfl) (Steps.refl _) (argsL := [(.ref q)]) (rest := []) (lenOf pd_8 rfl) rfl (by show 2 * 0 + _ ≤ _; exact Nat.le_of_eq rfl) (hb hby d11_6) (fun _ _ => ⟨rfl, e0, (by decide : 0 + 1 ≤ _), (by decide : 0 + 10 ≤ _)⟩)
  dsimp only [Pt.U, Pt.locs, Pt.cells, Pt.slots] at X1 l1 y1 z1 st1 hQ1
  subst l1 y1 z1
  obtain ⟨b_e1, kb_e1, rfl, N1q, K1, p1_1, p1_2, p1_3, p1_4, p1_5, p1_6, O_b_1, g_b_1, ne_a_b_1, sz_b_1⟩ := hQ1
  have N1 := Fr.app N0 N1q
  have f3_E_q := (E_q.keep K1)
  have sz4 : n0 ≤ T1.heap.size := (Nat.le_trans Z0 K1.1)
  obtain ⟨cq2, kq2, q2a, q2b, q2c⟩ := isOf hZ rfl p1_1
  obtain ⟨_, _, ⟨T2, L2, k2, n2⟩, -, X2, ⟨Lc2, hQ2, l2, y2, z2⟩, st2⟩ := X1.virtualBack hx (y := my16) (z := my16) hown (mvT hZ (hwd76 hw)) (mvT hZ (hwd77 hw)) (notFace_of_selects (args := #[]) (mvT hZ (hwd79 hw))) (mvT hZ (hwd79 hw)) (mvT hZ (hwd78 hw)) (by decide) (backOf (W := 0) (a1_1 l Z a0 hw [] a q b_e1 kb_e1 (T1.heap) n0 sz4 p1_1 p1_2 p1_3 p1_4 p1_5 O_b_1 g_a g_b_1 ne_a_b_1 f3_E_q) hZ (hwd80 hw) (hwd3 hw) (by decide) (by decide)) q2a q2c (g := (mkF m 17 #[.val (.ref a), .val (.ref q), .val (.int (6 : Int32))] [(.ref q), (.ref a)])) rfl (by rw [hml]; rfl) (Steps.refl _) (argsL := [(.ref q)]) (rest := []) (lenOf pd_8 rfl) rfl (by show 2 * 0 + _ ≤ _; exact Nat.le_of_eq rfl) (hb hby d11_17) (fun _ _ => ⟨rfl, rfl, (by decide : 1 + 0 ≤ _), (by decide : 10 + 0 ≤ _)⟩)
  dsimp only [Pt.U, Pt.locs, Pt.cells, Pt.slots] at X2 l2 y2 z2 st2 hQ2
  subst l2 y2 z2
  obtain ⟨rfl, N2q, K2, p2_1, p2_2, p2_3, p2_4, p2_5⟩ := hQ2
  have N2 := Fr.app N1 N2q
  have f6_E_q := (f3_E_q.keep K2)
  have sz7 : n0 ≤ T2.heap.size := (Nat.le_trans sz4 K2.1)
  obtain ⟨cq5, kq5, q5a, q5b, q5c⟩ := isOf hZ rfl p2_1
  obtain ⟨_, _, ⟨T5, L5, k5, n5⟩, -, X5, ⟨Lc5, hQ5, l5, y5, z5⟩, st5⟩ := X2.virtualBack hx (y := my16) (z := my16) hown (mvT hZ (hwd76 hw)) (mvT hZ (hwd77 hw)) (notFace_of_selects (args := #[]) (mvT hZ (hwd79 hw))) (mvT hZ (hwd79 hw)) (mvT hZ (hwd78 hw)) (by decide) (backOf (W := 0) (a1_2 l Z a0 hw [] a q b_e1 kb_e1 (T2.heap) n0 sz7 p2_1 p2_2 p2_3 p2_4 p2_5 O_b_1 g_a g_b_1 ne_a_b_1 f6_E_q) hZ (hwd80 hw) (hwd3 hw) (by decide) (by decide)) q5a q5c (g := (mkF m 28 #[.val (.ref a), .val (.ref q), .val (.int (6 : Int32))] [(.ref q), (.ref a)])) rfl (by rw [hml]; rfl) (Steps.refl _) (argsL := [(.ref q)]) (rest := []) (lenOf pd_8 rfl) rfl (by show 2 * 0 + _ ≤ _; exact Nat.le_of_eq rfl) (hb hby d11_28) (fun _ _ => ⟨rfl, rfl, (by decide : 1 + 0 ≤ _), (by decide : 10 + 0 ≤ _)⟩)
  dsimp only [Pt.U, Pt.locs, Pt.cells, Pt.slots] at X5 l5 y5 z5 st5 hQ5
  subst l5 y5 z5
  obtain ⟨rfl, N5q, K5, p5_1, p5_2, p5_3, p5_4, p5_5⟩ := hQ5
  have N5 := Fr.app N2 N5q
  have f9_E_q := (f6_E_q.keep K5)
  have sz10 : n0 ≤ T5.heap.size := (Nat.le_trans sz7 K5.1)
  obtain ⟨cq8, kq8, q8a, q8b, q8c⟩ := isOf hZ rfl p5_1
  obtain ⟨_, _, ⟨T8, L8, k8, n8⟩, -, X8, ⟨Lc8, hQ8, l8, y8, z8⟩, st8⟩ := X5.virtualBack hx (y := my16) (z := my16) hown (mvT hZ (hwd76 hw)) (mvT hZ (hwd77 hw)) (notFace_of_selects (args := #[]) (mvT hZ (hwd79 hw))) (mvT hZ (hwd79 hw)) (mvT hZ (hwd78 hw)) (by decide) (backOf (W := 0) (a1_3 l Z a0 hw [] a q b_e1 kb_e1 (T5.heap) n0 sz10 p5_1 p5_2 p5_3 p5_4 p5_5 O_b_1 g_a g_b_1 ne_a_b_1 f9_E_q) hZ (hwd80 hw) (hwd3 hw) (by decide) (by decide)) q8a q8c (g := (mkF m 39 #[.val (.ref a), .val (.ref q), .val (.int (6 : Int32))] [(.ref q), (.ref a)])) rfl (by rw [hml]; rfl) (Steps.refl _) (argsL := [(.ref q)]) (rest := []) (lenOf pd_8 rfl) rfl (by show 2 * 0 + _ ≤ _; exact Nat.le_of_eq rfl) (hb hby d11_39) (fun _ _ => ⟨rfl, rfl, (by decide : 1 + 0 ≤ _), (by decide : 10 + 0 ≤ _)⟩)
  dsimp only [Pt.U, Pt.locs, Pt.cells, Pt.slots] at X8 l8 y8 z8 st8 hQ8
  subst l8 y8 z8
  obtain ⟨rfl, N8q, K8, p8_1, p8_2, p8_3, p8_4, p8_5⟩ := hQ8
  have N8 := Fr.app N5 N8q
  have f12_E_q := (f9_E_q.keep K8)
  have sz13 : n0 ≤ T8.heap.size := (Nat.le_trans sz10 K8.1)
  obtain ⟨cq11, kq11, q11a, q11b, q11c⟩ := isOf hZ rfl p8_1
  obtain ⟨_, _, ⟨T11, L11, k11, n11⟩, -, X11, ⟨Lc11, hQ11, l11, y11, z11⟩, st11⟩ := X8.virtualBack hx (y := my16) (z := my16) hown (mvT hZ (hwd76 hw)) (mvT hZ (hwd77 hw)) (notFace_of_selects (args := #[]) (mvT hZ (hwd79 hw))) (mvT hZ (hwd79 hw)) (mvT hZ (hwd78 hw)) (by decide) (backOf (W := 0) (a1_4 l Z a0 hw [] a q b_e1 kb_e1 (T8.heap) n0 sz13 p8_1 p8_2 p8_3 p8_4 p8_5 O_b_1 g_a g_b_1 ne_a_b_1 f12_E_q) hZ (hwd80 hw) (hwd3 hw) (by decide) (by decide)) q11a q11c (g := (mkF m 50 #[.val (.ref a), .val (.ref q), .val (.int (6 : Int32))] [(.ref q), (.ref a)])) rfl (by rw [hml]; rfl) (Steps.refl _) (argsL := [(.ref q)]) (rest := []) (lenOf pd_8 rfl) rfl (by show 2 * 0 + _ ≤ _; exact Nat.le_of_eq rfl) (hb hby d11_50) (fun _ _ => ⟨rfl, rfl, (by decide : 1 + 0 ≤ _), (by decide : 10 + 0 ≤ _)⟩)
  dsimp only [Pt.U, Pt.locs, Pt.cells, Pt.slots] at X11 l11 y11 z11 st11 hQ11
  subst l11 y11 z11
  obtain ⟨rfl, N11q, K11, p11_1, p11_2, p11_3, p11_4, p11_5⟩ := hQ11
  have N11 := Fr.app N8 N11q
  have f15_E_q := (f12_E_q.keep K11)
  have sz16 : n0 ≤ T11.heap.size := (Nat.le_trans sz13 K11.1)
  obtain ⟨cq14, kq14, q14a, q14b, q14c⟩ := isOf hZ rfl p11_1
  obtain ⟨_, _, ⟨T14, L14, k14, n14⟩, -, X14, ⟨Lc14, hQ14, l14, y14, z14⟩, st14⟩ := X11.virtualBack hx (y := my16) (z := my16) hown (mvT hZ (hwd76 hw)) (mvT hZ (hwd77 hw)) (notFace_of_selects (args := #[]) (mvT hZ (hwd79 hw))) (mvT hZ (hwd79 hw)) (mvT hZ (hwd78 hw)) (by decide) (backOf (W := 0) (a1_5 l Z a0 hw [] a q b_e1 kb_e1 (T11.heap) n0 sz16 p11_1 p11_2 p11_3 p11_4 p11_5 O_b_1 g_a g_b_1 ne_a_b_1 f15_E_q) hZ (hwd80 hw) (hwd3 hw) (by decide) (by decide)) q14a q14c (g := (mkF m 61 #[.val (.ref a), .val (.ref q), .val (.int (6 : Int32))] [(.ref q), (.ref a)])) rfl (by rw [hml]; rfl) (Steps.refl _) (argsL := [(.ref q)]) (rest := []) (lenOf pd_8 rfl) rfl (by show 2 * 0 + _ ≤ _; exact Nat.le_of_eq rfl) (hb hby d11_61) (fun _ _ => ⟨rfl, rfl, (by decide : 1 + 0 ≤ _), (by decide : 10 + 0 ≤ _)⟩)
  dsimp only [Pt.U, Pt.locs, Pt.cells, Pt.slots] at X14 l14 y14 z14 st14 hQ14
  subst l14 y14 z14
  obtain ⟨rfl, N14q, K14, p14_1, p14_2, p14_3, p14_4, p14_5⟩ := hQ14
  have N14 := Fr.app N11 N14q
  have kp17 : Keep h0 T14.heap [a] := (((((((Keep.refl h0 [a]).trans K1 (allS (Or.inl (List.mem_of_getElem? (i := 0) rfl)) all0)).trans K2 (allS (Or.inl (List.mem_of_getElem? (i := 0) rfl)) (allS (Or.inr (Nat.le_trans (Keep.refl h0 [a]).1 sz_b_1)) all0))).trans K5 (allS (Or.inl (List.mem_of_getElem? (i := 0) rfl)) (allS (Or.inr (Nat.le_trans (Keep.refl h0 [a]).1 sz_b_1)) all0))).trans K8 (allS (Or.inl (List.mem_of_getElem? (i := 0) rfl)) (allS (Or.inr (Nat.le_trans (Keep.refl h0 [a]).1 sz_b_1)) all0))).trans K11 (allS (Or.inl (List.mem_of_getElem? (i := 0) rfl)) (allS (Or.inr (Nat.le_trans (Keep.refl h0 [a]).1 sz_b_1)) all0))).trans K14 (allS (Or.inl (List.mem_of_getElem? (i := 0) rfl)) (allS (Or.inr (Nat.le_trans (Keep.refl h0 [a]).1 sz_b_1)) all0)))
  have f18_E_b_e1 := (((((p1_6.keep K2).keep K5).keep K8).keep K11).keep K14)
  obtain ⟨fs, hr, hrun, hended, hW, hsame⟩ := X14.leave (v := none) (fun _ => rfl)
  refine ⟨_, _, pre0 _ ?_, hrun, hended, _, _, rfl, ?_, ⟨_, rfl⟩, hW, hsame.mono (by decide) (by decide)⟩
  · show Steps p.tables e below (s₁.setTop (mkF m 0 #[.val (.ref a), .val (.ref q), .val (.int (6 : Int32))] [])) _
    refine XS.iloadN X0.here hx rfl (hb hby d11_0) rfl ?_
    refine XS.ifNo X0.here hx rfl (hb hby d11_1) rfl ((if0 _ _).trans (tlt (show (0 : Int32) < (6 : Int32) from (by decide))).2.2.2) ?_
    refine XS.aloadN X0.here hx rfl (hb hby d11_4) rfl rfl ?_
    refine XS.aloadN X0.here hx rfl (hb hby d11_5) rfl rfl ?_
    refine st1.trans ?_
    refine XS.pop X1.here hx rfl (hb hby d11_9) rfl rfl ?_
    show Steps p.tables e below (T1.setTop (mkF m 10 #[.val (.ref a), .val (.ref q), .val (.int (6 : Int32))] [])) _
    refine XS.iloadN X1.here hx rfl (hb hby d11_10) rfl ?_
    refine XS.iconst X1.here hx rfl (hb hby d11_11) ?_
    refine XS.icmpNo X1.here hx rfl (hb hby d11_12) rfl (tlt (show (1 : Int32) < (6 : Int32) from (by decide))).2.2.2 ?_
    refine XS.aloadN X1.here hx rfl (hb hby d11_15) rfl rfl ?_
    refine XS.aloadN X1.here hx rfl (hb hby d11_16) rfl rfl ?_
    refine st2.trans ?_
    show Steps p.tables e below (T2.setTop (mkF m 20 #[.val (.ref a), .val (.ref q), .val (.int (6 : Int32))] [(.int (1 : Int32))])) _
    refine XS.pop X2.here hx rfl (hb hby d11_20) rfl rfl ?_
    refine XS.iloadN X2.here hx rfl (hb hby d11_21) rfl ?_
    refine XS.iconst X2.here hx rfl (hb hby d11_22) ?_
    refine XS.icmpNo X2.here hx rfl (hb hby d11_23) rfl (tlt (show (2 : Int32) < (6 : Int32) from (by decide))).2.2.2 ?_
    refine XS.aloadN X2.here hx rfl (hb hby d11_26) rfl rfl ?_
    refine XS.aloadN X2.here hx rfl (hb hby d11_27) rfl rfl ?_
    show Steps p.tables e below (T2.setTop (mkF m 28 #[.val (.ref a), .val (.ref q), .val (.int (6 : Int32))] [(.ref q), (.ref a)])) _
    refine st5.trans ?_
    refine XS.pop X5.here hx rfl (hb hby d11_31) rfl rfl ?_
    refine XS.iloadN X5.here hx rfl (hb hby d11_32) rfl ?_
    refine XS.iconst X5.here hx rfl (hb hby d11_33) ?_
    refine XS.icmpNo X5.here hx rfl (hb hby d11_34) rfl (tlt (show (3 : Int32) < (6 : Int32) from (by decide))).2.2.2 ?_
    refine XS.aloadN X5.here hx rfl (hb hby d11_37) rfl rfl ?_
    show Steps p.tables e below (T5.setTop (mkF m 38 #[.val (.ref a), .val (.ref q), .val (.int (6 : Int32))] [(.ref a)])) _
    refine XS.aloadN X5.here hx rfl (hb hby d11_38) rfl rfl ?_
    refine st8.trans ?_
    refine XS.pop X8.here hx rfl (hb hby d11_42) rfl rfl ?_
    refine XS.iloadN X8.here hx rfl (hb hby d11_43) rfl ?_
    refine XS.iconst X8.here hx rfl (hb hby d11_44) ?_
    refine XS.icmpNo X8.here hx rfl (hb hby d11_45) rfl (tlt (show (4 : Int32) < (6 : Int32) from (by decide))).2.2.2 ?_
    show Steps p.tables e below (T8.setTop (mkF m 48 #[.val (.ref a), .val (.ref q), .val (.int (6 : Int32))] [])) _
    refine XS.aloadN X8.here hx rfl (hb hby d11_48) rfl rfl ?_
    refine XS.aloadN X8.here hx rfl (hb hby d11_49) rfl rfl ?_
    refine st11.trans ?_
    refine XS.pop X11.here hx rfl (hb hby d11_53) rfl rfl ?_
    refine XS.iloadN X11.here hx rfl (hb hby d11_54) rfl ?_
    refine XS.iconst X11.here hx rfl (hb hby d11_55) ?_
    show Steps p.tables e below (T11.setTop (mkF m 56 #[.val (.ref a), .val (.ref q), .val (.int (6 : Int32))] [(.int (5 : Int32)), (.int (6 : Int32))])) _
    refine XS.icmpNo X11.here hx rfl (hb hby d11_56) rfl (tlt (show (5 : Int32) < (6 : Int32) from (by decide))).2.2.2 ?_
    refine XS.aloadN X11.here hx rfl (hb hby d11_59) rfl rfl ?_
    refine XS.aloadN X11.here hx rfl (hb hby d11_60) rfl rfl ?_
    refine st14.trans ?_
    refine XS.pop X14.here hx rfl (hb hby d11_64) rfl rfl ?_
    exact X14.returnOut hx Bd.returns (hb hby d11_65) hr
  · show Qfill_6 Z a q dd h0 n0 _ T14.heap _
    exact ⟨b_e1, kb_e1, rfl, N14, kp17, p14_1, p14_2, p14_3, p14_5, f18_E_b_e1, O_b_1, g_b_1, ne_a_b_1, (Nat.le_trans (Keep.refl h0 [a]).1 sz_b_1)⟩
def Qfill (Z : State) (a : Addr) (q : Addr) (dd : Addr) (n : Nat) (z : Int32) (h0 : Heap) (n0 : Nat) (v : Option Value) (h : Heap) (L : List Loc) : Prop := ∃ b : Addr, ∃ kb : ClassId, v = none ∧ Fr n0 L ∧ Keep h0 h [a] ∧ Exa Z h a "java/util/ArrayList" ∧ Fld Z h a "java/util/ArrayList" "size" "I" (.int z) ∧ Fld Z h a "java/util/ArrayList" "elementData" "[Ljava/lang/Object;" (.ref b) ∧ Arv Z h b kb (.object "java/lang/Object") (10 : Int32) (vl q n) .null ∧ Exa Z h b "[Ljava/lang/Object;" ∧ Ovr Z kb "java/lang/Object" ∧ n0 ≤ b ∧ a ≠ b ∧ h0.size ≤ b
abbrev Rm_fill : Room := { frames := 5, cells := 1, slots := 10, locals := 69 }
theorem fill (l : Launch) (Z : State) (a0 : Array Value) (hw : ∀ d ∈ tables_1, d.before a0 Z = true) (ws : List Jvm.Cond) (a : Addr) (q : Addr) (dd : Addr) (n : Nat) (z : Int32) (h0 : Heap) (n0 : Nat) (Z0 : n0 ≤ h0.size) (E_a : Exa Z h0 a "java/util/ArrayList") (F_size_a : Fld Z h0 a "java/util/ArrayList" "size" "I" (.int (0 : Int32))) (F_elementData_a : Fld Z h0 a "java/util/ArrayList" "elementData" "[Ljava/lang/Object;" (.ref dd)) (F_modCount_a : Fld Z h0 a "java/util/AbstractList" "modCount" "I" (.int (0 : Int32))) (g_a : n0 ≤ a) (O_D : Sta Z Z.heap "java/util/ArrayList" "DEFAULTCAPACITY_EMPTY_ELEMENTDATA" "[Ljava/lang/Object;" (.ref dd)) (A_D : Av Z Z.heap dd (.object "java/lang/Object") 0 (fun _ => .null)) (X00 : Old Z n0 h0) (E_q : Exa Z h0 q "com/example/gleipnir/gleipnir/service/Counterplay$Position") (hn : HN n z) :
    MetFree l my17 (head1 (Jvm.Cond.code my17 method_3_code 3 none :: ws) Rm_fill) (fun aa_ U => aa_ = #[(.ref a), (.ref q), (.int z)] ∧ Z.Warmed39 U.vm ∧ U.heap = h0) (fun _ _ _ _ _ => True) (fun _ U oo_ U' => ∃ v L, oo_ = .returned v ∧ Qfill Z a q dd n z h0 n0 v U'.heap L ∧ FrameEnd U oo_ U' L Rm_fill.cells Rm_fill.slots) := by
  rcases hn with ⟨rfl, rfl⟩ | ⟨rfl, rfl⟩ | ⟨rfl, rfl⟩ | ⟨rfl, rfl⟩ | ⟨rfl, rfl⟩ | ⟨rfl, rfl⟩
  · exact fill_1 l Z a0 hw ws a q dd h0 n0 Z0 E_a F_size_a F_elementData_a F_modCount_a g_a O_D A_D X00 E_q
  · exact fill_2 l Z a0 hw ws a q dd h0 n0 Z0 E_a F_size_a F_elementData_a F_modCount_a g_a O_D A_D X00 E_q
  · exact fill_3 l Z a0 hw ws a q dd h0 n0 Z0 E_a F_size_a F_elementData_a F_modCount_a g_a O_D A_D X00 E_q
  · exact fill_4 l Z a0 hw ws a q dd h0 n0 Z0 E_a F_size_a F_elementData_a F_modCount_a g_a O_D A_D X00 E_q
  · exact fill_5 l Z a0 hw ws a q dd h0 n0 Z0 E_a F_size_a F_elementData_a F_modCount_a g_a O_D A_D X00 E_q
  · exact fill_6 l Z a0 hw ws a q dd h0 n0 Z0 E_a F_size_a F_elementData_a F_modCount_a g_a O_D A_D X00 E_q
theorem d24_0 : decode jdk_31_method_10_code 0 = .ok (.aload_n 0, 1) := by decide +kernel
theorem d24_1 : decode jdk_31_method_10_code 1 = .ok (.ifnonnull 11, 3) := by decide +kernel
theorem d24_12 : decode jdk_31_method_10_code 12 = .ok (.aload_n 0, 1) := by decide +kernel
theorem d24_13 : decode jdk_31_method_10_code 13 = .ok (.areturn, 1) := by decide +kernel
theorem pn_11 : plainName "java/util/Objects" = true := by first | (simp [plainName, overriddenIn]; done) | decide +kernel
theorem ef_24 (m : MethodId) (x0 : Addr) : entryFrame m #[(.ref x0)] 1 = mkF m 0 #[.val (.ref x0)] [] := by first | (simp [entryFrame, mkF, argsToLocals, Value.category]; done) | rfl
def Qrm24 (Z : State) (q : Addr) (h0 : Heap) (n0 : Nat) (v : Option Value) (h : Heap) (L : List Loc) : Prop := v = some (.ref q) ∧ Fr n0 L ∧ h = h0
set_option maxRecDepth 65536 in
set_option maxHeartbeats 40000000 in
abbrev my18 : MethodName := ⟨"java/util/Objects", "requireNonNull", "(Ljava/lang/Object;)Ljava/lang/Object;"⟩
abbrev Rm_rm24 : Room := { frames := 0, cells := 0, slots := 0, locals := 0 }
theorem rm24 (l : Launch) (Z : State) (a0 : Array Value) (hw : ∀ d ∈ tables_1, d.before a0 Z = true) (ws : List Jvm.Cond) (q : Addr) (h0 : Heap) (n0 : Nat) (Z0 : n0 ≤ h0.size) :
    MetFree l my18 (head1 (Jvm.Cond.code my18 jdk_31_method_10_code 1 (some (.object "java/lang/Object")) :: ws) Rm_rm24) (fun aa_ U => aa_ = #[(.ref q)] ∧ Z.Warmed39 U.vm ∧ U.heap = h0) (fun _ _ _ _ _ => True) (fun _ U oo_ U' => ∃ v L, oo_ = .returned v ∧ Qrm24 Z q h0 n0 v U'.heap L ∧ FrameEnd U oo_ U' L Rm_rm24.cells Rm_rm24.slots) := by
  refine MetFree.of_bodySF (plainFor_of_name pn_11) hisR ?_
  intro p e s m args below meth c s₁ Bd hml0 hP hK
  obtain ⟨rfl, hZ, hh⟩ := hP
  have hx := Bd.exec
  have hby := Bd.bytes
  have hml : c.maxLocals = 1 := hml0
  have hown : s.vm.findClass "java/util/Objects" = some m.cls := findClass_of_methodNamed Bd.named
  have hnm := (name_of_methodNamed Bd.named Bd.method).1
  have X0 : Stand p l e Rm_rm24 s m #[(.ref q)] below meth c s₁ [] 0 0 := Stand.of_body Bd
  have e0 : s₁.heap = h0 := by rw [← hh, Bd.state]; rfl
  have N0 := Fr.nil n0
  have pre0 : ∀ tt_, Steps p.tables e below (s₁.setTop (mkF m 0 #[.val (.ref q)] [])) tt_ → Steps p.tables e below (s₁.setTop (entryFrame m #[(.ref q)] 1)) tt_ := fun tt_ kk_ => castTop (ef_24 m q) kk_
  obtain ⟨fs, hr, hrun, hended, hW, hsame⟩ := X0.leave (v := some (.ref q)) (fun h => by rw [Bd.returns] at h; cases h)
  refine ⟨_, _, pre0 _ ?_, hrun, hended, _, _, rfl, ?_, ⟨_, rfl⟩, hW, hsame.mono (by decide) (by decide)⟩
  · show Steps p.tables e below (s₁.setTop (mkF m 0 #[.val (.ref q)] [])) _
    refine XS.aloadN X0.here hx rfl (hb hby d24_0) rfl rfl ?_
    refine XS.ifnonnullYes X0.here hx rfl (pc0 := 1) (pc' := 12) rfl (hb hby d24_1) rfl (by decide) (by decide) ?_
    refine XS.aloadN X0.here hx rfl (hb hby d24_12) rfl rfl ?_
    jvm_step X0.here [X0.here.top, hx, (hb hby d24_13), X0.method', Bd.returns, Value.isRef, FieldType.isReference]
    first | (intro acts; rw [hr _ acts rfl rfl rfl]) | rw [hr _ _ rfl rfl rfl]
    exact Steps.refl _
  · show Qrm24 Z q h0 n0 _ s₁.heap _
    rw [e0]
    exact ⟨rfl, N0, rfl⟩
theorem hwd160 {Z : State} {a0 : Array Value} (hw : ∀ d ∈ tables_1, d.before a0 Z = true) : (Jvm.Cond.methodLink "java/util/ImmutableCollections$ListN" (1 : Nat) ({ cls := "java/util/ImmutableCollections$AbstractImmutableList", name := "<init>", desc := "()V" } : Jvm.MethodName)).before a0 Z = true := hw _ (List.mem_of_getElem? (i := 160) rfl)
theorem hwd165 {Z : State} {a0 : Array Value} (hw : ∀ d ∈ tables_1, d.before a0 Z = true) : (Jvm.Cond.code ({ cls := "java/util/ImmutableCollections$AbstractImmutableList", name := "<init>", desc := "()V" } : Jvm.MethodName) jdk_46_method_1_code (1 : Nat) (Option.none : Option Jvm.ClassFile.FieldType)).before a0 Z = true := hw _ (List.mem_of_getElem? (i := 165) rfl)
theorem hwd164 {Z : State} {a0 : Array Value} (hw : ∀ d ∈ tables_1, d.before a0 Z = true) : (Jvm.Cond.initialized "java/util/ImmutableCollections$AbstractImmutableList").before a0 Z = true := hw _ (List.mem_of_getElem? (i := 164) rfl)
theorem hwd161 {Z : State} {a0 : Array Value} (hw : ∀ d ∈ tables_1, d.before a0 Z = true) : (Jvm.Cond.instanceMethod ({ cls := "java/util/ImmutableCollections$AbstractImmutableList", name := "<init>", desc := "()V" } : Jvm.MethodName)).before a0 Z = true := hw _ (List.mem_of_getElem? (i := 161) rfl)
theorem hwd174 {Z : State} {a0 : Array Value} (hw : ∀ d ∈ tables_1, d.before a0 Z = true) : (Jvm.Cond.fieldLink "java/util/ImmutableCollections$ListN" (7 : Nat) "java/util/ImmutableCollections$ListN" "elements" "[Ljava/lang/Object;").before a0 Z = true := hw _ (List.mem_of_getElem? (i := 174) rfl)
theorem hwd175 {Z : State} {a0 : Array Value} (hw : ∀ d ∈ tables_1, d.before a0 Z = true) : (Jvm.Cond.laysFinal "java/util/ImmutableCollections$ListN" "java/util/ImmutableCollections$ListN" "elements" "[Ljava/lang/Object;").before a0 Z = true := hw _ (List.mem_of_getElem? (i := 175) rfl)
theorem hwd176 {Z : State} {a0 : Array Value} (hw : ∀ d ∈ tables_1, d.before a0 Z = true) : (Jvm.Cond.fieldLink "java/util/ImmutableCollections$ListN" (13 : Nat) "java/util/ImmutableCollections$ListN" "allowNulls" "Z").before a0 Z = true := hw _ (List.mem_of_getElem? (i := 176) rfl)
theorem hwd177 {Z : State} {a0 : Array Value} (hw : ∀ d ∈ tables_1, d.before a0 Z = true) : (Jvm.Cond.laysFinal "java/util/ImmutableCollections$ListN" "java/util/ImmutableCollections$ListN" "allowNulls" "Z").before a0 Z = true := hw _ (List.mem_of_getElem? (i := 177) rfl)
theorem d25_0 : decode jdk_45_method_1_code 0 = .ok (.aload_n 0, 1) := by decide +kernel
theorem d25_1 : decode jdk_45_method_1_code 1 = .ok (.invokespecial 1, 3) := by decide +kernel
theorem d25_4 : decode jdk_45_method_1_code 4 = .ok (.aload_n 0, 1) := by decide +kernel
theorem d25_5 : decode jdk_45_method_1_code 5 = .ok (.aload_n 1, 1) := by decide +kernel
theorem d25_6 : decode jdk_45_method_1_code 6 = .ok (.putfield 7, 3) := by decide +kernel
theorem d25_9 : decode jdk_45_method_1_code 9 = .ok (.aload_n 0, 1) := by decide +kernel
theorem d25_10 : decode jdk_45_method_1_code 10 = .ok (.iload_n 2, 1) := by decide +kernel
theorem d25_11 : decode jdk_45_method_1_code 11 = .ok (.putfield 13, 3) := by decide +kernel
theorem d25_14 : decode jdk_45_method_1_code 14 = .ok (.return_, 1) := by decide +kernel
theorem pn_12 : plainName "java/util/ImmutableCollections$ListN" = true := by first | (simp [plainName, overriddenIn]; done) | decide +kernel
theorem ef_25 (m : MethodId) (x0 : Addr) (x1 : Addr) (x2 : Int32) : entryFrame m #[(.ref x0), (.ref x1), (.int x2)] 3 = mkF m 0 #[.val (.ref x0), .val (.ref x1), .val (.int x2)] [] := by first | (simp [entryFrame, mkF, argsToLocals, Value.category]; done) | rfl
def Qrm25 (Z : State) (a : Addr) (t : Addr) (h0 : Heap) (n0 : Nat) (v : Option Value) (h : Heap) (L : List Loc) : Prop := v = none ∧ Fr n0 L ∧ Keep h0 h [a] ∧ Exa Z h a "java/util/ImmutableCollections$ListN" ∧ Fld Z h a "java/util/ImmutableCollections$ListN" "elements" "[Ljava/lang/Object;" (.ref t)
set_option maxRecDepth 65536 in
set_option maxHeartbeats 40000000 in
abbrev my19 : MethodName := ⟨"java/util/ImmutableCollections$ListN", "<init>", "([Ljava/lang/Object;Z)V"⟩
abbrev Rm_rm25 : Room := { frames := 4, cells := 0, slots := 0, locals := 48 }
theorem rm25 (l : Launch) (Z : State) (a0 : Array Value) (hw : ∀ d ∈ tables_1, d.before a0 Z = true) (ws : List Jvm.Cond) (a : Addr) (t : Addr) (h0 : Heap) (n0 : Nat) (Z0 : n0 ≤ h0.size) (E_a : Exa Z h0 a "java/util/ImmutableCollections$ListN") (F_elements_a : Fld Z h0 a "java/util/ImmutableCollections$ListN" "elements" "[Ljava/lang/Object;" .null) (F_allowNulls_a : Fld Z h0 a "java/util/ImmutableCollections$ListN" "allowNulls" "Z" (.int (0 : Int32))) (g_a : n0 ≤ a) :
    MetFree l my19 (head1 (Jvm.Cond.code my19 jdk_45_method_1_code 3 none :: ws) Rm_rm25) (fun aa_ U => aa_ = #[(.ref a), (.ref t), (.int (0 : Int32))] ∧ Z.Warmed39 U.vm ∧ U.heap = h0) (fun _ _ _ _ _ => True) (fun _ U oo_ U' => ∃ v L, oo_ = .returned v ∧ Qrm25 Z a t h0 n0 v U'.heap L ∧ FrameEnd U oo_ U' L Rm_rm25.cells Rm_rm25.slots) := by
  refine MetFree.of_bodySF (plainFor_of_name pn_12) hisR ?_
  intro p e s m args below meth c s₁ Bd hml0 hP hK
  obtain ⟨rfl, hZ, hh⟩ := hP
  have hx := Bd.exec
  have hby := Bd.bytes
  have hml : c.maxLocals = 3 := hml0
  have hown : s.vm.findClass "java/util/ImmutableCollections$ListN" = some m.cls := findClass_of_methodNamed Bd.named
  have hnm := (name_of_methodNamed Bd.named Bd.method).1
  have X0 : Stand p l e Rm_rm25 s m #[(.ref a), (.ref t), (.int (0 : Int32))] below meth c s₁ [] 0 0 := Stand.of_body Bd
  have e0 : s₁.heap = h0 := by rw [← hh, Bd.state]; rfl
  have N0 := Fr.nil n0
  have pre0 : ∀ tt_, Steps p.tables e below (s₁.setTop (mkF m 0 #[.val (.ref a), .val (.ref t), .val (.int (0 : Int32))] [])) tt_ → Steps p.tables e below (s₁.setTop (entryFrame m #[(.ref a), (.ref t), (.int (0 : Int32))] 3)) tt_ := fun tt_ kk_ => castTop (ef_25 m a t (0 : Int32)) kk_
  obtain ⟨_, _, ⟨T1, L1, k1, n1⟩, -, X1, ⟨Lc1, hQ1, l1, y1, z1⟩, st1⟩ := X0.specialBack hx (y := my3) rfl hown (mvT hZ (hwd160 hw)) (mvT hZ (hwd161 hw)) (mvT hZ (hwd165 hw)) (by decide) (backOf (W := 0) (rm26 l Z a0 hw [] a h0 n0 Z0 ) hZ (hwd165 hw) (hwd164 hw) (by decide) (by decide)) (g := (mkF m 1 #[.val (.ref a), .val (.ref t), .val (.int (0 : Int32))] [(.ref a)])) rfl (by rw [hml]; rfl) (Steps.refl _) (a := a) (argsL := []) (rest := []) (lenOf pd_0 rfl) rfl (by show 2 * 0 + _ ≤ _; exact Nat.le_of_eq rfl) (hb hby d25_1) (fun _ _ => ⟨rfl, e0, (by decide : 0 + 0 ≤ _), (by decide : 0 + 0 ≤ _)⟩)
  dsimp only [Pt.U, Pt.locs, Pt.cells, Pt.slots] at X1 l1 y1 z1 st1 hQ1
  subst l1 y1 z1
  obtain ⟨rfl, N1q, e1q⟩ := hQ1
  have N1 := Fr.app N0 N1q
  obtain ⟨T2, h2, X2, e2, W2, st2⟩ := putF X1 hx hZ hown (host := "") (Or.inl (hwd174 hw)) Via.refl e1q F_elements_a E_a (Or.inr ⟨(hwd175 hw), rfl, hnm⟩) (hwd154 hw) (ty := (.array (.object "java/lang/Object"))) (by decide) rfl rfl (g := (mkF m 6 #[.val (.ref a), .val (.ref t), .val (.int (0 : Int32))] [(.ref t), (.ref a)])) rfl rfl (hb hby d25_6)
  have N2 := Fr.snoc X2 N1 g_a
  have Fw2 := F_elements_a.same W2
  have f3_E_a := (E_a.wr W2)
  have f4_F_a_allowNulls := (F_allowNulls_a.other W2 (Or.inr (slot_ne (Or.inr (hwd177 hw)) (Or.inr (hwd175 hw)) (by decide) (t := .boolean) (t' := (.array (.object "java/lang/Object"))) (by decide) (by decide))))
  obtain ⟨T5, h5, X5, e5, W5, st5⟩ := putFN X2 hx hZ hown (hwd176 hw) Via.refl e2 f4_F_a_allowNulls f3_E_a (Or.inr ⟨(hwd177 hw), rfl, hnm⟩) (hwd154 hw) (ty := .boolean) (v' := (.int (0 : Int32))) (by decide) rfl (by first | exact fits_nar_bool _ | rfl) (g := (mkF m 11 #[.val (.ref a), .val (.ref t), .val (.int (0 : Int32))] [(.int (0 : Int32)), (.ref a)])) rfl rfl (hb hby d25_11)
  have N5 := Fr.snoc X5 N2 g_a
  have Fw5 := f4_F_a_allowNulls.same W5
  have kp6 : Keep h0 h5 [a] := (((Keep.refl h0 [a]).wr W2 (Or.inl (List.mem_of_getElem? (i := 0) rfl))).wr W5 (Or.inl (List.mem_of_getElem? (i := 0) rfl)))
  have f7_E_a := (f3_E_a.wr W5)
  have f8_F_a_elements := (Fw2.other W5 (Or.inr (slot_ne (Or.inr (hwd175 hw)) (Or.inr (hwd177 hw)) (by decide) (t := (.array (.object "java/lang/Object"))) (t' := .boolean) (by decide) (by decide))))
  obtain ⟨fs, hr, hrun, hended, hW, hsame⟩ := X5.leave (v := none) (fun _ => rfl)
  refine ⟨_, _, pre0 _ ?_, hrun, hended, _, _, rfl, ?_, ⟨_, rfl⟩, hW, hsame.mono (by decide) (by decide)⟩
  · show Steps p.tables e below (s₁.setTop (mkF m 0 #[.val (.ref a), .val (.ref t), .val (.int (0 : Int32))] [])) _
    refine XS.aloadN X0.here hx rfl (hb hby d25_0) rfl rfl ?_
    refine st1.trans ?_
    refine XS.aloadN X1.here hx rfl (hb hby d25_4) rfl rfl ?_
    refine XS.aloadN X1.here hx rfl (hb hby d25_5) rfl rfl ?_
    refine st2 _ ?_
    refine XS.aloadN X2.here hx rfl (hb hby d25_9) rfl rfl ?_
    show Steps p.tables e below (T2.setTop (mkF m 10 #[.val (.ref a), .val (.ref t), .val (.int (0 : Int32))] [(.ref a)])) _
    refine XS.iloadN X2.here hx rfl (hb hby d25_10) rfl ?_
    refine st5 _ ?_
    exact X5.returnOut hx Bd.returns (hb hby d25_14) hr
  · show Qrm25 Z a t h0 n0 _ T5.heap _
    rw [e5]
    exact ⟨rfl, N5, kp6, f7_E_a, f8_F_a_elements⟩
theorem hwd221 {Z : State} {a0 : Array Value} (hw : ∀ d ∈ tables_1, d.before a0 Z = true) : (Jvm.Cond.methodLink "java/util/ImmutableCollections$List12" (1 : Nat) ({ cls := "java/util/ImmutableCollections$AbstractImmutableList", name := "<init>", desc := "()V" } : Jvm.MethodName)).before a0 Z = true := hw _ (List.mem_of_getElem? (i := 221) rfl)
theorem hwd225 {Z : State} {a0 : Array Value} (hw : ∀ d ∈ tables_1, d.before a0 Z = true) : (Jvm.Cond.methodLink "java/util/ImmutableCollections$List12" (7 : Nat) ({ cls := "java/util/Objects", name := "requireNonNull", desc := "(Ljava/lang/Object;)Ljava/lang/Object;" } : Jvm.MethodName)).before a0 Z = true := hw _ (List.mem_of_getElem? (i := 225) rfl)
theorem hwd153 {Z : State} {a0 : Array Value} (hw : ∀ d ∈ tables_1, d.before a0 Z = true) : (Jvm.Cond.code ({ cls := "java/util/Objects", name := "requireNonNull", desc := "(Ljava/lang/Object;)Ljava/lang/Object;" } : Jvm.MethodName) jdk_31_method_10_code (1 : Nat) (Option.some (Jvm.ClassFile.FieldType.object "java/lang/Object"))).before a0 Z = true := hw _ (List.mem_of_getElem? (i := 153) rfl)
theorem hwd152 {Z : State} {a0 : Array Value} (hw : ∀ d ∈ tables_1, d.before a0 Z = true) : (Jvm.Cond.initialized "java/util/Objects").before a0 Z = true := hw _ (List.mem_of_getElem? (i := 152) rfl)
theorem pd_9 : parseMethodDescriptor "(Ljava/lang/Object;)Ljava/lang/Object;" = some ⟨[(.object "java/lang/Object")], some (.object "java/lang/Object")⟩ := by decide +kernel
theorem hwd151 {Z : State} {a0 : Array Value} (hw : ∀ d ∈ tables_1, d.before a0 Z = true) : (Jvm.Cond.static ({ cls := "java/util/Objects", name := "requireNonNull", desc := "(Ljava/lang/Object;)Ljava/lang/Object;" } : Jvm.MethodName)).before a0 Z = true := hw _ (List.mem_of_getElem? (i := 151) rfl)
theorem hwd226 {Z : State} {a0 : Array Value} (hw : ∀ d ∈ tables_1, d.before a0 Z = true) : (Jvm.Cond.fieldLink "java/util/ImmutableCollections$List12" (13 : Nat) "java/util/ImmutableCollections$List12" "e0" "Ljava/lang/Object;").before a0 Z = true := hw _ (List.mem_of_getElem? (i := 226) rfl)
theorem hwd227 {Z : State} {a0 : Array Value} (hw : ∀ d ∈ tables_1, d.before a0 Z = true) : (Jvm.Cond.laysFinal "java/util/ImmutableCollections$List12" "java/util/ImmutableCollections$List12" "e0" "Ljava/lang/Object;").before a0 Z = true := hw _ (List.mem_of_getElem? (i := 227) rfl)
theorem hwd228 {Z : State} {a0 : Array Value} (hw : ∀ d ∈ tables_1, d.before a0 Z = true) : (Jvm.Cond.fieldLinkNest "java/util/ImmutableCollections$List12" (19 : Nat) "java/util/ImmutableCollections" "EMPTY" "Ljava/lang/Object;" "java/util/ImmutableCollections").before a0 Z = true := hw _ (List.mem_of_getElem? (i := 228) rfl)
theorem hwd229 {Z : State} {a0 : Array Value} (hw : ∀ d ∈ tables_1, d.before a0 Z = true) : (Jvm.Cond.fieldLink "java/util/ImmutableCollections$List12" (24 : Nat) "java/util/ImmutableCollections$List12" "e1" "Ljava/lang/Object;").before a0 Z = true := hw _ (List.mem_of_getElem? (i := 229) rfl)
theorem hwd230 {Z : State} {a0 : Array Value} (hw : ∀ d ∈ tables_1, d.before a0 Z = true) : (Jvm.Cond.laysFinal "java/util/ImmutableCollections$List12" "java/util/ImmutableCollections$List12" "e1" "Ljava/lang/Object;").before a0 Z = true := hw _ (List.mem_of_getElem? (i := 230) rfl)
theorem d33_0 : decode jdk_44_method_1_code 0 = .ok (.aload_n 0, 1) := by decide +kernel
theorem d33_1 : decode jdk_44_method_1_code 1 = .ok (.invokespecial 1, 3) := by decide +kernel
theorem d33_4 : decode jdk_44_method_1_code 4 = .ok (.aload_n 0, 1) := by decide +kernel
theorem d33_5 : decode jdk_44_method_1_code 5 = .ok (.aload_n 1, 1) := by decide +kernel
theorem d33_6 : decode jdk_44_method_1_code 6 = .ok (.invokestatic 7, 3) := by decide +kernel
theorem d33_9 : decode jdk_44_method_1_code 9 = .ok (.putfield 13, 3) := by decide +kernel
theorem d33_12 : decode jdk_44_method_1_code 12 = .ok (.aload_n 0, 1) := by decide +kernel
theorem d33_13 : decode jdk_44_method_1_code 13 = .ok (.getstatic 19, 3) := by decide +kernel
theorem d33_16 : decode jdk_44_method_1_code 16 = .ok (.putfield 24, 3) := by decide +kernel
theorem d33_19 : decode jdk_44_method_1_code 19 = .ok (.return_, 1) := by decide +kernel
theorem pn_13 : plainName "java/util/ImmutableCollections$List12" = true := by first | (simp [plainName, overriddenIn]; done) | decide +kernel
theorem ef_33 (m : MethodId) (x0 : Addr) (x1 : Addr) : entryFrame m #[(.ref x0), (.ref x1)] 2 = mkF m 0 #[.val (.ref x0), .val (.ref x1)] [] := by first | (simp [entryFrame, mkF, argsToLocals, Value.category]; done) | rfl
def Qrm33 (Z : State) (a : Addr) (q : Addr) (em : Addr) (h0 : Heap) (n0 : Nat) (v : Option Value) (h : Heap) (L : List Loc) : Prop := v = none ∧ Fr n0 L ∧ Keep h0 h [a] ∧ Exa Z h a "java/util/ImmutableCollections$List12" ∧ Fld Z h a "java/util/ImmutableCollections$List12" "e1" "Ljava/lang/Object;" (.ref em)
set_option maxRecDepth 65536 in
set_option maxHeartbeats 40000000 in
abbrev my20 : MethodName := ⟨"java/util/ImmutableCollections$List12", "<init>", "(Ljava/lang/Object;)V"⟩
abbrev Rm_rm33 : Room := { frames := 4, cells := 0, slots := 0, locals := 48 }
theorem rm33 (l : Launch) (Z : State) (a0 : Array Value) (hw : ∀ d ∈ tables_1, d.before a0 Z = true) (ws : List Jvm.Cond) (a : Addr) (q : Addr) (em : Addr) (h0 : Heap) (n0 : Nat) (Z0 : n0 ≤ h0.size) (E_a : Exa Z h0 a "java/util/ImmutableCollections$List12") (F_e0_a : Fld Z h0 a "java/util/ImmutableCollections$List12" "e0" "Ljava/lang/Object;" .null) (F_e1_a : Fld Z h0 a "java/util/ImmutableCollections$List12" "e1" "Ljava/lang/Object;" .null) (g_a : n0 ≤ a) (O_M : Sta Z Z.heap "java/util/ImmutableCollections" "EMPTY" "Ljava/lang/Object;" (.ref em)) (X00 : Old Z n0 h0) :
    MetFree l my20 (head1 (Jvm.Cond.code my20 jdk_44_method_1_code 2 none :: ws) Rm_rm33) (fun aa_ U => aa_ = #[(.ref a), (.ref q)] ∧ Z.Warmed39 U.vm ∧ U.heap = h0) (fun _ _ _ _ _ => True) (fun _ U oo_ U' => ∃ v L, oo_ = .returned v ∧ Qrm33 Z a q em h0 n0 v U'.heap L ∧ FrameEnd U oo_ U' L Rm_rm33.cells Rm_rm33.slots) := by
  refine MetFree.of_bodySF (plainFor_of_name pn_13) hisR ?_
  intro p e s m args below meth c s₁ Bd hml0 hP hK
  obtain ⟨rfl, hZ, hh⟩ := hP
  have hx := Bd.exec
  have hby := Bd.bytes
  have hml : c.maxLocals = 2 := hml0
  have hown : s.vm.findClass "java/util/ImmutableCollections$List12" = some m.cls := findClass_of_methodNamed Bd.named
  have hnm := (name_of_methodNamed Bd.named Bd.method).1
  have X0 : Stand p l e Rm_rm33 s m #[(.ref a), (.ref q)] below meth c s₁ [] 0 0 := Stand.of_body Bd
  have e0 : s₁.heap = h0 := by rw [← hh, Bd.state]; rfl
  have N0 := Fr.nil n0
  have pre0 : ∀ tt_, Steps p.tables e below (s₁.setTop (mkF m 0 #[.val (.ref a), .val (.ref q)] [])) tt_ → Steps p.tables e below (s₁.setTop (entryFrame m #[(.ref a), (.ref q)] 2)) tt_ := fun tt_ kk_ => castTop (ef_33 m a q) kk_
  obtain ⟨_, _, ⟨T1, L1, k1, n1⟩, -, X1, ⟨Lc1, hQ1, l1, y1, z1⟩, st1⟩ := X0.specialBack hx (y := my3) rfl hown (mvT hZ (hwd221 hw)) (mvT hZ (hwd161 hw)) (mvT hZ (hwd165 hw)) (by decide) (backOf (W := 0) (rm26 l Z a0 hw [] a h0 n0 Z0 ) hZ (hwd165 hw) (hwd164 hw) (by decide) (by decide)) (g := (mkF m 1 #[.val (.ref a), .val (.ref q)] [(.ref a)])) rfl (by rw [hml]; rfl) (Steps.refl _) (a := a) (argsL := []) (rest := []) (lenOf pd_0 rfl) rfl (by show 2 * 0 + _ ≤ _; exact Nat.le_of_eq rfl) (hb hby d33_1) (fun _ _ => ⟨rfl, e0, (by decide : 0 + 0 ≤ _), (by decide : 0 + 0 ≤ _)⟩)
  dsimp only [Pt.U, Pt.locs, Pt.cells, Pt.slots] at X1 l1 y1 z1 st1 hQ1
  subst l1 y1 z1
  obtain ⟨rfl, N1q, e1q⟩ := hQ1
  have N1 := Fr.app N0 N1q
  obtain ⟨_, _, ⟨T2, L2, k2, n2⟩, -, X2, ⟨Lc2, hQ2, l2, y2, z2⟩, st2⟩ := Jvm.LawKit.callS X1 hx (y := my18) hown (mvT hZ (hwd225 hw)) (mvT hZ (hwd151 hw)) (mvT hZ (hwd152 hw)) (mvT hZ (hwd153 hw)) (by decide) (backOf (W := 1) (rm24 l Z a0 hw [] q h0 n0 Z0 ) hZ (hwd153 hw) (hwd152 hw) (by decide) (by decide)) (g := (mkF m 6 #[.val (.ref a), .val (.ref q)] [(.ref q), (.ref a)])) rfl (by rw [hml]; rfl) (argsL := [(.ref q)]) (rest := [(.ref a)]) (lenOf pd_9 rfl) rfl (by show 2 * 0 + _ ≤ _; exact Nat.le_of_eq rfl) (hb hby d33_6) (fun _ _ => ⟨rfl, e1q, (by decide : 0 + 0 ≤ _), (by decide : 0 + 0 ≤ _)⟩)
  dsimp only [Pt.U, Pt.locs, Pt.cells, Pt.slots] at X2 l2 y2 z2 st2 hQ2
  subst l2 y2 z2
  obtain ⟨rfl, N2q, e2q⟩ := hQ2
  have N2 := Fr.app N1 N2q
  obtain ⟨T3, h3, X3, e3, W3, st3⟩ := putF X2 hx hZ hown (host := "") (Or.inl (hwd226 hw)) Via.refl e2q F_e0_a E_a (Or.inr ⟨(hwd227 hw), rfl, hnm⟩) (hwd215 hw) (ty := (.object "java/lang/Object")) (by decide) rfl rfl (g := (mkF m 9 #[.val (.ref a), .val (.ref q)] [(.ref q), (.ref a)])) rfl rfl (hb hby d33_9)
  have N3 := Fr.snoc X3 N2 g_a
  have Fw3 := F_e0_a.same W3
  have old4 : Old Z n0 h3 := (X00.wr W3 g_a)
  obtain ⟨T5, X5, e5, st5⟩ := getS2 X3 hx hZ hown (Or.inr (hwd228 hw)) Via.refl e3 (O_M.ext old4.2) (g := (mkF m 13 #[.val (.ref a), .val (.ref q)] [(.ref a)])) rfl (hb hby d33_13)
  have f6_E_a := (E_a.wr W3)
  have f7_F_a_e1 := (F_e1_a.other W3 (Or.inr (slot_ne (Or.inr (hwd230 hw)) (Or.inr (hwd227 hw)) (by decide) (t := (.object "java/lang/Object")) (t' := (.object "java/lang/Object")) (by decide) (by decide))))
  obtain ⟨T8, h8, X8, e8, W8, st8⟩ := putF X5 hx hZ hown (host := "") (Or.inl (hwd229 hw)) Via.refl e5 f7_F_a_e1 f6_E_a (Or.inr ⟨(hwd230 hw), rfl, hnm⟩) (hwd215 hw) (ty := (.object "java/lang/Object")) (by decide) rfl rfl (g := (mkF m 16 #[.val (.ref a), .val (.ref q)] [(.ref em), (.ref a)])) rfl rfl (hb hby d33_16)
  have N8 := Fr.snoc X8 N3 g_a
  have Fw8 := f7_F_a_e1.same W8
  have kp9 : Keep h0 h8 [a] := (((Keep.refl h0 [a]).wr W3 (Or.inl (List.mem_of_getElem? (i := 0) rfl))).wr W8 (Or.inl (List.mem_of_getElem? (i := 0) rfl)))
  have f10_E_a := (f6_E_a.wr W8)
  obtain ⟨fs, hr, hrun, hended, hW, hsame⟩ := X8.leave (v := none) (fun _ => rfl)
  refine ⟨_, _, pre0 _ ?_, hrun, hended, _, _, rfl, ?_, ⟨_, rfl⟩, hW, hsame.mono (by decide) (by decide)⟩
  · show Steps p.tables e below (s₁.setTop (mkF m 0 #[.val (.ref a), .val (.ref q)] [])) _
    refine XS.aloadN X0.here hx rfl (hb hby d33_0) rfl rfl ?_
    refine st1.trans ?_
    refine XS.aloadN X1.here hx rfl (hb hby d33_4) rfl rfl ?_
    refine XS.aloadN X1.here hx rfl (hb hby d33_5) rfl rfl ?_
    refine st2 _ ?_
    refine st3 _ ?_
    show Steps p.tables e below (T3.setTop (mkF m 12 #[.val (.ref a), .val (.ref q)] [])) _
    refine XS.aloadN X3.here hx rfl (hb hby d33_12) rfl rfl ?_
    refine st5 _ ?_
    refine st8 _ ?_
    exact X8.returnOut hx Bd.returns (hb hby d33_19) hr
  · show Qrm33 Z a q em h0 n0 _ T8.heap _
    rw [e8]
    exact ⟨rfl, N8, kp9, f10_E_a, Fw8⟩
theorem d35_0 : decode jdk_44_method_2_code 0 = .ok (.aload_n 0, 1) := by decide +kernel
theorem d35_1 : decode jdk_44_method_2_code 1 = .ok (.invokespecial 1, 3) := by decide +kernel
theorem d35_4 : decode jdk_44_method_2_code 4 = .ok (.aload_n 0, 1) := by decide +kernel
theorem d35_5 : decode jdk_44_method_2_code 5 = .ok (.aload_n 1, 1) := by decide +kernel
theorem d35_6 : decode jdk_44_method_2_code 6 = .ok (.invokestatic 7, 3) := by decide +kernel
theorem d35_9 : decode jdk_44_method_2_code 9 = .ok (.putfield 13, 3) := by decide +kernel
theorem d35_12 : decode jdk_44_method_2_code 12 = .ok (.aload_n 0, 1) := by decide +kernel
theorem d35_13 : decode jdk_44_method_2_code 13 = .ok (.aload_n 2, 1) := by decide +kernel
theorem d35_14 : decode jdk_44_method_2_code 14 = .ok (.invokestatic 7, 3) := by decide +kernel
theorem d35_17 : decode jdk_44_method_2_code 17 = .ok (.putfield 24, 3) := by decide +kernel
theorem d35_20 : decode jdk_44_method_2_code 20 = .ok (.return_, 1) := by decide +kernel
theorem ef_35 (m : MethodId) (x0 : Addr) (x1 : Addr) (x2 : Addr) : entryFrame m #[(.ref x0), (.ref x1), (.ref x2)] 3 = mkF m 0 #[.val (.ref x0), .val (.ref x1), .val (.ref x2)] [] := by first | (simp [entryFrame, mkF, argsToLocals, Value.category]; done) | rfl
def Qrm35 (Z : State) (a : Addr) (q : Addr) (h0 : Heap) (n0 : Nat) (v : Option Value) (h : Heap) (L : List Loc) : Prop := v = none ∧ Fr n0 L ∧ Keep h0 h [a] ∧ Exa Z h a "java/util/ImmutableCollections$List12" ∧ Fld Z h a "java/util/ImmutableCollections$List12" "e1" "Ljava/lang/Object;" (.ref q)
set_option maxRecDepth 65536 in
set_option maxHeartbeats 40000000 in
abbrev my21 : MethodName := ⟨"java/util/ImmutableCollections$List12", "<init>", "(Ljava/lang/Object;Ljava/lang/Object;)V"⟩
abbrev Rm_rm35 : Room := { frames := 4, cells := 0, slots := 0, locals := 48 }
theorem rm35 (l : Launch) (Z : State) (a0 : Array Value) (hw : ∀ d ∈ tables_1, d.before a0 Z = true) (ws : List Jvm.Cond) (a : Addr) (q : Addr) (h0 : Heap) (n0 : Nat) (Z0 : n0 ≤ h0.size) (E_a : Exa Z h0 a "java/util/ImmutableCollections$List12") (F_e0_a : Fld Z h0 a "java/util/ImmutableCollections$List12" "e0" "Ljava/lang/Object;" .null) (F_e1_a : Fld Z h0 a "java/util/ImmutableCollections$List12" "e1" "Ljava/lang/Object;" .null) (g_a : n0 ≤ a) :
    MetFree l my21 (head1 (Jvm.Cond.code my21 jdk_44_method_2_code 3 none :: ws) Rm_rm35) (fun aa_ U => aa_ = #[(.ref a), (.ref q), (.ref q)] ∧ Z.Warmed39 U.vm ∧ U.heap = h0) (fun _ _ _ _ _ => True) (fun _ U oo_ U' => ∃ v L, oo_ = .returned v ∧ Qrm35 Z a q h0 n0 v U'.heap L ∧ FrameEnd U oo_ U' L Rm_rm35.cells Rm_rm35.slots) := by
  refine MetFree.of_bodySF (plainFor_of_name pn_13) hisR ?_
  intro p e s m args below meth c s₁ Bd hml0 hP hK
  obtain ⟨rfl, hZ, hh⟩ := hP
  have hx := Bd.exec
  have hby := Bd.bytes
  have hml : c.maxLocals = 3 := hml0
  have hown : s.vm.findClass "java/util/ImmutableCollections$List12" = some m.cls := findClass_of_methodNamed Bd.named
  have hnm := (name_of_methodNamed Bd.named Bd.method).1
  have X0 : Stand p l e Rm_rm35 s m #[(.ref a), (.ref q), (.ref q)] below meth c s₁ [] 0 0 := Stand.of_body Bd
  have e0 : s₁.heap = h0 := by rw [← hh, Bd.state]; rfl
  have N0 := Fr.nil n0
  have pre0 : ∀ tt_, Steps p.tables e below (s₁.setTop (mkF m 0 #[.val (.ref a), .val (.ref q), .val (.ref q)] [])) tt_ → Steps p.tables e below (s₁.setTop (entryFrame m #[(.ref a), (.ref q), (.ref q)] 3)) tt_ := fun tt_ kk_ => castTop (ef_35 m a q q) kk_
  obtain ⟨_, _, ⟨T1, L1, k1, n1⟩, -, X1, ⟨Lc1, hQ1, l1, y1, z1⟩, st1⟩ := X0.specialBack hx (y := my3) rfl hown (mvT hZ (hwd221 hw)) (mvT hZ (hwd161 hw)) (mvT hZ (hwd165 hw)) (by decide) (backOf (W := 0) (rm26 l Z a0 hw [] a h0 n0 Z0 ) hZ (hwd165 hw) (hwd164 hw) (by decide) (by decide)) (g := (mkF m 1 #[.val (.ref a), .val (.ref q), .val (.ref q)] [(.ref a)])) rfl (by rw [hml]; rfl) (Steps.refl _) (a := a) (argsL := []) (rest := []) (lenOf pd_0 rfl) rfl (by show 2 * 0 + _ ≤ _; exact Nat.le_of_eq rfl) (hb hby d35_1) (fun _ _ => ⟨rfl, e0, (by decide : 0 + 0 ≤ _), (by decide : 0 + 0 ≤ _)⟩)
  dsimp only [Pt.U, Pt.locs, Pt.cells, Pt.slots] at X1 l1 y1 z1 st1 hQ1
  subst l1 y1 z1
  obtain ⟨rfl, N1q, e1q⟩ := hQ1
  have N1 := Fr.app N0 N1q
  obtain ⟨_, _, ⟨T2, L2, k2, n2⟩, -, X2, ⟨Lc2, hQ2, l2, y2, z2⟩, st2⟩ := Jvm.LawKit.callS X1 hx (y := my18) hown (mvT hZ (hwd225 hw)) (mvT hZ (hwd151 hw)) (mvT hZ (hwd152 hw)) (mvT hZ (hwd153 hw)) (by decide) (backOf (W := 1) (rm24 l Z a0 hw [] q h0 n0 Z0 ) hZ (hwd153 hw) (hwd152 hw) (by decide) (by decide)) (g := (mkF m 6 #[.val (.ref a), .val (.ref q), .val (.ref q)] [(.ref q), (.ref a)])) rfl (by rw [hml]; rfl) (argsL := [(.ref q)]) (rest := [(.ref a)]) (lenOf pd_9 rfl) rfl (by show 2 * 0 + _ ≤ _; exact Nat.le_of_eq rfl) (hb hby d35_6) (fun _ _ => ⟨rfl, e1q, (by decide : 0 + 0 ≤ _), (by decide : 0 + 0 ≤ _)⟩)
  dsimp only [Pt.U, Pt.locs, Pt.cells, Pt.slots] at X2 l2 y2 z2 st2 hQ2
  subst l2 y2 z2
  obtain ⟨rfl, N2q, e2q⟩ := hQ2
  have N2 := Fr.app N1 N2q
  obtain ⟨T3, h3, X3, e3, W3, st3⟩ := putF X2 hx hZ hown (host := "") (Or.inl (hwd226 hw)) Via.refl e2q F_e0_a E_a (Or.inr ⟨(hwd227 hw), rfl, hnm⟩) (hwd215 hw) (ty := (.object "java/lang/Object")) (by decide) rfl rfl (g := (mkF m 9 #[.val (.ref a), .val (.ref q), .val (.ref q)] [(.ref q), (.ref a)])) rfl rfl (hb hby d35_9)
  have N3 := Fr.snoc X3 N2 g_a
  have Fw3 := F_e0_a.same W3
  have sz5 : n0 ≤ h3.size := (Nat.le_trans Z0 (Keep.of_wr W3).1)
  obtain ⟨_, _, ⟨T4, L4, k4, n4⟩, -, X4, ⟨Lc4, hQ4, l4, y4, z4⟩, st4⟩ := Jvm.LawKit.callS X3 hx (y := my18) hown (mvT hZ (hwd225 hw)) (mvT hZ (hwd151 hw)) (mvT hZ (hwd152 hw)) (mvT hZ (hwd153 hw)) (by decide) (backOf (W := 1) (rm24 l Z a0 hw [] q h3 n0 sz5 ) hZ (hwd153 hw) (hwd152 hw) (by decide) (by decide)) (g := (mkF m 14 #[.val (.ref a), .val (.ref q), .val (.ref q)] [(.ref q), (.ref a)])) rfl (by rw [hml]; rfl) (argsL := [(.ref q)]) (rest := [(.ref a)]) (lenOf pd_9 rfl) rfl (by show 2 * 0 + _ ≤ _; exact Nat.le_of_eq rfl) (hb hby d35_14) (fun _ _ => ⟨rfl, e3, (by decide : 0 + 0 ≤ _), (by decide : 0 + 0 ≤ _)⟩)
  dsimp only [Pt.U, Pt.locs, Pt.cells, Pt.slots] at X4 l4 y4 z4 st4 hQ4
  subst l4 y4 z4
  obtain ⟨rfl, N4q, e4q⟩ := hQ4
  have N4 := Fr.app N3 N4q
  have f6_E_a := (E_a.wr W3)
  have f7_F_a_e1 := (F_e1_a.other W3 (Or.inr (slot_ne (Or.inr (hwd230 hw)) (Or.inr (hwd227 hw)) (by decide) (t := (.object "java/lang/Object")) (t' := (.object "java/lang/Object")) (by decide) (by decide))))
  obtain ⟨T8, h8, X8, e8, W8, st8⟩ := putF X4 hx hZ hown (host := "") (Or.inl (hwd229 hw)) Via.refl e4q f7_F_a_e1 f6_E_a (Or.inr ⟨(hwd230 hw), rfl, hnm⟩) (hwd215 hw) (ty := (.object "java/lang/Object")) (by decide) rfl rfl (g := (mkF m 17 #[.val (.ref a), .val (.ref q), .val (.ref q)] [(.ref q), (.ref a)])) rfl rfl (hb hby d35_17)
  have N8 := Fr.snoc X8 N4 g_a
  have Fw8 := f7_F_a_e1.same W8
  have kp9 : Keep h0 h8 [a] := (((Keep.refl h0 [a]).wr W3 (Or.inl (List.mem_of_getElem? (i := 0) rfl))).wr W8 (Or.inl (List.mem_of_getElem? (i := 0) rfl)))
  have f10_E_a := (f6_E_a.wr W8)
  obtain ⟨fs, hr, hrun, hended, hW, hsame⟩ := X8.leave (v := none) (fun _ => rfl)
  refine ⟨_, _, pre0 _ ?_, hrun, hended, _, _, rfl, ?_, ⟨_, rfl⟩, hW, hsame.mono (by decide) (by decide)⟩
  · show Steps p.tables e below (s₁.setTop (mkF m 0 #[.val (.ref a), .val (.ref q), .val (.ref q)] [])) _
    refine XS.aloadN X0.here hx rfl (hb hby d35_0) rfl rfl ?_
    refine st1.trans ?_
    refine XS.aloadN X1.here hx rfl (hb hby d35_4) rfl rfl ?_
    refine XS.aloadN X1.here hx rfl (hb hby d35_5) rfl rfl ?_
    refine st2 _ ?_
    refine st3 _ ?_
    show Steps p.tables e below (T3.setTop (mkF m 12 #[.val (.ref a), .val (.ref q), .val (.ref q)] [])) _
    refine XS.aloadN X3.here hx rfl (hb hby d35_12) rfl rfl ?_
    refine XS.aloadN X3.here hx rfl (hb hby d35_13) rfl rfl ?_
    refine st4 _ ?_
    refine st8 _ ?_
    exact X8.returnOut hx Bd.returns (hb hby d35_20) hr
  · show Qrm35 Z a q h0 n0 _ T8.heap _
    rw [e8]
    exact ⟨rfl, N8, kp9, f10_E_a, Fw8⟩
theorem d34_0 : decode jdk_44_method_3_code 0 = .ok (.aload_n 0, 1) := by decide +kernel
theorem d34_1 : decode jdk_44_method_3_code 1 = .ok (.getfield 24, 3) := by decide +kernel
theorem d34_4 : decode jdk_44_method_3_code 4 = .ok (.getstatic 19, 3) := by decide +kernel
theorem d34_7 : decode jdk_44_method_3_code 7 = .ok (.if_acmp .eq 7, 3) := by decide +kernel
theorem d34_14 : decode jdk_44_method_3_code 14 = .ok (.iconst 1, 1) := by decide +kernel
theorem d34_15 : decode jdk_44_method_3_code 15 = .ok (.ireturn, 1) := by decide +kernel
theorem ef_34 (m : MethodId) (x0 : Addr) : entryFrame m #[(.ref x0)] 1 = mkF m 0 #[.val (.ref x0)] [] := by first | (simp [entryFrame, mkF, argsToLocals, Value.category]; done) | rfl
def Qs1 (Z : State) (a : Addr) (em : Addr) (h0 : Heap) (n0 : Nat) (v : Option Value) (h : Heap) (L : List Loc) : Prop := v = some (.int (1 : Int32)) ∧ Fr n0 L ∧ h = h0
set_option maxRecDepth 65536 in
set_option maxHeartbeats 40000000 in
abbrev my22 : MethodName := ⟨"java/util/ImmutableCollections$List12", "size", "()I"⟩
abbrev Rm_s1 : Room := { frames := 0, cells := 0, slots := 0, locals := 0 }
theorem s1 (l : Launch) (Z : State) (a0 : Array Value) (hw : ∀ d ∈ tables_1, d.before a0 Z = true) (ws : List Jvm.Cond) (a : Addr) (em : Addr) (h0 : Heap) (n0 : Nat) (Z0 : n0 ≤ h0.size) (F_e1_a : Fld Z h0 a "java/util/ImmutableCollections$List12" "e1" "Ljava/lang/Object;" (.ref em)) (O_M : Sta Z Z.heap "java/util/ImmutableCollections" "EMPTY" "Ljava/lang/Object;" (.ref em)) (X00 : Old Z n0 h0) :
    MetFree l my22 (head1 (Jvm.Cond.code my22 jdk_44_method_3_code 1 (some .int) :: ws) Rm_s1) (fun aa_ U => aa_ = #[(.ref a)] ∧ Z.Warmed39 U.vm ∧ U.heap = h0) (fun _ _ _ _ _ => True) (fun _ U oo_ U' => ∃ v L, oo_ = .returned v ∧ Qs1 Z a em h0 n0 v U'.heap L ∧ FrameEnd U oo_ U' L Rm_s1.cells Rm_s1.slots) := by
  refine MetFree.of_bodySF (plainFor_of_name pn_13) hisR ?_
  intro p e s m args below meth c s₁ Bd hml0 hP hK
  obtain ⟨rfl, hZ, hh⟩ := hP
  have hx := Bd.exec
  have hby := Bd.bytes
  have hml : c.maxLocals = 1 := hml0
  have hown : s.vm.findClass "java/util/ImmutableCollections$List12" = some m.cls := findClass_of_methodNamed Bd.named
  have hnm := (name_of_methodNamed Bd.named Bd.method).1
  have X0 : Stand p l e Rm_s1 s m #[(.ref a)] below meth c s₁ [] 0 0 := Stand.of_body Bd
  have e0 : s₁.heap = h0 := by rw [← hh, Bd.state]; rfl
  have N0 := Fr.nil n0
  have pre0 : ∀ tt_, Steps p.tables e below (s₁.setTop (mkF m 0 #[.val (.ref a)] [])) tt_ → Steps p.tables e below (s₁.setTop (entryFrame m #[(.ref a)] 1)) tt_ := fun tt_ kk_ => castTop (ef_34 m a) kk_
  obtain ⟨T1, X1, e1, st1⟩ := getF X0 hx hZ hown (host := "") (Or.inl (hwd229 hw)) Via.refl e0 F_e1_a (g := (mkF m 1 #[.val (.ref a)] [(.ref a)])) rfl rfl (hb hby d34_1)
  obtain ⟨T2, X2, e2, st2⟩ := getS2 X1 hx hZ hown (Or.inr (hwd228 hw)) Via.refl e1 (O_M.ext X00.2) (g := (mkF m 4 #[.val (.ref a)] [(.ref em)])) rfl (hb hby d34_4)
  obtain ⟨fs, hr, hrun, hended, hW, hsame⟩ := X2.leave (v := some (.int (1 : Int32))) (fun h => by rw [Bd.returns] at h; cases h)
  refine ⟨_, _, pre0 _ ?_, hrun, hended, _, _, rfl, ?_, ⟨_, rfl⟩, hW, hsame.mono (by decide) (by decide)⟩
  · show Steps p.tables e below (s₁.setTop (mkF m 0 #[.val (.ref a)] [])) _
    refine XS.aloadN X0.here hx rfl (hb hby d34_0) rfl rfl ?_
    refine st1 _ ?_
    refine st2 _ ?_
    refine Jvm.RoadKit.acmp (g := (mkF m 7 #[.val (.ref a)] [(.ref em), (.ref em)])) X2 hx rfl rfl rfl (pc0 := 7) (pc' := 14) (same := true) rfl (hb hby d34_7) rfl (decide_eq_true rfl) (by decide) (by decide) ?_
    refine XS.iconst X2.here hx rfl (hb hby d34_14) ?_
    exact retI X2 hx Bd.returns (hb hby d34_15) hr
  · show Qs1 Z a em h0 n0 _ T2.heap _
    rw [e2]
    exact ⟨rfl, N0, rfl⟩
theorem d34_10 : decode jdk_44_method_3_code 10 = .ok (.iconst 2, 1) := by decide +kernel
theorem d34_11 : decode jdk_44_method_3_code 11 = .ok (.goto 4, 3) := by decide +kernel
def Qs2 (Z : State) (a : Addr) (q : Addr) (em : Addr) (h0 : Heap) (n0 : Nat) (v : Option Value) (h : Heap) (L : List Loc) : Prop := v = some (.int (2 : Int32)) ∧ Fr n0 L ∧ h = h0
set_option maxRecDepth 65536 in
set_option maxHeartbeats 40000000 in
abbrev Rm_s2 : Room := { frames := 0, cells := 0, slots := 0, locals := 0 }
theorem s2 (l : Launch) (Z : State) (a0 : Array Value) (hw : ∀ d ∈ tables_1, d.before a0 Z = true) (ws : List Jvm.Cond) (a : Addr) (q : Addr) (em : Addr) (h0 : Heap) (n0 : Nat) (Z0 : n0 ≤ h0.size) (F_e1_a : Fld Z h0 a "java/util/ImmutableCollections$List12" "e1" "Ljava/lang/Object;" (.ref q)) (ne_q_em : q ≠ em) (O_M : Sta Z Z.heap "java/util/ImmutableCollections" "EMPTY" "Ljava/lang/Object;" (.ref em)) (X00 : Old Z n0 h0) :
    MetFree l my22 (head1 (Jvm.Cond.code my22 jdk_44_method_3_code 1 (some .int) :: ws) Rm_s2) (fun aa_ U => aa_ = #[(.ref a)] ∧ Z.Warmed39 U.vm ∧ U.heap = h0) (fun _ _ _ _ _ => True) (fun _ U oo_ U' => ∃ v L, oo_ = .returned v ∧ Qs2 Z a q em h0 n0 v U'.heap L ∧ FrameEnd U oo_ U' L Rm_s2.cells Rm_s2.slots) := by
  refine MetFree.of_bodySF (plainFor_of_name pn_13) hisR ?_
  intro p e s m args below meth c s₁ Bd hml0 hP hK
  obtain ⟨rfl, hZ, hh⟩ := hP
  have hx := Bd.exec
  have hby := Bd.bytes
  have hml : c.maxLocals = 1 := hml0
  have hown : s.vm.findClass "java/util/ImmutableCollections$List12" = some m.cls := findClass_of_methodNamed Bd.named
  have hnm := (name_of_methodNamed Bd.named Bd.method).1
  have X0 : Stand p l e Rm_s2 s m #[(.ref a)] below meth c s₁ [] 0 0 := Stand.of_body Bd
  have e0 : s₁.heap = h0 := by rw [← hh, Bd.state]; rfl
  have N0 := Fr.nil n0
  have pre0 : ∀ tt_, Steps p.tables e below (s₁.setTop (mkF m 0 #[.val (.ref a)] [])) tt_ → Steps p.tables e below (s₁.setTop (entryFrame m #[(.ref a)] 1)) tt_ := fun tt_ kk_ => castTop (ef_34 m a) kk_
  obtain ⟨T1, X1, e1, st1⟩ := getF X0 hx hZ hown (host := "") (Or.inl (hwd229 hw)) Via.refl e0 F_e1_a (g := (mkF m 1 #[.val (.ref a)] [(.ref a)])) rfl rfl (hb hby d34_1)
  obtain ⟨T2, X2, e2, st2⟩ := getS2 X1 hx hZ hown (Or.inr (hwd228 hw)) Via.refl e1 (O_M.ext X00.2) (g := (mkF m 4 #[.val (.ref a)] [(.ref q)])) rfl (hb hby d34_4)
  obtain ⟨fs, hr, hrun, hended, hW, hsame⟩ := X2.leave (v := some (.int (2 : Int32))) (fun h => by rw [Bd.returns] at h; cases h)
  refine ⟨_, _, pre0 _ ?_, hrun, hended, _, _, rfl, ?_, ⟨_, rfl⟩, hW, hsame.mono (by decide) (by decide)⟩
  · show Steps p.tables e below (s₁.setTop (mkF m 0 #[.val (.ref a)] [])) _
    refine XS.aloadN X0.here hx rfl (hb hby d34_0) rfl rfl ?_
    refine st1 _ ?_
    refine st2 _ ?_
    refine Jvm.RoadKit.acmp (g := (mkF m 7 #[.val (.ref a)] [(.ref em), (.ref q)])) X2 hx rfl rfl rfl (pc0 := 7) (pc' := 10) (same := false) rfl (hb hby d34_7) rfl (decide_eq_false fun u => ne_q_em (Value.ref.inj u)) (by decide) (by decide) ?_
    refine XS.iconst X2.here hx rfl (hb hby d34_10) ?_
    refine XS.goto X2.here hx rfl (pc0 := 11) (pc' := 15) rfl (hb hby d34_11) (by decide) (by decide) ?_
    show Steps p.tables e below (T2.setTop (mkF m 15 #[.val (.ref a)] [(.int (2 : Int32))])) _
    exact retI X2 hx Bd.returns (hb hby d34_15) hr
  · show Qs2 Z a q em h0 n0 _ T2.heap _
    rw [e2]
    exact ⟨rfl, N0, rfl⟩
theorem d30_0 : decode jdk_45_method_3_code 0 = .ok (.aload_n 0, 1) := by decide +kernel
theorem d30_1 : decode jdk_45_method_3_code 1 = .ok (.getfield 7, 3) := by decide +kernel
theorem d30_4 : decode jdk_45_method_3_code 4 = .ok (.arraylength, 1) := by decide +kernel
theorem d30_5 : decode jdk_45_method_3_code 5 = .ok (.ireturn, 1) := by decide +kernel
theorem ef_30 (m : MethodId) (x0 : Addr) : entryFrame m #[(.ref x0)] 1 = mkF m 0 #[.val (.ref x0)] [] := by first | (simp [entryFrame, mkF, argsToLocals, Value.category]; done) | rfl
def QsN (Z : State) (a : Addr) (tt : Addr) (ktt : ClassId) (z : Int32) (vs : List Value) (h0 : Heap) (n0 : Nat) (v : Option Value) (h : Heap) (L : List Loc) : Prop := v = some (.int z) ∧ Fr n0 L ∧ h = h0
set_option maxRecDepth 65536 in
set_option maxHeartbeats 40000000 in
abbrev my23 : MethodName := ⟨"java/util/ImmutableCollections$ListN", "size", "()I"⟩
abbrev Rm_sN : Room := { frames := 0, cells := 0, slots := 0, locals := 0 }
theorem sN (l : Launch) (Z : State) (a0 : Array Value) (hw : ∀ d ∈ tables_1, d.before a0 Z = true) (ws : List Jvm.Cond) (a : Addr) (tt : Addr) (ktt : ClassId) (z : Int32) (vs : List Value) (h0 : Heap) (n0 : Nat) (Z0 : n0 ≤ h0.size) (F_elements_a : Fld Z h0 a "java/util/ImmutableCollections$ListN" "elements" "[Ljava/lang/Object;" (.ref tt)) (V_tt : Arv Z h0 tt ktt (.object "java/lang/Object") z vs .null) :
    MetFree l my23 (head1 (Jvm.Cond.code my23 jdk_45_method_3_code 1 (some .int) :: ws) Rm_sN) (fun aa_ U => aa_ = #[(.ref a)] ∧ Z.Warmed39 U.vm ∧ U.heap = h0) (fun _ _ _ _ _ => True) (fun _ U oo_ U' => ∃ v L, oo_ = .returned v ∧ QsN Z a tt ktt z vs h0 n0 v U'.heap L ∧ FrameEnd U oo_ U' L Rm_sN.cells Rm_sN.slots) := by
  refine MetFree.of_bodySF (plainFor_of_name pn_12) hisR ?_
  intro p e s m args below meth c s₁ Bd hml0 hP hK
  obtain ⟨rfl, hZ, hh⟩ := hP
  have hx := Bd.exec
  have hby := Bd.bytes
  have hml : c.maxLocals = 1 := hml0
  have hown : s.vm.findClass "java/util/ImmutableCollections$ListN" = some m.cls := findClass_of_methodNamed Bd.named
  have hnm := (name_of_methodNamed Bd.named Bd.method).1
  have X0 : Stand p l e Rm_sN s m #[(.ref a)] below meth c s₁ [] 0 0 := Stand.of_body Bd
  have e0 : s₁.heap = h0 := by rw [← hh, Bd.state]; rfl
  have N0 := Fr.nil n0
  have pre0 : ∀ tt_, Steps p.tables e below (s₁.setTop (mkF m 0 #[.val (.ref a)] [])) tt_ → Steps p.tables e below (s₁.setTop (entryFrame m #[(.ref a)] 1)) tt_ := fun tt_ kk_ => castTop (ef_30 m a) kk_
  obtain ⟨T1, X1, e1, st1⟩ := getF X0 hx hZ hown (host := "") (Or.inl (hwd174 hw)) Via.refl e0 F_elements_a (g := (mkF m 1 #[.val (.ref a)] [(.ref a)])) rfl rfl (hb hby d30_1)
  obtain ⟨cl2, Ar2, -, S2, M2, -, -⟩ := id V_tt
  obtain ⟨fs, hr, hrun, hended, hW, hsame⟩ := X1.leave (v := some (.int z)) (fun h => by rw [Bd.returns] at h; cases h)
  refine ⟨_, _, pre0 _ ?_, hrun, hended, _, _, rfl, ?_, ⟨_, rfl⟩, hW, hsame.mono (by decide) (by decide)⟩
  · show Steps p.tables e below (s₁.setTop (mkF m 0 #[.val (.ref a)] [])) _
    refine XS.aloadN X0.here hx rfl (hb hby d30_0) rfl rfl ?_
    refine st1 _ ?_
    refine X1.arraylength hx (by rw [e1]; exact Ar2.1) (State.isArrayOf_alike hZ.alike Ar2.2.1) (g := (mkF m 4 #[.val (.ref a)] [(.ref tt)])) rfl rfl (hb hby d30_4) _ ?_
    rw [len_of S2 M2]
    exact retI X1 hx Bd.returns (hb hby d30_5) hr
  · show QsN Z a tt ktt z vs h0 n0 _ T1.heap _
    rw [e1]
    exact ⟨rfl, N0, rfl⟩
theorem d21_0 : decode jdk_29_method_69_code 0 = .ok (.iload_n 0, 1) := by decide +kernel
theorem d21_1 : decode jdk_29_method_69_code 1 = .ok (.iload_n 1, 1) := by decide +kernel
theorem d21_2 : decode jdk_29_method_69_code 2 = .ok (.if_icmp .gt 7, 3) := by decide +kernel
theorem d21_9 : decode jdk_29_method_69_code 9 = .ok (.iload_n 1, 1) := by decide +kernel
theorem d21_10 : decode jdk_29_method_69_code 10 = .ok (.ireturn, 1) := by decide +kernel
theorem ef_21 (m : MethodId) (x0 : Int32) (x1 : Int32) : entryFrame m #[(.int x0), (.int x1)] 2 = mkF m 0 #[.val (.int x0), .val (.int x1)] [] := by first | (simp [entryFrame, mkF, argsToLocals, Value.category]; done) | rfl
def Qmin_1 (Z : State)  (h0 : Heap) (n0 : Nat) (v : Option Value) (h : Heap) (L : List Loc) : Prop := v = some (.int (1 : Int32)) ∧ Fr n0 L ∧ h = h0
set_option maxRecDepth 65536 in
set_option maxHeartbeats 40000000 in
abbrev my24 : MethodName := ⟨"java/lang/Math", "min", "(II)I"⟩
abbrev Rm_min_1 : Room := { frames := 0, cells := 0, slots := 0, locals := 0 }
theorem min_1 (l : Launch) (Z : State) (a0 : Array Value) (hw : ∀ d ∈ tables_1, d.before a0 Z = true) (ws : List Jvm.Cond)  (h0 : Heap) (n0 : Nat) (Z0 : n0 ≤ h0.size) :
    MetFree l my24 (head1 (Jvm.Cond.code my24 jdk_29_method_69_code 2 (some .int) :: ws) Rm_min_1) (fun aa_ U => aa_ = #[(.int (10 : Int32)), (.int (1 : Int32))] ∧ Z.Warmed39 U.vm ∧ U.heap = h0) (fun _ _ _ _ _ => True) (fun _ U oo_ U' => ∃ v L, oo_ = .returned v ∧ Qmin_1 Z  h0 n0 v U'.heap L ∧ FrameEnd U oo_ U' L Rm_min_1.cells Rm_min_1.slots) := by
  refine MetFree.of_bodySF (Jvm.Free.JP.mathPlain rfl (by decide +kernel)) hisR ?_
  intro p e s m args below meth c s₁ Bd hml0 hP hK
  obtain ⟨rfl, hZ, hh⟩ := hP
  have hx := Bd.exec
  have hby := Bd.bytes
  have hml : c.maxLocals = 2 := hml0
  have hown : s.vm.findClass "java/lang/Math" = some m.cls := findClass_of_methodNamed Bd.named
  have hnm := (name_of_methodNamed Bd.named Bd.method).1
  have X0 : Stand p l e Rm_min_1 s m #[(.int (10 : Int32)), (.int (1 : Int32))] below meth c s₁ [] 0 0 := Stand.of_body Bd
  have e0 : s₁.heap = h0 := by rw [← hh, Bd.state]; rfl
  have N0 := Fr.nil n0
  have pre0 : ∀ tt_, Steps p.tables e below (s₁.setTop (mkF m 0 #[.val (.int (10 : Int32)), .val (.int (1 : Int32))] [])) tt_ → Steps p.tables e below (s₁.setTop (entryFrame m #[(.int (10 : Int32)), (.int (1 : Int32))] 2)) tt_ := fun tt_ kk_ => castTop (ef_21 m (10 : Int32) (1 : Int32)) kk_
  obtain ⟨fs, hr, hrun, hended, hW, hsame⟩ := X0.leave (v := some (.int (1 : Int32))) (fun h => by rw [Bd.returns] at h; cases h)
  refine ⟨_, _, pre0 _ ?_, hrun, hended, _, _, rfl, ?_, ⟨_, rfl⟩, hW, hsame.mono (by decide) (by decide)⟩
  · show Steps p.tables e below (s₁.setTop (mkF m 0 #[.val (.int (10 : Int32)), .val (.int (1 : Int32))] [])) _
    refine XS.iloadN X0.here hx rfl (hb hby d21_0) rfl ?_
    refine XS.iloadN X0.here hx rfl (hb hby d21_1) rfl ?_
    refine XS.icmpYes X0.here hx rfl (pc0 := 2) (pc' := 9) rfl (hb hby d21_2) rfl (tlt (show (1 : Int32) < (10 : Int32) from (by decide))).2.2.1 (by decide) (by decide) ?_
    refine XS.iloadN X0.here hx rfl (hb hby d21_9) rfl ?_
    exact retI X0 hx Bd.returns (hb hby d21_10) hr
  · show Qmin_1 Z  h0 n0 _ s₁.heap _
    rw [e0]
    exact ⟨rfl, N0, rfl⟩
theorem hwd134 {Z : State} {a0 : Array Value} (hw : ∀ d ∈ tables_1, d.before a0 Z = true) : (Jvm.Cond.classLink "java/util/Arrays" (110 : Nat) "[Ljava/lang/Object;").before a0 Z = true := hw _ (List.mem_of_getElem? (i := 134) rfl)
theorem hwd135 {Z : State} {a0 : Array Value} (hw : ∀ d ∈ tables_1, d.before a0 Z = true) : (Jvm.Cond.classLink "java/util/Arrays" (2 : Nat) "java/lang/Object").before a0 Z = true := hw _ (List.mem_of_getElem? (i := 135) rfl)
theorem hwd136 {Z : State} {a0 : Array Value} (hw : ∀ d ∈ tables_1, d.before a0 Z = true) : (Jvm.Cond.methodLink "java/util/Arrays" (304 : Nat) ({ cls := "java/lang/Math", name := "min", desc := "(II)I" } : Jvm.MethodName)).before a0 Z = true := hw _ (List.mem_of_getElem? (i := 136) rfl)
theorem hwd138 {Z : State} {a0 : Array Value} (hw : ∀ d ∈ tables_1, d.before a0 Z = true) : (Jvm.Cond.code ({ cls := "java/lang/Math", name := "min", desc := "(II)I" } : Jvm.MethodName) jdk_29_method_69_code (2 : Nat) (Option.some Jvm.ClassFile.FieldType.int)).before a0 Z = true := hw _ (List.mem_of_getElem? (i := 138) rfl)
theorem hwd137 {Z : State} {a0 : Array Value} (hw : ∀ d ∈ tables_1, d.before a0 Z = true) : (Jvm.Cond.static ({ cls := "java/lang/Math", name := "min", desc := "(II)I" } : Jvm.MethodName)).before a0 Z = true := hw _ (List.mem_of_getElem? (i := 137) rfl)
theorem hwd139 {Z : State} {a0 : Array Value} (hw : ∀ d ∈ tables_1, d.before a0 Z = true) : (Jvm.Cond.methodLink "java/util/Arrays" (150 : Nat) ({ cls := "java/lang/System", name := "arraycopy", desc := "(Ljava/lang/Object;ILjava/lang/Object;II)V" } : Jvm.MethodName)).before a0 Z = true := hw _ (List.mem_of_getElem? (i := 139) rfl)
theorem hwd142 {Z : State} {a0 : Array Value} (hw : ∀ d ∈ tables_1, d.before a0 Z = true) : (Jvm.Cond.native ({ cls := "java/lang/System", name := "arraycopy", desc := "(Ljava/lang/Object;ILjava/lang/Object;II)V" } : Jvm.MethodName)).before a0 Z = true := hw _ (List.mem_of_getElem? (i := 142) rfl)
theorem hwd140 {Z : State} {a0 : Array Value} (hw : ∀ d ∈ tables_1, d.before a0 Z = true) : (Jvm.Cond.static ({ cls := "java/lang/System", name := "arraycopy", desc := "(Ljava/lang/Object;ILjava/lang/Object;II)V" } : Jvm.MethodName)).before a0 Z = true := hw _ (List.mem_of_getElem? (i := 140) rfl)
theorem hwd141 {Z : State} {a0 : Array Value} (hw : ∀ d ∈ tables_1, d.before a0 Z = true) : (Jvm.Cond.initialized "java/lang/System").before a0 Z = true := hw _ (List.mem_of_getElem? (i := 141) rfl)
theorem d20_0 : decode jdk_65_method_120_code 0 = .ok (.aload_n 2, 1) := by decide +kernel
theorem d20_1 : decode jdk_65_method_120_code 1 = .ok (.ldc 110, 2) := by decide +kernel
theorem d20_3 : decode jdk_65_method_120_code 3 = .ok (.if_acmp .ne 10, 3) := by decide +kernel
theorem d20_6 : decode jdk_65_method_120_code 6 = .ok (.iload_n 1, 1) := by decide +kernel
theorem d20_7 : decode jdk_65_method_120_code 7 = .ok (.anewarray 2, 3) := by decide +kernel
theorem d20_10 : decode jdk_65_method_120_code 10 = .ok (.goto 14, 3) := by decide +kernel
theorem d20_24 : decode jdk_65_method_120_code 24 = .ok (.astore_n 3, 1) := by decide +kernel
theorem d20_25 : decode jdk_65_method_120_code 25 = .ok (.aload_n 0, 1) := by decide +kernel
theorem d20_26 : decode jdk_65_method_120_code 26 = .ok (.iconst 0, 1) := by decide +kernel
theorem d20_27 : decode jdk_65_method_120_code 27 = .ok (.aload_n 3, 1) := by decide +kernel
theorem d20_28 : decode jdk_65_method_120_code 28 = .ok (.iconst 0, 1) := by decide +kernel
theorem d20_29 : decode jdk_65_method_120_code 29 = .ok (.aload_n 0, 1) := by decide +kernel
theorem d20_30 : decode jdk_65_method_120_code 30 = .ok (.arraylength, 1) := by decide +kernel
theorem d20_31 : decode jdk_65_method_120_code 31 = .ok (.iload_n 1, 1) := by decide +kernel
theorem d20_32 : decode jdk_65_method_120_code 32 = .ok (.invokestatic 304, 3) := by decide +kernel
theorem d20_35 : decode jdk_65_method_120_code 35 = .ok (.invokestatic 150, 3) := by decide +kernel
theorem d20_38 : decode jdk_65_method_120_code 38 = .ok (.aload_n 3, 1) := by decide +kernel
theorem d20_39 : decode jdk_65_method_120_code 39 = .ok (.areturn, 1) := by decide +kernel
theorem pn_15 : plainName "java/util/Arrays" = true := by first | (simp [plainName, overriddenIn]; done) | decide +kernel
theorem ef_20 (m : MethodId) (x0 : Addr) (x1 : Int32) (x2 : Addr) : entryFrame m #[(.ref x0), (.int x1), (.ref x2)] 4 = mkF m 0 #[.val (.ref x0), .val (.int x1), .val (.ref x2), .unset] [] := by first | (simp [entryFrame, mkF, argsToLocals, Value.category]; done) | rfl
def Qc3_1 (Z : State) (b : Addr) (q : Addr) (mr : Addr) (kb : ClassId) (h0 : Heap) (n0 : Nat) (v : Option Value) (h : Heap) (L : List Loc) : Prop := ∃ t : Addr, ∃ kt : ClassId, v = some (.ref t) ∧ Fr n0 L ∧ Keep h0 h [] ∧ Arv Z h t kt (.object "java/lang/Object") (1 : Int32) [(.ref q)] .null ∧ Exa Z h t "[Ljava/lang/Object;" ∧ Ovr Z kt "java/lang/Object" ∧ n0 ≤ t ∧ h0.size ≤ t
set_option maxRecDepth 65536 in
set_option maxHeartbeats 40000000 in
abbrev my25 : MethodName := ⟨"java/util/Arrays", "copyOf", "([Ljava/lang/Object;ILjava/lang/Class;)[Ljava/lang/Object;"⟩
abbrev Rm_c3_1 : Room := { frames := 1, cells := 1, slots := 6, locals := 18 }
theorem c3_1 (l : Launch) (Z : State) (a0 : Array Value) (hw : ∀ d ∈ tables_1, d.before a0 Z = true) (ws : List Jvm.Cond) (b : Addr) (q : Addr) (mr : Addr) (kb : ClassId) (h0 : Heap) (n0 : Nat) (Z0 : n0 ≤ h0.size) (V_b : Arv Z h0 b kb (.object "java/lang/Object") (10 : Int32) [(.ref q), .null, .null, .null, .null, .null, .null, .null, .null, .null] .null) (E_q : Exa Z h0 q "com/example/gleipnir/gleipnir/service/Counterplay$Position") (Mr : Mir Z "[Ljava/lang/Object;" mr) :
    MetFree l my25 (head1 (Jvm.Cond.code my25 jdk_65_method_120_code 4 (some (.array (.object "java/lang/Object"))) :: ws) Rm_c3_1) (fun aa_ U => aa_ = #[(.ref b), (.int (1 : Int32)), (.ref mr)] ∧ Z.Warmed39 U.vm ∧ U.heap = h0) (fun _ _ _ _ _ => True) (fun _ U oo_ U' => ∃ v L, oo_ = .returned v ∧ Qc3_1 Z b q mr kb h0 n0 v U'.heap L ∧ FrameEnd U oo_ U' L Rm_c3_1.cells Rm_c3_1.slots) := by
  refine MetFree.of_bodySF (plainFor_of_name pn_15) hisR ?_
  intro p e s m args below meth c s₁ Bd hml0 hP hK
  obtain ⟨rfl, hZ, hh⟩ := hP
  have hx := Bd.exec
  have hby := Bd.bytes
  have hml : c.maxLocals = 4 := hml0
  have hown : s.vm.findClass "java/util/Arrays" = some m.cls := findClass_of_methodNamed Bd.named
  have hnm := (name_of_methodNamed Bd.named Bd.method).1
  have X0 : Stand p l e Rm_c3_1 s m #[(.ref b), (.int (1 : Int32)), (.ref mr)] below meth c s₁ [] 0 0 := Stand.of_body Bd
  have e0 : s₁.heap = h0 := by rw [← hh, Bd.state]; rfl
  have N0 := Fr.nil n0
  have pre0 : ∀ tt_, Steps p.tables e below (s₁.setTop (mkF m 0 #[.val (.ref b), .val (.int (1 : Int32)), .val (.ref mr), .unset] [])) tt_ → Steps p.tables e below (s₁.setTop (entryFrame m #[(.ref b), (.int (1 : Int32)), (.ref mr)] 4)) tt_ := fun tt_ kk_ => castTop (ef_20 m b (1 : Int32) mr) kk_
  obtain ⟨vm1, X1, st1⟩ := X0.ldcMirror hx hown (mvT hZ (hwd134 hw)) (own_hev hZ Mr) (g := (mkF m 1 #[.val (.ref b), .val (.int (1 : Int32)), .val (.ref mr), .unset] [(.ref mr)])) rfl (hb hby d20_1)
  have e1 : (s₁.setVm vm1).heap = h0 := e0
  obtain ⟨T2, h2, k2, X2, e2, E2, A2, B2, O2, st2⟩ := newRE X1 hx hZ hown (hwd135 hw) (hwd103 hw) e1 (g := (mkF m 7 #[.val (.ref b), .val (.int (1 : Int32)), .val (.ref mr), .unset] [(.int (1 : Int32))])) rfl (hb hby d20_7) rfl (by decide) (cap := 1) (by decide) (by decide) (by decide) (by decide) (ad := "[Ljava/lang/Object;") (by decide)
  obtain ⟨b2, g2⟩ : ∃ zz_, zz_ = h0.size := ⟨_, rfl⟩
  rw [← g2] at A2 B2 st2
  have ne_b_b2 : b ≠ b2 := Nat.ne_of_lt (Nat.lt_of_lt_of_le V_b.lt (Nat.le_of_eq g2.symm))
  have ne_q_b2 : q ≠ b2 := Nat.ne_of_lt (Nat.lt_of_lt_of_le E_q.lt (Nat.le_of_eq g2.symm))
  have g_b2 : n0 ≤ b2 := Nat.le_trans Z0 (Nat.le_of_eq g2.symm)
  have sz_b2 : h0.size ≤ b2 := Nat.le_trans (Keep.refl h0 []).1 (Nat.le_of_eq g2.symm)
  have V_b2 : Arv Z h2 b2 k2 (.object "java/lang/Object") (1 : Int32) [.null] .null := (Arv.new A2 (by decide)).pad (pad_rep [] .null 1)
  have f3_V_b := (V_b.ext E2)
  obtain ⟨cl4, Ar4, -, S4, M4, -, -⟩ := id f3_V_b
  have sz6 : n0 ≤ h2.size := (Nat.le_trans Z0 E2.1)
  obtain ⟨_, _, ⟨T5, L5, k5, n5⟩, -, X5, ⟨Lc5, hQ5, l5, y5, z5⟩, st5⟩ := Jvm.LawKit.callS X2 hx (y := my24) hown (mvT hZ (hwd136 hw)) (mvT hZ (hwd137 hw)) (mvT hZ (hwd100 hw)) (mvT hZ (hwd138 hw)) (by decide) (backOf (W := 4) (min_1 l Z a0 hw []  h2 n0 sz6 ) hZ (hwd138 hw) (hwd100 hw) (by decide) (by decide)) (g := (mkF m 32 #[.val (.ref b), .val (.int (1 : Int32)), .val (.ref mr), .val (.ref b2)] [(.int (1 : Int32)), (.int (10 : Int32)), (.int (0 : Int32)), (.ref b2), (.int (0 : Int32)), (.ref b)])) rfl (by rw [hml]; rfl) (argsL := [(.int (10 : Int32)), (.int (1 : Int32))]) (rest := [(.int (0 : Int32)), (.ref b2), (.int (0 : Int32)), (.ref b)]) (lenOf pd_4 rfl) rfl (by show 2 * 0 + _ ≤ _; exact Nat.le_of_eq rfl) (hb hby d20_32) (fun _ _ => ⟨rfl, e2, (by decide : 1 + 0 ≤ _), (by decide : 1 + 0 ≤ _)⟩)
  dsimp only [Pt.U, Pt.locs, Pt.cells, Pt.slots] at X5 l5 y5 z5 st5 hQ5
  subst l5 y5 z5
  obtain ⟨rfl, N5q, e5q⟩ := hQ5
  have N5 := Fr.app N0 N5q
  obtain ⟨cl7, Ar7, q7, -, -, -, -⟩ := id V_b2
  have f9_E_q := (E_q.ext E2)
  obtain ⟨T8, h8, L8, X8, e8, N8, K8, V8, st8⟩ := cpA X5 hx hZ hown (hwd139 hw) (hwd142 hw) (hwd140 hw) (hwd141 hw) e5q f3_V_b V_b2 (us := [(.ref q)]) (Or.inr ⟨rfl, rfl, ⟨Sto.ofV Ar7 q7 O2 (Ins.of_exa f9_E_q (hwd104 hw)), trivial⟩⟩) (by decide) (by decide) (by decide) (by decide) (by decide) (by rfl) (Nat.le_of_ble_eq_true rfl) N5 g_b2 (g := (mkF m 35 #[.val (.ref b), .val (.int (1 : Int32)), .val (.ref mr), .val (.ref b2)] [(.int (1 : Int32)), (.int (0 : Int32)), (.ref b2), (.int (0 : Int32)), (.ref b)])) rfl (by rw [hml]; rfl) rfl (hb hby d20_35) (by decide) (W := 0) (by show 2 * 0 + _ ≤ _; exact Nat.le_of_eq rfl) (by decide)
  have Vc8 : Arv Z h8 b2 k2 (.object "java/lang/Object") (1 : Int32) [(.ref q)] .null := V8
  have kp10 : Keep h0 h8 [] := (((Keep.refl h0 []).ext E2).trans K8 (allS (Or.inr sz_b2) all0))
  have f11_E_b2 := (B2.keep K8)
  obtain ⟨fs, hr, hrun, hended, hW, hsame⟩ := X8.leave (v := some (.ref b2)) (fun h => by rw [Bd.returns] at h; cases h)
  refine ⟨_, _, pre0 _ ?_, hrun, hended, _, _, rfl, ?_, ⟨_, rfl⟩, hW, hsame.mono (by decide) (by decide)⟩
  · show Steps p.tables e below (s₁.setTop (mkF m 0 #[.val (.ref b), .val (.int (1 : Int32)), .val (.ref mr), .unset] [])) _
    refine XS.aloadN X0.here hx rfl (hb hby d20_0) rfl rfl ?_
    refine st1 _ ?_
    refine Jvm.RoadKit.acmp (g := (mkF m 3 #[.val (.ref b), .val (.int (1 : Int32)), .val (.ref mr), .unset] [(.ref mr), (.ref mr)])) X1 hx rfl rfl rfl (pc0 := 3) (pc' := 6) (same := true) rfl (hb hby d20_3) rfl (decide_eq_true rfl) (by decide) (by decide) ?_
    refine XS.iloadN X1.here hx rfl (hb hby d20_6) rfl ?_
    refine st2 _ ?_
    refine XS.goto X2.here hx rfl (pc0 := 10) (pc' := 24) rfl (hb hby d20_10) (by decide) (by decide) ?_
    show Steps p.tables e below (T2.setTop (mkF m 24 #[.val (.ref b), .val (.int (1 : Int32)), .val (.ref mr), .unset] [(.ref b2)])) _
    refine XS.astoreN X2.here hx rfl (hb hby d20_24) rfl rfl (l' := #[.val (.ref b), .val (.int (1 : Int32)), .val (.ref mr), .val (.ref b2)]) rfl ?_
    refine XS.aloadN X2.here hx rfl (hb hby d20_25) rfl rfl ?_
    refine XS.iconst X2.here hx rfl (hb hby d20_26) ?_
    refine XS.aloadN X2.here hx rfl (hb hby d20_27) rfl rfl ?_
    refine XS.iconst X2.here hx rfl (hb hby d20_28) ?_
    refine XS.aloadN X2.here hx rfl (hb hby d20_29) rfl rfl ?_
    show Steps p.tables e below (T2.setTop (mkF m 30 #[.val (.ref b), .val (.int (1 : Int32)), .val (.ref mr), .val (.ref b2)] [(.ref b), (.int (0 : Int32)), (.ref b2), (.int (0 : Int32)), (.ref b)])) _
    refine X2.arraylength hx (by rw [e2]; exact Ar4.1) (State.isArrayOf_alike hZ.alike Ar4.2.1) (g := (mkF m 30 #[.val (.ref b), .val (.int (1 : Int32)), .val (.ref mr), .val (.ref b2)] [(.ref b), (.int (0 : Int32)), (.ref b2), (.int (0 : Int32)), (.ref b)])) rfl rfl (hb hby d20_30) _ ?_
    rw [len_of S4 M4]
    refine XS.iloadN X2.here hx rfl (hb hby d20_31) rfl ?_
    refine st5 _ ?_
    refine st8 _ ?_
    refine XS.aloadN X8.here hx rfl (hb hby d20_38) rfl rfl ?_
    jvm_step X8.here [X8.here.top, hx, (hb hby d20_39), X8.method', Bd.returns, Value.isRef, FieldType.isReference]
    first | (intro acts; rw [hr _ acts rfl rfl rfl]) | rw [hr _ _ rfl rfl rfl]
    exact Steps.refl _
  · show Qc3_1 Z b q mr kb h0 n0 _ T8.heap _
    rw [e8]
    exact ⟨b2, k2, rfl, N8, kp10, Vc8, f11_E_b2, O2, g_b2, sz_b2⟩
theorem hwd214 {Z : State} {a0 : Array Value} (hw : ∀ d ∈ tables_1, d.before a0 Z = true) : (Jvm.Cond.classLink "java/util/List" (96 : Nat) "java/util/ImmutableCollections$List12").before a0 Z = true := hw _ (List.mem_of_getElem? (i := 214) rfl)
theorem hwd216 {Z : State} {a0 : Array Value} (hw : ∀ d ∈ tables_1, d.before a0 Z = true) : (Jvm.Cond.initialized "java/util/ImmutableCollections$List12").before a0 Z = true := hw _ (List.mem_of_getElem? (i := 216) rfl)
theorem hwd217 {Z : State} {a0 : Array Value} (hw : ∀ d ∈ tables_1, d.before a0 Z = true) : (Jvm.Cond.methodLink "java/util/List" (98 : Nat) ({ cls := "java/util/ImmutableCollections$List12", name := "<init>", desc := "(Ljava/lang/Object;)V" } : Jvm.MethodName)).before a0 Z = true := hw _ (List.mem_of_getElem? (i := 217) rfl)
theorem hwd220 {Z : State} {a0 : Array Value} (hw : ∀ d ∈ tables_1, d.before a0 Z = true) : (Jvm.Cond.code ({ cls := "java/util/ImmutableCollections$List12", name := "<init>", desc := "(Ljava/lang/Object;)V" } : Jvm.MethodName) jdk_44_method_1_code (2 : Nat) (Option.none : Option Jvm.ClassFile.FieldType)).before a0 Z = true := hw _ (List.mem_of_getElem? (i := 220) rfl)
theorem pd_10 : parseMethodDescriptor "(Ljava/lang/Object;)V" = some ⟨[(.object "java/lang/Object")], none⟩ := by decide +kernel
theorem hwd218 {Z : State} {a0 : Array Value} (hw : ∀ d ∈ tables_1, d.before a0 Z = true) : (Jvm.Cond.instanceMethod ({ cls := "java/util/ImmutableCollections$List12", name := "<init>", desc := "(Ljava/lang/Object;)V" } : Jvm.MethodName)).before a0 Z = true := hw _ (List.mem_of_getElem? (i := 218) rfl)
theorem d22_0 : decode jdk_40_method_47_code 0 = .ok (.aload_n 0, 1) := by decide +kernel
theorem d22_1 : decode jdk_40_method_47_code 1 = .ok (.arraylength, 1) := by decide +kernel
theorem d22_2 : decode jdk_40_method_47_code 2 = .ok (.tableswitch 57 0 2 #[26, 32, 43], 26) := by decide +kernel
theorem d22_34 : decode jdk_40_method_47_code 34 = .ok (.new 96, 3) := by decide +kernel
theorem d22_37 : decode jdk_40_method_47_code 37 = .ok (.dup, 1) := by decide +kernel
theorem d22_38 : decode jdk_40_method_47_code 38 = .ok (.aload_n 0, 1) := by decide +kernel
theorem d22_39 : decode jdk_40_method_47_code 39 = .ok (.iconst 0, 1) := by decide +kernel
theorem d22_40 : decode jdk_40_method_47_code 40 = .ok (.aaload, 1) := by decide +kernel
theorem d22_41 : decode jdk_40_method_47_code 41 = .ok (.invokespecial 98, 3) := by decide +kernel
theorem d22_44 : decode jdk_40_method_47_code 44 = .ok (.areturn, 1) := by decide +kernel
theorem ef_22 (m : MethodId) (x0 : Addr) : entryFrame m #[(.ref x0)] 2 = mkF m 0 #[.val (.ref x0), .unset] [] := by first | (simp [entryFrame, mkF, argsToLocals, Value.category]; done) | rfl
def Qofa_1 (Z : State) (t : Addr) (q : Addr) (em : Addr) (kt : ClassId) (h0 : Heap) (n0 : Nat) (v : Option Value) (h : Heap) (L : List Loc) : Prop := ∃ lst : Addr, v = some (.ref lst) ∧ Fr n0 L ∧ Keep h0 h [] ∧ Lg Z h h0.size (1 : Int32) q em lst
set_option maxRecDepth 65536 in
set_option maxHeartbeats 40000000 in
abbrev my26 : MethodName := ⟨"java/util/List", "of", "([Ljava/lang/Object;)Ljava/util/List;"⟩
abbrev Rm_ofa_1 : Room := { frames := 6, cells := 2, slots := 8, locals := 77 }
theorem ofa_1 (l : Launch) (Z : State) (a0 : Array Value) (hw : ∀ d ∈ tables_1, d.before a0 Z = true) (ws : List Jvm.Cond) (t : Addr) (q : Addr) (em : Addr) (kt : ClassId) (h0 : Heap) (n0 : Nat) (Z0 : n0 ≤ h0.size) (V_t : Arv Z h0 t kt (.object "java/lang/Object") (1 : Int32) [(.ref q)] .null) (E_q : Exa Z h0 q "com/example/gleipnir/gleipnir/service/Counterplay$Position") (O_M : Sta Z Z.heap "java/util/ImmutableCollections" "EMPTY" "Ljava/lang/Object;" (.ref em)) (X00 : Old Z n0 h0) :
    MetFree l my26 (head1 (Jvm.Cond.code my26 jdk_40_method_47_code 2 (some (.object "java/util/List")) :: ws) Rm_ofa_1) (fun aa_ U => aa_ = #[(.ref t)] ∧ Z.Warmed39 U.vm ∧ U.heap = h0) (fun _ _ _ _ _ => True) (fun _ U oo_ U' => ∃ v L, oo_ = .returned v ∧ Qofa_1 Z t q em kt h0 n0 v U'.heap L ∧ FrameEnd U oo_ U' L Rm_ofa_1.cells Rm_ofa_1.slots) := by
  refine MetFree.of_bodySF (plainFor_of_name pn_6) hisR ?_
  intro p e s m args below meth c s₁ Bd hml0 hP hK
  obtain ⟨rfl, hZ, hh⟩ := hP
  have hx := Bd.exec
  have hby := Bd.bytes
  have hml : c.maxLocals = 2 := hml0
  have hown : s.vm.findClass "java/util/List" = some m.cls := findClass_of_methodNamed Bd.named
  have hnm := (name_of_methodNamed Bd.named Bd.method).1
  have X0 : Stand p l e Rm_ofa_1 s m #[(.ref t)] below meth c s₁ [] 0 0 := Stand.of_body Bd
  have e0 : s₁.heap = h0 := by rw [← hh, Bd.state]; rfl
  have N0 := Fr.nil n0
  have pre0 : ∀ tt_, Steps p.tables e below (s₁.setTop (mkF m 0 #[.val (.ref t), .unset] [])) tt_ → Steps p.tables e below (s₁.setTop (entryFrame m #[(.ref t)] 2)) tt_ := fun tt_ kk_ => castTop (ef_22 m t) kk_
  obtain ⟨cl1, Ar1, -, S1, M1, -, -⟩ := id V_t
  obtain ⟨T2, h2, X2, e2, E2, A2, D2, -, st2⟩ := newO X0 hx hZ hown (hwd214 hw) (hwd215 hw) (hwd216 hw) e0 (g := (mkF m 34 #[.val (.ref t), .unset] [])) rfl (hb hby d22_34) (by decide) (by decide)
  obtain ⟨b2, g2⟩ : ∃ zz_, zz_ = h0.size := ⟨_, rfl⟩
  rw [← g2] at A2 D2 st2
  have ne_t_b2 : t ≠ b2 := Nat.ne_of_lt (Nat.lt_of_lt_of_le V_t.lt (Nat.le_of_eq g2.symm))
  have ne_q_b2 : q ≠ b2 := Nat.ne_of_lt (Nat.lt_of_lt_of_le E_q.lt (Nat.le_of_eq g2.symm))
  have g_b2 : n0 ≤ b2 := Nat.le_trans Z0 (Nat.le_of_eq g2.symm)
  have sz_b2 : h0.size ≤ b2 := Nat.le_trans (Keep.refl h0 []).1 (Nat.le_of_eq g2.symm)
  have F_e0_b2 : Fld Z h2 b2 "java/util/ImmutableCollections$List12" "e0" "Ljava/lang/Object;" .null := D2 (Or.inr (hwd227 hw)) (ty := (.object "java/lang/Object")) (by decide)
  have F_e1_b2 : Fld Z h2 b2 "java/util/ImmutableCollections$List12" "e1" "Ljava/lang/Object;" .null := D2 (Or.inr (hwd230 hw)) (ty := (.object "java/lang/Object")) (by decide)
  have f3_V_t := (V_t.ext E2)
  obtain ⟨cl4, Ar4, q4, S4, M4, H4, G4⟩ := id f3_V_t
  have hin4 : ¬ ((0 : Int32) < 0 ∨ cl4.slots.size ≤ ((0 : Int32)).toNatClampNeg) := inb_of S4 ⟨by decide, by decide⟩
  have hat4 : cl4.slots[((0 : Int32)).toNatClampNeg]? = some (.ref q) := H4.at hin4 rfl
  have old6 : Old Z n0 h2 := (X00.ext E2)
  have sz7 : n0 ≤ h2.size := (Nat.le_trans Z0 E2.1)
  obtain ⟨_, _, ⟨T5, L5, k5, n5⟩, -, X5, ⟨Lc5, hQ5, l5, y5, z5⟩, st5⟩ := X2.specialBack hx (y := my20) rfl hown (mvT hZ (hwd217 hw)) (mvT hZ (hwd218 hw)) (mvT hZ (hwd220 hw)) (by decide) (backOf (W := 1) (rm33 l Z a0 hw [] b2 q em h2 n0 sz7 A2 F_e0_b2 F_e1_b2 g_b2 O_M old6) hZ (hwd220 hw) (hwd216 hw) (by decide) (by decide)) (g := (mkF m 41 #[.val (.ref t), .unset] [(.ref q), (.ref b2), (.ref b2)])) rfl (by rw [hml]; rfl) (Steps.refl _) (a := b2) (argsL := [(.ref q)]) (rest := [(.ref b2)]) (lenOf pd_10 rfl) rfl (by show 2 * 0 + _ ≤ _; exact Nat.le_of_eq rfl) (hb hby d22_41) (fun _ _ => ⟨rfl, e2, (by decide : 1 + 0 ≤ _), (by decide : 2 + 0 ≤ _)⟩)
  dsimp only [Pt.U, Pt.locs, Pt.cells, Pt.slots] at X5 l5 y5 z5 st5 hQ5
  subst l5 y5 z5
  obtain ⟨rfl, N5q, K5, p5_1, p5_2⟩ := hQ5
  have N5 := Fr.app N0 N5q
  have kp8 : Keep h0 T5.heap [] := (((Keep.refl h0 []).ext E2).trans K5 (allS (Or.inr sz_b2) all0))
  obtain ⟨fs, hr, hrun, hended, hW, hsame⟩ := X5.leave (v := some (.ref b2)) (fun h => by rw [Bd.returns] at h; cases h)
  refine ⟨_, _, pre0 _ ?_, hrun, hended, _, _, rfl, ?_, ⟨_, rfl⟩, hW, hsame.mono (by decide) (by decide)⟩
  · show Steps p.tables e below (s₁.setTop (mkF m 0 #[.val (.ref t), .unset] [])) _
    refine XS.aloadN X0.here hx rfl (hb hby d22_0) rfl rfl ?_
    refine X0.arraylength hx (by rw [e0]; exact Ar1.1) (State.isArrayOf_alike hZ.alike Ar1.2.1) (g := (mkF m 1 #[.val (.ref t), .unset] [(.ref t)])) rfl rfl (hb hby d22_1) _ ?_
    rw [len_of S1 M1]
    refine XS.tswIn X0.here hx rfl (pc0 := 2) (pc' := 34) rfl (hb hby d22_2) rfl (by decide) (by rfl) (by decide) (by decide) ?_
    refine st2 _ ?_
    refine XS.dup X2.here hx rfl (hb hby d22_37) rfl rfl ?_
    refine XS.aloadN X2.here hx rfl (hb hby d22_38) rfl rfl ?_
    show Steps p.tables e below (T2.setTop (mkF m 39 #[.val (.ref t), .unset] [(.ref t), (.ref b2), (.ref b2)])) _
    refine XS.iconst X2.here hx rfl (hb hby d22_39) ?_
    refine X2.aaload hx (j := (0 : Int32)) (v := (.ref q)) (by rw [e2]; exact Ar4.1) (State.isArrayOf_alike hZ.alike Ar4.2.1) rfl Ar4.2.2 hin4 hat4 (g := (mkF m 40 #[.val (.ref t), .unset] [(.int (0 : Int32)), (.ref t), (.ref b2), (.ref b2)])) rfl rfl (hb hby d22_40) _ ?_
    refine st5.trans ?_
    jvm_step X5.here [X5.here.top, hx, (hb hby d22_44), X5.method', Bd.returns, Value.isRef, FieldType.isReference]
    first | (intro acts; rw [hr _ acts rfl rfl rfl]) | rw [hr _ _ rfl rfl rfl]
    exact Steps.refl _
  · show Qofa_1 Z t q em kt h0 n0 _ T5.heap _
    exact ⟨b2, rfl, N5, kp8, ⟨sz_b2, Or.inl ⟨rfl, p5_1, p5_2⟩⟩⟩
def Qmin_2 (Z : State)  (h0 : Heap) (n0 : Nat) (v : Option Value) (h : Heap) (L : List Loc) : Prop := v = some (.int (2 : Int32)) ∧ Fr n0 L ∧ h = h0
set_option maxRecDepth 65536 in
set_option maxHeartbeats 40000000 in
abbrev Rm_min_2 : Room := { frames := 0, cells := 0, slots := 0, locals := 0 }
theorem min_2 (l : Launch) (Z : State) (a0 : Array Value) (hw : ∀ d ∈ tables_1, d.before a0 Z = true) (ws : List Jvm.Cond)  (h0 : Heap) (n0 : Nat) (Z0 : n0 ≤ h0.size) :
    MetFree l my24 (head1 (Jvm.Cond.code my24 jdk_29_method_69_code 2 (some .int) :: ws) Rm_min_2) (fun aa_ U => aa_ = #[(.int (10 : Int32)), (.int (2 : Int32))] ∧ Z.Warmed39 U.vm ∧ U.heap = h0) (fun _ _ _ _ _ => True) (fun _ U oo_ U' => ∃ v L, oo_ = .returned v ∧ Qmin_2 Z  h0 n0 v U'.heap L ∧ FrameEnd U oo_ U' L Rm_min_2.cells Rm_min_2.slots) := by
  refine MetFree.of_bodySF (Jvm.Free.JP.mathPlain rfl (by decide +kernel)) hisR ?_
  intro p e s m args below meth c s₁ Bd hml0 hP hK
  obtain ⟨rfl, hZ, hh⟩ := hP
  have hx := Bd.exec
  have hby := Bd.bytes
  have hml : c.maxLocals = 2 := hml0
  have hown : s.vm.findClass "java/lang/Math" = some m.cls := findClass_of_methodNamed Bd.named
  have hnm := (name_of_methodNamed Bd.named Bd.method).1
  have X0 : Stand p l e Rm_min_2 s m #[(.int (10 : Int32)), (.int (2 : Int32))] below meth c s₁ [] 0 0 := Stand.of_body Bd
  have e0 : s₁.heap = h0 := by rw [← hh, Bd.state]; rfl
  have N0 := Fr.nil n0
  have pre0 : ∀ tt_, Steps p.tables e below (s₁.setTop (mkF m 0 #[.val (.int (10 : Int32)), .val (.int (2 : Int32))] [])) tt_ → Steps p.tables e below (s₁.setTop (entryFrame m #[(.int (10 : Int32)), (.int (2 : Int32))] 2)) tt_ := fun tt_ kk_ => castTop (ef_21 m (10 : Int32) (2 : Int32)) kk_
  obtain ⟨fs, hr, hrun, hended, hW, hsame⟩ := X0.leave (v := some (.int (2 : Int32))) (fun h => by rw [Bd.returns] at h; cases h)
  refine ⟨_, _, pre0 _ ?_, hrun, hended, _, _, rfl, ?_, ⟨_, rfl⟩, hW, hsame.mono (by decide) (by decide)⟩
  · show Steps p.tables e below (s₁.setTop (mkF m 0 #[.val (.int (10 : Int32)), .val (.int (2 : Int32))] [])) _
    refine XS.iloadN X0.here hx rfl (hb hby d21_0) rfl ?_
    refine XS.iloadN X0.here hx rfl (hb hby d21_1) rfl ?_
    refine XS.icmpYes X0.here hx rfl (pc0 := 2) (pc' := 9) rfl (hb hby d21_2) rfl (tlt (show (2 : Int32) < (10 : Int32) from (by decide))).2.2.1 (by decide) (by decide) ?_
    refine XS.iloadN X0.here hx rfl (hb hby d21_9) rfl ?_
    exact retI X0 hx Bd.returns (hb hby d21_10) hr
  · show Qmin_2 Z  h0 n0 _ s₁.heap _
    rw [e0]
    exact ⟨rfl, N0, rfl⟩
def Qc3_2 (Z : State) (b : Addr) (q : Addr) (mr : Addr) (kb : ClassId) (h0 : Heap) (n0 : Nat) (v : Option Value) (h : Heap) (L : List Loc) : Prop := ∃ t : Addr, ∃ kt : ClassId, v = some (.ref t) ∧ Fr n0 L ∧ Keep h0 h [] ∧ Arv Z h t kt (.object "java/lang/Object") (2 : Int32) [(.ref q), (.ref q)] .null ∧ Exa Z h t "[Ljava/lang/Object;" ∧ Ovr Z kt "java/lang/Object" ∧ n0 ≤ t ∧ h0.size ≤ t
set_option maxRecDepth 65536 in
set_option maxHeartbeats 40000000 in
abbrev Rm_c3_2 : Room := { frames := 1, cells := 1, slots := 6, locals := 18 }
theorem c3_2 (l : Launch) (Z : State) (a0 : Array Value) (hw : ∀ d ∈ tables_1, d.before a0 Z = true) (ws : List Jvm.Cond) (b : Addr) (q : Addr) (mr : Addr) (kb : ClassId) (h0 : Heap) (n0 : Nat) (Z0 : n0 ≤ h0.size) (V_b : Arv Z h0 b kb (.object "java/lang/Object") (10 : Int32) [(.ref q), (.ref q), .null, .null, .null, .null, .null, .null, .null, .null] .null) (E_q : Exa Z h0 q "com/example/gleipnir/gleipnir/service/Counterplay$Position") (Mr : Mir Z "[Ljava/lang/Object;" mr) :
    MetFree l my25 (head1 (Jvm.Cond.code my25 jdk_65_method_120_code 4 (some (.array (.object "java/lang/Object"))) :: ws) Rm_c3_2) (fun aa_ U => aa_ = #[(.ref b), (.int (2 : Int32)), (.ref mr)] ∧ Z.Warmed39 U.vm ∧ U.heap = h0) (fun _ _ _ _ _ => True) (fun _ U oo_ U' => ∃ v L, oo_ = .returned v ∧ Qc3_2 Z b q mr kb h0 n0 v U'.heap L ∧ FrameEnd U oo_ U' L Rm_c3_2.cells Rm_c3_2.slots) := by
  refine MetFree.of_bodySF (plainFor_of_name pn_15) hisR ?_
  intro p e s m args below meth c s₁ Bd hml0 hP hK
  obtain ⟨rfl, hZ, hh⟩ := hP
  have hx := Bd.exec
  have hby := Bd.bytes
  have hml : c.maxLocals = 4 := hml0
  have hown : s.vm.findClass "java/util/Arrays" = some m.cls := findClass_of_methodNamed Bd.named
  have hnm := (name_of_methodNamed Bd.named Bd.method).1
  have X0 : Stand p l e Rm_c3_2 s m #[(.ref b), (.int (2 : Int32)), (.ref mr)] below meth c s₁ [] 0 0 := Stand.of_body Bd
  have e0 : s₁.heap = h0 := by rw [← hh, Bd.state]; rfl
  have N0 := Fr.nil n0
  have pre0 : ∀ tt_, Steps p.tables e below (s₁.setTop (mkF m 0 #[.val (.ref b), .val (.int (2 : Int32)), .val (.ref mr), .unset] [])) tt_ → Steps p.tables e below (s₁.setTop (entryFrame m #[(.ref b), (.int (2 : Int32)), (.ref mr)] 4)) tt_ := fun tt_ kk_ => castTop (ef_20 m b (2 : Int32) mr) kk_
  obtain ⟨vm1, X1, st1⟩ := X0.ldcMirror hx hown (mvT hZ (hwd134 hw)) (own_hev hZ Mr) (g := (mkF m 1 #[.val (.ref b), .val (.int (2 : Int32)), .val (.ref mr), .unset] [(.ref mr)])) rfl (hb hby d20_1)
  have e1 : (s₁.setVm vm1).heap = h0 := e0
  obtain ⟨T2, h2, k2, X2, e2, E2, A2, B2, O2, st2⟩ := newRE X1 hx hZ hown (hwd135 hw) (hwd103 hw) e1 (g := (mkF m 7 #[.val (.ref b), .val (.int (2 : Int32)), .val (.ref mr), .unset] [(.int (2 : Int32))])) rfl (hb hby d20_7) rfl (by decide) (cap := 2) (by decide) (by decide) (by decide) (by decide) (ad := "[Ljava/lang/Object;") (by decide)
  obtain ⟨b2, g2⟩ : ∃ zz_, zz_ = h0.size := ⟨_, rfl⟩
  rw [← g2] at A2 B2 st2
  have ne_b_b2 : b ≠ b2 := Nat.ne_of_lt (Nat.lt_of_lt_of_le V_b.lt (Nat.le_of_eq g2.symm))
  have ne_q_b2 : q ≠ b2 := Nat.ne_of_lt (Nat.lt_of_lt_of_le E_q.lt (Nat.le_of_eq g2.symm))
  have g_b2 : n0 ≤ b2 := Nat.le_trans Z0 (Nat.le_of_eq g2.symm)
  have sz_b2 : h0.size ≤ b2 := Nat.le_trans (Keep.refl h0 []).1 (Nat.le_of_eq g2.symm)
  have V_b2 : Arv Z h2 b2 k2 (.object "java/lang/Object") (2 : Int32) [.null, .null] .null := (Arv.new A2 (by decide)).pad (pad_rep [] .null 2)
  have f3_V_b := (V_b.ext E2)
  obtain ⟨cl4, Ar4, -, S4, M4, -, -⟩ := id f3_V_b
  have sz6 : n0 ≤ h2.size := (Nat.le_trans Z0 E2.1)
  obtain ⟨_, _, ⟨T5, L5, k5, n5⟩, -, X5, ⟨Lc5, hQ5, l5, y5, z5⟩, st5⟩ := Jvm.LawKit.callS X2 hx (y := my24) hown (mvT hZ (hwd136 hw)) (mvT hZ (hwd137 hw)) (mvT hZ (hwd100 hw)) (mvT hZ (hwd138 hw)) (by decide) (backOf (W := 4) (min_2 l Z a0 hw []  h2 n0 sz6 ) hZ (hwd138 hw) (hwd100 hw) (by decide) (by decide)) (g := (mkF m 32 #[.val (.ref b), .val (.int (2 : Int32)), .val (.ref mr), .val (.ref b2)] [(.int (2 : Int32)), (.int (10 : Int32)), (.int (0 : Int32)), (.ref b2), (.int (0 : Int32)), (.ref b)])) rfl (by rw [hml]; rfl) (argsL := [(.int (10 : Int32)), (.int (2 : Int32))]) (rest := [(.int (0 : Int32)), (.ref b2), (.int (0 : Int32)), (.ref b)]) (lenOf pd_4 rfl) rfl (by show 2 * 0 + _ ≤ _; exact Nat.le_of_eq rfl) (hb hby d20_32) (fun _ _ => ⟨rfl, e2, (by decide : 1 + 0 ≤ _), (by decide : 2 + 0 ≤ _)⟩)
  dsimp only [Pt.U, Pt.locs, Pt.cells, Pt.slots] at X5 l5 y5 z5 st5 hQ5
  subst l5 y5 z5
  obtain ⟨rfl, N5q, e5q⟩ := hQ5
  have N5 := Fr.app N0 N5q
  obtain ⟨cl7, Ar7, q7, -, -, -, -⟩ := id V_b2
  have f9_E_q := (E_q.ext E2)
  obtain ⟨T8, h8, L8, X8, e8, N8, K8, V8, st8⟩ := cpA X5 hx hZ hown (hwd139 hw) (hwd142 hw) (hwd140 hw) (hwd141 hw) e5q f3_V_b V_b2 (us := [(.ref q), (.ref q)]) (Or.inr ⟨rfl, rfl, ⟨Sto.ofV Ar7 q7 O2 (Ins.of_exa f9_E_q (hwd104 hw)), Sto.ofV Ar7 q7 O2 (Ins.of_exa f9_E_q (hwd104 hw)), trivial⟩⟩) (by decide) (by decide) (by decide) (by decide) (by decide) (by rfl) (Nat.le_of_ble_eq_true rfl) N5 g_b2 (g := (mkF m 35 #[.val (.ref b), .val (.int (2 : Int32)), .val (.ref mr), .val (.ref b2)] [(.int (2 : Int32)), (.int (0 : Int32)), (.ref b2), (.int (0 : Int32)), (.ref b)])) rfl (by rw [hml]; rfl) rfl (hb hby d20_35) (by decide) (W := 0) (by show 2 * 0 + _ ≤ _; exact Nat.le_of_eq rfl) (by decide)
  have Vc8 : Arv Z h8 b2 k2 (.object "java/lang/Object") (2 : Int32) [(.ref q), (.ref q)] .null := V8
  have kp10 : Keep h0 h8 [] := (((Keep.refl h0 []).ext E2).trans K8 (allS (Or.inr sz_b2) all0))
  have f11_E_b2 := (B2.keep K8)
  obtain ⟨fs, hr, hrun, hended, hW, hsame⟩ := X8.leave (v := some (.ref b2)) (fun h => by rw [Bd.returns] at h; cases h)
  refine ⟨_, _, pre0 _ ?_, hrun, hended, _, _, rfl, ?_, ⟨_, rfl⟩, hW, hsame.mono (by decide) (by decide)⟩
  · show Steps p.tables e below (s₁.setTop (mkF m 0 #[.val (.ref b), .val (.int (2 : Int32)), .val (.ref mr), .unset] [])) _
    refine XS.aloadN X0.here hx rfl (hb hby d20_0) rfl rfl ?_
    refine st1 _ ?_
    refine Jvm.RoadKit.acmp (g := (mkF m 3 #[.val (.ref b), .val (.int (2 : Int32)), .val (.ref mr), .unset] [(.ref mr), (.ref mr)])) X1 hx rfl rfl rfl (pc0 := 3) (pc' := 6) (same := true) rfl (hb hby d20_3) rfl (decide_eq_true rfl) (by decide) (by decide) ?_
    refine XS.iloadN X1.here hx rfl (hb hby d20_6) rfl ?_
    refine st2 _ ?_
    refine XS.goto X2.here hx rfl (pc0 := 10) (pc' := 24) rfl (hb hby d20_10) (by decide) (by decide) ?_
    show Steps p.tables e below (T2.setTop (mkF m 24 #[.val (.ref b), .val (.int (2 : Int32)), .val (.ref mr), .unset] [(.ref b2)])) _
    refine XS.astoreN X2.here hx rfl (hb hby d20_24) rfl rfl (l' := #[.val (.ref b), .val (.int (2 : Int32)), .val (.ref mr), .val (.ref b2)]) rfl ?_
    refine XS.aloadN X2.here hx rfl (hb hby d20_25) rfl rfl ?_
    refine XS.iconst X2.here hx rfl (hb hby d20_26) ?_
    refine XS.aloadN X2.here hx rfl (hb hby d20_27) rfl rfl ?_
    refine XS.iconst X2.here hx rfl (hb hby d20_28) ?_
    refine XS.aloadN X2.here hx rfl (hb hby d20_29) rfl rfl ?_
    show Steps p.tables e below (T2.setTop (mkF m 30 #[.val (.ref b), .val (.int (2 : Int32)), .val (.ref mr), .val (.ref b2)] [(.ref b), (.int (0 : Int32)), (.ref b2), (.int (0 : Int32)), (.ref b)])) _
    refine X2.arraylength hx (by rw [e2]; exact Ar4.1) (State.isArrayOf_alike hZ.alike Ar4.2.1) (g := (mkF m 30 #[.val (.ref b), .val (.int (2 : Int32)), .val (.ref mr), .val (.ref b2)] [(.ref b), (.int (0 : Int32)), (.ref b2), (.int (0 : Int32)), (.ref b)])) rfl rfl (hb hby d20_30) _ ?_
    rw [len_of S4 M4]
    refine XS.iloadN X2.here hx rfl (hb hby d20_31) rfl ?_
    refine st5 _ ?_
    refine st8 _ ?_
    refine XS.aloadN X8.here hx rfl (hb hby d20_38) rfl rfl ?_
    jvm_step X8.here [X8.here.top, hx, (hb hby d20_39), X8.method', Bd.returns, Value.isRef, FieldType.isReference]
    first | (intro acts; rw [hr _ acts rfl rfl rfl]) | rw [hr _ _ rfl rfl rfl]
    exact Steps.refl _
  · show Qc3_2 Z b q mr kb h0 n0 _ T8.heap _
    rw [e8]
    exact ⟨b2, k2, rfl, N8, kp10, Vc8, f11_E_b2, O2, g_b2, sz_b2⟩
theorem hwd237 {Z : State} {a0 : Array Value} (hw : ∀ d ∈ tables_1, d.before a0 Z = true) : (Jvm.Cond.methodLink "java/util/List" (100 : Nat) ({ cls := "java/util/ImmutableCollections$List12", name := "<init>", desc := "(Ljava/lang/Object;Ljava/lang/Object;)V" } : Jvm.MethodName)).before a0 Z = true := hw _ (List.mem_of_getElem? (i := 237) rfl)
theorem hwd239 {Z : State} {a0 : Array Value} (hw : ∀ d ∈ tables_1, d.before a0 Z = true) : (Jvm.Cond.code ({ cls := "java/util/ImmutableCollections$List12", name := "<init>", desc := "(Ljava/lang/Object;Ljava/lang/Object;)V" } : Jvm.MethodName) jdk_44_method_2_code (3 : Nat) (Option.none : Option Jvm.ClassFile.FieldType)).before a0 Z = true := hw _ (List.mem_of_getElem? (i := 239) rfl)
theorem pd_11 : parseMethodDescriptor "(Ljava/lang/Object;Ljava/lang/Object;)V" = some ⟨[(.object "java/lang/Object"), (.object "java/lang/Object")], none⟩ := by decide +kernel
theorem hwd238 {Z : State} {a0 : Array Value} (hw : ∀ d ∈ tables_1, d.before a0 Z = true) : (Jvm.Cond.instanceMethod ({ cls := "java/util/ImmutableCollections$List12", name := "<init>", desc := "(Ljava/lang/Object;Ljava/lang/Object;)V" } : Jvm.MethodName)).before a0 Z = true := hw _ (List.mem_of_getElem? (i := 238) rfl)
theorem d22_45 : decode jdk_40_method_47_code 45 = .ok (.new 96, 3) := by decide +kernel
theorem d22_48 : decode jdk_40_method_47_code 48 = .ok (.dup, 1) := by decide +kernel
theorem d22_49 : decode jdk_40_method_47_code 49 = .ok (.aload_n 0, 1) := by decide +kernel
theorem d22_50 : decode jdk_40_method_47_code 50 = .ok (.iconst 0, 1) := by decide +kernel
theorem d22_51 : decode jdk_40_method_47_code 51 = .ok (.aaload, 1) := by decide +kernel
theorem d22_52 : decode jdk_40_method_47_code 52 = .ok (.aload_n 0, 1) := by decide +kernel
theorem d22_53 : decode jdk_40_method_47_code 53 = .ok (.iconst 1, 1) := by decide +kernel
theorem d22_54 : decode jdk_40_method_47_code 54 = .ok (.aaload, 1) := by decide +kernel
theorem d22_55 : decode jdk_40_method_47_code 55 = .ok (.invokespecial 100, 3) := by decide +kernel
theorem d22_58 : decode jdk_40_method_47_code 58 = .ok (.areturn, 1) := by decide +kernel
def Qofa_2 (Z : State) (t : Addr) (q : Addr) (em : Addr) (kt : ClassId) (h0 : Heap) (n0 : Nat) (v : Option Value) (h : Heap) (L : List Loc) : Prop := ∃ lst : Addr, v = some (.ref lst) ∧ Fr n0 L ∧ Keep h0 h [] ∧ Lg Z h h0.size (2 : Int32) q em lst
set_option maxRecDepth 65536 in
set_option maxHeartbeats 40000000 in
abbrev Rm_ofa_2 : Room := { frames := 6, cells := 2, slots := 8, locals := 77 }
theorem ofa_2 (l : Launch) (Z : State) (a0 : Array Value) (hw : ∀ d ∈ tables_1, d.before a0 Z = true) (ws : List Jvm.Cond) (t : Addr) (q : Addr) (em : Addr) (kt : ClassId) (h0 : Heap) (n0 : Nat) (Z0 : n0 ≤ h0.size) (V_t : Arv Z h0 t kt (.object "java/lang/Object") (2 : Int32) [(.ref q), (.ref q)] .null) (E_q : Exa Z h0 q "com/example/gleipnir/gleipnir/service/Counterplay$Position") (O_M : Sta Z Z.heap "java/util/ImmutableCollections" "EMPTY" "Ljava/lang/Object;" (.ref em)) (X00 : Old Z n0 h0) :
    MetFree l my26 (head1 (Jvm.Cond.code my26 jdk_40_method_47_code 2 (some (.object "java/util/List")) :: ws) Rm_ofa_2) (fun aa_ U => aa_ = #[(.ref t)] ∧ Z.Warmed39 U.vm ∧ U.heap = h0) (fun _ _ _ _ _ => True) (fun _ U oo_ U' => ∃ v L, oo_ = .returned v ∧ Qofa_2 Z t q em kt h0 n0 v U'.heap L ∧ FrameEnd U oo_ U' L Rm_ofa_2.cells Rm_ofa_2.slots) := by
  refine MetFree.of_bodySF (plainFor_of_name pn_6) hisR ?_
  intro p e s m args below meth c s₁ Bd hml0 hP hK
  obtain ⟨rfl, hZ, hh⟩ := hP
  have hx := Bd.exec
  have hby := Bd.bytes
  have hml : c.maxLocals = 2 := hml0
  have hown : s.vm.findClass "java/util/List" = some m.cls := findClass_of_methodNamed Bd.named
  have hnm := (name_of_methodNamed Bd.named Bd.method).1
  have X0 : Stand p l e Rm_ofa_2 s m #[(.ref t)] below meth c s₁ [] 0 0 := Stand.of_body Bd
  have e0 : s₁.heap = h0 := by rw [← hh, Bd.state]; rfl
  have N0 := Fr.nil n0
  have pre0 : ∀ tt_, Steps p.tables e below (s₁.setTop (mkF m 0 #[.val (.ref t), .unset] [])) tt_ → Steps p.tables e below (s₁.setTop (entryFrame m #[(.ref t)] 2)) tt_ := fun tt_ kk_ => castTop (ef_22 m t) kk_
  obtain ⟨cl1, Ar1, -, S1, M1, -, -⟩ := id V_t
  obtain ⟨T2, h2, X2, e2, E2, A2, D2, -, st2⟩ := newO X0 hx hZ hown (hwd214 hw) (hwd215 hw) (hwd216 hw) e0 (g := (mkF m 45 #[.val (.ref t), .unset] [])) rfl (hb hby d22_45) (by decide) (by decide)
  obtain ⟨b2, g2⟩ : ∃ zz_, zz_ = h0.size := ⟨_, rfl⟩
  rw [← g2] at A2 D2 st2
  have ne_t_b2 : t ≠ b2 := Nat.ne_of_lt (Nat.lt_of_lt_of_le V_t.lt (Nat.le_of_eq g2.symm))
  have ne_q_b2 : q ≠ b2 := Nat.ne_of_lt (Nat.lt_of_lt_of_le E_q.lt (Nat.le_of_eq g2.symm))
  have g_b2 : n0 ≤ b2 := Nat.le_trans Z0 (Nat.le_of_eq g2.symm)
  have sz_b2 : h0.size ≤ b2 := Nat.le_trans (Keep.refl h0 []).1 (Nat.le_of_eq g2.symm)
  have F_e0_b2 : Fld Z h2 b2 "java/util/ImmutableCollections$List12" "e0" "Ljava/lang/Object;" .null := D2 (Or.inr (hwd227 hw)) (ty := (.object "java/lang/Object")) (by decide)
  have F_e1_b2 : Fld Z h2 b2 "java/util/ImmutableCollections$List12" "e1" "Ljava/lang/Object;" .null := D2 (Or.inr (hwd230 hw)) (ty := (.object "java/lang/Object")) (by decide)
  have f3_V_t := (V_t.ext E2)
  obtain ⟨cl4, Ar4, q4, S4, M4, H4, G4⟩ := id f3_V_t
  have hin4 : ¬ ((0 : Int32) < 0 ∨ cl4.slots.size ≤ ((0 : Int32)).toNatClampNeg) := inb_of S4 ⟨by decide, by decide⟩
  have hat4 : cl4.slots[((0 : Int32)).toNatClampNeg]? = some (.ref q) := H4.at hin4 rfl
  obtain ⟨cl5, Ar5, q5, S5, M5, H5, G5⟩ := id f3_V_t
  have hin5 : ¬ ((1 : Int32) < 0 ∨ cl5.slots.size ≤ ((1 : Int32)).toNatClampNeg) := inb_of S5 ⟨by decide, by decide⟩
  have hat5 : cl5.slots[((1 : Int32)).toNatClampNeg]? = some (.ref q) := H5.at hin5 rfl
  have sz7 : n0 ≤ h2.size := (Nat.le_trans Z0 E2.1)
  obtain ⟨_, _, ⟨T6, L6, k6, n6⟩, -, X6, ⟨Lc6, hQ6, l6, y6, z6⟩, st6⟩ := X2.specialBack hx (y := my21) rfl hown (mvT hZ (hwd237 hw)) (mvT hZ (hwd238 hw)) (mvT hZ (hwd239 hw)) (by decide) (backOf (W := 1) (rm35 l Z a0 hw [] b2 q h2 n0 sz7 A2 F_e0_b2 F_e1_b2 g_b2) hZ (hwd239 hw) (hwd216 hw) (by decide) (by decide)) (g := (mkF m 55 #[.val (.ref t), .unset] [(.ref q), (.ref q), (.ref b2), (.ref b2)])) rfl (by rw [hml]; rfl) (Steps.refl _) (a := b2) (argsL := [(.ref q), (.ref q)]) (rest := [(.ref b2)]) (lenOf pd_11 rfl) rfl (by show 2 * 0 + _ ≤ _; exact Nat.le_of_eq rfl) (hb hby d22_55) (fun _ _ => ⟨rfl, e2, (by decide : 1 + 0 ≤ _), (by decide : 2 + 0 ≤ _)⟩)
  dsimp only [Pt.U, Pt.locs, Pt.cells, Pt.slots] at X6 l6 y6 z6 st6 hQ6
  subst l6 y6 z6
  obtain ⟨rfl, N6q, K6, p6_1, p6_2⟩ := hQ6
  have N6 := Fr.app N0 N6q
  have kp8 : Keep h0 T6.heap [] := (((Keep.refl h0 []).ext E2).trans K6 (allS (Or.inr sz_b2) all0))
  obtain ⟨fs, hr, hrun, hended, hW, hsame⟩ := X6.leave (v := some (.ref b2)) (fun h => by rw [Bd.returns] at h; cases h)
  refine ⟨_, _, pre0 _ ?_, hrun, hended, _, _, rfl, ?_, ⟨_, rfl⟩, hW, hsame.mono (by decide) (by decide)⟩
  · show Steps p.tables e below (s₁.setTop (mkF m 0 #[.val (.ref t), .unset] [])) _
    refine XS.aloadN X0.here hx rfl (hb hby d22_0) rfl rfl ?_
    refine X0.arraylength hx (by rw [e0]; exact Ar1.1) (State.isArrayOf_alike hZ.alike Ar1.2.1) (g := (mkF m 1 #[.val (.ref t), .unset] [(.ref t)])) rfl rfl (hb hby d22_1) _ ?_
    rw [len_of S1 M1]
    refine XS.tswIn X0.here hx rfl (pc0 := 2) (pc' := 45) rfl (hb hby d22_2) rfl (by decide) (by rfl) (by decide) (by decide) ?_
    refine st2 _ ?_
    refine XS.dup X2.here hx rfl (hb hby d22_48) rfl rfl ?_
    refine XS.aloadN X2.here hx rfl (hb hby d22_49) rfl rfl ?_
    show Steps p.tables e below (T2.setTop (mkF m 50 #[.val (.ref t), .unset] [(.ref t), (.ref b2), (.ref b2)])) _
    refine XS.iconst X2.here hx rfl (hb hby d22_50) ?_
    refine X2.aaload hx (j := (0 : Int32)) (v := (.ref q)) (by rw [e2]; exact Ar4.1) (State.isArrayOf_alike hZ.alike Ar4.2.1) rfl Ar4.2.2 hin4 hat4 (g := (mkF m 51 #[.val (.ref t), .unset] [(.int (0 : Int32)), (.ref t), (.ref b2), (.ref b2)])) rfl rfl (hb hby d22_51) _ ?_
    refine XS.aloadN X2.here hx rfl (hb hby d22_52) rfl rfl ?_
    refine XS.iconst X2.here hx rfl (hb hby d22_53) ?_
    refine X2.aaload hx (j := (1 : Int32)) (v := (.ref q)) (by rw [e2]; exact Ar5.1) (State.isArrayOf_alike hZ.alike Ar5.2.1) rfl Ar5.2.2 hin5 hat5 (g := (mkF m 54 #[.val (.ref t), .unset] [(.int (1 : Int32)), (.ref t), (.ref q), (.ref b2), (.ref b2)])) rfl rfl (hb hby d22_54) _ ?_
    refine st6.trans ?_
    show Steps p.tables e below (T6.setTop (mkF m 58 #[.val (.ref t), .unset] [(.ref b2)])) _
    jvm_step X6.here [X6.here.top, hx, (hb hby d22_58), X6.method', Bd.returns, Value.isRef, FieldType.isReference]
    first | (intro acts; rw [hr _ acts rfl rfl rfl]) | rw [hr _ _ rfl rfl rfl]
    exact Steps.refl _
  · show Qofa_2 Z t q em kt h0 n0 _ T6.heap _
    exact ⟨b2, rfl, N6, kp8, ⟨sz_b2, Or.inr (Or.inl ⟨rfl, p6_1, p6_2⟩)⟩⟩
def Qmin_3 (Z : State)  (h0 : Heap) (n0 : Nat) (v : Option Value) (h : Heap) (L : List Loc) : Prop := v = some (.int (3 : Int32)) ∧ Fr n0 L ∧ h = h0
set_option maxRecDepth 65536 in
set_option maxHeartbeats 40000000 in
abbrev Rm_min_3 : Room := { frames := 0, cells := 0, slots := 0, locals := 0 }
theorem min_3 (l : Launch) (Z : State) (a0 : Array Value) (hw : ∀ d ∈ tables_1, d.before a0 Z = true) (ws : List Jvm.Cond)  (h0 : Heap) (n0 : Nat) (Z0 : n0 ≤ h0.size) :
    MetFree l my24 (head1 (Jvm.Cond.code my24 jdk_29_method_69_code 2 (some .int) :: ws) Rm_min_3) (fun aa_ U => aa_ = #[(.int (10 : Int32)), (.int (3 : Int32))] ∧ Z.Warmed39 U.vm ∧ U.heap = h0) (fun _ _ _ _ _ => True) (fun _ U oo_ U' => ∃ v L, oo_ = .returned v ∧ Qmin_3 Z  h0 n0 v U'.heap L ∧ FrameEnd U oo_ U' L Rm_min_3.cells Rm_min_3.slots) := by
  refine MetFree.of_bodySF (Jvm.Free.JP.mathPlain rfl (by decide +kernel)) hisR ?_
  intro p e s m args below meth c s₁ Bd hml0 hP hK
  obtain ⟨rfl, hZ, hh⟩ := hP
  have hx := Bd.exec
  have hby := Bd.bytes
  have hml : c.maxLocals = 2 := hml0
  have hown : s.vm.findClass "java/lang/Math" = some m.cls := findClass_of_methodNamed Bd.named
  have hnm := (name_of_methodNamed Bd.named Bd.method).1
  have X0 : Stand p l e Rm_min_3 s m #[(.int (10 : Int32)), (.int (3 : Int32))] below meth c s₁ [] 0 0 := Stand.of_body Bd
  have e0 : s₁.heap = h0 := by rw [← hh, Bd.state]; rfl
  have N0 := Fr.nil n0
  have pre0 : ∀ tt_, Steps p.tables e below (s₁.setTop (mkF m 0 #[.val (.int (10 : Int32)), .val (.int (3 : Int32))] [])) tt_ → Steps p.tables e below (s₁.setTop (entryFrame m #[(.int (10 : Int32)), (.int (3 : Int32))] 2)) tt_ := fun tt_ kk_ => castTop (ef_21 m (10 : Int32) (3 : Int32)) kk_
  obtain ⟨fs, hr, hrun, hended, hW, hsame⟩ := X0.leave (v := some (.int (3 : Int32))) (fun h => by rw [Bd.returns] at h; cases h)
  refine ⟨_, _, pre0 _ ?_, hrun, hended, _, _, rfl, ?_, ⟨_, rfl⟩, hW, hsame.mono (by decide) (by decide)⟩
  · show Steps p.tables e below (s₁.setTop (mkF m 0 #[.val (.int (10 : Int32)), .val (.int (3 : Int32))] [])) _
    refine XS.iloadN X0.here hx rfl (hb hby d21_0) rfl ?_
    refine XS.iloadN X0.here hx rfl (hb hby d21_1) rfl ?_
    refine XS.icmpYes X0.here hx rfl (pc0 := 2) (pc' := 9) rfl (hb hby d21_2) rfl (tlt (show (3 : Int32) < (10 : Int32) from (by decide))).2.2.1 (by decide) (by decide) ?_
    refine XS.iloadN X0.here hx rfl (hb hby d21_9) rfl ?_
    exact retI X0 hx Bd.returns (hb hby d21_10) hr
  · show Qmin_3 Z  h0 n0 _ s₁.heap _
    rw [e0]
    exact ⟨rfl, N0, rfl⟩
def Qc3_3 (Z : State) (b : Addr) (q : Addr) (mr : Addr) (kb : ClassId) (h0 : Heap) (n0 : Nat) (v : Option Value) (h : Heap) (L : List Loc) : Prop := ∃ t : Addr, ∃ kt : ClassId, v = some (.ref t) ∧ Fr n0 L ∧ Keep h0 h [] ∧ Arv Z h t kt (.object "java/lang/Object") (3 : Int32) [(.ref q), (.ref q), (.ref q)] .null ∧ Exa Z h t "[Ljava/lang/Object;" ∧ Ovr Z kt "java/lang/Object" ∧ n0 ≤ t ∧ h0.size ≤ t
set_option maxRecDepth 65536 in
set_option maxHeartbeats 40000000 in
abbrev Rm_c3_3 : Room := { frames := 1, cells := 1, slots := 6, locals := 18 }
theorem c3_3 (l : Launch) (Z : State) (a0 : Array Value) (hw : ∀ d ∈ tables_1, d.before a0 Z = true) (ws : List Jvm.Cond) (b : Addr) (q : Addr) (mr : Addr) (kb : ClassId) (h0 : Heap) (n0 : Nat) (Z0 : n0 ≤ h0.size) (V_b : Arv Z h0 b kb (.object "java/lang/Object") (10 : Int32) [(.ref q), (.ref q), (.ref q), .null, .null, .null, .null, .null, .null, .null] .null) (E_q : Exa Z h0 q "com/example/gleipnir/gleipnir/service/Counterplay$Position") (Mr : Mir Z "[Ljava/lang/Object;" mr) :
    MetFree l my25 (head1 (Jvm.Cond.code my25 jdk_65_method_120_code 4 (some (.array (.object "java/lang/Object"))) :: ws) Rm_c3_3) (fun aa_ U => aa_ = #[(.ref b), (.int (3 : Int32)), (.ref mr)] ∧ Z.Warmed39 U.vm ∧ U.heap = h0) (fun _ _ _ _ _ => True) (fun _ U oo_ U' => ∃ v L, oo_ = .returned v ∧ Qc3_3 Z b q mr kb h0 n0 v U'.heap L ∧ FrameEnd U oo_ U' L Rm_c3_3.cells Rm_c3_3.slots) := by
  refine MetFree.of_bodySF (plainFor_of_name pn_15) hisR ?_
  intro p e s m args below meth c s₁ Bd hml0 hP hK
  obtain ⟨rfl, hZ, hh⟩ := hP
  have hx := Bd.exec
  have hby := Bd.bytes
  have hml : c.maxLocals = 4 := hml0
  have hown : s.vm.findClass "java/util/Arrays" = some m.cls := findClass_of_methodNamed Bd.named
  have hnm := (name_of_methodNamed Bd.named Bd.method).1
  have X0 : Stand p l e Rm_c3_3 s m #[(.ref b), (.int (3 : Int32)), (.ref mr)] below meth c s₁ [] 0 0 := Stand.of_body Bd
  have e0 : s₁.heap = h0 := by rw [← hh, Bd.state]; rfl
  have N0 := Fr.nil n0
  have pre0 : ∀ tt_, Steps p.tables e below (s₁.setTop (mkF m 0 #[.val (.ref b), .val (.int (3 : Int32)), .val (.ref mr), .unset] [])) tt_ → Steps p.tables e below (s₁.setTop (entryFrame m #[(.ref b), (.int (3 : Int32)), (.ref mr)] 4)) tt_ := fun tt_ kk_ => castTop (ef_20 m b (3 : Int32) mr) kk_
  obtain ⟨vm1, X1, st1⟩ := X0.ldcMirror hx hown (mvT hZ (hwd134 hw)) (own_hev hZ Mr) (g := (mkF m 1 #[.val (.ref b), .val (.int (3 : Int32)), .val (.ref mr), .unset] [(.ref mr)])) rfl (hb hby d20_1)
  have e1 : (s₁.setVm vm1).heap = h0 := e0
  obtain ⟨T2, h2, k2, X2, e2, E2, A2, B2, O2, st2⟩ := newRE X1 hx hZ hown (hwd135 hw) (hwd103 hw) e1 (g := (mkF m 7 #[.val (.ref b), .val (.int (3 : Int32)), .val (.ref mr), .unset] [(.int (3 : Int32))])) rfl (hb hby d20_7) rfl (by decide) (cap := 3) (by decide) (by decide) (by decide) (by decide) (ad := "[Ljava/lang/Object;") (by decide)
  obtain ⟨b2, g2⟩ : ∃ zz_, zz_ = h0.size := ⟨_, rfl⟩
  rw [← g2] at A2 B2 st2
  have ne_b_b2 : b ≠ b2 := Nat.ne_of_lt (Nat.lt_of_lt_of_le V_b.lt (Nat.le_of_eq g2.symm))
  have ne_q_b2 : q ≠ b2 := Nat.ne_of_lt (Nat.lt_of_lt_of_le E_q.lt (Nat.le_of_eq g2.symm))
  have g_b2 : n0 ≤ b2 := Nat.le_trans Z0 (Nat.le_of_eq g2.symm)
  have sz_b2 : h0.size ≤ b2 := Nat.le_trans (Keep.refl h0 []).1 (Nat.le_of_eq g2.symm)
  have V_b2 : Arv Z h2 b2 k2 (.object "java/lang/Object") (3 : Int32) [.null, .null, .null] .null := (Arv.new A2 (by decide)).pad (pad_rep [] .null 3)
  have f3_V_b := (V_b.ext E2)
  obtain ⟨cl4, Ar4, -, S4, M4, -, -⟩ := id f3_V_b
  have sz6 : n0 ≤ h2.size := (Nat.le_trans Z0 E2.1)
  obtain ⟨_, _, ⟨T5, L5, k5, n5⟩, -, X5, ⟨Lc5, hQ5, l5, y5, z5⟩, st5⟩ := Jvm.LawKit.callS X2 hx (y := my24) hown (mvT hZ (hwd136 hw)) (mvT hZ (hwd137 hw)) (mvT hZ (hwd100 hw)) (mvT hZ (hwd138 hw)) (by decide) (backOf (W := 4) (min_3 l Z a0 hw []  h2 n0 sz6 ) hZ (hwd138 hw) (hwd100 hw) (by decide) (by decide)) (g := (mkF m 32 #[.val (.ref b), .val (.int (3 : Int32)), .val (.ref mr), .val (.ref b2)] [(.int (3 : Int32)), (.int (10 : Int32)), (.int (0 : Int32)), (.ref b2), (.int (0 : Int32)), (.ref b)])) rfl (by rw [hml]; rfl) (argsL := [(.int (10 : Int32)), (.int (3 : Int32))]) (rest := [(.int (0 : Int32)), (.ref b2), (.int (0 : Int32)), (.ref b)]) (lenOf pd_4 rfl) rfl (by show 2 * 0 + _ ≤ _; exact Nat.le_of_eq rfl) (hb hby d20_32) (fun _ _ => ⟨rfl, e2, (by decide : 1 + 0 ≤ _), (by decide : 3 + 0 ≤ _)⟩)
  dsimp only [Pt.U, Pt.locs, Pt.cells, Pt.slots] at X5 l5 y5 z5 st5 hQ5
  subst l5 y5 z5
  obtain ⟨rfl, N5q, e5q⟩ := hQ5
  have N5 := Fr.app N0 N5q
  obtain ⟨cl7, Ar7, q7, -, -, -, -⟩ := id V_b2
  have f9_E_q := (E_q.ext E2)
  obtain ⟨T8, h8, L8, X8, e8, N8, K8, V8, st8⟩ := cpA X5 hx hZ hown (hwd139 hw) (hwd142 hw) (hwd140 hw) (hwd141 hw) e5q f3_V_b V_b2 (us := [(.ref q), (.ref q), (.ref q)]) (Or.inr ⟨rfl, rfl, ⟨Sto.ofV Ar7 q7 O2 (Ins.of_exa f9_E_q (hwd104 hw)), Sto.ofV Ar7 q7 O2 (Ins.of_exa f9_E_q (hwd104 hw)), Sto.ofV Ar7 q7 O2 (Ins.of_exa f9_E_q (hwd104 hw)), trivial⟩⟩) (by decide) (by decide) (by decide) (by decide) (by decide) (by rfl) (Nat.le_of_ble_eq_true rfl) N5 g_b2 (g := (mkF m 35 #[.val (.ref b), .val (.int (3 : Int32)), .val (.ref mr), .val (.ref b2)] [(.int (3 : Int32)), (.int (0 : Int32)), (.ref b2), (.int (0 : Int32)), (.ref b)])) rfl (by rw [hml]; rfl) rfl (hb hby d20_35) (by decide) (W := 0) (by show 2 * 0 + _ ≤ _; exact Nat.le_of_eq rfl) (by decide)
  have Vc8 : Arv Z h8 b2 k2 (.object "java/lang/Object") (3 : Int32) [(.ref q), (.ref q), (.ref q)] .null := V8
  have kp10 : Keep h0 h8 [] := (((Keep.refl h0 []).ext E2).trans K8 (allS (Or.inr sz_b2) all0))
  have f11_E_b2 := (B2.keep K8)
  obtain ⟨fs, hr, hrun, hended, hW, hsame⟩ := X8.leave (v := some (.ref b2)) (fun h => by rw [Bd.returns] at h; cases h)
  refine ⟨_, _, pre0 _ ?_, hrun, hended, _, _, rfl, ?_, ⟨_, rfl⟩, hW, hsame.mono (by decide) (by decide)⟩
  · show Steps p.tables e below (s₁.setTop (mkF m 0 #[.val (.ref b), .val (.int (3 : Int32)), .val (.ref mr), .unset] [])) _
    refine XS.aloadN X0.here hx rfl (hb hby d20_0) rfl rfl ?_
    refine st1 _ ?_
    refine Jvm.RoadKit.acmp (g := (mkF m 3 #[.val (.ref b), .val (.int (3 : Int32)), .val (.ref mr), .unset] [(.ref mr), (.ref mr)])) X1 hx rfl rfl rfl (pc0 := 3) (pc' := 6) (same := true) rfl (hb hby d20_3) rfl (decide_eq_true rfl) (by decide) (by decide) ?_
    refine XS.iloadN X1.here hx rfl (hb hby d20_6) rfl ?_
    refine st2 _ ?_
    refine XS.goto X2.here hx rfl (pc0 := 10) (pc' := 24) rfl (hb hby d20_10) (by decide) (by decide) ?_
    show Steps p.tables e below (T2.setTop (mkF m 24 #[.val (.ref b), .val (.int (3 : Int32)), .val (.ref mr), .unset] [(.ref b2)])) _
    refine XS.astoreN X2.here hx rfl (hb hby d20_24) rfl rfl (l' := #[.val (.ref b), .val (.int (3 : Int32)), .val (.ref mr), .val (.ref b2)]) rfl ?_
    refine XS.aloadN X2.here hx rfl (hb hby d20_25) rfl rfl ?_
    refine XS.iconst X2.here hx rfl (hb hby d20_26) ?_
    refine XS.aloadN X2.here hx rfl (hb hby d20_27) rfl rfl ?_
    refine XS.iconst X2.here hx rfl (hb hby d20_28) ?_
    refine XS.aloadN X2.here hx rfl (hb hby d20_29) rfl rfl ?_
    show Steps p.tables e below (T2.setTop (mkF m 30 #[.val (.ref b), .val (.int (3 : Int32)), .val (.ref mr), .val (.ref b2)] [(.ref b), (.int (0 : Int32)), (.ref b2), (.int (0 : Int32)), (.ref b)])) _
    refine X2.arraylength hx (by rw [e2]; exact Ar4.1) (State.isArrayOf_alike hZ.alike Ar4.2.1) (g := (mkF m 30 #[.val (.ref b), .val (.int (3 : Int32)), .val (.ref mr), .val (.ref b2)] [(.ref b), (.int (0 : Int32)), (.ref b2), (.int (0 : Int32)), (.ref b)])) rfl rfl (hb hby d20_30) _ ?_
    rw [len_of S4 M4]
    refine XS.iloadN X2.here hx rfl (hb hby d20_31) rfl ?_
    refine st5 _ ?_
    refine st8 _ ?_
    refine XS.aloadN X8.here hx rfl (hb hby d20_38) rfl rfl ?_
    jvm_step X8.here [X8.here.top, hx, (hb hby d20_39), X8.method', Bd.returns, Value.isRef, FieldType.isReference]
    first | (intro acts; rw [hr _ acts rfl rfl rfl]) | rw [hr _ _ rfl rfl rfl]
    exact Steps.refl _
  · show Qc3_3 Z b q mr kb h0 n0 _ T8.heap _
    rw [e8]
    exact ⟨b2, k2, rfl, N8, kp10, Vc8, f11_E_b2, O2, g_b2, sz_b2⟩
theorem hwd149 {Z : State} {a0 : Array Value} (hw : ∀ d ∈ tables_1, d.before a0 Z = true) : (Jvm.Cond.classLink "java/util/ImmutableCollections" (2 : Nat) "java/lang/Object").before a0 Z = true := hw _ (List.mem_of_getElem? (i := 149) rfl)
theorem hwd150 {Z : State} {a0 : Array Value} (hw : ∀ d ∈ tables_1, d.before a0 Z = true) : (Jvm.Cond.methodLink "java/util/ImmutableCollections" (37 : Nat) ({ cls := "java/util/Objects", name := "requireNonNull", desc := "(Ljava/lang/Object;)Ljava/lang/Object;" } : Jvm.MethodName)).before a0 Z = true := hw _ (List.mem_of_getElem? (i := 150) rfl)
theorem hwd155 {Z : State} {a0 : Array Value} (hw : ∀ d ∈ tables_1, d.before a0 Z = true) : (Jvm.Cond.initialized "java/util/ImmutableCollections$ListN").before a0 Z = true := hw _ (List.mem_of_getElem? (i := 155) rfl)
theorem hwd156 {Z : State} {a0 : Array Value} (hw : ∀ d ∈ tables_1, d.before a0 Z = true) : (Jvm.Cond.methodLinkNest "java/util/ImmutableCollections" (43 : Nat) ({ cls := "java/util/ImmutableCollections$ListN", name := "<init>", desc := "([Ljava/lang/Object;Z)V" } : Jvm.MethodName) "java/util/ImmutableCollections").before a0 Z = true := hw _ (List.mem_of_getElem? (i := 156) rfl)
theorem hwd159 {Z : State} {a0 : Array Value} (hw : ∀ d ∈ tables_1, d.before a0 Z = true) : (Jvm.Cond.code ({ cls := "java/util/ImmutableCollections$ListN", name := "<init>", desc := "([Ljava/lang/Object;Z)V" } : Jvm.MethodName) jdk_45_method_1_code (3 : Nat) (Option.none : Option Jvm.ClassFile.FieldType)).before a0 Z = true := hw _ (List.mem_of_getElem? (i := 159) rfl)
theorem pd_12 : parseMethodDescriptor "([Ljava/lang/Object;Z)V" = some ⟨[(.array (.object "java/lang/Object")), .boolean], none⟩ := by decide +kernel
theorem hwd157 {Z : State} {a0 : Array Value} (hw : ∀ d ∈ tables_1, d.before a0 Z = true) : (Jvm.Cond.instanceMethod ({ cls := "java/util/ImmutableCollections$ListN", name := "<init>", desc := "([Ljava/lang/Object;Z)V" } : Jvm.MethodName)).before a0 Z = true := hw _ (List.mem_of_getElem? (i := 157) rfl)
theorem d23_0 : decode jdk_56_method_4_code 0 = .ok (.aload_n 0, 1) := by decide +kernel
theorem d23_1 : decode jdk_56_method_4_code 1 = .ok (.arraylength, 1) := by decide +kernel
theorem d23_2 : decode jdk_56_method_4_code 2 = .ok (.anewarray 2, 3) := by decide +kernel
theorem d23_5 : decode jdk_56_method_4_code 5 = .ok (.astore_n 1, 1) := by decide +kernel
theorem d23_6 : decode jdk_56_method_4_code 6 = .ok (.iconst 0, 1) := by decide +kernel
theorem d23_7 : decode jdk_56_method_4_code 7 = .ok (.istore_n 2, 1) := by decide +kernel
theorem d23_8 : decode jdk_56_method_4_code 8 = .ok (.iload_n 2, 1) := by decide +kernel
theorem d23_9 : decode jdk_56_method_4_code 9 = .ok (.aload_n 0, 1) := by decide +kernel
theorem d23_10 : decode jdk_56_method_4_code 10 = .ok (.arraylength, 1) := by decide +kernel
theorem d23_11 : decode jdk_56_method_4_code 11 = .ok (.if_icmp .ge 18, 3) := by decide +kernel
theorem d23_14 : decode jdk_56_method_4_code 14 = .ok (.aload_n 1, 1) := by decide +kernel
theorem d23_15 : decode jdk_56_method_4_code 15 = .ok (.iload_n 2, 1) := by decide +kernel
theorem d23_16 : decode jdk_56_method_4_code 16 = .ok (.aload_n 0, 1) := by decide +kernel
theorem d23_17 : decode jdk_56_method_4_code 17 = .ok (.iload_n 2, 1) := by decide +kernel
theorem d23_18 : decode jdk_56_method_4_code 18 = .ok (.aaload, 1) := by decide +kernel
theorem d23_19 : decode jdk_56_method_4_code 19 = .ok (.invokestatic 37, 3) := by decide +kernel
theorem d23_22 : decode jdk_56_method_4_code 22 = .ok (.aastore, 1) := by decide +kernel
theorem d23_23 : decode jdk_56_method_4_code 23 = .ok (.iinc 2 1, 3) := by decide +kernel
theorem d23_26 : decode jdk_56_method_4_code 26 = .ok (.goto (-18), 3) := by decide +kernel
theorem d23_29 : decode jdk_56_method_4_code 29 = .ok (.new 12, 3) := by decide +kernel
theorem d23_32 : decode jdk_56_method_4_code 32 = .ok (.dup, 1) := by decide +kernel
theorem d23_33 : decode jdk_56_method_4_code 33 = .ok (.aload_n 1, 1) := by decide +kernel
theorem d23_34 : decode jdk_56_method_4_code 34 = .ok (.iconst 0, 1) := by decide +kernel
theorem d23_35 : decode jdk_56_method_4_code 35 = .ok (.invokespecial 43, 3) := by decide +kernel
theorem d23_38 : decode jdk_56_method_4_code 38 = .ok (.areturn, 1) := by decide +kernel
theorem ef_23 (m : MethodId) (x0 : Addr) : entryFrame m #[(.ref x0)] 3 = mkF m 0 #[.val (.ref x0), .unset, .unset] [] := by first | (simp [entryFrame, mkF, argsToLocals, Value.category]; done) | rfl
def Qlf_3 (Z : State) (t : Addr) (q : Addr) (kt : ClassId) (h0 : Heap) (n0 : Nat) (v : Option Value) (h : Heap) (L : List Loc) : Prop := ∃ lst : Addr, ∃ tt : Addr, ∃ ktt : ClassId, v = some (.ref lst) ∧ Fr n0 L ∧ Keep h0 h [] ∧ Exa Z h lst "java/util/ImmutableCollections$ListN" ∧ Fld Z h lst "java/util/ImmutableCollections$ListN" "elements" "[Ljava/lang/Object;" (.ref tt) ∧ Arv Z h tt ktt (.object "java/lang/Object") (3 : Int32) [(.ref q), (.ref q), (.ref q)] .null ∧ h0.size ≤ lst ∧ h0.size ≤ tt
set_option maxRecDepth 65536 in
set_option maxHeartbeats 40000000 in
abbrev my27 : MethodName := ⟨"java/util/ImmutableCollections", "listFromArray", "([Ljava/lang/Object;)Ljava/util/List;"⟩
abbrev Rm_lf_3 : Room := { frames := 5, cells := 2, slots := 5, locals := 63 }
theorem lf_3 (l : Launch) (Z : State) (a0 : Array Value) (hw : ∀ d ∈ tables_1, d.before a0 Z = true) (ws : List Jvm.Cond) (t : Addr) (q : Addr) (kt : ClassId) (h0 : Heap) (n0 : Nat) (Z0 : n0 ≤ h0.size) (V_t : Arv Z h0 t kt (.object "java/lang/Object") (3 : Int32) [(.ref q), (.ref q), (.ref q)] .null) (E_q : Exa Z h0 q "com/example/gleipnir/gleipnir/service/Counterplay$Position") :
    MetFree l my27 (head1 (Jvm.Cond.code my27 jdk_56_method_4_code 3 (some (.object "java/util/List")) :: ws) Rm_lf_3) (fun aa_ U => aa_ = #[(.ref t)] ∧ Z.Warmed39 U.vm ∧ U.heap = h0) (fun _ _ _ _ _ => True) (fun _ U oo_ U' => ∃ v L, oo_ = .returned v ∧ Qlf_3 Z t q kt h0 n0 v U'.heap L ∧ FrameEnd U oo_ U' L Rm_lf_3.cells Rm_lf_3.slots) := by
  refine MetFree.of_bodySF (plainFor_of_name pn_7) hisR ?_
  intro p e s m args below meth c s₁ Bd hml0 hP hK
  obtain ⟨rfl, hZ, hh⟩ := hP
  have hx := Bd.exec
  have hby := Bd.bytes
  have hml : c.maxLocals = 3 := hml0
  have hown : s.vm.findClass "java/util/ImmutableCollections" = some m.cls := findClass_of_methodNamed Bd.named
  have hnm := (name_of_methodNamed Bd.named Bd.method).1
  have X0 : Stand p l e Rm_lf_3 s m #[(.ref t)] below meth c s₁ [] 0 0 := Stand.of_body Bd
  have e0 : s₁.heap = h0 := by rw [← hh, Bd.state]; rfl
  have N0 := Fr.nil n0
  have pre0 : ∀ tt_, Steps p.tables e below (s₁.setTop (mkF m 0 #[.val (.ref t), .unset, .unset] [])) tt_ → Steps p.tables e below (s₁.setTop (entryFrame m #[(.ref t)] 3)) tt_ := fun tt_ kk_ => castTop (ef_23 m t) kk_
  obtain ⟨cl1, Ar1, -, S1, M1, -, -⟩ := id V_t
  obtain ⟨T2, h2, k2, X2, e2, E2, A2, B2, O2, st2⟩ := newRE X0 hx hZ hown (hwd149 hw) (hwd103 hw) e0 (g := (mkF m 2 #[.val (.ref t), .unset, .unset] [(.int (3 : Int32))])) rfl (hb hby d23_2) rfl (by decide) (cap := 3) (by decide) (by decide) (by decide) (by decide) (ad := "[Ljava/lang/Object;") (by decide)
  obtain ⟨b2, g2⟩ : ∃ zz_, zz_ = h0.size := ⟨_, rfl⟩
  rw [← g2] at A2 B2 st2
  have ne_t_b2 : t ≠ b2 := Nat.ne_of_lt (Nat.lt_of_lt_of_le V_t.lt (Nat.le_of_eq g2.symm))
  have ne_q_b2 : q ≠ b2 := Nat.ne_of_lt (Nat.lt_of_lt_of_le E_q.lt (Nat.le_of_eq g2.symm))
  have g_b2 : n0 ≤ b2 := Nat.le_trans Z0 (Nat.le_of_eq g2.symm)
  have sz_b2 : h0.size ≤ b2 := Nat.le_trans (Keep.refl h0 []).1 (Nat.le_of_eq g2.symm)
  have V_b2 : Arv Z h2 b2 k2 (.object "java/lang/Object") (3 : Int32) [.null, .null, .null] .null := (Arv.new A2 (by decide)).pad (pad_rep [] .null 3)
  have f3_V_t := (V_t.ext E2)
  obtain ⟨cl4, Ar4, -, S4, M4, -, -⟩ := id f3_V_t
  obtain ⟨cl5, Ar5, q5, S5, M5, H5, G5⟩ := id f3_V_t
  have hin5 : ¬ ((0 : Int32) < 0 ∨ cl5.slots.size ≤ ((0 : Int32)).toNatClampNeg) := inb_of S5 ⟨by decide, by decide⟩
  have hat5 : cl5.slots[((0 : Int32)).toNatClampNeg]? = some (.ref q) := H5.at hin5 rfl
  have sz7 : n0 ≤ h2.size := (Nat.le_trans Z0 E2.1)
  obtain ⟨_, _, ⟨T6, L6, k6, n6⟩, -, X6, ⟨Lc6, hQ6, l6, y6, z6⟩, st6⟩ := Jvm.LawKit.callS X2 hx (y := my18) hown (mvT hZ (hwd150 hw)) (mvT hZ (hwd151 hw)) (mvT hZ (hwd152 hw)) (mvT hZ (hwd153 hw)) (by decide) (backOf (W := 2) (rm24 l Z a0 hw [] q h2 n0 sz7 ) hZ (hwd153 hw) (hwd152 hw) (by decide) (by decide)) (g := (mkF m 19 #[.val (.ref t), .val (.ref b2), .val (.int (0 : Int32))] [(.ref q), (.int (0 : Int32)), (.ref b2)])) rfl (by rw [hml]; rfl) (argsL := [(.ref q)]) (rest := [(.int (0 : Int32)), (.ref b2)]) (lenOf pd_9 rfl) rfl (by show 2 * 0 + _ ≤ _; exact Nat.le_of_eq rfl) (hb hby d23_19) (fun _ _ => ⟨rfl, e2, (by decide : 1 + 0 ≤ _), (by decide : 3 + 0 ≤ _)⟩)
  dsimp only [Pt.U, Pt.locs, Pt.cells, Pt.slots] at X6 l6 y6 z6 st6 hQ6
  subst l6 y6 z6
  obtain ⟨rfl, N6q, e6q⟩ := hQ6
  have N6 := Fr.app N0 N6q
  have f9_E_q := (E_q.ext E2)
  obtain ⟨cl8, Ar8, q8, S8, M8, H8, G8⟩ := id V_b2
  obtain ⟨T10, h10, X10, e10, W10, st10⟩ := stR X6 hx hZ e6q Ar8 (j := (0 : Int32)) (inb_of S8 ⟨by decide, by decide⟩) rfl (Sto.ofV Ar8 q8 O2 (Ins.of_exa f9_E_q (hwd104 hw))) (g := (mkF m 22 #[.val (.ref t), .val (.ref b2), .val (.int (0 : Int32))] [(.ref q), (.int (0 : Int32)), (.ref b2)])) rfl rfl (hb hby d23_22)
  have N10 := Fr.snoc X10 N6 g_b2
  have Vw10 : Arv Z h10 b2 k2 (.object "java/lang/Object") (3 : Int32) [(.ref q), .null, .null] .null := Arv.set Ar8 q8 S8 M8 H8 G8 rfl W10 0 rfl (Nat.le_of_ble_eq_true rfl)
  have f11_V_t := (f3_V_t.other W10 ne_t_b2)
  obtain ⟨cl12, Ar12, -, S12, M12, -, -⟩ := id f11_V_t
  obtain ⟨cl13, Ar13, q13, S13, M13, H13, G13⟩ := id f11_V_t
  have hin13 : ¬ ((1 : Int32) < 0 ∨ cl13.slots.size ≤ ((1 : Int32)).toNatClampNeg) := inb_of S13 ⟨by decide, by decide⟩
  have hat13 : cl13.slots[((1 : Int32)).toNatClampNeg]? = some (.ref q) := H13.at hin13 rfl
  have sz15 : n0 ≤ h10.size := (Nat.le_trans sz7 (Keep.of_wr W10).1)
  obtain ⟨_, _, ⟨T14, L14, k14, n14⟩, -, X14, ⟨Lc14, hQ14, l14, y14, z14⟩, st14⟩ := Jvm.LawKit.callS X10 hx (y := my18) hown (mvT hZ (hwd150 hw)) (mvT hZ (hwd151 hw)) (mvT hZ (hwd152 hw)) (mvT hZ (hwd153 hw)) (by decide) (backOf (W := 2) (rm24 l Z a0 hw [] q h10 n0 sz15 ) hZ (hwd153 hw) (hwd152 hw) (by decide) (by decide)) (g := (mkF m 19 #[.val (.ref t), .val (.ref b2), .val (.int (1 : Int32))] [(.ref q), (.int (1 : Int32)), (.ref b2)])) rfl (by rw [hml]; rfl) (argsL := [(.ref q)]) (rest := [(.int (1 : Int32)), (.ref b2)]) (lenOf pd_9 rfl) rfl (by show 2 * 0 + _ ≤ _; exact Nat.le_of_eq rfl) (hb hby d23_19) (fun _ _ => ⟨rfl, e10, (by decide : 1 + 0 ≤ _), (by decide : 3 + 0 ≤ _)⟩)
  dsimp only [Pt.U, Pt.locs, Pt.cells, Pt.slots] at X14 l14 y14 z14 st14 hQ14
  subst l14 y14 z14
  obtain ⟨rfl, N14q, e14q⟩ := hQ14
  have N14 := Fr.app N10 N14q
  have f17_E_q := (f9_E_q.wr W10)
  obtain ⟨cl16, Ar16, q16, S16, M16, H16, G16⟩ := id Vw10
  obtain ⟨T18, h18, X18, e18, W18, st18⟩ := stR X14 hx hZ e14q Ar16 (j := (1 : Int32)) (inb_of S16 ⟨by decide, by decide⟩) rfl (Sto.ofV Ar16 q16 O2 (Ins.of_exa f17_E_q (hwd104 hw))) (g := (mkF m 22 #[.val (.ref t), .val (.ref b2), .val (.int (1 : Int32))] [(.ref q), (.int (1 : Int32)), (.ref b2)])) rfl rfl (hb hby d23_22)
  have N18 := Fr.snoc X18 N14 g_b2
  have Vw18 : Arv Z h18 b2 k2 (.object "java/lang/Object") (3 : Int32) [(.ref q), (.ref q), .null] .null := Arv.set Ar16 q16 S16 M16 H16 G16 rfl W18 1 rfl (Nat.le_of_ble_eq_true rfl)
  have f19_V_t := (f11_V_t.other W18 ne_t_b2)
  obtain ⟨cl20, Ar20, -, S20, M20, -, -⟩ := id f19_V_t
  obtain ⟨cl21, Ar21, q21, S21, M21, H21, G21⟩ := id f19_V_t
  have hin21 : ¬ ((2 : Int32) < 0 ∨ cl21.slots.size ≤ ((2 : Int32)).toNatClampNeg) := inb_of S21 ⟨by decide, by decide⟩
  have hat21 : cl21.slots[((2 : Int32)).toNatClampNeg]? = some (.ref q) := H21.at hin21 rfl
  have sz23 : n0 ≤ h18.size := (Nat.le_trans sz15 (Keep.of_wr W18).1)
  obtain ⟨_, _, ⟨T22, L22, k22, n22⟩, -, X22, ⟨Lc22, hQ22, l22, y22, z22⟩, st22⟩ := Jvm.LawKit.callS X18 hx (y := my18) hown (mvT hZ (hwd150 hw)) (mvT hZ (hwd151 hw)) (mvT hZ (hwd152 hw)) (mvT hZ (hwd153 hw)) (by decide) (backOf (W := 2) (rm24 l Z a0 hw [] q h18 n0 sz23 ) hZ (hwd153 hw) (hwd152 hw) (by decide) (by decide)) (g := (mkF m 19 #[.val (.ref t), .val (.ref b2), .val (.int (2 : Int32))] [(.ref q), (.int (2 : Int32)), (.ref b2)])) rfl (by rw [hml]; rfl) (argsL := [(.ref q)]) (rest := [(.int (2 : Int32)), (.ref b2)]) (lenOf pd_9 rfl) rfl (by show 2 * 0 + _ ≤ _; exact Nat.le_of_eq rfl) (hb hby d23_19) (fun _ _ => ⟨rfl, e18, (by decide : 1 + 0 ≤ _), (by decide : 3 + 0 ≤ _)⟩)
  dsimp only [Pt.U, Pt.locs, Pt.cells, Pt.slots] at X22 l22 y22 z22 st22 hQ22
  subst l22 y22 z22
  obtain ⟨rfl, N22q, e22q⟩ := hQ22
  have N22 := Fr.app N18 N22q
  have f25_E_q := (f17_E_q.wr W18)
  obtain ⟨cl24, Ar24, q24, S24, M24, H24, G24⟩ := id Vw18
  obtain ⟨T26, h26, X26, e26, W26, st26⟩ := stR X22 hx hZ e22q Ar24 (j := (2 : Int32)) (inb_of S24 ⟨by decide, by decide⟩) rfl (Sto.ofV Ar24 q24 O2 (Ins.of_exa f25_E_q (hwd104 hw))) (g := (mkF m 22 #[.val (.ref t), .val (.ref b2), .val (.int (2 : Int32))] [(.ref q), (.int (2 : Int32)), (.ref b2)])) rfl rfl (hb hby d23_22)
  have N26 := Fr.snoc X26 N22 g_b2
  have Vw26 : Arv Z h26 b2 k2 (.object "java/lang/Object") (3 : Int32) [(.ref q), (.ref q), (.ref q)] .null := Arv.set Ar24 q24 S24 M24 H24 G24 rfl W26 2 rfl (Nat.le_of_ble_eq_true rfl)
  have f27_V_t := (f19_V_t.other W26 ne_t_b2)
  obtain ⟨cl28, Ar28, -, S28, M28, -, -⟩ := id f27_V_t
  obtain ⟨T29, h29, X29, e29, E29, A29, D29, -, st29⟩ := newO X26 hx hZ hown (hwd52 hw) (hwd154 hw) (hwd155 hw) e26 (g := (mkF m 29 #[.val (.ref t), .val (.ref b2), .val (.int (3 : Int32))] [])) rfl (hb hby d23_29) (by decide) (by decide)
  obtain ⟨b29, g29⟩ : ∃ zz_, zz_ = h26.size := ⟨_, rfl⟩
  rw [← g29] at A29 D29 st29
  have ne_t_b29 : t ≠ b29 := Nat.ne_of_lt (Nat.lt_of_lt_of_le f27_V_t.lt (Nat.le_of_eq g29.symm))
  have f30_E_q := (f25_E_q.wr W26)
  have ne_q_b29 : q ≠ b29 := Nat.ne_of_lt (Nat.lt_of_lt_of_le f30_E_q.lt (Nat.le_of_eq g29.symm))
  have ne_b2_b29 : b2 ≠ b29 := Nat.ne_of_lt (Nat.lt_of_lt_of_le Vw26.lt (Nat.le_of_eq g29.symm))
  have sz31 : n0 ≤ h26.size := (Nat.le_trans sz23 (Keep.of_wr W26).1)
  have g_b29 : n0 ≤ b29 := Nat.le_trans sz31 (Nat.le_of_eq g29.symm)
  have kp32 : Keep h0 h26 [] := (((((Keep.refl h0 []).ext E2).wr W10 (Or.inr sz_b2)).wr W18 (Or.inr sz_b2)).wr W26 (Or.inr sz_b2))
  have sz_b29 : h0.size ≤ b29 := Nat.le_trans kp32.1 (Nat.le_of_eq g29.symm)
  have F_elements_b29 : Fld Z h29 b29 "java/util/ImmutableCollections$ListN" "elements" "[Ljava/lang/Object;" .null := D29 (Or.inr (hwd175 hw)) (ty := (.array (.object "java/lang/Object"))) (by decide)
  have F_allowNulls_b29 : Fld Z h29 b29 "java/util/ImmutableCollections$ListN" "allowNulls" "Z" (.int (0 : Int32)) := D29 (Or.inr (hwd177 hw)) (ty := .boolean) (by decide)
  have sz34 : n0 ≤ h29.size := (Nat.le_trans sz31 E29.1)
  obtain ⟨_, _, ⟨T33, L33, k33, n33⟩, -, X33, ⟨Lc33, hQ33, l33, y33, z33⟩, st33⟩ := X29.specialBackNest hx (y := my19) rfl hown (Cond.methodLinkNest_wide hZ (hwd156 hw) :) (mvT hZ (hwd157 hw)) (mvT hZ (hwd159 hw)) (by decide) (backOf (W := 1) (rm25 l Z a0 hw [] b29 b2 h29 n0 sz34 A29 F_elements_b29 F_allowNulls_b29 g_b29) hZ (hwd159 hw) (hwd155 hw) (by decide) (by decide)) (g := (mkF m 35 #[.val (.ref t), .val (.ref b2), .val (.int (3 : Int32))] [(.int (0 : Int32)), (.ref b2), (.ref b29), (.ref b29)])) rfl (by rw [hml]; rfl) (Steps.refl _) (a := b29) (argsL := [(.ref b2), (.int (0 : Int32))]) (rest := [(.ref b29)]) (lenOf pd_12 rfl) rfl (by show 2 * 0 + _ ≤ _; exact Nat.le_of_eq rfl) (hb hby d23_35) (fun _ _ => ⟨rfl, e29, (by decide : 2 + 0 ≤ _), (by decide : 5 + 0 ≤ _)⟩)
  dsimp only [Pt.U, Pt.locs, Pt.cells, Pt.slots] at X33 l33 y33 z33 st33 hQ33
  subst l33 y33 z33
  obtain ⟨rfl, N33q, K33, p33_1, p33_2⟩ := hQ33
  have N33 := Fr.app N26 N33q
  have kp35 : Keep h0 T33.heap [] := ((kp32.ext E29).trans K33 (allS (Or.inr sz_b29) all0))
  have f36_V_b2 := ((Vw26.ext E29).keep K33 (ninS ne_b2_b29 nin0))
  obtain ⟨fs, hr, hrun, hended, hW, hsame⟩ := X33.leave (v := some (.ref b29)) (fun h => by rw [Bd.returns] at h; cases h)
  refine ⟨_, _, pre0 _ ?_, hrun, hended, _, _, rfl, ?_, ⟨_, rfl⟩, hW, hsame.mono (by decide) (by decide)⟩
  · show Steps p.tables e below (s₁.setTop (mkF m 0 #[.val (.ref t), .unset, .unset] [])) _
    refine XS.aloadN X0.here hx rfl (hb hby d23_0) rfl rfl ?_
    refine X0.arraylength hx (by rw [e0]; exact Ar1.1) (State.isArrayOf_alike hZ.alike Ar1.2.1) (g := (mkF m 1 #[.val (.ref t), .unset, .unset] [(.ref t)])) rfl rfl (hb hby d23_1) _ ?_
    rw [len_of S1 M1]
    refine st2 _ ?_
    refine XS.astoreN X2.here hx rfl (hb hby d23_5) rfl rfl (l' := #[.val (.ref t), .val (.ref b2), .unset]) rfl ?_
    refine XS.iconst X2.here hx rfl (hb hby d23_6) ?_
    refine XS.istoreN X2.here hx rfl (hb hby d23_7) rfl (l' := #[.val (.ref t), .val (.ref b2), .val (.int (0 : Int32))]) rfl ?_
    show Steps p.tables e below (T2.setTop (mkF m 8 #[.val (.ref t), .val (.ref b2), .val (.int (0 : Int32))] [])) _
    refine XS.iloadN X2.here hx rfl (hb hby d23_8) rfl ?_
    refine XS.aloadN X2.here hx rfl (hb hby d23_9) rfl rfl ?_
    refine X2.arraylength hx (by rw [e2]; exact Ar4.1) (State.isArrayOf_alike hZ.alike Ar4.2.1) (g := (mkF m 10 #[.val (.ref t), .val (.ref b2), .val (.int (0 : Int32))] [(.ref t), (.int (0 : Int32))])) rfl rfl (hb hby d23_10) _ ?_
    rw [len_of S4 M4]
    refine XS.icmpNo X2.here hx rfl (hb hby d23_11) rfl (tlt (show (0 : Int32) < (3 : Int32) from (by decide))).2.1 ?_
    refine XS.aloadN X2.here hx rfl (hb hby d23_14) rfl rfl ?_
    refine XS.iloadN X2.here hx rfl (hb hby d23_15) rfl ?_
    show Steps p.tables e below (T2.setTop (mkF m 16 #[.val (.ref t), .val (.ref b2), .val (.int (0 : Int32))] [(.int (0 : Int32)), (.ref b2)])) _
    refine XS.aloadN X2.here hx rfl (hb hby d23_16) rfl rfl ?_
    refine XS.iloadN X2.here hx rfl (hb hby d23_17) rfl ?_
    refine X2.aaload hx (j := (0 : Int32)) (v := (.ref q)) (by rw [e2]; exact Ar5.1) (State.isArrayOf_alike hZ.alike Ar5.2.1) rfl Ar5.2.2 hin5 hat5 (g := (mkF m 18 #[.val (.ref t), .val (.ref b2), .val (.int (0 : Int32))] [(.int (0 : Int32)), (.ref t), (.int (0 : Int32)), (.ref b2)])) rfl rfl (hb hby d23_18) _ ?_
    refine st6 _ ?_
    refine st10 _ ?_
    refine XS.iinc X10.here hx rfl (hb hby d23_23) rfl (l' := #[.val (.ref t), .val (.ref b2), .val (.int ((0 : Int32) + (1 : Int32)))]) rfl ?_
    show Steps p.tables e below (T10.setTop (mkF m 26 #[.val (.ref t), .val (.ref b2), .val (.int ((0 : Int32) + (1 : Int32)))] [])) _
    rw [show (((0 : Int32) + (1 : Int32)) : Int32) = (1 : Int32) from by decide]
    refine XS.goto X10.here hx rfl (pc0 := 26) (pc' := 8) rfl (hb hby d23_26) (by decide) (by decide) ?_
    refine XS.iloadN X10.here hx rfl (hb hby d23_8) rfl ?_
    refine XS.aloadN X10.here hx rfl (hb hby d23_9) rfl rfl ?_
    refine X10.arraylength hx (by rw [e10]; exact Ar12.1) (State.isArrayOf_alike hZ.alike Ar12.2.1) (g := (mkF m 10 #[.val (.ref t), .val (.ref b2), .val (.int (1 : Int32))] [(.ref t), (.int (1 : Int32))])) rfl rfl (hb hby d23_10) _ ?_
    rw [len_of S12 M12]
    refine XS.icmpNo X10.here hx rfl (hb hby d23_11) rfl (tlt (show (1 : Int32) < (3 : Int32) from (by decide))).2.1 ?_
    show Steps p.tables e below (T10.setTop (mkF m 14 #[.val (.ref t), .val (.ref b2), .val (.int (1 : Int32))] [])) _
    refine XS.aloadN X10.here hx rfl (hb hby d23_14) rfl rfl ?_
    refine XS.iloadN X10.here hx rfl (hb hby d23_15) rfl ?_
    refine XS.aloadN X10.here hx rfl (hb hby d23_16) rfl rfl ?_
    refine XS.iloadN X10.here hx rfl (hb hby d23_17) rfl ?_
    refine X10.aaload hx (j := (1 : Int32)) (v := (.ref q)) (by rw [e10]; exact Ar13.1) (State.isArrayOf_alike hZ.alike Ar13.2.1) rfl Ar13.2.2 hin13 hat13 (g := (mkF m 18 #[.val (.ref t), .val (.ref b2), .val (.int (1 : Int32))] [(.int (1 : Int32)), (.ref t), (.int (1 : Int32)), (.ref b2)])) rfl rfl (hb hby d23_18) _ ?_
    refine st14 _ ?_
    show Steps p.tables e below (T14.setTop (mkF m 22 #[.val (.ref t), .val (.ref b2), .val (.int (1 : Int32))] [(.ref q), (.int (1 : Int32)), (.ref b2)])) _
    refine st18 _ ?_
    refine XS.iinc X18.here hx rfl (hb hby d23_23) rfl (l' := #[.val (.ref t), .val (.ref b2), .val (.int ((1 : Int32) + (1 : Int32)))]) rfl ?_
    show Steps p.tables e below (T18.setTop (mkF m 26 #[.val (.ref t), .val (.ref b2), .val (.int ((1 : Int32) + (1 : Int32)))] [])) _
    rw [show (((1 : Int32) + (1 : Int32)) : Int32) = (2 : Int32) from by decide]
    refine XS.goto X18.here hx rfl (pc0 := 26) (pc' := 8) rfl (hb hby d23_26) (by decide) (by decide) ?_
    refine XS.iloadN X18.here hx rfl (hb hby d23_8) rfl ?_
    refine XS.aloadN X18.here hx rfl (hb hby d23_9) rfl rfl ?_
    refine X18.arraylength hx (by rw [e18]; exact Ar20.1) (State.isArrayOf_alike hZ.alike Ar20.2.1) (g := (mkF m 10 #[.val (.ref t), .val (.ref b2), .val (.int (2 : Int32))] [(.ref t), (.int (2 : Int32))])) rfl rfl (hb hby d23_10) _ ?_
    rw [len_of S20 M20]
    refine XS.icmpNo X18.here hx rfl (hb hby d23_11) rfl (tlt (show (2 : Int32) < (3 : Int32) from (by decide))).2.1 ?_
    show Steps p.tables e below (T18.setTop (mkF m 14 #[.val (.ref t), .val (.ref b2), .val (.int (2 : Int32))] [])) _
    refine XS.aloadN X18.here hx rfl (hb hby d23_14) rfl rfl ?_
    refine XS.iloadN X18.here hx rfl (hb hby d23_15) rfl ?_
    refine XS.aloadN X18.here hx rfl (hb hby d23_16) rfl rfl ?_
    refine XS.iloadN X18.here hx rfl (hb hby d23_17) rfl ?_
    refine X18.aaload hx (j := (2 : Int32)) (v := (.ref q)) (by rw [e18]; exact Ar21.1) (State.isArrayOf_alike hZ.alike Ar21.2.1) rfl Ar21.2.2 hin21 hat21 (g := (mkF m 18 #[.val (.ref t), .val (.ref b2), .val (.int (2 : Int32))] [(.int (2 : Int32)), (.ref t), (.int (2 : Int32)), (.ref b2)])) rfl rfl (hb hby d23_18) _ ?_
    refine st22 _ ?_
    show Steps p.tables e below (T22.setTop (mkF m 22 #[.val (.ref t), .val (.ref b2), .val (.int (2 : Int32))] [(.ref q), (.int (2 : Int32)), (.ref b2)])) _
    refine st26 _ ?_
    refine XS.iinc X26.here hx rfl (hb hby d23_23) rfl (l' := #[.val (.ref t), .val (.ref b2), .val (.int ((2 : Int32) + (1 : Int32)))]) rfl ?_
    show Steps p.tables e below (T26.setTop (mkF m 26 #[.val (.ref t), .val (.ref b2), .val (.int ((2 : Int32) + (1 : Int32)))] [])) _
    rw [show (((2 : Int32) + (1 : Int32)) : Int32) = (3 : Int32) from by decide]
    refine XS.goto X26.here hx rfl (pc0 := 26) (pc' := 8) rfl (hb hby d23_26) (by decide) (by decide) ?_
    refine XS.iloadN X26.here hx rfl (hb hby d23_8) rfl ?_
    refine XS.aloadN X26.here hx rfl (hb hby d23_9) rfl rfl ?_
    refine X26.arraylength hx (by rw [e26]; exact Ar28.1) (State.isArrayOf_alike hZ.alike Ar28.2.1) (g := (mkF m 10 #[.val (.ref t), .val (.ref b2), .val (.int (3 : Int32))] [(.ref t), (.int (3 : Int32))])) rfl rfl (hb hby d23_10) _ ?_
    rw [len_of S28 M28]
    refine XS.icmpYes X26.here hx rfl (pc0 := 11) (pc' := 29) rfl (hb hby d23_11) rfl (flt (show ¬ ((3 : Int32) < (3 : Int32)) from (by decide))).2.1 (by decide) (by decide) ?_
    show Steps p.tables e below (T26.setTop (mkF m 29 #[.val (.ref t), .val (.ref b2), .val (.int (3 : Int32))] [])) _
    refine st29 _ ?_
    refine XS.dup X29.here hx rfl (hb hby d23_32) rfl rfl ?_
    refine XS.aloadN X29.here hx rfl (hb hby d23_33) rfl rfl ?_
    refine XS.iconst X29.here hx rfl (hb hby d23_34) ?_
    refine st33.trans ?_
    jvm_step X33.here [X33.here.top, hx, (hb hby d23_38), X33.method', Bd.returns, Value.isRef, FieldType.isReference]
    first | (intro acts; rw [hr _ acts rfl rfl rfl]) | rw [hr _ _ rfl rfl rfl]
    exact Steps.refl _
  · show Qlf_3 Z t q kt h0 n0 _ T33.heap _
    exact ⟨b29, b2, k2, rfl, N33, kp35, p33_1, p33_2, f36_V_b2, sz_b29, sz_b2⟩
theorem hwd146 {Z : State} {a0 : Array Value} (hw : ∀ d ∈ tables_1, d.before a0 Z = true) : (Jvm.Cond.methodLink "java/util/List" (109 : Nat) ({ cls := "java/util/ImmutableCollections", name := "listFromArray", desc := "([Ljava/lang/Object;)Ljava/util/List;" } : Jvm.MethodName)).before a0 Z = true := hw _ (List.mem_of_getElem? (i := 146) rfl)
theorem hwd148 {Z : State} {a0 : Array Value} (hw : ∀ d ∈ tables_1, d.before a0 Z = true) : (Jvm.Cond.code ({ cls := "java/util/ImmutableCollections", name := "listFromArray", desc := "([Ljava/lang/Object;)Ljava/util/List;" } : Jvm.MethodName) jdk_56_method_4_code (3 : Nat) (Option.some (Jvm.ClassFile.FieldType.object "java/util/List"))).before a0 Z = true := hw _ (List.mem_of_getElem? (i := 148) rfl)
theorem pd_13 : parseMethodDescriptor "([Ljava/lang/Object;)Ljava/util/List;" = some ⟨[(.array (.object "java/lang/Object"))], some (.object "java/util/List")⟩ := by decide +kernel
theorem hwd147 {Z : State} {a0 : Array Value} (hw : ∀ d ∈ tables_1, d.before a0 Z = true) : (Jvm.Cond.static ({ cls := "java/util/ImmutableCollections", name := "listFromArray", desc := "([Ljava/lang/Object;)Ljava/util/List;" } : Jvm.MethodName)).before a0 Z = true := hw _ (List.mem_of_getElem? (i := 147) rfl)
theorem d22_59 : decode jdk_40_method_47_code 59 = .ok (.aload_n 0, 1) := by decide +kernel
theorem d22_60 : decode jdk_40_method_47_code 60 = .ok (.invokestatic 109, 3) := by decide +kernel
theorem d22_63 : decode jdk_40_method_47_code 63 = .ok (.areturn, 1) := by decide +kernel
def Qofa_3 (Z : State) (t : Addr) (q : Addr) (em : Addr) (kt : ClassId) (h0 : Heap) (n0 : Nat) (v : Option Value) (h : Heap) (L : List Loc) : Prop := ∃ lst : Addr, v = some (.ref lst) ∧ Fr n0 L ∧ Keep h0 h [] ∧ Lg Z h h0.size (3 : Int32) q em lst
set_option maxRecDepth 65536 in
set_option maxHeartbeats 40000000 in
abbrev Rm_ofa_3 : Room := { frames := 6, cells := 2, slots := 8, locals := 77 }
theorem ofa_3 (l : Launch) (Z : State) (a0 : Array Value) (hw : ∀ d ∈ tables_1, d.before a0 Z = true) (ws : List Jvm.Cond) (t : Addr) (q : Addr) (em : Addr) (kt : ClassId) (h0 : Heap) (n0 : Nat) (Z0 : n0 ≤ h0.size) (V_t : Arv Z h0 t kt (.object "java/lang/Object") (3 : Int32) [(.ref q), (.ref q), (.ref q)] .null) (E_q : Exa Z h0 q "com/example/gleipnir/gleipnir/service/Counterplay$Position") (O_M : Sta Z Z.heap "java/util/ImmutableCollections" "EMPTY" "Ljava/lang/Object;" (.ref em)) (X00 : Old Z n0 h0) :
    MetFree l my26 (head1 (Jvm.Cond.code my26 jdk_40_method_47_code 2 (some (.object "java/util/List")) :: ws) Rm_ofa_3) (fun aa_ U => aa_ = #[(.ref t)] ∧ Z.Warmed39 U.vm ∧ U.heap = h0) (fun _ _ _ _ _ => True) (fun _ U oo_ U' => ∃ v L, oo_ = .returned v ∧ Qofa_3 Z t q em kt h0 n0 v U'.heap L ∧ FrameEnd U oo_ U' L Rm_ofa_3.cells Rm_ofa_3.slots) := by
  refine MetFree.of_bodySF (plainFor_of_name pn_6) hisR ?_
  intro p e s m args below meth c s₁ Bd hml0 hP hK
  obtain ⟨rfl, hZ, hh⟩ := hP
  have hx := Bd.exec
  have hby := Bd.bytes
  have hml : c.maxLocals = 2 := hml0
  have hown : s.vm.findClass "java/util/List" = some m.cls := findClass_of_methodNamed Bd.named
  have hnm := (name_of_methodNamed Bd.named Bd.method).1
  have X0 : Stand p l e Rm_ofa_3 s m #[(.ref t)] below meth c s₁ [] 0 0 := Stand.of_body Bd
  have e0 : s₁.heap = h0 := by rw [← hh, Bd.state]; rfl
  have N0 := Fr.nil n0
  have pre0 : ∀ tt_, Steps p.tables e below (s₁.setTop (mkF m 0 #[.val (.ref t), .unset] [])) tt_ → Steps p.tables e below (s₁.setTop (entryFrame m #[(.ref t)] 2)) tt_ := fun tt_ kk_ => castTop (ef_22 m t) kk_
  obtain ⟨cl1, Ar1, -, S1, M1, -, -⟩ := id V_t
  obtain ⟨_, _, ⟨T2, L2, k2, n2⟩, -, X2, ⟨Lc2, hQ2, l2, y2, z2⟩, st2⟩ := Jvm.LawKit.callS X0 hx (y := my27) hown (mvT hZ (hwd146 hw)) (mvT hZ (hwd147 hw)) (mvT hZ (hwd45 hw)) (mvT hZ (hwd148 hw)) (by decide) (backOf (W := 0) (lf_3 l Z a0 hw [] t q kt h0 n0 Z0 V_t E_q) hZ (hwd148 hw) (hwd45 hw) (by decide) (by decide)) (g := (mkF m 60 #[.val (.ref t), .unset] [(.ref t)])) rfl (by rw [hml]; rfl) (argsL := [(.ref t)]) (rest := []) (lenOf pd_13 rfl) rfl (by show 2 * 0 + _ ≤ _; exact Nat.le_of_eq rfl) (hb hby d22_60) (fun _ _ => ⟨rfl, e0, (by decide : 0 + 2 ≤ _), (by decide : 0 + 5 ≤ _)⟩)
  dsimp only [Pt.U, Pt.locs, Pt.cells, Pt.slots] at X2 l2 y2 z2 st2 hQ2
  subst l2 y2 z2
  obtain ⟨lst_e2, tt_e2, ktt_e2, rfl, N2q, K2, p2_1, p2_2, p2_3, sz_lst_2, sz_tt_2⟩ := hQ2
  have N2 := Fr.app N0 N2q
  have kp3 : Keep h0 T2.heap [] := ((Keep.refl h0 []).trans K2 all0)
  obtain ⟨fs, hr, hrun, hended, hW, hsame⟩ := X2.leave (v := some (.ref lst_e2)) (fun h => by rw [Bd.returns] at h; cases h)
  refine ⟨_, _, pre0 _ ?_, hrun, hended, _, _, rfl, ?_, ⟨_, rfl⟩, hW, hsame.mono (by decide) (by decide)⟩
  · show Steps p.tables e below (s₁.setTop (mkF m 0 #[.val (.ref t), .unset] [])) _
    refine XS.aloadN X0.here hx rfl (hb hby d22_0) rfl rfl ?_
    refine X0.arraylength hx (by rw [e0]; exact Ar1.1) (State.isArrayOf_alike hZ.alike Ar1.2.1) (g := (mkF m 1 #[.val (.ref t), .unset] [(.ref t)])) rfl rfl (hb hby d22_1) _ ?_
    rw [len_of S1 M1]
    refine XS.tswOut X0.here hx rfl (pc0 := 2) (pc' := 59) rfl (hb hby d22_2) rfl (by decide) (by decide) (by decide) ?_
    refine XS.aloadN X0.here hx rfl (hb hby d22_59) rfl rfl ?_
    refine st2 _ ?_
    jvm_step X2.here [X2.here.top, hx, (hb hby d22_63), X2.method', Bd.returns, Value.isRef, FieldType.isReference]
    first | (intro acts; rw [hr _ acts rfl rfl rfl]) | rw [hr _ _ rfl rfl rfl]
    exact Steps.refl _
  · show Qofa_3 Z t q em kt h0 n0 _ T2.heap _
    exact ⟨lst_e2, rfl, N2, kp3, ⟨(Nat.le_trans (Keep.refl h0 []).1 sz_lst_2), Or.inr (Or.inr ⟨tt_e2, _, _, (Nat.le_trans (Keep.refl h0 []).1 sz_tt_2), p2_1, p2_2, p2_3⟩)⟩⟩
def Qmin_4 (Z : State)  (h0 : Heap) (n0 : Nat) (v : Option Value) (h : Heap) (L : List Loc) : Prop := v = some (.int (4 : Int32)) ∧ Fr n0 L ∧ h = h0
set_option maxRecDepth 65536 in
set_option maxHeartbeats 40000000 in
abbrev Rm_min_4 : Room := { frames := 0, cells := 0, slots := 0, locals := 0 }
theorem min_4 (l : Launch) (Z : State) (a0 : Array Value) (hw : ∀ d ∈ tables_1, d.before a0 Z = true) (ws : List Jvm.Cond)  (h0 : Heap) (n0 : Nat) (Z0 : n0 ≤ h0.size) :
    MetFree l my24 (head1 (Jvm.Cond.code my24 jdk_29_method_69_code 2 (some .int) :: ws) Rm_min_4) (fun aa_ U => aa_ = #[(.int (10 : Int32)), (.int (4 : Int32))] ∧ Z.Warmed39 U.vm ∧ U.heap = h0) (fun _ _ _ _ _ => True) (fun _ U oo_ U' => ∃ v L, oo_ = .returned v ∧ Qmin_4 Z  h0 n0 v U'.heap L ∧ FrameEnd U oo_ U' L Rm_min_4.cells Rm_min_4.slots) := by
  refine MetFree.of_bodySF (Jvm.Free.JP.mathPlain rfl (by decide +kernel)) hisR ?_
  intro p e s m args below meth c s₁ Bd hml0 hP hK
  obtain ⟨rfl, hZ, hh⟩ := hP
  have hx := Bd.exec
  have hby := Bd.bytes
  have hml : c.maxLocals = 2 := hml0
  have hown : s.vm.findClass "java/lang/Math" = some m.cls := findClass_of_methodNamed Bd.named
  have hnm := (name_of_methodNamed Bd.named Bd.method).1
  have X0 : Stand p l e Rm_min_4 s m #[(.int (10 : Int32)), (.int (4 : Int32))] below meth c s₁ [] 0 0 := Stand.of_body Bd
  have e0 : s₁.heap = h0 := by rw [← hh, Bd.state]; rfl
  have N0 := Fr.nil n0
  have pre0 : ∀ tt_, Steps p.tables e below (s₁.setTop (mkF m 0 #[.val (.int (10 : Int32)), .val (.int (4 : Int32))] [])) tt_ → Steps p.tables e below (s₁.setTop (entryFrame m #[(.int (10 : Int32)), (.int (4 : Int32))] 2)) tt_ := fun tt_ kk_ => castTop (ef_21 m (10 : Int32) (4 : Int32)) kk_
  obtain ⟨fs, hr, hrun, hended, hW, hsame⟩ := X0.leave (v := some (.int (4 : Int32))) (fun h => by rw [Bd.returns] at h; cases h)
  refine ⟨_, _, pre0 _ ?_, hrun, hended, _, _, rfl, ?_, ⟨_, rfl⟩, hW, hsame.mono (by decide) (by decide)⟩
  · show Steps p.tables e below (s₁.setTop (mkF m 0 #[.val (.int (10 : Int32)), .val (.int (4 : Int32))] [])) _
    refine XS.iloadN X0.here hx rfl (hb hby d21_0) rfl ?_
    refine XS.iloadN X0.here hx rfl (hb hby d21_1) rfl ?_
    refine XS.icmpYes X0.here hx rfl (pc0 := 2) (pc' := 9) rfl (hb hby d21_2) rfl (tlt (show (4 : Int32) < (10 : Int32) from (by decide))).2.2.1 (by decide) (by decide) ?_
    refine XS.iloadN X0.here hx rfl (hb hby d21_9) rfl ?_
    exact retI X0 hx Bd.returns (hb hby d21_10) hr
  · show Qmin_4 Z  h0 n0 _ s₁.heap _
    rw [e0]
    exact ⟨rfl, N0, rfl⟩
def Qc3_4 (Z : State) (b : Addr) (q : Addr) (mr : Addr) (kb : ClassId) (h0 : Heap) (n0 : Nat) (v : Option Value) (h : Heap) (L : List Loc) : Prop := ∃ t : Addr, ∃ kt : ClassId, v = some (.ref t) ∧ Fr n0 L ∧ Keep h0 h [] ∧ Arv Z h t kt (.object "java/lang/Object") (4 : Int32) [(.ref q), (.ref q), (.ref q), (.ref q)] .null ∧ Exa Z h t "[Ljava/lang/Object;" ∧ Ovr Z kt "java/lang/Object" ∧ n0 ≤ t ∧ h0.size ≤ t
set_option maxRecDepth 65536 in
set_option maxHeartbeats 40000000 in
abbrev Rm_c3_4 : Room := { frames := 1, cells := 1, slots := 6, locals := 18 }
theorem c3_4 (l : Launch) (Z : State) (a0 : Array Value) (hw : ∀ d ∈ tables_1, d.before a0 Z = true) (ws : List Jvm.Cond) (b : Addr) (q : Addr) (mr : Addr) (kb : ClassId) (h0 : Heap) (n0 : Nat) (Z0 : n0 ≤ h0.size) (V_b : Arv Z h0 b kb (.object "java/lang/Object") (10 : Int32) [(.ref q), (.ref q), (.ref q), (.ref q), .null, .null, .null, .null, .null, .null] .null) (E_q : Exa Z h0 q "com/example/gleipnir/gleipnir/service/Counterplay$Position") (Mr : Mir Z "[Ljava/lang/Object;" mr) :
    MetFree l my25 (head1 (Jvm.Cond.code my25 jdk_65_method_120_code 4 (some (.array (.object "java/lang/Object"))) :: ws) Rm_c3_4) (fun aa_ U => aa_ = #[(.ref b), (.int (4 : Int32)), (.ref mr)] ∧ Z.Warmed39 U.vm ∧ U.heap = h0) (fun _ _ _ _ _ => True) (fun _ U oo_ U' => ∃ v L, oo_ = .returned v ∧ Qc3_4 Z b q mr kb h0 n0 v U'.heap L ∧ FrameEnd U oo_ U' L Rm_c3_4.cells Rm_c3_4.slots) := by
  refine MetFree.of_bodySF (plainFor_of_name pn_15) hisR ?_
  intro p e s m args below meth c s₁ Bd hml0 hP hK
  obtain ⟨rfl, hZ, hh⟩ := hP
  have hx := Bd.exec
  have hby := Bd.bytes
  have hml : c.maxLocals = 4 := hml0
  have hown : s.vm.findClass "java/util/Arrays" = some m.cls := findClass_of_methodNamed Bd.named
  have hnm := (name_of_methodNamed Bd.named Bd.method).1
  have X0 : Stand p l e Rm_c3_4 s m #[(.ref b), (.int (4 : Int32)), (.ref mr)] below meth c s₁ [] 0 0 := Stand.of_body Bd
  have e0 : s₁.heap = h0 := by rw [← hh, Bd.state]; rfl
  have N0 := Fr.nil n0
  have pre0 : ∀ tt_, Steps p.tables e below (s₁.setTop (mkF m 0 #[.val (.ref b), .val (.int (4 : Int32)), .val (.ref mr), .unset] [])) tt_ → Steps p.tables e below (s₁.setTop (entryFrame m #[(.ref b), (.int (4 : Int32)), (.ref mr)] 4)) tt_ := fun tt_ kk_ => castTop (ef_20 m b (4 : Int32) mr) kk_
  obtain ⟨vm1, X1, st1⟩ := X0.ldcMirror hx hown (mvT hZ (hwd134 hw)) (own_hev hZ Mr) (g := (mkF m 1 #[.val (.ref b), .val (.int (4 : Int32)), .val (.ref mr), .unset] [(.ref mr)])) rfl (hb hby d20_1)
  have e1 : (s₁.setVm vm1).heap = h0 := e0
  obtain ⟨T2, h2, k2, X2, e2, E2, A2, B2, O2, st2⟩ := newRE X1 hx hZ hown (hwd135 hw) (hwd103 hw) e1 (g := (mkF m 7 #[.val (.ref b), .val (.int (4 : Int32)), .val (.ref mr), .unset] [(.int (4 : Int32))])) rfl (hb hby d20_7) rfl (by decide) (cap := 4) (by decide) (by decide) (by decide) (by decide) (ad := "[Ljava/lang/Object;") (by decide)
  obtain ⟨b2, g2⟩ : ∃ zz_, zz_ = h0.size := ⟨_, rfl⟩
  rw [← g2] at A2 B2 st2
  have ne_b_b2 : b ≠ b2 := Nat.ne_of_lt (Nat.lt_of_lt_of_le V_b.lt (Nat.le_of_eq g2.symm))
  have ne_q_b2 : q ≠ b2 := Nat.ne_of_lt (Nat.lt_of_lt_of_le E_q.lt (Nat.le_of_eq g2.symm))
  have g_b2 : n0 ≤ b2 := Nat.le_trans Z0 (Nat.le_of_eq g2.symm)
  have sz_b2 : h0.size ≤ b2 := Nat.le_trans (Keep.refl h0 []).1 (Nat.le_of_eq g2.symm)
  have V_b2 : Arv Z h2 b2 k2 (.object "java/lang/Object") (4 : Int32) [.null, .null, .null, .null] .null := (Arv.new A2 (by decide)).pad (pad_rep [] .null 4)
  have f3_V_b := (V_b.ext E2)
  obtain ⟨cl4, Ar4, -, S4, M4, -, -⟩ := id f3_V_b
  have sz6 : n0 ≤ h2.size := (Nat.le_trans Z0 E2.1)
  obtain ⟨_, _, ⟨T5, L5, k5, n5⟩, -, X5, ⟨Lc5, hQ5, l5, y5, z5⟩, st5⟩ := Jvm.LawKit.callS X2 hx (y := my24) hown (mvT hZ (hwd136 hw)) (mvT hZ (hwd137 hw)) (mvT hZ (hwd100 hw)) (mvT hZ (hwd138 hw)) (by decide) (backOf (W := 4) (min_4 l Z a0 hw []  h2 n0 sz6 ) hZ (hwd138 hw) (hwd100 hw) (by decide) (by decide)) (g := (mkF m 32 #[.val (.ref b), .val (.int (4 : Int32)), .val (.ref mr), .val (.ref b2)] [(.int (4 : Int32)), (.int (10 : Int32)), (.int (0 : Int32)), (.ref b2), (.int (0 : Int32)), (.ref b)])) rfl (by rw [hml]; rfl) (argsL := [(.int (10 : Int32)), (.int (4 : Int32))]) (rest := [(.int (0 : Int32)), (.ref b2), (.int (0 : Int32)), (.ref b)]) (lenOf pd_4 rfl) rfl (by show 2 * 0 + _ ≤ _; exact Nat.le_of_eq rfl) (hb hby d20_32) (fun _ _ => ⟨rfl, e2, (by decide : 1 + 0 ≤ _), (by decide : 4 + 0 ≤ _)⟩)
  dsimp only [Pt.U, Pt.locs, Pt.cells, Pt.slots] at X5 l5 y5 z5 st5 hQ5
  subst l5 y5 z5
  obtain ⟨rfl, N5q, e5q⟩ := hQ5
  have N5 := Fr.app N0 N5q
  obtain ⟨cl7, Ar7, q7, -, -, -, -⟩ := id V_b2
  have f9_E_q := (E_q.ext E2)
  obtain ⟨T8, h8, L8, X8, e8, N8, K8, V8, st8⟩ := cpA X5 hx hZ hown (hwd139 hw) (hwd142 hw) (hwd140 hw) (hwd141 hw) e5q f3_V_b V_b2 (us := [(.ref q), (.ref q), (.ref q), (.ref q)]) (Or.inr ⟨rfl, rfl, ⟨Sto.ofV Ar7 q7 O2 (Ins.of_exa f9_E_q (hwd104 hw)), Sto.ofV Ar7 q7 O2 (Ins.of_exa f9_E_q (hwd104 hw)), Sto.ofV Ar7 q7 O2 (Ins.of_exa f9_E_q (hwd104 hw)), Sto.ofV Ar7 q7 O2 (Ins.of_exa f9_E_q (hwd104 hw)), trivial⟩⟩) (by decide) (by decide) (by decide) (by decide) (by decide) (by rfl) (Nat.le_of_ble_eq_true rfl) N5 g_b2 (g := (mkF m 35 #[.val (.ref b), .val (.int (4 : Int32)), .val (.ref mr), .val (.ref b2)] [(.int (4 : Int32)), (.int (0 : Int32)), (.ref b2), (.int (0 : Int32)), (.ref b)])) rfl (by rw [hml]; rfl) rfl (hb hby d20_35) (by decide) (W := 0) (by show 2 * 0 + _ ≤ _; exact Nat.le_of_eq rfl) (by decide)
  have Vc8 : Arv Z h8 b2 k2 (.object "java/lang/Object") (4 : Int32) [(.ref q), (.ref q), (.ref q), (.ref q)] .null := V8
  have kp10 : Keep h0 h8 [] := (((Keep.refl h0 []).ext E2).trans K8 (allS (Or.inr sz_b2) all0))
  have f11_E_b2 := (B2.keep K8)
  obtain ⟨fs, hr, hrun, hended, hW, hsame⟩ := X8.leave (v := some (.ref b2)) (fun h => by rw [Bd.returns] at h; cases h)
  refine ⟨_, _, pre0 _ ?_, hrun, hended, _, _, rfl, ?_, ⟨_, rfl⟩, hW, hsame.mono (by decide) (by decide)⟩
  · show Steps p.tables e below (s₁.setTop (mkF m 0 #[.val (.ref b), .val (.int (4 : Int32)), .val (.ref mr), .unset] [])) _
    refine XS.aloadN X0.here hx rfl (hb hby d20_0) rfl rfl ?_
    refine st1 _ ?_
    refine Jvm.RoadKit.acmp (g := (mkF m 3 #[.val (.ref b), .val (.int (4 : Int32)), .val (.ref mr), .unset] [(.ref mr), (.ref mr)])) X1 hx rfl rfl rfl (pc0 := 3) (pc' := 6) (same := true) rfl (hb hby d20_3) rfl (decide_eq_true rfl) (by decide) (by decide) ?_
    refine XS.iloadN X1.here hx rfl (hb hby d20_6) rfl ?_
    refine st2 _ ?_
    refine XS.goto X2.here hx rfl (pc0 := 10) (pc' := 24) rfl (hb hby d20_10) (by decide) (by decide) ?_
    show Steps p.tables e below (T2.setTop (mkF m 24 #[.val (.ref b), .val (.int (4 : Int32)), .val (.ref mr), .unset] [(.ref b2)])) _
    refine XS.astoreN X2.here hx rfl (hb hby d20_24) rfl rfl (l' := #[.val (.ref b), .val (.int (4 : Int32)), .val (.ref mr), .val (.ref b2)]) rfl ?_
    refine XS.aloadN X2.here hx rfl (hb hby d20_25) rfl rfl ?_
    refine XS.iconst X2.here hx rfl (hb hby d20_26) ?_
    refine XS.aloadN X2.here hx rfl (hb hby d20_27) rfl rfl ?_
    refine XS.iconst X2.here hx rfl (hb hby d20_28) ?_
    refine XS.aloadN X2.here hx rfl (hb hby d20_29) rfl rfl ?_
    show Steps p.tables e below (T2.setTop (mkF m 30 #[.val (.ref b), .val (.int (4 : Int32)), .val (.ref mr), .val (.ref b2)] [(.ref b), (.int (0 : Int32)), (.ref b2), (.int (0 : Int32)), (.ref b)])) _
    refine X2.arraylength hx (by rw [e2]; exact Ar4.1) (State.isArrayOf_alike hZ.alike Ar4.2.1) (g := (mkF m 30 #[.val (.ref b), .val (.int (4 : Int32)), .val (.ref mr), .val (.ref b2)] [(.ref b), (.int (0 : Int32)), (.ref b2), (.int (0 : Int32)), (.ref b)])) rfl rfl (hb hby d20_30) _ ?_
    rw [len_of S4 M4]
    refine XS.iloadN X2.here hx rfl (hb hby d20_31) rfl ?_
    refine st5 _ ?_
    refine st8 _ ?_
    refine XS.aloadN X8.here hx rfl (hb hby d20_38) rfl rfl ?_
    jvm_step X8.here [X8.here.top, hx, (hb hby d20_39), X8.method', Bd.returns, Value.isRef, FieldType.isReference]
    first | (intro acts; rw [hr _ acts rfl rfl rfl]) | rw [hr _ _ rfl rfl rfl]
    exact Steps.refl _
  · show Qc3_4 Z b q mr kb h0 n0 _ T8.heap _
    rw [e8]
    exact ⟨b2, k2, rfl, N8, kp10, Vc8, f11_E_b2, O2, g_b2, sz_b2⟩
def Qlf_4 (Z : State) (t : Addr) (q : Addr) (kt : ClassId) (h0 : Heap) (n0 : Nat) (v : Option Value) (h : Heap) (L : List Loc) : Prop := ∃ lst : Addr, ∃ tt : Addr, ∃ ktt : ClassId, v = some (.ref lst) ∧ Fr n0 L ∧ Keep h0 h [] ∧ Exa Z h lst "java/util/ImmutableCollections$ListN" ∧ Fld Z h lst "java/util/ImmutableCollections$ListN" "elements" "[Ljava/lang/Object;" (.ref tt) ∧ Arv Z h tt ktt (.object "java/lang/Object") (4 : Int32) [(.ref q), (.ref q), (.ref q), (.ref q)] .null ∧ h0.size ≤ lst ∧ h0.size ≤ tt
set_option maxRecDepth 65536 in
set_option maxHeartbeats 40000000 in
abbrev Rm_lf_4 : Room := { frames := 5, cells := 2, slots := 6, locals := 63 }
theorem lf_4 (l : Launch) (Z : State) (a0 : Array Value) (hw : ∀ d ∈ tables_1, d.before a0 Z = true) (ws : List Jvm.Cond) (t : Addr) (q : Addr) (kt : ClassId) (h0 : Heap) (n0 : Nat) (Z0 : n0 ≤ h0.size) (V_t : Arv Z h0 t kt (.object "java/lang/Object") (4 : Int32) [(.ref q), (.ref q), (.ref q), (.ref q)] .null) (E_q : Exa Z h0 q "com/example/gleipnir/gleipnir/service/Counterplay$Position") :
    MetFree l my27 (head1 (Jvm.Cond.code my27 jdk_56_method_4_code 3 (some (.object "java/util/List")) :: ws) Rm_lf_4) (fun aa_ U => aa_ = #[(.ref t)] ∧ Z.Warmed39 U.vm ∧ U.heap = h0) (fun _ _ _ _ _ => True) (fun _ U oo_ U' => ∃ v L, oo_ = .returned v ∧ Qlf_4 Z t q kt h0 n0 v U'.heap L ∧ FrameEnd U oo_ U' L Rm_lf_4.cells Rm_lf_4.slots) := by
  refine MetFree.of_bodySF (plainFor_of_name pn_7) hisR ?_
  intro p e s m args below meth c s₁ Bd hml0 hP hK
  obtain ⟨rfl, hZ, hh⟩ := hP
  have hx := Bd.exec
  have hby := Bd.bytes
  have hml : c.maxLocals = 3 := hml0
  have hown : s.vm.findClass "java/util/ImmutableCollections" = some m.cls := findClass_of_methodNamed Bd.named
  have hnm := (name_of_methodNamed Bd.named Bd.method).1
  have X0 : Stand p l e Rm_lf_4 s m #[(.ref t)] below meth c s₁ [] 0 0 := Stand.of_body Bd
  have e0 : s₁.heap = h0 := by rw [← hh, Bd.state]; rfl
  have N0 := Fr.nil n0
  have pre0 : ∀ tt_, Steps p.tables e below (s₁.setTop (mkF m 0 #[.val (.ref t), .unset, .unset] [])) tt_ → Steps p.tables e below (s₁.setTop (entryFrame m #[(.ref t)] 3)) tt_ := fun tt_ kk_ => castTop (ef_23 m t) kk_
  obtain ⟨cl1, Ar1, -, S1, M1, -, -⟩ := id V_t
  obtain ⟨T2, h2, k2, X2, e2, E2, A2, B2, O2, st2⟩ := newRE X0 hx hZ hown (hwd149 hw) (hwd103 hw) e0 (g := (mkF m 2 #[.val (.ref t), .unset, .unset] [(.int (4 : Int32))])) rfl (hb hby d23_2) rfl (by decide) (cap := 4) (by decide) (by decide) (by decide) (by decide) (ad := "[Ljava/lang/Object;") (by decide)
  obtain ⟨b2, g2⟩ : ∃ zz_, zz_ = h0.size := ⟨_, rfl⟩
  rw [← g2] at A2 B2 st2
  have ne_t_b2 : t ≠ b2 := Nat.ne_of_lt (Nat.lt_of_lt_of_le V_t.lt (Nat.le_of_eq g2.symm))
  have ne_q_b2 : q ≠ b2 := Nat.ne_of_lt (Nat.lt_of_lt_of_le E_q.lt (Nat.le_of_eq g2.symm))
  have g_b2 : n0 ≤ b2 := Nat.le_trans Z0 (Nat.le_of_eq g2.symm)
  have sz_b2 : h0.size ≤ b2 := Nat.le_trans (Keep.refl h0 []).1 (Nat.le_of_eq g2.symm)
  have V_b2 : Arv Z h2 b2 k2 (.object "java/lang/Object") (4 : Int32) [.null, .null, .null, .null] .null := (Arv.new A2 (by decide)).pad (pad_rep [] .null 4)
  have f3_V_t := (V_t.ext E2)
  obtain ⟨cl4, Ar4, -, S4, M4, -, -⟩ := id f3_V_t
  obtain ⟨cl5, Ar5, q5, S5, M5, H5, G5⟩ := id f3_V_t
  have hin5 : ¬ ((0 : Int32) < 0 ∨ cl5.slots.size ≤ ((0 : Int32)).toNatClampNeg) := inb_of S5 ⟨by decide, by decide⟩
  have hat5 : cl5.slots[((0 : Int32)).toNatClampNeg]? = some (.ref q) := H5.at hin5 rfl
  have sz7 : n0 ≤ h2.size := (Nat.le_trans Z0 E2.1)
  obtain ⟨_, _, ⟨T6, L6, k6, n6⟩, -, X6, ⟨Lc6, hQ6, l6, y6, z6⟩, st6⟩ := Jvm.LawKit.callS X2 hx (y := my18) hown (mvT hZ (hwd150 hw)) (mvT hZ (hwd151 hw)) (mvT hZ (hwd152 hw)) (mvT hZ (hwd153 hw)) (by decide) (backOf (W := 2) (rm24 l Z a0 hw [] q h2 n0 sz7 ) hZ (hwd153 hw) (hwd152 hw) (by decide) (by decide)) (g := (mkF m 19 #[.val (.ref t), .val (.ref b2), .val (.int (0 : Int32))] [(.ref q), (.int (0 : Int32)), (.ref b2)])) rfl (by rw [hml]; rfl) (argsL := [(.ref q)]) (rest := [(.int (0 : Int32)), (.ref b2)]) (lenOf pd_9 rfl) rfl (by show 2 * 0 + _ ≤ _; exact Nat.le_of_eq rfl) (hb hby d23_19) (fun _ _ => ⟨rfl, e2, (by decide : 1 + 0 ≤ _), (by decide : 4 + 0 ≤ _)⟩)
  dsimp only [Pt.U, Pt.locs, Pt.cells, Pt.slots] at X6 l6 y6 z6 st6 hQ6
  subst l6 y6 z6
  obtain ⟨rfl, N6q, e6q⟩ := hQ6
  have N6 := Fr.app N0 N6q
  have f9_E_q := (E_q.ext E2)
  obtain ⟨cl8, Ar8, q8, S8, M8, H8, G8⟩ := id V_b2
  obtain ⟨T10, h10, X10, e10, W10, st10⟩ := stR X6 hx hZ e6q Ar8 (j := (0 : Int32)) (inb_of S8 ⟨by decide, by decide⟩) rfl (Sto.ofV Ar8 q8 O2 (Ins.of_exa f9_E_q (hwd104 hw))) (g := (mkF m 22 #[.val (.ref t), .val (.ref b2), .val (.int (0 : Int32))] [(.ref q), (.int (0 : Int32)), (.ref b2)])) rfl rfl (hb hby d23_22)
  have N10 := Fr.snoc X10 N6 g_b2
  have Vw10 : Arv Z h10 b2 k2 (.object "java/lang/Object") (4 : Int32) [(.ref q), .null, .null, .null] .null := Arv.set Ar8 q8 S8 M8 H8 G8 rfl W10 0 rfl (Nat.le_of_ble_eq_true rfl)
  have f11_V_t := (f3_V_t.other W10 ne_t_b2)
  obtain ⟨cl12, Ar12, -, S12, M12, -, -⟩ := id f11_V_t
  obtain ⟨cl13, Ar13, q13, S13, M13, H13, G13⟩ := id f11_V_t
  have hin13 : ¬ ((1 : Int32) < 0 ∨ cl13.slots.size ≤ ((1 : Int32)).toNatClampNeg) := inb_of S13 ⟨by decide, by decide⟩
  have hat13 : cl13.slots[((1 : Int32)).toNatClampNeg]? = some (.ref q) := H13.at hin13 rfl
  have sz15 : n0 ≤ h10.size := (Nat.le_trans sz7 (Keep.of_wr W10).1)
  obtain ⟨_, _, ⟨T14, L14, k14, n14⟩, -, X14, ⟨Lc14, hQ14, l14, y14, z14⟩, st14⟩ := Jvm.LawKit.callS X10 hx (y := my18) hown (mvT hZ (hwd150 hw)) (mvT hZ (hwd151 hw)) (mvT hZ (hwd152 hw)) (mvT hZ (hwd153 hw)) (by decide) (backOf (W := 2) (rm24 l Z a0 hw [] q h10 n0 sz15 ) hZ (hwd153 hw) (hwd152 hw) (by decide) (by decide)) (g := (mkF m 19 #[.val (.ref t), .val (.ref b2), .val (.int (1 : Int32))] [(.ref q), (.int (1 : Int32)), (.ref b2)])) rfl (by rw [hml]; rfl) (argsL := [(.ref q)]) (rest := [(.int (1 : Int32)), (.ref b2)]) (lenOf pd_9 rfl) rfl (by show 2 * 0 + _ ≤ _; exact Nat.le_of_eq rfl) (hb hby d23_19) (fun _ _ => ⟨rfl, e10, (by decide : 1 + 0 ≤ _), (by decide : 4 + 0 ≤ _)⟩)
  dsimp only [Pt.U, Pt.locs, Pt.cells, Pt.slots] at X14 l14 y14 z14 st14 hQ14
  subst l14 y14 z14
  obtain ⟨rfl, N14q, e14q⟩ := hQ14
  have N14 := Fr.app N10 N14q
  have f17_E_q := (f9_E_q.wr W10)
  obtain ⟨cl16, Ar16, q16, S16, M16, H16, G16⟩ := id Vw10
  obtain ⟨T18, h18, X18, e18, W18, st18⟩ := stR X14 hx hZ e14q Ar16 (j := (1 : Int32)) (inb_of S16 ⟨by decide, by decide⟩) rfl (Sto.ofV Ar16 q16 O2 (Ins.of_exa f17_E_q (hwd104 hw))) (g := (mkF m 22 #[.val (.ref t), .val (.ref b2), .val (.int (1 : Int32))] [(.ref q), (.int (1 : Int32)), (.ref b2)])) rfl rfl (hb hby d23_22)
  have N18 := Fr.snoc X18 N14 g_b2
  have Vw18 : Arv Z h18 b2 k2 (.object "java/lang/Object") (4 : Int32) [(.ref q), (.ref q), .null, .null] .null := Arv.set Ar16 q16 S16 M16 H16 G16 rfl W18 1 rfl (Nat.le_of_ble_eq_true rfl)
  have f19_V_t := (f11_V_t.other W18 ne_t_b2)
  obtain ⟨cl20, Ar20, -, S20, M20, -, -⟩ := id f19_V_t
  obtain ⟨cl21, Ar21, q21, S21, M21, H21, G21⟩ := id f19_V_t
  have hin21 : ¬ ((2 : Int32) < 0 ∨ cl21.slots.size ≤ ((2 : Int32)).toNatClampNeg) := inb_of S21 ⟨by decide, by decide⟩
  have hat21 : cl21.slots[((2 : Int32)).toNatClampNeg]? = some (.ref q) := H21.at hin21 rfl
  have sz23 : n0 ≤ h18.size := (Nat.le_trans sz15 (Keep.of_wr W18).1)
  obtain ⟨_, _, ⟨T22, L22, k22, n22⟩, -, X22, ⟨Lc22, hQ22, l22, y22, z22⟩, st22⟩ := Jvm.LawKit.callS X18 hx (y := my18) hown (mvT hZ (hwd150 hw)) (mvT hZ (hwd151 hw)) (mvT hZ (hwd152 hw)) (mvT hZ (hwd153 hw)) (by decide) (backOf (W := 2) (rm24 l Z a0 hw [] q h18 n0 sz23 ) hZ (hwd153 hw) (hwd152 hw) (by decide) (by decide)) (g := (mkF m 19 #[.val (.ref t), .val (.ref b2), .val (.int (2 : Int32))] [(.ref q), (.int (2 : Int32)), (.ref b2)])) rfl (by rw [hml]; rfl) (argsL := [(.ref q)]) (rest := [(.int (2 : Int32)), (.ref b2)]) (lenOf pd_9 rfl) rfl (by show 2 * 0 + _ ≤ _; exact Nat.le_of_eq rfl) (hb hby d23_19) (fun _ _ => ⟨rfl, e18, (by decide : 1 + 0 ≤ _), (by decide : 4 + 0 ≤ _)⟩)
  dsimp only [Pt.U, Pt.locs, Pt.cells, Pt.slots] at X22 l22 y22 z22 st22 hQ22
  subst l22 y22 z22
  obtain ⟨rfl, N22q, e22q⟩ := hQ22
  have N22 := Fr.app N18 N22q
  have f25_E_q := (f17_E_q.wr W18)
  obtain ⟨cl24, Ar24, q24, S24, M24, H24, G24⟩ := id Vw18
  obtain ⟨T26, h26, X26, e26, W26, st26⟩ := stR X22 hx hZ e22q Ar24 (j := (2 : Int32)) (inb_of S24 ⟨by decide, by decide⟩) rfl (Sto.ofV Ar24 q24 O2 (Ins.of_exa f25_E_q (hwd104 hw))) (g := (mkF m 22 #[.val (.ref t), .val (.ref b2), .val (.int (2 : Int32))] [(.ref q), (.int (2 : Int32)), (.ref b2)])) rfl rfl (hb hby d23_22)
  have N26 := Fr.snoc X26 N22 g_b2
  have Vw26 : Arv Z h26 b2 k2 (.object "java/lang/Object") (4 : Int32) [(.ref q), (.ref q), (.ref q), .null] .null := Arv.set Ar24 q24 S24 M24 H24 G24 rfl W26 2 rfl (Nat.le_of_ble_eq_true rfl)
  have f27_V_t := (f19_V_t.other W26 ne_t_b2)
  obtain ⟨cl28, Ar28, -, S28, M28, -, -⟩ := id f27_V_t
  obtain ⟨cl29, Ar29, q29, S29, M29, H29, G29⟩ := id f27_V_t
  have hin29 : ¬ ((3 : Int32) < 0 ∨ cl29.slots.size ≤ ((3 : Int32)).toNatClampNeg) := inb_of S29 ⟨by decide, by decide⟩
  have hat29 : cl29.slots[((3 : Int32)).toNatClampNeg]? = some (.ref q) := H29.at hin29 rfl
  have sz31 : n0 ≤ h26.size := (Nat.le_trans sz23 (Keep.of_wr W26).1)
  obtain ⟨_, _, ⟨T30, L30, k30, n30⟩, -, X30, ⟨Lc30, hQ30, l30, y30, z30⟩, st30⟩ := Jvm.LawKit.callS X26 hx (y := my18) hown (mvT hZ (hwd150 hw)) (mvT hZ (hwd151 hw)) (mvT hZ (hwd152 hw)) (mvT hZ (hwd153 hw)) (by decide) (backOf (W := 2) (rm24 l Z a0 hw [] q h26 n0 sz31 ) hZ (hwd153 hw) (hwd152 hw) (by decide) (by decide)) (g := (mkF m 19 #[.val (.ref t), .val (.ref b2), .val (.int (3 : Int32))] [(.ref q), (.int (3 : Int32)), (.ref b2)])) rfl (by rw [hml]; rfl) (argsL := [(.ref q)]) (rest := [(.int (3 : Int32)), (.ref b2)]) (lenOf pd_9 rfl) rfl (by show 2 * 0 + _ ≤ _; exact Nat.le_of_eq rfl) (hb hby d23_19) (fun _ _ => ⟨rfl, e26, (by decide : 1 + 0 ≤ _), (by decide : 4 + 0 ≤ _)⟩)
  dsimp only [Pt.U, Pt.locs, Pt.cells, Pt.slots] at X30 l30 y30 z30 st30 hQ30
  subst l30 y30 z30
  obtain ⟨rfl, N30q, e30q⟩ := hQ30
  have N30 := Fr.app N26 N30q
  have f33_E_q := (f25_E_q.wr W26)
  obtain ⟨cl32, Ar32, q32, S32, M32, H32, G32⟩ := id Vw26
  obtain ⟨T34, h34, X34, e34, W34, st34⟩ := stR X30 hx hZ e30q Ar32 (j := (3 : Int32)) (inb_of S32 ⟨by decide, by decide⟩) rfl (Sto.ofV Ar32 q32 O2 (Ins.of_exa f33_E_q (hwd104 hw))) (g := (mkF m 22 #[.val (.ref t), .val (.ref b2), .val (.int (3 : Int32))] [(.ref q), (.int (3 : Int32)), (.ref b2)])) rfl rfl (hb hby d23_22)
  have N34 := Fr.snoc X34 N30 g_b2
  have Vw34 : Arv Z h34 b2 k2 (.object "java/lang/Object") (4 : Int32) [(.ref q), (.ref q), (.ref q), (.ref q)] .null := Arv.set Ar32 q32 S32 M32 H32 G32 rfl W34 3 rfl (Nat.le_of_ble_eq_true rfl)
  have f35_V_t := (f27_V_t.other W34 ne_t_b2)
  obtain ⟨cl36, Ar36, -, S36, M36, -, -⟩ := id f35_V_t
  obtain ⟨T37, h37, X37, e37, E37, A37, D37, -, st37⟩ := newO X34 hx hZ hown (hwd52 hw) (hwd154 hw) (hwd155 hw) e34 (g := (mkF m 29 #[.val (.ref t), .val (.ref b2), .val (.int (4 : Int32))] [])) rfl (hb hby d23_29) (by decide) (by decide)
  obtain ⟨b37, g37⟩ : ∃ zz_, zz_ = h34.size := ⟨_, rfl⟩
  rw [← g37] at A37 D37 st37
  have ne_t_b37 : t ≠ b37 := Nat.ne_of_lt (Nat.lt_of_lt_of_le f35_V_t.lt (Nat.le_of_eq g37.symm))
  have f38_E_q := (f33_E_q.wr W34)
  have ne_q_b37 : q ≠ b37 := Nat.ne_of_lt (Nat.lt_of_lt_of_le f38_E_q.lt (Nat.le_of_eq g37.symm))
  have ne_b2_b37 : b2 ≠ b37 := Nat.ne_of_lt (Nat.lt_of_lt_of_le Vw34.lt (Nat.le_of_eq g37.symm))
  have sz39 : n0 ≤ h34.size := (Nat.le_trans sz31 (Keep.of_wr W34).1)
  have g_b37 : n0 ≤ b37 := Nat.le_trans sz39 (Nat.le_of_eq g37.symm)
  have kp40 : Keep h0 h34 [] := ((((((Keep.refl h0 []).ext E2).wr W10 (Or.inr sz_b2)).wr W18 (Or.inr sz_b2)).wr W26 (Or.inr sz_b2)).wr W34 (Or.inr sz_b2))
  have sz_b37 : h0.size ≤ b37 := Nat.le_trans kp40.1 (Nat.le_of_eq g37.symm)
  have F_elements_b37 : Fld Z h37 b37 "java/util/ImmutableCollections$ListN" "elements" "[Ljava/lang/Object;" .null := D37 (Or.inr (hwd175 hw)) (ty := (.array (.object "java/lang/Object"))) (by decide)
  have F_allowNulls_b37 : Fld Z h37 b37 "java/util/ImmutableCollections$ListN" "allowNulls" "Z" (.int (0 : Int32)) := D37 (Or.inr (hwd177 hw)) (ty := .boolean) (by decide)
  have sz42 : n0 ≤ h37.size := (Nat.le_trans sz39 E37.1)
  obtain ⟨_, _, ⟨T41, L41, k41, n41⟩, -, X41, ⟨Lc41, hQ41, l41, y41, z41⟩, st41⟩ := X37.specialBackNest hx (y := my19) rfl hown (Cond.methodLinkNest_wide hZ (hwd156 hw) :) (mvT hZ (hwd157 hw)) (mvT hZ (hwd159 hw)) (by decide) (backOf (W := 1) (rm25 l Z a0 hw [] b37 b2 h37 n0 sz42 A37 F_elements_b37 F_allowNulls_b37 g_b37) hZ (hwd159 hw) (hwd155 hw) (by decide) (by decide)) (g := (mkF m 35 #[.val (.ref t), .val (.ref b2), .val (.int (4 : Int32))] [(.int (0 : Int32)), (.ref b2), (.ref b37), (.ref b37)])) rfl (by rw [hml]; rfl) (Steps.refl _) (a := b37) (argsL := [(.ref b2), (.int (0 : Int32))]) (rest := [(.ref b37)]) (lenOf pd_12 rfl) rfl (by show 2 * 0 + _ ≤ _; exact Nat.le_of_eq rfl) (hb hby d23_35) (fun _ _ => ⟨rfl, e37, (by decide : 2 + 0 ≤ _), (by decide : 6 + 0 ≤ _)⟩)
  dsimp only [Pt.U, Pt.locs, Pt.cells, Pt.slots] at X41 l41 y41 z41 st41 hQ41
  subst l41 y41 z41
  obtain ⟨rfl, N41q, K41, p41_1, p41_2⟩ := hQ41
  have N41 := Fr.app N34 N41q
  have kp43 : Keep h0 T41.heap [] := ((kp40.ext E37).trans K41 (allS (Or.inr sz_b37) all0))
  have f44_V_b2 := ((Vw34.ext E37).keep K41 (ninS ne_b2_b37 nin0))
  obtain ⟨fs, hr, hrun, hended, hW, hsame⟩ := X41.leave (v := some (.ref b37)) (fun h => by rw [Bd.returns] at h; cases h)
  refine ⟨_, _, pre0 _ ?_, hrun, hended, _, _, rfl, ?_, ⟨_, rfl⟩, hW, hsame.mono (by decide) (by decide)⟩
  · show Steps p.tables e below (s₁.setTop (mkF m 0 #[.val (.ref t), .unset, .unset] [])) _
    refine XS.aloadN X0.here hx rfl (hb hby d23_0) rfl rfl ?_
    refine X0.arraylength hx (by rw [e0]; exact Ar1.1) (State.isArrayOf_alike hZ.alike Ar1.2.1) (g := (mkF m 1 #[.val (.ref t), .unset, .unset] [(.ref t)])) rfl rfl (hb hby d23_1) _ ?_
    rw [len_of S1 M1]
    refine st2 _ ?_
    refine XS.astoreN X2.here hx rfl (hb hby d23_5) rfl rfl (l' := #[.val (.ref t), .val (.ref b2), .unset]) rfl ?_
    refine XS.iconst X2.here hx rfl (hb hby d23_6) ?_
    refine XS.istoreN X2.here hx rfl (hb hby d23_7) rfl (l' := #[.val (.ref t), .val (.ref b2), .val (.int (0 : Int32))]) rfl ?_
    show Steps p.tables e below (T2.setTop (mkF m 8 #[.val (.ref t), .val (.ref b2), .val (.int (0 : Int32))] [])) _
    refine XS.iloadN X2.here hx rfl (hb hby d23_8) rfl ?_
    refine XS.aloadN X2.here hx rfl (hb hby d23_9) rfl rfl ?_
    refine X2.arraylength hx (by rw [e2]; exact Ar4.1) (State.isArrayOf_alike hZ.alike Ar4.2.1) (g := (mkF m 10 #[.val (.ref t), .val (.ref b2), .val (.int (0 : Int32))] [(.ref t), (.int (0 : Int32))])) rfl rfl (hb hby d23_10) _ ?_
    rw [len_of S4 M4]
    refine XS.icmpNo X2.here hx rfl (hb hby d23_11) rfl (tlt (show (0 : Int32) < (4 : Int32) from (by decide))).2.1 ?_
    refine XS.aloadN X2.here hx rfl (hb hby d23_14) rfl rfl ?_
    refine XS.iloadN X2.here hx rfl (hb hby d23_15) rfl ?_
    show Steps p.tables e below (T2.setTop (mkF m 16 #[.val (.ref t), .val (.ref b2), .val (.int (0 : Int32))] [(.int (0 : Int32)), (.ref b2)])) _
    refine XS.aloadN X2.here hx rfl (hb hby d23_16) rfl rfl ?_
    refine XS.iloadN X2.here hx rfl (hb hby d23_17) rfl ?_
    refine X2.aaload hx (j := (0 : Int32)) (v := (.ref q)) (by rw [e2]; exact Ar5.1) (State.isArrayOf_alike hZ.alike Ar5.2.1) rfl Ar5.2.2 hin5 hat5 (g := (mkF m 18 #[.val (.ref t), .val (.ref b2), .val (.int (0 : Int32))] [(.int (0 : Int32)), (.ref t), (.int (0 : Int32)), (.ref b2)])) rfl rfl (hb hby d23_18) _ ?_
    refine st6 _ ?_
    refine st10 _ ?_
    refine XS.iinc X10.here hx rfl (hb hby d23_23) rfl (l' := #[.val (.ref t), .val (.ref b2), .val (.int ((0 : Int32) + (1 : Int32)))]) rfl ?_
    show Steps p.tables e below (T10.setTop (mkF m 26 #[.val (.ref t), .val (.ref b2), .val (.int ((0 : Int32) + (1 : Int32)))] [])) _
    rw [show (((0 : Int32) + (1 : Int32)) : Int32) = (1 : Int32) from by decide]
    refine XS.goto X10.here hx rfl (pc0 := 26) (pc' := 8) rfl (hb hby d23_26) (by decide) (by decide) ?_
    refine XS.iloadN X10.here hx rfl (hb hby d23_8) rfl ?_
    refine XS.aloadN X10.here hx rfl (hb hby d23_9) rfl rfl ?_
    refine X10.arraylength hx (by rw [e10]; exact Ar12.1) (State.isArrayOf_alike hZ.alike Ar12.2.1) (g := (mkF m 10 #[.val (.ref t), .val (.ref b2), .val (.int (1 : Int32))] [(.ref t), (.int (1 : Int32))])) rfl rfl (hb hby d23_10) _ ?_
    rw [len_of S12 M12]
    refine XS.icmpNo X10.here hx rfl (hb hby d23_11) rfl (tlt (show (1 : Int32) < (4 : Int32) from (by decide))).2.1 ?_
    show Steps p.tables e below (T10.setTop (mkF m 14 #[.val (.ref t), .val (.ref b2), .val (.int (1 : Int32))] [])) _
    refine XS.aloadN X10.here hx rfl (hb hby d23_14) rfl rfl ?_
    refine XS.iloadN X10.here hx rfl (hb hby d23_15) rfl ?_
    refine XS.aloadN X10.here hx rfl (hb hby d23_16) rfl rfl ?_
    refine XS.iloadN X10.here hx rfl (hb hby d23_17) rfl ?_
    refine X10.aaload hx (j := (1 : Int32)) (v := (.ref q)) (by rw [e10]; exact Ar13.1) (State.isArrayOf_alike hZ.alike Ar13.2.1) rfl Ar13.2.2 hin13 hat13 (g := (mkF m 18 #[.val (.ref t), .val (.ref b2), .val (.int (1 : Int32))] [(.int (1 : Int32)), (.ref t), (.int (1 : Int32)), (.ref b2)])) rfl rfl (hb hby d23_18) _ ?_
    refine st14 _ ?_
    show Steps p.tables e below (T14.setTop (mkF m 22 #[.val (.ref t), .val (.ref b2), .val (.int (1 : Int32))] [(.ref q), (.int (1 : Int32)), (.ref b2)])) _
    refine st18 _ ?_
    refine XS.iinc X18.here hx rfl (hb hby d23_23) rfl (l' := #[.val (.ref t), .val (.ref b2), .val (.int ((1 : Int32) + (1 : Int32)))]) rfl ?_
    show Steps p.tables e below (T18.setTop (mkF m 26 #[.val (.ref t), .val (.ref b2), .val (.int ((1 : Int32) + (1 : Int32)))] [])) _
    rw [show (((1 : Int32) + (1 : Int32)) : Int32) = (2 : Int32) from by decide]
    refine XS.goto X18.here hx rfl (pc0 := 26) (pc' := 8) rfl (hb hby d23_26) (by decide) (by decide) ?_
    refine XS.iloadN X18.here hx rfl (hb hby d23_8) rfl ?_
    refine XS.aloadN X18.here hx rfl (hb hby d23_9) rfl rfl ?_
    refine X18.arraylength hx (by rw [e18]; exact Ar20.1) (State.isArrayOf_alike hZ.alike Ar20.2.1) (g := (mkF m 10 #[.val (.ref t), .val (.ref b2), .val (.int (2 : Int32))] [(.ref t), (.int (2 : Int32))])) rfl rfl (hb hby d23_10) _ ?_
    rw [len_of S20 M20]
    refine XS.icmpNo X18.here hx rfl (hb hby d23_11) rfl (tlt (show (2 : Int32) < (4 : Int32) from (by decide))).2.1 ?_
    show Steps p.tables e below (T18.setTop (mkF m 14 #[.val (.ref t), .val (.ref b2), .val (.int (2 : Int32))] [])) _
    refine XS.aloadN X18.here hx rfl (hb hby d23_14) rfl rfl ?_
    refine XS.iloadN X18.here hx rfl (hb hby d23_15) rfl ?_
    refine XS.aloadN X18.here hx rfl (hb hby d23_16) rfl rfl ?_
    refine XS.iloadN X18.here hx rfl (hb hby d23_17) rfl ?_
    refine X18.aaload hx (j := (2 : Int32)) (v := (.ref q)) (by rw [e18]; exact Ar21.1) (State.isArrayOf_alike hZ.alike Ar21.2.1) rfl Ar21.2.2 hin21 hat21 (g := (mkF m 18 #[.val (.ref t), .val (.ref b2), .val (.int (2 : Int32))] [(.int (2 : Int32)), (.ref t), (.int (2 : Int32)), (.ref b2)])) rfl rfl (hb hby d23_18) _ ?_
    refine st22 _ ?_
    show Steps p.tables e below (T22.setTop (mkF m 22 #[.val (.ref t), .val (.ref b2), .val (.int (2 : Int32))] [(.ref q), (.int (2 : Int32)), (.ref b2)])) _
    refine st26 _ ?_
    refine XS.iinc X26.here hx rfl (hb hby d23_23) rfl (l' := #[.val (.ref t), .val (.ref b2), .val (.int ((2 : Int32) + (1 : Int32)))]) rfl ?_
    show Steps p.tables e below (T26.setTop (mkF m 26 #[.val (.ref t), .val (.ref b2), .val (.int ((2 : Int32) + (1 : Int32)))] [])) _
    rw [show (((2 : Int32) + (1 : Int32)) : Int32) = (3 : Int32) from by decide]
    refine XS.goto X26.here hx rfl (pc0 := 26) (pc' := 8) rfl (hb hby d23_26) (by decide) (by decide) ?_
    refine XS.iloadN X26.here hx rfl (hb hby d23_8) rfl ?_
    refine XS.aloadN X26.here hx rfl (hb hby d23_9) rfl rfl ?_
    refine X26.arraylength hx (by rw [e26]; exact Ar28.1) (State.isArrayOf_alike hZ.alike Ar28.2.1) (g := (mkF m 10 #[.val (.ref t), .val (.ref b2), .val (.int (3 : Int32))] [(.ref t), (.int (3 : Int32))])) rfl rfl (hb hby d23_10) _ ?_
    rw [len_of S28 M28]
    refine XS.icmpNo X26.here hx rfl (hb hby d23_11) rfl (tlt (show (3 : Int32) < (4 : Int32) from (by decide))).2.1 ?_
    show Steps p.tables e below (T26.setTop (mkF m 14 #[.val (.ref t), .val (.ref b2), .val (.int (3 : Int32))] [])) _
    refine XS.aloadN X26.here hx rfl (hb hby d23_14) rfl rfl ?_
    refine XS.iloadN X26.here hx rfl (hb hby d23_15) rfl ?_
    refine XS.aloadN X26.here hx rfl (hb hby d23_16) rfl rfl ?_
    refine XS.iloadN X26.here hx rfl (hb hby d23_17) rfl ?_
    refine X26.aaload hx (j := (3 : Int32)) (v := (.ref q)) (by rw [e26]; exact Ar29.1) (State.isArrayOf_alike hZ.alike Ar29.2.1) rfl Ar29.2.2 hin29 hat29 (g := (mkF m 18 #[.val (.ref t), .val (.ref b2), .val (.int (3 : Int32))] [(.int (3 : Int32)), (.ref t), (.int (3 : Int32)), (.ref b2)])) rfl rfl (hb hby d23_18) _ ?_
    refine st30 _ ?_
    show Steps p.tables e below (T30.setTop (mkF m 22 #[.val (.ref t), .val (.ref b2), .val (.int (3 : Int32))] [(.ref q), (.int (3 : Int32)), (.ref b2)])) _
    refine st34 _ ?_
    refine XS.iinc X34.here hx rfl (hb hby d23_23) rfl (l' := #[.val (.ref t), .val (.ref b2), .val (.int ((3 : Int32) + (1 : Int32)))]) rfl ?_
    show Steps p.tables e below (T34.setTop (mkF m 26 #[.val (.ref t), .val (.ref b2), .val (.int ((3 : Int32) + (1 : Int32)))] [])) _
    rw [show (((3 : Int32) + (1 : Int32)) : Int32) = (4 : Int32) from by decide]
    refine XS.goto X34.here hx rfl (pc0 := 26) (pc' := 8) rfl (hb hby d23_26) (by decide) (by decide) ?_
    refine XS.iloadN X34.here hx rfl (hb hby d23_8) rfl ?_
    refine XS.aloadN X34.here hx rfl (hb hby d23_9) rfl rfl ?_
    refine X34.arraylength hx (by rw [e34]; exact Ar36.1) (State.isArrayOf_alike hZ.alike Ar36.2.1) (g := (mkF m 10 #[.val (.ref t), .val (.ref b2), .val (.int (4 : Int32))] [(.ref t), (.int (4 : Int32))])) rfl rfl (hb hby d23_10) _ ?_
    rw [len_of S36 M36]
    refine XS.icmpYes X34.here hx rfl (pc0 := 11) (pc' := 29) rfl (hb hby d23_11) rfl (flt (show ¬ ((4 : Int32) < (4 : Int32)) from (by decide))).2.1 (by decide) (by decide) ?_
    show Steps p.tables e below (T34.setTop (mkF m 29 #[.val (.ref t), .val (.ref b2), .val (.int (4 : Int32))] [])) _
    refine st37 _ ?_
    refine XS.dup X37.here hx rfl (hb hby d23_32) rfl rfl ?_
    refine XS.aloadN X37.here hx rfl (hb hby d23_33) rfl rfl ?_
    refine XS.iconst X37.here hx rfl (hb hby d23_34) ?_
    refine st41.trans ?_
    jvm_step X41.here [X41.here.top, hx, (hb hby d23_38), X41.method', Bd.returns, Value.isRef, FieldType.isReference]
    first | (intro acts; rw [hr _ acts rfl rfl rfl]) | rw [hr _ _ rfl rfl rfl]
    exact Steps.refl _
  · show Qlf_4 Z t q kt h0 n0 _ T41.heap _
    exact ⟨b37, b2, k2, rfl, N41, kp43, p41_1, p41_2, f44_V_b2, sz_b37, sz_b2⟩
def Qofa_4 (Z : State) (t : Addr) (q : Addr) (em : Addr) (kt : ClassId) (h0 : Heap) (n0 : Nat) (v : Option Value) (h : Heap) (L : List Loc) : Prop := ∃ lst : Addr, v = some (.ref lst) ∧ Fr n0 L ∧ Keep h0 h [] ∧ Lg Z h h0.size (4 : Int32) q em lst
set_option maxRecDepth 65536 in
set_option maxHeartbeats 40000000 in
abbrev Rm_ofa_4 : Room := { frames := 6, cells := 2, slots := 8, locals := 77 }
theorem ofa_4 (l : Launch) (Z : State) (a0 : Array Value) (hw : ∀ d ∈ tables_1, d.before a0 Z = true) (ws : List Jvm.Cond) (t : Addr) (q : Addr) (em : Addr) (kt : ClassId) (h0 : Heap) (n0 : Nat) (Z0 : n0 ≤ h0.size) (V_t : Arv Z h0 t kt (.object "java/lang/Object") (4 : Int32) [(.ref q), (.ref q), (.ref q), (.ref q)] .null) (E_q : Exa Z h0 q "com/example/gleipnir/gleipnir/service/Counterplay$Position") (O_M : Sta Z Z.heap "java/util/ImmutableCollections" "EMPTY" "Ljava/lang/Object;" (.ref em)) (X00 : Old Z n0 h0) :
    MetFree l my26 (head1 (Jvm.Cond.code my26 jdk_40_method_47_code 2 (some (.object "java/util/List")) :: ws) Rm_ofa_4) (fun aa_ U => aa_ = #[(.ref t)] ∧ Z.Warmed39 U.vm ∧ U.heap = h0) (fun _ _ _ _ _ => True) (fun _ U oo_ U' => ∃ v L, oo_ = .returned v ∧ Qofa_4 Z t q em kt h0 n0 v U'.heap L ∧ FrameEnd U oo_ U' L Rm_ofa_4.cells Rm_ofa_4.slots) := by
  refine MetFree.of_bodySF (plainFor_of_name pn_6) hisR ?_
  intro p e s m args below meth c s₁ Bd hml0 hP hK
  obtain ⟨rfl, hZ, hh⟩ := hP
  have hx := Bd.exec
  have hby := Bd.bytes
  have hml : c.maxLocals = 2 := hml0
  have hown : s.vm.findClass "java/util/List" = some m.cls := findClass_of_methodNamed Bd.named
  have hnm := (name_of_methodNamed Bd.named Bd.method).1
  have X0 : Stand p l e Rm_ofa_4 s m #[(.ref t)] below meth c s₁ [] 0 0 := Stand.of_body Bd
  have e0 : s₁.heap = h0 := by rw [← hh, Bd.state]; rfl
  have N0 := Fr.nil n0
  have pre0 : ∀ tt_, Steps p.tables e below (s₁.setTop (mkF m 0 #[.val (.ref t), .unset] [])) tt_ → Steps p.tables e below (s₁.setTop (entryFrame m #[(.ref t)] 2)) tt_ := fun tt_ kk_ => castTop (ef_22 m t) kk_
  obtain ⟨cl1, Ar1, -, S1, M1, -, -⟩ := id V_t
  obtain ⟨_, _, ⟨T2, L2, k2, n2⟩, -, X2, ⟨Lc2, hQ2, l2, y2, z2⟩, st2⟩ := Jvm.LawKit.callS X0 hx (y := my27) hown (mvT hZ (hwd146 hw)) (mvT hZ (hwd147 hw)) (mvT hZ (hwd45 hw)) (mvT hZ (hwd148 hw)) (by decide) (backOf (W := 0) (lf_4 l Z a0 hw [] t q kt h0 n0 Z0 V_t E_q) hZ (hwd148 hw) (hwd45 hw) (by decide) (by decide)) (g := (mkF m 60 #[.val (.ref t), .unset] [(.ref t)])) rfl (by rw [hml]; rfl) (argsL := [(.ref t)]) (rest := []) (lenOf pd_13 rfl) rfl (by show 2 * 0 + _ ≤ _; exact Nat.le_of_eq rfl) (hb hby d22_60) (fun _ _ => ⟨rfl, e0, (by decide : 0 + 2 ≤ _), (by decide : 0 + 6 ≤ _)⟩)
  dsimp only [Pt.U, Pt.locs, Pt.cells, Pt.slots] at X2 l2 y2 z2 st2 hQ2
  subst l2 y2 z2
  obtain ⟨lst_e2, tt_e2, ktt_e2, rfl, N2q, K2, p2_1, p2_2, p2_3, sz_lst_2, sz_tt_2⟩ := hQ2
  have N2 := Fr.app N0 N2q
  have kp3 : Keep h0 T2.heap [] := ((Keep.refl h0 []).trans K2 all0)
  obtain ⟨fs, hr, hrun, hended, hW, hsame⟩ := X2.leave (v := some (.ref lst_e2)) (fun h => by rw [Bd.returns] at h; cases h)
  refine ⟨_, _, pre0 _ ?_, hrun, hended, _, _, rfl, ?_, ⟨_, rfl⟩, hW, hsame.mono (by decide) (by decide)⟩
  · show Steps p.tables e below (s₁.setTop (mkF m 0 #[.val (.ref t), .unset] [])) _
    refine XS.aloadN X0.here hx rfl (hb hby d22_0) rfl rfl ?_
    refine X0.arraylength hx (by rw [e0]; exact Ar1.1) (State.isArrayOf_alike hZ.alike Ar1.2.1) (g := (mkF m 1 #[.val (.ref t), .unset] [(.ref t)])) rfl rfl (hb hby d22_1) _ ?_
    rw [len_of S1 M1]
    refine XS.tswOut X0.here hx rfl (pc0 := 2) (pc' := 59) rfl (hb hby d22_2) rfl (by decide) (by decide) (by decide) ?_
    refine XS.aloadN X0.here hx rfl (hb hby d22_59) rfl rfl ?_
    refine st2 _ ?_
    jvm_step X2.here [X2.here.top, hx, (hb hby d22_63), X2.method', Bd.returns, Value.isRef, FieldType.isReference]
    first | (intro acts; rw [hr _ acts rfl rfl rfl]) | rw [hr _ _ rfl rfl rfl]
    exact Steps.refl _
  · show Qofa_4 Z t q em kt h0 n0 _ T2.heap _
    exact ⟨lst_e2, rfl, N2, kp3, ⟨(Nat.le_trans (Keep.refl h0 []).1 sz_lst_2), Or.inr (Or.inr ⟨tt_e2, _, _, (Nat.le_trans (Keep.refl h0 []).1 sz_tt_2), p2_1, p2_2, p2_3⟩)⟩⟩
def Qmin_5 (Z : State)  (h0 : Heap) (n0 : Nat) (v : Option Value) (h : Heap) (L : List Loc) : Prop := v = some (.int (5 : Int32)) ∧ Fr n0 L ∧ h = h0
set_option maxRecDepth 65536 in
set_option maxHeartbeats 40000000 in
abbrev Rm_min_5 : Room := { frames := 0, cells := 0, slots := 0, locals := 0 }
theorem min_5 (l : Launch) (Z : State) (a0 : Array Value) (hw : ∀ d ∈ tables_1, d.before a0 Z = true) (ws : List Jvm.Cond)  (h0 : Heap) (n0 : Nat) (Z0 : n0 ≤ h0.size) :
    MetFree l my24 (head1 (Jvm.Cond.code my24 jdk_29_method_69_code 2 (some .int) :: ws) Rm_min_5) (fun aa_ U => aa_ = #[(.int (10 : Int32)), (.int (5 : Int32))] ∧ Z.Warmed39 U.vm ∧ U.heap = h0) (fun _ _ _ _ _ => True) (fun _ U oo_ U' => ∃ v L, oo_ = .returned v ∧ Qmin_5 Z  h0 n0 v U'.heap L ∧ FrameEnd U oo_ U' L Rm_min_5.cells Rm_min_5.slots) := by
  refine MetFree.of_bodySF (Jvm.Free.JP.mathPlain rfl (by decide +kernel)) hisR ?_
  intro p e s m args below meth c s₁ Bd hml0 hP hK
  obtain ⟨rfl, hZ, hh⟩ := hP
  have hx := Bd.exec
  have hby := Bd.bytes
  have hml : c.maxLocals = 2 := hml0
  have hown : s.vm.findClass "java/lang/Math" = some m.cls := findClass_of_methodNamed Bd.named
  have hnm := (name_of_methodNamed Bd.named Bd.method).1
  have X0 : Stand p l e Rm_min_5 s m #[(.int (10 : Int32)), (.int (5 : Int32))] below meth c s₁ [] 0 0 := Stand.of_body Bd
  have e0 : s₁.heap = h0 := by rw [← hh, Bd.state]; rfl
  have N0 := Fr.nil n0
  have pre0 : ∀ tt_, Steps p.tables e below (s₁.setTop (mkF m 0 #[.val (.int (10 : Int32)), .val (.int (5 : Int32))] [])) tt_ → Steps p.tables e below (s₁.setTop (entryFrame m #[(.int (10 : Int32)), (.int (5 : Int32))] 2)) tt_ := fun tt_ kk_ => castTop (ef_21 m (10 : Int32) (5 : Int32)) kk_
  obtain ⟨fs, hr, hrun, hended, hW, hsame⟩ := X0.leave (v := some (.int (5 : Int32))) (fun h => by rw [Bd.returns] at h; cases h)
  refine ⟨_, _, pre0 _ ?_, hrun, hended, _, _, rfl, ?_, ⟨_, rfl⟩, hW, hsame.mono (by decide) (by decide)⟩
  · show Steps p.tables e below (s₁.setTop (mkF m 0 #[.val (.int (10 : Int32)), .val (.int (5 : Int32))] [])) _
    refine XS.iloadN X0.here hx rfl (hb hby d21_0) rfl ?_
    refine XS.iloadN X0.here hx rfl (hb hby d21_1) rfl ?_
    refine XS.icmpYes X0.here hx rfl (pc0 := 2) (pc' := 9) rfl (hb hby d21_2) rfl (tlt (show (5 : Int32) < (10 : Int32) from (by decide))).2.2.1 (by decide) (by decide) ?_
    refine XS.iloadN X0.here hx rfl (hb hby d21_9) rfl ?_
    exact retI X0 hx Bd.returns (hb hby d21_10) hr
  · show Qmin_5 Z  h0 n0 _ s₁.heap _
    rw [e0]
    exact ⟨rfl, N0, rfl⟩
def Qc3_5 (Z : State) (b : Addr) (q : Addr) (mr : Addr) (kb : ClassId) (h0 : Heap) (n0 : Nat) (v : Option Value) (h : Heap) (L : List Loc) : Prop := ∃ t : Addr, ∃ kt : ClassId, v = some (.ref t) ∧ Fr n0 L ∧ Keep h0 h [] ∧ Arv Z h t kt (.object "java/lang/Object") (5 : Int32) [(.ref q), (.ref q), (.ref q), (.ref q), (.ref q)] .null ∧ Exa Z h t "[Ljava/lang/Object;" ∧ Ovr Z kt "java/lang/Object" ∧ n0 ≤ t ∧ h0.size ≤ t
set_option maxRecDepth 65536 in
set_option maxHeartbeats 40000000 in
abbrev Rm_c3_5 : Room := { frames := 1, cells := 1, slots := 6, locals := 18 }
theorem c3_5 (l : Launch) (Z : State) (a0 : Array Value) (hw : ∀ d ∈ tables_1, d.before a0 Z = true) (ws : List Jvm.Cond) (b : Addr) (q : Addr) (mr : Addr) (kb : ClassId) (h0 : Heap) (n0 : Nat) (Z0 : n0 ≤ h0.size) (V_b : Arv Z h0 b kb (.object "java/lang/Object") (10 : Int32) [(.ref q), (.ref q), (.ref q), (.ref q), (.ref q), .null, .null, .null, .null, .null] .null) (E_q : Exa Z h0 q "com/example/gleipnir/gleipnir/service/Counterplay$Position") (Mr : Mir Z "[Ljava/lang/Object;" mr) :
    MetFree l my25 (head1 (Jvm.Cond.code my25 jdk_65_method_120_code 4 (some (.array (.object "java/lang/Object"))) :: ws) Rm_c3_5) (fun aa_ U => aa_ = #[(.ref b), (.int (5 : Int32)), (.ref mr)] ∧ Z.Warmed39 U.vm ∧ U.heap = h0) (fun _ _ _ _ _ => True) (fun _ U oo_ U' => ∃ v L, oo_ = .returned v ∧ Qc3_5 Z b q mr kb h0 n0 v U'.heap L ∧ FrameEnd U oo_ U' L Rm_c3_5.cells Rm_c3_5.slots) := by
  refine MetFree.of_bodySF (plainFor_of_name pn_15) hisR ?_
  intro p e s m args below meth c s₁ Bd hml0 hP hK
  obtain ⟨rfl, hZ, hh⟩ := hP
  have hx := Bd.exec
  have hby := Bd.bytes
  have hml : c.maxLocals = 4 := hml0
  have hown : s.vm.findClass "java/util/Arrays" = some m.cls := findClass_of_methodNamed Bd.named
  have hnm := (name_of_methodNamed Bd.named Bd.method).1
  have X0 : Stand p l e Rm_c3_5 s m #[(.ref b), (.int (5 : Int32)), (.ref mr)] below meth c s₁ [] 0 0 := Stand.of_body Bd
  have e0 : s₁.heap = h0 := by rw [← hh, Bd.state]; rfl
  have N0 := Fr.nil n0
  have pre0 : ∀ tt_, Steps p.tables e below (s₁.setTop (mkF m 0 #[.val (.ref b), .val (.int (5 : Int32)), .val (.ref mr), .unset] [])) tt_ → Steps p.tables e below (s₁.setTop (entryFrame m #[(.ref b), (.int (5 : Int32)), (.ref mr)] 4)) tt_ := fun tt_ kk_ => castTop (ef_20 m b (5 : Int32) mr) kk_
  obtain ⟨vm1, X1, st1⟩ := X0.ldcMirror hx hown (mvT hZ (hwd134 hw)) (own_hev hZ Mr) (g := (mkF m 1 #[.val (.ref b), .val (.int (5 : Int32)), .val (.ref mr), .unset] [(.ref mr)])) rfl (hb hby d20_1)
  have e1 : (s₁.setVm vm1).heap = h0 := e0
  obtain ⟨T2, h2, k2, X2, e2, E2, A2, B2, O2, st2⟩ := newRE X1 hx hZ hown (hwd135 hw) (hwd103 hw) e1 (g := (mkF m 7 #[.val (.ref b), .val (.int (5 : Int32)), .val (.ref mr), .unset] [(.int (5 : Int32))])) rfl (hb hby d20_7) rfl (by decide) (cap := 5) (by decide) (by decide) (by decide) (by decide) (ad := "[Ljava/lang/Object;") (by decide)
  obtain ⟨b2, g2⟩ : ∃ zz_, zz_ = h0.size := ⟨_, rfl⟩
  rw [← g2] at A2 B2 st2
  have ne_b_b2 : b ≠ b2 := Nat.ne_of_lt (Nat.lt_of_lt_of_le V_b.lt (Nat.le_of_eq g2.symm))
  have ne_q_b2 : q ≠ b2 := Nat.ne_of_lt (Nat.lt_of_lt_of_le E_q.lt (Nat.le_of_eq g2.symm))
  have g_b2 : n0 ≤ b2 := Nat.le_trans Z0 (Nat.le_of_eq g2.symm)
  have sz_b2 : h0.size ≤ b2 := Nat.le_trans (Keep.refl h0 []).1 (Nat.le_of_eq g2.symm)
  have V_b2 : Arv Z h2 b2 k2 (.object "java/lang/Object") (5 : Int32) [.null, .null, .null, .null, .null] .null := (Arv.new A2 (by decide)).pad (pad_rep [] .null 5)
  have f3_V_b := (V_b.ext E2)
  obtain ⟨cl4, Ar4, -, S4, M4, -, -⟩ := id f3_V_b
  have sz6 : n0 ≤ h2.size := (Nat.le_trans Z0 E2.1)
  obtain ⟨_, _, ⟨T5, L5, k5, n5⟩, -, X5, ⟨Lc5, hQ5, l5, y5, z5⟩, st5⟩ := Jvm.LawKit.callS X2 hx (y := my24) hown (mvT hZ (hwd136 hw)) (mvT hZ (hwd137 hw)) (mvT hZ (hwd100 hw)) (mvT hZ (hwd138 hw)) (by decide) (backOf (W := 4) (min_5 l Z a0 hw []  h2 n0 sz6 ) hZ (hwd138 hw) (hwd100 hw) (by decide) (by decide)) (g := (mkF m 32 #[.val (.ref b), .val (.int (5 : Int32)), .val (.ref mr), .val (.ref b2)] [(.int (5 : Int32)), (.int (10 : Int32)), (.int (0 : Int32)), (.ref b2), (.int (0 : Int32)), (.ref b)])) rfl (by rw [hml]; rfl) (argsL := [(.int (10 : Int32)), (.int (5 : Int32))]) (rest := [(.int (0 : Int32)), (.ref b2), (.int (0 : Int32)), (.ref b)]) (lenOf pd_4 rfl) rfl (by show 2 * 0 + _ ≤ _; exact Nat.le_of_eq rfl) (hb hby d20_32) (fun _ _ => ⟨rfl, e2, (by decide : 1 + 0 ≤ _), (by decide : 5 + 0 ≤ _)⟩)
  dsimp only [Pt.U, Pt.locs, Pt.cells, Pt.slots] at X5 l5 y5 z5 st5 hQ5
  subst l5 y5 z5
  obtain ⟨rfl, N5q, e5q⟩ := hQ5
  have N5 := Fr.app N0 N5q
  obtain ⟨cl7, Ar7, q7, -, -, -, -⟩ := id V_b2
  have f9_E_q := (E_q.ext E2)
  obtain ⟨T8, h8, L8, X8, e8, N8, K8, V8, st8⟩ := cpA X5 hx hZ hown (hwd139 hw) (hwd142 hw) (hwd140 hw) (hwd141 hw) e5q f3_V_b V_b2 (us := [(.ref q), (.ref q), (.ref q), (.ref q), (.ref q)]) (Or.inr ⟨rfl, rfl, ⟨Sto.ofV Ar7 q7 O2 (Ins.of_exa f9_E_q (hwd104 hw)), Sto.ofV Ar7 q7 O2 (Ins.of_exa f9_E_q (hwd104 hw)), Sto.ofV Ar7 q7 O2 (Ins.of_exa f9_E_q (hwd104 hw)), Sto.ofV Ar7 q7 O2 (Ins.of_exa f9_E_q (hwd104 hw)), Sto.ofV Ar7 q7 O2 (Ins.of_exa f9_E_q (hwd104 hw)), trivial⟩⟩) (by decide) (by decide) (by decide) (by decide) (by decide) (by rfl) (Nat.le_of_ble_eq_true rfl) N5 g_b2 (g := (mkF m 35 #[.val (.ref b), .val (.int (5 : Int32)), .val (.ref mr), .val (.ref b2)] [(.int (5 : Int32)), (.int (0 : Int32)), (.ref b2), (.int (0 : Int32)), (.ref b)])) rfl (by rw [hml]; rfl) rfl (hb hby d20_35) (by decide) (W := 0) (by show 2 * 0 + _ ≤ _; exact Nat.le_of_eq rfl) (by decide)
  have Vc8 : Arv Z h8 b2 k2 (.object "java/lang/Object") (5 : Int32) [(.ref q), (.ref q), (.ref q), (.ref q), (.ref q)] .null := V8
  have kp10 : Keep h0 h8 [] := (((Keep.refl h0 []).ext E2).trans K8 (allS (Or.inr sz_b2) all0))
  have f11_E_b2 := (B2.keep K8)
  obtain ⟨fs, hr, hrun, hended, hW, hsame⟩ := X8.leave (v := some (.ref b2)) (fun h => by rw [Bd.returns] at h; cases h)
  refine ⟨_, _, pre0 _ ?_, hrun, hended, _, _, rfl, ?_, ⟨_, rfl⟩, hW, hsame.mono (by decide) (by decide)⟩
  · show Steps p.tables e below (s₁.setTop (mkF m 0 #[.val (.ref b), .val (.int (5 : Int32)), .val (.ref mr), .unset] [])) _
    refine XS.aloadN X0.here hx rfl (hb hby d20_0) rfl rfl ?_
    refine st1 _ ?_
    refine Jvm.RoadKit.acmp (g := (mkF m 3 #[.val (.ref b), .val (.int (5 : Int32)), .val (.ref mr), .unset] [(.ref mr), (.ref mr)])) X1 hx rfl rfl rfl (pc0 := 3) (pc' := 6) (same := true) rfl (hb hby d20_3) rfl (decide_eq_true rfl) (by decide) (by decide) ?_
    refine XS.iloadN X1.here hx rfl (hb hby d20_6) rfl ?_
    refine st2 _ ?_
    refine XS.goto X2.here hx rfl (pc0 := 10) (pc' := 24) rfl (hb hby d20_10) (by decide) (by decide) ?_
    show Steps p.tables e below (T2.setTop (mkF m 24 #[.val (.ref b), .val (.int (5 : Int32)), .val (.ref mr), .unset] [(.ref b2)])) _
    refine XS.astoreN X2.here hx rfl (hb hby d20_24) rfl rfl (l' := #[.val (.ref b), .val (.int (5 : Int32)), .val (.ref mr), .val (.ref b2)]) rfl ?_
    refine XS.aloadN X2.here hx rfl (hb hby d20_25) rfl rfl ?_
    refine XS.iconst X2.here hx rfl (hb hby d20_26) ?_
    refine XS.aloadN X2.here hx rfl (hb hby d20_27) rfl rfl ?_
    refine XS.iconst X2.here hx rfl (hb hby d20_28) ?_
    refine XS.aloadN X2.here hx rfl (hb hby d20_29) rfl rfl ?_
    show Steps p.tables e below (T2.setTop (mkF m 30 #[.val (.ref b), .val (.int (5 : Int32)), .val (.ref mr), .val (.ref b2)] [(.ref b), (.int (0 : Int32)), (.ref b2), (.int (0 : Int32)), (.ref b)])) _
    refine X2.arraylength hx (by rw [e2]; exact Ar4.1) (State.isArrayOf_alike hZ.alike Ar4.2.1) (g := (mkF m 30 #[.val (.ref b), .val (.int (5 : Int32)), .val (.ref mr), .val (.ref b2)] [(.ref b), (.int (0 : Int32)), (.ref b2), (.int (0 : Int32)), (.ref b)])) rfl rfl (hb hby d20_30) _ ?_
    rw [len_of S4 M4]
    refine XS.iloadN X2.here hx rfl (hb hby d20_31) rfl ?_
    refine st5 _ ?_
    refine st8 _ ?_
    refine XS.aloadN X8.here hx rfl (hb hby d20_38) rfl rfl ?_
    jvm_step X8.here [X8.here.top, hx, (hb hby d20_39), X8.method', Bd.returns, Value.isRef, FieldType.isReference]
    first | (intro acts; rw [hr _ acts rfl rfl rfl]) | rw [hr _ _ rfl rfl rfl]
    exact Steps.refl _
  · show Qc3_5 Z b q mr kb h0 n0 _ T8.heap _
    rw [e8]
    exact ⟨b2, k2, rfl, N8, kp10, Vc8, f11_E_b2, O2, g_b2, sz_b2⟩
def Qlf_5 (Z : State) (t : Addr) (q : Addr) (kt : ClassId) (h0 : Heap) (n0 : Nat) (v : Option Value) (h : Heap) (L : List Loc) : Prop := ∃ lst : Addr, ∃ tt : Addr, ∃ ktt : ClassId, v = some (.ref lst) ∧ Fr n0 L ∧ Keep h0 h [] ∧ Exa Z h lst "java/util/ImmutableCollections$ListN" ∧ Fld Z h lst "java/util/ImmutableCollections$ListN" "elements" "[Ljava/lang/Object;" (.ref tt) ∧ Arv Z h tt ktt (.object "java/lang/Object") (5 : Int32) [(.ref q), (.ref q), (.ref q), (.ref q), (.ref q)] .null ∧ h0.size ≤ lst ∧ h0.size ≤ tt
set_option maxRecDepth 65536 in
set_option maxHeartbeats 40000000 in
abbrev Rm_lf_5 : Room := { frames := 5, cells := 2, slots := 7, locals := 63 }
theorem lf_5 (l : Launch) (Z : State) (a0 : Array Value) (hw : ∀ d ∈ tables_1, d.before a0 Z = true) (ws : List Jvm.Cond) (t : Addr) (q : Addr) (kt : ClassId) (h0 : Heap) (n0 : Nat) (Z0 : n0 ≤ h0.size) (V_t : Arv Z h0 t kt (.object "java/lang/Object") (5 : Int32) [(.ref q), (.ref q), (.ref q), (.ref q), (.ref q)] .null) (E_q : Exa Z h0 q "com/example/gleipnir/gleipnir/service/Counterplay$Position") :
    MetFree l my27 (head1 (Jvm.Cond.code my27 jdk_56_method_4_code 3 (some (.object "java/util/List")) :: ws) Rm_lf_5) (fun aa_ U => aa_ = #[(.ref t)] ∧ Z.Warmed39 U.vm ∧ U.heap = h0) (fun _ _ _ _ _ => True) (fun _ U oo_ U' => ∃ v L, oo_ = .returned v ∧ Qlf_5 Z t q kt h0 n0 v U'.heap L ∧ FrameEnd U oo_ U' L Rm_lf_5.cells Rm_lf_5.slots) := by
  refine MetFree.of_bodySF (plainFor_of_name pn_7) hisR ?_
  intro p e s m args below meth c s₁ Bd hml0 hP hK
  obtain ⟨rfl, hZ, hh⟩ := hP
  have hx := Bd.exec
  have hby := Bd.bytes
  have hml : c.maxLocals = 3 := hml0
  have hown : s.vm.findClass "java/util/ImmutableCollections" = some m.cls := findClass_of_methodNamed Bd.named
  have hnm := (name_of_methodNamed Bd.named Bd.method).1
  have X0 : Stand p l e Rm_lf_5 s m #[(.ref t)] below meth c s₁ [] 0 0 := Stand.of_body Bd
  have e0 : s₁.heap = h0 := by rw [← hh, Bd.state]; rfl
  have N0 := Fr.nil n0
  have pre0 : ∀ tt_, Steps p.tables e below (s₁.setTop (mkF m 0 #[.val (.ref t), .unset, .unset] [])) tt_ → Steps p.tables e below (s₁.setTop (entryFrame m #[(.ref t)] 3)) tt_ := fun tt_ kk_ => castTop (ef_23 m t) kk_
  obtain ⟨cl1, Ar1, -, S1, M1, -, -⟩ := id V_t
  obtain ⟨T2, h2, k2, X2, e2, E2, A2, B2, O2, st2⟩ := newRE X0 hx hZ hown (hwd149 hw) (hwd103 hw) e0 (g := (mkF m 2 #[.val (.ref t), .unset, .unset] [(.int (5 : Int32))])) rfl (hb hby d23_2) rfl (by decide) (cap := 5) (by decide) (by decide) (by decide) (by decide) (ad := "[Ljava/lang/Object;") (by decide)
  obtain ⟨b2, g2⟩ : ∃ zz_, zz_ = h0.size := ⟨_, rfl⟩
  rw [← g2] at A2 B2 st2
  have ne_t_b2 : t ≠ b2 := Nat.ne_of_lt (Nat.lt_of_lt_of_le V_t.lt (Nat.le_of_eq g2.symm))
  have ne_q_b2 : q ≠ b2 := Nat.ne_of_lt (Nat.lt_of_lt_of_le E_q.lt (Nat.le_of_eq g2.symm))
  have g_b2 : n0 ≤ b2 := Nat.le_trans Z0 (Nat.le_of_eq g2.symm)
  have sz_b2 : h0.size ≤ b2 := Nat.le_trans (Keep.refl h0 []).1 (Nat.le_of_eq g2.symm)
  have V_b2 : Arv Z h2 b2 k2 (.object "java/lang/Object") (5 : Int32) [.null, .null, .null, .null, .null] .null := (Arv.new A2 (by decide)).pad (pad_rep [] .null 5)
  have f3_V_t := (V_t.ext E2)
  obtain ⟨cl4, Ar4, -, S4, M4, -, -⟩ := id f3_V_t
  obtain ⟨cl5, Ar5, q5, S5, M5, H5, G5⟩ := id f3_V_t
  have hin5 : ¬ ((0 : Int32) < 0 ∨ cl5.slots.size ≤ ((0 : Int32)).toNatClampNeg) := inb_of S5 ⟨by decide, by decide⟩
  have hat5 : cl5.slots[((0 : Int32)).toNatClampNeg]? = some (.ref q) := H5.at hin5 rfl
  have sz7 : n0 ≤ h2.size := (Nat.le_trans Z0 E2.1)
  obtain ⟨_, _, ⟨T6, L6, k6, n6⟩, -, X6, ⟨Lc6, hQ6, l6, y6, z6⟩, st6⟩ := Jvm.LawKit.callS X2 hx (y := my18) hown (mvT hZ (hwd150 hw)) (mvT hZ (hwd151 hw)) (mvT hZ (hwd152 hw)) (mvT hZ (hwd153 hw)) (by decide) (backOf (W := 2) (rm24 l Z a0 hw [] q h2 n0 sz7 ) hZ (hwd153 hw) (hwd152 hw) (by decide) (by decide)) (g := (mkF m 19 #[.val (.ref t), .val (.ref b2), .val (.int (0 : Int32))] [(.ref q), (.int (0 : Int32)), (.ref b2)])) rfl (by rw [hml]; rfl) (argsL := [(.ref q)]) (rest := [(.int (0 : Int32)), (.ref b2)]) (lenOf pd_9 rfl) rfl (by show 2 * 0 + _ ≤ _; exact Nat.le_of_eq rfl) (hb hby d23_19) (fun _ _ => ⟨rfl, e2, (by decide : 1 + 0 ≤ _), (by decide : 5 + 0 ≤ _)⟩)
  dsimp only [Pt.U, Pt.locs, Pt.cells, Pt.slots] at X6 l6 y6 z6 st6 hQ6
  subst l6 y6 z6
  obtain ⟨rfl, N6q, e6q⟩ := hQ6
  have N6 := Fr.app N0 N6q
  have f9_E_q := (E_q.ext E2)
  obtain ⟨cl8, Ar8, q8, S8, M8, H8, G8⟩ := id V_b2
  obtain ⟨T10, h10, X10, e10, W10, st10⟩ := stR X6 hx hZ e6q Ar8 (j := (0 : Int32)) (inb_of S8 ⟨by decide, by decide⟩) rfl (Sto.ofV Ar8 q8 O2 (Ins.of_exa f9_E_q (hwd104 hw))) (g := (mkF m 22 #[.val (.ref t), .val (.ref b2), .val (.int (0 : Int32))] [(.ref q), (.int (0 : Int32)), (.ref b2)])) rfl rfl (hb hby d23_22)
  have N10 := Fr.snoc X10 N6 g_b2
  have Vw10 : Arv Z h10 b2 k2 (.object "java/lang/Object") (5 : Int32) [(.ref q), .null, .null, .null, .null] .null := Arv.set Ar8 q8 S8 M8 H8 G8 rfl W10 0 rfl (Nat.le_of_ble_eq_true rfl)
  have f11_V_t := (f3_V_t.other W10 ne_t_b2)
  obtain ⟨cl12, Ar12, -, S12, M12, -, -⟩ := id f11_V_t
  obtain ⟨cl13, Ar13, q13, S13, M13, H13, G13⟩ := id f11_V_t
  have hin13 : ¬ ((1 : Int32) < 0 ∨ cl13.slots.size ≤ ((1 : Int32)).toNatClampNeg) := inb_of S13 ⟨by decide, by decide⟩
  have hat13 : cl13.slots[((1 : Int32)).toNatClampNeg]? = some (.ref q) := H13.at hin13 rfl
  have sz15 : n0 ≤ h10.size := (Nat.le_trans sz7 (Keep.of_wr W10).1)
  obtain ⟨_, _, ⟨T14, L14, k14, n14⟩, -, X14, ⟨Lc14, hQ14, l14, y14, z14⟩, st14⟩ := Jvm.LawKit.callS X10 hx (y := my18) hown (mvT hZ (hwd150 hw)) (mvT hZ (hwd151 hw)) (mvT hZ (hwd152 hw)) (mvT hZ (hwd153 hw)) (by decide) (backOf (W := 2) (rm24 l Z a0 hw [] q h10 n0 sz15 ) hZ (hwd153 hw) (hwd152 hw) (by decide) (by decide)) (g := (mkF m 19 #[.val (.ref t), .val (.ref b2), .val (.int (1 : Int32))] [(.ref q), (.int (1 : Int32)), (.ref b2)])) rfl (by rw [hml]; rfl) (argsL := [(.ref q)]) (rest := [(.int (1 : Int32)), (.ref b2)]) (lenOf pd_9 rfl) rfl (by show 2 * 0 + _ ≤ _; exact Nat.le_of_eq rfl) (hb hby d23_19) (fun _ _ => ⟨rfl, e10, (by decide : 1 + 0 ≤ _), (by decide : 5 + 0 ≤ _)⟩)
  dsimp only [Pt.U, Pt.locs, Pt.cells, Pt.slots] at X14 l14 y14 z14 st14 hQ14
  subst l14 y14 z14
  obtain ⟨rfl, N14q, e14q⟩ := hQ14
  have N14 := Fr.app N10 N14q
  have f17_E_q := (f9_E_q.wr W10)
  obtain ⟨cl16, Ar16, q16, S16, M16, H16, G16⟩ := id Vw10
  obtain ⟨T18, h18, X18, e18, W18, st18⟩ := stR X14 hx hZ e14q Ar16 (j := (1 : Int32)) (inb_of S16 ⟨by decide, by decide⟩) rfl (Sto.ofV Ar16 q16 O2 (Ins.of_exa f17_E_q (hwd104 hw))) (g := (mkF m 22 #[.val (.ref t), .val (.ref b2), .val (.int (1 : Int32))] [(.ref q), (.int (1 : Int32)), (.ref b2)])) rfl rfl (hb hby d23_22)
  have N18 := Fr.snoc X18 N14 g_b2
  have Vw18 : Arv Z h18 b2 k2 (.object "java/lang/Object") (5 : Int32) [(.ref q), (.ref q), .null, .null, .null] .null := Arv.set Ar16 q16 S16 M16 H16 G16 rfl W18 1 rfl (Nat.le_of_ble_eq_true rfl)
  have f19_V_t := (f11_V_t.other W18 ne_t_b2)
  obtain ⟨cl20, Ar20, -, S20, M20, -, -⟩ := id f19_V_t
  obtain ⟨cl21, Ar21, q21, S21, M21, H21, G21⟩ := id f19_V_t
  have hin21 : ¬ ((2 : Int32) < 0 ∨ cl21.slots.size ≤ ((2 : Int32)).toNatClampNeg) := inb_of S21 ⟨by decide, by decide⟩
  have hat21 : cl21.slots[((2 : Int32)).toNatClampNeg]? = some (.ref q) := H21.at hin21 rfl
  have sz23 : n0 ≤ h18.size := (Nat.le_trans sz15 (Keep.of_wr W18).1)
  obtain ⟨_, _, ⟨T22, L22, k22, n22⟩, -, X22, ⟨Lc22, hQ22, l22, y22, z22⟩, st22⟩ := Jvm.LawKit.callS X18 hx (y := my18) hown (mvT hZ (hwd150 hw)) (mvT hZ (hwd151 hw)) (mvT hZ (hwd152 hw)) (mvT hZ (hwd153 hw)) (by decide) (backOf (W := 2) (rm24 l Z a0 hw [] q h18 n0 sz23 ) hZ (hwd153 hw) (hwd152 hw) (by decide) (by decide)) (g := (mkF m 19 #[.val (.ref t), .val (.ref b2), .val (.int (2 : Int32))] [(.ref q), (.int (2 : Int32)), (.ref b2)])) rfl (by rw [hml]; rfl) (argsL := [(.ref q)]) (rest := [(.int (2 : Int32)), (.ref b2)]) (lenOf pd_9 rfl) rfl (by show 2 * 0 + _ ≤ _; exact Nat.le_of_eq rfl) (hb hby d23_19) (fun _ _ => ⟨rfl, e18, (by decide : 1 + 0 ≤ _), (by decide : 5 + 0 ≤ _)⟩)
  dsimp only [Pt.U, Pt.locs, Pt.cells, Pt.slots] at X22 l22 y22 z22 st22 hQ22
  subst l22 y22 z22
  obtain ⟨rfl, N22q, e22q⟩ := hQ22
  have N22 := Fr.app N18 N22q
  have f25_E_q := (f17_E_q.wr W18)
  obtain ⟨cl24, Ar24, q24, S24, M24, H24, G24⟩ := id Vw18
  obtain ⟨T26, h26, X26, e26, W26, st26⟩ := stR X22 hx hZ e22q Ar24 (j := (2 : Int32)) (inb_of S24 ⟨by decide, by decide⟩) rfl (Sto.ofV Ar24 q24 O2 (Ins.of_exa f25_E_q (hwd104 hw))) (g := (mkF m 22 #[.val (.ref t), .val (.ref b2), .val (.int (2 : Int32))] [(.ref q), (.int (2 : Int32)), (.ref b2)])) rfl rfl (hb hby d23_22)
  have N26 := Fr.snoc X26 N22 g_b2
  have Vw26 : Arv Z h26 b2 k2 (.object "java/lang/Object") (5 : Int32) [(.ref q), (.ref q), (.ref q), .null, .null] .null := Arv.set Ar24 q24 S24 M24 H24 G24 rfl W26 2 rfl (Nat.le_of_ble_eq_true rfl)
  have f27_V_t := (f19_V_t.other W26 ne_t_b2)
  obtain ⟨cl28, Ar28, -, S28, M28, -, -⟩ := id f27_V_t
  obtain ⟨cl29, Ar29, q29, S29, M29, H29, G29⟩ := id f27_V_t
  have hin29 : ¬ ((3 : Int32) < 0 ∨ cl29.slots.size ≤ ((3 : Int32)).toNatClampNeg) := inb_of S29 ⟨by decide, by decide⟩
  have hat29 : cl29.slots[((3 : Int32)).toNatClampNeg]? = some (.ref q) := H29.at hin29 rfl
  have sz31 : n0 ≤ h26.size := (Nat.le_trans sz23 (Keep.of_wr W26).1)
  obtain ⟨_, _, ⟨T30, L30, k30, n30⟩, -, X30, ⟨Lc30, hQ30, l30, y30, z30⟩, st30⟩ := Jvm.LawKit.callS X26 hx (y := my18) hown (mvT hZ (hwd150 hw)) (mvT hZ (hwd151 hw)) (mvT hZ (hwd152 hw)) (mvT hZ (hwd153 hw)) (by decide) (backOf (W := 2) (rm24 l Z a0 hw [] q h26 n0 sz31 ) hZ (hwd153 hw) (hwd152 hw) (by decide) (by decide)) (g := (mkF m 19 #[.val (.ref t), .val (.ref b2), .val (.int (3 : Int32))] [(.ref q), (.int (3 : Int32)), (.ref b2)])) rfl (by rw [hml]; rfl) (argsL := [(.ref q)]) (rest := [(.int (3 : Int32)), (.ref b2)]) (lenOf pd_9 rfl) rfl (by show 2 * 0 + _ ≤ _; exact Nat.le_of_eq rfl) (hb hby d23_19) (fun _ _ => ⟨rfl, e26, (by decide : 1 + 0 ≤ _), (by decide : 5 + 0 ≤ _)⟩)
  dsimp only [Pt.U, Pt.locs, Pt.cells, Pt.slots] at X30 l30 y30 z30 st30 hQ30
  subst l30 y30 z30
  obtain ⟨rfl, N30q, e30q⟩ := hQ30
  have N30 := Fr.app N26 N30q
  have f33_E_q := (f25_E_q.wr W26)
  obtain ⟨cl32, Ar32, q32, S32, M32, H32, G32⟩ := id Vw26
  obtain ⟨T34, h34, X34, e34, W34, st34⟩ := stR X30 hx hZ e30q Ar32 (j := (3 : Int32)) (inb_of S32 ⟨by decide, by decide⟩) rfl (Sto.ofV Ar32 q32 O2 (Ins.of_exa f33_E_q (hwd104 hw))) (g := (mkF m 22 #[.val (.ref t), .val (.ref b2), .val (.int (3 : Int32))] [(.ref q), (.int (3 : Int32)), (.ref b2)])) rfl rfl (hb hby d23_22)
  have N34 := Fr.snoc X34 N30 g_b2
  have Vw34 : Arv Z h34 b2 k2 (.object "java/lang/Object") (5 : Int32) [(.ref q), (.ref q), (.ref q), (.ref q), .null] .null := Arv.set Ar32 q32 S32 M32 H32 G32 rfl W34 3 rfl (Nat.le_of_ble_eq_true rfl)
  have f35_V_t := (f27_V_t.other W34 ne_t_b2)
  obtain ⟨cl36, Ar36, -, S36, M36, -, -⟩ := id f35_V_t
  obtain ⟨cl37, Ar37, q37, S37, M37, H37, G37⟩ := id f35_V_t
  have hin37 : ¬ ((4 : Int32) < 0 ∨ cl37.slots.size ≤ ((4 : Int32)).toNatClampNeg) := inb_of S37 ⟨by decide, by decide⟩
  have hat37 : cl37.slots[((4 : Int32)).toNatClampNeg]? = some (.ref q) := H37.at hin37 rfl
  have sz39 : n0 ≤ h34.size := (Nat.le_trans sz31 (Keep.of_wr W34).1)
  obtain ⟨_, _, ⟨T38, L38, k38, n38⟩, -, X38, ⟨Lc38, hQ38, l38, y38, z38⟩, st38⟩ := Jvm.LawKit.callS X34 hx (y := my18) hown (mvT hZ (hwd150 hw)) (mvT hZ (hwd151 hw)) (mvT hZ (hwd152 hw)) (mvT hZ (hwd153 hw)) (by decide) (backOf (W := 2) (rm24 l Z a0 hw [] q h34 n0 sz39 ) hZ (hwd153 hw) (hwd152 hw) (by decide) (by decide)) (g := (mkF m 19 #[.val (.ref t), .val (.ref b2), .val (.int (4 : Int32))] [(.ref q), (.int (4 : Int32)), (.ref b2)])) rfl (by rw [hml]; rfl) (argsL := [(.ref q)]) (rest := [(.int (4 : Int32)), (.ref b2)]) (lenOf pd_9 rfl) rfl (by show 2 * 0 + _ ≤ _; exact Nat.le_of_eq rfl) (hb hby d23_19) (fun _ _ => ⟨rfl, e34, (by decide : 1 + 0 ≤ _), (by decide : 5 + 0 ≤ _)⟩)
  dsimp only [Pt.U, Pt.locs, Pt.cells, Pt.slots] at X38 l38 y38 z38 st38 hQ38
  subst l38 y38 z38
  obtain ⟨rfl, N38q, e38q⟩ := hQ38
  have N38 := Fr.app N34 N38q
  have f41_E_q := (f33_E_q.wr W34)
  obtain ⟨cl40, Ar40, q40, S40, M40, H40, G40⟩ := id Vw34
  obtain ⟨T42, h42, X42, e42, W42, st42⟩ := stR X38 hx hZ e38q Ar40 (j := (4 : Int32)) (inb_of S40 ⟨by decide, by decide⟩) rfl (Sto.ofV Ar40 q40 O2 (Ins.of_exa f41_E_q (hwd104 hw))) (g := (mkF m 22 #[.val (.ref t), .val (.ref b2), .val (.int (4 : Int32))] [(.ref q), (.int (4 : Int32)), (.ref b2)])) rfl rfl (hb hby d23_22)
  have N42 := Fr.snoc X42 N38 g_b2
  have Vw42 : Arv Z h42 b2 k2 (.object "java/lang/Object") (5 : Int32) [(.ref q), (.ref q), (.ref q), (.ref q), (.ref q)] .null := Arv.set Ar40 q40 S40 M40 H40 G40 rfl W42 4 rfl (Nat.le_of_ble_eq_true rfl)
  have f43_V_t := (f35_V_t.other W42 ne_t_b2)
  obtain ⟨cl44, Ar44, -, S44, M44, -, -⟩ := id f43_V_t
  obtain ⟨T45, h45, X45, e45, E45, A45, D45, -, st45⟩ := newO X42 hx hZ hown (hwd52 hw) (hwd154 hw) (hwd155 hw) e42 (g := (mkF m 29 #[.val (.ref t), .val (.ref b2), .val (.int (5 : Int32))] [])) rfl (hb hby d23_29) (by decide) (by decide)
  obtain ⟨b45, g45⟩ : ∃ zz_, zz_ = h42.size := ⟨_, rfl⟩
  rw [← g45] at A45 D45 st45
  have ne_t_b45 : t ≠ b45 := Nat.ne_of_lt (Nat.lt_of_lt_of_le f43_V_t.lt (Nat.le_of_eq g45.symm))
  have f46_E_q := (f41_E_q.wr W42)
  have ne_q_b45 : q ≠ b45 := Nat.ne_of_lt (Nat.lt_of_lt_of_le f46_E_q.lt (Nat.le_of_eq g45.symm))
  have ne_b2_b45 : b2 ≠ b45 := Nat.ne_of_lt (Nat.lt_of_lt_of_le Vw42.lt (Nat.le_of_eq g45.symm))
  have sz47 : n0 ≤ h42.size := (Nat.le_trans sz39 (Keep.of_wr W42).1)
  have g_b45 : n0 ≤ b45 := Nat.le_trans sz47 (Nat.le_of_eq g45.symm)
  have kp48 : Keep h0 h42 [] := (((((((Keep.refl h0 []).ext E2).wr W10 (Or.inr sz_b2)).wr W18 (Or.inr sz_b2)).wr W26 (Or.inr sz_b2)).wr W34 (Or.inr sz_b2)).wr W42 (Or.inr sz_b2))
  have sz_b45 : h0.size ≤ b45 := Nat.le_trans kp48.1 (Nat.le_of_eq g45.symm)
  have F_elements_b45 : Fld Z h45 b45 "java/util/ImmutableCollections$ListN" "elements" "[Ljava/lang/Object;" .null := D45 (Or.inr (hwd175 hw)) (ty := (.array (.object "java/lang/Object"))) (by decide)
  have F_allowNulls_b45 : Fld Z h45 b45 "java/util/ImmutableCollections$ListN" "allowNulls" "Z" (.int (0 : Int32)) := D45 (Or.inr (hwd177 hw)) (ty := .boolean) (by decide)
  have sz50 : n0 ≤ h45.size := (Nat.le_trans sz47 E45.1)
  obtain ⟨_, _, ⟨T49, L49, k49, n49⟩, -, X49, ⟨Lc49, hQ49, l49, y49, z49⟩, st49⟩ := X45.specialBackNest hx (y := my19) rfl hown (Cond.methodLinkNest_wide hZ (hwd156 hw) :) (mvT hZ (hwd157 hw)) (mvT hZ (hwd159 hw)) (by decide) (backOf (W := 1) (rm25 l Z a0 hw [] b45 b2 h45 n0 sz50 A45 F_elements_b45 F_allowNulls_b45 g_b45) hZ (hwd159 hw) (hwd155 hw) (by decide) (by decide)) (g := (mkF m 35 #[.val (.ref t), .val (.ref b2), .val (.int (5 : Int32))] [(.int (0 : Int32)), (.ref b2), (.ref b45), (.ref b45)])) rfl (by rw [hml]; rfl) (Steps.refl _) (a := b45) (argsL := [(.ref b2), (.int (0 : Int32))]) (rest := [(.ref b45)]) (lenOf pd_12 rfl) rfl (by show 2 * 0 + _ ≤ _; exact Nat.le_of_eq rfl) (hb hby d23_35) (fun _ _ => ⟨rfl, e45, (by decide : 2 + 0 ≤ _), (by decide : 7 + 0 ≤ _)⟩)
  dsimp only [Pt.U, Pt.locs, Pt.cells, Pt.slots] at X49 l49 y49 z49 st49 hQ49
  subst l49 y49 z49
  obtain ⟨rfl, N49q, K49, p49_1, p49_2⟩ := hQ49
  have N49 := Fr.app N42 N49q
  have kp51 : Keep h0 T49.heap [] := ((kp48.ext E45).trans K49 (allS (Or.inr sz_b45) all0))
  have f52_V_b2 := ((Vw42.ext E45).keep K49 (ninS ne_b2_b45 nin0))
  obtain ⟨fs, hr, hrun, hended, hW, hsame⟩ := X49.leave (v := some (.ref b45)) (fun h => by rw [Bd.returns] at h; cases h)
  refine ⟨_, _, pre0 _ ?_, hrun, hended, _, _, rfl, ?_, ⟨_, rfl⟩, hW, hsame.mono (by decide) (by decide)⟩
  · show Steps p.tables e below (s₁.setTop (mkF m 0 #[.val (.ref t), .unset, .unset] [])) _
    refine XS.aloadN X0.here hx rfl (hb hby d23_0) rfl rfl ?_
    refine X0.arraylength hx (by rw [e0]; exact Ar1.1) (State.isArrayOf_alike hZ.alike Ar1.2.1) (g := (mkF m 1 #[.val (.ref t), .unset, .unset] [(.ref t)])) rfl rfl (hb hby d23_1) _ ?_
    rw [len_of S1 M1]
    refine st2 _ ?_
    refine XS.astoreN X2.here hx rfl (hb hby d23_5) rfl rfl (l' := #[.val (.ref t), .val (.ref b2), .unset]) rfl ?_
    refine XS.iconst X2.here hx rfl (hb hby d23_6) ?_
    refine XS.istoreN X2.here hx rfl (hb hby d23_7) rfl (l' := #[.val (.ref t), .val (.ref b2), .val (.int (0 : Int32))]) rfl ?_
    show Steps p.tables e below (T2.setTop (mkF m 8 #[.val (.ref t), .val (.ref b2), .val (.int (0 : Int32))] [])) _
    refine XS.iloadN X2.here hx rfl (hb hby d23_8) rfl ?_
    refine XS.aloadN X2.here hx rfl (hb hby d23_9) rfl rfl ?_
    refine X2.arraylength hx (by rw [e2]; exact Ar4.1) (State.isArrayOf_alike hZ.alike Ar4.2.1) (g := (mkF m 10 #[.val (.ref t), .val (.ref b2), .val (.int (0 : Int32))] [(.ref t), (.int (0 : Int32))])) rfl rfl (hb hby d23_10) _ ?_
    rw [len_of S4 M4]
    refine XS.icmpNo X2.here hx rfl (hb hby d23_11) rfl (tlt (show (0 : Int32) < (5 : Int32) from (by decide))).2.1 ?_
    refine XS.aloadN X2.here hx rfl (hb hby d23_14) rfl rfl ?_
    refine XS.iloadN X2.here hx rfl (hb hby d23_15) rfl ?_
    show Steps p.tables e below (T2.setTop (mkF m 16 #[.val (.ref t), .val (.ref b2), .val (.int (0 : Int32))] [(.int (0 : Int32)), (.ref b2)])) _
    refine XS.aloadN X2.here hx rfl (hb hby d23_16) rfl rfl ?_
    refine XS.iloadN X2.here hx rfl (hb hby d23_17) rfl ?_
    refine X2.aaload hx (j := (0 : Int32)) (v := (.ref q)) (by rw [e2]; exact Ar5.1) (State.isArrayOf_alike hZ.alike Ar5.2.1) rfl Ar5.2.2 hin5 hat5 (g := (mkF m 18 #[.val (.ref t), .val (.ref b2), .val (.int (0 : Int32))] [(.int (0 : Int32)), (.ref t), (.int (0 : Int32)), (.ref b2)])) rfl rfl (hb hby d23_18) _ ?_
    refine st6 _ ?_
    refine st10 _ ?_
    refine XS.iinc X10.here hx rfl (hb hby d23_23) rfl (l' := #[.val (.ref t), .val (.ref b2), .val (.int ((0 : Int32) + (1 : Int32)))]) rfl ?_
    show Steps p.tables e below (T10.setTop (mkF m 26 #[.val (.ref t), .val (.ref b2), .val (.int ((0 : Int32) + (1 : Int32)))] [])) _
    rw [show (((0 : Int32) + (1 : Int32)) : Int32) = (1 : Int32) from by decide]
    refine XS.goto X10.here hx rfl (pc0 := 26) (pc' := 8) rfl (hb hby d23_26) (by decide) (by decide) ?_
    refine XS.iloadN X10.here hx rfl (hb hby d23_8) rfl ?_
    refine XS.aloadN X10.here hx rfl (hb hby d23_9) rfl rfl ?_
    refine X10.arraylength hx (by rw [e10]; exact Ar12.1) (State.isArrayOf_alike hZ.alike Ar12.2.1) (g := (mkF m 10 #[.val (.ref t), .val (.ref b2), .val (.int (1 : Int32))] [(.ref t), (.int (1 : Int32))])) rfl rfl (hb hby d23_10) _ ?_
    rw [len_of S12 M12]
    refine XS.icmpNo X10.here hx rfl (hb hby d23_11) rfl (tlt (show (1 : Int32) < (5 : Int32) from (by decide))).2.1 ?_
    show Steps p.tables e below (T10.setTop (mkF m 14 #[.val (.ref t), .val (.ref b2), .val (.int (1 : Int32))] [])) _
    refine XS.aloadN X10.here hx rfl (hb hby d23_14) rfl rfl ?_
    refine XS.iloadN X10.here hx rfl (hb hby d23_15) rfl ?_
    refine XS.aloadN X10.here hx rfl (hb hby d23_16) rfl rfl ?_
    refine XS.iloadN X10.here hx rfl (hb hby d23_17) rfl ?_
    refine X10.aaload hx (j := (1 : Int32)) (v := (.ref q)) (by rw [e10]; exact Ar13.1) (State.isArrayOf_alike hZ.alike Ar13.2.1) rfl Ar13.2.2 hin13 hat13 (g := (mkF m 18 #[.val (.ref t), .val (.ref b2), .val (.int (1 : Int32))] [(.int (1 : Int32)), (.ref t), (.int (1 : Int32)), (.ref b2)])) rfl rfl (hb hby d23_18) _ ?_
    refine st14 _ ?_
    show Steps p.tables e below (T14.setTop (mkF m 22 #[.val (.ref t), .val (.ref b2), .val (.int (1 : Int32))] [(.ref q), (.int (1 : Int32)), (.ref b2)])) _
    refine st18 _ ?_
    refine XS.iinc X18.here hx rfl (hb hby d23_23) rfl (l' := #[.val (.ref t), .val (.ref b2), .val (.int ((1 : Int32) + (1 : Int32)))]) rfl ?_
    show Steps p.tables e below (T18.setTop (mkF m 26 #[.val (.ref t), .val (.ref b2), .val (.int ((1 : Int32) + (1 : Int32)))] [])) _
    rw [show (((1 : Int32) + (1 : Int32)) : Int32) = (2 : Int32) from by decide]
    refine XS.goto X18.here hx rfl (pc0 := 26) (pc' := 8) rfl (hb hby d23_26) (by decide) (by decide) ?_
    refine XS.iloadN X18.here hx rfl (hb hby d23_8) rfl ?_
    refine XS.aloadN X18.here hx rfl (hb hby d23_9) rfl rfl ?_
    refine X18.arraylength hx (by rw [e18]; exact Ar20.1) (State.isArrayOf_alike hZ.alike Ar20.2.1) (g := (mkF m 10 #[.val (.ref t), .val (.ref b2), .val (.int (2 : Int32))] [(.ref t), (.int (2 : Int32))])) rfl rfl (hb hby d23_10) _ ?_
    rw [len_of S20 M20]
    refine XS.icmpNo X18.here hx rfl (hb hby d23_11) rfl (tlt (show (2 : Int32) < (5 : Int32) from (by decide))).2.1 ?_
    show Steps p.tables e below (T18.setTop (mkF m 14 #[.val (.ref t), .val (.ref b2), .val (.int (2 : Int32))] [])) _
    refine XS.aloadN X18.here hx rfl (hb hby d23_14) rfl rfl ?_
    refine XS.iloadN X18.here hx rfl (hb hby d23_15) rfl ?_
    refine XS.aloadN X18.here hx rfl (hb hby d23_16) rfl rfl ?_
    refine XS.iloadN X18.here hx rfl (hb hby d23_17) rfl ?_
    refine X18.aaload hx (j := (2 : Int32)) (v := (.ref q)) (by rw [e18]; exact Ar21.1) (State.isArrayOf_alike hZ.alike Ar21.2.1) rfl Ar21.2.2 hin21 hat21 (g := (mkF m 18 #[.val (.ref t), .val (.ref b2), .val (.int (2 : Int32))] [(.int (2 : Int32)), (.ref t), (.int (2 : Int32)), (.ref b2)])) rfl rfl (hb hby d23_18) _ ?_
    refine st22 _ ?_
    show Steps p.tables e below (T22.setTop (mkF m 22 #[.val (.ref t), .val (.ref b2), .val (.int (2 : Int32))] [(.ref q), (.int (2 : Int32)), (.ref b2)])) _
    refine st26 _ ?_
    refine XS.iinc X26.here hx rfl (hb hby d23_23) rfl (l' := #[.val (.ref t), .val (.ref b2), .val (.int ((2 : Int32) + (1 : Int32)))]) rfl ?_
    show Steps p.tables e below (T26.setTop (mkF m 26 #[.val (.ref t), .val (.ref b2), .val (.int ((2 : Int32) + (1 : Int32)))] [])) _
    rw [show (((2 : Int32) + (1 : Int32)) : Int32) = (3 : Int32) from by decide]
    refine XS.goto X26.here hx rfl (pc0 := 26) (pc' := 8) rfl (hb hby d23_26) (by decide) (by decide) ?_
    refine XS.iloadN X26.here hx rfl (hb hby d23_8) rfl ?_
    refine XS.aloadN X26.here hx rfl (hb hby d23_9) rfl rfl ?_
    refine X26.arraylength hx (by rw [e26]; exact Ar28.1) (State.isArrayOf_alike hZ.alike Ar28.2.1) (g := (mkF m 10 #[.val (.ref t), .val (.ref b2), .val (.int (3 : Int32))] [(.ref t), (.int (3 : Int32))])) rfl rfl (hb hby d23_10) _ ?_
    rw [len_of S28 M28]
    refine XS.icmpNo X26.here hx rfl (hb hby d23_11) rfl (tlt (show (3 : Int32) < (5 : Int32) from (by decide))).2.1 ?_
    show Steps p.tables e below (T26.setTop (mkF m 14 #[.val (.ref t), .val (.ref b2), .val (.int (3 : Int32))] [])) _
    refine XS.aloadN X26.here hx rfl (hb hby d23_14) rfl rfl ?_
    refine XS.iloadN X26.here hx rfl (hb hby d23_15) rfl ?_
    refine XS.aloadN X26.here hx rfl (hb hby d23_16) rfl rfl ?_
    refine XS.iloadN X26.here hx rfl (hb hby d23_17) rfl ?_
    refine X26.aaload hx (j := (3 : Int32)) (v := (.ref q)) (by rw [e26]; exact Ar29.1) (State.isArrayOf_alike hZ.alike Ar29.2.1) rfl Ar29.2.2 hin29 hat29 (g := (mkF m 18 #[.val (.ref t), .val (.ref b2), .val (.int (3 : Int32))] [(.int (3 : Int32)), (.ref t), (.int (3 : Int32)), (.ref b2)])) rfl rfl (hb hby d23_18) _ ?_
    refine st30 _ ?_
    show Steps p.tables e below (T30.setTop (mkF m 22 #[.val (.ref t), .val (.ref b2), .val (.int (3 : Int32))] [(.ref q), (.int (3 : Int32)), (.ref b2)])) _
    refine st34 _ ?_
    refine XS.iinc X34.here hx rfl (hb hby d23_23) rfl (l' := #[.val (.ref t), .val (.ref b2), .val (.int ((3 : Int32) + (1 : Int32)))]) rfl ?_
    show Steps p.tables e below (T34.setTop (mkF m 26 #[.val (.ref t), .val (.ref b2), .val (.int ((3 : Int32) + (1 : Int32)))] [])) _
    rw [show (((3 : Int32) + (1 : Int32)) : Int32) = (4 : Int32) from by decide]
    refine XS.goto X34.here hx rfl (pc0 := 26) (pc' := 8) rfl (hb hby d23_26) (by decide) (by decide) ?_
    refine XS.iloadN X34.here hx rfl (hb hby d23_8) rfl ?_
    refine XS.aloadN X34.here hx rfl (hb hby d23_9) rfl rfl ?_
    refine X34.arraylength hx (by rw [e34]; exact Ar36.1) (State.isArrayOf_alike hZ.alike Ar36.2.1) (g := (mkF m 10 #[.val (.ref t), .val (.ref b2), .val (.int (4 : Int32))] [(.ref t), (.int (4 : Int32))])) rfl rfl (hb hby d23_10) _ ?_
    rw [len_of S36 M36]
    refine XS.icmpNo X34.here hx rfl (hb hby d23_11) rfl (tlt (show (4 : Int32) < (5 : Int32) from (by decide))).2.1 ?_
    show Steps p.tables e below (T34.setTop (mkF m 14 #[.val (.ref t), .val (.ref b2), .val (.int (4 : Int32))] [])) _
    refine XS.aloadN X34.here hx rfl (hb hby d23_14) rfl rfl ?_
    refine XS.iloadN X34.here hx rfl (hb hby d23_15) rfl ?_
    refine XS.aloadN X34.here hx rfl (hb hby d23_16) rfl rfl ?_
    refine XS.iloadN X34.here hx rfl (hb hby d23_17) rfl ?_
    refine X34.aaload hx (j := (4 : Int32)) (v := (.ref q)) (by rw [e34]; exact Ar37.1) (State.isArrayOf_alike hZ.alike Ar37.2.1) rfl Ar37.2.2 hin37 hat37 (g := (mkF m 18 #[.val (.ref t), .val (.ref b2), .val (.int (4 : Int32))] [(.int (4 : Int32)), (.ref t), (.int (4 : Int32)), (.ref b2)])) rfl rfl (hb hby d23_18) _ ?_
    refine st38 _ ?_
    show Steps p.tables e below (T38.setTop (mkF m 22 #[.val (.ref t), .val (.ref b2), .val (.int (4 : Int32))] [(.ref q), (.int (4 : Int32)), (.ref b2)])) _
    refine st42 _ ?_
    refine XS.iinc X42.here hx rfl (hb hby d23_23) rfl (l' := #[.val (.ref t), .val (.ref b2), .val (.int ((4 : Int32) + (1 : Int32)))]) rfl ?_
    show Steps p.tables e below (T42.setTop (mkF m 26 #[.val (.ref t), .val (.ref b2), .val (.int ((4 : Int32) + (1 : Int32)))] [])) _
    rw [show (((4 : Int32) + (1 : Int32)) : Int32) = (5 : Int32) from by decide]
    refine XS.goto X42.here hx rfl (pc0 := 26) (pc' := 8) rfl (hb hby d23_26) (by decide) (by decide) ?_
    refine XS.iloadN X42.here hx rfl (hb hby d23_8) rfl ?_
    refine XS.aloadN X42.here hx rfl (hb hby d23_9) rfl rfl ?_
    refine X42.arraylength hx (by rw [e42]; exact Ar44.1) (State.isArrayOf_alike hZ.alike Ar44.2.1) (g := (mkF m 10 #[.val (.ref t), .val (.ref b2), .val (.int (5 : Int32))] [(.ref t), (.int (5 : Int32))])) rfl rfl (hb hby d23_10) _ ?_
    rw [len_of S44 M44]
    refine XS.icmpYes X42.here hx rfl (pc0 := 11) (pc' := 29) rfl (hb hby d23_11) rfl (flt (show ¬ ((5 : Int32) < (5 : Int32)) from (by decide))).2.1 (by decide) (by decide) ?_
    show Steps p.tables e below (T42.setTop (mkF m 29 #[.val (.ref t), .val (.ref b2), .val (.int (5 : Int32))] [])) _
    refine st45 _ ?_
    refine XS.dup X45.here hx rfl (hb hby d23_32) rfl rfl ?_
    refine XS.aloadN X45.here hx rfl (hb hby d23_33) rfl rfl ?_
    refine XS.iconst X45.here hx rfl (hb hby d23_34) ?_
    refine st49.trans ?_
    jvm_step X49.here [X49.here.top, hx, (hb hby d23_38), X49.method', Bd.returns, Value.isRef, FieldType.isReference]
    first | (intro acts; rw [hr _ acts rfl rfl rfl]) | rw [hr _ _ rfl rfl rfl]
    exact Steps.refl _
  · show Qlf_5 Z t q kt h0 n0 _ T49.heap _
    exact ⟨b45, b2, k2, rfl, N49, kp51, p49_1, p49_2, f52_V_b2, sz_b45, sz_b2⟩
def Qofa_5 (Z : State) (t : Addr) (q : Addr) (em : Addr) (kt : ClassId) (h0 : Heap) (n0 : Nat) (v : Option Value) (h : Heap) (L : List Loc) : Prop := ∃ lst : Addr, v = some (.ref lst) ∧ Fr n0 L ∧ Keep h0 h [] ∧ Lg Z h h0.size (5 : Int32) q em lst
set_option maxRecDepth 65536 in
set_option maxHeartbeats 40000000 in
abbrev Rm_ofa_5 : Room := { frames := 6, cells := 2, slots := 8, locals := 77 }
theorem ofa_5 (l : Launch) (Z : State) (a0 : Array Value) (hw : ∀ d ∈ tables_1, d.before a0 Z = true) (ws : List Jvm.Cond) (t : Addr) (q : Addr) (em : Addr) (kt : ClassId) (h0 : Heap) (n0 : Nat) (Z0 : n0 ≤ h0.size) (V_t : Arv Z h0 t kt (.object "java/lang/Object") (5 : Int32) [(.ref q), (.ref q), (.ref q), (.ref q), (.ref q)] .null) (E_q : Exa Z h0 q "com/example/gleipnir/gleipnir/service/Counterplay$Position") (O_M : Sta Z Z.heap "java/util/ImmutableCollections" "EMPTY" "Ljava/lang/Object;" (.ref em)) (X00 : Old Z n0 h0) :
    MetFree l my26 (head1 (Jvm.Cond.code my26 jdk_40_method_47_code 2 (some (.object "java/util/List")) :: ws) Rm_ofa_5) (fun aa_ U => aa_ = #[(.ref t)] ∧ Z.Warmed39 U.vm ∧ U.heap = h0) (fun _ _ _ _ _ => True) (fun _ U oo_ U' => ∃ v L, oo_ = .returned v ∧ Qofa_5 Z t q em kt h0 n0 v U'.heap L ∧ FrameEnd U oo_ U' L Rm_ofa_5.cells Rm_ofa_5.slots) := by
  refine MetFree.of_bodySF (plainFor_of_name pn_6) hisR ?_
  intro p e s m args below meth c s₁ Bd hml0 hP hK
  obtain ⟨rfl, hZ, hh⟩ := hP
  have hx := Bd.exec
  have hby := Bd.bytes
  have hml : c.maxLocals = 2 := hml0
  have hown : s.vm.findClass "java/util/List" = some m.cls := findClass_of_methodNamed Bd.named
  have hnm := (name_of_methodNamed Bd.named Bd.method).1
  have X0 : Stand p l e Rm_ofa_5 s m #[(.ref t)] below meth c s₁ [] 0 0 := Stand.of_body Bd
  have e0 : s₁.heap = h0 := by rw [← hh, Bd.state]; rfl
  have N0 := Fr.nil n0
  have pre0 : ∀ tt_, Steps p.tables e below (s₁.setTop (mkF m 0 #[.val (.ref t), .unset] [])) tt_ → Steps p.tables e below (s₁.setTop (entryFrame m #[(.ref t)] 2)) tt_ := fun tt_ kk_ => castTop (ef_22 m t) kk_
  obtain ⟨cl1, Ar1, -, S1, M1, -, -⟩ := id V_t
  obtain ⟨_, _, ⟨T2, L2, k2, n2⟩, -, X2, ⟨Lc2, hQ2, l2, y2, z2⟩, st2⟩ := Jvm.LawKit.callS X0 hx (y := my27) hown (mvT hZ (hwd146 hw)) (mvT hZ (hwd147 hw)) (mvT hZ (hwd45 hw)) (mvT hZ (hwd148 hw)) (by decide) (backOf (W := 0) (lf_5 l Z a0 hw [] t q kt h0 n0 Z0 V_t E_q) hZ (hwd148 hw) (hwd45 hw) (by decide) (by decide)) (g := (mkF m 60 #[.val (.ref t), .unset] [(.ref t)])) rfl (by rw [hml]; rfl) (argsL := [(.ref t)]) (rest := []) (lenOf pd_13 rfl) rfl (by show 2 * 0 + _ ≤ _; exact Nat.le_of_eq rfl) (hb hby d22_60) (fun _ _ => ⟨rfl, e0, (by decide : 0 + 2 ≤ _), (by decide : 0 + 7 ≤ _)⟩)
  dsimp only [Pt.U, Pt.locs, Pt.cells, Pt.slots] at X2 l2 y2 z2 st2 hQ2
  subst l2 y2 z2
  obtain ⟨lst_e2, tt_e2, ktt_e2, rfl, N2q, K2, p2_1, p2_2, p2_3, sz_lst_2, sz_tt_2⟩ := hQ2
  have N2 := Fr.app N0 N2q
  have kp3 : Keep h0 T2.heap [] := ((Keep.refl h0 []).trans K2 all0)
  obtain ⟨fs, hr, hrun, hended, hW, hsame⟩ := X2.leave (v := some (.ref lst_e2)) (fun h => by rw [Bd.returns] at h; cases h)
  refine ⟨_, _, pre0 _ ?_, hrun, hended, _, _, rfl, ?_, ⟨_, rfl⟩, hW, hsame.mono (by decide) (by decide)⟩
  · show Steps p.tables e below (s₁.setTop (mkF m 0 #[.val (.ref t), .unset] [])) _
    refine XS.aloadN X0.here hx rfl (hb hby d22_0) rfl rfl ?_
    refine X0.arraylength hx (by rw [e0]; exact Ar1.1) (State.isArrayOf_alike hZ.alike Ar1.2.1) (g := (mkF m 1 #[.val (.ref t), .unset] [(.ref t)])) rfl rfl (hb hby d22_1) _ ?_
    rw [len_of S1 M1]
    refine XS.tswOut X0.here hx rfl (pc0 := 2) (pc' := 59) rfl (hb hby d22_2) rfl (by decide) (by decide) (by decide) ?_
    refine XS.aloadN X0.here hx rfl (hb hby d22_59) rfl rfl ?_
    refine st2 _ ?_
    jvm_step X2.here [X2.here.top, hx, (hb hby d22_63), X2.method', Bd.returns, Value.isRef, FieldType.isReference]
    first | (intro acts; rw [hr _ acts rfl rfl rfl]) | rw [hr _ _ rfl rfl rfl]
    exact Steps.refl _
  · show Qofa_5 Z t q em kt h0 n0 _ T2.heap _
    exact ⟨lst_e2, rfl, N2, kp3, ⟨(Nat.le_trans (Keep.refl h0 []).1 sz_lst_2), Or.inr (Or.inr ⟨tt_e2, _, _, (Nat.le_trans (Keep.refl h0 []).1 sz_tt_2), p2_1, p2_2, p2_3⟩)⟩⟩
def Qmin_6 (Z : State)  (h0 : Heap) (n0 : Nat) (v : Option Value) (h : Heap) (L : List Loc) : Prop := v = some (.int (6 : Int32)) ∧ Fr n0 L ∧ h = h0
set_option maxRecDepth 65536 in
set_option maxHeartbeats 40000000 in
abbrev Rm_min_6 : Room := { frames := 0, cells := 0, slots := 0, locals := 0 }
theorem min_6 (l : Launch) (Z : State) (a0 : Array Value) (hw : ∀ d ∈ tables_1, d.before a0 Z = true) (ws : List Jvm.Cond)  (h0 : Heap) (n0 : Nat) (Z0 : n0 ≤ h0.size) :
    MetFree l my24 (head1 (Jvm.Cond.code my24 jdk_29_method_69_code 2 (some .int) :: ws) Rm_min_6) (fun aa_ U => aa_ = #[(.int (10 : Int32)), (.int (6 : Int32))] ∧ Z.Warmed39 U.vm ∧ U.heap = h0) (fun _ _ _ _ _ => True) (fun _ U oo_ U' => ∃ v L, oo_ = .returned v ∧ Qmin_6 Z  h0 n0 v U'.heap L ∧ FrameEnd U oo_ U' L Rm_min_6.cells Rm_min_6.slots) := by
  refine MetFree.of_bodySF (Jvm.Free.JP.mathPlain rfl (by decide +kernel)) hisR ?_
  intro p e s m args below meth c s₁ Bd hml0 hP hK
  obtain ⟨rfl, hZ, hh⟩ := hP
  have hx := Bd.exec
  have hby := Bd.bytes
  have hml : c.maxLocals = 2 := hml0
  have hown : s.vm.findClass "java/lang/Math" = some m.cls := findClass_of_methodNamed Bd.named
  have hnm := (name_of_methodNamed Bd.named Bd.method).1
  have X0 : Stand p l e Rm_min_6 s m #[(.int (10 : Int32)), (.int (6 : Int32))] below meth c s₁ [] 0 0 := Stand.of_body Bd
  have e0 : s₁.heap = h0 := by rw [← hh, Bd.state]; rfl
  have N0 := Fr.nil n0
  have pre0 : ∀ tt_, Steps p.tables e below (s₁.setTop (mkF m 0 #[.val (.int (10 : Int32)), .val (.int (6 : Int32))] [])) tt_ → Steps p.tables e below (s₁.setTop (entryFrame m #[(.int (10 : Int32)), (.int (6 : Int32))] 2)) tt_ := fun tt_ kk_ => castTop (ef_21 m (10 : Int32) (6 : Int32)) kk_
  obtain ⟨fs, hr, hrun, hended, hW, hsame⟩ := X0.leave (v := some (.int (6 : Int32))) (fun h => by rw [Bd.returns] at h; cases h)
  refine ⟨_, _, pre0 _ ?_, hrun, hended, _, _, rfl, ?_, ⟨_, rfl⟩, hW, hsame.mono (by decide) (by decide)⟩
  · show Steps p.tables e below (s₁.setTop (mkF m 0 #[.val (.int (10 : Int32)), .val (.int (6 : Int32))] [])) _
    refine XS.iloadN X0.here hx rfl (hb hby d21_0) rfl ?_
    refine XS.iloadN X0.here hx rfl (hb hby d21_1) rfl ?_
    refine XS.icmpYes X0.here hx rfl (pc0 := 2) (pc' := 9) rfl (hb hby d21_2) rfl (tlt (show (6 : Int32) < (10 : Int32) from (by decide))).2.2.1 (by decide) (by decide) ?_
    refine XS.iloadN X0.here hx rfl (hb hby d21_9) rfl ?_
    exact retI X0 hx Bd.returns (hb hby d21_10) hr
  · show Qmin_6 Z  h0 n0 _ s₁.heap _
    rw [e0]
    exact ⟨rfl, N0, rfl⟩
def Qc3_6 (Z : State) (b : Addr) (q : Addr) (mr : Addr) (kb : ClassId) (h0 : Heap) (n0 : Nat) (v : Option Value) (h : Heap) (L : List Loc) : Prop := ∃ t : Addr, ∃ kt : ClassId, v = some (.ref t) ∧ Fr n0 L ∧ Keep h0 h [] ∧ Arv Z h t kt (.object "java/lang/Object") (6 : Int32) [(.ref q), (.ref q), (.ref q), (.ref q), (.ref q), (.ref q)] .null ∧ Exa Z h t "[Ljava/lang/Object;" ∧ Ovr Z kt "java/lang/Object" ∧ n0 ≤ t ∧ h0.size ≤ t
set_option maxRecDepth 65536 in
set_option maxHeartbeats 40000000 in
abbrev Rm_c3_6 : Room := { frames := 1, cells := 1, slots := 6, locals := 18 }
theorem c3_6 (l : Launch) (Z : State) (a0 : Array Value) (hw : ∀ d ∈ tables_1, d.before a0 Z = true) (ws : List Jvm.Cond) (b : Addr) (q : Addr) (mr : Addr) (kb : ClassId) (h0 : Heap) (n0 : Nat) (Z0 : n0 ≤ h0.size) (V_b : Arv Z h0 b kb (.object "java/lang/Object") (10 : Int32) [(.ref q), (.ref q), (.ref q), (.ref q), (.ref q), (.ref q), .null, .null, .null, .null] .null) (E_q : Exa Z h0 q "com/example/gleipnir/gleipnir/service/Counterplay$Position") (Mr : Mir Z "[Ljava/lang/Object;" mr) :
    MetFree l my25 (head1 (Jvm.Cond.code my25 jdk_65_method_120_code 4 (some (.array (.object "java/lang/Object"))) :: ws) Rm_c3_6) (fun aa_ U => aa_ = #[(.ref b), (.int (6 : Int32)), (.ref mr)] ∧ Z.Warmed39 U.vm ∧ U.heap = h0) (fun _ _ _ _ _ => True) (fun _ U oo_ U' => ∃ v L, oo_ = .returned v ∧ Qc3_6 Z b q mr kb h0 n0 v U'.heap L ∧ FrameEnd U oo_ U' L Rm_c3_6.cells Rm_c3_6.slots) := by
  refine MetFree.of_bodySF (plainFor_of_name pn_15) hisR ?_
  intro p e s m args below meth c s₁ Bd hml0 hP hK
  obtain ⟨rfl, hZ, hh⟩ := hP
  have hx := Bd.exec
  have hby := Bd.bytes
  have hml : c.maxLocals = 4 := hml0
  have hown : s.vm.findClass "java/util/Arrays" = some m.cls := findClass_of_methodNamed Bd.named
  have hnm := (name_of_methodNamed Bd.named Bd.method).1
  have X0 : Stand p l e Rm_c3_6 s m #[(.ref b), (.int (6 : Int32)), (.ref mr)] below meth c s₁ [] 0 0 := Stand.of_body Bd
  have e0 : s₁.heap = h0 := by rw [← hh, Bd.state]; rfl
  have N0 := Fr.nil n0
  have pre0 : ∀ tt_, Steps p.tables e below (s₁.setTop (mkF m 0 #[.val (.ref b), .val (.int (6 : Int32)), .val (.ref mr), .unset] [])) tt_ → Steps p.tables e below (s₁.setTop (entryFrame m #[(.ref b), (.int (6 : Int32)), (.ref mr)] 4)) tt_ := fun tt_ kk_ => castTop (ef_20 m b (6 : Int32) mr) kk_
  obtain ⟨vm1, X1, st1⟩ := X0.ldcMirror hx hown (mvT hZ (hwd134 hw)) (own_hev hZ Mr) (g := (mkF m 1 #[.val (.ref b), .val (.int (6 : Int32)), .val (.ref mr), .unset] [(.ref mr)])) rfl (hb hby d20_1)
  have e1 : (s₁.setVm vm1).heap = h0 := e0
  obtain ⟨T2, h2, k2, X2, e2, E2, A2, B2, O2, st2⟩ := newRE X1 hx hZ hown (hwd135 hw) (hwd103 hw) e1 (g := (mkF m 7 #[.val (.ref b), .val (.int (6 : Int32)), .val (.ref mr), .unset] [(.int (6 : Int32))])) rfl (hb hby d20_7) rfl (by decide) (cap := 6) (by decide) (by decide) (by decide) (by decide) (ad := "[Ljava/lang/Object;") (by decide)
  obtain ⟨b2, g2⟩ : ∃ zz_, zz_ = h0.size := ⟨_, rfl⟩
  rw [← g2] at A2 B2 st2
  have ne_b_b2 : b ≠ b2 := Nat.ne_of_lt (Nat.lt_of_lt_of_le V_b.lt (Nat.le_of_eq g2.symm))
  have ne_q_b2 : q ≠ b2 := Nat.ne_of_lt (Nat.lt_of_lt_of_le E_q.lt (Nat.le_of_eq g2.symm))
  have g_b2 : n0 ≤ b2 := Nat.le_trans Z0 (Nat.le_of_eq g2.symm)
  have sz_b2 : h0.size ≤ b2 := Nat.le_trans (Keep.refl h0 []).1 (Nat.le_of_eq g2.symm)
  have V_b2 : Arv Z h2 b2 k2 (.object "java/lang/Object") (6 : Int32) [.null, .null, .null, .null, .null, .null] .null := (Arv.new A2 (by decide)).pad (pad_rep [] .null 6)
  have f3_V_b := (V_b.ext E2)
  obtain ⟨cl4, Ar4, -, S4, M4, -, -⟩ := id f3_V_b
  have sz6 : n0 ≤ h2.size := (Nat.le_trans Z0 E2.1)
  obtain ⟨_, _, ⟨T5, L5, k5, n5⟩, -, X5, ⟨Lc5, hQ5, l5, y5, z5⟩, st5⟩ := Jvm.LawKit.callS X2 hx (y := my24) hown (mvT hZ (hwd136 hw)) (mvT hZ (hwd137 hw)) (mvT hZ (hwd100 hw)) (mvT hZ (hwd138 hw)) (by decide) (backOf (W := 4) (min_6 l Z a0 hw []  h2 n0 sz6 ) hZ (hwd138 hw) (hwd100 hw) (by decide) (by decide)) (g := (mkF m 32 #[.val (.ref b), .val (.int (6 : Int32)), .val (.ref mr), .val (.ref b2)] [(.int (6 : Int32)), (.int (10 : Int32)), (.int (0 : Int32)), (.ref b2), (.int (0 : Int32)), (.ref b)])) rfl (by rw [hml]; rfl) (argsL := [(.int (10 : Int32)), (.int (6 : Int32))]) (rest := [(.int (0 : Int32)), (.ref b2), (.int (0 : Int32)), (.ref b)]) (lenOf pd_4 rfl) rfl (by show 2 * 0 + _ ≤ _; exact Nat.le_of_eq rfl) (hb hby d20_32) (fun _ _ => ⟨rfl, e2, (by decide : 1 + 0 ≤ _), (by decide : 6 + 0 ≤ _)⟩)
  dsimp only [Pt.U, Pt.locs, Pt.cells, Pt.slots] at X5 l5 y5 z5 st5 hQ5
  subst l5 y5 z5
  obtain ⟨rfl, N5q, e5q⟩ := hQ5
  have N5 := Fr.app N0 N5q
  obtain ⟨cl7, Ar7, q7, -, -, -, -⟩ := id V_b2
  have f9_E_q := (E_q.ext E2)
  obtain ⟨T8, h8, L8, X8, e8, N8, K8, V8, st8⟩ := cpA X5 hx hZ hown (hwd139 hw) (hwd142 hw) (hwd140 hw) (hwd141 hw) e5q f3_V_b V_b2 (us := [(.ref q), (.ref q), (.ref q), (.ref q), (.ref q), (.ref q)]) (Or.inr ⟨rfl, rfl, ⟨Sto.ofV Ar7 q7 O2 (Ins.of_exa f9_E_q (hwd104 hw)), Sto.ofV Ar7 q7 O2 (Ins.of_exa f9_E_q (hwd104 hw)), Sto.ofV Ar7 q7 O2 (Ins.of_exa f9_E_q (hwd104 hw)), Sto.ofV Ar7 q7 O2 (Ins.of_exa f9_E_q (hwd104 hw)), Sto.ofV Ar7 q7 O2 (Ins.of_exa f9_E_q (hwd104 hw)), Sto.ofV Ar7 q7 O2 (Ins.of_exa f9_E_q (hwd104 hw)), trivial⟩⟩) (by decide) (by decide) (by decide) (by decide) (by decide) (by rfl) (Nat.le_of_ble_eq_true rfl) N5 g_b2 (g := (mkF m 35 #[.val (.ref b), .val (.int (6 : Int32)), .val (.ref mr), .val (.ref b2)] [(.int (6 : Int32)), (.int (0 : Int32)), (.ref b2), (.int (0 : Int32)), (.ref b)])) rfl (by rw [hml]; rfl) rfl (hb hby d20_35) (by decide) (W := 0) (by show 2 * 0 + _ ≤ _; exact Nat.le_of_eq rfl) (by decide)
  have Vc8 : Arv Z h8 b2 k2 (.object "java/lang/Object") (6 : Int32) [(.ref q), (.ref q), (.ref q), (.ref q), (.ref q), (.ref q)] .null := V8
  have kp10 : Keep h0 h8 [] := (((Keep.refl h0 []).ext E2).trans K8 (allS (Or.inr sz_b2) all0))
  have f11_E_b2 := (B2.keep K8)
  obtain ⟨fs, hr, hrun, hended, hW, hsame⟩ := X8.leave (v := some (.ref b2)) (fun h => by rw [Bd.returns] at h; cases h)
  refine ⟨_, _, pre0 _ ?_, hrun, hended, _, _, rfl, ?_, ⟨_, rfl⟩, hW, hsame.mono (by decide) (by decide)⟩
  · show Steps p.tables e below (s₁.setTop (mkF m 0 #[.val (.ref b), .val (.int (6 : Int32)), .val (.ref mr), .unset] [])) _
    refine XS.aloadN X0.here hx rfl (hb hby d20_0) rfl rfl ?_
    refine st1 _ ?_
    refine Jvm.RoadKit.acmp (g := (mkF m 3 #[.val (.ref b), .val (.int (6 : Int32)), .val (.ref mr), .unset] [(.ref mr), (.ref mr)])) X1 hx rfl rfl rfl (pc0 := 3) (pc' := 6) (same := true) rfl (hb hby d20_3) rfl (decide_eq_true rfl) (by decide) (by decide) ?_
    refine XS.iloadN X1.here hx rfl (hb hby d20_6) rfl ?_
    refine st2 _ ?_
    refine XS.goto X2.here hx rfl (pc0 := 10) (pc' := 24) rfl (hb hby d20_10) (by decide) (by decide) ?_
    show Steps p.tables e below (T2.setTop (mkF m 24 #[.val (.ref b), .val (.int (6 : Int32)), .val (.ref mr), .unset] [(.ref b2)])) _
    refine XS.astoreN X2.here hx rfl (hb hby d20_24) rfl rfl (l' := #[.val (.ref b), .val (.int (6 : Int32)), .val (.ref mr), .val (.ref b2)]) rfl ?_
    refine XS.aloadN X2.here hx rfl (hb hby d20_25) rfl rfl ?_
    refine XS.iconst X2.here hx rfl (hb hby d20_26) ?_
    refine XS.aloadN X2.here hx rfl (hb hby d20_27) rfl rfl ?_
    refine XS.iconst X2.here hx rfl (hb hby d20_28) ?_
    refine XS.aloadN X2.here hx rfl (hb hby d20_29) rfl rfl ?_
    show Steps p.tables e below (T2.setTop (mkF m 30 #[.val (.ref b), .val (.int (6 : Int32)), .val (.ref mr), .val (.ref b2)] [(.ref b), (.int (0 : Int32)), (.ref b2), (.int (0 : Int32)), (.ref b)])) _
    refine X2.arraylength hx (by rw [e2]; exact Ar4.1) (State.isArrayOf_alike hZ.alike Ar4.2.1) (g := (mkF m 30 #[.val (.ref b), .val (.int (6 : Int32)), .val (.ref mr), .val (.ref b2)] [(.ref b), (.int (0 : Int32)), (.ref b2), (.int (0 : Int32)), (.ref b)])) rfl rfl (hb hby d20_30) _ ?_
    rw [len_of S4 M4]
    refine XS.iloadN X2.here hx rfl (hb hby d20_31) rfl ?_
    refine st5 _ ?_
    refine st8 _ ?_
    refine XS.aloadN X8.here hx rfl (hb hby d20_38) rfl rfl ?_
    jvm_step X8.here [X8.here.top, hx, (hb hby d20_39), X8.method', Bd.returns, Value.isRef, FieldType.isReference]
    first | (intro acts; rw [hr _ acts rfl rfl rfl]) | rw [hr _ _ rfl rfl rfl]
    exact Steps.refl _
  · show Qc3_6 Z b q mr kb h0 n0 _ T8.heap _
    rw [e8]
    exact ⟨b2, k2, rfl, N8, kp10, Vc8, f11_E_b2, O2, g_b2, sz_b2⟩
def Qlf_6 (Z : State) (t : Addr) (q : Addr) (kt : ClassId) (h0 : Heap) (n0 : Nat) (v : Option Value) (h : Heap) (L : List Loc) : Prop := ∃ lst : Addr, ∃ tt : Addr, ∃ ktt : ClassId, v = some (.ref lst) ∧ Fr n0 L ∧ Keep h0 h [] ∧ Exa Z h lst "java/util/ImmutableCollections$ListN" ∧ Fld Z h lst "java/util/ImmutableCollections$ListN" "elements" "[Ljava/lang/Object;" (.ref tt) ∧ Arv Z h tt ktt (.object "java/lang/Object") (6 : Int32) [(.ref q), (.ref q), (.ref q), (.ref q), (.ref q), (.ref q)] .null ∧ h0.size ≤ lst ∧ h0.size ≤ tt
set_option maxRecDepth 65536 in
set_option maxHeartbeats 40000000 in
abbrev Rm_lf_6 : Room := { frames := 5, cells := 2, slots := 8, locals := 63 }
theorem lf_6 (l : Launch) (Z : State) (a0 : Array Value) (hw : ∀ d ∈ tables_1, d.before a0 Z = true) (ws : List Jvm.Cond) (t : Addr) (q : Addr) (kt : ClassId) (h0 : Heap) (n0 : Nat) (Z0 : n0 ≤ h0.size) (V_t : Arv Z h0 t kt (.object "java/lang/Object") (6 : Int32) [(.ref q), (.ref q), (.ref q), (.ref q), (.ref q), (.ref q)] .null) (E_q : Exa Z h0 q "com/example/gleipnir/gleipnir/service/Counterplay$Position") :
    MetFree l my27 (head1 (Jvm.Cond.code my27 jdk_56_method_4_code 3 (some (.object "java/util/List")) :: ws) Rm_lf_6) (fun aa_ U => aa_ = #[(.ref t)] ∧ Z.Warmed39 U.vm ∧ U.heap = h0) (fun _ _ _ _ _ => True) (fun _ U oo_ U' => ∃ v L, oo_ = .returned v ∧ Qlf_6 Z t q kt h0 n0 v U'.heap L ∧ FrameEnd U oo_ U' L Rm_lf_6.cells Rm_lf_6.slots) := by
  refine MetFree.of_bodySF (plainFor_of_name pn_7) hisR ?_
  intro p e s m args below meth c s₁ Bd hml0 hP hK
  obtain ⟨rfl, hZ, hh⟩ := hP
  have hx := Bd.exec
  have hby := Bd.bytes
  have hml : c.maxLocals = 3 := hml0
  have hown : s.vm.findClass "java/util/ImmutableCollections" = some m.cls := findClass_of_methodNamed Bd.named
  have hnm := (name_of_methodNamed Bd.named Bd.method).1
  have X0 : Stand p l e Rm_lf_6 s m #[(.ref t)] below meth c s₁ [] 0 0 := Stand.of_body Bd
  have e0 : s₁.heap = h0 := by rw [← hh, Bd.state]; rfl
  have N0 := Fr.nil n0
  have pre0 : ∀ tt_, Steps p.tables e below (s₁.setTop (mkF m 0 #[.val (.ref t), .unset, .unset] [])) tt_ → Steps p.tables e below (s₁.setTop (entryFrame m #[(.ref t)] 3)) tt_ := fun tt_ kk_ => castTop (ef_23 m t) kk_
  obtain ⟨cl1, Ar1, -, S1, M1, -, -⟩ := id V_t
  obtain ⟨T2, h2, k2, X2, e2, E2, A2, B2, O2, st2⟩ := newRE X0 hx hZ hown (hwd149 hw) (hwd103 hw) e0 (g := (mkF m 2 #[.val (.ref t), .unset, .unset] [(.int (6 : Int32))])) rfl (hb hby d23_2) rfl (by decide) (cap := 6) (by decide) (by decide) (by decide) (by decide) (ad := "[Ljava/lang/Object;") (by decide)
  obtain ⟨b2, g2⟩ : ∃ zz_, zz_ = h0.size := ⟨_, rfl⟩
  rw [← g2] at A2 B2 st2
  have ne_t_b2 : t ≠ b2 := Nat.ne_of_lt (Nat.lt_of_lt_of_le V_t.lt (Nat.le_of_eq g2.symm))
  have ne_q_b2 : q ≠ b2 := Nat.ne_of_lt (Nat.lt_of_lt_of_le E_q.lt (Nat.le_of_eq g2.symm))
  have g_b2 : n0 ≤ b2 := Nat.le_trans Z0 (Nat.le_of_eq g2.symm)
  have sz_b2 : h0.size ≤ b2 := Nat.le_trans (Keep.refl h0 []).1 (Nat.le_of_eq g2.symm)
  have V_b2 : Arv Z h2 b2 k2 (.object "java/lang/Object") (6 : Int32) [.null, .null, .null, .null, .null, .null] .null := (Arv.new A2 (by decide)).pad (pad_rep [] .null 6)
  have f3_V_t := (V_t.ext E2)
  obtain ⟨cl4, Ar4, -, S4, M4, -, -⟩ := id f3_V_t
  obtain ⟨cl5, Ar5, q5, S5, M5, H5, G5⟩ := id f3_V_t
  have hin5 : ¬ ((0 : Int32) < 0 ∨ cl5.slots.size ≤ ((0 : Int32)).toNatClampNeg) := inb_of S5 ⟨by decide, by decide⟩
  have hat5 : cl5.slots[((0 : Int32)).toNatClampNeg]? = some (.ref q) := H5.at hin5 rfl
  have sz7 : n0 ≤ h2.size := (Nat.le_trans Z0 E2.1)
  obtain ⟨_, _, ⟨T6, L6, k6, n6⟩, -, X6, ⟨Lc6, hQ6, l6, y6, z6⟩, st6⟩ := Jvm.LawKit.callS X2 hx (y := my18) hown (mvT hZ (hwd150 hw)) (mvT hZ (hwd151 hw)) (mvT hZ (hwd152 hw)) (mvT hZ (hwd153 hw)) (by decide) (backOf (W := 2) (rm24 l Z a0 hw [] q h2 n0 sz7 ) hZ (hwd153 hw) (hwd152 hw) (by decide) (by decide)) (g := (mkF m 19 #[.val (.ref t), .val (.ref b2), .val (.int (0 : Int32))] [(.ref q), (.int (0 : Int32)), (.ref b2)])) rfl (by rw [hml]; rfl) (argsL := [(.ref q)]) (rest := [(.int (0 : Int32)), (.ref b2)]) (lenOf pd_9 rfl) rfl (by show 2 * 0 + _ ≤ _; exact Nat.le_of_eq rfl) (hb hby d23_19) (fun _ _ => ⟨rfl, e2, (by decide : 1 + 0 ≤ _), (by decide : 6 + 0 ≤ _)⟩)
  dsimp only [Pt.U, Pt.locs, Pt.cells, Pt.slots] at X6 l6 y6 z6 st6 hQ6
  subst l6 y6 z6
  obtain ⟨rfl, N6q, e6q⟩ := hQ6
  have N6 := Fr.app N0 N6q
  have f9_E_q := (E_q.ext E2)
  obtain ⟨cl8, Ar8, q8, S8, M8, H8, G8⟩ := id V_b2
  obtain ⟨T10, h10, X10, e10, W10, st10⟩ := stR X6 hx hZ e6q Ar8 (j := (0 : Int32)) (inb_of S8 ⟨by decide, by decide⟩) rfl (Sto.ofV Ar8 q8 O2 (Ins.of_exa f9_E_q (hwd104 hw))) (g := (mkF m 22 #[.val (.ref t), .val (.ref b2), .val (.int (0 : Int32))] [(.ref q), (.int (0 : Int32)), (.ref b2)])) rfl rfl (hb hby d23_22)
  have N10 := Fr.snoc X10 N6 g_b2
  have Vw10 : Arv Z h10 b2 k2 (.object "java/lang/Object") (6 : Int32) [(.ref q), .null, .null, .null, .null, .null] .null := Arv.set Ar8 q8 S8 M8 H8 G8 rfl W10 0 rfl (Nat.le_of_ble_eq_true rfl)
  have f11_V_t := (f3_V_t.other W10 ne_t_b2)
  obtain ⟨cl12, Ar12, -, S12, M12, -, -⟩ := id f11_V_t
  obtain ⟨cl13, Ar13, q13, S13, M13, H13, G13⟩ := id f11_V_t
  have hin13 : ¬ ((1 : Int32) < 0 ∨ cl13.slots.size ≤ ((1 : Int32)).toNatClampNeg) := inb_of S13 ⟨by decide, by decide⟩
  have hat13 : cl13.slots[((1 : Int32)).toNatClampNeg]? = some (.ref q) := H13.at hin13 rfl
  have sz15 : n0 ≤ h10.size := (Nat.le_trans sz7 (Keep.of_wr W10).1)
  obtain ⟨_, _, ⟨T14, L14, k14, n14⟩, -, X14, ⟨Lc14, hQ14, l14, y14, z14⟩, st14⟩ := Jvm.LawKit.callS X10 hx (y := my18) hown (mvT hZ (hwd150 hw)) (mvT hZ (hwd151 hw)) (mvT hZ (hwd152 hw)) (mvT hZ (hwd153 hw)) (by decide) (backOf (W := 2) (rm24 l Z a0 hw [] q h10 n0 sz15 ) hZ (hwd153 hw) (hwd152 hw) (by decide) (by decide)) (g := (mkF m 19 #[.val (.ref t), .val (.ref b2), .val (.int (1 : Int32))] [(.ref q), (.int (1 : Int32)), (.ref b2)])) rfl (by rw [hml]; rfl) (argsL := [(.ref q)]) (rest := [(.int (1 : Int32)), (.ref b2)]) (lenOf pd_9 rfl) rfl (by show 2 * 0 + _ ≤ _; exact Nat.le_of_eq rfl) (hb hby d23_19) (fun _ _ => ⟨rfl, e10, (by decide : 1 + 0 ≤ _), (by decide : 6 + 0 ≤ _)⟩)
  dsimp only [Pt.U, Pt.locs, Pt.cells, Pt.slots] at X14 l14 y14 z14 st14 hQ14
  subst l14 y14 z14
  obtain ⟨rfl, N14q, e14q⟩ := hQ14
  have N14 := Fr.app N10 N14q
  have f17_E_q := (f9_E_q.wr W10)
  obtain ⟨cl16, Ar16, q16, S16, M16, H16, G16⟩ := id Vw10
  obtain ⟨T18, h18, X18, e18, W18, st18⟩ := stR X14 hx hZ e14q Ar16 (j := (1 : Int32)) (inb_of S16 ⟨by decide, by decide⟩) rfl (Sto.ofV Ar16 q16 O2 (Ins.of_exa f17_E_q (hwd104 hw))) (g := (mkF m 22 #[.val (.ref t), .val (.ref b2), .val (.int (1 : Int32))] [(.ref q), (.int (1 : Int32)), (.ref b2)])) rfl rfl (hb hby d23_22)
  have N18 := Fr.snoc X18 N14 g_b2
  have Vw18 : Arv Z h18 b2 k2 (.object "java/lang/Object") (6 : Int32) [(.ref q), (.ref q), .null, .null, .null, .null] .null := Arv.set Ar16 q16 S16 M16 H16 G16 rfl W18 1 rfl (Nat.le_of_ble_eq_true rfl)
  have f19_V_t := (f11_V_t.other W18 ne_t_b2)
  obtain ⟨cl20, Ar20, -, S20, M20, -, -⟩ := id f19_V_t
  obtain ⟨cl21, Ar21, q21, S21, M21, H21, G21⟩ := id f19_V_t
  have hin21 : ¬ ((2 : Int32) < 0 ∨ cl21.slots.size ≤ ((2 : Int32)).toNatClampNeg) := inb_of S21 ⟨by decide, by decide⟩
  have hat21 : cl21.slots[((2 : Int32)).toNatClampNeg]? = some (.ref q) := H21.at hin21 rfl
  have sz23 : n0 ≤ h18.size := (Nat.le_trans sz15 (Keep.of_wr W18).1)
  obtain ⟨_, _, ⟨T22, L22, k22, n22⟩, -, X22, ⟨Lc22, hQ22, l22, y22, z22⟩, st22⟩ := Jvm.LawKit.callS X18 hx (y := my18) hown (mvT hZ (hwd150 hw)) (mvT hZ (hwd151 hw)) (mvT hZ (hwd152 hw)) (mvT hZ (hwd153 hw)) (by decide) (backOf (W := 2) (rm24 l Z a0 hw [] q h18 n0 sz23 ) hZ (hwd153 hw) (hwd152 hw) (by decide) (by decide)) (g := (mkF m 19 #[.val (.ref t), .val (.ref b2), .val (.int (2 : Int32))] [(.ref q), (.int (2 : Int32)), (.ref b2)])) rfl (by rw [hml]; rfl) (argsL := [(.ref q)]) (rest := [(.int (2 : Int32)), (.ref b2)]) (lenOf pd_9 rfl) rfl (by show 2 * 0 + _ ≤ _; exact Nat.le_of_eq rfl) (hb hby d23_19) (fun _ _ => ⟨rfl, e18, (by decide : 1 + 0 ≤ _), (by decide : 6 + 0 ≤ _)⟩)
  dsimp only [Pt.U, Pt.locs, Pt.cells, Pt.slots] at X22 l22 y22 z22 st22 hQ22
  subst l22 y22 z22
  obtain ⟨rfl, N22q, e22q⟩ := hQ22
  have N22 := Fr.app N18 N22q
  have f25_E_q := (f17_E_q.wr W18)
  obtain ⟨cl24, Ar24, q24, S24, M24, H24, G24⟩ := id Vw18
  obtain ⟨T26, h26, X26, e26, W26, st26⟩ := stR X22 hx hZ e22q Ar24 (j := (2 : Int32)) (inb_of S24 ⟨by decide, by decide⟩) rfl (Sto.ofV Ar24 q24 O2 (Ins.of_exa f25_E_q (hwd104 hw))) (g := (mkF m 22 #[.val (.ref t), .val (.ref b2), .val (.int (2 : Int32))] [(.ref q), (.int (2 : Int32)), (.ref b2)])) rfl rfl (hb hby d23_22)
  have N26 := Fr.snoc X26 N22 g_b2
  have Vw26 : Arv Z h26 b2 k2 (.object "java/lang/Object") (6 : Int32) [(.ref q), (.ref q), (.ref q), .null, .null, .null] .null := Arv.set Ar24 q24 S24 M24 H24 G24 rfl W26 2 rfl (Nat.le_of_ble_eq_true rfl)
  have f27_V_t := (f19_V_t.other W26 ne_t_b2)
  obtain ⟨cl28, Ar28, -, S28, M28, -, -⟩ := id f27_V_t
  obtain ⟨cl29, Ar29, q29, S29, M29, H29, G29⟩ := id f27_V_t
  have hin29 : ¬ ((3 : Int32) < 0 ∨ cl29.slots.size ≤ ((3 : Int32)).toNatClampNeg) := inb_of S29 ⟨by decide, by decide⟩
  have hat29 : cl29.slots[((3 : Int32)).toNatClampNeg]? = some (.ref q) := H29.at hin29 rfl
  have sz31 : n0 ≤ h26.size := (Nat.le_trans sz23 (Keep.of_wr W26).1)
  obtain ⟨_, _, ⟨T30, L30, k30, n30⟩, -, X30, ⟨Lc30, hQ30, l30, y30, z30⟩, st30⟩ := Jvm.LawKit.callS X26 hx (y := my18) hown (mvT hZ (hwd150 hw)) (mvT hZ (hwd151 hw)) (mvT hZ (hwd152 hw)) (mvT hZ (hwd153 hw)) (by decide) (backOf (W := 2) (rm24 l Z a0 hw [] q h26 n0 sz31 ) hZ (hwd153 hw) (hwd152 hw) (by decide) (by decide)) (g := (mkF m 19 #[.val (.ref t), .val (.ref b2), .val (.int (3 : Int32))] [(.ref q), (.int (3 : Int32)), (.ref b2)])) rfl (by rw [hml]; rfl) (argsL := [(.ref q)]) (rest := [(.int (3 : Int32)), (.ref b2)]) (lenOf pd_9 rfl) rfl (by show 2 * 0 + _ ≤ _; exact Nat.le_of_eq rfl) (hb hby d23_19) (fun _ _ => ⟨rfl, e26, (by decide : 1 + 0 ≤ _), (by decide : 6 + 0 ≤ _)⟩)
  dsimp only [Pt.U, Pt.locs, Pt.cells, Pt.slots] at X30 l30 y30 z30 st30 hQ30
  subst l30 y30 z30
  obtain ⟨rfl, N30q, e30q⟩ := hQ30
  have N30 := Fr.app N26 N30q
  have f33_E_q := (f25_E_q.wr W26)
  obtain ⟨cl32, Ar32, q32, S32, M32, H32, G32⟩ := id Vw26
  obtain ⟨T34, h34, X34, e34, W34, st34⟩ := stR X30 hx hZ e30q Ar32 (j := (3 : Int32)) (inb_of S32 ⟨by decide, by decide⟩) rfl (Sto.ofV Ar32 q32 O2 (Ins.of_exa f33_E_q (hwd104 hw))) (g := (mkF m 22 #[.val (.ref t), .val (.ref b2), .val (.int (3 : Int32))] [(.ref q), (.int (3 : Int32)), (.ref b2)])) rfl rfl (hb hby d23_22)
  have N34 := Fr.snoc X34 N30 g_b2
  have Vw34 : Arv Z h34 b2 k2 (.object "java/lang/Object") (6 : Int32) [(.ref q), (.ref q), (.ref q), (.ref q), .null, .null] .null := Arv.set Ar32 q32 S32 M32 H32 G32 rfl W34 3 rfl (Nat.le_of_ble_eq_true rfl)
  have f35_V_t := (f27_V_t.other W34 ne_t_b2)
  obtain ⟨cl36, Ar36, -, S36, M36, -, -⟩ := id f35_V_t
  obtain ⟨cl37, Ar37, q37, S37, M37, H37, G37⟩ := id f35_V_t
  have hin37 : ¬ ((4 : Int32) < 0 ∨ cl37.slots.size ≤ ((4 : Int32)).toNatClampNeg) := inb_of S37 ⟨by decide, by decide⟩
  have hat37 : cl37.slots[((4 : Int32)).toNatClampNeg]? = some (.ref q) := H37.at hin37 rfl
  have sz39 : n0 ≤ h34.size := (Nat.le_trans sz31 (Keep.of_wr W34).1)
  obtain ⟨_, _, ⟨T38, L38, k38, n38⟩, -, X38, ⟨Lc38, hQ38, l38, y38, z38⟩, st38⟩ := Jvm.LawKit.callS X34 hx (y := my18) hown (mvT hZ (hwd150 hw)) (mvT hZ (hwd151 hw)) (mvT hZ (hwd152 hw)) (mvT hZ (hwd153 hw)) (by decide) (backOf (W := 2) (rm24 l Z a0 hw [] q h34 n0 sz39 ) hZ (hwd153 hw) (hwd152 hw) (by decide) (by decide)) (g := (mkF m 19 #[.val (.ref t), .val (.ref b2), .val (.int (4 : Int32))] [(.ref q), (.int (4 : Int32)), (.ref b2)])) rfl (by rw [hml]; rfl) (argsL := [(.ref q)]) (rest := [(.int (4 : Int32)), (.ref b2)]) (lenOf pd_9 rfl) rfl (by show 2 * 0 + _ ≤ _; exact Nat.le_of_eq rfl) (hb hby d23_19) (fun _ _ => ⟨rfl, e34, (by decide : 1 + 0 ≤ _), (by decide : 6 + 0 ≤ _)⟩)
  dsimp only [Pt.U, Pt.locs, Pt.cells, Pt.slots] at X38 l38 y38 z38 st38 hQ38
  subst l38 y38 z38
  obtain ⟨rfl, N38q, e38q⟩ := hQ38
  have N38 := Fr.app N34 N38q
  have f41_E_q := (f33_E_q.wr W34)
  obtain ⟨cl40, Ar40, q40, S40, M40, H40, G40⟩ := id Vw34
  obtain ⟨T42, h42, X42, e42, W42, st42⟩ := stR X38 hx hZ e38q Ar40 (j := (4 : Int32)) (inb_of S40 ⟨by decide, by decide⟩) rfl (Sto.ofV Ar40 q40 O2 (Ins.of_exa f41_E_q (hwd104 hw))) (g := (mkF m 22 #[.val (.ref t), .val (.ref b2), .val (.int (4 : Int32))] [(.ref q), (.int (4 : Int32)), (.ref b2)])) rfl rfl (hb hby d23_22)
  have N42 := Fr.snoc X42 N38 g_b2
  have Vw42 : Arv Z h42 b2 k2 (.object "java/lang/Object") (6 : Int32) [(.ref q), (.ref q), (.ref q), (.ref q), (.ref q), .null] .null := Arv.set Ar40 q40 S40 M40 H40 G40 rfl W42 4 rfl (Nat.le_of_ble_eq_true rfl)
  have f43_V_t := (f35_V_t.other W42 ne_t_b2)
  obtain ⟨cl44, Ar44, -, S44, M44, -, -⟩ := id f43_V_t
  obtain ⟨cl45, Ar45, q45, S45, M45, H45, G45⟩ := id f43_V_t
  have hin45 : ¬ ((5 : Int32) < 0 ∨ cl45.slots.size ≤ ((5 : Int32)).toNatClampNeg) := inb_of S45 ⟨by decide, by decide⟩
  have hat45 : cl45.slots[((5 : Int32)).toNatClampNeg]? = some (.ref q) := H45.at hin45 rfl
  have sz47 : n0 ≤ h42.size := (Nat.le_trans sz39 (Keep.of_wr W42).1)
  obtain ⟨_, _, ⟨T46, L46, k46, n46⟩, -, X46, ⟨Lc46, hQ46, l46, y46, z46⟩, st46⟩ := Jvm.LawKit.callS X42 hx (y := my18) hown (mvT hZ (hwd150 hw)) (mvT hZ (hwd151 hw)) (mvT hZ (hwd152 hw)) (mvT hZ (hwd153 hw)) (by decide) (backOf (W := 2) (rm24 l Z a0 hw [] q h42 n0 sz47 ) hZ (hwd153 hw) (hwd152 hw) (by decide) (by decide)) (g := (mkF m 19 #[.val (.ref t), .val (.ref b2), .val (.int (5 : Int32))] [(.ref q), (.int (5 : Int32)), (.ref b2)])) rfl (by rw [hml]; rfl) (argsL := [(.ref q)]) (rest := [(.int (5 : Int32)), (.ref b2)]) (lenOf pd_9 rfl) rfl (by show 2 * 0 + _ ≤ _; exact Nat.le_of_eq rfl) (hb hby d23_19) (fun _ _ => ⟨rfl, e42, (by decide : 1 + 0 ≤ _), (by decide : 6 + 0 ≤ _)⟩)
  dsimp only [Pt.U, Pt.locs, Pt.cells, Pt.slots] at X46 l46 y46 z46 st46 hQ46
  subst l46 y46 z46
  obtain ⟨rfl, N46q, e46q⟩ := hQ46
  have N46 := Fr.app N42 N46q
  have f49_E_q := (f41_E_q.wr W42)
  obtain ⟨cl48, Ar48, q48, S48, M48, H48, G48⟩ := id Vw42
  obtain ⟨T50, h50, X50, e50, W50, st50⟩ := stR X46 hx hZ e46q Ar48 (j := (5 : Int32)) (inb_of S48 ⟨by decide, by decide⟩) rfl (Sto.ofV Ar48 q48 O2 (Ins.of_exa f49_E_q (hwd104 hw))) (g := (mkF m 22 #[.val (.ref t), .val (.ref b2), .val (.int (5 : Int32))] [(.ref q), (.int (5 : Int32)), (.ref b2)])) rfl rfl (hb hby d23_22)
  have N50 := Fr.snoc X50 N46 g_b2
  have Vw50 : Arv Z h50 b2 k2 (.object "java/lang/Object") (6 : Int32) [(.ref q), (.ref q), (.ref q), (.ref q), (.ref q), (.ref q)] .null := Arv.set Ar48 q48 S48 M48 H48 G48 rfl W50 5 rfl (Nat.le_of_ble_eq_true rfl)
  have f51_V_t := (f43_V_t.other W50 ne_t_b2)
  obtain ⟨cl52, Ar52, -, S52, M52, -, -⟩ := id f51_V_t
  obtain ⟨T53, h53, X53, e53, E53, A53, D53, -, st53⟩ := newO X50 hx hZ hown (hwd52 hw) (hwd154 hw) (hwd155 hw) e50 (g := (mkF m 29 #[.val (.ref t), .val (.ref b2), .val (.int (6 : Int32))] [])) rfl (hb hby d23_29) (by decide) (by decide)
  obtain ⟨b53, g53⟩ : ∃ zz_, zz_ = h50.size := ⟨_, rfl⟩
  rw [← g53] at A53 D53 st53
  have ne_t_b53 : t ≠ b53 := Nat.ne_of_lt (Nat.lt_of_lt_of_le f51_V_t.lt (Nat.le_of_eq g53.symm))
  have f54_E_q := (f49_E_q.wr W50)
  have ne_q_b53 : q ≠ b53 := Nat.ne_of_lt (Nat.lt_of_lt_of_le f54_E_q.lt (Nat.le_of_eq g53.symm))
  have ne_b2_b53 : b2 ≠ b53 := Nat.ne_of_lt (Nat.lt_of_lt_of_le Vw50.lt (Nat.le_of_eq g53.symm))
  have sz55 : n0 ≤ h50.size := (Nat.le_trans sz47 (Keep.of_wr W50).1)
  have g_b53 : n0 ≤ b53 := Nat.le_trans sz55 (Nat.le_of_eq g53.symm)
  have kp56 : Keep h0 h50 [] := ((((((((Keep.refl h0 []).ext E2).wr W10 (Or.inr sz_b2)).wr W18 (Or.inr sz_b2)).wr W26 (Or.inr sz_b2)).wr W34 (Or.inr sz_b2)).wr W42 (Or.inr sz_b2)).wr W50 (Or.inr sz_b2))
  have sz_b53 : h0.size ≤ b53 := Nat.le_trans kp56.1 (Nat.le_of_eq g53.symm)
  have F_elements_b53 : Fld Z h53 b53 "java/util/ImmutableCollections$ListN" "elements" "[Ljava/lang/Object;" .null := D53 (Or.inr (hwd175 hw)) (ty := (.array (.object "java/lang/Object"))) (by decide)
  have F_allowNulls_b53 : Fld Z h53 b53 "java/util/ImmutableCollections$ListN" "allowNulls" "Z" (.int (0 : Int32)) := D53 (Or.inr (hwd177 hw)) (ty := .boolean) (by decide)
  have sz58 : n0 ≤ h53.size := (Nat.le_trans sz55 E53.1)
  obtain ⟨_, _, ⟨T57, L57, k57, n57⟩, -, X57, ⟨Lc57, hQ57, l57, y57, z57⟩, st57⟩ := X53.specialBackNest hx (y := my19) rfl hown (Cond.methodLinkNest_wide hZ (hwd156 hw) :) (mvT hZ (hwd157 hw)) (mvT hZ (hwd159 hw)) (by decide) (backOf (W := 1) (rm25 l Z a0 hw [] b53 b2 h53 n0 sz58 A53 F_elements_b53 F_allowNulls_b53 g_b53) hZ (hwd159 hw) (hwd155 hw) (by decide) (by decide)) (g := (mkF m 35 #[.val (.ref t), .val (.ref b2), .val (.int (6 : Int32))] [(.int (0 : Int32)), (.ref b2), (.ref b53), (.ref b53)])) rfl (by rw [hml]; rfl) (Steps.refl _) (a := b53) (argsL := [(.ref b2), (.int (0 : Int32))]) (rest := [(.ref b53)]) (lenOf pd_12 rfl) rfl (by show 2 * 0 + _ ≤ _; exact Nat.le_of_eq rfl) (hb hby d23_35) (fun _ _ => ⟨rfl, e53, (by decide : 2 + 0 ≤ _), (by decide : 8 + 0 ≤ _)⟩)
  dsimp only [Pt.U, Pt.locs, Pt.cells, Pt.slots] at X57 l57 y57 z57 st57 hQ57
  subst l57 y57 z57
  obtain ⟨rfl, N57q, K57, p57_1, p57_2⟩ := hQ57
  have N57 := Fr.app N50 N57q
  have kp59 : Keep h0 T57.heap [] := ((kp56.ext E53).trans K57 (allS (Or.inr sz_b53) all0))
  have f60_V_b2 := ((Vw50.ext E53).keep K57 (ninS ne_b2_b53 nin0))
  obtain ⟨fs, hr, hrun, hended, hW, hsame⟩ := X57.leave (v := some (.ref b53)) (fun h => by rw [Bd.returns] at h; cases h)
  refine ⟨_, _, pre0 _ ?_, hrun, hended, _, _, rfl, ?_, ⟨_, rfl⟩, hW, hsame.mono (by decide) (by decide)⟩
  · show Steps p.tables e below (s₁.setTop (mkF m 0 #[.val (.ref t), .unset, .unset] [])) _
    refine XS.aloadN X0.here hx rfl (hb hby d23_0) rfl rfl ?_
    refine X0.arraylength hx (by rw [e0]; exact Ar1.1) (State.isArrayOf_alike hZ.alike Ar1.2.1) (g := (mkF m 1 #[.val (.ref t), .unset, .unset] [(.ref t)])) rfl rfl (hb hby d23_1) _ ?_
    rw [len_of S1 M1]
    refine st2 _ ?_
    refine XS.astoreN X2.here hx rfl (hb hby d23_5) rfl rfl (l' := #[.val (.ref t), .val (.ref b2), .unset]) rfl ?_
    refine XS.iconst X2.here hx rfl (hb hby d23_6) ?_
    refine XS.istoreN X2.here hx rfl (hb hby d23_7) rfl (l' := #[.val (.ref t), .val (.ref b2), .val (.int (0 : Int32))]) rfl ?_
    show Steps p.tables e below (T2.setTop (mkF m 8 #[.val (.ref t), .val (.ref b2), .val (.int (0 : Int32))] [])) _
    refine XS.iloadN X2.here hx rfl (hb hby d23_8) rfl ?_
    refine XS.aloadN X2.here hx rfl (hb hby d23_9) rfl rfl ?_
    refine X2.arraylength hx (by rw [e2]; exact Ar4.1) (State.isArrayOf_alike hZ.alike Ar4.2.1) (g := (mkF m 10 #[.val (.ref t), .val (.ref b2), .val (.int (0 : Int32))] [(.ref t), (.int (0 : Int32))])) rfl rfl (hb hby d23_10) _ ?_
    rw [len_of S4 M4]
    refine XS.icmpNo X2.here hx rfl (hb hby d23_11) rfl (tlt (show (0 : Int32) < (6 : Int32) from (by decide))).2.1 ?_
    refine XS.aloadN X2.here hx rfl (hb hby d23_14) rfl rfl ?_
    refine XS.iloadN X2.here hx rfl (hb hby d23_15) rfl ?_
    show Steps p.tables e below (T2.setTop (mkF m 16 #[.val (.ref t), .val (.ref b2), .val (.int (0 : Int32))] [(.int (0 : Int32)), (.ref b2)])) _
    refine XS.aloadN X2.here hx rfl (hb hby d23_16) rfl rfl ?_
    refine XS.iloadN X2.here hx rfl (hb hby d23_17) rfl ?_
    refine X2.aaload hx (j := (0 : Int32)) (v := (.ref q)) (by rw [e2]; exact Ar5.1) (State.isArrayOf_alike hZ.alike Ar5.2.1) rfl Ar5.2.2 hin5 hat5 (g := (mkF m 18 #[.val (.ref t), .val (.ref b2), .val (.int (0 : Int32))] [(.int (0 : Int32)), (.ref t), (.int (0 : Int32)), (.ref b2)])) rfl rfl (hb hby d23_18) _ ?_
    refine st6 _ ?_
    refine st10 _ ?_
    refine XS.iinc X10.here hx rfl (hb hby d23_23) rfl (l' := #[.val (.ref t), .val (.ref b2), .val (.int ((0 : Int32) + (1 : Int32)))]) rfl ?_
    show Steps p.tables e below (T10.setTop (mkF m 26 #[.val (.ref t), .val (.ref b2), .val (.int ((0 : Int32) + (1 : Int32)))] [])) _
    rw [show (((0 : Int32) + (1 : Int32)) : Int32) = (1 : Int32) from by decide]
    refine XS.goto X10.here hx rfl (pc0 := 26) (pc' := 8) rfl (hb hby d23_26) (by decide) (by decide) ?_
    refine XS.iloadN X10.here hx rfl (hb hby d23_8) rfl ?_
    refine XS.aloadN X10.here hx rfl (hb hby d23_9) rfl rfl ?_
    refine X10.arraylength hx (by rw [e10]; exact Ar12.1) (State.isArrayOf_alike hZ.alike Ar12.2.1) (g := (mkF m 10 #[.val (.ref t), .val (.ref b2), .val (.int (1 : Int32))] [(.ref t), (.int (1 : Int32))])) rfl rfl (hb hby d23_10) _ ?_
    rw [len_of S12 M12]
    refine XS.icmpNo X10.here hx rfl (hb hby d23_11) rfl (tlt (show (1 : Int32) < (6 : Int32) from (by decide))).2.1 ?_
    show Steps p.tables e below (T10.setTop (mkF m 14 #[.val (.ref t), .val (.ref b2), .val (.int (1 : Int32))] [])) _
    refine XS.aloadN X10.here hx rfl (hb hby d23_14) rfl rfl ?_
    refine XS.iloadN X10.here hx rfl (hb hby d23_15) rfl ?_
    refine XS.aloadN X10.here hx rfl (hb hby d23_16) rfl rfl ?_
    refine XS.iloadN X10.here hx rfl (hb hby d23_17) rfl ?_
    refine X10.aaload hx (j := (1 : Int32)) (v := (.ref q)) (by rw [e10]; exact Ar13.1) (State.isArrayOf_alike hZ.alike Ar13.2.1) rfl Ar13.2.2 hin13 hat13 (g := (mkF m 18 #[.val (.ref t), .val (.ref b2), .val (.int (1 : Int32))] [(.int (1 : Int32)), (.ref t), (.int (1 : Int32)), (.ref b2)])) rfl rfl (hb hby d23_18) _ ?_
    refine st14 _ ?_
    show Steps p.tables e below (T14.setTop (mkF m 22 #[.val (.ref t), .val (.ref b2), .val (.int (1 : Int32))] [(.ref q), (.int (1 : Int32)), (.ref b2)])) _
    refine st18 _ ?_
    refine XS.iinc X18.here hx rfl (hb hby d23_23) rfl (l' := #[.val (.ref t), .val (.ref b2), .val (.int ((1 : Int32) + (1 : Int32)))]) rfl ?_
    show Steps p.tables e below (T18.setTop (mkF m 26 #[.val (.ref t), .val (.ref b2), .val (.int ((1 : Int32) + (1 : Int32)))] [])) _
    rw [show (((1 : Int32) + (1 : Int32)) : Int32) = (2 : Int32) from by decide]
    refine XS.goto X18.here hx rfl (pc0 := 26) (pc' := 8) rfl (hb hby d23_26) (by decide) (by decide) ?_
    refine XS.iloadN X18.here hx rfl (hb hby d23_8) rfl ?_
    refine XS.aloadN X18.here hx rfl (hb hby d23_9) rfl rfl ?_
    refine X18.arraylength hx (by rw [e18]; exact Ar20.1) (State.isArrayOf_alike hZ.alike Ar20.2.1) (g := (mkF m 10 #[.val (.ref t), .val (.ref b2), .val (.int (2 : Int32))] [(.ref t), (.int (2 : Int32))])) rfl rfl (hb hby d23_10) _ ?_
    rw [len_of S20 M20]
    refine XS.icmpNo X18.here hx rfl (hb hby d23_11) rfl (tlt (show (2 : Int32) < (6 : Int32) from (by decide))).2.1 ?_
    show Steps p.tables e below (T18.setTop (mkF m 14 #[.val (.ref t), .val (.ref b2), .val (.int (2 : Int32))] [])) _
    refine XS.aloadN X18.here hx rfl (hb hby d23_14) rfl rfl ?_
    refine XS.iloadN X18.here hx rfl (hb hby d23_15) rfl ?_
    refine XS.aloadN X18.here hx rfl (hb hby d23_16) rfl rfl ?_
    refine XS.iloadN X18.here hx rfl (hb hby d23_17) rfl ?_
    refine X18.aaload hx (j := (2 : Int32)) (v := (.ref q)) (by rw [e18]; exact Ar21.1) (State.isArrayOf_alike hZ.alike Ar21.2.1) rfl Ar21.2.2 hin21 hat21 (g := (mkF m 18 #[.val (.ref t), .val (.ref b2), .val (.int (2 : Int32))] [(.int (2 : Int32)), (.ref t), (.int (2 : Int32)), (.ref b2)])) rfl rfl (hb hby d23_18) _ ?_
    refine st22 _ ?_
    show Steps p.tables e below (T22.setTop (mkF m 22 #[.val (.ref t), .val (.ref b2), .val (.int (2 : Int32))] [(.ref q), (.int (2 : Int32)), (.ref b2)])) _
    refine st26 _ ?_
    refine XS.iinc X26.here hx rfl (hb hby d23_23) rfl (l' := #[.val (.ref t), .val (.ref b2), .val (.int ((2 : Int32) + (1 : Int32)))]) rfl ?_
    show Steps p.tables e below (T26.setTop (mkF m 26 #[.val (.ref t), .val (.ref b2), .val (.int ((2 : Int32) + (1 : Int32)))] [])) _
    rw [show (((2 : Int32) + (1 : Int32)) : Int32) = (3 : Int32) from by decide]
    refine XS.goto X26.here hx rfl (pc0 := 26) (pc' := 8) rfl (hb hby d23_26) (by decide) (by decide) ?_
    refine XS.iloadN X26.here hx rfl (hb hby d23_8) rfl ?_
    refine XS.aloadN X26.here hx rfl (hb hby d23_9) rfl rfl ?_
    refine X26.arraylength hx (by rw [e26]; exact Ar28.1) (State.isArrayOf_alike hZ.alike Ar28.2.1) (g := (mkF m 10 #[.val (.ref t), .val (.ref b2), .val (.int (3 : Int32))] [(.ref t), (.int (3 : Int32))])) rfl rfl (hb hby d23_10) _ ?_
    rw [len_of S28 M28]
    refine XS.icmpNo X26.here hx rfl (hb hby d23_11) rfl (tlt (show (3 : Int32) < (6 : Int32) from (by decide))).2.1 ?_
    show Steps p.tables e below (T26.setTop (mkF m 14 #[.val (.ref t), .val (.ref b2), .val (.int (3 : Int32))] [])) _
    refine XS.aloadN X26.here hx rfl (hb hby d23_14) rfl rfl ?_
    refine XS.iloadN X26.here hx rfl (hb hby d23_15) rfl ?_
    refine XS.aloadN X26.here hx rfl (hb hby d23_16) rfl rfl ?_
    refine XS.iloadN X26.here hx rfl (hb hby d23_17) rfl ?_
    refine X26.aaload hx (j := (3 : Int32)) (v := (.ref q)) (by rw [e26]; exact Ar29.1) (State.isArrayOf_alike hZ.alike Ar29.2.1) rfl Ar29.2.2 hin29 hat29 (g := (mkF m 18 #[.val (.ref t), .val (.ref b2), .val (.int (3 : Int32))] [(.int (3 : Int32)), (.ref t), (.int (3 : Int32)), (.ref b2)])) rfl rfl (hb hby d23_18) _ ?_
    refine st30 _ ?_
    show Steps p.tables e below (T30.setTop (mkF m 22 #[.val (.ref t), .val (.ref b2), .val (.int (3 : Int32))] [(.ref q), (.int (3 : Int32)), (.ref b2)])) _
    refine st34 _ ?_
    refine XS.iinc X34.here hx rfl (hb hby d23_23) rfl (l' := #[.val (.ref t), .val (.ref b2), .val (.int ((3 : Int32) + (1 : Int32)))]) rfl ?_
    show Steps p.tables e below (T34.setTop (mkF m 26 #[.val (.ref t), .val (.ref b2), .val (.int ((3 : Int32) + (1 : Int32)))] [])) _
    rw [show (((3 : Int32) + (1 : Int32)) : Int32) = (4 : Int32) from by decide]
    refine XS.goto X34.here hx rfl (pc0 := 26) (pc' := 8) rfl (hb hby d23_26) (by decide) (by decide) ?_
    refine XS.iloadN X34.here hx rfl (hb hby d23_8) rfl ?_
    refine XS.aloadN X34.here hx rfl (hb hby d23_9) rfl rfl ?_
    refine X34.arraylength hx (by rw [e34]; exact Ar36.1) (State.isArrayOf_alike hZ.alike Ar36.2.1) (g := (mkF m 10 #[.val (.ref t), .val (.ref b2), .val (.int (4 : Int32))] [(.ref t), (.int (4 : Int32))])) rfl rfl (hb hby d23_10) _ ?_
    rw [len_of S36 M36]
    refine XS.icmpNo X34.here hx rfl (hb hby d23_11) rfl (tlt (show (4 : Int32) < (6 : Int32) from (by decide))).2.1 ?_
    show Steps p.tables e below (T34.setTop (mkF m 14 #[.val (.ref t), .val (.ref b2), .val (.int (4 : Int32))] [])) _
    refine XS.aloadN X34.here hx rfl (hb hby d23_14) rfl rfl ?_
    refine XS.iloadN X34.here hx rfl (hb hby d23_15) rfl ?_
    refine XS.aloadN X34.here hx rfl (hb hby d23_16) rfl rfl ?_
    refine XS.iloadN X34.here hx rfl (hb hby d23_17) rfl ?_
    refine X34.aaload hx (j := (4 : Int32)) (v := (.ref q)) (by rw [e34]; exact Ar37.1) (State.isArrayOf_alike hZ.alike Ar37.2.1) rfl Ar37.2.2 hin37 hat37 (g := (mkF m 18 #[.val (.ref t), .val (.ref b2), .val (.int (4 : Int32))] [(.int (4 : Int32)), (.ref t), (.int (4 : Int32)), (.ref b2)])) rfl rfl (hb hby d23_18) _ ?_
    refine st38 _ ?_
    show Steps p.tables e below (T38.setTop (mkF m 22 #[.val (.ref t), .val (.ref b2), .val (.int (4 : Int32))] [(.ref q), (.int (4 : Int32)), (.ref b2)])) _
    refine st42 _ ?_
    refine XS.iinc X42.here hx rfl (hb hby d23_23) rfl (l' := #[.val (.ref t), .val (.ref b2), .val (.int ((4 : Int32) + (1 : Int32)))]) rfl ?_
    show Steps p.tables e below (T42.setTop (mkF m 26 #[.val (.ref t), .val (.ref b2), .val (.int ((4 : Int32) + (1 : Int32)))] [])) _
    rw [show (((4 : Int32) + (1 : Int32)) : Int32) = (5 : Int32) from by decide]
    refine XS.goto X42.here hx rfl (pc0 := 26) (pc' := 8) rfl (hb hby d23_26) (by decide) (by decide) ?_
    refine XS.iloadN X42.here hx rfl (hb hby d23_8) rfl ?_
    refine XS.aloadN X42.here hx rfl (hb hby d23_9) rfl rfl ?_
    refine X42.arraylength hx (by rw [e42]; exact Ar44.1) (State.isArrayOf_alike hZ.alike Ar44.2.1) (g := (mkF m 10 #[.val (.ref t), .val (.ref b2), .val (.int (5 : Int32))] [(.ref t), (.int (5 : Int32))])) rfl rfl (hb hby d23_10) _ ?_
    rw [len_of S44 M44]
    refine XS.icmpNo X42.here hx rfl (hb hby d23_11) rfl (tlt (show (5 : Int32) < (6 : Int32) from (by decide))).2.1 ?_
    show Steps p.tables e below (T42.setTop (mkF m 14 #[.val (.ref t), .val (.ref b2), .val (.int (5 : Int32))] [])) _
    refine XS.aloadN X42.here hx rfl (hb hby d23_14) rfl rfl ?_
    refine XS.iloadN X42.here hx rfl (hb hby d23_15) rfl ?_
    refine XS.aloadN X42.here hx rfl (hb hby d23_16) rfl rfl ?_
    refine XS.iloadN X42.here hx rfl (hb hby d23_17) rfl ?_
    refine X42.aaload hx (j := (5 : Int32)) (v := (.ref q)) (by rw [e42]; exact Ar45.1) (State.isArrayOf_alike hZ.alike Ar45.2.1) rfl Ar45.2.2 hin45 hat45 (g := (mkF m 18 #[.val (.ref t), .val (.ref b2), .val (.int (5 : Int32))] [(.int (5 : Int32)), (.ref t), (.int (5 : Int32)), (.ref b2)])) rfl rfl (hb hby d23_18) _ ?_
    refine st46 _ ?_
    show Steps p.tables e below (T46.setTop (mkF m 22 #[.val (.ref t), .val (.ref b2), .val (.int (5 : Int32))] [(.ref q), (.int (5 : Int32)), (.ref b2)])) _
    refine st50 _ ?_
    refine XS.iinc X50.here hx rfl (hb hby d23_23) rfl (l' := #[.val (.ref t), .val (.ref b2), .val (.int ((5 : Int32) + (1 : Int32)))]) rfl ?_
    show Steps p.tables e below (T50.setTop (mkF m 26 #[.val (.ref t), .val (.ref b2), .val (.int ((5 : Int32) + (1 : Int32)))] [])) _
    rw [show (((5 : Int32) + (1 : Int32)) : Int32) = (6 : Int32) from by decide]
    refine XS.goto X50.here hx rfl (pc0 := 26) (pc' := 8) rfl (hb hby d23_26) (by decide) (by decide) ?_
    refine XS.iloadN X50.here hx rfl (hb hby d23_8) rfl ?_
    refine XS.aloadN X50.here hx rfl (hb hby d23_9) rfl rfl ?_
    refine X50.arraylength hx (by rw [e50]; exact Ar52.1) (State.isArrayOf_alike hZ.alike Ar52.2.1) (g := (mkF m 10 #[.val (.ref t), .val (.ref b2), .val (.int (6 : Int32))] [(.ref t), (.int (6 : Int32))])) rfl rfl (hb hby d23_10) _ ?_
    rw [len_of S52 M52]
    refine XS.icmpYes X50.here hx rfl (pc0 := 11) (pc' := 29) rfl (hb hby d23_11) rfl (flt (show ¬ ((6 : Int32) < (6 : Int32)) from (by decide))).2.1 (by decide) (by decide) ?_
    show Steps p.tables e below (T50.setTop (mkF m 29 #[.val (.ref t), .val (.ref b2), .val (.int (6 : Int32))] [])) _
    refine st53 _ ?_
    refine XS.dup X53.here hx rfl (hb hby d23_32) rfl rfl ?_
    refine XS.aloadN X53.here hx rfl (hb hby d23_33) rfl rfl ?_
    refine XS.iconst X53.here hx rfl (hb hby d23_34) ?_
    refine st57.trans ?_
    jvm_step X57.here [X57.here.top, hx, (hb hby d23_38), X57.method', Bd.returns, Value.isRef, FieldType.isReference]
    first | (intro acts; rw [hr _ acts rfl rfl rfl]) | rw [hr _ _ rfl rfl rfl]
    exact Steps.refl _
  · show Qlf_6 Z t q kt h0 n0 _ T57.heap _
    exact ⟨b53, b2, k2, rfl, N57, kp59, p57_1, p57_2, f60_V_b2, sz_b53, sz_b2⟩
def Qofa_6 (Z : State) (t : Addr) (q : Addr) (em : Addr) (kt : ClassId) (h0 : Heap) (n0 : Nat) (v : Option Value) (h : Heap) (L : List Loc) : Prop := ∃ lst : Addr, v = some (.ref lst) ∧ Fr n0 L ∧ Keep h0 h [] ∧ Lg Z h h0.size (6 : Int32) q em lst
set_option maxRecDepth 65536 in
set_option maxHeartbeats 40000000 in
abbrev Rm_ofa_6 : Room := { frames := 6, cells := 2, slots := 8, locals := 77 }
theorem ofa_6 (l : Launch) (Z : State) (a0 : Array Value) (hw : ∀ d ∈ tables_1, d.before a0 Z = true) (ws : List Jvm.Cond) (t : Addr) (q : Addr) (em : Addr) (kt : ClassId) (h0 : Heap) (n0 : Nat) (Z0 : n0 ≤ h0.size) (V_t : Arv Z h0 t kt (.object "java/lang/Object") (6 : Int32) [(.ref q), (.ref q), (.ref q), (.ref q), (.ref q), (.ref q)] .null) (E_q : Exa Z h0 q "com/example/gleipnir/gleipnir/service/Counterplay$Position") (O_M : Sta Z Z.heap "java/util/ImmutableCollections" "EMPTY" "Ljava/lang/Object;" (.ref em)) (X00 : Old Z n0 h0) :
    MetFree l my26 (head1 (Jvm.Cond.code my26 jdk_40_method_47_code 2 (some (.object "java/util/List")) :: ws) Rm_ofa_6) (fun aa_ U => aa_ = #[(.ref t)] ∧ Z.Warmed39 U.vm ∧ U.heap = h0) (fun _ _ _ _ _ => True) (fun _ U oo_ U' => ∃ v L, oo_ = .returned v ∧ Qofa_6 Z t q em kt h0 n0 v U'.heap L ∧ FrameEnd U oo_ U' L Rm_ofa_6.cells Rm_ofa_6.slots) := by
  refine MetFree.of_bodySF (plainFor_of_name pn_6) hisR ?_
  intro p e s m args below meth c s₁ Bd hml0 hP hK
  obtain ⟨rfl, hZ, hh⟩ := hP
  have hx := Bd.exec
  have hby := Bd.bytes
  have hml : c.maxLocals = 2 := hml0
  have hown : s.vm.findClass "java/util/List" = some m.cls := findClass_of_methodNamed Bd.named
  have hnm := (name_of_methodNamed Bd.named Bd.method).1
  have X0 : Stand p l e Rm_ofa_6 s m #[(.ref t)] below meth c s₁ [] 0 0 := Stand.of_body Bd
  have e0 : s₁.heap = h0 := by rw [← hh, Bd.state]; rfl
  have N0 := Fr.nil n0
  have pre0 : ∀ tt_, Steps p.tables e below (s₁.setTop (mkF m 0 #[.val (.ref t), .unset] [])) tt_ → Steps p.tables e below (s₁.setTop (entryFrame m #[(.ref t)] 2)) tt_ := fun tt_ kk_ => castTop (ef_22 m t) kk_
  obtain ⟨cl1, Ar1, -, S1, M1, -, -⟩ := id V_t
  obtain ⟨_, _, ⟨T2, L2, k2, n2⟩, -, X2, ⟨Lc2, hQ2, l2, y2, z2⟩, st2⟩ := Jvm.LawKit.callS X0 hx (y := my27) hown (mvT hZ (hwd146 hw)) (mvT hZ (hwd147 hw)) (mvT hZ (hwd45 hw)) (mvT hZ (hwd148 hw)) (by decide) (backOf (W := 0) (lf_6 l Z a0 hw [] t q kt h0 n0 Z0 V_t E_q) hZ (hwd148 hw) (hwd45 hw) (by decide) (by decide)) (g := (mkF m 60 #[.val (.ref t), .unset] [(.ref t)])) rfl (by rw [hml]; rfl) (argsL := [(.ref t)]) (rest := []) (lenOf pd_13 rfl) rfl (by show 2 * 0 + _ ≤ _; exact Nat.le_of_eq rfl) (hb hby d22_60) (fun _ _ => ⟨rfl, e0, (by decide : 0 + 2 ≤ _), (by decide : 0 + 8 ≤ _)⟩)
  dsimp only [Pt.U, Pt.locs, Pt.cells, Pt.slots] at X2 l2 y2 z2 st2 hQ2
  subst l2 y2 z2
  obtain ⟨lst_e2, tt_e2, ktt_e2, rfl, N2q, K2, p2_1, p2_2, p2_3, sz_lst_2, sz_tt_2⟩ := hQ2
  have N2 := Fr.app N0 N2q
  have kp3 : Keep h0 T2.heap [] := ((Keep.refl h0 []).trans K2 all0)
  obtain ⟨fs, hr, hrun, hended, hW, hsame⟩ := X2.leave (v := some (.ref lst_e2)) (fun h => by rw [Bd.returns] at h; cases h)
  refine ⟨_, _, pre0 _ ?_, hrun, hended, _, _, rfl, ?_, ⟨_, rfl⟩, hW, hsame.mono (by decide) (by decide)⟩
  · show Steps p.tables e below (s₁.setTop (mkF m 0 #[.val (.ref t), .unset] [])) _
    refine XS.aloadN X0.here hx rfl (hb hby d22_0) rfl rfl ?_
    refine X0.arraylength hx (by rw [e0]; exact Ar1.1) (State.isArrayOf_alike hZ.alike Ar1.2.1) (g := (mkF m 1 #[.val (.ref t), .unset] [(.ref t)])) rfl rfl (hb hby d22_1) _ ?_
    rw [len_of S1 M1]
    refine XS.tswOut X0.here hx rfl (pc0 := 2) (pc' := 59) rfl (hb hby d22_2) rfl (by decide) (by decide) (by decide) ?_
    refine XS.aloadN X0.here hx rfl (hb hby d22_59) rfl rfl ?_
    refine st2 _ ?_
    jvm_step X2.here [X2.here.top, hx, (hb hby d22_63), X2.method', Bd.returns, Value.isRef, FieldType.isReference]
    first | (intro acts; rw [hr _ acts rfl rfl rfl]) | rw [hr _ _ rfl rfl rfl]
    exact Steps.refl _
  · show Qofa_6 Z t q em kt h0 n0 _ T2.heap _
    exact ⟨lst_e2, rfl, N2, kp3, ⟨(Nat.le_trans (Keep.refl h0 []).1 sz_lst_2), Or.inr (Or.inr ⟨tt_e2, _, _, (Nat.le_trans (Keep.refl h0 []).1 sz_tt_2), p2_1, p2_2, p2_3⟩)⟩⟩
def Qc3 (Z : State) (b : Addr) (q : Addr) (mr : Addr) (kb : ClassId) (n : Nat) (z : Int32) (h0 : Heap) (n0 : Nat) (v : Option Value) (h : Heap) (L : List Loc) : Prop := ∃ t : Addr, ∃ kt : ClassId, v = some (.ref t) ∧ Fr n0 L ∧ Keep h0 h [] ∧ Arv Z h t kt (.object "java/lang/Object") z (vm q n) .null ∧ Exa Z h t "[Ljava/lang/Object;" ∧ Ovr Z kt "java/lang/Object" ∧ n0 ≤ t ∧ h0.size ≤ t
abbrev Rm_c3 : Room := { frames := 1, cells := 1, slots := 6, locals := 18 }
theorem c3 (l : Launch) (Z : State) (a0 : Array Value) (hw : ∀ d ∈ tables_1, d.before a0 Z = true) (ws : List Jvm.Cond) (b : Addr) (q : Addr) (mr : Addr) (kb : ClassId) (n : Nat) (z : Int32) (h0 : Heap) (n0 : Nat) (Z0 : n0 ≤ h0.size) (V_b : Arv Z h0 b kb (.object "java/lang/Object") (10 : Int32) (vl q n) .null) (E_q : Exa Z h0 q "com/example/gleipnir/gleipnir/service/Counterplay$Position") (Mr : Mir Z "[Ljava/lang/Object;" mr) (hn : HN n z) :
    MetFree l my25 (head1 (Jvm.Cond.code my25 jdk_65_method_120_code 4 (some (.array (.object "java/lang/Object"))) :: ws) Rm_c3) (fun aa_ U => aa_ = #[(.ref b), (.int z), (.ref mr)] ∧ Z.Warmed39 U.vm ∧ U.heap = h0) (fun _ _ _ _ _ => True) (fun _ U oo_ U' => ∃ v L, oo_ = .returned v ∧ Qc3 Z b q mr kb n z h0 n0 v U'.heap L ∧ FrameEnd U oo_ U' L Rm_c3.cells Rm_c3.slots) := by
  rcases hn with ⟨rfl, rfl⟩ | ⟨rfl, rfl⟩ | ⟨rfl, rfl⟩ | ⟨rfl, rfl⟩ | ⟨rfl, rfl⟩ | ⟨rfl, rfl⟩
  · exact c3_1 l Z a0 hw ws b q mr kb h0 n0 Z0 V_b E_q Mr
  · exact c3_2 l Z a0 hw ws b q mr kb h0 n0 Z0 V_b E_q Mr
  · exact c3_3 l Z a0 hw ws b q mr kb h0 n0 Z0 V_b E_q Mr
  · exact c3_4 l Z a0 hw ws b q mr kb h0 n0 Z0 V_b E_q Mr
  · exact c3_5 l Z a0 hw ws b q mr kb h0 n0 Z0 V_b E_q Mr
  · exact c3_6 l Z a0 hw ws b q mr kb h0 n0 Z0 V_b E_q Mr
def Qofa (Z : State) (t : Addr) (q : Addr) (em : Addr) (kt : ClassId) (n : Nat) (z : Int32) (h0 : Heap) (n0 : Nat) (v : Option Value) (h : Heap) (L : List Loc) : Prop := ∃ lst : Addr, v = some (.ref lst) ∧ Fr n0 L ∧ Keep h0 h [] ∧ Lg Z h h0.size z q em lst
abbrev Rm_ofa : Room := { frames := 6, cells := 2, slots := 8, locals := 77 }
theorem ofa (l : Launch) (Z : State) (a0 : Array Value) (hw : ∀ d ∈ tables_1, d.before a0 Z = true) (ws : List Jvm.Cond) (t : Addr) (q : Addr) (em : Addr) (kt : ClassId) (n : Nat) (z : Int32) (h0 : Heap) (n0 : Nat) (Z0 : n0 ≤ h0.size) (V_t : Arv Z h0 t kt (.object "java/lang/Object") z (vm q n) .null) (E_q : Exa Z h0 q "com/example/gleipnir/gleipnir/service/Counterplay$Position") (O_M : Sta Z Z.heap "java/util/ImmutableCollections" "EMPTY" "Ljava/lang/Object;" (.ref em)) (X00 : Old Z n0 h0) (hn : HN n z) :
    MetFree l my26 (head1 (Jvm.Cond.code my26 jdk_40_method_47_code 2 (some (.object "java/util/List")) :: ws) Rm_ofa) (fun aa_ U => aa_ = #[(.ref t)] ∧ Z.Warmed39 U.vm ∧ U.heap = h0) (fun _ _ _ _ _ => True) (fun _ U oo_ U' => ∃ v L, oo_ = .returned v ∧ Qofa Z t q em kt n z h0 n0 v U'.heap L ∧ FrameEnd U oo_ U' L Rm_ofa.cells Rm_ofa.slots) := by
  rcases hn with ⟨rfl, rfl⟩ | ⟨rfl, rfl⟩ | ⟨rfl, rfl⟩ | ⟨rfl, rfl⟩ | ⟨rfl, rfl⟩ | ⟨rfl, rfl⟩
  · exact ofa_1 l Z a0 hw ws t q em kt h0 n0 Z0 V_t E_q O_M X00
  · exact ofa_2 l Z a0 hw ws t q em kt h0 n0 Z0 V_t E_q O_M X00
  · exact ofa_3 l Z a0 hw ws t q em kt h0 n0 Z0 V_t E_q O_M X00
  · exact ofa_4 l Z a0 hw ws t q em kt h0 n0 Z0 V_t E_q O_M X00
  · exact ofa_5 l Z a0 hw ws t q em kt h0 n0 Z0 V_t E_q O_M X00
  · exact ofa_6 l Z a0 hw ws t q em kt h0 n0 Z0 V_t E_q O_M X00
theorem hwd125 {Z : State} {a0 : Array Value} (hw : ∀ d ∈ tables_1, d.before a0 Z = true) : (Jvm.Cond.methodLink "java/util/Arrays" (86 : Nat) ({ cls := "java/lang/Object", name := "getClass", desc := "()Ljava/lang/Class;" } : Jvm.MethodName)).before a0 Z = true := hw _ (List.mem_of_getElem? (i := 125) rfl)
theorem hwd126 {Z : State} {a0 : Array Value} (hw : ∀ d ∈ tables_1, d.before a0 Z = true) : (Jvm.Cond.declares ({ cls := "java/lang/Object", name := "getClass", desc := "()Ljava/lang/Class;" } : Jvm.MethodName)).before a0 Z = true := hw _ (List.mem_of_getElem? (i := 126) rfl)
theorem hwd128 {Z : State} {a0 : Array Value} (hw : ∀ d ∈ tables_1, d.before a0 Z = true) : (Jvm.Cond.selects "[Ljava/lang/Object;" ({ cls := "java/lang/Object", name := "getClass", desc := "()Ljava/lang/Class;" } : Jvm.MethodName) ({ cls := "java/lang/Object", name := "getClass", desc := "()Ljava/lang/Class;" } : Jvm.MethodName)).before a0 Z = true := hw _ (List.mem_of_getElem? (i := 128) rfl)
theorem hwd127 {Z : State} {a0 : Array Value} (hw : ∀ d ∈ tables_1, d.before a0 Z = true) : (Jvm.Cond.instanceMethod ({ cls := "java/lang/Object", name := "getClass", desc := "()Ljava/lang/Class;" } : Jvm.MethodName)).before a0 Z = true := hw _ (List.mem_of_getElem? (i := 127) rfl)
theorem hwd129 {Z : State} {a0 : Array Value} (hw : ∀ d ∈ tables_1, d.before a0 Z = true) : (Jvm.Cond.native ({ cls := "java/lang/Object", name := "getClass", desc := "()Ljava/lang/Class;" } : Jvm.MethodName)).before a0 Z = true := hw _ (List.mem_of_getElem? (i := 129) rfl)
theorem hwd131 {Z : State} {a0 : Array Value} (hw : ∀ d ∈ tables_1, d.before a0 Z = true) : (Jvm.Cond.methodLink "java/util/Arrays" (300 : Nat) ({ cls := "java/util/Arrays", name := "copyOf", desc := "([Ljava/lang/Object;ILjava/lang/Class;)[Ljava/lang/Object;" } : Jvm.MethodName)).before a0 Z = true := hw _ (List.mem_of_getElem? (i := 131) rfl)
theorem hwd133 {Z : State} {a0 : Array Value} (hw : ∀ d ∈ tables_1, d.before a0 Z = true) : (Jvm.Cond.code ({ cls := "java/util/Arrays", name := "copyOf", desc := "([Ljava/lang/Object;ILjava/lang/Class;)[Ljava/lang/Object;" } : Jvm.MethodName) jdk_65_method_120_code (4 : Nat) (Option.some (Jvm.ClassFile.FieldType.array (Jvm.ClassFile.FieldType.object "java/lang/Object")))).before a0 Z = true := hw _ (List.mem_of_getElem? (i := 133) rfl)
theorem hwd123 {Z : State} {a0 : Array Value} (hw : ∀ d ∈ tables_1, d.before a0 Z = true) : (Jvm.Cond.initialized "java/util/Arrays").before a0 Z = true := hw _ (List.mem_of_getElem? (i := 123) rfl)
theorem pd_14 : parseMethodDescriptor "([Ljava/lang/Object;ILjava/lang/Class;)[Ljava/lang/Object;" = some ⟨[(.array (.object "java/lang/Object")), .int, (.object "java/lang/Class")], some (.array (.object "java/lang/Object"))⟩ := by decide +kernel
theorem hwd132 {Z : State} {a0 : Array Value} (hw : ∀ d ∈ tables_1, d.before a0 Z = true) : (Jvm.Cond.static ({ cls := "java/util/Arrays", name := "copyOf", desc := "([Ljava/lang/Object;ILjava/lang/Class;)[Ljava/lang/Object;" } : Jvm.MethodName)).before a0 Z = true := hw _ (List.mem_of_getElem? (i := 132) rfl)
theorem d19_0 : decode jdk_65_method_119_code 0 = .ok (.aload_n 0, 1) := by decide +kernel
theorem d19_1 : decode jdk_65_method_119_code 1 = .ok (.iload_n 1, 1) := by decide +kernel
theorem d19_2 : decode jdk_65_method_119_code 2 = .ok (.aload_n 0, 1) := by decide +kernel
theorem d19_3 : decode jdk_65_method_119_code 3 = .ok (.invokevirtual 86, 3) := by decide +kernel
theorem d19_6 : decode jdk_65_method_119_code 6 = .ok (.invokestatic 300, 3) := by decide +kernel
theorem d19_9 : decode jdk_65_method_119_code 9 = .ok (.areturn, 1) := by decide +kernel
theorem ef_19 (m : MethodId) (x0 : Addr) (x1 : Int32) : entryFrame m #[(.ref x0), (.int x1)] 2 = mkF m 0 #[.val (.ref x0), .val (.int x1)] [] := by first | (simp [entryFrame, mkF, argsToLocals, Value.category]; done) | rfl
def Qc2 (Z : State) (b : Addr) (q : Addr) (mr : Addr) (kb : ClassId) (n : Nat) (z : Int32) (h0 : Heap) (n0 : Nat) (v : Option Value) (h : Heap) (L : List Loc) : Prop := ∃ t : Addr, ∃ kt : ClassId, v = some (.ref t) ∧ Fr n0 L ∧ Keep h0 h [] ∧ Arv Z h t kt (.object "java/lang/Object") z (vm q n) .null ∧ Exa Z h t "[Ljava/lang/Object;" ∧ Ovr Z kt "java/lang/Object" ∧ n0 ≤ t ∧ h0.size ≤ t
set_option maxRecDepth 65536 in
set_option maxHeartbeats 40000000 in
abbrev my28 : MethodName := ⟨"java/util/Arrays", "copyOf", "([Ljava/lang/Object;I)[Ljava/lang/Object;"⟩
abbrev Rm_c2 : Room := { frames := 2, cells := 1, slots := 6, locals := 33 }
theorem c2 (l : Launch) (Z : State) (a0 : Array Value) (hw : ∀ d ∈ tables_1, d.before a0 Z = true) (ws : List Jvm.Cond) (b : Addr) (q : Addr) (mr : Addr) (kb : ClassId) (n : Nat) (z : Int32) (h0 : Heap) (n0 : Nat) (Z0 : n0 ≤ h0.size) (V_b : Arv Z h0 b kb (.object "java/lang/Object") (10 : Int32) (vl q n) .null) (E_b : Exa Z h0 b "[Ljava/lang/Object;") (E_q : Exa Z h0 q "com/example/gleipnir/gleipnir/service/Counterplay$Position") (Mr : Mir Z "[Ljava/lang/Object;" mr) (hn : HN n z) :
    MetFree l my28 (head1 (Jvm.Cond.code my28 jdk_65_method_119_code 2 (some (.array (.object "java/lang/Object"))) :: ws) Rm_c2) (fun aa_ U => aa_ = #[(.ref b), (.int z)] ∧ Z.Warmed39 U.vm ∧ U.heap = h0) (fun _ _ _ _ _ => True) (fun _ U oo_ U' => ∃ v L, oo_ = .returned v ∧ Qc2 Z b q mr kb n z h0 n0 v U'.heap L ∧ FrameEnd U oo_ U' L Rm_c2.cells Rm_c2.slots) := by
  refine MetFree.of_bodySF (plainFor_of_name pn_15) hisR ?_
  intro p e s m args below meth c s₁ Bd hml0 hP hK
  obtain ⟨rfl, hZ, hh⟩ := hP
  have hx := Bd.exec
  have hby := Bd.bytes
  have hml : c.maxLocals = 2 := hml0
  have hown : s.vm.findClass "java/util/Arrays" = some m.cls := findClass_of_methodNamed Bd.named
  have hnm := (name_of_methodNamed Bd.named Bd.method).1
  have X0 : Stand p l e Rm_c2 s m #[(.ref b), (.int z)] below meth c s₁ [] 0 0 := Stand.of_body Bd
  have e0 : s₁.heap = h0 := by rw [← hh, Bd.state]; rfl
  have N0 := Fr.nil n0
  have pre0 : ∀ tt_, Steps p.tables e below (s₁.setTop (mkF m 0 #[.val (.ref b), .val (.int z)] [])) tt_ → Steps p.tables e below (s₁.setTop (entryFrame m #[(.ref b), (.int z)] 2)) tt_ := fun tt_ kk_ => castTop (ef_19 m b z) kk_
  obtain ⟨T1, X1, e1, st1⟩ := gcls X0 hx hZ hown (hwd125 hw) (hwd126 hw) (hwd51 hw) (hwd128 hw) (hwd127 hw) (hwd129 hw) e0 E_b Mr (g := (mkF m 3 #[.val (.ref b), .val (.int z)] [(.ref b), (.int z), (.ref b)])) rfl (by rw [hml]; rfl) rfl (hb hby d19_3) (by decide) (W := 2) (by show 2 * 0 + _ ≤ _; exact Nat.le_of_eq rfl) (by decide)
  obtain ⟨_, _, ⟨T2, L2, k2, n2⟩, -, X2, ⟨Lc2, hQ2, l2, y2, z2⟩, st2⟩ := Jvm.LawKit.callS X1 hx (y := my25) hown (mvT hZ (hwd131 hw)) (mvT hZ (hwd132 hw)) (mvT hZ (hwd123 hw)) (mvT hZ (hwd133 hw)) (by decide) (backOf (W := 0) (c3 l Z a0 hw [] b q mr kb n z h0 n0 Z0 V_b E_q Mr hn) hZ (hwd133 hw) (hwd123 hw) (by decide) (by decide)) (g := (mkF m 6 #[.val (.ref b), .val (.int z)] [(.ref mr), (.int z), (.ref b)])) rfl (by rw [hml]; rfl) (argsL := [(.ref b), (.int z), (.ref mr)]) (rest := []) (lenOf pd_14 rfl) rfl (by show 2 * 0 + _ ≤ _; exact Nat.le_of_eq rfl) (hb hby d19_6) (fun _ _ => ⟨rfl, e1, (by decide : 0 + 1 ≤ _), (by decide : 0 + 6 ≤ _)⟩)
  dsimp only [Pt.U, Pt.locs, Pt.cells, Pt.slots] at X2 l2 y2 z2 st2 hQ2
  subst l2 y2 z2
  obtain ⟨t_e2, kt_e2, rfl, N2q, K2, p2_1, p2_2, O_t_2, g_t_2, sz_t_2⟩ := hQ2
  have N2 := Fr.app N0 N2q
  have kp3 : Keep h0 T2.heap [] := ((Keep.refl h0 []).trans K2 all0)
  obtain ⟨fs, hr, hrun, hended, hW, hsame⟩ := X2.leave (v := some (.ref t_e2)) (fun h => by rw [Bd.returns] at h; cases h)
  refine ⟨_, _, pre0 _ ?_, hrun, hended, _, _, rfl, ?_, ⟨_, rfl⟩, hW, hsame.mono (by decide) (by decide)⟩
  · show Steps p.tables e below (s₁.setTop (mkF m 0 #[.val (.ref b), .val (.int z)] [])) _
    refine XS.aloadN X0.here hx rfl (hb hby d19_0) rfl rfl ?_
    refine XS.iloadN X0.here hx rfl (hb hby d19_1) rfl ?_
    refine XS.aloadN X0.here hx rfl (hb hby d19_2) rfl rfl ?_
    refine st1 _ ?_
    refine st2 _ ?_
    jvm_step X2.here [X2.here.top, hx, (hb hby d19_9), X2.method', Bd.returns, Value.isRef, FieldType.isReference]
    first | (intro acts; rw [hr _ acts rfl rfl rfl]) | rw [hr _ _ rfl rfl rfl]
    exact Steps.refl _
  · show Qc2 Z b q mr kb n z h0 n0 _ T2.heap _
    exact ⟨t_e2, kt_e2, rfl, N2, kp3, p2_1, p2_2, O_t_2, g_t_2, (Nat.le_trans (Keep.refl h0 []).1 sz_t_2)⟩
theorem hwd121 {Z : State} {a0 : Array Value} (hw : ∀ d ∈ tables_1, d.before a0 Z = true) : (Jvm.Cond.methodLink "java/util/ArrayList" (66 : Nat) ({ cls := "java/util/Arrays", name := "copyOf", desc := "([Ljava/lang/Object;I)[Ljava/lang/Object;" } : Jvm.MethodName)).before a0 Z = true := hw _ (List.mem_of_getElem? (i := 121) rfl)
theorem hwd124 {Z : State} {a0 : Array Value} (hw : ∀ d ∈ tables_1, d.before a0 Z = true) : (Jvm.Cond.code ({ cls := "java/util/Arrays", name := "copyOf", desc := "([Ljava/lang/Object;I)[Ljava/lang/Object;" } : Jvm.MethodName) jdk_65_method_119_code (2 : Nat) (Option.some (Jvm.ClassFile.FieldType.array (Jvm.ClassFile.FieldType.object "java/lang/Object")))).before a0 Z = true := hw _ (List.mem_of_getElem? (i := 124) rfl)
theorem pd_15 : parseMethodDescriptor "([Ljava/lang/Object;I)[Ljava/lang/Object;" = some ⟨[(.array (.object "java/lang/Object")), .int], some (.array (.object "java/lang/Object"))⟩ := by decide +kernel
theorem hwd122 {Z : State} {a0 : Array Value} (hw : ∀ d ∈ tables_1, d.before a0 Z = true) : (Jvm.Cond.static ({ cls := "java/util/Arrays", name := "copyOf", desc := "([Ljava/lang/Object;I)[Ljava/lang/Object;" } : Jvm.MethodName)).before a0 Z = true := hw _ (List.mem_of_getElem? (i := 122) rfl)
theorem d18_0 : decode jdk_38_method_16_code 0 = .ok (.aload_n 0, 1) := by decide +kernel
theorem d18_1 : decode jdk_38_method_16_code 1 = .ok (.getfield 9, 3) := by decide +kernel
theorem d18_4 : decode jdk_38_method_16_code 4 = .ok (.aload_n 0, 1) := by decide +kernel
theorem d18_5 : decode jdk_38_method_16_code 5 = .ok (.getfield 48, 3) := by decide +kernel
theorem d18_8 : decode jdk_38_method_16_code 8 = .ok (.invokestatic 66, 3) := by decide +kernel
theorem d18_11 : decode jdk_38_method_16_code 11 = .ok (.areturn, 1) := by decide +kernel
theorem ef_18 (m : MethodId) (x0 : Addr) : entryFrame m #[(.ref x0)] 1 = mkF m 0 #[.val (.ref x0)] [] := by first | (simp [entryFrame, mkF, argsToLocals, Value.category]; done) | rfl
def Qta (Z : State) (a : Addr) (b : Addr) (q : Addr) (mr : Addr) (kb : ClassId) (n : Nat) (z : Int32) (h0 : Heap) (n0 : Nat) (v : Option Value) (h : Heap) (L : List Loc) : Prop := ∃ t : Addr, ∃ kt : ClassId, v = some (.ref t) ∧ Fr n0 L ∧ Keep h0 h [] ∧ Arv Z h t kt (.object "java/lang/Object") z (vm q n) .null ∧ Exa Z h t "[Ljava/lang/Object;" ∧ Ovr Z kt "java/lang/Object" ∧ n0 ≤ t ∧ h0.size ≤ t
set_option maxRecDepth 65536 in
set_option maxHeartbeats 40000000 in
abbrev my29 : MethodName := ⟨"java/util/ArrayList", "toArray", "()[Ljava/lang/Object;"⟩
abbrev Rm_ta : Room := { frames := 3, cells := 1, slots := 6, locals := 46 }
theorem ta (l : Launch) (Z : State) (a0 : Array Value) (hw : ∀ d ∈ tables_1, d.before a0 Z = true) (ws : List Jvm.Cond) (a : Addr) (b : Addr) (q : Addr) (mr : Addr) (kb : ClassId) (n : Nat) (z : Int32) (h0 : Heap) (n0 : Nat) (Z0 : n0 ≤ h0.size) (F_size_a : Fld Z h0 a "java/util/ArrayList" "size" "I" (.int z)) (F_elementData_a : Fld Z h0 a "java/util/ArrayList" "elementData" "[Ljava/lang/Object;" (.ref b)) (V_b : Arv Z h0 b kb (.object "java/lang/Object") (10 : Int32) (vl q n) .null) (E_b : Exa Z h0 b "[Ljava/lang/Object;") (E_q : Exa Z h0 q "com/example/gleipnir/gleipnir/service/Counterplay$Position") (Mr : Mir Z "[Ljava/lang/Object;" mr) (hn : HN n z) :
    MetFree l my29 (head1 (Jvm.Cond.code my29 jdk_38_method_16_code 1 (some (.array (.object "java/lang/Object"))) :: ws) Rm_ta) (fun aa_ U => aa_ = #[(.ref a)] ∧ Z.Warmed39 U.vm ∧ U.heap = h0) (fun _ _ _ _ _ => True) (fun _ U oo_ U' => ∃ v L, oo_ = .returned v ∧ Qta Z a b q mr kb n z h0 n0 v U'.heap L ∧ FrameEnd U oo_ U' L Rm_ta.cells Rm_ta.slots) := by
  refine MetFree.of_bodySF (plainFor_of_name pn_5) hisR ?_
  intro p e s m args below meth c s₁ Bd hml0 hP hK
  obtain ⟨rfl, hZ, hh⟩ := hP
  have hx := Bd.exec
  have hby := Bd.bytes
  have hml : c.maxLocals = 1 := hml0
  have hown : s.vm.findClass "java/util/ArrayList" = some m.cls := findClass_of_methodNamed Bd.named
  have hnm := (name_of_methodNamed Bd.named Bd.method).1
  have X0 : Stand p l e Rm_ta s m #[(.ref a)] below meth c s₁ [] 0 0 := Stand.of_body Bd
  have e0 : s₁.heap = h0 := by rw [← hh, Bd.state]; rfl
  have N0 := Fr.nil n0
  have pre0 : ∀ tt_, Steps p.tables e below (s₁.setTop (mkF m 0 #[.val (.ref a)] [])) tt_ → Steps p.tables e below (s₁.setTop (entryFrame m #[(.ref a)] 1)) tt_ := fun tt_ kk_ => castTop (ef_18 m a) kk_
  obtain ⟨T1, X1, e1, st1⟩ := getF X0 hx hZ hown (host := "") (Or.inl (hwd25 hw)) Via.refl e0 F_elementData_a (g := (mkF m 1 #[.val (.ref a)] [(.ref a)])) rfl rfl (hb hby d18_1)
  obtain ⟨T2, X2, e2, st2⟩ := getF X1 hx hZ hown (host := "") (Or.inl (hwd62 hw)) Via.refl e1 F_size_a (g := (mkF m 5 #[.val (.ref a)] [(.ref a), (.ref b)])) rfl rfl (hb hby d18_5)
  obtain ⟨_, _, ⟨T3, L3, k3, n3⟩, -, X3, ⟨Lc3, hQ3, l3, y3, z3⟩, st3⟩ := Jvm.LawKit.callS X2 hx (y := my28) hown (mvT hZ (hwd121 hw)) (mvT hZ (hwd122 hw)) (mvT hZ (hwd123 hw)) (mvT hZ (hwd124 hw)) (by decide) (backOf (W := 0) (c2 l Z a0 hw [] b q mr kb n z h0 n0 Z0 V_b E_b E_q Mr hn) hZ (hwd124 hw) (hwd123 hw) (by decide) (by decide)) (g := (mkF m 8 #[.val (.ref a)] [(.int z), (.ref b)])) rfl (by rw [hml]; rfl) (argsL := [(.ref b), (.int z)]) (rest := []) (lenOf pd_15 rfl) rfl (by show 2 * 0 + _ ≤ _; exact Nat.le_of_eq rfl) (hb hby d18_8) (fun _ _ => ⟨rfl, e2, (by decide : 0 + 1 ≤ _), (by decide : 0 + 6 ≤ _)⟩)
  dsimp only [Pt.U, Pt.locs, Pt.cells, Pt.slots] at X3 l3 y3 z3 st3 hQ3
  subst l3 y3 z3
  obtain ⟨t_e3, kt_e3, rfl, N3q, K3, p3_1, p3_2, O_t_3, g_t_3, sz_t_3⟩ := hQ3
  have N3 := Fr.app N0 N3q
  have kp4 : Keep h0 T3.heap [] := ((Keep.refl h0 []).trans K3 all0)
  obtain ⟨fs, hr, hrun, hended, hW, hsame⟩ := X3.leave (v := some (.ref t_e3)) (fun h => by rw [Bd.returns] at h; cases h)
  refine ⟨_, _, pre0 _ ?_, hrun, hended, _, _, rfl, ?_, ⟨_, rfl⟩, hW, hsame.mono (by decide) (by decide)⟩
  · show Steps p.tables e below (s₁.setTop (mkF m 0 #[.val (.ref a)] [])) _
    refine XS.aloadN X0.here hx rfl (hb hby d18_0) rfl rfl ?_
    refine st1 _ ?_
    refine XS.aloadN X1.here hx rfl (hb hby d18_4) rfl rfl ?_
    refine st2 _ ?_
    refine st3 _ ?_
    jvm_step X3.here [X3.here.top, hx, (hb hby d18_11), X3.method', Bd.returns, Value.isRef, FieldType.isReference]
    first | (intro acts; rw [hr _ acts rfl rfl rfl]) | rw [hr _ _ rfl rfl rfl]
    exact Steps.refl _
  · show Qta Z a b q mr kb n z h0 n0 _ T3.heap _
    exact ⟨t_e3, kt_e3, rfl, N3, kp4, p3_1, p3_2, O_t_3, g_t_3, (Nat.le_trans (Keep.refl h0 []).1 sz_t_3)⟩
theorem hwd113 {Z : State} {a0 : Array Value} (hw : ∀ d ∈ tables_1, d.before a0 Z = true) : (Jvm.Cond.methodLink "java/util/ImmutableCollections" (30 : Nat) ({ cls := "java/util/Collection", name := "toArray", desc := "()[Ljava/lang/Object;" } : Jvm.MethodName)).before a0 Z = true := hw _ (List.mem_of_getElem? (i := 113) rfl)
theorem hwd120 {Z : State} {a0 : Array Value} (hw : ∀ d ∈ tables_1, d.before a0 Z = true) : (Jvm.Cond.code ({ cls := "java/util/ArrayList", name := "toArray", desc := "()[Ljava/lang/Object;" } : Jvm.MethodName) jdk_38_method_16_code (1 : Nat) (Option.some (Jvm.ClassFile.FieldType.array (Jvm.ClassFile.FieldType.object "java/lang/Object")))).before a0 Z = true := hw _ (List.mem_of_getElem? (i := 120) rfl)
theorem hwd116 {Z : State} {a0 : Array Value} (hw : ∀ d ∈ tables_1, d.before a0 Z = true) : (Jvm.Cond.selects "java/util/ArrayList" ({ cls := "java/util/Collection", name := "toArray", desc := "()[Ljava/lang/Object;" } : Jvm.MethodName) ({ cls := "java/util/ArrayList", name := "toArray", desc := "()[Ljava/lang/Object;" } : Jvm.MethodName)).before a0 Z = true := hw _ (List.mem_of_getElem? (i := 116) rfl)
abbrev my30 : MethodName := ⟨"java/util/Collection", "toArray", "()[Ljava/lang/Object;"⟩
theorem hwd114 {Z : State} {a0 : Array Value} (hw : ∀ d ∈ tables_1, d.before a0 Z = true) : (Jvm.Cond.declares ({ cls := "java/util/Collection", name := "toArray", desc := "()[Ljava/lang/Object;" } : Jvm.MethodName)).before a0 Z = true := hw _ (List.mem_of_getElem? (i := 114) rfl)
theorem hwd115 {Z : State} {a0 : Array Value} (hw : ∀ d ∈ tables_1, d.before a0 Z = true) : (Jvm.Cond.interfaceMethod "java/util/Collection" "java/util/Collection" "toArray" "()[Ljava/lang/Object;").before a0 Z = true := hw _ (List.mem_of_getElem? (i := 115) rfl)
theorem hwd117 {Z : State} {a0 : Array Value} (hw : ∀ d ∈ tables_1, d.before a0 Z = true) : (Jvm.Cond.instanceMethod ({ cls := "java/util/ArrayList", name := "toArray", desc := "()[Ljava/lang/Object;" } : Jvm.MethodName)).before a0 Z = true := hw _ (List.mem_of_getElem? (i := 117) rfl)
theorem hwd118 {Z : State} {a0 : Array Value} (hw : ∀ d ∈ tables_1, d.before a0 Z = true) : (Jvm.Cond.publicMethod ({ cls := "java/util/ArrayList", name := "toArray", desc := "()[Ljava/lang/Object;" } : Jvm.MethodName)).before a0 Z = true := hw _ (List.mem_of_getElem? (i := 118) rfl)
theorem hwd119 {Z : State} {a0 : Array Value} (hw : ∀ d ∈ tables_1, d.before a0 Z = true) : (Jvm.Cond.unhidden "java/util/ArrayList" "toArray" "()[Ljava/lang/Object;").before a0 Z = true := hw _ (List.mem_of_getElem? (i := 119) rfl)
theorem hwd143 {Z : State} {a0 : Array Value} (hw : ∀ d ∈ tables_1, d.before a0 Z = true) : (Jvm.Cond.methodLink "java/util/ImmutableCollections" (34 : Nat) ({ cls := "java/util/List", name := "of", desc := "([Ljava/lang/Object;)Ljava/util/List;" } : Jvm.MethodName)).before a0 Z = true := hw _ (List.mem_of_getElem? (i := 143) rfl)
theorem hwd145 {Z : State} {a0 : Array Value} (hw : ∀ d ∈ tables_1, d.before a0 Z = true) : (Jvm.Cond.code ({ cls := "java/util/List", name := "of", desc := "([Ljava/lang/Object;)Ljava/util/List;" } : Jvm.MethodName) jdk_40_method_47_code (2 : Nat) (Option.some (Jvm.ClassFile.FieldType.object "java/util/List"))).before a0 Z = true := hw _ (List.mem_of_getElem? (i := 145) rfl)
theorem hwd144 {Z : State} {a0 : Array Value} (hw : ∀ d ∈ tables_1, d.before a0 Z = true) : (Jvm.Cond.static ({ cls := "java/util/List", name := "of", desc := "([Ljava/lang/Object;)Ljava/util/List;" } : Jvm.MethodName)).before a0 Z = true := hw _ (List.mem_of_getElem? (i := 144) rfl)
theorem d8_44 : decode jdk_56_method_3_code 44 = .ok (.aload_n 0, 1) := by decide +kernel
theorem d8_45 : decode jdk_56_method_3_code 45 = .ok (.invokeinterface 30 1, 5) := by decide +kernel
theorem d8_50 : decode jdk_56_method_3_code 50 = .ok (.invokestatic 34, 3) := by decide +kernel
theorem d8_53 : decode jdk_56_method_3_code 53 = .ok (.areturn, 1) := by decide +kernel
def Qlc (Z : State) (a : Addr) (b : Addr) (q : Addr) (em : Addr) (mr : Addr) (kb : ClassId) (n : Nat) (z : Int32) (h0 : Heap) (n0 : Nat) (v : Option Value) (h : Heap) (L : List Loc) : Prop := ∃ lst : Addr, v = some (.ref lst) ∧ Fr n0 L ∧ Keep h0 h [] ∧ Lg Z h h0.size z q em lst
set_option maxRecDepth 65536 in
set_option maxHeartbeats 40000000 in
abbrev Rm_lc : Room := { frames := 7, cells := 3, slots := 14, locals := 90 }
theorem lc (l : Launch) (Z : State) (a0 : Array Value) (hw : ∀ d ∈ tables_1, d.before a0 Z = true) (ws : List Jvm.Cond) (a : Addr) (b : Addr) (q : Addr) (em : Addr) (mr : Addr) (kb : ClassId) (n : Nat) (z : Int32) (h0 : Heap) (n0 : Nat) (Z0 : n0 ≤ h0.size) (E_a : Exa Z h0 a "java/util/ArrayList") (F_size_a : Fld Z h0 a "java/util/ArrayList" "size" "I" (.int z)) (F_elementData_a : Fld Z h0 a "java/util/ArrayList" "elementData" "[Ljava/lang/Object;" (.ref b)) (V_b : Arv Z h0 b kb (.object "java/lang/Object") (10 : Int32) (vl q n) .null) (E_b : Exa Z h0 b "[Ljava/lang/Object;") (E_q : Exa Z h0 q "com/example/gleipnir/gleipnir/service/Counterplay$Position") (Mr : Mir Z "[Ljava/lang/Object;" mr) (hn : HN n z) (O_M : Sta Z Z.heap "java/util/ImmutableCollections" "EMPTY" "Ljava/lang/Object;" (.ref em)) (X00 : Old Z n0 h0) :
    MetFree l my9 (head1 (Jvm.Cond.code my9 jdk_56_method_3_code 2 (some (.object "java/util/List")) :: ws) Rm_lc) (fun aa_ U => aa_ = #[(.ref a)] ∧ Z.Warmed39 U.vm ∧ U.heap = h0) (fun _ _ _ _ _ => True) (fun _ U oo_ U' => ∃ v L, oo_ = .returned v ∧ Qlc Z a b q em mr kb n z h0 n0 v U'.heap L ∧ FrameEnd U oo_ U' L Rm_lc.cells Rm_lc.slots) := by
  refine MetFree.of_bodySF (plainFor_of_name pn_7) hisR ?_
  intro p e s m args below meth c s₁ Bd hml0 hP hK
  obtain ⟨rfl, hZ, hh⟩ := hP
  have hx := Bd.exec
  have hby := Bd.bytes
  have hml : c.maxLocals = 2 := hml0
  have hown : s.vm.findClass "java/util/ImmutableCollections" = some m.cls := findClass_of_methodNamed Bd.named
  have hnm := (name_of_methodNamed Bd.named Bd.method).1
  have X0 : Stand p l e Rm_lc s m #[(.ref a)] below meth c s₁ [] 0 0 := Stand.of_body Bd
  have e0 : s₁.heap = h0 := by rw [← hh, Bd.state]; rfl
  have N0 := Fr.nil n0
  have pre0 : ∀ tt_, Steps p.tables e below (s₁.setTop (mkF m 0 #[.val (.ref a), .unset] [])) tt_ → Steps p.tables e below (s₁.setTop (entryFrame m #[(.ref a)] 2)) tt_ := fun tt_ kk_ => castTop (ef_8 m a) kk_
  have hz0 := own_z0 hn
  obtain ⟨T1, X1, e1, st1⟩ := instNo X0 hx hZ hown (hwd47 hw) e0 E_a (own_listno hw (hwd215 hw) (by decide) (by decide) (by decide) (by decide)) (g := (mkF m 1 #[.val (.ref a), .unset] [(.ref a)])) rfl rfl (hb hby d8_1)
  obtain ⟨T2, X2, e2, st2⟩ := instNo X1 hx hZ hown (hwd52 hw) e1 E_a (own_listno hw (hwd154 hw) (by decide) (by decide) (by decide) (by decide)) (g := (mkF m 8 #[.val (.ref a), .unset] [(.ref a)])) rfl rfl (hb hby d8_8)
  obtain ⟨cq3, kq3, q3a, q3b, q3c⟩ := isOf hZ e2 E_a
  obtain ⟨_, _, ⟨T3, L3, k3, n3⟩, -, X3, ⟨Lc3, hQ3, l3, y3, z3⟩, st3⟩ := X2.interfaceBack hx (xi := my8) (y := my6) hown (mvT hZ (hwd53 hw)) (mvT hZ (hwd54 hw)) (mvT hZ (hwd55 hw)) (mvT hZ (hwd56 hw)) (mvT hZ (hwd57 hw)) (mvT hZ (hwd58 hw)) (mvT hZ (hwd59 hw)) (mvT hZ (hwd60 hw)) (by decide) (backOf (W := 0) (rm9 l Z a0 hw [] a z h0 n0 Z0 F_size_a) hZ (hwd61 hw) (hwd3 hw) (by decide) (by decide)) q3a q3b q3c (g := (mkF m 32 #[.val (.ref a), .unset] [(.ref a)])) rfl (by rw [hml]; rfl) (Steps.refl _) (argsL := []) (rest := []) (lenOf pd_1 rfl) rfl (by show 2 * 0 + _ ≤ _; exact Nat.le_of_eq rfl) (hb hby d8_32) (fun _ _ => ⟨rfl, e2, (by decide : 0 + 0 ≤ _), (by decide : 0 + 0 ≤ _)⟩)
  dsimp only [Pt.U, Pt.locs, Pt.cells, Pt.slots] at X3 l3 y3 z3 st3 hQ3
  subst l3 y3 z3
  obtain ⟨rfl, N3q, e3q⟩ := hQ3
  have N3 := Fr.app N0 N3q
  obtain ⟨cq4, kq4, q4a, q4b, q4c⟩ := isOf hZ e3q E_a
  obtain ⟨_, _, ⟨T4, L4, k4, n4⟩, -, X4, ⟨Lc4, hQ4, l4, y4, z4⟩, st4⟩ := X3.interfaceBack hx (xi := my30) (y := my29) hown (mvT hZ (hwd113 hw)) (mvT hZ (hwd114 hw)) (mvT hZ (hwd115 hw)) (mvT hZ (hwd116 hw)) (mvT hZ (hwd117 hw)) (mvT hZ (hwd118 hw)) (mvT hZ (hwd119 hw)) (mvT hZ (hwd60 hw)) (by decide) (backOf (W := 0) (ta l Z a0 hw [] a b q mr kb n z h0 n0 Z0 F_size_a F_elementData_a V_b E_b E_q Mr hn) hZ (hwd120 hw) (hwd3 hw) (by decide) (by decide)) q4a q4b q4c (g := (mkF m 45 #[.val (.ref a), .unset] [(.ref a)])) rfl (by rw [hml]; rfl) (Steps.refl _) (argsL := []) (rest := []) (lenOf pd_6 rfl) rfl (by show 2 * 0 + _ ≤ _; exact Nat.le_of_eq rfl) (hb hby d8_45) (fun _ _ => ⟨rfl, e3q, (by decide : 0 + 1 ≤ _), (by decide : 0 + 6 ≤ _)⟩)
  dsimp only [Pt.U, Pt.locs, Pt.cells, Pt.slots] at X4 l4 y4 z4 st4 hQ4
  subst l4 y4 z4
  obtain ⟨t_e4, kt_e4, rfl, N4q, K4, p4_1, p4_2, O_t_4, g_t_4, sz_t_4⟩ := hQ4
  have N4 := Fr.app N3 N4q
  have kp5 : Keep h0 T4.heap [] := ((Keep.refl h0 []).trans K4 all0)
  have f7_E_q := (E_q.keep K4)
  have old8 : Old Z n0 T4.heap := (X00.keep K4 all0)
  have sz9 : n0 ≤ T4.heap.size := (Nat.le_trans Z0 K4.1)
  obtain ⟨_, _, ⟨T6, L6, k6, n6⟩, -, X6, ⟨Lc6, hQ6, l6, y6, z6⟩, st6⟩ := Jvm.LawKit.callS X4 hx (y := my26) hown (mvT hZ (hwd143 hw)) (mvT hZ (hwd144 hw)) (mvT hZ (hwd41 hw)) (mvT hZ (hwd145 hw)) (by decide) (backOf (W := 0) (ofa l Z a0 hw [] t_e4 q em kt_e4 n z (T4.heap) n0 sz9 p4_1 f7_E_q O_M old8 hn) hZ (hwd145 hw) (hwd41 hw) (by decide) (by decide)) (g := (mkF m 50 #[.val (.ref a), .unset] [(.ref t_e4)])) rfl (by rw [hml]; rfl) (argsL := [(.ref t_e4)]) (rest := []) (lenOf pd_13 rfl) rfl (by show 2 * 0 + _ ≤ _; exact Nat.le_of_eq rfl) (hb hby d8_50) (fun _ _ => ⟨rfl, rfl, (by decide : 1 + 2 ≤ _), (by decide : 6 + 8 ≤ _)⟩)
  dsimp only [Pt.U, Pt.locs, Pt.cells, Pt.slots] at X6 l6 y6 z6 st6 hQ6
  subst l6 y6 z6
  obtain ⟨lst_e6, rfl, N6q, K6, LG_6⟩ := hQ6
  have N6 := Fr.app N4 N6q
  have kp10 : Keep h0 T6.heap [] := (kp5.trans K6 all0)
  obtain ⟨fs, hr, hrun, hended, hW, hsame⟩ := X6.leave (v := some (.ref lst_e6)) (fun h => by rw [Bd.returns] at h; cases h)
  refine ⟨_, _, pre0 _ ?_, hrun, hended, _, _, rfl, ?_, ⟨_, rfl⟩, hW, hsame.mono (by decide) (by decide)⟩
  · show Steps p.tables e below (s₁.setTop (mkF m 0 #[.val (.ref a), .unset] [])) _
    refine XS.aloadN X0.here hx rfl (hb hby d8_0) rfl rfl ?_
    refine st1 _ ?_
    refine XS.ifNo X1.here hx rfl (hb hby d8_4) rfl ((if0 _ _).trans (teq (show (0 : Int32) = (0 : Int32) from rfl)).2) ?_
    refine XS.aloadN X1.here hx rfl (hb hby d8_7) rfl rfl ?_
    refine st2 _ ?_
    refine XS.ifYes X2.here hx rfl (pc0 := 11) (pc' := 31) rfl (hb hby d8_11) rfl ((if0 _ _).trans (teq (show (0 : Int32) = (0 : Int32) from rfl)).1) (by decide) (by decide) ?_
    show Steps p.tables e below (T2.setTop (mkF m 31 #[.val (.ref a), .unset] [])) _
    refine XS.aloadN X2.here hx rfl (hb hby d8_31) rfl rfl ?_
    refine st3.trans ?_
    refine XS.ifYes X3.here hx rfl (pc0 := 37) (pc' := 44) rfl (hb hby d8_37) rfl ((if0 _ _).trans (teq (show (if z = (0 : Int32) then (1 : Int32) else (0 : Int32)) = (0 : Int32) from (by rw [if_neg hz0]))).1) (by decide) (by decide) ?_
    refine XS.aloadN X3.here hx rfl (hb hby d8_44) rfl rfl ?_
    refine st4.trans ?_
    refine st6 _ ?_
    show Steps p.tables e below (T6.setTop (mkF m 53 #[.val (.ref a), .unset] [(.ref lst_e6)])) _
    jvm_step X6.here [X6.here.top, hx, (hb hby d8_53), X6.method', Bd.returns, Value.isRef, FieldType.isReference]
    first | (intro acts; rw [hr _ acts rfl rfl rfl]) | rw [hr _ _ rfl rfl rfl]
    exact Steps.refl _
  · show Qlc Z a b q em mr kb n z h0 n0 _ T6.heap _
    exact ⟨lst_e6, rfl, N6, kp10, (LG_6.le kp5.1)⟩
def Qco (Z : State) (a : Addr) (b : Addr) (q : Addr) (em : Addr) (mr : Addr) (kb : ClassId) (n : Nat) (z : Int32) (h0 : Heap) (n0 : Nat) (v : Option Value) (h : Heap) (L : List Loc) : Prop := ∃ lst : Addr, v = some (.ref lst) ∧ Fr n0 L ∧ Keep h0 h [] ∧ Lg Z h h0.size z q em lst
set_option maxRecDepth 65536 in
set_option maxHeartbeats 40000000 in
abbrev Rm_co : Room := { frames := 8, cells := 3, slots := 14, locals := 103 }
theorem co (l : Launch) (Z : State) (a0 : Array Value) (hw : ∀ d ∈ tables_1, d.before a0 Z = true) (ws : List Jvm.Cond) (a : Addr) (b : Addr) (q : Addr) (em : Addr) (mr : Addr) (kb : ClassId) (n : Nat) (z : Int32) (h0 : Heap) (n0 : Nat) (Z0 : n0 ≤ h0.size) (E_a : Exa Z h0 a "java/util/ArrayList") (F_size_a : Fld Z h0 a "java/util/ArrayList" "size" "I" (.int z)) (F_elementData_a : Fld Z h0 a "java/util/ArrayList" "elementData" "[Ljava/lang/Object;" (.ref b)) (V_b : Arv Z h0 b kb (.object "java/lang/Object") (10 : Int32) (vl q n) .null) (E_b : Exa Z h0 b "[Ljava/lang/Object;") (E_q : Exa Z h0 q "com/example/gleipnir/gleipnir/service/Counterplay$Position") (Mr : Mir Z "[Ljava/lang/Object;" mr) (hn : HN n z) (O_M : Sta Z Z.heap "java/util/ImmutableCollections" "EMPTY" "Ljava/lang/Object;" (.ref em)) (X00 : Old Z n0 h0) :
    MetFree l my10 (head1 (Jvm.Cond.code my10 jdk_40_method_48_code 1 (some (.object "java/util/List")) :: ws) Rm_co) (fun aa_ U => aa_ = #[(.ref a)] ∧ Z.Warmed39 U.vm ∧ U.heap = h0) (fun _ _ _ _ _ => True) (fun _ U oo_ U' => ∃ v L, oo_ = .returned v ∧ Qco Z a b q em mr kb n z h0 n0 v U'.heap L ∧ FrameEnd U oo_ U' L Rm_co.cells Rm_co.slots) := by
  refine MetFree.of_bodySF (plainFor_of_name pn_6) hisR ?_
  intro p e s m args below meth c s₁ Bd hml0 hP hK
  obtain ⟨rfl, hZ, hh⟩ := hP
  have hx := Bd.exec
  have hby := Bd.bytes
  have hml : c.maxLocals = 1 := hml0
  have hown : s.vm.findClass "java/util/List" = some m.cls := findClass_of_methodNamed Bd.named
  have hnm := (name_of_methodNamed Bd.named Bd.method).1
  have X0 : Stand p l e Rm_co s m #[(.ref a)] below meth c s₁ [] 0 0 := Stand.of_body Bd
  have e0 : s₁.heap = h0 := by rw [← hh, Bd.state]; rfl
  have N0 := Fr.nil n0
  have pre0 : ∀ tt_, Steps p.tables e below (s₁.setTop (mkF m 0 #[.val (.ref a)] [])) tt_ → Steps p.tables e below (s₁.setTop (entryFrame m #[(.ref a)] 1)) tt_ := fun tt_ kk_ => castTop (ef_7 m a) kk_
  obtain ⟨_, _, ⟨T1, L1, k1, n1⟩, -, X1, ⟨Lc1, hQ1, l1, y1, z1⟩, st1⟩ := Jvm.LawKit.callS X0 hx (y := my9) hown (mvT hZ (hwd43 hw)) (mvT hZ (hwd44 hw)) (mvT hZ (hwd45 hw)) (mvT hZ (hwd46 hw)) (by decide) (backOf (W := 0) (lc l Z a0 hw [] a b q em mr kb n z h0 n0 Z0 E_a F_size_a F_elementData_a V_b E_b E_q Mr hn O_M X00) hZ (hwd46 hw) (hwd45 hw) (by decide) (by decide)) (g := (mkF m 1 #[.val (.ref a)] [(.ref a)])) rfl (by rw [hml]; rfl) (argsL := [(.ref a)]) (rest := []) (lenOf pd_3 rfl) rfl (by show 2 * 0 + _ ≤ _; exact Nat.le_of_eq rfl) (hb hby d7_1) (fun _ _ => ⟨rfl, e0, (by decide : 0 + 3 ≤ _), (by decide : 0 + 14 ≤ _)⟩)
  dsimp only [Pt.U, Pt.locs, Pt.cells, Pt.slots] at X1 l1 y1 z1 st1 hQ1
  subst l1 y1 z1
  obtain ⟨lst_e1, rfl, N1q, K1, LG_1⟩ := hQ1
  have N1 := Fr.app N0 N1q
  have kp2 : Keep h0 T1.heap [] := ((Keep.refl h0 []).trans K1 all0)
  obtain ⟨fs, hr, hrun, hended, hW, hsame⟩ := X1.leave (v := some (.ref lst_e1)) (fun h => by rw [Bd.returns] at h; cases h)
  refine ⟨_, _, pre0 _ ?_, hrun, hended, _, _, rfl, ?_, ⟨_, rfl⟩, hW, hsame.mono (by decide) (by decide)⟩
  · show Steps p.tables e below (s₁.setTop (mkF m 0 #[.val (.ref a)] [])) _
    refine XS.aloadN X0.here hx rfl (hb hby d7_0) rfl rfl ?_
    refine st1 _ ?_
    jvm_step X1.here [X1.here.top, hx, (hb hby d7_4), X1.method', Bd.returns, Value.isRef, FieldType.isReference]
    first | (intro acts; rw [hr _ acts rfl rfl rfl]) | rw [hr _ _ rfl rfl rfl]
    exact Steps.refl _
  · show Qco Z a b q em mr kb n z h0 n0 _ T1.heap _
    exact ⟨lst_e1, rfl, N1, kp2, LG_1⟩
theorem hwd111 {Z : State} {a0 : Array Value} (hw : ∀ d ∈ tables_1, d.before a0 Z = true) : (Jvm.Cond.methodLink "com/example/gleipnir/gleipnir/service/Counterplay" (1 : Nat) ({ cls := "java/lang/Record", name := "<init>", desc := "()V" } : Jvm.MethodName)).before a0 Z = true := hw _ (List.mem_of_getElem? (i := 111) rfl)
theorem hwd112 {Z : State} {a0 : Array Value} (hw : ∀ d ∈ tables_1, d.before a0 Z = true) : (Jvm.Cond.methodLink "com/example/gleipnir/gleipnir/service/Counterplay" (7 : Nat) ({ cls := "java/util/List", name := "copyOf", desc := "(Ljava/util/Collection;)Ljava/util/List;" } : Jvm.MethodName)).before a0 Z = true := hw _ (List.mem_of_getElem? (i := 112) rfl)
theorem hwd178 {Z : State} {a0 : Array Value} (hw : ∀ d ∈ tables_1, d.before a0 Z = true) : (Jvm.Cond.fieldLink "com/example/gleipnir/gleipnir/service/Counterplay" (13 : Nat) "com/example/gleipnir/gleipnir/service/Counterplay" "positions" "Ljava/util/List;").before a0 Z = true := hw _ (List.mem_of_getElem? (i := 178) rfl)
theorem hwd179 {Z : State} {a0 : Array Value} (hw : ∀ d ∈ tables_1, d.before a0 Z = true) : (Jvm.Cond.laysFinal "com/example/gleipnir/gleipnir/service/Counterplay" "com/example/gleipnir/gleipnir/service/Counterplay" "positions" "Ljava/util/List;").before a0 Z = true := hw _ (List.mem_of_getElem? (i := 179) rfl)
theorem hwd106 {Z : State} {a0 : Array Value} (hw : ∀ d ∈ tables_1, d.before a0 Z = true) : (Jvm.Cond.instantiable "com/example/gleipnir/gleipnir/service/Counterplay" (3 : Nat)).before a0 Z = true := hw _ (List.mem_of_getElem? (i := 106) rfl)
theorem hwd180 {Z : State} {a0 : Array Value} (hw : ∀ d ∈ tables_1, d.before a0 Z = true) : (Jvm.Cond.fieldLink "com/example/gleipnir/gleipnir/service/Counterplay" (19 : Nat) "com/example/gleipnir/gleipnir/service/Counterplay" "stem" "I").before a0 Z = true := hw _ (List.mem_of_getElem? (i := 180) rfl)
theorem hwd181 {Z : State} {a0 : Array Value} (hw : ∀ d ∈ tables_1, d.before a0 Z = true) : (Jvm.Cond.laysFinal "com/example/gleipnir/gleipnir/service/Counterplay" "com/example/gleipnir/gleipnir/service/Counterplay" "stem" "I").before a0 Z = true := hw _ (List.mem_of_getElem? (i := 181) rfl)
theorem hwd182 {Z : State} {a0 : Array Value} (hw : ∀ d ∈ tables_1, d.before a0 Z = true) : (Jvm.Cond.fieldLink "com/example/gleipnir/gleipnir/service/Counterplay" (23 : Nat) "com/example/gleipnir/gleipnir/service/Counterplay" "loop" "I").before a0 Z = true := hw _ (List.mem_of_getElem? (i := 182) rfl)
theorem hwd183 {Z : State} {a0 : Array Value} (hw : ∀ d ∈ tables_1, d.before a0 Z = true) : (Jvm.Cond.laysFinal "com/example/gleipnir/gleipnir/service/Counterplay" "com/example/gleipnir/gleipnir/service/Counterplay" "loop" "I").before a0 Z = true := hw _ (List.mem_of_getElem? (i := 183) rfl)
theorem d17_0 : decode prog_56_method_1_code 0 = .ok (.aload_n 0, 1) := by decide +kernel
theorem d17_1 : decode prog_56_method_1_code 1 = .ok (.invokespecial 1, 3) := by decide +kernel
theorem d17_4 : decode prog_56_method_1_code 4 = .ok (.aload_n 1, 1) := by decide +kernel
theorem d17_5 : decode prog_56_method_1_code 5 = .ok (.invokestatic 7, 3) := by decide +kernel
theorem d17_8 : decode prog_56_method_1_code 8 = .ok (.astore_n 1, 1) := by decide +kernel
theorem d17_9 : decode prog_56_method_1_code 9 = .ok (.aload_n 0, 1) := by decide +kernel
theorem d17_10 : decode prog_56_method_1_code 10 = .ok (.aload_n 1, 1) := by decide +kernel
theorem d17_11 : decode prog_56_method_1_code 11 = .ok (.putfield 13, 3) := by decide +kernel
theorem d17_14 : decode prog_56_method_1_code 14 = .ok (.aload_n 0, 1) := by decide +kernel
theorem d17_15 : decode prog_56_method_1_code 15 = .ok (.iload_n 2, 1) := by decide +kernel
theorem d17_16 : decode prog_56_method_1_code 16 = .ok (.putfield 19, 3) := by decide +kernel
theorem d17_19 : decode prog_56_method_1_code 19 = .ok (.aload_n 0, 1) := by decide +kernel
theorem d17_20 : decode prog_56_method_1_code 20 = .ok (.iload_n 3, 1) := by decide +kernel
theorem d17_21 : decode prog_56_method_1_code 21 = .ok (.putfield 23, 3) := by decide +kernel
theorem d17_24 : decode prog_56_method_1_code 24 = .ok (.return_, 1) := by decide +kernel
theorem pn_16 : plainName "com/example/gleipnir/gleipnir/service/Counterplay" = true := by first | (simp [plainName, overriddenIn]; done) | decide +kernel
theorem ef_17 (m : MethodId) (x0 : Addr) (x1 : Addr) (x2 : Int32) (x3 : Int32) : entryFrame m #[(.ref x0), (.ref x1), (.int x2), (.int x3)] 4 = mkF m 0 #[.val (.ref x0), .val (.ref x1), .val (.int x2), .val (.int x3)] [] := by first | (simp [entryFrame, mkF, argsToLocals, Value.category]; done) | rfl
def Qcp (Z : State) (x' : Addr) (a : Addr) (b : Addr) (q : Addr) (em : Addr) (mr : Addr) (kb : ClassId) (n : Nat) (z : Int32) (st : Int32) (lo : Int32) (h0 : Heap) (n0 : Nat) (v : Option Value) (h : Heap) (L : List Loc) : Prop := ∃ lst : Addr, v = none ∧ Fr n0 L ∧ Keep h0 h [x'] ∧ Exa Z h x' "com/example/gleipnir/gleipnir/service/Counterplay" ∧ Fld Z h x' "com/example/gleipnir/gleipnir/service/Counterplay" "positions" "Ljava/util/List;" (.ref lst) ∧ Fld Z h x' "com/example/gleipnir/gleipnir/service/Counterplay" "loop" "I" (.int lo) ∧ Lg Z h h0.size z q em lst
set_option maxRecDepth 65536 in
set_option maxHeartbeats 40000000 in
abbrev my31 : MethodName := ⟨"com/example/gleipnir/gleipnir/service/Counterplay", "<init>", "(Ljava/util/List;II)V"⟩
abbrev Rm_cp : Room := { frames := 9, cells := 3, slots := 14, locals := 115 }
theorem cp (l : Launch) (Z : State) (a0 : Array Value) (hw : ∀ d ∈ tables_1, d.before a0 Z = true) (ws : List Jvm.Cond) (x' : Addr) (a : Addr) (b : Addr) (q : Addr) (em : Addr) (mr : Addr) (kb : ClassId) (n : Nat) (z : Int32) (st : Int32) (lo : Int32) (h0 : Heap) (n0 : Nat) (Z0 : n0 ≤ h0.size) (E_x' : Exa Z h0 x' "com/example/gleipnir/gleipnir/service/Counterplay") (F_positions_x' : Fld Z h0 x' "com/example/gleipnir/gleipnir/service/Counterplay" "positions" "Ljava/util/List;" .null) (F_stem_x' : Fld Z h0 x' "com/example/gleipnir/gleipnir/service/Counterplay" "stem" "I" (.int (0 : Int32))) (F_loop_x' : Fld Z h0 x' "com/example/gleipnir/gleipnir/service/Counterplay" "loop" "I" (.int (0 : Int32))) (g_x' : n0 ≤ x') (E_a : Exa Z h0 a "java/util/ArrayList") (F_size_a : Fld Z h0 a "java/util/ArrayList" "size" "I" (.int z)) (F_elementData_a : Fld Z h0 a "java/util/ArrayList" "elementData" "[Ljava/lang/Object;" (.ref b)) (V_b : Arv Z h0 b kb (.object "java/lang/Object") (10 : Int32) (vl q n) .null) (E_b : Exa Z h0 b "[Ljava/lang/Object;") (E_q : Exa Z h0 q "com/example/gleipnir/gleipnir/service/Counterplay$Position") (Mr : Mir Z "[Ljava/lang/Object;" mr) (hn : HN n z) (O_M : Sta Z Z.heap "java/util/ImmutableCollections" "EMPTY" "Ljava/lang/Object;" (.ref em)) (X00 : Old Z n0 h0) :
    MetFree l my31 (head1 (Jvm.Cond.code my31 prog_56_method_1_code 4 none :: ws) Rm_cp) (fun aa_ U => aa_ = #[(.ref x'), (.ref a), (.int st), (.int lo)] ∧ Z.Warmed39 U.vm ∧ U.heap = h0) (fun _ _ _ _ _ => True) (fun _ U oo_ U' => ∃ v L, oo_ = .returned v ∧ Qcp Z x' a b q em mr kb n z st lo h0 n0 v U'.heap L ∧ FrameEnd U oo_ U' L Rm_cp.cells Rm_cp.slots) := by
  refine MetFree.of_bodySF (plainFor_of_name pn_16) hisR ?_
  intro p e s m args below meth c s₁ Bd hml0 hP hK
  obtain ⟨rfl, hZ, hh⟩ := hP
  have hx := Bd.exec
  have hby := Bd.bytes
  have hml : c.maxLocals = 4 := hml0
  have hown : s.vm.findClass "com/example/gleipnir/gleipnir/service/Counterplay" = some m.cls := findClass_of_methodNamed Bd.named
  have hnm := (name_of_methodNamed Bd.named Bd.method).1
  have X0 : Stand p l e Rm_cp s m #[(.ref x'), (.ref a), (.int st), (.int lo)] below meth c s₁ [] 0 0 := Stand.of_body Bd
  have e0 : s₁.heap = h0 := by rw [← hh, Bd.state]; rfl
  have N0 := Fr.nil n0
  have pre0 : ∀ tt_, Steps p.tables e below (s₁.setTop (mkF m 0 #[.val (.ref x'), .val (.ref a), .val (.int st), .val (.int lo)] [])) tt_ → Steps p.tables e below (s₁.setTop (entryFrame m #[(.ref x'), (.ref a), (.int st), (.int lo)] 4)) tt_ := fun tt_ kk_ => castTop (ef_17 m x' a st lo) kk_
  obtain ⟨_, _, ⟨T1, L1, k1, n1⟩, -, X1, ⟨Lc1, hQ1, l1, y1, z1⟩, st1⟩ := X0.specialBack hx (y := my1) rfl hown (mvT hZ (hwd111 hw)) (mvT hZ (hwd34 hw)) (mvT hZ (hwd37 hw)) (by decide) (backOf (W := 0) (rm6 l Z a0 hw [] x' h0 n0 Z0 ) hZ (hwd37 hw) (hwd36 hw) (by decide) (by decide)) (g := (mkF m 1 #[.val (.ref x'), .val (.ref a), .val (.int st), .val (.int lo)] [(.ref x')])) rfl (by rw [hml]; rfl) (Steps.refl _) (a := x') (argsL := []) (rest := []) (lenOf pd_0 rfl) rfl (by show 2 * 0 + _ ≤ _; exact Nat.le_of_eq rfl) (hb hby d17_1) (fun _ _ => ⟨rfl, e0, (by decide : 0 + 0 ≤ _), (by decide : 0 + 0 ≤ _)⟩)
  dsimp only [Pt.U, Pt.locs, Pt.cells, Pt.slots] at X1 l1 y1 z1 st1 hQ1
  subst l1 y1 z1
  obtain ⟨rfl, N1q, e1q⟩ := hQ1
  have N1 := Fr.app N0 N1q
  obtain ⟨_, _, ⟨T2, L2, k2, n2⟩, -, X2, ⟨Lc2, hQ2, l2, y2, z2⟩, st2⟩ := Jvm.LawKit.callS X1 hx (y := my10) hown (mvT hZ (hwd112 hw)) (mvT hZ (hwd40 hw)) (mvT hZ (hwd41 hw)) (mvT hZ (hwd42 hw)) (by decide) (backOf (W := 0) (co l Z a0 hw [] a b q em mr kb n z h0 n0 Z0 E_a F_size_a F_elementData_a V_b E_b E_q Mr hn O_M X00) hZ (hwd42 hw) (hwd41 hw) (by decide) (by decide)) (g := (mkF m 5 #[.val (.ref x'), .val (.ref a), .val (.int st), .val (.int lo)] [(.ref a)])) rfl (by rw [hml]; rfl) (argsL := [(.ref a)]) (rest := []) (lenOf pd_3 rfl) rfl (by show 2 * 0 + _ ≤ _; exact Nat.le_of_eq rfl) (hb hby d17_5) (fun _ _ => ⟨rfl, e1q, (by decide : 0 + 3 ≤ _), (by decide : 0 + 14 ≤ _)⟩)
  dsimp only [Pt.U, Pt.locs, Pt.cells, Pt.slots] at X2 l2 y2 z2 st2 hQ2
  subst l2 y2 z2
  obtain ⟨lst_e2, rfl, N2q, K2, LG_2⟩ := hQ2
  have N2 := Fr.app N1 N2q
  have f3_E_x_ := (E_x'.keep K2)
  have f4_F_x__positions := (F_positions_x'.keep K2 nin0)
  obtain ⟨T5, h5, X5, e5, W5, st5⟩ := putF X2 hx hZ hown (host := "") (Or.inl (hwd178 hw)) Via.refl rfl f4_F_x__positions f3_E_x_ (Or.inr ⟨(hwd179 hw), rfl, hnm⟩) (hwd106 hw) (ty := (.object "java/util/List")) (by decide) rfl rfl (g := (mkF m 11 #[.val (.ref x'), .val (.ref lst_e2), .val (.int st), .val (.int lo)] [(.ref lst_e2), (.ref x')])) rfl rfl (hb hby d17_11)
  have N5 := Fr.snoc X5 N2 g_x'
  have Fw5 := f4_F_x__positions.same W5
  have f6_E_x_ := (f3_E_x_.wr W5)
  have f7_F_x__stem := ((F_stem_x'.keep K2 nin0).other W5 (Or.inr (slot_ne (Or.inr (hwd181 hw)) (Or.inr (hwd179 hw)) (by decide) (t := .int) (t' := (.object "java/util/List")) (by decide) (by decide))))
  obtain ⟨T8, h8, X8, e8, W8, st8⟩ := putF X5 hx hZ hown (host := "") (Or.inl (hwd180 hw)) Via.refl e5 f7_F_x__stem f6_E_x_ (Or.inr ⟨(hwd181 hw), rfl, hnm⟩) (hwd106 hw) (ty := .int) (by decide) rfl rfl (g := (mkF m 16 #[.val (.ref x'), .val (.ref lst_e2), .val (.int st), .val (.int lo)] [(.int st), (.ref x')])) rfl rfl (hb hby d17_16)
  have N8 := Fr.snoc X8 N5 g_x'
  have Fw8 := f7_F_x__stem.same W8
  have f9_E_x_ := (f6_E_x_.wr W8)
  have f10_F_x__loop := (((F_loop_x'.keep K2 nin0).other W5 (Or.inr (slot_ne (Or.inr (hwd183 hw)) (Or.inr (hwd179 hw)) (by decide) (t := .int) (t' := (.object "java/util/List")) (by decide) (by decide)))).other W8 (Or.inr (slot_ne (Or.inr (hwd183 hw)) (Or.inr (hwd181 hw)) (by decide) (t := .int) (t' := .int) (by decide) (by decide))))
  obtain ⟨T11, h11, X11, e11, W11, st11⟩ := putF X8 hx hZ hown (host := "") (Or.inl (hwd182 hw)) Via.refl e8 f10_F_x__loop f9_E_x_ (Or.inr ⟨(hwd183 hw), rfl, hnm⟩) (hwd106 hw) (ty := .int) (by decide) rfl rfl (g := (mkF m 21 #[.val (.ref x'), .val (.ref lst_e2), .val (.int st), .val (.int lo)] [(.int lo), (.ref x')])) rfl rfl (hb hby d17_21)
  have N11 := Fr.snoc X11 N8 g_x'
  have Fw11 := f10_F_x__loop.same W11
  have kp12 : Keep h0 h11 [x'] := (((((Keep.refl h0 [x']).trans K2 all0).wr W5 (Or.inl (List.mem_of_getElem? (i := 0) rfl))).wr W8 (Or.inl (List.mem_of_getElem? (i := 0) rfl))).wr W11 (Or.inl (List.mem_of_getElem? (i := 0) rfl)))
  have f13_E_x_ := (f9_E_x_.wr W11)
  have f14_F_x__positions := ((Fw5.other W8 (Or.inr (slot_ne (Or.inr (hwd179 hw)) (Or.inr (hwd181 hw)) (by decide) (t := (.object "java/util/List")) (t' := .int) (by decide) (by decide)))).other W11 (Or.inr (slot_ne (Or.inr (hwd179 hw)) (Or.inr (hwd183 hw)) (by decide) (t := (.object "java/util/List")) (t' := .int) (by decide) (by decide))))
  obtain ⟨fs, hr, hrun, hended, hW, hsame⟩ := X11.leave (v := none) (fun _ => rfl)
  refine ⟨_, _, pre0 _ ?_, hrun, hended, _, _, rfl, ?_, ⟨_, rfl⟩, hW, hsame.mono (by decide) (by decide)⟩
  · show Steps p.tables e below (s₁.setTop (mkF m 0 #[.val (.ref x'), .val (.ref a), .val (.int st), .val (.int lo)] [])) _
    refine XS.aloadN X0.here hx rfl (hb hby d17_0) rfl rfl ?_
    refine st1.trans ?_
    refine XS.aloadN X1.here hx rfl (hb hby d17_4) rfl rfl ?_
    refine st2 _ ?_
    refine XS.astoreN X2.here hx rfl (hb hby d17_8) rfl rfl (l' := #[.val (.ref x'), .val (.ref lst_e2), .val (.int st), .val (.int lo)]) rfl ?_
    refine XS.aloadN X2.here hx rfl (hb hby d17_9) rfl rfl ?_
    show Steps p.tables e below (T2.setTop (mkF m 10 #[.val (.ref x'), .val (.ref lst_e2), .val (.int st), .val (.int lo)] [(.ref x')])) _
    refine XS.aloadN X2.here hx rfl (hb hby d17_10) rfl rfl ?_
    refine st5 _ ?_
    refine XS.aloadN X5.here hx rfl (hb hby d17_14) rfl rfl ?_
    refine XS.iloadN X5.here hx rfl (hb hby d17_15) rfl ?_
    refine st8 _ ?_
    refine XS.aloadN X8.here hx rfl (hb hby d17_19) rfl rfl ?_
    show Steps p.tables e below (T8.setTop (mkF m 20 #[.val (.ref x'), .val (.ref lst_e2), .val (.int st), .val (.int lo)] [(.ref x')])) _
    refine XS.iloadN X8.here hx rfl (hb hby d17_20) rfl ?_
    refine st11 _ ?_
    exact X11.returnOut hx Bd.returns (hb hby d17_24) hr
  · show Qcp Z x' a b q em mr kb n z st lo h0 n0 _ T11.heap _
    rw [e11]
    exact ⟨lst_e2, rfl, N11, kp12, f13_E_x_, f14_F_x__positions, Fw11, (((LG_2.wr W5 E_x'.lt).wr W8 E_x'.lt).wr W11 E_x'.lt)⟩
theorem d28_0 : decode prog_56_method_3_code 0 = .ok (.aload_n 0, 1) := by decide +kernel
theorem d28_1 : decode prog_56_method_3_code 1 = .ok (.getfield 23, 3) := by decide +kernel
theorem d28_4 : decode prog_56_method_3_code 4 = .ok (.ifCond .ne 7, 3) := by decide +kernel
theorem d28_7 : decode prog_56_method_3_code 7 = .ok (.iconst 1, 1) := by decide +kernel
theorem d28_8 : decode prog_56_method_3_code 8 = .ok (.goto 4, 3) := by decide +kernel
theorem d28_12 : decode prog_56_method_3_code 12 = .ok (.ireturn, 1) := by decide +kernel
theorem ef_28 (m : MethodId) (x0 : Addr) : entryFrame m #[(.ref x0)] 1 = mkF m 0 #[.val (.ref x0)] [] := by first | (simp [entryFrame, mkF, argsToLocals, Value.category]; done) | rfl
def Qfin (Z : State) (x' : Addr) (lo : Int32) (h0 : Heap) (n0 : Nat) (v : Option Value) (h : Heap) (L : List Loc) : Prop := v = some (.int (if lo = (0 : Int32) then (1 : Int32) else (0 : Int32))) ∧ Fr n0 L ∧ h = h0
set_option maxRecDepth 65536 in
set_option maxHeartbeats 40000000 in
abbrev my32 : MethodName := ⟨"com/example/gleipnir/gleipnir/service/Counterplay", "finite", "()Z"⟩
abbrev Rm_fin : Room := { frames := 0, cells := 0, slots := 0, locals := 0 }
theorem finf (l : Launch) (Z : State) (a0 : Array Value) (hw : ∀ d ∈ tables_1, d.before a0 Z = true) (ws : List Jvm.Cond) (x' : Addr) (lo : Int32) (h0 : Heap) (n0 : Nat) (Z0 : n0 ≤ h0.size) (F_loop_x' : Fld Z h0 x' "com/example/gleipnir/gleipnir/service/Counterplay" "loop" "I" (.int lo)) (hc4 : lo = (0 : Int32)) :
    MetFree l my32 (head1 (Jvm.Cond.code my32 prog_56_method_3_code 1 (some .boolean) :: ws) Rm_fin) (fun aa_ U => aa_ = #[(.ref x')] ∧ Z.Warmed39 U.vm ∧ U.heap = h0) (fun _ _ _ _ _ => True) (fun _ U oo_ U' => ∃ v L, oo_ = .returned v ∧ Qfin Z x' lo h0 n0 v U'.heap L ∧ FrameEnd U oo_ U' L Rm_fin.cells Rm_fin.slots) := by
  refine MetFree.of_bodySF (plainFor_of_name pn_16) hisR ?_
  intro p e s m args below meth c s₁ Bd hml0 hP hK
  obtain ⟨rfl, hZ, hh⟩ := hP
  have hx := Bd.exec
  have hby := Bd.bytes
  have hml : c.maxLocals = 1 := hml0
  have hown : s.vm.findClass "com/example/gleipnir/gleipnir/service/Counterplay" = some m.cls := findClass_of_methodNamed Bd.named
  have hnm := (name_of_methodNamed Bd.named Bd.method).1
  have X0 : Stand p l e Rm_fin s m #[(.ref x')] below meth c s₁ [] 0 0 := Stand.of_body Bd
  have e0 : s₁.heap = h0 := by rw [← hh, Bd.state]; rfl
  have N0 := Fr.nil n0
  have pre0 : ∀ tt_, Steps p.tables e below (s₁.setTop (mkF m 0 #[.val (.ref x')] [])) tt_ → Steps p.tables e below (s₁.setTop (entryFrame m #[(.ref x')] 1)) tt_ := fun tt_ kk_ => castTop (ef_28 m x') kk_
  obtain ⟨T1, X1, e1, st1⟩ := getF X0 hx hZ hown (host := "") (Or.inl (hwd182 hw)) Via.refl e0 F_loop_x' (g := (mkF m 1 #[.val (.ref x')] [(.ref x')])) rfl rfl (hb hby d28_1)
  obtain ⟨fs, hr, hrun, hended, hW, hsame⟩ := X1.leave (v := some (.int (1 : Int32))) (fun h => by rw [Bd.returns] at h; cases h)
  refine ⟨_, _, pre0 _ ?_, hrun, hended, _, _, rfl, ?_, ⟨_, rfl⟩, hW, hsame.mono (by decide) (by decide)⟩
  · show Steps p.tables e below (s₁.setTop (mkF m 0 #[.val (.ref x')] [])) _
    refine XS.aloadN X0.here hx rfl (hb hby d28_0) rfl rfl ?_
    refine st1 _ ?_
    refine XS.ifNo X1.here hx rfl (hb hby d28_4) rfl ((if0 _ _).trans (teq (show lo = (0 : Int32) from hc4)).2) ?_
    refine XS.iconst X1.here hx rfl (hb hby d28_7) ?_
    refine XS.goto X1.here hx rfl (pc0 := 8) (pc' := 12) rfl (hb hby d28_8) (by decide) (by decide) ?_
    exact retN X1 hx (t := .boolean) Bd.returns (by simp) (hb hby d28_12) hr
  · show Qfin Z x' lo h0 n0 _ T1.heap _
    rw [e1]
    exact ⟨by rw [if_pos hc4], N0, rfl⟩
theorem d28_11 : decode prog_56_method_3_code 11 = .ok (.iconst 0, 1) := by decide +kernel
set_option maxRecDepth 65536 in
set_option maxHeartbeats 40000000 in
theorem fint (l : Launch) (Z : State) (a0 : Array Value) (hw : ∀ d ∈ tables_1, d.before a0 Z = true) (ws : List Jvm.Cond) (x' : Addr) (lo : Int32) (h0 : Heap) (n0 : Nat) (Z0 : n0 ≤ h0.size) (F_loop_x' : Fld Z h0 x' "com/example/gleipnir/gleipnir/service/Counterplay" "loop" "I" (.int lo)) (hc4 : ¬ (lo = (0 : Int32))) :
    MetFree l my32 (head1 (Jvm.Cond.code my32 prog_56_method_3_code 1 (some .boolean) :: ws) Rm_fin) (fun aa_ U => aa_ = #[(.ref x')] ∧ Z.Warmed39 U.vm ∧ U.heap = h0) (fun _ _ _ _ _ => True) (fun _ U oo_ U' => ∃ v L, oo_ = .returned v ∧ Qfin Z x' lo h0 n0 v U'.heap L ∧ FrameEnd U oo_ U' L Rm_fin.cells Rm_fin.slots) := by
  refine MetFree.of_bodySF (plainFor_of_name pn_16) hisR ?_
  intro p e s m args below meth c s₁ Bd hml0 hP hK
  obtain ⟨rfl, hZ, hh⟩ := hP
  have hx := Bd.exec
  have hby := Bd.bytes
  have hml : c.maxLocals = 1 := hml0
  have hown : s.vm.findClass "com/example/gleipnir/gleipnir/service/Counterplay" = some m.cls := findClass_of_methodNamed Bd.named
  have hnm := (name_of_methodNamed Bd.named Bd.method).1
  have X0 : Stand p l e Rm_fin s m #[(.ref x')] below meth c s₁ [] 0 0 := Stand.of_body Bd
  have e0 : s₁.heap = h0 := by rw [← hh, Bd.state]; rfl
  have N0 := Fr.nil n0
  have pre0 : ∀ tt_, Steps p.tables e below (s₁.setTop (mkF m 0 #[.val (.ref x')] [])) tt_ → Steps p.tables e below (s₁.setTop (entryFrame m #[(.ref x')] 1)) tt_ := fun tt_ kk_ => castTop (ef_28 m x') kk_
  obtain ⟨T1, X1, e1, st1⟩ := getF X0 hx hZ hown (host := "") (Or.inl (hwd182 hw)) Via.refl e0 F_loop_x' (g := (mkF m 1 #[.val (.ref x')] [(.ref x')])) rfl rfl (hb hby d28_1)
  obtain ⟨fs, hr, hrun, hended, hW, hsame⟩ := X1.leave (v := some (.int (0 : Int32))) (fun h => by rw [Bd.returns] at h; cases h)
  refine ⟨_, _, pre0 _ ?_, hrun, hended, _, _, rfl, ?_, ⟨_, rfl⟩, hW, hsame.mono (by decide) (by decide)⟩
  · show Steps p.tables e below (s₁.setTop (mkF m 0 #[.val (.ref x')] [])) _
    refine XS.aloadN X0.here hx rfl (hb hby d28_0) rfl rfl ?_
    refine st1 _ ?_
    refine XS.ifYes X1.here hx rfl (pc0 := 4) (pc' := 11) rfl (hb hby d28_4) rfl ((if0 _ _).trans (feq (show ¬ (lo = (0 : Int32)) from hc4)).2) (by decide) (by decide) ?_
    refine XS.iconst X1.here hx rfl (hb hby d28_11) ?_
    exact retN X1 hx (t := .boolean) Bd.returns (by simp) (hb hby d28_12) hr
  · show Qfin Z x' lo h0 n0 _ T1.heap _
    rw [e1]
    exact ⟨by rw [if_neg hc4], N0, rfl⟩
theorem fin (l : Launch) (Z : State) (a0 : Array Value) (hw : ∀ d ∈ tables_1, d.before a0 Z = true) (ws : List Jvm.Cond) (x' : Addr) (lo : Int32) (h0 : Heap) (n0 : Nat) (Z0 : n0 ≤ h0.size) (F_loop_x' : Fld Z h0 x' "com/example/gleipnir/gleipnir/service/Counterplay" "loop" "I" (.int lo)) :
    MetFree l my32 (head1 (Jvm.Cond.code my32 prog_56_method_3_code 1 (some .boolean) :: ws) Rm_fin) (fun aa_ U => aa_ = #[(.ref x')] ∧ Z.Warmed39 U.vm ∧ U.heap = h0) (fun _ _ _ _ _ => True) (fun _ U oo_ U' => ∃ v L, oo_ = .returned v ∧ Qfin Z x' lo h0 n0 v U'.heap L ∧ FrameEnd U oo_ U' L Rm_fin.cells Rm_fin.slots) := by
  by_cases h : lo = (0 : Int32)
  · exact finf l Z a0 hw ws x' lo h0 n0 Z0 F_loop_x' h
  · exact fint l Z a0 hw ws x' lo h0 n0 Z0 F_loop_x' h
theorem hwd194 {Z : State} {a0 : Array Value} (hw : ∀ d ∈ tables_1, d.before a0 Z = true) : (Jvm.Cond.methodLink "com/example/gleipnir/gleipnir/service/Counterplay" (56 : Nat) ({ cls := "java/util/List", name := "size", desc := "()I" } : Jvm.MethodName)).before a0 Z = true := hw _ (List.mem_of_getElem? (i := 194) rfl)
theorem hwd236 {Z : State} {a0 : Array Value} (hw : ∀ d ∈ tables_1, d.before a0 Z = true) : (Jvm.Cond.code ({ cls := "java/util/ImmutableCollections$List12", name := "size", desc := "()I" } : Jvm.MethodName) jdk_44_method_3_code (1 : Nat) (Option.some Jvm.ClassFile.FieldType.int)).before a0 Z = true := hw _ (List.mem_of_getElem? (i := 236) rfl)
theorem pd_16 : parseMethodDescriptor "()I" = some ⟨[], some .int⟩ := by decide +kernel
theorem hwd231 {Z : State} {a0 : Array Value} (hw : ∀ d ∈ tables_1, d.before a0 Z = true) : (Jvm.Cond.selects "java/util/ImmutableCollections$List12" ({ cls := "java/util/List", name := "size", desc := "()I" } : Jvm.MethodName) ({ cls := "java/util/ImmutableCollections$List12", name := "size", desc := "()I" } : Jvm.MethodName)).before a0 Z = true := hw _ (List.mem_of_getElem? (i := 231) rfl)
abbrev my33 : MethodName := ⟨"java/util/List", "size", "()I"⟩
theorem hwd195 {Z : State} {a0 : Array Value} (hw : ∀ d ∈ tables_1, d.before a0 Z = true) : (Jvm.Cond.declares ({ cls := "java/util/List", name := "size", desc := "()I" } : Jvm.MethodName)).before a0 Z = true := hw _ (List.mem_of_getElem? (i := 195) rfl)
theorem hwd196 {Z : State} {a0 : Array Value} (hw : ∀ d ∈ tables_1, d.before a0 Z = true) : (Jvm.Cond.interfaceMethod "java/util/List" "java/util/List" "size" "()I").before a0 Z = true := hw _ (List.mem_of_getElem? (i := 196) rfl)
theorem hwd232 {Z : State} {a0 : Array Value} (hw : ∀ d ∈ tables_1, d.before a0 Z = true) : (Jvm.Cond.instanceMethod ({ cls := "java/util/ImmutableCollections$List12", name := "size", desc := "()I" } : Jvm.MethodName)).before a0 Z = true := hw _ (List.mem_of_getElem? (i := 232) rfl)
theorem hwd233 {Z : State} {a0 : Array Value} (hw : ∀ d ∈ tables_1, d.before a0 Z = true) : (Jvm.Cond.publicMethod ({ cls := "java/util/ImmutableCollections$List12", name := "size", desc := "()I" } : Jvm.MethodName)).before a0 Z = true := hw _ (List.mem_of_getElem? (i := 233) rfl)
theorem hwd234 {Z : State} {a0 : Array Value} (hw : ∀ d ∈ tables_1, d.before a0 Z = true) : (Jvm.Cond.unhidden "java/util/ImmutableCollections$List12" "size" "()I").before a0 Z = true := hw _ (List.mem_of_getElem? (i := 234) rfl)
theorem hwd235 {Z : State} {a0 : Array Value} (hw : ∀ d ∈ tables_1, d.before a0 Z = true) : (Jvm.Cond.castable "java/util/ImmutableCollections$List12" "java/util/List").before a0 Z = true := hw _ (List.mem_of_getElem? (i := 235) rfl)
theorem d29_0 : decode prog_56_method_4_code 0 = .ok (.aload_n 0, 1) := by decide +kernel
theorem d29_1 : decode prog_56_method_4_code 1 = .ok (.getfield 13, 3) := by decide +kernel
theorem d29_4 : decode prog_56_method_4_code 4 = .ok (.invokeinterface 56 1, 5) := by decide +kernel
theorem d29_9 : decode prog_56_method_4_code 9 = .ok (.ireturn, 1) := by decide +kernel
theorem ef_29 (m : MethodId) (x0 : Addr) : entryFrame m #[(.ref x0)] 1 = mkF m 0 #[.val (.ref x0)] [] := by first | (simp [entryFrame, mkF, argsToLocals, Value.category]; done) | rfl
def Qlen_1 (Z : State) (x' : Addr) (lst : Addr) (em : Addr) (h0 : Heap) (n0 : Nat) (v : Option Value) (h : Heap) (L : List Loc) : Prop := v = some (.int (1 : Int32)) ∧ Fr n0 L ∧ h = h0
set_option maxRecDepth 65536 in
set_option maxHeartbeats 40000000 in
abbrev my34 : MethodName := ⟨"com/example/gleipnir/gleipnir/service/Counterplay", "length", "()I"⟩
abbrev Rm_len_1 : Room := { frames := 1, cells := 0, slots := 0, locals := 12 }
theorem len_1 (l : Launch) (Z : State) (a0 : Array Value) (hw : ∀ d ∈ tables_1, d.before a0 Z = true) (ws : List Jvm.Cond) (x' : Addr) (lst : Addr) (em : Addr) (h0 : Heap) (n0 : Nat) (Z0 : n0 ≤ h0.size) (F_positions_x' : Fld Z h0 x' "com/example/gleipnir/gleipnir/service/Counterplay" "positions" "Ljava/util/List;" (.ref lst)) (E_lst : Exa Z h0 lst "java/util/ImmutableCollections$List12") (F_e1_lst : Fld Z h0 lst "java/util/ImmutableCollections$List12" "e1" "Ljava/lang/Object;" (.ref em)) (O_M : Sta Z Z.heap "java/util/ImmutableCollections" "EMPTY" "Ljava/lang/Object;" (.ref em)) (X00 : Old Z n0 h0) :
    MetFree l my34 (head1 (Jvm.Cond.code my34 prog_56_method_4_code 1 (some .int) :: ws) Rm_len_1) (fun aa_ U => aa_ = #[(.ref x')] ∧ Z.Warmed39 U.vm ∧ U.heap = h0) (fun _ _ _ _ _ => True) (fun _ U oo_ U' => ∃ v L, oo_ = .returned v ∧ Qlen_1 Z x' lst em h0 n0 v U'.heap L ∧ FrameEnd U oo_ U' L Rm_len_1.cells Rm_len_1.slots) := by
  refine MetFree.of_bodySF (plainFor_of_name pn_16) hisR ?_
  intro p e s m args below meth c s₁ Bd hml0 hP hK
  obtain ⟨rfl, hZ, hh⟩ := hP
  have hx := Bd.exec
  have hby := Bd.bytes
  have hml : c.maxLocals = 1 := hml0
  have hown : s.vm.findClass "com/example/gleipnir/gleipnir/service/Counterplay" = some m.cls := findClass_of_methodNamed Bd.named
  have hnm := (name_of_methodNamed Bd.named Bd.method).1
  have X0 : Stand p l e Rm_len_1 s m #[(.ref x')] below meth c s₁ [] 0 0 := Stand.of_body Bd
  have e0 : s₁.heap = h0 := by rw [← hh, Bd.state]; rfl
  have N0 := Fr.nil n0
  have pre0 : ∀ tt_, Steps p.tables e below (s₁.setTop (mkF m 0 #[.val (.ref x')] [])) tt_ → Steps p.tables e below (s₁.setTop (entryFrame m #[(.ref x')] 1)) tt_ := fun tt_ kk_ => castTop (ef_29 m x') kk_
  obtain ⟨T1, X1, e1, st1⟩ := getF X0 hx hZ hown (host := "") (Or.inl (hwd178 hw)) Via.refl e0 F_positions_x' (g := (mkF m 1 #[.val (.ref x')] [(.ref x')])) rfl rfl (hb hby d29_1)
  obtain ⟨cq2, kq2, q2a, q2b, q2c⟩ := isOf hZ e1 E_lst
  obtain ⟨_, _, ⟨T2, L2, k2, n2⟩, -, X2, ⟨Lc2, hQ2, l2, y2, z2⟩, st2⟩ := X1.interfaceBack hx (xi := my33) (y := my22) hown (mvT hZ (hwd194 hw)) (mvT hZ (hwd195 hw)) (mvT hZ (hwd196 hw)) (mvT hZ (hwd231 hw)) (mvT hZ (hwd232 hw)) (mvT hZ (hwd233 hw)) (mvT hZ (hwd234 hw)) (mvT hZ (hwd235 hw)) (by decide) (backOf (W := 0) (s1 l Z a0 hw [] lst em h0 n0 Z0 F_e1_lst O_M X00) hZ (hwd236 hw) (hwd216 hw) (by decide) (by decide)) q2a q2b q2c (g := (mkF m 4 #[.val (.ref x')] [(.ref lst)])) rfl (by rw [hml]; rfl) (Steps.refl _) (argsL := []) (rest := []) (lenOf pd_16 rfl) rfl (by show 2 * 0 + _ ≤ _; exact Nat.le_of_eq rfl) (hb hby d29_4) (fun _ _ => ⟨rfl, e1, (by decide : 0 + 0 ≤ _), (by decide : 0 + 0 ≤ _)⟩)
  dsimp only [Pt.U, Pt.locs, Pt.cells, Pt.slots] at X2 l2 y2 z2 st2 hQ2
  subst l2 y2 z2
  obtain ⟨rfl, N2q, e2q⟩ := hQ2
  have N2 := Fr.app N0 N2q
  obtain ⟨fs, hr, hrun, hended, hW, hsame⟩ := X2.leave (v := some (.int (1 : Int32))) (fun h => by rw [Bd.returns] at h; cases h)
  refine ⟨_, _, pre0 _ ?_, hrun, hended, _, _, rfl, ?_, ⟨_, rfl⟩, hW, hsame.mono (by decide) (by decide)⟩
  · show Steps p.tables e below (s₁.setTop (mkF m 0 #[.val (.ref x')] [])) _
    refine XS.aloadN X0.here hx rfl (hb hby d29_0) rfl rfl ?_
    refine st1 _ ?_
    refine st2.trans ?_
    exact retI X2 hx Bd.returns (hb hby d29_9) hr
  · show Qlen_1 Z x' lst em h0 n0 _ T2.heap _
    rw [e2q]
    exact ⟨rfl, N2, rfl⟩
theorem d32_0 : decode prog_56_method_5_code 0 = .ok (.aload_n 0, 1) := by decide +kernel
theorem d32_1 : decode prog_56_method_5_code 1 = .ok (.getfield 13, 3) := by decide +kernel
theorem d32_4 : decode prog_56_method_5_code 4 = .ok (.invokeinterface 56 1, 5) := by decide +kernel
theorem d32_9 : decode prog_56_method_5_code 9 = .ok (.aload_n 0, 1) := by decide +kernel
theorem d32_10 : decode prog_56_method_5_code 10 = .ok (.getfield 23, 3) := by decide +kernel
theorem d32_13 : decode prog_56_method_5_code 13 = .ok (.isub, 1) := by decide +kernel
theorem d32_14 : decode prog_56_method_5_code 14 = .ok (.ireturn, 1) := by decide +kernel
theorem ef_32 (m : MethodId) (x0 : Addr) : entryFrame m #[(.ref x0)] 1 = mkF m 0 #[.val (.ref x0)] [] := by first | (simp [entryFrame, mkF, argsToLocals, Value.category]; done) | rfl
def Qls_1 (Z : State) (x' : Addr) (lst : Addr) (em : Addr) (lo : Int32) (h0 : Heap) (n0 : Nat) (v : Option Value) (h : Heap) (L : List Loc) : Prop := v = some (.int ((1 : Int32) - lo)) ∧ Fr n0 L ∧ h = h0
set_option maxRecDepth 65536 in
set_option maxHeartbeats 40000000 in
abbrev my35 : MethodName := ⟨"com/example/gleipnir/gleipnir/service/Counterplay", "loopStart", "()I"⟩
abbrev Rm_ls_1 : Room := { frames := 1, cells := 0, slots := 0, locals := 12 }
theorem ls_1 (l : Launch) (Z : State) (a0 : Array Value) (hw : ∀ d ∈ tables_1, d.before a0 Z = true) (ws : List Jvm.Cond) (x' : Addr) (lst : Addr) (em : Addr) (lo : Int32) (h0 : Heap) (n0 : Nat) (Z0 : n0 ≤ h0.size) (F_positions_x' : Fld Z h0 x' "com/example/gleipnir/gleipnir/service/Counterplay" "positions" "Ljava/util/List;" (.ref lst)) (F_loop_x' : Fld Z h0 x' "com/example/gleipnir/gleipnir/service/Counterplay" "loop" "I" (.int lo)) (E_lst : Exa Z h0 lst "java/util/ImmutableCollections$List12") (F_e1_lst : Fld Z h0 lst "java/util/ImmutableCollections$List12" "e1" "Ljava/lang/Object;" (.ref em)) (O_M : Sta Z Z.heap "java/util/ImmutableCollections" "EMPTY" "Ljava/lang/Object;" (.ref em)) (X00 : Old Z n0 h0) :
    MetFree l my35 (head1 (Jvm.Cond.code my35 prog_56_method_5_code 1 (some .int) :: ws) Rm_ls_1) (fun aa_ U => aa_ = #[(.ref x')] ∧ Z.Warmed39 U.vm ∧ U.heap = h0) (fun _ _ _ _ _ => True) (fun _ U oo_ U' => ∃ v L, oo_ = .returned v ∧ Qls_1 Z x' lst em lo h0 n0 v U'.heap L ∧ FrameEnd U oo_ U' L Rm_ls_1.cells Rm_ls_1.slots) := by
  refine MetFree.of_bodySF (plainFor_of_name pn_16) hisR ?_
  intro p e s m args below meth c s₁ Bd hml0 hP hK
  obtain ⟨rfl, hZ, hh⟩ := hP
  have hx := Bd.exec
  have hby := Bd.bytes
  have hml : c.maxLocals = 1 := hml0
  have hown : s.vm.findClass "com/example/gleipnir/gleipnir/service/Counterplay" = some m.cls := findClass_of_methodNamed Bd.named
  have hnm := (name_of_methodNamed Bd.named Bd.method).1
  have X0 : Stand p l e Rm_ls_1 s m #[(.ref x')] below meth c s₁ [] 0 0 := Stand.of_body Bd
  have e0 : s₁.heap = h0 := by rw [← hh, Bd.state]; rfl
  have N0 := Fr.nil n0
  have pre0 : ∀ tt_, Steps p.tables e below (s₁.setTop (mkF m 0 #[.val (.ref x')] [])) tt_ → Steps p.tables e below (s₁.setTop (entryFrame m #[(.ref x')] 1)) tt_ := fun tt_ kk_ => castTop (ef_32 m x') kk_
  obtain ⟨T1, X1, e1, st1⟩ := getF X0 hx hZ hown (host := "") (Or.inl (hwd178 hw)) Via.refl e0 F_positions_x' (g := (mkF m 1 #[.val (.ref x')] [(.ref x')])) rfl rfl (hb hby d32_1)
  obtain ⟨cq2, kq2, q2a, q2b, q2c⟩ := isOf hZ e1 E_lst
  obtain ⟨_, _, ⟨T2, L2, k2, n2⟩, -, X2, ⟨Lc2, hQ2, l2, y2, z2⟩, st2⟩ := X1.interfaceBack hx (xi := my33) (y := my22) hown (mvT hZ (hwd194 hw)) (mvT hZ (hwd195 hw)) (mvT hZ (hwd196 hw)) (mvT hZ (hwd231 hw)) (mvT hZ (hwd232 hw)) (mvT hZ (hwd233 hw)) (mvT hZ (hwd234 hw)) (mvT hZ (hwd235 hw)) (by decide) (backOf (W := 0) (s1 l Z a0 hw [] lst em h0 n0 Z0 F_e1_lst O_M X00) hZ (hwd236 hw) (hwd216 hw) (by decide) (by decide)) q2a q2b q2c (g := (mkF m 4 #[.val (.ref x')] [(.ref lst)])) rfl (by rw [hml]; rfl) (Steps.refl _) (argsL := []) (rest := []) (lenOf pd_16 rfl) rfl (by show 2 * 0 + _ ≤ _; exact Nat.le_of_eq rfl) (hb hby d32_4) (fun _ _ => ⟨rfl, e1, (by decide : 0 + 0 ≤ _), (by decide : 0 + 0 ≤ _)⟩)
  dsimp only [Pt.U, Pt.locs, Pt.cells, Pt.slots] at X2 l2 y2 z2 st2 hQ2
  subst l2 y2 z2
  obtain ⟨rfl, N2q, e2q⟩ := hQ2
  have N2 := Fr.app N0 N2q
  obtain ⟨T3, X3, e3, st3⟩ := getF X2 hx hZ hown (host := "") (Or.inl (hwd182 hw)) Via.refl e2q F_loop_x' (g := (mkF m 10 #[.val (.ref x')] [(.ref x'), (.int (1 : Int32))])) rfl rfl (hb hby d32_10)
  obtain ⟨fs, hr, hrun, hended, hW, hsame⟩ := X3.leave (v := some (.int ((1 : Int32) - lo))) (fun h => by rw [Bd.returns] at h; cases h)
  refine ⟨_, _, pre0 _ ?_, hrun, hended, _, _, rfl, ?_, ⟨_, rfl⟩, hW, hsame.mono (by decide) (by decide)⟩
  · show Steps p.tables e below (s₁.setTop (mkF m 0 #[.val (.ref x')] [])) _
    refine XS.aloadN X0.here hx rfl (hb hby d32_0) rfl rfl ?_
    refine st1 _ ?_
    refine st2.trans ?_
    refine XS.aloadN X2.here hx rfl (hb hby d32_9) rfl rfl ?_
    refine st3 _ ?_
    refine XS.isub X3.here hx rfl (hb hby d32_13) rfl ?_
    show Steps p.tables e below (T3.setTop (mkF m 14 #[.val (.ref x')] [(.int ((1 : Int32) - lo))])) _
    exact retI X3 hx Bd.returns (hb hby d32_14) hr
  · show Qls_1 Z x' lst em lo h0 n0 _ T3.heap _
    rw [e3]
    exact ⟨rfl, N2, rfl⟩
theorem hwd208 {Z : State} {a0 : Array Value} (hw : ∀ d ∈ tables_1, d.before a0 Z = true) : (Jvm.Cond.methodLink "com/example/gleipnir/gleipnir/service/Counterplay" (107 : Nat) ({ cls := "com/example/gleipnir/gleipnir/service/Counterplay", name := "finite", desc := "()Z" } : Jvm.MethodName)).before a0 Z = true := hw _ (List.mem_of_getElem? (i := 208) rfl)
theorem hwd188 {Z : State} {a0 : Array Value} (hw : ∀ d ∈ tables_1, d.before a0 Z = true) : (Jvm.Cond.code ({ cls := "com/example/gleipnir/gleipnir/service/Counterplay", name := "finite", desc := "()Z" } : Jvm.MethodName) prog_56_method_3_code (1 : Nat) (Option.some Jvm.ClassFile.FieldType.boolean)).before a0 Z = true := hw _ (List.mem_of_getElem? (i := 188) rfl)
theorem hwd107 {Z : State} {a0 : Array Value} (hw : ∀ d ∈ tables_1, d.before a0 Z = true) : (Jvm.Cond.initialized "com/example/gleipnir/gleipnir/service/Counterplay").before a0 Z = true := hw _ (List.mem_of_getElem? (i := 107) rfl)
theorem hwd187 {Z : State} {a0 : Array Value} (hw : ∀ d ∈ tables_1, d.before a0 Z = true) : (Jvm.Cond.selects "com/example/gleipnir/gleipnir/service/Counterplay" ({ cls := "com/example/gleipnir/gleipnir/service/Counterplay", name := "finite", desc := "()Z" } : Jvm.MethodName) ({ cls := "com/example/gleipnir/gleipnir/service/Counterplay", name := "finite", desc := "()Z" } : Jvm.MethodName)).before a0 Z = true := hw _ (List.mem_of_getElem? (i := 187) rfl)
theorem hwd185 {Z : State} {a0 : Array Value} (hw : ∀ d ∈ tables_1, d.before a0 Z = true) : (Jvm.Cond.declares ({ cls := "com/example/gleipnir/gleipnir/service/Counterplay", name := "finite", desc := "()Z" } : Jvm.MethodName)).before a0 Z = true := hw _ (List.mem_of_getElem? (i := 185) rfl)
theorem hwd186 {Z : State} {a0 : Array Value} (hw : ∀ d ∈ tables_1, d.before a0 Z = true) : (Jvm.Cond.instanceMethod ({ cls := "com/example/gleipnir/gleipnir/service/Counterplay", name := "finite", desc := "()Z" } : Jvm.MethodName)).before a0 Z = true := hw _ (List.mem_of_getElem? (i := 186) rfl)
theorem d31_0 : decode prog_56_method_6_code 0 = .ok (.iload_n 1, 1) := by decide +kernel
theorem d31_1 : decode prog_56_method_6_code 1 = .ok (.iconst 1, 1) := by decide +kernel
theorem d31_2 : decode prog_56_method_6_code 2 = .ok (.iadd, 1) := by decide +kernel
theorem d31_3 : decode prog_56_method_6_code 3 = .ok (.istore_n 2, 1) := by decide +kernel
theorem d31_4 : decode prog_56_method_6_code 4 = .ok (.iload_n 2, 1) := by decide +kernel
theorem d31_5 : decode prog_56_method_6_code 5 = .ok (.aload_n 0, 1) := by decide +kernel
theorem d31_6 : decode prog_56_method_6_code 6 = .ok (.getfield 13, 3) := by decide +kernel
theorem d31_9 : decode prog_56_method_6_code 9 = .ok (.invokeinterface 56 1, 5) := by decide +kernel
theorem d31_14 : decode prog_56_method_6_code 14 = .ok (.if_icmp .ne 19, 3) := by decide +kernel
theorem d31_17 : decode prog_56_method_6_code 17 = .ok (.aload_n 0, 1) := by decide +kernel
theorem d31_18 : decode prog_56_method_6_code 18 = .ok (.invokevirtual 107, 3) := by decide +kernel
theorem d31_21 : decode prog_56_method_6_code 21 = .ok (.ifCond .eq 7, 3) := by decide +kernel
theorem d31_24 : decode prog_56_method_6_code 24 = .ok (.iconst (-1), 1) := by decide +kernel
theorem d31_25 : decode prog_56_method_6_code 25 = .ok (.goto 7, 3) := by decide +kernel
theorem d31_32 : decode prog_56_method_6_code 32 = .ok (.istore_n 2, 1) := by decide +kernel
theorem d31_33 : decode prog_56_method_6_code 33 = .ok (.iload_n 2, 1) := by decide +kernel
theorem d31_34 : decode prog_56_method_6_code 34 = .ok (.ireturn, 1) := by decide +kernel
theorem ef_31 (m : MethodId) (x0 : Addr) (x1 : Int32) : entryFrame m #[(.ref x0), (.int x1)] 3 = mkF m 0 #[.val (.ref x0), .val (.int x1), .unset] [] := by first | (simp [entryFrame, mkF, argsToLocals, Value.category]; done) | rfl
def Qsu_1 (Z : State) (x' : Addr) (lst : Addr) (em : Addr) (lo : Int32) (h0 : Heap) (n0 : Nat) (v : Option Value) (h : Heap) (L : List Loc) : Prop := v = some (.int (if lo = (0 : Int32) then (-1 : Int32) else ((1 : Int32) - lo))) ∧ Fr n0 L ∧ h = h0
set_option maxRecDepth 65536 in
set_option maxHeartbeats 40000000 in
abbrev my36 : MethodName := ⟨"com/example/gleipnir/gleipnir/service/Counterplay", "successor", "(I)I"⟩
abbrev Rm_su_1 : Room := { frames := 4, cells := 0, slots := 0, locals := 60 }
theorem su_1f (l : Launch) (Z : State) (a0 : Array Value) (hw : ∀ d ∈ tables_1, d.before a0 Z = true) (ws : List Jvm.Cond) (x' : Addr) (lst : Addr) (em : Addr) (lo : Int32) (h0 : Heap) (n0 : Nat) (Z0 : n0 ≤ h0.size) (E_x' : Exa Z h0 x' "com/example/gleipnir/gleipnir/service/Counterplay") (F_positions_x' : Fld Z h0 x' "com/example/gleipnir/gleipnir/service/Counterplay" "positions" "Ljava/util/List;" (.ref lst)) (F_loop_x' : Fld Z h0 x' "com/example/gleipnir/gleipnir/service/Counterplay" "loop" "I" (.int lo)) (E_lst : Exa Z h0 lst "java/util/ImmutableCollections$List12") (F_e1_lst : Fld Z h0 lst "java/util/ImmutableCollections$List12" "e1" "Ljava/lang/Object;" (.ref em)) (O_M : Sta Z Z.heap "java/util/ImmutableCollections" "EMPTY" "Ljava/lang/Object;" (.ref em)) (X00 : Old Z n0 h0) (hl : lo = (0 : Int32)) :
    MetFree l my36 (head1 (Jvm.Cond.code my36 prog_56_method_6_code 3 (some .int) :: ws) Rm_su_1) (fun aa_ U => aa_ = #[(.ref x'), (.int (0 : Int32))] ∧ Z.Warmed39 U.vm ∧ U.heap = h0) (fun _ _ _ _ _ => True) (fun _ U oo_ U' => ∃ v L, oo_ = .returned v ∧ Qsu_1 Z x' lst em lo h0 n0 v U'.heap L ∧ FrameEnd U oo_ U' L Rm_su_1.cells Rm_su_1.slots) := by
  refine MetFree.of_bodySF (plainFor_of_name pn_16) hisR ?_
  intro p e s m args below meth c s₁ Bd hml0 hP hK
  obtain ⟨rfl, hZ, hh⟩ := hP
  have hx := Bd.exec
  have hby := Bd.bytes
  have hml : c.maxLocals = 3 := hml0
  have hown : s.vm.findClass "com/example/gleipnir/gleipnir/service/Counterplay" = some m.cls := findClass_of_methodNamed Bd.named
  have hnm := (name_of_methodNamed Bd.named Bd.method).1
  have X0 : Stand p l e Rm_su_1 s m #[(.ref x'), (.int (0 : Int32))] below meth c s₁ [] 0 0 := Stand.of_body Bd
  have e0 : s₁.heap = h0 := by rw [← hh, Bd.state]; rfl
  have N0 := Fr.nil n0
  have pre0 : ∀ tt_, Steps p.tables e below (s₁.setTop (mkF m 0 #[.val (.ref x'), .val (.int (0 : Int32)), .unset] [])) tt_ → Steps p.tables e below (s₁.setTop (entryFrame m #[(.ref x'), (.int (0 : Int32))] 3)) tt_ := fun tt_ kk_ => castTop (ef_31 m x' (0 : Int32)) kk_
  obtain ⟨T1, X1, e1, st1⟩ := getF X0 hx hZ hown (host := "") (Or.inl (hwd178 hw)) Via.refl e0 F_positions_x' (g := (mkF m 6 #[.val (.ref x'), .val (.int (0 : Int32)), .val (.int (1 : Int32))] [(.ref x'), (.int (1 : Int32))])) rfl rfl (hb hby d31_6)
  obtain ⟨cq2, kq2, q2a, q2b, q2c⟩ := isOf hZ e1 E_lst
  obtain ⟨_, _, ⟨T2, L2, k2, n2⟩, -, X2, ⟨Lc2, hQ2, l2, y2, z2⟩, st2⟩ := X1.interfaceBack hx (xi := my33) (y := my22) hown (mvT hZ (hwd194 hw)) (mvT hZ (hwd195 hw)) (mvT hZ (hwd196 hw)) (mvT hZ (hwd231 hw)) (mvT hZ (hwd232 hw)) (mvT hZ (hwd233 hw)) (mvT hZ (hwd234 hw)) (mvT hZ (hwd235 hw)) (by decide) (backOf (W := 1) (s1 l Z a0 hw [] lst em h0 n0 Z0 F_e1_lst O_M X00) hZ (hwd236 hw) (hwd216 hw) (by decide) (by decide)) q2a q2b q2c (g := (mkF m 9 #[.val (.ref x'), .val (.int (0 : Int32)), .val (.int (1 : Int32))] [(.ref lst), (.int (1 : Int32))])) rfl (by rw [hml]; rfl) (Steps.refl _) (argsL := []) (rest := [(.int (1 : Int32))]) (lenOf pd_16 rfl) rfl (by show 2 * 0 + _ ≤ _; exact Nat.le_of_eq rfl) (hb hby d31_9) (fun _ _ => ⟨rfl, e1, (by decide : 0 + 0 ≤ _), (by decide : 0 + 0 ≤ _)⟩)
  dsimp only [Pt.U, Pt.locs, Pt.cells, Pt.slots] at X2 l2 y2 z2 st2 hQ2
  subst l2 y2 z2
  obtain ⟨rfl, N2q, e2q⟩ := hQ2
  have N2 := Fr.app N0 N2q
  obtain ⟨cq3, kq3, q3a, q3b, q3c⟩ := isOf hZ e2q E_x'
  obtain ⟨_, _, ⟨T3, L3, k3, n3⟩, -, X3, ⟨Lc3, hQ3, l3, y3, z3⟩, st3⟩ := X2.virtualBack hx (y := my32) (z := my32) hown (mvT hZ (hwd208 hw)) (mvT hZ (hwd185 hw)) (notFace_of_selects (args := #[]) (mvT hZ (hwd187 hw))) (mvT hZ (hwd187 hw)) (mvT hZ (hwd186 hw)) (by decide) (backOf (W := 0) (fin l Z a0 hw [] x' lo h0 n0 Z0 F_loop_x') hZ (hwd188 hw) (hwd107 hw) (by decide) (by decide)) q3a q3c (g := (mkF m 18 #[.val (.ref x'), .val (.int (0 : Int32)), .val (.int (1 : Int32))] [(.ref x')])) rfl (by rw [hml]; rfl) (Steps.refl _) (argsL := []) (rest := []) (lenOf pd_1 rfl) rfl (by show 2 * 0 + _ ≤ _; exact Nat.le_of_eq rfl) (hb hby d31_18) (fun _ _ => ⟨rfl, e2q, (by decide : 0 + 0 ≤ _), (by decide : 0 + 0 ≤ _)⟩)
  dsimp only [Pt.U, Pt.locs, Pt.cells, Pt.slots] at X3 l3 y3 z3 st3 hQ3
  subst l3 y3 z3
  obtain ⟨rfl, N3q, e3q⟩ := hQ3
  have N3 := Fr.app N2 N3q
  obtain ⟨fs, hr, hrun, hended, hW, hsame⟩ := X3.leave (v := some (.int (-1 : Int32))) (fun h => by rw [Bd.returns] at h; cases h)
  refine ⟨_, _, pre0 _ ?_, hrun, hended, _, _, rfl, ?_, ⟨_, rfl⟩, hW, hsame.mono (by decide) (by decide)⟩
  · show Steps p.tables e below (s₁.setTop (mkF m 0 #[.val (.ref x'), .val (.int (0 : Int32)), .unset] [])) _
    refine XS.iloadN X0.here hx rfl (hb hby d31_0) rfl ?_
    refine XS.iconst X0.here hx rfl (hb hby d31_1) ?_
    refine XS.iadd X0.here hx rfl (hb hby d31_2) rfl ?_
    show Steps p.tables e below (s₁.setTop (mkF m 3 #[.val (.ref x'), .val (.int (0 : Int32)), .unset] [(.int ((0 : Int32) + (1 : Int32)))])) _
    rw [show (((0 : Int32) + (1 : Int32)) : Int32) = (1 : Int32) from by decide]
    refine XS.istoreN X0.here hx rfl (hb hby d31_3) rfl (l' := #[.val (.ref x'), .val (.int (0 : Int32)), .val (.int (1 : Int32))]) rfl ?_
    refine XS.iloadN X0.here hx rfl (hb hby d31_4) rfl ?_
    refine XS.aloadN X0.here hx rfl (hb hby d31_5) rfl rfl ?_
    refine st1 _ ?_
    refine st2.trans ?_
    show Steps p.tables e below (T2.setTop (mkF m 14 #[.val (.ref x'), .val (.int (0 : Int32)), .val (.int (1 : Int32))] [(.int (1 : Int32)), (.int (1 : Int32))])) _
    refine XS.icmpNo X2.here hx rfl (hb hby d31_14) rfl (teq (show (1 : Int32) = (1 : Int32) from rfl)).2 ?_
    refine XS.aloadN X2.here hx rfl (hb hby d31_17) rfl rfl ?_
    refine st3.trans ?_
    refine XS.ifNo X3.here hx rfl (hb hby d31_21) rfl ((if0 _ _).trans (feq (show ¬ ((if lo = (0 : Int32) then (1 : Int32) else (0 : Int32)) = (0 : Int32)) from (by rw [if_pos hl]; decide))).1) ?_
    refine XS.iconst X3.here hx rfl (hb hby d31_24) ?_
    refine XS.goto X3.here hx rfl (pc0 := 25) (pc' := 32) rfl (hb hby d31_25) (by decide) (by decide) ?_
    show Steps p.tables e below (T3.setTop (mkF m 32 #[.val (.ref x'), .val (.int (0 : Int32)), .val (.int (1 : Int32))] [(.int (-1 : Int32))])) _
    refine XS.istoreN X3.here hx rfl (hb hby d31_32) rfl (l' := #[.val (.ref x'), .val (.int (0 : Int32)), .val (.int (-1 : Int32))]) rfl ?_
    refine XS.iloadN X3.here hx rfl (hb hby d31_33) rfl ?_
    exact retI X3 hx Bd.returns (hb hby d31_34) hr
  · show Qsu_1 Z x' lst em lo h0 n0 _ T3.heap _
    rw [e3q]
    exact ⟨by rw [if_pos hl], N3, rfl⟩
theorem hwd209 {Z : State} {a0 : Array Value} (hw : ∀ d ∈ tables_1, d.before a0 Z = true) : (Jvm.Cond.methodLink "com/example/gleipnir/gleipnir/service/Counterplay" (110 : Nat) ({ cls := "com/example/gleipnir/gleipnir/service/Counterplay", name := "loopStart", desc := "()I" } : Jvm.MethodName)).before a0 Z = true := hw _ (List.mem_of_getElem? (i := 209) rfl)
theorem hwd213 {Z : State} {a0 : Array Value} (hw : ∀ d ∈ tables_1, d.before a0 Z = true) : (Jvm.Cond.code ({ cls := "com/example/gleipnir/gleipnir/service/Counterplay", name := "loopStart", desc := "()I" } : Jvm.MethodName) prog_56_method_5_code (1 : Nat) (Option.some Jvm.ClassFile.FieldType.int)).before a0 Z = true := hw _ (List.mem_of_getElem? (i := 213) rfl)
theorem hwd212 {Z : State} {a0 : Array Value} (hw : ∀ d ∈ tables_1, d.before a0 Z = true) : (Jvm.Cond.selects "com/example/gleipnir/gleipnir/service/Counterplay" ({ cls := "com/example/gleipnir/gleipnir/service/Counterplay", name := "loopStart", desc := "()I" } : Jvm.MethodName) ({ cls := "com/example/gleipnir/gleipnir/service/Counterplay", name := "loopStart", desc := "()I" } : Jvm.MethodName)).before a0 Z = true := hw _ (List.mem_of_getElem? (i := 212) rfl)
theorem hwd210 {Z : State} {a0 : Array Value} (hw : ∀ d ∈ tables_1, d.before a0 Z = true) : (Jvm.Cond.declares ({ cls := "com/example/gleipnir/gleipnir/service/Counterplay", name := "loopStart", desc := "()I" } : Jvm.MethodName)).before a0 Z = true := hw _ (List.mem_of_getElem? (i := 210) rfl)
theorem hwd211 {Z : State} {a0 : Array Value} (hw : ∀ d ∈ tables_1, d.before a0 Z = true) : (Jvm.Cond.instanceMethod ({ cls := "com/example/gleipnir/gleipnir/service/Counterplay", name := "loopStart", desc := "()I" } : Jvm.MethodName)).before a0 Z = true := hw _ (List.mem_of_getElem? (i := 211) rfl)
theorem d31_28 : decode prog_56_method_6_code 28 = .ok (.aload_n 0, 1) := by decide +kernel
theorem d31_29 : decode prog_56_method_6_code 29 = .ok (.invokevirtual 110, 3) := by decide +kernel
set_option maxRecDepth 65536 in
set_option maxHeartbeats 40000000 in
theorem su_1t (l : Launch) (Z : State) (a0 : Array Value) (hw : ∀ d ∈ tables_1, d.before a0 Z = true) (ws : List Jvm.Cond) (x' : Addr) (lst : Addr) (em : Addr) (lo : Int32) (h0 : Heap) (n0 : Nat) (Z0 : n0 ≤ h0.size) (E_x' : Exa Z h0 x' "com/example/gleipnir/gleipnir/service/Counterplay") (F_positions_x' : Fld Z h0 x' "com/example/gleipnir/gleipnir/service/Counterplay" "positions" "Ljava/util/List;" (.ref lst)) (F_loop_x' : Fld Z h0 x' "com/example/gleipnir/gleipnir/service/Counterplay" "loop" "I" (.int lo)) (E_lst : Exa Z h0 lst "java/util/ImmutableCollections$List12") (F_e1_lst : Fld Z h0 lst "java/util/ImmutableCollections$List12" "e1" "Ljava/lang/Object;" (.ref em)) (O_M : Sta Z Z.heap "java/util/ImmutableCollections" "EMPTY" "Ljava/lang/Object;" (.ref em)) (X00 : Old Z n0 h0) (hl : ¬ (lo = (0 : Int32))) :
    MetFree l my36 (head1 (Jvm.Cond.code my36 prog_56_method_6_code 3 (some .int) :: ws) Rm_su_1) (fun aa_ U => aa_ = #[(.ref x'), (.int (0 : Int32))] ∧ Z.Warmed39 U.vm ∧ U.heap = h0) (fun _ _ _ _ _ => True) (fun _ U oo_ U' => ∃ v L, oo_ = .returned v ∧ Qsu_1 Z x' lst em lo h0 n0 v U'.heap L ∧ FrameEnd U oo_ U' L Rm_su_1.cells Rm_su_1.slots) := by
  refine MetFree.of_bodySF (plainFor_of_name pn_16) hisR ?_
  intro p e s m args below meth c s₁ Bd hml0 hP hK
  obtain ⟨rfl, hZ, hh⟩ := hP
  have hx := Bd.exec
  have hby := Bd.bytes
  have hml : c.maxLocals = 3 := hml0
  have hown : s.vm.findClass "com/example/gleipnir/gleipnir/service/Counterplay" = some m.cls := findClass_of_methodNamed Bd.named
  have hnm := (name_of_methodNamed Bd.named Bd.method).1
  have X0 : Stand p l e Rm_su_1 s m #[(.ref x'), (.int (0 : Int32))] below meth c s₁ [] 0 0 := Stand.of_body Bd
  have e0 : s₁.heap = h0 := by rw [← hh, Bd.state]; rfl
  have N0 := Fr.nil n0
  have pre0 : ∀ tt_, Steps p.tables e below (s₁.setTop (mkF m 0 #[.val (.ref x'), .val (.int (0 : Int32)), .unset] [])) tt_ → Steps p.tables e below (s₁.setTop (entryFrame m #[(.ref x'), (.int (0 : Int32))] 3)) tt_ := fun tt_ kk_ => castTop (ef_31 m x' (0 : Int32)) kk_
  obtain ⟨T1, X1, e1, st1⟩ := getF X0 hx hZ hown (host := "") (Or.inl (hwd178 hw)) Via.refl e0 F_positions_x' (g := (mkF m 6 #[.val (.ref x'), .val (.int (0 : Int32)), .val (.int (1 : Int32))] [(.ref x'), (.int (1 : Int32))])) rfl rfl (hb hby d31_6)
  obtain ⟨cq2, kq2, q2a, q2b, q2c⟩ := isOf hZ e1 E_lst
  obtain ⟨_, _, ⟨T2, L2, k2, n2⟩, -, X2, ⟨Lc2, hQ2, l2, y2, z2⟩, st2⟩ := X1.interfaceBack hx (xi := my33) (y := my22) hown (mvT hZ (hwd194 hw)) (mvT hZ (hwd195 hw)) (mvT hZ (hwd196 hw)) (mvT hZ (hwd231 hw)) (mvT hZ (hwd232 hw)) (mvT hZ (hwd233 hw)) (mvT hZ (hwd234 hw)) (mvT hZ (hwd235 hw)) (by decide) (backOf (W := 1) (s1 l Z a0 hw [] lst em h0 n0 Z0 F_e1_lst O_M X00) hZ (hwd236 hw) (hwd216 hw) (by decide) (by decide)) q2a q2b q2c (g := (mkF m 9 #[.val (.ref x'), .val (.int (0 : Int32)), .val (.int (1 : Int32))] [(.ref lst), (.int (1 : Int32))])) rfl (by rw [hml]; rfl) (Steps.refl _) (argsL := []) (rest := [(.int (1 : Int32))]) (lenOf pd_16 rfl) rfl (by show 2 * 0 + _ ≤ _; exact Nat.le_of_eq rfl) (hb hby d31_9) (fun _ _ => ⟨rfl, e1, (by decide : 0 + 0 ≤ _), (by decide : 0 + 0 ≤ _)⟩)
  dsimp only [Pt.U, Pt.locs, Pt.cells, Pt.slots] at X2 l2 y2 z2 st2 hQ2
  subst l2 y2 z2
  obtain ⟨rfl, N2q, e2q⟩ := hQ2
  have N2 := Fr.app N0 N2q
  obtain ⟨cq3, kq3, q3a, q3b, q3c⟩ := isOf hZ e2q E_x'
  obtain ⟨_, _, ⟨T3, L3, k3, n3⟩, -, X3, ⟨Lc3, hQ3, l3, y3, z3⟩, st3⟩ := X2.virtualBack hx (y := my32) (z := my32) hown (mvT hZ (hwd208 hw)) (mvT hZ (hwd185 hw)) (notFace_of_selects (args := #[]) (mvT hZ (hwd187 hw))) (mvT hZ (hwd187 hw)) (mvT hZ (hwd186 hw)) (by decide) (backOf (W := 0) (fin l Z a0 hw [] x' lo h0 n0 Z0 F_loop_x') hZ (hwd188 hw) (hwd107 hw) (by decide) (by decide)) q3a q3c (g := (mkF m 18 #[.val (.ref x'), .val (.int (0 : Int32)), .val (.int (1 : Int32))] [(.ref x')])) rfl (by rw [hml]; rfl) (Steps.refl _) (argsL := []) (rest := []) (lenOf pd_1 rfl) rfl (by show 2 * 0 + _ ≤ _; exact Nat.le_of_eq rfl) (hb hby d31_18) (fun _ _ => ⟨rfl, e2q, (by decide : 0 + 0 ≤ _), (by decide : 0 + 0 ≤ _)⟩)
  dsimp only [Pt.U, Pt.locs, Pt.cells, Pt.slots] at X3 l3 y3 z3 st3 hQ3
  subst l3 y3 z3
  obtain ⟨rfl, N3q, e3q⟩ := hQ3
  have N3 := Fr.app N2 N3q
  obtain ⟨cq4, kq4, q4a, q4b, q4c⟩ := isOf hZ e3q E_x'
  obtain ⟨_, _, ⟨T4, L4, k4, n4⟩, -, X4, ⟨Lc4, hQ4, l4, y4, z4⟩, st4⟩ := X3.virtualBack hx (y := my35) (z := my35) hown (mvT hZ (hwd209 hw)) (mvT hZ (hwd210 hw)) (notFace_of_selects (args := #[]) (mvT hZ (hwd212 hw))) (mvT hZ (hwd212 hw)) (mvT hZ (hwd211 hw)) (by decide) (backOf (W := 0) (ls_1 l Z a0 hw [] x' lst em lo h0 n0 Z0 F_positions_x' F_loop_x' E_lst F_e1_lst O_M X00) hZ (hwd213 hw) (hwd107 hw) (by decide) (by decide)) q4a q4c (g := (mkF m 29 #[.val (.ref x'), .val (.int (0 : Int32)), .val (.int (1 : Int32))] [(.ref x')])) rfl (by rw [hml]; rfl) (Steps.refl _) (argsL := []) (rest := []) (lenOf pd_16 rfl) rfl (by show 2 * 0 + _ ≤ _; exact Nat.le_of_eq rfl) (hb hby d31_29) (fun _ _ => ⟨rfl, e3q, (by decide : 0 + 0 ≤ _), (by decide : 0 + 0 ≤ _)⟩)
  dsimp only [Pt.U, Pt.locs, Pt.cells, Pt.slots] at X4 l4 y4 z4 st4 hQ4
  subst l4 y4 z4
  obtain ⟨rfl, N4q, e4q⟩ := hQ4
  have N4 := Fr.app N3 N4q
  obtain ⟨fs, hr, hrun, hended, hW, hsame⟩ := X4.leave (v := some (.int ((1 : Int32) - lo))) (fun h => by rw [Bd.returns] at h; cases h)
  refine ⟨_, _, pre0 _ ?_, hrun, hended, _, _, rfl, ?_, ⟨_, rfl⟩, hW, hsame.mono (by decide) (by decide)⟩
  · show Steps p.tables e below (s₁.setTop (mkF m 0 #[.val (.ref x'), .val (.int (0 : Int32)), .unset] [])) _
    refine XS.iloadN X0.here hx rfl (hb hby d31_0) rfl ?_
    refine XS.iconst X0.here hx rfl (hb hby d31_1) ?_
    refine XS.iadd X0.here hx rfl (hb hby d31_2) rfl ?_
    show Steps p.tables e below (s₁.setTop (mkF m 3 #[.val (.ref x'), .val (.int (0 : Int32)), .unset] [(.int ((0 : Int32) + (1 : Int32)))])) _
    rw [show (((0 : Int32) + (1 : Int32)) : Int32) = (1 : Int32) from by decide]
    refine XS.istoreN X0.here hx rfl (hb hby d31_3) rfl (l' := #[.val (.ref x'), .val (.int (0 : Int32)), .val (.int (1 : Int32))]) rfl ?_
    refine XS.iloadN X0.here hx rfl (hb hby d31_4) rfl ?_
    refine XS.aloadN X0.here hx rfl (hb hby d31_5) rfl rfl ?_
    refine st1 _ ?_
    refine st2.trans ?_
    show Steps p.tables e below (T2.setTop (mkF m 14 #[.val (.ref x'), .val (.int (0 : Int32)), .val (.int (1 : Int32))] [(.int (1 : Int32)), (.int (1 : Int32))])) _
    refine XS.icmpNo X2.here hx rfl (hb hby d31_14) rfl (teq (show (1 : Int32) = (1 : Int32) from rfl)).2 ?_
    refine XS.aloadN X2.here hx rfl (hb hby d31_17) rfl rfl ?_
    refine st3.trans ?_
    refine XS.ifYes X3.here hx rfl (pc0 := 21) (pc' := 28) rfl (hb hby d31_21) rfl ((if0 _ _).trans (teq (show (if lo = (0 : Int32) then (1 : Int32) else (0 : Int32)) = (0 : Int32) from (by rw [if_neg hl]))).1) (by decide) (by decide) ?_
    refine XS.aloadN X3.here hx rfl (hb hby d31_28) rfl rfl ?_
    refine st4.trans ?_
    show Steps p.tables e below (T4.setTop (mkF m 32 #[.val (.ref x'), .val (.int (0 : Int32)), .val (.int (1 : Int32))] [(.int ((1 : Int32) - lo))])) _
    refine XS.istoreN X4.here hx rfl (hb hby d31_32) rfl (l' := #[.val (.ref x'), .val (.int (0 : Int32)), .val (.int ((1 : Int32) - lo))]) rfl ?_
    refine XS.iloadN X4.here hx rfl (hb hby d31_33) rfl ?_
    exact retI X4 hx Bd.returns (hb hby d31_34) hr
  · show Qsu_1 Z x' lst em lo h0 n0 _ T4.heap _
    rw [e4q]
    exact ⟨by rw [if_neg hl], N4, rfl⟩
theorem su_1 (l : Launch) (Z : State) (a0 : Array Value) (hw : ∀ d ∈ tables_1, d.before a0 Z = true) (ws : List Jvm.Cond) (x' : Addr) (lst : Addr) (em : Addr) (lo : Int32) (h0 : Heap) (n0 : Nat) (Z0 : n0 ≤ h0.size) (E_x' : Exa Z h0 x' "com/example/gleipnir/gleipnir/service/Counterplay") (F_positions_x' : Fld Z h0 x' "com/example/gleipnir/gleipnir/service/Counterplay" "positions" "Ljava/util/List;" (.ref lst)) (F_loop_x' : Fld Z h0 x' "com/example/gleipnir/gleipnir/service/Counterplay" "loop" "I" (.int lo)) (E_lst : Exa Z h0 lst "java/util/ImmutableCollections$List12") (F_e1_lst : Fld Z h0 lst "java/util/ImmutableCollections$List12" "e1" "Ljava/lang/Object;" (.ref em)) (O_M : Sta Z Z.heap "java/util/ImmutableCollections" "EMPTY" "Ljava/lang/Object;" (.ref em)) (X00 : Old Z n0 h0) :
    MetFree l my36 (head1 (Jvm.Cond.code my36 prog_56_method_6_code 3 (some .int) :: ws) Rm_su_1) (fun aa_ U => aa_ = #[(.ref x'), (.int (0 : Int32))] ∧ Z.Warmed39 U.vm ∧ U.heap = h0) (fun _ _ _ _ _ => True) (fun _ U oo_ U' => ∃ v L, oo_ = .returned v ∧ Qsu_1 Z x' lst em lo h0 n0 v U'.heap L ∧ FrameEnd U oo_ U' L Rm_su_1.cells Rm_su_1.slots) := by
  by_cases h : lo = (0 : Int32)
  · exact su_1f l Z a0 hw ws x' lst em lo h0 n0 Z0 E_x' F_positions_x' F_loop_x' E_lst F_e1_lst O_M X00 h
  · exact su_1t l Z a0 hw ws x' lst em lo h0 n0 Z0 E_x' F_positions_x' F_loop_x' E_lst F_e1_lst O_M X00 h
def Qlen_2 (Z : State) (x' : Addr) (lst : Addr) (em : Addr) (q : Addr) (h0 : Heap) (n0 : Nat) (v : Option Value) (h : Heap) (L : List Loc) : Prop := v = some (.int (2 : Int32)) ∧ Fr n0 L ∧ h = h0
set_option maxRecDepth 65536 in
set_option maxHeartbeats 40000000 in
abbrev Rm_len_2 : Room := { frames := 1, cells := 0, slots := 0, locals := 12 }
theorem len_2 (l : Launch) (Z : State) (a0 : Array Value) (hw : ∀ d ∈ tables_1, d.before a0 Z = true) (ws : List Jvm.Cond) (x' : Addr) (lst : Addr) (em : Addr) (q : Addr) (h0 : Heap) (n0 : Nat) (Z0 : n0 ≤ h0.size) (F_positions_x' : Fld Z h0 x' "com/example/gleipnir/gleipnir/service/Counterplay" "positions" "Ljava/util/List;" (.ref lst)) (E_lst : Exa Z h0 lst "java/util/ImmutableCollections$List12") (F_e1_lst : Fld Z h0 lst "java/util/ImmutableCollections$List12" "e1" "Ljava/lang/Object;" (.ref q)) (ne_q_em : q ≠ em) (O_M : Sta Z Z.heap "java/util/ImmutableCollections" "EMPTY" "Ljava/lang/Object;" (.ref em)) (X00 : Old Z n0 h0) :
    MetFree l my34 (head1 (Jvm.Cond.code my34 prog_56_method_4_code 1 (some .int) :: ws) Rm_len_2) (fun aa_ U => aa_ = #[(.ref x')] ∧ Z.Warmed39 U.vm ∧ U.heap = h0) (fun _ _ _ _ _ => True) (fun _ U oo_ U' => ∃ v L, oo_ = .returned v ∧ Qlen_2 Z x' lst em q h0 n0 v U'.heap L ∧ FrameEnd U oo_ U' L Rm_len_2.cells Rm_len_2.slots) := by
  refine MetFree.of_bodySF (plainFor_of_name pn_16) hisR ?_
  intro p e s m args below meth c s₁ Bd hml0 hP hK
  obtain ⟨rfl, hZ, hh⟩ := hP
  have hx := Bd.exec
  have hby := Bd.bytes
  have hml : c.maxLocals = 1 := hml0
  have hown : s.vm.findClass "com/example/gleipnir/gleipnir/service/Counterplay" = some m.cls := findClass_of_methodNamed Bd.named
  have hnm := (name_of_methodNamed Bd.named Bd.method).1
  have X0 : Stand p l e Rm_len_2 s m #[(.ref x')] below meth c s₁ [] 0 0 := Stand.of_body Bd
  have e0 : s₁.heap = h0 := by rw [← hh, Bd.state]; rfl
  have N0 := Fr.nil n0
  have pre0 : ∀ tt_, Steps p.tables e below (s₁.setTop (mkF m 0 #[.val (.ref x')] [])) tt_ → Steps p.tables e below (s₁.setTop (entryFrame m #[(.ref x')] 1)) tt_ := fun tt_ kk_ => castTop (ef_29 m x') kk_
  obtain ⟨T1, X1, e1, st1⟩ := getF X0 hx hZ hown (host := "") (Or.inl (hwd178 hw)) Via.refl e0 F_positions_x' (g := (mkF m 1 #[.val (.ref x')] [(.ref x')])) rfl rfl (hb hby d29_1)
  obtain ⟨cq2, kq2, q2a, q2b, q2c⟩ := isOf hZ e1 E_lst
  obtain ⟨_, _, ⟨T2, L2, k2, n2⟩, -, X2, ⟨Lc2, hQ2, l2, y2, z2⟩, st2⟩ := X1.interfaceBack hx (xi := my33) (y := my22) hown (mvT hZ (hwd194 hw)) (mvT hZ (hwd195 hw)) (mvT hZ (hwd196 hw)) (mvT hZ (hwd231 hw)) (mvT hZ (hwd232 hw)) (mvT hZ (hwd233 hw)) (mvT hZ (hwd234 hw)) (mvT hZ (hwd235 hw)) (by decide) (backOf (W := 0) (s2 l Z a0 hw [] lst q em h0 n0 Z0 F_e1_lst ne_q_em O_M X00) hZ (hwd236 hw) (hwd216 hw) (by decide) (by decide)) q2a q2b q2c (g := (mkF m 4 #[.val (.ref x')] [(.ref lst)])) rfl (by rw [hml]; rfl) (Steps.refl _) (argsL := []) (rest := []) (lenOf pd_16 rfl) rfl (by show 2 * 0 + _ ≤ _; exact Nat.le_of_eq rfl) (hb hby d29_4) (fun _ _ => ⟨rfl, e1, (by decide : 0 + 0 ≤ _), (by decide : 0 + 0 ≤ _)⟩)
  dsimp only [Pt.U, Pt.locs, Pt.cells, Pt.slots] at X2 l2 y2 z2 st2 hQ2
  subst l2 y2 z2
  obtain ⟨rfl, N2q, e2q⟩ := hQ2
  have N2 := Fr.app N0 N2q
  obtain ⟨fs, hr, hrun, hended, hW, hsame⟩ := X2.leave (v := some (.int (2 : Int32))) (fun h => by rw [Bd.returns] at h; cases h)
  refine ⟨_, _, pre0 _ ?_, hrun, hended, _, _, rfl, ?_, ⟨_, rfl⟩, hW, hsame.mono (by decide) (by decide)⟩
  · show Steps p.tables e below (s₁.setTop (mkF m 0 #[.val (.ref x')] [])) _
    refine XS.aloadN X0.here hx rfl (hb hby d29_0) rfl rfl ?_
    refine st1 _ ?_
    refine st2.trans ?_
    exact retI X2 hx Bd.returns (hb hby d29_9) hr
  · show Qlen_2 Z x' lst em q h0 n0 _ T2.heap _
    rw [e2q]
    exact ⟨rfl, N2, rfl⟩
def Qls_2 (Z : State) (x' : Addr) (lst : Addr) (em : Addr) (q : Addr) (lo : Int32) (h0 : Heap) (n0 : Nat) (v : Option Value) (h : Heap) (L : List Loc) : Prop := v = some (.int ((2 : Int32) - lo)) ∧ Fr n0 L ∧ h = h0
set_option maxRecDepth 65536 in
set_option maxHeartbeats 40000000 in
abbrev Rm_ls_2 : Room := { frames := 1, cells := 0, slots := 0, locals := 12 }
theorem ls_2 (l : Launch) (Z : State) (a0 : Array Value) (hw : ∀ d ∈ tables_1, d.before a0 Z = true) (ws : List Jvm.Cond) (x' : Addr) (lst : Addr) (em : Addr) (q : Addr) (lo : Int32) (h0 : Heap) (n0 : Nat) (Z0 : n0 ≤ h0.size) (F_positions_x' : Fld Z h0 x' "com/example/gleipnir/gleipnir/service/Counterplay" "positions" "Ljava/util/List;" (.ref lst)) (F_loop_x' : Fld Z h0 x' "com/example/gleipnir/gleipnir/service/Counterplay" "loop" "I" (.int lo)) (E_lst : Exa Z h0 lst "java/util/ImmutableCollections$List12") (F_e1_lst : Fld Z h0 lst "java/util/ImmutableCollections$List12" "e1" "Ljava/lang/Object;" (.ref q)) (ne_q_em : q ≠ em) (O_M : Sta Z Z.heap "java/util/ImmutableCollections" "EMPTY" "Ljava/lang/Object;" (.ref em)) (X00 : Old Z n0 h0) :
    MetFree l my35 (head1 (Jvm.Cond.code my35 prog_56_method_5_code 1 (some .int) :: ws) Rm_ls_2) (fun aa_ U => aa_ = #[(.ref x')] ∧ Z.Warmed39 U.vm ∧ U.heap = h0) (fun _ _ _ _ _ => True) (fun _ U oo_ U' => ∃ v L, oo_ = .returned v ∧ Qls_2 Z x' lst em q lo h0 n0 v U'.heap L ∧ FrameEnd U oo_ U' L Rm_ls_2.cells Rm_ls_2.slots) := by
  refine MetFree.of_bodySF (plainFor_of_name pn_16) hisR ?_
  intro p e s m args below meth c s₁ Bd hml0 hP hK
  obtain ⟨rfl, hZ, hh⟩ := hP
  have hx := Bd.exec
  have hby := Bd.bytes
  have hml : c.maxLocals = 1 := hml0
  have hown : s.vm.findClass "com/example/gleipnir/gleipnir/service/Counterplay" = some m.cls := findClass_of_methodNamed Bd.named
  have hnm := (name_of_methodNamed Bd.named Bd.method).1
  have X0 : Stand p l e Rm_ls_2 s m #[(.ref x')] below meth c s₁ [] 0 0 := Stand.of_body Bd
  have e0 : s₁.heap = h0 := by rw [← hh, Bd.state]; rfl
  have N0 := Fr.nil n0
  have pre0 : ∀ tt_, Steps p.tables e below (s₁.setTop (mkF m 0 #[.val (.ref x')] [])) tt_ → Steps p.tables e below (s₁.setTop (entryFrame m #[(.ref x')] 1)) tt_ := fun tt_ kk_ => castTop (ef_32 m x') kk_
  obtain ⟨T1, X1, e1, st1⟩ := getF X0 hx hZ hown (host := "") (Or.inl (hwd178 hw)) Via.refl e0 F_positions_x' (g := (mkF m 1 #[.val (.ref x')] [(.ref x')])) rfl rfl (hb hby d32_1)
  obtain ⟨cq2, kq2, q2a, q2b, q2c⟩ := isOf hZ e1 E_lst
  obtain ⟨_, _, ⟨T2, L2, k2, n2⟩, -, X2, ⟨Lc2, hQ2, l2, y2, z2⟩, st2⟩ := X1.interfaceBack hx (xi := my33) (y := my22) hown (mvT hZ (hwd194 hw)) (mvT hZ (hwd195 hw)) (mvT hZ (hwd196 hw)) (mvT hZ (hwd231 hw)) (mvT hZ (hwd232 hw)) (mvT hZ (hwd233 hw)) (mvT hZ (hwd234 hw)) (mvT hZ (hwd235 hw)) (by decide) (backOf (W := 0) (s2 l Z a0 hw [] lst q em h0 n0 Z0 F_e1_lst ne_q_em O_M X00) hZ (hwd236 hw) (hwd216 hw) (by decide) (by decide)) q2a q2b q2c (g := (mkF m 4 #[.val (.ref x')] [(.ref lst)])) rfl (by rw [hml]; rfl) (Steps.refl _) (argsL := []) (rest := []) (lenOf pd_16 rfl) rfl (by show 2 * 0 + _ ≤ _; exact Nat.le_of_eq rfl) (hb hby d32_4) (fun _ _ => ⟨rfl, e1, (by decide : 0 + 0 ≤ _), (by decide : 0 + 0 ≤ _)⟩)
  dsimp only [Pt.U, Pt.locs, Pt.cells, Pt.slots] at X2 l2 y2 z2 st2 hQ2
  subst l2 y2 z2
  obtain ⟨rfl, N2q, e2q⟩ := hQ2
  have N2 := Fr.app N0 N2q
  obtain ⟨T3, X3, e3, st3⟩ := getF X2 hx hZ hown (host := "") (Or.inl (hwd182 hw)) Via.refl e2q F_loop_x' (g := (mkF m 10 #[.val (.ref x')] [(.ref x'), (.int (2 : Int32))])) rfl rfl (hb hby d32_10)
  obtain ⟨fs, hr, hrun, hended, hW, hsame⟩ := X3.leave (v := some (.int ((2 : Int32) - lo))) (fun h => by rw [Bd.returns] at h; cases h)
  refine ⟨_, _, pre0 _ ?_, hrun, hended, _, _, rfl, ?_, ⟨_, rfl⟩, hW, hsame.mono (by decide) (by decide)⟩
  · show Steps p.tables e below (s₁.setTop (mkF m 0 #[.val (.ref x')] [])) _
    refine XS.aloadN X0.here hx rfl (hb hby d32_0) rfl rfl ?_
    refine st1 _ ?_
    refine st2.trans ?_
    refine XS.aloadN X2.here hx rfl (hb hby d32_9) rfl rfl ?_
    refine st3 _ ?_
    refine XS.isub X3.here hx rfl (hb hby d32_13) rfl ?_
    show Steps p.tables e below (T3.setTop (mkF m 14 #[.val (.ref x')] [(.int ((2 : Int32) - lo))])) _
    exact retI X3 hx Bd.returns (hb hby d32_14) hr
  · show Qls_2 Z x' lst em q lo h0 n0 _ T3.heap _
    rw [e3]
    exact ⟨rfl, N2, rfl⟩
def Qsu_2 (Z : State) (x' : Addr) (lst : Addr) (em : Addr) (q : Addr) (lo : Int32) (h0 : Heap) (n0 : Nat) (v : Option Value) (h : Heap) (L : List Loc) : Prop := v = some (.int (if lo = (0 : Int32) then (-1 : Int32) else ((2 : Int32) - lo))) ∧ Fr n0 L ∧ h = h0
set_option maxRecDepth 65536 in
set_option maxHeartbeats 40000000 in
abbrev Rm_su_2 : Room := { frames := 4, cells := 0, slots := 0, locals := 60 }
theorem su_2f (l : Launch) (Z : State) (a0 : Array Value) (hw : ∀ d ∈ tables_1, d.before a0 Z = true) (ws : List Jvm.Cond) (x' : Addr) (lst : Addr) (em : Addr) (q : Addr) (lo : Int32) (h0 : Heap) (n0 : Nat) (Z0 : n0 ≤ h0.size) (E_x' : Exa Z h0 x' "com/example/gleipnir/gleipnir/service/Counterplay") (F_positions_x' : Fld Z h0 x' "com/example/gleipnir/gleipnir/service/Counterplay" "positions" "Ljava/util/List;" (.ref lst)) (F_loop_x' : Fld Z h0 x' "com/example/gleipnir/gleipnir/service/Counterplay" "loop" "I" (.int lo)) (E_lst : Exa Z h0 lst "java/util/ImmutableCollections$List12") (F_e1_lst : Fld Z h0 lst "java/util/ImmutableCollections$List12" "e1" "Ljava/lang/Object;" (.ref q)) (ne_q_em : q ≠ em) (O_M : Sta Z Z.heap "java/util/ImmutableCollections" "EMPTY" "Ljava/lang/Object;" (.ref em)) (X00 : Old Z n0 h0) (hl : lo = (0 : Int32)) :
    MetFree l my36 (head1 (Jvm.Cond.code my36 prog_56_method_6_code 3 (some .int) :: ws) Rm_su_2) (fun aa_ U => aa_ = #[(.ref x'), (.int (1 : Int32))] ∧ Z.Warmed39 U.vm ∧ U.heap = h0) (fun _ _ _ _ _ => True) (fun _ U oo_ U' => ∃ v L, oo_ = .returned v ∧ Qsu_2 Z x' lst em q lo h0 n0 v U'.heap L ∧ FrameEnd U oo_ U' L Rm_su_2.cells Rm_su_2.slots) := by
  refine MetFree.of_bodySF (plainFor_of_name pn_16) hisR ?_
  intro p e s m args below meth c s₁ Bd hml0 hP hK
  obtain ⟨rfl, hZ, hh⟩ := hP
  have hx := Bd.exec
  have hby := Bd.bytes
  have hml : c.maxLocals = 3 := hml0
  have hown : s.vm.findClass "com/example/gleipnir/gleipnir/service/Counterplay" = some m.cls := findClass_of_methodNamed Bd.named
  have hnm := (name_of_methodNamed Bd.named Bd.method).1
  have X0 : Stand p l e Rm_su_2 s m #[(.ref x'), (.int (1 : Int32))] below meth c s₁ [] 0 0 := Stand.of_body Bd
  have e0 : s₁.heap = h0 := by rw [← hh, Bd.state]; rfl
  have N0 := Fr.nil n0
  have pre0 : ∀ tt_, Steps p.tables e below (s₁.setTop (mkF m 0 #[.val (.ref x'), .val (.int (1 : Int32)), .unset] [])) tt_ → Steps p.tables e below (s₁.setTop (entryFrame m #[(.ref x'), (.int (1 : Int32))] 3)) tt_ := fun tt_ kk_ => castTop (ef_31 m x' (1 : Int32)) kk_
  obtain ⟨T1, X1, e1, st1⟩ := getF X0 hx hZ hown (host := "") (Or.inl (hwd178 hw)) Via.refl e0 F_positions_x' (g := (mkF m 6 #[.val (.ref x'), .val (.int (1 : Int32)), .val (.int (2 : Int32))] [(.ref x'), (.int (2 : Int32))])) rfl rfl (hb hby d31_6)
  obtain ⟨cq2, kq2, q2a, q2b, q2c⟩ := isOf hZ e1 E_lst
  obtain ⟨_, _, ⟨T2, L2, k2, n2⟩, -, X2, ⟨Lc2, hQ2, l2, y2, z2⟩, st2⟩ := X1.interfaceBack hx (xi := my33) (y := my22) hown (mvT hZ (hwd194 hw)) (mvT hZ (hwd195 hw)) (mvT hZ (hwd196 hw)) (mvT hZ (hwd231 hw)) (mvT hZ (hwd232 hw)) (mvT hZ (hwd233 hw)) (mvT hZ (hwd234 hw)) (mvT hZ (hwd235 hw)) (by decide) (backOf (W := 1) (s2 l Z a0 hw [] lst q em h0 n0 Z0 F_e1_lst ne_q_em O_M X00) hZ (hwd236 hw) (hwd216 hw) (by decide) (by decide)) q2a q2b q2c (g := (mkF m 9 #[.val (.ref x'), .val (.int (1 : Int32)), .val (.int (2 : Int32))] [(.ref lst), (.int (2 : Int32))])) rfl (by rw [hml]; rfl) (Steps.refl _) (argsL := []) (rest := [(.int (2 : Int32))]) (lenOf pd_16 rfl) rfl (by show 2 * 0 + _ ≤ _; exact Nat.le_of_eq rfl) (hb hby d31_9) (fun _ _ => ⟨rfl, e1, (by decide : 0 + 0 ≤ _), (by decide : 0 + 0 ≤ _)⟩)
  dsimp only [Pt.U, Pt.locs, Pt.cells, Pt.slots] at X2 l2 y2 z2 st2 hQ2
  subst l2 y2 z2
  obtain ⟨rfl, N2q, e2q⟩ := hQ2
  have N2 := Fr.app N0 N2q
  obtain ⟨cq3, kq3, q3a, q3b, q3c⟩ := isOf hZ e2q E_x'
  obtain ⟨_, _, ⟨T3, L3, k3, n3⟩, -, X3, ⟨Lc3, hQ3, l3, y3, z3⟩, st3⟩ := X2.virtualBack hx (y := my32) (z := my32) hown (mvT hZ (hwd208 hw)) (mvT hZ (hwd185 hw)) (notFace_of_selects (args := #[]) (mvT hZ (hwd187 hw))) (mvT hZ (hwd187 hw)) (mvT hZ (hwd186 hw)) (by decide) (backOf (W := 0) (fin l Z a0 hw [] x' lo h0 n0 Z0 F_loop_x') hZ (hwd188 hw) (hwd107 hw) (by decide) (by decide)) q3a q3c (g := (mkF m 18 #[.val (.ref x'), .val (.int (1 : Int32)), .val (.int (2 : Int32))] [(.ref x')])) rfl (by rw [hml]; rfl) (Steps.refl _) (argsL := []) (rest := []) (lenOf pd_1 rfl) rfl (by show 2 * 0 + _ ≤ _; exact Nat.le_of_eq rfl) (hb hby d31_18) (fun _ _ => ⟨rfl, e2q, (by decide : 0 + 0 ≤ _), (by decide : 0 + 0 ≤ _)⟩)
  dsimp only [Pt.U, Pt.locs, Pt.cells, Pt.slots] at X3 l3 y3 z3 st3 hQ3
  subst l3 y3 z3
  obtain ⟨rfl, N3q, e3q⟩ := hQ3
  have N3 := Fr.app N2 N3q
  obtain ⟨fs, hr, hrun, hended, hW, hsame⟩ := X3.leave (v := some (.int (-1 : Int32))) (fun h => by rw [Bd.returns] at h; cases h)
  refine ⟨_, _, pre0 _ ?_, hrun, hended, _, _, rfl, ?_, ⟨_, rfl⟩, hW, hsame.mono (by decide) (by decide)⟩
  · show Steps p.tables e below (s₁.setTop (mkF m 0 #[.val (.ref x'), .val (.int (1 : Int32)), .unset] [])) _
    refine XS.iloadN X0.here hx rfl (hb hby d31_0) rfl ?_
    refine XS.iconst X0.here hx rfl (hb hby d31_1) ?_
    refine XS.iadd X0.here hx rfl (hb hby d31_2) rfl ?_
    show Steps p.tables e below (s₁.setTop (mkF m 3 #[.val (.ref x'), .val (.int (1 : Int32)), .unset] [(.int ((1 : Int32) + (1 : Int32)))])) _
    rw [show (((1 : Int32) + (1 : Int32)) : Int32) = (2 : Int32) from by decide]
    refine XS.istoreN X0.here hx rfl (hb hby d31_3) rfl (l' := #[.val (.ref x'), .val (.int (1 : Int32)), .val (.int (2 : Int32))]) rfl ?_
    refine XS.iloadN X0.here hx rfl (hb hby d31_4) rfl ?_
    refine XS.aloadN X0.here hx rfl (hb hby d31_5) rfl rfl ?_
    refine st1 _ ?_
    refine st2.trans ?_
    show Steps p.tables e below (T2.setTop (mkF m 14 #[.val (.ref x'), .val (.int (1 : Int32)), .val (.int (2 : Int32))] [(.int (2 : Int32)), (.int (2 : Int32))])) _
    refine XS.icmpNo X2.here hx rfl (hb hby d31_14) rfl (teq (show (2 : Int32) = (2 : Int32) from rfl)).2 ?_
    refine XS.aloadN X2.here hx rfl (hb hby d31_17) rfl rfl ?_
    refine st3.trans ?_
    refine XS.ifNo X3.here hx rfl (hb hby d31_21) rfl ((if0 _ _).trans (feq (show ¬ ((if lo = (0 : Int32) then (1 : Int32) else (0 : Int32)) = (0 : Int32)) from (by rw [if_pos hl]; decide))).1) ?_
    refine XS.iconst X3.here hx rfl (hb hby d31_24) ?_
    refine XS.goto X3.here hx rfl (pc0 := 25) (pc' := 32) rfl (hb hby d31_25) (by decide) (by decide) ?_
    show Steps p.tables e below (T3.setTop (mkF m 32 #[.val (.ref x'), .val (.int (1 : Int32)), .val (.int (2 : Int32))] [(.int (-1 : Int32))])) _
    refine XS.istoreN X3.here hx rfl (hb hby d31_32) rfl (l' := #[.val (.ref x'), .val (.int (1 : Int32)), .val (.int (-1 : Int32))]) rfl ?_
    refine XS.iloadN X3.here hx rfl (hb hby d31_33) rfl ?_
    exact retI X3 hx Bd.returns (hb hby d31_34) hr
  · show Qsu_2 Z x' lst em q lo h0 n0 _ T3.heap _
    rw [e3q]
    exact ⟨by rw [if_pos hl], N3, rfl⟩
set_option maxRecDepth 65536 in
set_option maxHeartbeats 40000000 in
theorem su_2t (l : Launch) (Z : State) (a0 : Array Value) (hw : ∀ d ∈ tables_1, d.before a0 Z = true) (ws : List Jvm.Cond) (x' : Addr) (lst : Addr) (em : Addr) (q : Addr) (lo : Int32) (h0 : Heap) (n0 : Nat) (Z0 : n0 ≤ h0.size) (E_x' : Exa Z h0 x' "com/example/gleipnir/gleipnir/service/Counterplay") (F_positions_x' : Fld Z h0 x' "com/example/gleipnir/gleipnir/service/Counterplay" "positions" "Ljava/util/List;" (.ref lst)) (F_loop_x' : Fld Z h0 x' "com/example/gleipnir/gleipnir/service/Counterplay" "loop" "I" (.int lo)) (E_lst : Exa Z h0 lst "java/util/ImmutableCollections$List12") (F_e1_lst : Fld Z h0 lst "java/util/ImmutableCollections$List12" "e1" "Ljava/lang/Object;" (.ref q)) (ne_q_em : q ≠ em) (O_M : Sta Z Z.heap "java/util/ImmutableCollections" "EMPTY" "Ljava/lang/Object;" (.ref em)) (X00 : Old Z n0 h0) (hl : ¬ (lo = (0 : Int32))) :
    MetFree l my36 (head1 (Jvm.Cond.code my36 prog_56_method_6_code 3 (some .int) :: ws) Rm_su_2) (fun aa_ U => aa_ = #[(.ref x'), (.int (1 : Int32))] ∧ Z.Warmed39 U.vm ∧ U.heap = h0) (fun _ _ _ _ _ => True) (fun _ U oo_ U' => ∃ v L, oo_ = .returned v ∧ Qsu_2 Z x' lst em q lo h0 n0 v U'.heap L ∧ FrameEnd U oo_ U' L Rm_su_2.cells Rm_su_2.slots) := by
  refine MetFree.of_bodySF (plainFor_of_name pn_16) hisR ?_
  intro p e s m args below meth c s₁ Bd hml0 hP hK
  obtain ⟨rfl, hZ, hh⟩ := hP
  have hx := Bd.exec
  have hby := Bd.bytes
  have hml : c.maxLocals = 3 := hml0
  have hown : s.vm.findClass "com/example/gleipnir/gleipnir/service/Counterplay" = some m.cls := findClass_of_methodNamed Bd.named
  have hnm := (name_of_methodNamed Bd.named Bd.method).1
  have X0 : Stand p l e Rm_su_2 s m #[(.ref x'), (.int (1 : Int32))] below meth c s₁ [] 0 0 := Stand.of_body Bd
  have e0 : s₁.heap = h0 := by rw [← hh, Bd.state]; rfl
  have N0 := Fr.nil n0
  have pre0 : ∀ tt_, Steps p.tables e below (s₁.setTop (mkF m 0 #[.val (.ref x'), .val (.int (1 : Int32)), .unset] [])) tt_ → Steps p.tables e below (s₁.setTop (entryFrame m #[(.ref x'), (.int (1 : Int32))] 3)) tt_ := fun tt_ kk_ => castTop (ef_31 m x' (1 : Int32)) kk_
  obtain ⟨T1, X1, e1, st1⟩ := getF X0 hx hZ hown (host := "") (Or.inl (hwd178 hw)) Via.refl e0 F_positions_x' (g := (mkF m 6 #[.val (.ref x'), .val (.int (1 : Int32)), .val (.int (2 : Int32))] [(.ref x'), (.int (2 : Int32))])) rfl rfl (hb hby d31_6)
  obtain ⟨cq2, kq2, q2a, q2b, q2c⟩ := isOf hZ e1 E_lst
  obtain ⟨_, _, ⟨T2, L2, k2, n2⟩, -, X2, ⟨Lc2, hQ2, l2, y2, z2⟩, st2⟩ := X1.interfaceBack hx (xi := my33) (y := my22) hown (mvT hZ (hwd194 hw)) (mvT hZ (hwd195 hw)) (mvT hZ (hwd196 hw)) (mvT hZ (hwd231 hw)) (mvT hZ (hwd232 hw)) (mvT hZ (hwd233 hw)) (mvT hZ (hwd234 hw)) (mvT hZ (hwd235 hw)) (by decide) (backOf (W := 1) (s2 l Z a0 hw [] lst q em h0 n0 Z0 F_e1_lst ne_q_em O_M X00) hZ (hwd236 hw) (hwd216 hw) (by decide) (by decide)) q2a q2b q2c (g := (mkF m 9 #[.val (.ref x'), .val (.int (1 : Int32)), .val (.int (2 : Int32))] [(.ref lst), (.int (2 : Int32))])) rfl (by rw [hml]; rfl) (Steps.refl _) (argsL := []) (rest := [(.int (2 : Int32))]) (lenOf pd_16 rfl) rfl (by show 2 * 0 + _ ≤ _; exact Nat.le_of_eq rfl) (hb hby d31_9) (fun _ _ => ⟨rfl, e1, (by decide : 0 + 0 ≤ _), (by decide : 0 + 0 ≤ _)⟩)
  dsimp only [Pt.U, Pt.locs, Pt.cells, Pt.slots] at X2 l2 y2 z2 st2 hQ2
  subst l2 y2 z2
  obtain ⟨rfl, N2q, e2q⟩ := hQ2
  have N2 := Fr.app N0 N2q
  obtain ⟨cq3, kq3, q3a, q3b, q3c⟩ := isOf hZ e2q E_x'
  obtain ⟨_, _, ⟨T3, L3, k3, n3⟩, -, X3, ⟨Lc3, hQ3, l3, y3, z3⟩, st3⟩ := X2.virtualBack hx (y := my32) (z := my32) hown (mvT hZ (hwd208 hw)) (mvT hZ (hwd185 hw)) (notFace_of_selects (args := #[]) (mvT hZ (hwd187 hw))) (mvT hZ (hwd187 hw)) (mvT hZ (hwd186 hw)) (by decide) (backOf (W := 0) (fin l Z a0 hw [] x' lo h0 n0 Z0 F_loop_x') hZ (hwd188 hw) (hwd107 hw) (by decide) (by decide)) q3a q3c (g := (mkF m 18 #[.val (.ref x'), .val (.int (1 : Int32)), .val (.int (2 : Int32))] [(.ref x')])) rfl (by rw [hml]; rfl) (Steps.refl _) (argsL := []) (rest := []) (lenOf pd_1 rfl) rfl (by show 2 * 0 + _ ≤ _; exact Nat.le_of_eq rfl) (hb hby d31_18) (fun _ _ => ⟨rfl, e2q, (by decide : 0 + 0 ≤ _), (by decide : 0 + 0 ≤ _)⟩)
  dsimp only [Pt.U, Pt.locs, Pt.cells, Pt.slots] at X3 l3 y3 z3 st3 hQ3
  subst l3 y3 z3
  obtain ⟨rfl, N3q, e3q⟩ := hQ3
  have N3 := Fr.app N2 N3q
  obtain ⟨cq4, kq4, q4a, q4b, q4c⟩ := isOf hZ e3q E_x'
  obtain ⟨_, _, ⟨T4, L4, k4, n4⟩, -, X4, ⟨Lc4, hQ4, l4, y4, z4⟩, st4⟩ := X3.virtualBack hx (y := my35) (z := my35) hown (mvT hZ (hwd209 hw)) (mvT hZ (hwd210 hw)) (notFace_of_selects (args := #[]) (mvT hZ (hwd212 hw))) (mvT hZ (hwd212 hw)) (mvT hZ (hwd211 hw)) (by decide) (backOf (W := 0) (ls_2 l Z a0 hw [] x' lst em q lo h0 n0 Z0 F_positions_x' F_loop_x' E_lst F_e1_lst ne_q_em O_M X00) hZ (hwd213 hw) (hwd107 hw) (by decide) (by decide)) q4a q4c (g := (mkF m 29 #[.val (.ref x'), .val (.int (1 : Int32)), .val (.int (2 : Int32))] [(.ref x')])) rfl (by rw [hml]; rfl) (Steps.refl _) (argsL := []) (rest := []) (lenOf pd_16 rfl) rfl (by show 2 * 0 + _ ≤ _; exact Nat.le_of_eq rfl) (hb hby d31_29) (fun _ _ => ⟨rfl, e3q, (by decide : 0 + 0 ≤ _), (by decide : 0 + 0 ≤ _)⟩)
  dsimp only [Pt.U, Pt.locs, Pt.cells, Pt.slots] at X4 l4 y4 z4 st4 hQ4
  subst l4 y4 z4
  obtain ⟨rfl, N4q, e4q⟩ := hQ4
  have N4 := Fr.app N3 N4q
  obtain ⟨fs, hr, hrun, hended, hW, hsame⟩ := X4.leave (v := some (.int ((2 : Int32) - lo))) (fun h => by rw [Bd.returns] at h; cases h)
  refine ⟨_, _, pre0 _ ?_, hrun, hended, _, _, rfl, ?_, ⟨_, rfl⟩, hW, hsame.mono (by decide) (by decide)⟩
  · show Steps p.tables e below (s₁.setTop (mkF m 0 #[.val (.ref x'), .val (.int (1 : Int32)), .unset] [])) _
    refine XS.iloadN X0.here hx rfl (hb hby d31_0) rfl ?_
    refine XS.iconst X0.here hx rfl (hb hby d31_1) ?_
    refine XS.iadd X0.here hx rfl (hb hby d31_2) rfl ?_
    show Steps p.tables e below (s₁.setTop (mkF m 3 #[.val (.ref x'), .val (.int (1 : Int32)), .unset] [(.int ((1 : Int32) + (1 : Int32)))])) _
    rw [show (((1 : Int32) + (1 : Int32)) : Int32) = (2 : Int32) from by decide]
    refine XS.istoreN X0.here hx rfl (hb hby d31_3) rfl (l' := #[.val (.ref x'), .val (.int (1 : Int32)), .val (.int (2 : Int32))]) rfl ?_
    refine XS.iloadN X0.here hx rfl (hb hby d31_4) rfl ?_
    refine XS.aloadN X0.here hx rfl (hb hby d31_5) rfl rfl ?_
    refine st1 _ ?_
    refine st2.trans ?_
    show Steps p.tables e below (T2.setTop (mkF m 14 #[.val (.ref x'), .val (.int (1 : Int32)), .val (.int (2 : Int32))] [(.int (2 : Int32)), (.int (2 : Int32))])) _
    refine XS.icmpNo X2.here hx rfl (hb hby d31_14) rfl (teq (show (2 : Int32) = (2 : Int32) from rfl)).2 ?_
    refine XS.aloadN X2.here hx rfl (hb hby d31_17) rfl rfl ?_
    refine st3.trans ?_
    refine XS.ifYes X3.here hx rfl (pc0 := 21) (pc' := 28) rfl (hb hby d31_21) rfl ((if0 _ _).trans (teq (show (if lo = (0 : Int32) then (1 : Int32) else (0 : Int32)) = (0 : Int32) from (by rw [if_neg hl]))).1) (by decide) (by decide) ?_
    refine XS.aloadN X3.here hx rfl (hb hby d31_28) rfl rfl ?_
    refine st4.trans ?_
    show Steps p.tables e below (T4.setTop (mkF m 32 #[.val (.ref x'), .val (.int (1 : Int32)), .val (.int (2 : Int32))] [(.int ((2 : Int32) - lo))])) _
    refine XS.istoreN X4.here hx rfl (hb hby d31_32) rfl (l' := #[.val (.ref x'), .val (.int (1 : Int32)), .val (.int ((2 : Int32) - lo))]) rfl ?_
    refine XS.iloadN X4.here hx rfl (hb hby d31_33) rfl ?_
    exact retI X4 hx Bd.returns (hb hby d31_34) hr
  · show Qsu_2 Z x' lst em q lo h0 n0 _ T4.heap _
    rw [e4q]
    exact ⟨by rw [if_neg hl], N4, rfl⟩
theorem su_2 (l : Launch) (Z : State) (a0 : Array Value) (hw : ∀ d ∈ tables_1, d.before a0 Z = true) (ws : List Jvm.Cond) (x' : Addr) (lst : Addr) (em : Addr) (q : Addr) (lo : Int32) (h0 : Heap) (n0 : Nat) (Z0 : n0 ≤ h0.size) (E_x' : Exa Z h0 x' "com/example/gleipnir/gleipnir/service/Counterplay") (F_positions_x' : Fld Z h0 x' "com/example/gleipnir/gleipnir/service/Counterplay" "positions" "Ljava/util/List;" (.ref lst)) (F_loop_x' : Fld Z h0 x' "com/example/gleipnir/gleipnir/service/Counterplay" "loop" "I" (.int lo)) (E_lst : Exa Z h0 lst "java/util/ImmutableCollections$List12") (F_e1_lst : Fld Z h0 lst "java/util/ImmutableCollections$List12" "e1" "Ljava/lang/Object;" (.ref q)) (ne_q_em : q ≠ em) (O_M : Sta Z Z.heap "java/util/ImmutableCollections" "EMPTY" "Ljava/lang/Object;" (.ref em)) (X00 : Old Z n0 h0) :
    MetFree l my36 (head1 (Jvm.Cond.code my36 prog_56_method_6_code 3 (some .int) :: ws) Rm_su_2) (fun aa_ U => aa_ = #[(.ref x'), (.int (1 : Int32))] ∧ Z.Warmed39 U.vm ∧ U.heap = h0) (fun _ _ _ _ _ => True) (fun _ U oo_ U' => ∃ v L, oo_ = .returned v ∧ Qsu_2 Z x' lst em q lo h0 n0 v U'.heap L ∧ FrameEnd U oo_ U' L Rm_su_2.cells Rm_su_2.slots) := by
  by_cases h : lo = (0 : Int32)
  · exact su_2f l Z a0 hw ws x' lst em q lo h0 n0 Z0 E_x' F_positions_x' F_loop_x' E_lst F_e1_lst ne_q_em O_M X00 h
  · exact su_2t l Z a0 hw ws x' lst em q lo h0 n0 Z0 E_x' F_positions_x' F_loop_x' E_lst F_e1_lst ne_q_em O_M X00 h
theorem hwd202 {Z : State} {a0 : Array Value} (hw : ∀ d ∈ tables_1, d.before a0 Z = true) : (Jvm.Cond.code ({ cls := "java/util/ImmutableCollections$ListN", name := "size", desc := "()I" } : Jvm.MethodName) jdk_45_method_3_code (1 : Nat) (Option.some Jvm.ClassFile.FieldType.int)).before a0 Z = true := hw _ (List.mem_of_getElem? (i := 202) rfl)
theorem hwd197 {Z : State} {a0 : Array Value} (hw : ∀ d ∈ tables_1, d.before a0 Z = true) : (Jvm.Cond.selects "java/util/ImmutableCollections$ListN" ({ cls := "java/util/List", name := "size", desc := "()I" } : Jvm.MethodName) ({ cls := "java/util/ImmutableCollections$ListN", name := "size", desc := "()I" } : Jvm.MethodName)).before a0 Z = true := hw _ (List.mem_of_getElem? (i := 197) rfl)
theorem hwd198 {Z : State} {a0 : Array Value} (hw : ∀ d ∈ tables_1, d.before a0 Z = true) : (Jvm.Cond.instanceMethod ({ cls := "java/util/ImmutableCollections$ListN", name := "size", desc := "()I" } : Jvm.MethodName)).before a0 Z = true := hw _ (List.mem_of_getElem? (i := 198) rfl)
theorem hwd199 {Z : State} {a0 : Array Value} (hw : ∀ d ∈ tables_1, d.before a0 Z = true) : (Jvm.Cond.publicMethod ({ cls := "java/util/ImmutableCollections$ListN", name := "size", desc := "()I" } : Jvm.MethodName)).before a0 Z = true := hw _ (List.mem_of_getElem? (i := 199) rfl)
theorem hwd200 {Z : State} {a0 : Array Value} (hw : ∀ d ∈ tables_1, d.before a0 Z = true) : (Jvm.Cond.unhidden "java/util/ImmutableCollections$ListN" "size" "()I").before a0 Z = true := hw _ (List.mem_of_getElem? (i := 200) rfl)
theorem hwd201 {Z : State} {a0 : Array Value} (hw : ∀ d ∈ tables_1, d.before a0 Z = true) : (Jvm.Cond.castable "java/util/ImmutableCollections$ListN" "java/util/List").before a0 Z = true := hw _ (List.mem_of_getElem? (i := 201) rfl)
def Qlen_3 (Z : State) (x' : Addr) (lst : Addr) (tt : Addr) (ktt : ClassId) (z : Int32) (vs : List Value) (h0 : Heap) (n0 : Nat) (v : Option Value) (h : Heap) (L : List Loc) : Prop := v = some (.int z) ∧ Fr n0 L ∧ h = h0
set_option maxRecDepth 65536 in
set_option maxHeartbeats 40000000 in
abbrev Rm_len_3 : Room := { frames := 1, cells := 0, slots := 0, locals := 12 }
theorem len_3 (l : Launch) (Z : State) (a0 : Array Value) (hw : ∀ d ∈ tables_1, d.before a0 Z = true) (ws : List Jvm.Cond) (x' : Addr) (lst : Addr) (tt : Addr) (ktt : ClassId) (z : Int32) (vs : List Value) (h0 : Heap) (n0 : Nat) (Z0 : n0 ≤ h0.size) (F_positions_x' : Fld Z h0 x' "com/example/gleipnir/gleipnir/service/Counterplay" "positions" "Ljava/util/List;" (.ref lst)) (E_lst : Exa Z h0 lst "java/util/ImmutableCollections$ListN") (F_elements_lst : Fld Z h0 lst "java/util/ImmutableCollections$ListN" "elements" "[Ljava/lang/Object;" (.ref tt)) (V_tt : Arv Z h0 tt ktt (.object "java/lang/Object") z vs .null) :
    MetFree l my34 (head1 (Jvm.Cond.code my34 prog_56_method_4_code 1 (some .int) :: ws) Rm_len_3) (fun aa_ U => aa_ = #[(.ref x')] ∧ Z.Warmed39 U.vm ∧ U.heap = h0) (fun _ _ _ _ _ => True) (fun _ U oo_ U' => ∃ v L, oo_ = .returned v ∧ Qlen_3 Z x' lst tt ktt z vs h0 n0 v U'.heap L ∧ FrameEnd U oo_ U' L Rm_len_3.cells Rm_len_3.slots) := by
  refine MetFree.of_bodySF (plainFor_of_name pn_16) hisR ?_
  intro p e s m args below meth c s₁ Bd hml0 hP hK
  obtain ⟨rfl, hZ, hh⟩ := hP
  have hx := Bd.exec
  have hby := Bd.bytes
  have hml : c.maxLocals = 1 := hml0
  have hown : s.vm.findClass "com/example/gleipnir/gleipnir/service/Counterplay" = some m.cls := findClass_of_methodNamed Bd.named
  have hnm := (name_of_methodNamed Bd.named Bd.method).1
  have X0 : Stand p l e Rm_len_3 s m #[(.ref x')] below meth c s₁ [] 0 0 := Stand.of_body Bd
  have e0 : s₁.heap = h0 := by rw [← hh, Bd.state]; rfl
  have N0 := Fr.nil n0
  have pre0 : ∀ tt_, Steps p.tables e below (s₁.setTop (mkF m 0 #[.val (.ref x')] [])) tt_ → Steps p.tables e below (s₁.setTop (entryFrame m #[(.ref x')] 1)) tt_ := fun tt_ kk_ => castTop (ef_29 m x') kk_
  obtain ⟨T1, X1, e1, st1⟩ := getF X0 hx hZ hown (host := "") (Or.inl (hwd178 hw)) Via.refl e0 F_positions_x' (g := (mkF m 1 #[.val (.ref x')] [(.ref x')])) rfl rfl (hb hby d29_1)
  obtain ⟨cq2, kq2, q2a, q2b, q2c⟩ := isOf hZ e1 E_lst
  obtain ⟨_, _, ⟨T2, L2, k2, n2⟩, -, X2, ⟨Lc2, hQ2, l2, y2, z2⟩, st2⟩ := X1.interfaceBack hx (xi := my33) (y := my23) hown (mvT hZ (hwd194 hw)) (mvT hZ (hwd195 hw)) (mvT hZ (hwd196 hw)) (mvT hZ (hwd197 hw)) (mvT hZ (hwd198 hw)) (mvT hZ (hwd199 hw)) (mvT hZ (hwd200 hw)) (mvT hZ (hwd201 hw)) (by decide) (backOf (W := 0) (sN l Z a0 hw [] lst tt ktt z vs h0 n0 Z0 F_elements_lst V_tt) hZ (hwd202 hw) (hwd155 hw) (by decide) (by decide)) q2a q2b q2c (g := (mkF m 4 #[.val (.ref x')] [(.ref lst)])) rfl (by rw [hml]; rfl) (Steps.refl _) (argsL := []) (rest := []) (lenOf pd_16 rfl) rfl (by show 2 * 0 + _ ≤ _; exact Nat.le_of_eq rfl) (hb hby d29_4) (fun _ _ => ⟨rfl, e1, (by decide : 0 + 0 ≤ _), (by decide : 0 + 0 ≤ _)⟩)
  dsimp only [Pt.U, Pt.locs, Pt.cells, Pt.slots] at X2 l2 y2 z2 st2 hQ2
  subst l2 y2 z2
  obtain ⟨rfl, N2q, e2q⟩ := hQ2
  have N2 := Fr.app N0 N2q
  obtain ⟨fs, hr, hrun, hended, hW, hsame⟩ := X2.leave (v := some (.int z)) (fun h => by rw [Bd.returns] at h; cases h)
  refine ⟨_, _, pre0 _ ?_, hrun, hended, _, _, rfl, ?_, ⟨_, rfl⟩, hW, hsame.mono (by decide) (by decide)⟩
  · show Steps p.tables e below (s₁.setTop (mkF m 0 #[.val (.ref x')] [])) _
    refine XS.aloadN X0.here hx rfl (hb hby d29_0) rfl rfl ?_
    refine st1 _ ?_
    refine st2.trans ?_
    exact retI X2 hx Bd.returns (hb hby d29_9) hr
  · show Qlen_3 Z x' lst tt ktt z vs h0 n0 _ T2.heap _
    rw [e2q]
    exact ⟨rfl, N2, rfl⟩
def Qls_3 (Z : State) (x' : Addr) (lst : Addr) (tt : Addr) (ktt : ClassId) (z : Int32) (vs : List Value) (lo : Int32) (h0 : Heap) (n0 : Nat) (v : Option Value) (h : Heap) (L : List Loc) : Prop := v = some (.int (z - lo)) ∧ Fr n0 L ∧ h = h0
set_option maxRecDepth 65536 in
set_option maxHeartbeats 40000000 in
abbrev Rm_ls_3 : Room := { frames := 1, cells := 0, slots := 0, locals := 12 }
theorem ls_3 (l : Launch) (Z : State) (a0 : Array Value) (hw : ∀ d ∈ tables_1, d.before a0 Z = true) (ws : List Jvm.Cond) (x' : Addr) (lst : Addr) (tt : Addr) (ktt : ClassId) (z : Int32) (vs : List Value) (lo : Int32) (h0 : Heap) (n0 : Nat) (Z0 : n0 ≤ h0.size) (F_positions_x' : Fld Z h0 x' "com/example/gleipnir/gleipnir/service/Counterplay" "positions" "Ljava/util/List;" (.ref lst)) (F_loop_x' : Fld Z h0 x' "com/example/gleipnir/gleipnir/service/Counterplay" "loop" "I" (.int lo)) (E_lst : Exa Z h0 lst "java/util/ImmutableCollections$ListN") (F_elements_lst : Fld Z h0 lst "java/util/ImmutableCollections$ListN" "elements" "[Ljava/lang/Object;" (.ref tt)) (V_tt : Arv Z h0 tt ktt (.object "java/lang/Object") z vs .null) :
    MetFree l my35 (head1 (Jvm.Cond.code my35 prog_56_method_5_code 1 (some .int) :: ws) Rm_ls_3) (fun aa_ U => aa_ = #[(.ref x')] ∧ Z.Warmed39 U.vm ∧ U.heap = h0) (fun _ _ _ _ _ => True) (fun _ U oo_ U' => ∃ v L, oo_ = .returned v ∧ Qls_3 Z x' lst tt ktt z vs lo h0 n0 v U'.heap L ∧ FrameEnd U oo_ U' L Rm_ls_3.cells Rm_ls_3.slots) := by
  refine MetFree.of_bodySF (plainFor_of_name pn_16) hisR ?_
  intro p e s m args below meth c s₁ Bd hml0 hP hK
  obtain ⟨rfl, hZ, hh⟩ := hP
  have hx := Bd.exec
  have hby := Bd.bytes
  have hml : c.maxLocals = 1 := hml0
  have hown : s.vm.findClass "com/example/gleipnir/gleipnir/service/Counterplay" = some m.cls := findClass_of_methodNamed Bd.named
  have hnm := (name_of_methodNamed Bd.named Bd.method).1
  have X0 : Stand p l e Rm_ls_3 s m #[(.ref x')] below meth c s₁ [] 0 0 := Stand.of_body Bd
  have e0 : s₁.heap = h0 := by rw [← hh, Bd.state]; rfl
  have N0 := Fr.nil n0
  have pre0 : ∀ tt_, Steps p.tables e below (s₁.setTop (mkF m 0 #[.val (.ref x')] [])) tt_ → Steps p.tables e below (s₁.setTop (entryFrame m #[(.ref x')] 1)) tt_ := fun tt_ kk_ => castTop (ef_32 m x') kk_
  obtain ⟨T1, X1, e1, st1⟩ := getF X0 hx hZ hown (host := "") (Or.inl (hwd178 hw)) Via.refl e0 F_positions_x' (g := (mkF m 1 #[.val (.ref x')] [(.ref x')])) rfl rfl (hb hby d32_1)
  obtain ⟨cq2, kq2, q2a, q2b, q2c⟩ := isOf hZ e1 E_lst
  obtain ⟨_, _, ⟨T2, L2, k2, n2⟩, -, X2, ⟨Lc2, hQ2, l2, y2, z2⟩, st2⟩ := X1.interfaceBack hx (xi := my33) (y := my23) hown (mvT hZ (hwd194 hw)) (mvT hZ (hwd195 hw)) (mvT hZ (hwd196 hw)) (mvT hZ (hwd197 hw)) (mvT hZ (hwd198 hw)) (mvT hZ (hwd199 hw)) (mvT hZ (hwd200 hw)) (mvT hZ (hwd201 hw)) (by decide) (backOf (W := 0) (sN l Z a0 hw [] lst tt ktt z vs h0 n0 Z0 F_elements_lst V_tt) hZ (hwd202 hw) (hwd155 hw) (by decide) (by decide)) q2a q2b q2c (g := (mkF m 4 #[.val (.ref x')] [(.ref lst)])) rfl (by rw [hml]; rfl) (Steps.refl _) (argsL := []) (rest := []) (lenOf pd_16 rfl) rfl (by show 2 * 0 + _ ≤ _; exact Nat.le_of_eq rfl) (hb hby d32_4) (fun _ _ => ⟨rfl, e1, (by decide : 0 + 0 ≤ _), (by decide : 0 + 0 ≤ _)⟩)
  dsimp only [Pt.U, Pt.locs, Pt.cells, Pt.slots] at X2 l2 y2 z2 st2 hQ2
  subst l2 y2 z2
  obtain ⟨rfl, N2q, e2q⟩ := hQ2
  have N2 := Fr.app N0 N2q
  obtain ⟨T3, X3, e3, st3⟩ := getF X2 hx hZ hown (host := "") (Or.inl (hwd182 hw)) Via.refl e2q F_loop_x' (g := (mkF m 10 #[.val (.ref x')] [(.ref x'), (.int z)])) rfl rfl (hb hby d32_10)
  obtain ⟨fs, hr, hrun, hended, hW, hsame⟩ := X3.leave (v := some (.int (z - lo))) (fun h => by rw [Bd.returns] at h; cases h)
  refine ⟨_, _, pre0 _ ?_, hrun, hended, _, _, rfl, ?_, ⟨_, rfl⟩, hW, hsame.mono (by decide) (by decide)⟩
  · show Steps p.tables e below (s₁.setTop (mkF m 0 #[.val (.ref x')] [])) _
    refine XS.aloadN X0.here hx rfl (hb hby d32_0) rfl rfl ?_
    refine st1 _ ?_
    refine st2.trans ?_
    refine XS.aloadN X2.here hx rfl (hb hby d32_9) rfl rfl ?_
    refine st3 _ ?_
    refine XS.isub X3.here hx rfl (hb hby d32_13) rfl ?_
    show Steps p.tables e below (T3.setTop (mkF m 14 #[.val (.ref x')] [(.int (z - lo))])) _
    exact retI X3 hx Bd.returns (hb hby d32_14) hr
  · show Qls_3 Z x' lst tt ktt z vs lo h0 n0 _ T3.heap _
    rw [e3]
    exact ⟨rfl, N2, rfl⟩
def Qsu_3 (Z : State) (x' : Addr) (lst : Addr) (tt : Addr) (ktt : ClassId) (z : Int32) (vs : List Value) (lo : Int32) (h0 : Heap) (n0 : Nat) (v : Option Value) (h : Heap) (L : List Loc) : Prop := v = some (.int (if lo = (0 : Int32) then (-1 : Int32) else (z - lo))) ∧ Fr n0 L ∧ h = h0
set_option maxRecDepth 65536 in
set_option maxHeartbeats 40000000 in
abbrev Rm_su_3 : Room := { frames := 4, cells := 0, slots := 0, locals := 60 }
theorem su_3f (l : Launch) (Z : State) (a0 : Array Value) (hw : ∀ d ∈ tables_1, d.before a0 Z = true) (ws : List Jvm.Cond) (x' : Addr) (lst : Addr) (tt : Addr) (ktt : ClassId) (z : Int32) (vs : List Value) (lo : Int32) (h0 : Heap) (n0 : Nat) (Z0 : n0 ≤ h0.size) (E_x' : Exa Z h0 x' "com/example/gleipnir/gleipnir/service/Counterplay") (F_positions_x' : Fld Z h0 x' "com/example/gleipnir/gleipnir/service/Counterplay" "positions" "Ljava/util/List;" (.ref lst)) (F_loop_x' : Fld Z h0 x' "com/example/gleipnir/gleipnir/service/Counterplay" "loop" "I" (.int lo)) (E_lst : Exa Z h0 lst "java/util/ImmutableCollections$ListN") (F_elements_lst : Fld Z h0 lst "java/util/ImmutableCollections$ListN" "elements" "[Ljava/lang/Object;" (.ref tt)) (V_tt : Arv Z h0 tt ktt (.object "java/lang/Object") z vs .null) (hix : ((z - (1 : Int32)) + (1 : Int32)) = z) (hl : lo = (0 : Int32)) :
    MetFree l my36 (head1 (Jvm.Cond.code my36 prog_56_method_6_code 3 (some .int) :: ws) Rm_su_3) (fun aa_ U => aa_ = #[(.ref x'), (.int (z - (1 : Int32)))] ∧ Z.Warmed39 U.vm ∧ U.heap = h0) (fun _ _ _ _ _ => True) (fun _ U oo_ U' => ∃ v L, oo_ = .returned v ∧ Qsu_3 Z x' lst tt ktt z vs lo h0 n0 v U'.heap L ∧ FrameEnd U oo_ U' L Rm_su_3.cells Rm_su_3.slots) := by
  refine MetFree.of_bodySF (plainFor_of_name pn_16) hisR ?_
  intro p e s m args below meth c s₁ Bd hml0 hP hK
  obtain ⟨rfl, hZ, hh⟩ := hP
  have hx := Bd.exec
  have hby := Bd.bytes
  have hml : c.maxLocals = 3 := hml0
  have hown : s.vm.findClass "com/example/gleipnir/gleipnir/service/Counterplay" = some m.cls := findClass_of_methodNamed Bd.named
  have hnm := (name_of_methodNamed Bd.named Bd.method).1
  have X0 : Stand p l e Rm_su_3 s m #[(.ref x'), (.int (z - (1 : Int32)))] below meth c s₁ [] 0 0 := Stand.of_body Bd
  have e0 : s₁.heap = h0 := by rw [← hh, Bd.state]; rfl
  have N0 := Fr.nil n0
  have pre0 : ∀ tt_, Steps p.tables e below (s₁.setTop (mkF m 0 #[.val (.ref x'), .val (.int (z - (1 : Int32))), .unset] [])) tt_ → Steps p.tables e below (s₁.setTop (entryFrame m #[(.ref x'), (.int (z - (1 : Int32)))] 3)) tt_ := fun tt_ kk_ => castTop (ef_31 m x' (z - (1 : Int32))) kk_
  obtain ⟨T1, X1, e1, st1⟩ := getF X0 hx hZ hown (host := "") (Or.inl (hwd178 hw)) Via.refl e0 F_positions_x' (g := (mkF m 6 #[.val (.ref x'), .val (.int (z - (1 : Int32))), .val (.int ((z - (1 : Int32)) + (1 : Int32)))] [(.ref x'), (.int ((z - (1 : Int32)) + (1 : Int32)))])) rfl rfl (hb hby d31_6)
  obtain ⟨cq2, kq2, q2a, q2b, q2c⟩ := isOf hZ e1 E_lst
  obtain ⟨_, _, ⟨T2, L2, k2, n2⟩, -, X2, ⟨Lc2, hQ2, l2, y2, z2⟩, st2⟩ := X1.interfaceBack hx (xi := my33) (y := my23) hown (mvT hZ (hwd194 hw)) (mvT hZ (hwd195 hw)) (mvT hZ (hwd196 hw)) (mvT hZ (hwd197 hw)) (mvT hZ (hwd198 hw)) (mvT hZ (hwd199 hw)) (mvT hZ (hwd200 hw)) (mvT hZ (hwd201 hw)) (by decide) (backOf (W := 1) (sN l Z a0 hw [] lst tt ktt z vs h0 n0 Z0 F_elements_lst V_tt) hZ (hwd202 hw) (hwd155 hw) (by decide) (by decide)) q2a q2b q2c (g := (mkF m 9 #[.val (.ref x'), .val (.int (z - (1 : Int32))), .val (.int ((z - (1 : Int32)) + (1 : Int32)))] [(.ref lst), (.int ((z - (1 : Int32)) + (1 : Int32)))])) rfl (by rw [hml]; rfl) (Steps.refl _) (argsL := []) (rest := [(.int ((z - (1 : Int32)) + (1 : Int32)))]) (lenOf pd_16 rfl) rfl (by show 2 * 0 + _ ≤ _; exact Nat.le_of_eq rfl) (hb hby d31_9) (fun _ _ => ⟨rfl, e1, (by decide : 0 + 0 ≤ _), (by decide : 0 + 0 ≤ _)⟩)
  dsimp only [Pt.U, Pt.locs, Pt.cells, Pt.slots] at X2 l2 y2 z2 st2 hQ2
  subst l2 y2 z2
  obtain ⟨rfl, N2q, e2q⟩ := hQ2
  have N2 := Fr.app N0 N2q
  obtain ⟨cq3, kq3, q3a, q3b, q3c⟩ := isOf hZ e2q E_x'
  obtain ⟨_, _, ⟨T3, L3, k3, n3⟩, -, X3, ⟨Lc3, hQ3, l3, y3, z3⟩, st3⟩ := X2.virtualBack hx (y := my32) (z := my32) hown (mvT hZ (hwd208 hw)) (mvT hZ (hwd185 hw)) (notFace_of_selects (args := #[]) (mvT hZ (hwd187 hw))) (mvT hZ (hwd187 hw)) (mvT hZ (hwd186 hw)) (by decide) (backOf (W := 0) (fin l Z a0 hw [] x' lo h0 n0 Z0 F_loop_x') hZ (hwd188 hw) (hwd107 hw) (by decide) (by decide)) q3a q3c (g := (mkF m 18 #[.val (.ref x'), .val (.int (z - (1 : Int32))), .val (.int ((z - (1 : Int32)) + (1 : Int32)))] [(.ref x')])) rfl (by rw [hml]; rfl) (Steps.refl _) (argsL := []) (rest := []) (lenOf pd_1 rfl) rfl (by show 2 * 0 + _ ≤ _; exact Nat.le_of_eq rfl) (hb hby d31_18) (fun _ _ => ⟨rfl, e2q, (by decide : 0 + 0 ≤ _), (by decide : 0 + 0 ≤ _)⟩)
  dsimp only [Pt.U, Pt.locs, Pt.cells, Pt.slots] at X3 l3 y3 z3 st3 hQ3
  subst l3 y3 z3
  obtain ⟨rfl, N3q, e3q⟩ := hQ3
  have N3 := Fr.app N2 N3q
  obtain ⟨fs, hr, hrun, hended, hW, hsame⟩ := X3.leave (v := some (.int (-1 : Int32))) (fun h => by rw [Bd.returns] at h; cases h)
  refine ⟨_, _, pre0 _ ?_, hrun, hended, _, _, rfl, ?_, ⟨_, rfl⟩, hW, hsame.mono (by decide) (by decide)⟩
  · show Steps p.tables e below (s₁.setTop (mkF m 0 #[.val (.ref x'), .val (.int (z - (1 : Int32))), .unset] [])) _
    refine XS.iloadN X0.here hx rfl (hb hby d31_0) rfl ?_
    refine XS.iconst X0.here hx rfl (hb hby d31_1) ?_
    refine XS.iadd X0.here hx rfl (hb hby d31_2) rfl ?_
    refine XS.istoreN X0.here hx rfl (hb hby d31_3) rfl (l' := #[.val (.ref x'), .val (.int (z - (1 : Int32))), .val (.int ((z - (1 : Int32)) + (1 : Int32)))]) rfl ?_
    refine XS.iloadN X0.here hx rfl (hb hby d31_4) rfl ?_
    refine XS.aloadN X0.here hx rfl (hb hby d31_5) rfl rfl ?_
    show Steps p.tables e below (s₁.setTop (mkF m 6 #[.val (.ref x'), .val (.int (z - (1 : Int32))), .val (.int ((z - (1 : Int32)) + (1 : Int32)))] [(.ref x'), (.int ((z - (1 : Int32)) + (1 : Int32)))])) _
    refine st1 _ ?_
    refine st2.trans ?_
    refine XS.icmpNo X2.here hx rfl (hb hby d31_14) rfl (teq (show ((z - (1 : Int32)) + (1 : Int32)) = z from hix)).2 ?_
    refine XS.aloadN X2.here hx rfl (hb hby d31_17) rfl rfl ?_
    refine st3.trans ?_
    refine XS.ifNo X3.here hx rfl (hb hby d31_21) rfl ((if0 _ _).trans (feq (show ¬ ((if lo = (0 : Int32) then (1 : Int32) else (0 : Int32)) = (0 : Int32)) from (by rw [if_pos hl]; decide))).1) ?_
    show Steps p.tables e below (T3.setTop (mkF m 24 #[.val (.ref x'), .val (.int (z - (1 : Int32))), .val (.int ((z - (1 : Int32)) + (1 : Int32)))] [])) _
    refine XS.iconst X3.here hx rfl (hb hby d31_24) ?_
    refine XS.goto X3.here hx rfl (pc0 := 25) (pc' := 32) rfl (hb hby d31_25) (by decide) (by decide) ?_
    refine XS.istoreN X3.here hx rfl (hb hby d31_32) rfl (l' := #[.val (.ref x'), .val (.int (z - (1 : Int32))), .val (.int (-1 : Int32))]) rfl ?_
    refine XS.iloadN X3.here hx rfl (hb hby d31_33) rfl ?_
    exact retI X3 hx Bd.returns (hb hby d31_34) hr
  · show Qsu_3 Z x' lst tt ktt z vs lo h0 n0 _ T3.heap _
    rw [e3q]
    exact ⟨by rw [if_pos hl], N3, rfl⟩
set_option maxRecDepth 65536 in
set_option maxHeartbeats 40000000 in
theorem su_3t (l : Launch) (Z : State) (a0 : Array Value) (hw : ∀ d ∈ tables_1, d.before a0 Z = true) (ws : List Jvm.Cond) (x' : Addr) (lst : Addr) (tt : Addr) (ktt : ClassId) (z : Int32) (vs : List Value) (lo : Int32) (h0 : Heap) (n0 : Nat) (Z0 : n0 ≤ h0.size) (E_x' : Exa Z h0 x' "com/example/gleipnir/gleipnir/service/Counterplay") (F_positions_x' : Fld Z h0 x' "com/example/gleipnir/gleipnir/service/Counterplay" "positions" "Ljava/util/List;" (.ref lst)) (F_loop_x' : Fld Z h0 x' "com/example/gleipnir/gleipnir/service/Counterplay" "loop" "I" (.int lo)) (E_lst : Exa Z h0 lst "java/util/ImmutableCollections$ListN") (F_elements_lst : Fld Z h0 lst "java/util/ImmutableCollections$ListN" "elements" "[Ljava/lang/Object;" (.ref tt)) (V_tt : Arv Z h0 tt ktt (.object "java/lang/Object") z vs .null) (hix : ((z - (1 : Int32)) + (1 : Int32)) = z) (hl : ¬ (lo = (0 : Int32))) :
    MetFree l my36 (head1 (Jvm.Cond.code my36 prog_56_method_6_code 3 (some .int) :: ws) Rm_su_3) (fun aa_ U => aa_ = #[(.ref x'), (.int (z - (1 : Int32)))] ∧ Z.Warmed39 U.vm ∧ U.heap = h0) (fun _ _ _ _ _ => True) (fun _ U oo_ U' => ∃ v L, oo_ = .returned v ∧ Qsu_3 Z x' lst tt ktt z vs lo h0 n0 v U'.heap L ∧ FrameEnd U oo_ U' L Rm_su_3.cells Rm_su_3.slots) := by
  refine MetFree.of_bodySF (plainFor_of_name pn_16) hisR ?_
  intro p e s m args below meth c s₁ Bd hml0 hP hK
  obtain ⟨rfl, hZ, hh⟩ := hP
  have hx := Bd.exec
  have hby := Bd.bytes
  have hml : c.maxLocals = 3 := hml0
  have hown : s.vm.findClass "com/example/gleipnir/gleipnir/service/Counterplay" = some m.cls := findClass_of_methodNamed Bd.named
  have hnm := (name_of_methodNamed Bd.named Bd.method).1
  have X0 : Stand p l e Rm_su_3 s m #[(.ref x'), (.int (z - (1 : Int32)))] below meth c s₁ [] 0 0 := Stand.of_body Bd
  have e0 : s₁.heap = h0 := by rw [← hh, Bd.state]; rfl
  have N0 := Fr.nil n0
  have pre0 : ∀ tt_, Steps p.tables e below (s₁.setTop (mkF m 0 #[.val (.ref x'), .val (.int (z - (1 : Int32))), .unset] [])) tt_ → Steps p.tables e below (s₁.setTop (entryFrame m #[(.ref x'), (.int (z - (1 : Int32)))] 3)) tt_ := fun tt_ kk_ => castTop (ef_31 m x' (z - (1 : Int32))) kk_
  obtain ⟨T1, X1, e1, st1⟩ := getF X0 hx hZ hown (host := "") (Or.inl (hwd178 hw)) Via.refl e0 F_positions_x' (g := (mkF m 6 #[.val (.ref x'), .val (.int (z - (1 : Int32))), .val (.int ((z - (1 : Int32)) + (1 : Int32)))] [(.ref x'), (.int ((z - (1 : Int32)) + (1 : Int32)))])) rfl rfl (hb hby d31_6)
  obtain ⟨cq2, kq2, q2a, q2b, q2c⟩ := isOf hZ e1 E_lst
  obtain ⟨_, _, ⟨T2, L2, k2, n2⟩, -, X2, ⟨Lc2, hQ2, l2, y2, z2⟩, st2⟩ := X1.interfaceBack hx (xi := my33) (y := my23) hown (mvT hZ (hwd194 hw)) (mvT hZ (hwd195 hw)) (mvT hZ (hwd196 hw)) (mvT hZ (hwd197 hw)) (mvT hZ (hwd198 hw)) (mvT hZ (hwd199 hw)) (mvT hZ (hwd200 hw)) (mvT hZ (hwd201 hw)) (by decide) (backOf (W := 1) (sN l Z a0 hw [] lst tt ktt z vs h0 n0 Z0 F_elements_lst V_tt) hZ (hwd202 hw) (hwd155 hw) (by decide) (by decide)) q2a q2b q2c (g := (mkF m 9 #[.val (.ref x'), .val (.int (z - (1 : Int32))), .val (.int ((z - (1 : Int32)) + (1 : Int32)))] [(.ref lst), (.int ((z - (1 : Int32)) + (1 : Int32)))])) rfl (by rw [hml]; rfl) (Steps.refl _) (argsL := []) (rest := [(.int ((z - (1 : Int32)) + (1 : Int32)))]) (lenOf pd_16 rfl) rfl (by show 2 * 0 + _ ≤ _; exact Nat.le_of_eq rfl) (hb hby d31_9) (fun _ _ => ⟨rfl, e1, (by decide : 0 + 0 ≤ _), (by decide : 0 + 0 ≤ _)⟩)
  dsimp only [Pt.U, Pt.locs, Pt.cells, Pt.slots] at X2 l2 y2 z2 st2 hQ2
  subst l2 y2 z2
  obtain ⟨rfl, N2q, e2q⟩ := hQ2
  have N2 := Fr.app N0 N2q
  obtain ⟨cq3, kq3, q3a, q3b, q3c⟩ := isOf hZ e2q E_x'
  obtain ⟨_, _, ⟨T3, L3, k3, n3⟩, -, X3, ⟨Lc3, hQ3, l3, y3, z3⟩, st3⟩ := X2.virtualBack hx (y := my32) (z := my32) hown (mvT hZ (hwd208 hw)) (mvT hZ (hwd185 hw)) (notFace_of_selects (args := #[]) (mvT hZ (hwd187 hw))) (mvT hZ (hwd187 hw)) (mvT hZ (hwd186 hw)) (by decide) (backOf (W := 0) (fin l Z a0 hw [] x' lo h0 n0 Z0 F_loop_x') hZ (hwd188 hw) (hwd107 hw) (by decide) (by decide)) q3a q3c (g := (mkF m 18 #[.val (.ref x'), .val (.int (z - (1 : Int32))), .val (.int ((z - (1 : Int32)) + (1 : Int32)))] [(.ref x')])) rfl (by rw [hml]; rfl) (Steps.refl _) (argsL := []) (rest := []) (lenOf pd_1 rfl) rfl (by show 2 * 0 + _ ≤ _; exact Nat.le_of_eq rfl) (hb hby d31_18) (fun _ _ => ⟨rfl, e2q, (by decide : 0 + 0 ≤ _), (by decide : 0 + 0 ≤ _)⟩)
  dsimp only [Pt.U, Pt.locs, Pt.cells, Pt.slots] at X3 l3 y3 z3 st3 hQ3
  subst l3 y3 z3
  obtain ⟨rfl, N3q, e3q⟩ := hQ3
  have N3 := Fr.app N2 N3q
  obtain ⟨cq4, kq4, q4a, q4b, q4c⟩ := isOf hZ e3q E_x'
  obtain ⟨_, _, ⟨T4, L4, k4, n4⟩, -, X4, ⟨Lc4, hQ4, l4, y4, z4⟩, st4⟩ := X3.virtualBack hx (y := my35) (z := my35) hown (mvT hZ (hwd209 hw)) (mvT hZ (hwd210 hw)) (notFace_of_selects (args := #[]) (mvT hZ (hwd212 hw))) (mvT hZ (hwd212 hw)) (mvT hZ (hwd211 hw)) (by decide) (backOf (W := 0) (ls_3 l Z a0 hw [] x' lst tt ktt z vs lo h0 n0 Z0 F_positions_x' F_loop_x' E_lst F_elements_lst V_tt) hZ (hwd213 hw) (hwd107 hw) (by decide) (by decide)) q4a q4c (g := (mkF m 29 #[.val (.ref x'), .val (.int (z - (1 : Int32))), .val (.int ((z - (1 : Int32)) + (1 : Int32)))] [(.ref x')])) rfl (by rw [hml]; rfl) (Steps.refl _) (argsL := []) (rest := []) (lenOf pd_16 rfl) rfl (by show 2 * 0 + _ ≤ _; exact Nat.le_of_eq rfl) (hb hby d31_29) (fun _ _ => ⟨rfl, e3q, (by decide : 0 + 0 ≤ _), (by decide : 0 + 0 ≤ _)⟩)
  dsimp only [Pt.U, Pt.locs, Pt.cells, Pt.slots] at X4 l4 y4 z4 st4 hQ4
  subst l4 y4 z4
  obtain ⟨rfl, N4q, e4q⟩ := hQ4
  have N4 := Fr.app N3 N4q
  obtain ⟨fs, hr, hrun, hended, hW, hsame⟩ := X4.leave (v := some (.int (z - lo))) (fun h => by rw [Bd.returns] at h; cases h)
  refine ⟨_, _, pre0 _ ?_, hrun, hended, _, _, rfl, ?_, ⟨_, rfl⟩, hW, hsame.mono (by decide) (by decide)⟩
  · show Steps p.tables e below (s₁.setTop (mkF m 0 #[.val (.ref x'), .val (.int (z - (1 : Int32))), .unset] [])) _
    refine XS.iloadN X0.here hx rfl (hb hby d31_0) rfl ?_
    refine XS.iconst X0.here hx rfl (hb hby d31_1) ?_
    refine XS.iadd X0.here hx rfl (hb hby d31_2) rfl ?_
    refine XS.istoreN X0.here hx rfl (hb hby d31_3) rfl (l' := #[.val (.ref x'), .val (.int (z - (1 : Int32))), .val (.int ((z - (1 : Int32)) + (1 : Int32)))]) rfl ?_
    refine XS.iloadN X0.here hx rfl (hb hby d31_4) rfl ?_
    refine XS.aloadN X0.here hx rfl (hb hby d31_5) rfl rfl ?_
    show Steps p.tables e below (s₁.setTop (mkF m 6 #[.val (.ref x'), .val (.int (z - (1 : Int32))), .val (.int ((z - (1 : Int32)) + (1 : Int32)))] [(.ref x'), (.int ((z - (1 : Int32)) + (1 : Int32)))])) _
    refine st1 _ ?_
    refine st2.trans ?_
    refine XS.icmpNo X2.here hx rfl (hb hby d31_14) rfl (teq (show ((z - (1 : Int32)) + (1 : Int32)) = z from hix)).2 ?_
    refine XS.aloadN X2.here hx rfl (hb hby d31_17) rfl rfl ?_
    refine st3.trans ?_
    refine XS.ifYes X3.here hx rfl (pc0 := 21) (pc' := 28) rfl (hb hby d31_21) rfl ((if0 _ _).trans (teq (show (if lo = (0 : Int32) then (1 : Int32) else (0 : Int32)) = (0 : Int32) from (by rw [if_neg hl]))).1) (by decide) (by decide) ?_
    show Steps p.tables e below (T3.setTop (mkF m 28 #[.val (.ref x'), .val (.int (z - (1 : Int32))), .val (.int ((z - (1 : Int32)) + (1 : Int32)))] [])) _
    refine XS.aloadN X3.here hx rfl (hb hby d31_28) rfl rfl ?_
    refine st4.trans ?_
    refine XS.istoreN X4.here hx rfl (hb hby d31_32) rfl (l' := #[.val (.ref x'), .val (.int (z - (1 : Int32))), .val (.int (z - lo))]) rfl ?_
    refine XS.iloadN X4.here hx rfl (hb hby d31_33) rfl ?_
    exact retI X4 hx Bd.returns (hb hby d31_34) hr
  · show Qsu_3 Z x' lst tt ktt z vs lo h0 n0 _ T4.heap _
    rw [e4q]
    exact ⟨by rw [if_neg hl], N4, rfl⟩
theorem su_3 (l : Launch) (Z : State) (a0 : Array Value) (hw : ∀ d ∈ tables_1, d.before a0 Z = true) (ws : List Jvm.Cond) (x' : Addr) (lst : Addr) (tt : Addr) (ktt : ClassId) (z : Int32) (vs : List Value) (lo : Int32) (h0 : Heap) (n0 : Nat) (Z0 : n0 ≤ h0.size) (E_x' : Exa Z h0 x' "com/example/gleipnir/gleipnir/service/Counterplay") (F_positions_x' : Fld Z h0 x' "com/example/gleipnir/gleipnir/service/Counterplay" "positions" "Ljava/util/List;" (.ref lst)) (F_loop_x' : Fld Z h0 x' "com/example/gleipnir/gleipnir/service/Counterplay" "loop" "I" (.int lo)) (E_lst : Exa Z h0 lst "java/util/ImmutableCollections$ListN") (F_elements_lst : Fld Z h0 lst "java/util/ImmutableCollections$ListN" "elements" "[Ljava/lang/Object;" (.ref tt)) (V_tt : Arv Z h0 tt ktt (.object "java/lang/Object") z vs .null) (hix : ((z - (1 : Int32)) + (1 : Int32)) = z) :
    MetFree l my36 (head1 (Jvm.Cond.code my36 prog_56_method_6_code 3 (some .int) :: ws) Rm_su_3) (fun aa_ U => aa_ = #[(.ref x'), (.int (z - (1 : Int32)))] ∧ Z.Warmed39 U.vm ∧ U.heap = h0) (fun _ _ _ _ _ => True) (fun _ U oo_ U' => ∃ v L, oo_ = .returned v ∧ Qsu_3 Z x' lst tt ktt z vs lo h0 n0 v U'.heap L ∧ FrameEnd U oo_ U' L Rm_su_3.cells Rm_su_3.slots) := by
  by_cases h : lo = (0 : Int32)
  · exact su_3f l Z a0 hw ws x' lst tt ktt z vs lo h0 n0 Z0 E_x' F_positions_x' F_loop_x' E_lst F_elements_lst V_tt hix h
  · exact su_3t l Z a0 hw ws x' lst tt ktt z vs lo h0 n0 Z0 E_x' F_positions_x' F_loop_x' E_lst F_elements_lst V_tt hix h
def Qlen (Z : State) (x' : Addr) (lst : Addr) (q : Addr) (em : Addr) (n : Nat) (z : Int32) (h0 : Heap) (n0 : Nat) (v : Option Value) (h : Heap) (L : List Loc) : Prop := v = some (.int z) ∧ Fr n0 L ∧ h = h0
abbrev Rm_len : Room := { frames := 1, cells := 0, slots := 0, locals := 12 }
theorem len (l : Launch) (Z : State) (a0 : Array Value) (hw : ∀ d ∈ tables_1, d.before a0 Z = true) (ws : List Jvm.Cond) (x' : Addr) (lst : Addr) (q : Addr) (em : Addr) (n : Nat) (z : Int32) (h0 : Heap) (n0 : Nat) (Z0 : n0 ≤ h0.size) (F_positions_x' : Fld Z h0 x' "com/example/gleipnir/gleipnir/service/Counterplay" "positions" "Ljava/util/List;" (.ref lst)) (LG : ∃ g, Lg Z h0 g z q em lst) (ne_q_em : q ≠ em) (O_M : Sta Z Z.heap "java/util/ImmutableCollections" "EMPTY" "Ljava/lang/Object;" (.ref em)) (X00 : Old Z n0 h0) :
    MetFree l my34 (head1 (Jvm.Cond.code my34 prog_56_method_4_code 1 (some .int) :: ws) Rm_len) (fun aa_ U => aa_ = #[(.ref x')] ∧ Z.Warmed39 U.vm ∧ U.heap = h0) (fun _ _ _ _ _ => True) (fun _ U oo_ U' => ∃ v L, oo_ = .returned v ∧ Qlen Z x' lst q em n z h0 n0 v U'.heap L ∧ FrameEnd U oo_ U' L Rm_len.cells Rm_len.slots) := by
  obtain ⟨g, -, ⟨rfl, E, F⟩ | ⟨rfl, E, F⟩ | ⟨tt, ktt, vs, -, E, F, V⟩⟩ := LG
  · exact len_1 l Z a0 hw ws x' lst em h0 n0 Z0 F_positions_x' E F O_M X00
  · exact len_2 l Z a0 hw ws x' lst em q h0 n0 Z0 F_positions_x' E F ne_q_em O_M X00
  · exact len_3 l Z a0 hw ws x' lst tt ktt z vs h0 n0 Z0 F_positions_x' E F V
def Qsu (Z : State) (x' : Addr) (lst : Addr) (q : Addr) (em : Addr) (n : Nat) (z : Int32) (lo : Int32) (h0 : Heap) (n0 : Nat) (v : Option Value) (h : Heap) (L : List Loc) : Prop := v = some (.int (if lo = (0 : Int32) then (-1 : Int32) else (z - lo))) ∧ Fr n0 L ∧ h = h0
abbrev Rm_su : Room := { frames := 4, cells := 0, slots := 0, locals := 60 }
theorem su (l : Launch) (Z : State) (a0 : Array Value) (hw : ∀ d ∈ tables_1, d.before a0 Z = true) (ws : List Jvm.Cond) (x' : Addr) (lst : Addr) (q : Addr) (em : Addr) (n : Nat) (z : Int32) (lo : Int32) (h0 : Heap) (n0 : Nat) (Z0 : n0 ≤ h0.size) (E_x' : Exa Z h0 x' "com/example/gleipnir/gleipnir/service/Counterplay") (F_positions_x' : Fld Z h0 x' "com/example/gleipnir/gleipnir/service/Counterplay" "positions" "Ljava/util/List;" (.ref lst)) (F_loop_x' : Fld Z h0 x' "com/example/gleipnir/gleipnir/service/Counterplay" "loop" "I" (.int lo)) (LG : ∃ g, Lg Z h0 g z q em lst) (hn : HN n z) (ne_q_em : q ≠ em) (O_M : Sta Z Z.heap "java/util/ImmutableCollections" "EMPTY" "Ljava/lang/Object;" (.ref em)) (X00 : Old Z n0 h0) :
    MetFree l my36 (head1 (Jvm.Cond.code my36 prog_56_method_6_code 3 (some .int) :: ws) Rm_su) (fun aa_ U => aa_ = #[(.ref x'), (.int (z - (1 : Int32)))] ∧ Z.Warmed39 U.vm ∧ U.heap = h0) (fun _ _ _ _ _ => True) (fun _ U oo_ U' => ∃ v L, oo_ = .returned v ∧ Qsu Z x' lst q em n z lo h0 n0 v U'.heap L ∧ FrameEnd U oo_ U' L Rm_su.cells Rm_su.slots) := by
  have hix : ((z - (1 : Int32)) + (1 : Int32)) = z := by rcases hn with ⟨rfl, rfl⟩ | ⟨rfl, rfl⟩ | ⟨rfl, rfl⟩ | ⟨rfl, rfl⟩ | ⟨rfl, rfl⟩ | ⟨rfl, rfl⟩ <;> decide
  obtain ⟨g, -, ⟨rfl, E, F⟩ | ⟨rfl, E, F⟩ | ⟨tt, ktt, vs, -, E, F, V⟩⟩ := LG
  · rw [show ((1 : Int32) - (1 : Int32)) = (0 : Int32) by decide]; exact su_1 l Z a0 hw ws x' lst em lo h0 n0 Z0 E_x' F_positions_x' F_loop_x' E F O_M X00
  · rw [show ((2 : Int32) - (1 : Int32)) = (1 : Int32) by decide]; exact su_2 l Z a0 hw ws x' lst em q lo h0 n0 Z0 E_x' F_positions_x' F_loop_x' E F ne_q_em O_M X00
  · exact su_3 l Z a0 hw ws x' lst tt ktt z vs lo h0 n0 Z0 E_x' F_positions_x' F_loop_x' E F V hix
theorem hwd1 {Z : State} {a0 : Array Value} (hw : ∀ d ∈ tables_1, d.before a0 Z = true) : (Jvm.Cond.classLink "com/example/gleipnir/gleipnir/service/CounterplayFinitePinLaw" (8 : Nat) "java/util/ArrayList").before a0 Z = true := hw _ (List.mem_of_getElem? (i := 1) rfl)
theorem hwd4 {Z : State} {a0 : Array Value} (hw : ∀ d ∈ tables_1, d.before a0 Z = true) : (Jvm.Cond.methodLink "com/example/gleipnir/gleipnir/service/CounterplayFinitePinLaw" (10 : Nat) ({ cls := "java/util/ArrayList", name := "<init>", desc := "()V" } : Jvm.MethodName)).before a0 Z = true := hw _ (List.mem_of_getElem? (i := 4) rfl)
theorem hwd6 {Z : State} {a0 : Array Value} (hw : ∀ d ∈ tables_1, d.before a0 Z = true) : (Jvm.Cond.code ({ cls := "java/util/ArrayList", name := "<init>", desc := "()V" } : Jvm.MethodName) jdk_38_method_2_code (1 : Nat) (Option.none : Option Jvm.ClassFile.FieldType)).before a0 Z = true := hw _ (List.mem_of_getElem? (i := 6) rfl)
theorem hwd5 {Z : State} {a0 : Array Value} (hw : ∀ d ∈ tables_1, d.before a0 Z = true) : (Jvm.Cond.instanceMethod ({ cls := "java/util/ArrayList", name := "<init>", desc := "()V" } : Jvm.MethodName)).before a0 Z = true := hw _ (List.mem_of_getElem? (i := 5) rfl)
theorem hwd27 {Z : State} {a0 : Array Value} (hw : ∀ d ∈ tables_1, d.before a0 Z = true) : (Jvm.Cond.classLink "com/example/gleipnir/gleipnir/service/CounterplayFinitePinLaw" (11 : Nat) "com/example/gleipnir/gleipnir/service/Counterplay$Position").before a0 Z = true := hw _ (List.mem_of_getElem? (i := 27) rfl)
theorem hwd29 {Z : State} {a0 : Array Value} (hw : ∀ d ∈ tables_1, d.before a0 Z = true) : (Jvm.Cond.initialized "com/example/gleipnir/gleipnir/service/Counterplay$Position").before a0 Z = true := hw _ (List.mem_of_getElem? (i := 29) rfl)
theorem hwd30 {Z : State} {a0 : Array Value} (hw : ∀ d ∈ tables_1, d.before a0 Z = true) : (Jvm.Cond.methodLink "com/example/gleipnir/gleipnir/service/CounterplayFinitePinLaw" (13 : Nat) ({ cls := "com/example/gleipnir/gleipnir/service/Counterplay$Position", name := "<init>", desc := "(Ljava/util/List;Ljava/util/List;)V" } : Jvm.MethodName)).before a0 Z = true := hw _ (List.mem_of_getElem? (i := 30) rfl)
theorem hwd32 {Z : State} {a0 : Array Value} (hw : ∀ d ∈ tables_1, d.before a0 Z = true) : (Jvm.Cond.code ({ cls := "com/example/gleipnir/gleipnir/service/Counterplay$Position", name := "<init>", desc := "(Ljava/util/List;Ljava/util/List;)V" } : Jvm.MethodName) prog_57_method_1_code (3 : Nat) (Option.none : Option Jvm.ClassFile.FieldType)).before a0 Z = true := hw _ (List.mem_of_getElem? (i := 32) rfl)
theorem pd_17 : parseMethodDescriptor "(Ljava/util/List;Ljava/util/List;)V" = some ⟨[(.object "java/util/List"), (.object "java/util/List")], none⟩ := by decide +kernel
theorem hwd31 {Z : State} {a0 : Array Value} (hw : ∀ d ∈ tables_1, d.before a0 Z = true) : (Jvm.Cond.instanceMethod ({ cls := "com/example/gleipnir/gleipnir/service/Counterplay$Position", name := "<init>", desc := "(Ljava/util/List;Ljava/util/List;)V" } : Jvm.MethodName)).before a0 Z = true := hw _ (List.mem_of_getElem? (i := 31) rfl)
theorem hwd72 {Z : State} {a0 : Array Value} (hw : ∀ d ∈ tables_1, d.before a0 Z = true) : (Jvm.Cond.methodLink "com/example/gleipnir/gleipnir/service/CounterplayFinitePinLaw" (16 : Nat) ({ cls := "com/example/gleipnir/gleipnir/service/CounterplayFinitePinLaw", name := "fill", desc := "(Ljava/util/ArrayList;Lcom/example/gleipnir/gleipnir/service/Counterplay$Position;I)V" } : Jvm.MethodName)).before a0 Z = true := hw _ (List.mem_of_getElem? (i := 72) rfl)
theorem hwd75 {Z : State} {a0 : Array Value} (hw : ∀ d ∈ tables_1, d.before a0 Z = true) : (Jvm.Cond.code ({ cls := "com/example/gleipnir/gleipnir/service/CounterplayFinitePinLaw", name := "fill", desc := "(Ljava/util/ArrayList;Lcom/example/gleipnir/gleipnir/service/Counterplay$Position;I)V" } : Jvm.MethodName) method_3_code (3 : Nat) (Option.none : Option Jvm.ClassFile.FieldType)).before a0 Z = true := hw _ (List.mem_of_getElem? (i := 75) rfl)
theorem hwd74 {Z : State} {a0 : Array Value} (hw : ∀ d ∈ tables_1, d.before a0 Z = true) : (Jvm.Cond.initialized "com/example/gleipnir/gleipnir/service/CounterplayFinitePinLaw").before a0 Z = true := hw _ (List.mem_of_getElem? (i := 74) rfl)
theorem pd_18 : parseMethodDescriptor "(Ljava/util/ArrayList;Lcom/example/gleipnir/gleipnir/service/Counterplay$Position;I)V" = some ⟨[(.object "java/util/ArrayList"), (.object "com/example/gleipnir/gleipnir/service/Counterplay$Position"), .int], none⟩ := by decide +kernel
theorem hwd73 {Z : State} {a0 : Array Value} (hw : ∀ d ∈ tables_1, d.before a0 Z = true) : (Jvm.Cond.static ({ cls := "com/example/gleipnir/gleipnir/service/CounterplayFinitePinLaw", name := "fill", desc := "(Ljava/util/ArrayList;Lcom/example/gleipnir/gleipnir/service/Counterplay$Position;I)V" } : Jvm.MethodName)).before a0 Z = true := hw _ (List.mem_of_getElem? (i := 73) rfl)
theorem hwd105 {Z : State} {a0 : Array Value} (hw : ∀ d ∈ tables_1, d.before a0 Z = true) : (Jvm.Cond.classLink "com/example/gleipnir/gleipnir/service/CounterplayFinitePinLaw" (22 : Nat) "com/example/gleipnir/gleipnir/service/Counterplay").before a0 Z = true := hw _ (List.mem_of_getElem? (i := 105) rfl)
theorem hwd108 {Z : State} {a0 : Array Value} (hw : ∀ d ∈ tables_1, d.before a0 Z = true) : (Jvm.Cond.methodLink "com/example/gleipnir/gleipnir/service/CounterplayFinitePinLaw" (24 : Nat) ({ cls := "com/example/gleipnir/gleipnir/service/Counterplay", name := "<init>", desc := "(Ljava/util/List;II)V" } : Jvm.MethodName)).before a0 Z = true := hw _ (List.mem_of_getElem? (i := 108) rfl)
theorem hwd110 {Z : State} {a0 : Array Value} (hw : ∀ d ∈ tables_1, d.before a0 Z = true) : (Jvm.Cond.code ({ cls := "com/example/gleipnir/gleipnir/service/Counterplay", name := "<init>", desc := "(Ljava/util/List;II)V" } : Jvm.MethodName) prog_56_method_1_code (4 : Nat) (Option.none : Option Jvm.ClassFile.FieldType)).before a0 Z = true := hw _ (List.mem_of_getElem? (i := 110) rfl)
theorem pd_19 : parseMethodDescriptor "(Ljava/util/List;II)V" = some ⟨[(.object "java/util/List"), .int, .int], none⟩ := by decide +kernel
theorem hwd109 {Z : State} {a0 : Array Value} (hw : ∀ d ∈ tables_1, d.before a0 Z = true) : (Jvm.Cond.instanceMethod ({ cls := "com/example/gleipnir/gleipnir/service/Counterplay", name := "<init>", desc := "(Ljava/util/List;II)V" } : Jvm.MethodName)).before a0 Z = true := hw _ (List.mem_of_getElem? (i := 109) rfl)
theorem hwd184 {Z : State} {a0 : Array Value} (hw : ∀ d ∈ tables_1, d.before a0 Z = true) : (Jvm.Cond.methodLink "com/example/gleipnir/gleipnir/service/CounterplayFinitePinLaw" (27 : Nat) ({ cls := "com/example/gleipnir/gleipnir/service/Counterplay", name := "finite", desc := "()Z" } : Jvm.MethodName)).before a0 Z = true := hw _ (List.mem_of_getElem? (i := 184) rfl)
theorem hwd189 {Z : State} {a0 : Array Value} (hw : ∀ d ∈ tables_1, d.before a0 Z = true) : (Jvm.Cond.methodLink "com/example/gleipnir/gleipnir/service/CounterplayFinitePinLaw" (31 : Nat) ({ cls := "com/example/gleipnir/gleipnir/service/Counterplay", name := "length", desc := "()I" } : Jvm.MethodName)).before a0 Z = true := hw _ (List.mem_of_getElem? (i := 189) rfl)
theorem hwd193 {Z : State} {a0 : Array Value} (hw : ∀ d ∈ tables_1, d.before a0 Z = true) : (Jvm.Cond.code ({ cls := "com/example/gleipnir/gleipnir/service/Counterplay", name := "length", desc := "()I" } : Jvm.MethodName) prog_56_method_4_code (1 : Nat) (Option.some Jvm.ClassFile.FieldType.int)).before a0 Z = true := hw _ (List.mem_of_getElem? (i := 193) rfl)
theorem hwd192 {Z : State} {a0 : Array Value} (hw : ∀ d ∈ tables_1, d.before a0 Z = true) : (Jvm.Cond.selects "com/example/gleipnir/gleipnir/service/Counterplay" ({ cls := "com/example/gleipnir/gleipnir/service/Counterplay", name := "length", desc := "()I" } : Jvm.MethodName) ({ cls := "com/example/gleipnir/gleipnir/service/Counterplay", name := "length", desc := "()I" } : Jvm.MethodName)).before a0 Z = true := hw _ (List.mem_of_getElem? (i := 192) rfl)
theorem hwd190 {Z : State} {a0 : Array Value} (hw : ∀ d ∈ tables_1, d.before a0 Z = true) : (Jvm.Cond.declares ({ cls := "com/example/gleipnir/gleipnir/service/Counterplay", name := "length", desc := "()I" } : Jvm.MethodName)).before a0 Z = true := hw _ (List.mem_of_getElem? (i := 190) rfl)
theorem hwd191 {Z : State} {a0 : Array Value} (hw : ∀ d ∈ tables_1, d.before a0 Z = true) : (Jvm.Cond.instanceMethod ({ cls := "com/example/gleipnir/gleipnir/service/Counterplay", name := "length", desc := "()I" } : Jvm.MethodName)).before a0 Z = true := hw _ (List.mem_of_getElem? (i := 191) rfl)
theorem hwd203 {Z : State} {a0 : Array Value} (hw : ∀ d ∈ tables_1, d.before a0 Z = true) : (Jvm.Cond.methodLink "com/example/gleipnir/gleipnir/service/CounterplayFinitePinLaw" (35 : Nat) ({ cls := "com/example/gleipnir/gleipnir/service/Counterplay", name := "successor", desc := "(I)I" } : Jvm.MethodName)).before a0 Z = true := hw _ (List.mem_of_getElem? (i := 203) rfl)
theorem hwd207 {Z : State} {a0 : Array Value} (hw : ∀ d ∈ tables_1, d.before a0 Z = true) : (Jvm.Cond.code ({ cls := "com/example/gleipnir/gleipnir/service/Counterplay", name := "successor", desc := "(I)I" } : Jvm.MethodName) prog_56_method_6_code (3 : Nat) (Option.some Jvm.ClassFile.FieldType.int)).before a0 Z = true := hw _ (List.mem_of_getElem? (i := 207) rfl)
theorem pd_20 : parseMethodDescriptor "(I)I" = some ⟨[.int], some .int⟩ := by decide +kernel
theorem hwd206 {Z : State} {a0 : Array Value} (hw : ∀ d ∈ tables_1, d.before a0 Z = true) : (Jvm.Cond.selects "com/example/gleipnir/gleipnir/service/Counterplay" ({ cls := "com/example/gleipnir/gleipnir/service/Counterplay", name := "successor", desc := "(I)I" } : Jvm.MethodName) ({ cls := "com/example/gleipnir/gleipnir/service/Counterplay", name := "successor", desc := "(I)I" } : Jvm.MethodName)).before a0 Z = true := hw _ (List.mem_of_getElem? (i := 206) rfl)
theorem hwd204 {Z : State} {a0 : Array Value} (hw : ∀ d ∈ tables_1, d.before a0 Z = true) : (Jvm.Cond.declares ({ cls := "com/example/gleipnir/gleipnir/service/Counterplay", name := "successor", desc := "(I)I" } : Jvm.MethodName)).before a0 Z = true := hw _ (List.mem_of_getElem? (i := 204) rfl)
theorem hwd205 {Z : State} {a0 : Array Value} (hw : ∀ d ∈ tables_1, d.before a0 Z = true) : (Jvm.Cond.instanceMethod ({ cls := "com/example/gleipnir/gleipnir/service/Counterplay", name := "successor", desc := "(I)I" } : Jvm.MethodName)).before a0 Z = true := hw _ (List.mem_of_getElem? (i := 205) rfl)
theorem ef_0 (m : MethodId) (x0 : Int32) (x1 : Int32) (x2 : Int32) : entryFrame m #[(.int x0), (.int x1), (.int x2)] maxLocals = mkF m 0 #[.val (.int x0), .val (.int x1), .val (.int x2), .unset, .unset, .unset, .unset, .unset, .unset, .unset, .unset, .unset] [] := by first | (simp [entryFrame, mkF, argsToLocals, Value.category, maxLocals]; done) | rfl
def Qrm0 (Z : State) (p1 : Int32) (p2 : Int32) (p3 : Int32) (dd : Addr) (el : Addr) (em : Addr) (mr : Addr) (h0 : Heap) (n0 : Nat) (v : Option Value) (h : Heap) (L : List Loc) : Prop := v = some (.int (1 : Int32)) ∧ Fr n0 L
set_option maxRecDepth 65536 in
set_option maxHeartbeats 40000000 in
theorem law_1 (l : Launch) (Z : State) (a0 : Array Value) (hw : ∀ d ∈ tables_1, d.before a0 Z = true) (ws : List Jvm.Cond) (p1 : Int32) (p2 : Int32) (p3 : Int32) (dd : Addr) (el : Addr) (em : Addr) (mr : Addr) (h0 : Heap) (n0 : Nat) (Z0 : n0 ≤ h0.size) (O_D : Sta Z Z.heap "java/util/ArrayList" "DEFAULTCAPACITY_EMPTY_ELEMENTDATA" "[Ljava/lang/Object;" (.ref dd)) (A_D : Av Z Z.heap dd (.object "java/lang/Object") 0 (fun _ => .null)) (O_L : Sta Z Z.heap "java/util/ImmutableCollections" "EMPTY_LIST" "Ljava/util/ImmutableCollections$ListN;" (.ref el)) (O_M : Sta Z Z.heap "java/util/ImmutableCollections" "EMPTY" "Ljava/lang/Object;" (.ref em)) (Mr : Mir Z "[Ljava/lang/Object;" mr) (X00 : Old Z n0 h0) (hem : em < Z.heap.size) (he : ¬ ((p1 &&& (1 : Int32)) = (0 : Int32))) :
    MetFree l x (head1 (Jvm.Cond.code x code maxLocals ret :: ws) room_1) (fun aa_ U => aa_ = #[(.int p1), (.int p2), (.int p3)] ∧ Z.Warmed39 U.vm ∧ U.heap = h0) (fun _ _ _ _ _ => True) (fun _ U oo_ U' => ∃ v L, oo_ = .returned v ∧ Qrm0 Z p1 p2 p3 dd el em mr h0 n0 v U'.heap L ∧ FrameEnd U oo_ U' L room_1.cells room_1.slots) := by
  refine MetFree.of_bodySF (plainFor_of_name pn_10) hisR ?_
  intro p e s m args below meth c s₁ Bd hml0 hP hK
  obtain ⟨rfl, hZ, hh⟩ := hP
  have hx := Bd.exec
  have hby := Bd.bytes
  have hml : c.maxLocals = 12 := hml0
  have hown : s.vm.findClass "com/example/gleipnir/gleipnir/service/CounterplayFinitePinLaw" = some m.cls := findClass_of_methodNamed Bd.named
  have hnm := (name_of_methodNamed Bd.named Bd.method).1
  have X0 : Stand p l e room_1 s m #[(.int p1), (.int p2), (.int p3)] below meth c s₁ [] 0 0 := Stand.of_body Bd
  have e0 : s₁.heap = h0 := by rw [← hh, Bd.state]; rfl
  have N0 := Fr.nil n0
  have pre0 : ∀ tt_, Steps p.tables e below (s₁.setTop (mkF m 0 #[.val (.int p1), .val (.int p2), .val (.int p3), .unset, .unset, .unset, .unset, .unset, .unset, .unset, .unset, .unset] [])) tt_ → Steps p.tables e below (s₁.setTop (entryFrame m #[(.int p1), (.int p2), (.int p3)] maxLocals)) tt_ := fun tt_ kk_ => castTop (ef_0 m p1 p2 p3) kk_
  obtain ⟨zz, h_zz⟩ : ∃ zz_ : Int32, zz_ = ((1 : Int32) + (p2 &&& (3 : Int32))) := ⟨_, rfl⟩
  obtain ⟨nn, hn⟩ : ∃ n, HN n zz := by
    rw [h_zz]; rcases own_3 p2 with h | h | h | h <;> exact own_hn6 (by simp [h])
  obtain ⟨T1, h1, X1, e1, E1, A1, D1, -, st1⟩ := newO X0 hx hZ hown (hwd1 hw) (hwd2 hw) (hwd3 hw) e0 (g := (mkF m 67 #[.val (.int p1), .val (.int p2), .val (.int p3), .val (.int (1 : Int32)), .val (.int zz), .val (.int (0 : Int32)), .val (.int zz), .unset, .unset, .unset, .unset, .unset] [])) rfl (hb hby at_67) (by decide) (by decide)
  obtain ⟨b1, g1⟩ : ∃ zz_, zz_ = h0.size := ⟨_, rfl⟩
  rw [← g1] at A1 D1 st1
  have g_b1 : n0 ≤ b1 := Nat.le_trans Z0 (Nat.le_of_eq g1.symm)
  have sz_b1 : h0.size ≤ b1 := Nat.le_trans (Keep.refl h0 []).1 (Nat.le_of_eq g1.symm)
  have F_modCount_b1 : Fld Z h1 b1 "java/util/AbstractList" "modCount" "I" (.int (0 : Int32)) := D1 (Or.inl (hwd23 hw)) (ty := .int) (by decide)
  have F_elementData_b1 : Fld Z h1 b1 "java/util/ArrayList" "elementData" "[Ljava/lang/Object;" .null := D1 (Or.inl (hwd26 hw)) (ty := (.array (.object "java/lang/Object"))) (by decide)
  have F_size_b1 : Fld Z h1 b1 "java/util/ArrayList" "size" "I" (.int (0 : Int32)) := D1 (Or.inl (hwd63 hw)) (ty := .int) (by decide)
  have old3 : Old Z n0 h1 := (X00.ext E1)
  have sz4 : n0 ≤ h1.size := (Nat.le_trans Z0 E1.1)
  obtain ⟨_, _, ⟨T2, L2, k2, n2⟩, -, X2, ⟨Lc2, hQ2, l2, y2, z2⟩, st2⟩ := X1.specialBack hx (y := my5) rfl hown (mvT hZ (hwd4 hw)) (mvT hZ (hwd5 hw)) (mvT hZ (hwd6 hw)) (by decide) (backOf (W := 1) (rm1 l Z a0 hw [] b1 dd h1 n0 sz4 A1 F_size_b1 F_elementData_b1 F_modCount_b1 g_b1 O_D old3) hZ (hwd6 hw) (hwd3 hw) (by decide) (by decide)) (g := (mkF m 71 #[.val (.int p1), .val (.int p2), .val (.int p3), .val (.int (1 : Int32)), .val (.int zz), .val (.int (0 : Int32)), .val (.int zz), .unset, .unset, .unset, .unset, .unset] [(.ref b1), (.ref b1)])) rfl (by rw [hml]; rfl) (Steps.refl _) (a := b1) (argsL := []) (rest := [(.ref b1)]) (lenOf pd_0 rfl) rfl (by show 2 * 0 + _ ≤ _; exact Nat.le_of_eq rfl) (hb hby at_71) (fun _ _ => ⟨rfl, e1, (by decide : 1 + 0 ≤ _), (by decide : 3 + 0 ≤ _)⟩)
  dsimp only [Pt.U, Pt.locs, Pt.cells, Pt.slots] at X2 l2 y2 z2 st2 hQ2
  subst l2 y2 z2
  obtain ⟨rfl, N2q, K2, p2_1, p2_2, p2_3, p2_4⟩ := hQ2
  have N2 := Fr.app N0 N2q
  obtain ⟨T5, h5, X5, e5, E5, A5, D5, -, st5⟩ := newO X2 hx hZ hown (hwd27 hw) (hwd28 hw) (hwd29 hw) rfl (g := (mkF m 76 #[.val (.int p1), .val (.int p2), .val (.int p3), .val (.int (1 : Int32)), .val (.int zz), .val (.int (0 : Int32)), .val (.int zz), .val (.ref b1), .unset, .unset, .unset, .unset] [])) rfl (hb hby at_76) (by decide) (by decide)
  obtain ⟨b5, g5⟩ : ∃ zz_, zz_ = T2.heap.size := ⟨_, rfl⟩
  rw [← g5] at A5 D5 st5
  have ne_b1_b5 : b1 ≠ b5 := Nat.ne_of_lt (Nat.lt_of_lt_of_le p2_1.lt (Nat.le_of_eq g5.symm))
  have sz6 : n0 ≤ T2.heap.size := (Nat.le_trans sz4 K2.1)
  have g_b5 : n0 ≤ b5 := Nat.le_trans sz6 (Nat.le_of_eq g5.symm)
  have kp7 : Keep h0 T2.heap [] := (((Keep.refl h0 []).ext E1).trans K2 (allS (Or.inr sz_b1) all0))
  have sz_b5 : h0.size ≤ b5 := Nat.le_trans kp7.1 (Nat.le_of_eq g5.symm)
  have F_inputs_b5 : Fld Z h5 b5 "com/example/gleipnir/gleipnir/service/Counterplay$Position" "inputs" "Ljava/util/List;" .null := D5 (Or.inr (hwd69 hw)) (ty := (.object "java/util/List")) (by decide)
  have F_outputs_b5 : Fld Z h5 b5 "com/example/gleipnir/gleipnir/service/Counterplay$Position" "outputs" "Ljava/util/List;" .null := D5 (Or.inr (hwd71 hw)) (ty := (.object "java/util/List")) (by decide)
  have f9_E_b1 := (p2_1.ext E5)
  have f10_F_b1_size := (p2_2.ext E5)
  have old11 : Old Z n0 h5 := ((old3.keep K2 (allS g_b1 all0)).ext E5)
  have sz12 : n0 ≤ h5.size := (Nat.le_trans sz6 E5.1)
  obtain ⟨_, _, ⟨T8, L8, k8, n8⟩, -, X8, ⟨Lc8, hQ8, l8, y8, z8⟩, st8⟩ := X5.specialBack hx (y := my11) rfl hown (mvT hZ (hwd30 hw)) (mvT hZ (hwd31 hw)) (mvT hZ (hwd32 hw)) (by decide) (backOf (W := 1) (rm5 l Z a0 hw [] b5 b1 el h5 n0 sz12 A5 F_inputs_b5 F_outputs_b5 g_b5 f9_E_b1 f10_F_b1_size (Ne.symm ne_b1_b5) O_L old11) hZ (hwd32 hw) (hwd29 hw) (by decide) (by decide)) (g := (mkF m 84 #[.val (.int p1), .val (.int p2), .val (.int p3), .val (.int (1 : Int32)), .val (.int zz), .val (.int (0 : Int32)), .val (.int zz), .val (.ref b1), .unset, .unset, .unset, .unset] [(.ref b1), (.ref b1), (.ref b5), (.ref b5)])) rfl (by rw [hml]; rfl) (Steps.refl _) (a := b5) (argsL := [(.ref b1), (.ref b1)]) (rest := [(.ref b5)]) (lenOf pd_17 rfl) rfl (by show 2 * 0 + _ ≤ _; exact Nat.le_of_eq rfl) (hb hby at_84) (fun _ _ => ⟨rfl, e5, (by decide : 2 + 0 ≤ _), (by decide : 5 + 0 ≤ _)⟩)
  dsimp only [Pt.U, Pt.locs, Pt.cells, Pt.slots] at X8 l8 y8 z8 st8 hQ8
  subst l8 y8 z8
  obtain ⟨rfl, N8q, K8, p8_1⟩ := hQ8
  have N8 := Fr.app N2 N8q
  have ne_em : b5 ≠ em := Ne.symm (Nat.ne_of_lt (Nat.lt_of_lt_of_le hem (Nat.le_trans (Nat.le_of_eq X00.1) g_b5)))
  obtain ⟨T13, h13, X13, e13, E13, A13, D13, -, st13⟩ := newO X8 hx hZ hown (hwd1 hw) (hwd2 hw) (hwd3 hw) rfl (g := (mkF m 89 #[.val (.int p1), .val (.int p2), .val (.int p3), .val (.int (1 : Int32)), .val (.int zz), .val (.int (0 : Int32)), .val (.int zz), .val (.ref b1), .val (.ref b5), .unset, .unset, .unset] [])) rfl (hb hby at_89) (by decide) (by decide)
  obtain ⟨b13, g13⟩ : ∃ zz_, zz_ = T8.heap.size := ⟨_, rfl⟩
  rw [← g13] at A13 D13 st13
  have f14_E_b1 := (f9_E_b1.keep K8)
  have ne_b1_b13 : b1 ≠ b13 := Nat.ne_of_lt (Nat.lt_of_lt_of_le f14_E_b1.lt (Nat.le_of_eq g13.symm))
  have ne_b5_b13 : b5 ≠ b13 := Nat.ne_of_lt (Nat.lt_of_lt_of_le p8_1.lt (Nat.le_of_eq g13.symm))
  have sz15 : n0 ≤ T8.heap.size := (Nat.le_trans sz12 K8.1)
  have g_b13 : n0 ≤ b13 := Nat.le_trans sz15 (Nat.le_of_eq g13.symm)
  have kp16 : Keep h0 T8.heap [] := ((kp7.ext E5).trans K8 (allS (Or.inr sz_b5) all0))
  have sz_b13 : h0.size ≤ b13 := Nat.le_trans kp16.1 (Nat.le_of_eq g13.symm)
  have F_modCount_b13 : Fld Z h13 b13 "java/util/AbstractList" "modCount" "I" (.int (0 : Int32)) := D13 (Or.inl (hwd23 hw)) (ty := .int) (by decide)
  have F_elementData_b13 : Fld Z h13 b13 "java/util/ArrayList" "elementData" "[Ljava/lang/Object;" .null := D13 (Or.inl (hwd26 hw)) (ty := (.array (.object "java/lang/Object"))) (by decide)
  have F_size_b13 : Fld Z h13 b13 "java/util/ArrayList" "size" "I" (.int (0 : Int32)) := D13 (Or.inl (hwd63 hw)) (ty := .int) (by decide)
  have old18 : Old Z n0 h13 := ((old11.keep K8 (allS g_b5 all0)).ext E13)
  have sz19 : n0 ≤ h13.size := (Nat.le_trans sz15 E13.1)
  obtain ⟨_, _, ⟨T17, L17, k17, n17⟩, -, X17, ⟨Lc17, hQ17, l17, y17, z17⟩, st17⟩ := X13.specialBack hx (y := my5) rfl hown (mvT hZ (hwd4 hw)) (mvT hZ (hwd5 hw)) (mvT hZ (hwd6 hw)) (by decide) (backOf (W := 1) (rm1 l Z a0 hw [] b13 dd h13 n0 sz19 A13 F_size_b13 F_elementData_b13 F_modCount_b13 g_b13 O_D old18) hZ (hwd6 hw) (hwd3 hw) (by decide) (by decide)) (g := (mkF m 93 #[.val (.int p1), .val (.int p2), .val (.int p3), .val (.int (1 : Int32)), .val (.int zz), .val (.int (0 : Int32)), .val (.int zz), .val (.ref b1), .val (.ref b5), .unset, .unset, .unset] [(.ref b13), (.ref b13)])) rfl (by rw [hml]; rfl) (Steps.refl _) (a := b13) (argsL := []) (rest := [(.ref b13)]) (lenOf pd_0 rfl) rfl (by show 2 * 0 + _ ≤ _; exact Nat.le_of_eq rfl) (hb hby at_93) (fun _ _ => ⟨rfl, e13, (by decide : 3 + 0 ≤ _), (by decide : 8 + 0 ≤ _)⟩)
  dsimp only [Pt.U, Pt.locs, Pt.cells, Pt.slots] at X17 l17 y17 z17 st17 hQ17
  subst l17 y17 z17
  obtain ⟨rfl, N17q, K17, p17_1, p17_2, p17_3, p17_4⟩ := hQ17
  have N17 := Fr.app N8 N17q
  have old21 : Old Z n0 T17.heap := (old18.keep K17 (allS g_b13 all0))
  have f22_E_b5 := ((p8_1.ext E13).keep K17)
  have sz23 : n0 ≤ T17.heap.size := (Nat.le_trans sz19 K17.1)
  have kp24 : Keep h0 T17.heap [] := ((kp16.ext E13).trans K17 (allS (Or.inr sz_b13) all0))
  obtain ⟨_, _, ⟨T20, L20, k20, n20⟩, -, X20, ⟨Lc20, hQ20, l20, y20, z20⟩, st20⟩ := Jvm.LawKit.callS X17 hx (y := my17) hown (mvT hZ (hwd72 hw)) (mvT hZ (hwd73 hw)) (mvT hZ (hwd74 hw)) (mvT hZ (hwd75 hw)) (by decide) (backOf (W := 0) (fill l Z a0 hw [] b13 b5 dd nn zz (T17.heap) n0 sz23 p17_1 p17_2 p17_3 p17_4 g_b13 O_D A_D old21 f22_E_b5 hn) hZ (hwd75 hw) (hwd74 hw) (by decide) (by decide)) (g := (mkF m 104 #[.val (.int p1), .val (.int p2), .val (.int p3), .val (.int (1 : Int32)), .val (.int zz), .val (.int (0 : Int32)), .val (.int zz), .val (.ref b1), .val (.ref b5), .val (.ref b13), .unset, .unset] [(.int zz), (.ref b5), (.ref b13)])) rfl (by rw [hml]; rfl) (argsL := [(.ref b13), (.ref b5), (.int zz)]) (rest := []) (lenOf pd_18 rfl) rfl (by show 2 * 0 + _ ≤ _; exact Nat.le_of_eq rfl) (hb hby at_104) (fun _ _ => ⟨rfl, rfl, (by decide : 3 + 1 ≤ _), (by decide : 8 + 10 ≤ _)⟩)
  dsimp only [Pt.U, Pt.locs, Pt.cells, Pt.slots] at X20 l20 y20 z20 st20 hQ20
  subst l20 y20 z20
  obtain ⟨b_e20, kb_e20, rfl, N20q, K20, p20_1, p20_2, p20_3, p20_4, p20_5, O_b_20, g_b_20, ne_a_b_20, sz_b_20⟩ := hQ20
  have N20 := Fr.app N17 N20q
  obtain ⟨T25, h25, X25, e25, E25, A25, D25, -, st25⟩ := newO X20 hx hZ hown (hwd105 hw) (hwd106 hw) (hwd107 hw) rfl (g := (mkF m 107 #[.val (.int p1), .val (.int p2), .val (.int p3), .val (.int (1 : Int32)), .val (.int zz), .val (.int (0 : Int32)), .val (.int zz), .val (.ref b1), .val (.ref b5), .val (.ref b13), .unset, .unset] [])) rfl (hb hby at_107) (by decide) (by decide)
  obtain ⟨b25, g25⟩ : ∃ zz_, zz_ = T20.heap.size := ⟨_, rfl⟩
  rw [← g25] at A25 D25 st25
  have f26_E_b1 := (((f14_E_b1.ext E13).keep K17).keep K20)
  have ne_b1_b25 : b1 ≠ b25 := Nat.ne_of_lt (Nat.lt_of_lt_of_le f26_E_b1.lt (Nat.le_of_eq g25.symm))
  have f27_E_b5 := (f22_E_b5.keep K20)
  have ne_b5_b25 : b5 ≠ b25 := Nat.ne_of_lt (Nat.lt_of_lt_of_le f27_E_b5.lt (Nat.le_of_eq g25.symm))
  have ne_b13_b25 : b13 ≠ b25 := Nat.ne_of_lt (Nat.lt_of_lt_of_le p20_1.lt (Nat.le_of_eq g25.symm))
  have ne_b_e20_b25 : b_e20 ≠ b25 := Nat.ne_of_lt (Nat.lt_of_lt_of_le p20_4.lt (Nat.le_of_eq g25.symm))
  have sz28 : n0 ≤ T20.heap.size := (Nat.le_trans sz23 K20.1)
  have g_b25 : n0 ≤ b25 := Nat.le_trans sz28 (Nat.le_of_eq g25.symm)
  have kp29 : Keep h0 T20.heap [] := (kp24.trans K20 (allS (Or.inr sz_b13) all0))
  have sz_b25 : h0.size ≤ b25 := Nat.le_trans kp29.1 (Nat.le_of_eq g25.symm)
  have F_positions_b25 : Fld Z h25 b25 "com/example/gleipnir/gleipnir/service/Counterplay" "positions" "Ljava/util/List;" .null := D25 (Or.inr (hwd179 hw)) (ty := (.object "java/util/List")) (by decide)
  have F_stem_b25 : Fld Z h25 b25 "com/example/gleipnir/gleipnir/service/Counterplay" "stem" "I" (.int (0 : Int32)) := D25 (Or.inr (hwd181 hw)) (ty := .int) (by decide)
  have F_loop_b25 : Fld Z h25 b25 "com/example/gleipnir/gleipnir/service/Counterplay" "loop" "I" (.int (0 : Int32)) := D25 (Or.inr (hwd183 hw)) (ty := .int) (by decide)
  have f31_E_b13 := (p20_1.ext E25)
  have f32_F_b13_size := (p20_2.ext E25)
  have f33_F_b13_elementData := (p20_3.ext E25)
  have f34_V_b_e20 := (p20_4.ext E25)
  have f35_E_b_e20 := (p20_5.ext E25)
  have f36_E_b5 := (f27_E_b5.ext E25)
  have old37 : Old Z n0 h25 := ((old21.keep K20 (allS g_b13 all0)).ext E25)
  have sz38 : n0 ≤ h25.size := (Nat.le_trans sz28 E25.1)
  obtain ⟨_, _, ⟨T30, L30, k30, n30⟩, -, X30, ⟨Lc30, hQ30, l30, y30, z30⟩, st30⟩ := X25.specialBack hx (y := my31) rfl hown (mvT hZ (hwd108 hw)) (mvT hZ (hwd109 hw)) (mvT hZ (hwd110 hw)) (by decide) (backOf (W := 1) (cp l Z a0 hw [] b25 b13 b_e20 b5 em mr kb_e20 nn zz zz (0 : Int32) h25 n0 sz38 A25 F_positions_b25 F_stem_b25 F_loop_b25 g_b25 f31_E_b13 f32_F_b13_size f33_F_b13_elementData f34_V_b_e20 f35_E_b_e20 f36_E_b5 Mr hn O_M old37) hZ (hwd110 hw) (hwd107 hw) (by decide) (by decide)) (g := (mkF m 117 #[.val (.int p1), .val (.int p2), .val (.int p3), .val (.int (1 : Int32)), .val (.int zz), .val (.int (0 : Int32)), .val (.int zz), .val (.ref b1), .val (.ref b5), .val (.ref b13), .unset, .unset] [(.int (0 : Int32)), (.int zz), (.ref b13), (.ref b25), (.ref b25)])) rfl (by rw [hml]; rfl) (Steps.refl _) (a := b25) (argsL := [(.ref b13), (.int zz), (.int (0 : Int32))]) (rest := [(.ref b25)]) (lenOf pd_19 rfl) rfl (by show 2 * 0 + _ ≤ _; exact Nat.le_of_eq rfl) (hb hby at_117) (fun _ _ => ⟨rfl, e25, (by decide : 5 + 3 ≤ _), (by decide : 21 + 14 ≤ _)⟩)
  dsimp only [Pt.U, Pt.locs, Pt.cells, Pt.slots] at X30 l30 y30 z30 st30 hQ30
  subst l30 y30 z30
  obtain ⟨lst_e30, rfl, N30q, K30, p30_1, p30_2, p30_3, LG_30⟩ := hQ30
  have N30 := Fr.app N20 N30q
  have sz40 : n0 ≤ T30.heap.size := (Nat.le_trans sz38 K30.1)
  obtain ⟨cq39, kq39, q39a, q39b, q39c⟩ := isOf hZ rfl p30_1
  obtain ⟨_, _, ⟨T39, L39, k39, n39⟩, -, X39, ⟨Lc39, hQ39, l39, y39, z39⟩, st39⟩ := X30.virtualBack hx (y := my32) (z := my32) hown (mvT hZ (hwd184 hw)) (mvT hZ (hwd185 hw)) (notFace_of_selects (args := #[]) (mvT hZ (hwd187 hw))) (mvT hZ (hwd187 hw)) (mvT hZ (hwd186 hw)) (by decide) (backOf (W := 0) (fin l Z a0 hw [] b25 (0 : Int32) (T30.heap) n0 sz40 p30_3) hZ (hwd188 hw) (hwd107 hw) (by decide) (by decide)) q39a q39c (g := (mkF m 124 #[.val (.int p1), .val (.int p2), .val (.int p3), .val (.int (1 : Int32)), .val (.int zz), .val (.int (0 : Int32)), .val (.int zz), .val (.ref b1), .val (.ref b5), .val (.ref b13), .val (.ref b25), .unset] [(.ref b25)])) rfl (by rw [hml]; rfl) (Steps.refl _) (argsL := []) (rest := []) (lenOf pd_1 rfl) rfl (by show 2 * 0 + _ ≤ _; exact Nat.le_of_eq rfl) (hb hby at_124) (fun _ _ => ⟨rfl, rfl, (by decide : 8 + 0 ≤ _), (by decide : 35 + 0 ≤ _)⟩)
  dsimp only [Pt.U, Pt.locs, Pt.cells, Pt.slots] at X39 l39 y39 z39 st39 hQ39
  subst l39 y39 z39
  obtain ⟨rfl, N39q, e39q⟩ := hQ39
  have N39 := Fr.app N30 N39q
  have old42 : Old Z n0 T30.heap := (old37.keep K30 (allS g_b25 all0))
  obtain ⟨cq41, kq41, q41a, q41b, q41c⟩ := isOf hZ e39q p30_1
  obtain ⟨_, _, ⟨T41, L41, k41, n41⟩, -, X41, ⟨Lc41, hQ41, l41, y41, z41⟩, st41⟩ := X39.virtualBack hx (y := my34) (z := my34) hown (mvT hZ (hwd189 hw)) (mvT hZ (hwd190 hw)) (notFace_of_selects (args := #[]) (mvT hZ (hwd192 hw))) (mvT hZ (hwd192 hw)) (mvT hZ (hwd191 hw)) (by decide) (backOf (W := 0) (len l Z a0 hw [] b25 lst_e30 b5 em nn zz (T30.heap) n0 sz40 p30_2 (⟨_, LG_30⟩) ne_em O_M old42) hZ (hwd193 hw) (hwd107 hw) (by decide) (by decide)) q41a q41c (g := (mkF m 135 #[.val (.int p1), .val (.int p2), .val (.int p3), .val (.int (1 : Int32)), .val (.int zz), .val (.int (0 : Int32)), .val (.int zz), .val (.ref b1), .val (.ref b5), .val (.ref b13), .val (.ref b25), .unset] [(.ref b25)])) rfl (by rw [hml]; rfl) (Steps.refl _) (argsL := []) (rest := []) (lenOf pd_16 rfl) rfl (by show 2 * 0 + _ ≤ _; exact Nat.le_of_eq rfl) (hb hby at_135) (fun _ _ => ⟨rfl, e39q, (by decide : 8 + 0 ≤ _), (by decide : 35 + 0 ≤ _)⟩)
  dsimp only [Pt.U, Pt.locs, Pt.cells, Pt.slots] at X41 l41 y41 z41 st41 hQ41
  subst l41 y41 z41
  obtain ⟨rfl, N41q, e41q⟩ := hQ41
  have N41 := Fr.app N39 N41q
  obtain ⟨cq43, kq43, q43a, q43b, q43c⟩ := isOf hZ e41q p30_1
  obtain ⟨_, _, ⟨T43, L43, k43, n43⟩, -, X43, ⟨Lc43, hQ43, l43, y43, z43⟩, st43⟩ := X41.virtualBack hx (y := my36) (z := my36) hown (mvT hZ (hwd203 hw)) (mvT hZ (hwd204 hw)) (notFace_of_selects (args := #[]) (mvT hZ (hwd206 hw))) (mvT hZ (hwd206 hw)) (mvT hZ (hwd205 hw)) (by decide) (backOf (W := 0) (su l Z a0 hw [] b25 lst_e30 b5 em nn zz (0 : Int32) (T30.heap) n0 sz40 p30_1 p30_2 p30_3 (⟨_, LG_30⟩) hn ne_em O_M old42) hZ (hwd207 hw) (hwd107 hw) (by decide) (by decide)) q43a q43c (g := (mkF m 151 #[.val (.int p1), .val (.int p2), .val (.int p3), .val (.int (1 : Int32)), .val (.int zz), .val (.int (0 : Int32)), .val (.int zz), .val (.ref b1), .val (.ref b5), .val (.ref b13), .val (.ref b25), .unset] [(.int (zz - (1 : Int32))), (.ref b25)])) rfl (by rw [hml]; rfl) (Steps.refl _) (argsL := [(.int (zz - (1 : Int32)))]) (rest := []) (lenOf pd_20 rfl) rfl (by show 2 * 0 + _ ≤ _; exact Nat.le_of_eq rfl) (hb hby at_151) (fun _ _ => ⟨rfl, e41q, (by decide : 8 + 0 ≤ _), (by decide : 35 + 0 ≤ _)⟩)
  dsimp only [Pt.U, Pt.locs, Pt.cells, Pt.slots] at X43 l43 y43 z43 st43 hQ43
  subst l43 y43 z43
  obtain ⟨rfl, N43q, e43q⟩ := hQ43
  have N43 := Fr.app N41 N43q
  obtain ⟨fs, hr, hrun, hended, hW, hsame⟩ := X43.leave (v := some (.int (1 : Int32))) (fun h => by rw [Bd.returns] at h; cases h)
  refine ⟨_, _, pre0 _ ?_, hrun, hended, _, _, rfl, ?_, ⟨_, rfl⟩, hW, hsame.mono (by decide) (by decide)⟩
  · show Steps p.tables e below (s₁.setTop (mkF m 0 #[.val (.int p1), .val (.int p2), .val (.int p3), .unset, .unset, .unset, .unset, .unset, .unset, .unset, .unset, .unset] [])) _
    refine XS.iloadN X0.here hx rfl (hb hby at_0) rfl ?_
    refine XS.iconst X0.here hx rfl (hb hby at_1) ?_
    refine XS.iand X0.here hx rfl (hb hby at_2) rfl ?_
    refine XS.ifNo X0.here hx rfl (hb hby at_3) rfl ((if0 _ _).trans (feq (show ¬ ((p1 &&& (1 : Int32)) = (0 : Int32)) from he)).1) ?_
    refine XS.iconst X0.here hx rfl (hb hby at_6) ?_
    refine XS.goto X0.here hx rfl (pc0 := 7) (pc' := 11) rfl (hb hby at_7) (by decide) (by decide) ?_
    show Steps p.tables e below (s₁.setTop (mkF m 11 #[.val (.int p1), .val (.int p2), .val (.int p3), .unset, .unset, .unset, .unset, .unset, .unset, .unset, .unset, .unset] [(.int (1 : Int32))])) _
    refine XS.istoreN X0.here hx rfl (hb hby at_11) rfl (l' := #[.val (.int p1), .val (.int p2), .val (.int p3), .val (.int (1 : Int32)), .unset, .unset, .unset, .unset, .unset, .unset, .unset, .unset]) rfl ?_
    refine XS.iloadN X0.here hx rfl (hb hby at_12) rfl ?_
    refine XS.ifNo X0.here hx rfl (hb hby at_13) rfl ((if0 _ _).trans (feq (show ¬ ((1 : Int32) = (0 : Int32)) from (by decide))).1) ?_
    refine XS.iconst X0.here hx rfl (hb hby at_16) ?_
    refine XS.iloadN X0.here hx rfl (hb hby at_17) rfl ?_
    refine XS.iconst X0.here hx rfl (hb hby at_18) ?_
    show Steps p.tables e below (s₁.setTop (mkF m 19 #[.val (.int p1), .val (.int p2), .val (.int p3), .val (.int (1 : Int32)), .unset, .unset, .unset, .unset, .unset, .unset, .unset, .unset] [(.int (3 : Int32)), (.int p2), (.int (1 : Int32))])) _
    refine XS.iand X0.here hx rfl (hb hby at_19) rfl ?_
    refine XS.iadd X0.here hx rfl (hb hby at_20) rfl ?_
    show Steps p.tables e below (s₁.setTop (mkF m 21 #[.val (.int p1), .val (.int p2), .val (.int p3), .val (.int (1 : Int32)), .unset, .unset, .unset, .unset, .unset, .unset, .unset, .unset] [(.int ((1 : Int32) + (p2 &&& (3 : Int32))))])) _
    rw [← h_zz]
    refine XS.istore X0.here hx rfl (hb hby at_21) rfl (l' := #[.val (.int p1), .val (.int p2), .val (.int p3), .val (.int (1 : Int32)), .unset, .unset, .val (.int zz), .unset, .unset, .unset, .unset, .unset]) rfl ?_
    refine XS.iload X0.here hx rfl (hb hby at_23) rfl ?_
    refine XS.istore X0.here hx rfl (hb hby at_25) rfl (l' := #[.val (.int p1), .val (.int p2), .val (.int p3), .val (.int (1 : Int32)), .val (.int zz), .unset, .val (.int zz), .unset, .unset, .unset, .unset, .unset]) rfl ?_
    refine XS.iconst X0.here hx rfl (hb hby at_27) ?_
    refine XS.istore X0.here hx rfl (hb hby at_28) rfl (l' := #[.val (.int p1), .val (.int p2), .val (.int p3), .val (.int (1 : Int32)), .val (.int zz), .val (.int (0 : Int32)), .val (.int zz), .unset, .unset, .unset, .unset, .unset]) rfl ?_
    show Steps p.tables e below (s₁.setTop (mkF m 30 #[.val (.int p1), .val (.int p2), .val (.int p3), .val (.int (1 : Int32)), .val (.int zz), .val (.int (0 : Int32)), .val (.int zz), .unset, .unset, .unset, .unset, .unset] [])) _
    refine XS.goto X0.here hx rfl (pc0 := 30) (pc' := 67) rfl (hb hby at_30) (by decide) (by decide) ?_
    refine st1 _ ?_
    refine XS.dup X1.here hx rfl (hb hby at_70) rfl rfl ?_
    refine st2.trans ?_
    refine XS.astore X2.here hx rfl (hb hby at_74) rfl rfl (l' := #[.val (.int p1), .val (.int p2), .val (.int p3), .val (.int (1 : Int32)), .val (.int zz), .val (.int (0 : Int32)), .val (.int zz), .val (.ref b1), .unset, .unset, .unset, .unset]) rfl ?_
    refine st5 _ ?_
    show Steps p.tables e below (T5.setTop (mkF m 79 #[.val (.int p1), .val (.int p2), .val (.int p3), .val (.int (1 : Int32)), .val (.int zz), .val (.int (0 : Int32)), .val (.int zz), .val (.ref b1), .unset, .unset, .unset, .unset] [(.ref b5)])) _
    refine XS.dup X5.here hx rfl (hb hby at_79) rfl rfl ?_
    refine XS.aload X5.here hx rfl (hb hby at_80) rfl rfl ?_
    refine XS.aload X5.here hx rfl (hb hby at_82) rfl rfl ?_
    refine st8.trans ?_
    refine XS.astore X8.here hx rfl (hb hby at_87) rfl rfl (l' := #[.val (.int p1), .val (.int p2), .val (.int p3), .val (.int (1 : Int32)), .val (.int zz), .val (.int (0 : Int32)), .val (.int zz), .val (.ref b1), .val (.ref b5), .unset, .unset, .unset]) rfl ?_
    refine st13 _ ?_
    show Steps p.tables e below (T13.setTop (mkF m 92 #[.val (.int p1), .val (.int p2), .val (.int p3), .val (.int (1 : Int32)), .val (.int zz), .val (.int (0 : Int32)), .val (.int zz), .val (.ref b1), .val (.ref b5), .unset, .unset, .unset] [(.ref b13)])) _
    refine XS.dup X13.here hx rfl (hb hby at_92) rfl rfl ?_
    refine st17.trans ?_
    refine XS.astore X17.here hx rfl (hb hby at_96) rfl rfl (l' := #[.val (.int p1), .val (.int p2), .val (.int p3), .val (.int (1 : Int32)), .val (.int zz), .val (.int (0 : Int32)), .val (.int zz), .val (.ref b1), .val (.ref b5), .val (.ref b13), .unset, .unset]) rfl ?_
    refine XS.aload X17.here hx rfl (hb hby at_98) rfl rfl ?_
    refine XS.aload X17.here hx rfl (hb hby at_100) rfl rfl ?_
    refine XS.iload X17.here hx rfl (hb hby at_102) rfl ?_
    show Steps p.tables e below (T17.setTop (mkF m 104 #[.val (.int p1), .val (.int p2), .val (.int p3), .val (.int (1 : Int32)), .val (.int zz), .val (.int (0 : Int32)), .val (.int zz), .val (.ref b1), .val (.ref b5), .val (.ref b13), .unset, .unset] [(.int zz), (.ref b5), (.ref b13)])) _
    refine st20 _ ?_
    refine st25 _ ?_
    refine XS.dup X25.here hx rfl (hb hby at_110) rfl rfl ?_
    refine XS.aload X25.here hx rfl (hb hby at_111) rfl rfl ?_
    refine XS.iload X25.here hx rfl (hb hby at_113) rfl ?_
    refine XS.iload X25.here hx rfl (hb hby at_115) rfl ?_
    show Steps p.tables e below (T25.setTop (mkF m 117 #[.val (.int p1), .val (.int p2), .val (.int p3), .val (.int (1 : Int32)), .val (.int zz), .val (.int (0 : Int32)), .val (.int zz), .val (.ref b1), .val (.ref b5), .val (.ref b13), .unset, .unset] [(.int (0 : Int32)), (.int zz), (.ref b13), (.ref b25), (.ref b25)])) _
    refine st30.trans ?_
    refine XS.astore X30.here hx rfl (hb hby at_120) rfl rfl (l' := #[.val (.int p1), .val (.int p2), .val (.int p3), .val (.int (1 : Int32)), .val (.int zz), .val (.int (0 : Int32)), .val (.int zz), .val (.ref b1), .val (.ref b5), .val (.ref b13), .val (.ref b25), .unset]) rfl ?_
    refine XS.aload X30.here hx rfl (hb hby at_122) rfl rfl ?_
    refine st39.trans ?_
    refine XS.iloadN X39.here hx rfl (hb hby at_127) rfl ?_
    refine XS.icmpYes X39.here hx rfl (pc0 := 128) (pc' := 133) rfl (hb hby at_128) rfl (teq (show (if (0 : Int32) = (0 : Int32) then (1 : Int32) else (0 : Int32)) = (1 : Int32) from (by decide))).1 (by decide) (by decide) ?_
    show Steps p.tables e below (T39.setTop (mkF m 133 #[.val (.int p1), .val (.int p2), .val (.int p3), .val (.int (1 : Int32)), .val (.int zz), .val (.int (0 : Int32)), .val (.int zz), .val (.ref b1), .val (.ref b5), .val (.ref b13), .val (.ref b25), .unset] [])) _
    refine XS.aload X39.here hx rfl (hb hby at_133) rfl rfl ?_
    refine st41.trans ?_
    refine XS.iload X41.here hx rfl (hb hby at_138) rfl ?_
    refine XS.icmpYes X41.here hx rfl (pc0 := 140) (pc' := 145) rfl (hb hby at_140) rfl (teq (show zz = zz from rfl)).1 (by decide) (by decide) ?_
    refine XS.aload X41.here hx rfl (hb hby at_145) rfl rfl ?_
    refine XS.iload X41.here hx rfl (hb hby at_147) rfl ?_
    show Steps p.tables e below (T41.setTop (mkF m 149 #[.val (.int p1), .val (.int p2), .val (.int p3), .val (.int (1 : Int32)), .val (.int zz), .val (.int (0 : Int32)), .val (.int zz), .val (.ref b1), .val (.ref b5), .val (.ref b13), .val (.ref b25), .unset] [(.int zz), (.ref b25)])) _
    refine XS.iconst X41.here hx rfl (hb hby at_149) ?_
    refine XS.isub X41.here hx rfl (hb hby at_150) rfl ?_
    refine st43.trans ?_
    refine XS.istore X43.here hx rfl (hb hby at_154) rfl (l' := #[.val (.int p1), .val (.int p2), .val (.int p3), .val (.int (1 : Int32)), .val (.int zz), .val (.int (0 : Int32)), .val (.int zz), .val (.ref b1), .val (.ref b5), .val (.ref b13), .val (.ref b25), .val (.int (if (0 : Int32) = (0 : Int32) then (-1 : Int32) else (zz - (0 : Int32))))]) rfl ?_
    refine XS.iloadN X43.here hx rfl (hb hby at_156) rfl ?_
    refine XS.ifNo X43.here hx rfl (hb hby at_157) rfl ((if0 _ _).trans (feq (show ¬ ((1 : Int32) = (0 : Int32)) from (by decide))).1) ?_
    show Steps p.tables e below (T43.setTop (mkF m 160 #[.val (.int p1), .val (.int p2), .val (.int p3), .val (.int (1 : Int32)), .val (.int zz), .val (.int (0 : Int32)), .val (.int zz), .val (.ref b1), .val (.ref b5), .val (.ref b13), .val (.ref b25), .val (.int (if (0 : Int32) = (0 : Int32) then (-1 : Int32) else (zz - (0 : Int32))))] [])) _
    refine XS.iload X43.here hx rfl (hb hby at_160) rfl ?_
    refine XS.iconst X43.here hx rfl (hb hby at_162) ?_
    refine XS.icmpNo X43.here hx rfl (hb hby at_163) rfl (teq (show (if (0 : Int32) = (0 : Int32) then (-1 : Int32) else (zz - (0 : Int32))) = (-1 : Int32) from (if_pos rfl))).2 ?_
    refine XS.iconst X43.here hx rfl (hb hby at_166) ?_
    refine XS.goto X43.here hx rfl (pc0 := 167) (pc' := 171) rfl (hb hby at_167) (by decide) (by decide) ?_
    exact retN X43 hx (t := .boolean) Bd.returns (by simp) (hb hby at_171) hr
  · show Qrm0 Z p1 p2 p3 dd el em mr h0 n0 _ T43.heap _
    rw [e43q]
    exact ⟨rfl, N43⟩
theorem hwd0 {Z : State} {a0 : Array Value} (hw : ∀ d ∈ tables_1, d.before a0 Z = true) : (Jvm.Cond.constant "com/example/gleipnir/gleipnir/service/CounterplayFinitePinLaw" (7 : Nat) (2147483647 : Int32)).before a0 Z = true := hw _ (List.mem_of_getElem? (i := 0) rfl)
set_option maxRecDepth 65536 in
set_option maxHeartbeats 40000000 in
theorem law_0 (l : Launch) (Z : State) (a0 : Array Value) (hw : ∀ d ∈ tables_1, d.before a0 Z = true) (ws : List Jvm.Cond) (p1 : Int32) (p2 : Int32) (p3 : Int32) (dd : Addr) (el : Addr) (em : Addr) (mr : Addr) (h0 : Heap) (n0 : Nat) (Z0 : n0 ≤ h0.size) (O_D : Sta Z Z.heap "java/util/ArrayList" "DEFAULTCAPACITY_EMPTY_ELEMENTDATA" "[Ljava/lang/Object;" (.ref dd)) (A_D : Av Z Z.heap dd (.object "java/lang/Object") 0 (fun _ => .null)) (O_L : Sta Z Z.heap "java/util/ImmutableCollections" "EMPTY_LIST" "Ljava/util/ImmutableCollections$ListN;" (.ref el)) (O_M : Sta Z Z.heap "java/util/ImmutableCollections" "EMPTY" "Ljava/lang/Object;" (.ref em)) (Mr : Mir Z "[Ljava/lang/Object;" mr) (X00 : Old Z n0 h0) (hem : em < Z.heap.size) (he : (p1 &&& (1 : Int32)) = (0 : Int32)) :
    MetFree l x (head1 (Jvm.Cond.code x code maxLocals ret :: ws) room_1) (fun aa_ U => aa_ = #[(.int p1), (.int p2), (.int p3)] ∧ Z.Warmed39 U.vm ∧ U.heap = h0) (fun _ _ _ _ _ => True) (fun _ U oo_ U' => ∃ v L, oo_ = .returned v ∧ Qrm0 Z p1 p2 p3 dd el em mr h0 n0 v U'.heap L ∧ FrameEnd U oo_ U' L room_1.cells room_1.slots) := by
  refine MetFree.of_bodySF (plainFor_of_name pn_10) hisR ?_
  intro p e s m args below meth c s₁ Bd hml0 hP hK
  obtain ⟨rfl, hZ, hh⟩ := hP
  have hx := Bd.exec
  have hby := Bd.bytes
  have hml : c.maxLocals = 12 := hml0
  have hown : s.vm.findClass "com/example/gleipnir/gleipnir/service/CounterplayFinitePinLaw" = some m.cls := findClass_of_methodNamed Bd.named
  have hnm := (name_of_methodNamed Bd.named Bd.method).1
  have X0 : Stand p l e room_1 s m #[(.int p1), (.int p2), (.int p3)] below meth c s₁ [] 0 0 := Stand.of_body Bd
  have e0 : s₁.heap = h0 := by rw [← hh, Bd.state]; rfl
  have N0 := Fr.nil n0
  have pre0 : ∀ tt_, Steps p.tables e below (s₁.setTop (mkF m 0 #[.val (.int p1), .val (.int p2), .val (.int p3), .unset, .unset, .unset, .unset, .unset, .unset, .unset, .unset, .unset] [])) tt_ → Steps p.tables e below (s₁.setTop (entryFrame m #[(.int p1), (.int p2), (.int p3)] maxLocals)) tt_ := fun tt_ kk_ => castTop (ef_0 m p1 p2 p3) kk_
  obtain ⟨zz, h_zz⟩ : ∃ zz_ : Int32, zz_ = (((p3 &&& (2147483647 : Int32)) - ((p3 &&& (2147483647 : Int32)) / (3 : Int32)) * (3 : Int32)) + (((1 : Int32) + ((p2 >>> ((1 : Int32) &&& 31)) &&& (1 : Int32))) * ((1 : Int32) + (p2 &&& (1 : Int32))))) := ⟨_, rfl⟩
  obtain ⟨nn, hn⟩ : ∃ n, HN n zz := by
    rw [h_zz]; exact own_hn6 (own_six (own_rem p3) (own_b (p2 >>> ((1 : Int32) &&& 31))) (own_b p2))
  have hlp : ¬ (((1 : Int32) + (p2 &&& (1 : Int32))) = (0 : Int32)) := by rcases own_b p2 with e | e <;> rw [e] <;> decide
  obtain ⟨T1, h1, X1, e1, E1, A1, D1, -, st1⟩ := newO X0 hx hZ hown (hwd1 hw) (hwd2 hw) (hwd3 hw) e0 (g := (mkF m 67 #[.val (.int p1), .val (.int p2), .val (.int p3), .val (.int (0 : Int32)), .val (.int ((p3 &&& (2147483647 : Int32)) - ((p3 &&& (2147483647 : Int32)) / (3 : Int32)) * (3 : Int32))), .val (.int ((1 : Int32) + (p2 &&& (1 : Int32)))), .val (.int zz), .val (.int ((1 : Int32) + ((p2 >>> ((1 : Int32) &&& 31)) &&& (1 : Int32)))), .unset, .unset, .unset, .unset] [])) rfl (hb hby at_67) (by decide) (by decide)
  obtain ⟨b1, g1⟩ : ∃ zz_, zz_ = h0.size := ⟨_, rfl⟩
  rw [← g1] at A1 D1 st1
  have g_b1 : n0 ≤ b1 := Nat.le_trans Z0 (Nat.le_of_eq g1.symm)
  have sz_b1 : h0.size ≤ b1 := Nat.le_trans (Keep.refl h0 []).1 (Nat.le_of_eq g1.symm)
  have F_modCount_b1 : Fld Z h1 b1 "java/util/AbstractList" "modCount" "I" (.int (0 : Int32)) := D1 (Or.inl (hwd23 hw)) (ty := .int) (by decide)
  have F_elementData_b1 : Fld Z h1 b1 "java/util/ArrayList" "elementData" "[Ljava/lang/Object;" .null := D1 (Or.inl (hwd26 hw)) (ty := (.array (.object "java/lang/Object"))) (by decide)
  have F_size_b1 : Fld Z h1 b1 "java/util/ArrayList" "size" "I" (.int (0 : Int32)) := D1 (Or.inl (hwd63 hw)) (ty := .int) (by decide)
  have old3 : Old Z n0 h1 := (X00.ext E1)
  have sz4 : n0 ≤ h1.size := (Nat.le_trans Z0 E1.1)
  obtain ⟨_, _, ⟨T2, L2, k2, n2⟩, -, X2, ⟨Lc2, hQ2, l2, y2, z2⟩, st2⟩ := X1.specialBack hx (y := my5) rfl hown (mvT hZ (hwd4 hw)) (mvT hZ (hwd5 hw)) (mvT hZ (hwd6 hw)) (by decide) (backOf (W := 1) (rm1 l Z a0 hw [] b1 dd h1 n0 sz4 A1 F_size_b1 F_elementData_b1 F_modCount_b1 g_b1 O_D old3) hZ (hwd6 hw) (hwd3 hw) (by decide) (by decide)) (g := (mkF m 71 #[.val (.int p1), .val (.int p2), .val (.int p3), .val (.int (0 : Int32)), .val (.int ((p3 &&& (2147483647 : Int32)) - ((p3 &&& (2147483647 : Int32)) / (3 : Int32)) * (3 : Int32))), .val (.int ((1 : Int32) + (p2 &&& (1 : Int32)))), .val (.int zz), .val (.int ((1 : Int32) + ((p2 >>> ((1 : Int32) &&& 31)) &&& (1 : Int32)))), .unset, .unset, .unset, .unset] [(.ref b1), (.ref b1)])) rfl (by rw [hml]; rfl) (Steps.refl _) (a := b1) (argsL := []) (rest := [(.ref b1)]) (lenOf pd_0 rfl) rfl (by show 2 * 0 + _ ≤ _; exact Nat.le_of_eq rfl) (hb hby at_71) (fun _ _ => ⟨rfl, e1, (by decide : 1 + 0 ≤ _), (by decide : 3 + 0 ≤ _)⟩)
  dsimp only [Pt.U, Pt.locs, Pt.cells, Pt.slots] at X2 l2 y2 z2 st2 hQ2
  subst l2 y2 z2
  obtain ⟨rfl, N2q, K2, p2_1, p2_2, p2_3, p2_4⟩ := hQ2
  have N2 := Fr.app N0 N2q
  obtain ⟨T5, h5, X5, e5, E5, A5, D5, -, st5⟩ := newO X2 hx hZ hown (hwd27 hw) (hwd28 hw) (hwd29 hw) rfl (g := (mkF m 76 #[.val (.int p1), .val (.int p2), .val (.int p3), .val (.int (0 : Int32)), .val (.int ((p3 &&& (2147483647 : Int32)) - ((p3 &&& (2147483647 : Int32)) / (3 : Int32)) * (3 : Int32))), .val (.int ((1 : Int32) + (p2 &&& (1 : Int32)))), .val (.int zz), .val (.ref b1), .unset, .unset, .unset, .unset] [])) rfl (hb hby at_76) (by decide) (by decide)
  obtain ⟨b5, g5⟩ : ∃ zz_, zz_ = T2.heap.size := ⟨_, rfl⟩
  rw [← g5] at A5 D5 st5
  have ne_b1_b5 : b1 ≠ b5 := Nat.ne_of_lt (Nat.lt_of_lt_of_le p2_1.lt (Nat.le_of_eq g5.symm))
  have sz6 : n0 ≤ T2.heap.size := (Nat.le_trans sz4 K2.1)
  have g_b5 : n0 ≤ b5 := Nat.le_trans sz6 (Nat.le_of_eq g5.symm)
  have kp7 : Keep h0 T2.heap [] := (((Keep.refl h0 []).ext E1).trans K2 (allS (Or.inr sz_b1) all0))
  have sz_b5 : h0.size ≤ b5 := Nat.le_trans kp7.1 (Nat.le_of_eq g5.symm)
  have F_inputs_b5 : Fld Z h5 b5 "com/example/gleipnir/gleipnir/service/Counterplay$Position" "inputs" "Ljava/util/List;" .null := D5 (Or.inr (hwd69 hw)) (ty := (.object "java/util/List")) (by decide)
  have F_outputs_b5 : Fld Z h5 b5 "com/example/gleipnir/gleipnir/service/Counterplay$Position" "outputs" "Ljava/util/List;" .null := D5 (Or.inr (hwd71 hw)) (ty := (.object "java/util/List")) (by decide)
  have f9_E_b1 := (p2_1.ext E5)
  have f10_F_b1_size := (p2_2.ext E5)
  have old11 : Old Z n0 h5 := ((old3.keep K2 (allS g_b1 all0)).ext E5)
  have sz12 : n0 ≤ h5.size := (Nat.le_trans sz6 E5.1)
  obtain ⟨_, _, ⟨T8, L8, k8, n8⟩, -, X8, ⟨Lc8, hQ8, l8, y8, z8⟩, st8⟩ := X5.specialBack hx (y := my11) rfl hown (mvT hZ (hwd30 hw)) (mvT hZ (hwd31 hw)) (mvT hZ (hwd32 hw)) (by decide) (backOf (W := 1) (rm5 l Z a0 hw [] b5 b1 el h5 n0 sz12 A5 F_inputs_b5 F_outputs_b5 g_b5 f9_E_b1 f10_F_b1_size (Ne.symm ne_b1_b5) O_L old11) hZ (hwd32 hw) (hwd29 hw) (by decide) (by decide)) (g := (mkF m 84 #[.val (.int p1), .val (.int p2), .val (.int p3), .val (.int (0 : Int32)), .val (.int ((p3 &&& (2147483647 : Int32)) - ((p3 &&& (2147483647 : Int32)) / (3 : Int32)) * (3 : Int32))), .val (.int ((1 : Int32) + (p2 &&& (1 : Int32)))), .val (.int zz), .val (.ref b1), .unset, .unset, .unset, .unset] [(.ref b1), (.ref b1), (.ref b5), (.ref b5)])) rfl (by rw [hml]; rfl) (Steps.refl _) (a := b5) (argsL := [(.ref b1), (.ref b1)]) (rest := [(.ref b5)]) (lenOf pd_17 rfl) rfl (by show 2 * 0 + _ ≤ _; exact Nat.le_of_eq rfl) (hb hby at_84) (fun _ _ => ⟨rfl, e5, (by decide : 2 + 0 ≤ _), (by decide : 5 + 0 ≤ _)⟩)
  dsimp only [Pt.U, Pt.locs, Pt.cells, Pt.slots] at X8 l8 y8 z8 st8 hQ8
  subst l8 y8 z8
  obtain ⟨rfl, N8q, K8, p8_1⟩ := hQ8
  have N8 := Fr.app N2 N8q
  have ne_em : b5 ≠ em := Ne.symm (Nat.ne_of_lt (Nat.lt_of_lt_of_le hem (Nat.le_trans (Nat.le_of_eq X00.1) g_b5)))
  obtain ⟨T13, h13, X13, e13, E13, A13, D13, -, st13⟩ := newO X8 hx hZ hown (hwd1 hw) (hwd2 hw) (hwd3 hw) rfl (g := (mkF m 89 #[.val (.int p1), .val (.int p2), .val (.int p3), .val (.int (0 : Int32)), .val (.int ((p3 &&& (2147483647 : Int32)) - ((p3 &&& (2147483647 : Int32)) / (3 : Int32)) * (3 : Int32))), .val (.int ((1 : Int32) + (p2 &&& (1 : Int32)))), .val (.int zz), .val (.ref b1), .val (.ref b5), .unset, .unset, .unset] [])) rfl (hb hby at_89) (by decide) (by decide)
  obtain ⟨b13, g13⟩ : ∃ zz_, zz_ = T8.heap.size := ⟨_, rfl⟩
  rw [← g13] at A13 D13 st13
  have f14_E_b1 := (f9_E_b1.keep K8)
  have ne_b1_b13 : b1 ≠ b13 := Nat.ne_of_lt (Nat.lt_of_lt_of_le f14_E_b1.lt (Nat.le_of_eq g13.symm))
  have ne_b5_b13 : b5 ≠ b13 := Nat.ne_of_lt (Nat.lt_of_lt_of_le p8_1.lt (Nat.le_of_eq g13.symm))
  have sz15 : n0 ≤ T8.heap.size := (Nat.le_trans sz12 K8.1)
  have g_b13 : n0 ≤ b13 := Nat.le_trans sz15 (Nat.le_of_eq g13.symm)
  have kp16 : Keep h0 T8.heap [] := ((kp7.ext E5).trans K8 (allS (Or.inr sz_b5) all0))
  have sz_b13 : h0.size ≤ b13 := Nat.le_trans kp16.1 (Nat.le_of_eq g13.symm)
  have F_modCount_b13 : Fld Z h13 b13 "java/util/AbstractList" "modCount" "I" (.int (0 : Int32)) := D13 (Or.inl (hwd23 hw)) (ty := .int) (by decide)
  have F_elementData_b13 : Fld Z h13 b13 "java/util/ArrayList" "elementData" "[Ljava/lang/Object;" .null := D13 (Or.inl (hwd26 hw)) (ty := (.array (.object "java/lang/Object"))) (by decide)
  have F_size_b13 : Fld Z h13 b13 "java/util/ArrayList" "size" "I" (.int (0 : Int32)) := D13 (Or.inl (hwd63 hw)) (ty := .int) (by decide)
  have old18 : Old Z n0 h13 := ((old11.keep K8 (allS g_b5 all0)).ext E13)
  have sz19 : n0 ≤ h13.size := (Nat.le_trans sz15 E13.1)
  obtain ⟨_, _, ⟨T17, L17, k17, n17⟩, -, X17, ⟨Lc17, hQ17, l17, y17, z17⟩, st17⟩ := X13.specialBack hx (y := my5) rfl hown (mvT hZ (hwd4 hw)) (mvT hZ (hwd5 hw)) (mvT hZ (hwd6 hw)) (by decide) (backOf (W := 1) (rm1 l Z a0 hw [] b13 dd h13 n0 sz19 A13 F_size_b13 F_elementData_b13 F_modCount_b13 g_b13 O_D old18) hZ (hwd6 hw) (hwd3 hw) (by decide) (by decide)) (g := (mkF m 93 #[.val (.int p1), .val (.int p2), .val (.int p3), .val (.int (0 : Int32)), .val (.int ((p3 &&& (2147483647 : Int32)) - ((p3 &&& (2147483647 : Int32)) / (3 : Int32)) * (3 : Int32))), .val (.int ((1 : Int32) + (p2 &&& (1 : Int32)))), .val (.int zz), .val (.ref b1), .val (.ref b5), .unset, .unset, .unset] [(.ref b13), (.ref b13)])) rfl (by rw [hml]; rfl) (Steps.refl _) (a := b13) (argsL := []) (rest := [(.ref b13)]) (lenOf pd_0 rfl) rfl (by show 2 * 0 + _ ≤ _; exact Nat.le_of_eq rfl) (hb hby at_93) (fun _ _ => ⟨rfl, e13, (by decide : 3 + 0 ≤ _), (by decide : 8 + 0 ≤ _)⟩)
  dsimp only [Pt.U, Pt.locs, Pt.cells, Pt.slots] at X17 l17 y17 z17 st17 hQ17
  subst l17 y17 z17
  obtain ⟨rfl, N17q, K17, p17_1, p17_2, p17_3, p17_4⟩ := hQ17
  have N17 := Fr.app N8 N17q
  have old21 : Old Z n0 T17.heap := (old18.keep K17 (allS g_b13 all0))
  have f22_E_b5 := ((p8_1.ext E13).keep K17)
  have sz23 : n0 ≤ T17.heap.size := (Nat.le_trans sz19 K17.1)
  have kp24 : Keep h0 T17.heap [] := ((kp16.ext E13).trans K17 (allS (Or.inr sz_b13) all0))
  obtain ⟨_, _, ⟨T20, L20, k20, n20⟩, -, X20, ⟨Lc20, hQ20, l20, y20, z20⟩, st20⟩ := Jvm.LawKit.callS X17 hx (y := my17) hown (mvT hZ (hwd72 hw)) (mvT hZ (hwd73 hw)) (mvT hZ (hwd74 hw)) (mvT hZ (hwd75 hw)) (by decide) (backOf (W := 0) (fill l Z a0 hw [] b13 b5 dd nn zz (T17.heap) n0 sz23 p17_1 p17_2 p17_3 p17_4 g_b13 O_D A_D old21 f22_E_b5 hn) hZ (hwd75 hw) (hwd74 hw) (by decide) (by decide)) (g := (mkF m 104 #[.val (.int p1), .val (.int p2), .val (.int p3), .val (.int (0 : Int32)), .val (.int ((p3 &&& (2147483647 : Int32)) - ((p3 &&& (2147483647 : Int32)) / (3 : Int32)) * (3 : Int32))), .val (.int ((1 : Int32) + (p2 &&& (1 : Int32)))), .val (.int zz), .val (.ref b1), .val (.ref b5), .val (.ref b13), .unset, .unset] [(.int zz), (.ref b5), (.ref b13)])) rfl (by rw [hml]; rfl) (argsL := [(.ref b13), (.ref b5), (.int zz)]) (rest := []) (lenOf pd_18 rfl) rfl (by show 2 * 0 + _ ≤ _; exact Nat.le_of_eq rfl) (hb hby at_104) (fun _ _ => ⟨rfl, rfl, (by decide : 3 + 1 ≤ _), (by decide : 8 + 10 ≤ _)⟩)
  dsimp only [Pt.U, Pt.locs, Pt.cells, Pt.slots] at X20 l20 y20 z20 st20 hQ20
  subst l20 y20 z20
  obtain ⟨b_e20, kb_e20, rfl, N20q, K20, p20_1, p20_2, p20_3, p20_4, p20_5, O_b_20, g_b_20, ne_a_b_20, sz_b_20⟩ := hQ20
  have N20 := Fr.app N17 N20q
  obtain ⟨T25, h25, X25, e25, E25, A25, D25, -, st25⟩ := newO X20 hx hZ hown (hwd105 hw) (hwd106 hw) (hwd107 hw) rfl (g := (mkF m 107 #[.val (.int p1), .val (.int p2), .val (.int p3), .val (.int (0 : Int32)), .val (.int ((p3 &&& (2147483647 : Int32)) - ((p3 &&& (2147483647 : Int32)) / (3 : Int32)) * (3 : Int32))), .val (.int ((1 : Int32) + (p2 &&& (1 : Int32)))), .val (.int zz), .val (.ref b1), .val (.ref b5), .val (.ref b13), .unset, .unset] [])) rfl (hb hby at_107) (by decide) (by decide)
  obtain ⟨b25, g25⟩ : ∃ zz_, zz_ = T20.heap.size := ⟨_, rfl⟩
  rw [← g25] at A25 D25 st25
  have f26_E_b1 := (((f14_E_b1.ext E13).keep K17).keep K20)
  have ne_b1_b25 : b1 ≠ b25 := Nat.ne_of_lt (Nat.lt_of_lt_of_le f26_E_b1.lt (Nat.le_of_eq g25.symm))
  have f27_E_b5 := (f22_E_b5.keep K20)
  have ne_b5_b25 : b5 ≠ b25 := Nat.ne_of_lt (Nat.lt_of_lt_of_le f27_E_b5.lt (Nat.le_of_eq g25.symm))
  have ne_b13_b25 : b13 ≠ b25 := Nat.ne_of_lt (Nat.lt_of_lt_of_le p20_1.lt (Nat.le_of_eq g25.symm))
  have ne_b_e20_b25 : b_e20 ≠ b25 := Nat.ne_of_lt (Nat.lt_of_lt_of_le p20_4.lt (Nat.le_of_eq g25.symm))
  have sz28 : n0 ≤ T20.heap.size := (Nat.le_trans sz23 K20.1)
  have g_b25 : n0 ≤ b25 := Nat.le_trans sz28 (Nat.le_of_eq g25.symm)
  have kp29 : Keep h0 T20.heap [] := (kp24.trans K20 (allS (Or.inr sz_b13) all0))
  have sz_b25 : h0.size ≤ b25 := Nat.le_trans kp29.1 (Nat.le_of_eq g25.symm)
  have F_positions_b25 : Fld Z h25 b25 "com/example/gleipnir/gleipnir/service/Counterplay" "positions" "Ljava/util/List;" .null := D25 (Or.inr (hwd179 hw)) (ty := (.object "java/util/List")) (by decide)
  have F_stem_b25 : Fld Z h25 b25 "com/example/gleipnir/gleipnir/service/Counterplay" "stem" "I" (.int (0 : Int32)) := D25 (Or.inr (hwd181 hw)) (ty := .int) (by decide)
  have F_loop_b25 : Fld Z h25 b25 "com/example/gleipnir/gleipnir/service/Counterplay" "loop" "I" (.int (0 : Int32)) := D25 (Or.inr (hwd183 hw)) (ty := .int) (by decide)
  have f31_E_b13 := (p20_1.ext E25)
  have f32_F_b13_size := (p20_2.ext E25)
  have f33_F_b13_elementData := (p20_3.ext E25)
  have f34_V_b_e20 := (p20_4.ext E25)
  have f35_E_b_e20 := (p20_5.ext E25)
  have f36_E_b5 := (f27_E_b5.ext E25)
  have old37 : Old Z n0 h25 := ((old21.keep K20 (allS g_b13 all0)).ext E25)
  have sz38 : n0 ≤ h25.size := (Nat.le_trans sz28 E25.1)
  obtain ⟨_, _, ⟨T30, L30, k30, n30⟩, -, X30, ⟨Lc30, hQ30, l30, y30, z30⟩, st30⟩ := X25.specialBack hx (y := my31) rfl hown (mvT hZ (hwd108 hw)) (mvT hZ (hwd109 hw)) (mvT hZ (hwd110 hw)) (by decide) (backOf (W := 1) (cp l Z a0 hw [] b25 b13 b_e20 b5 em mr kb_e20 nn zz ((p3 &&& (2147483647 : Int32)) - ((p3 &&& (2147483647 : Int32)) / (3 : Int32)) * (3 : Int32)) ((1 : Int32) + (p2 &&& (1 : Int32))) h25 n0 sz38 A25 F_positions_b25 F_stem_b25 F_loop_b25 g_b25 f31_E_b13 f32_F_b13_size f33_F_b13_elementData f34_V_b_e20 f35_E_b_e20 f36_E_b5 Mr hn O_M old37) hZ (hwd110 hw) (hwd107 hw) (by decide) (by decide)) (g := (mkF m 117 #[.val (.int p1), .val (.int p2), .val (.int p3), .val (.int (0 : Int32)), .val (.int ((p3 &&& (2147483647 : Int32)) - ((p3 &&& (2147483647 : Int32)) / (3 : Int32)) * (3 : Int32))), .val (.int ((1 : Int32) + (p2 &&& (1 : Int32)))), .val (.int zz), .val (.ref b1), .val (.ref b5), .val (.ref b13), .unset, .unset] [(.int ((1 : Int32) + (p2 &&& (1 : Int32)))), (.int ((p3 &&& (2147483647 : Int32)) - ((p3 &&& (2147483647 : Int32)) / (3 : Int32)) * (3 : Int32))), (.ref b13), (.ref b25), (.ref b25)])) rfl (by rw [hml]; rfl) (Steps.refl _) (a := b25) (argsL := [(.ref b13), (.int ((p3 &&& (2147483647 : Int32)) - ((p3 &&& (2147483647 : Int32)) / (3 : Int32)) * (3 : Int32))), (.int ((1 : Int32) + (p2 &&& (1 : Int32))))]) (rest := [(.ref b25)]) (lenOf pd_19 rfl) rfl (by show 2 * 0 + _ ≤ _; exact Nat.le_of_eq rfl) (hb hby at_117) (fun _ _ => ⟨rfl, e25, (by decide : 5 + 3 ≤ _), (by decide : 21 + 14 ≤ _)⟩)
  dsimp only [Pt.U, Pt.locs, Pt.cells, Pt.slots] at X30 l30 y30 z30 st30 hQ30
  subst l30 y30 z30
  obtain ⟨lst_e30, rfl, N30q, K30, p30_1, p30_2, p30_3, LG_30⟩ := hQ30
  have N30 := Fr.app N20 N30q
  have sz40 : n0 ≤ T30.heap.size := (Nat.le_trans sz38 K30.1)
  obtain ⟨cq39, kq39, q39a, q39b, q39c⟩ := isOf hZ rfl p30_1
  obtain ⟨_, _, ⟨T39, L39, k39, n39⟩, -, X39, ⟨Lc39, hQ39, l39, y39, z39⟩, st39⟩ := X30.virtualBack hx (y := my32) (z := my32) hown (mvT hZ (hwd184 hw)) (mvT hZ (hwd185 hw)) (notFace_of_selects (args := #[]) (mvT hZ (hwd187 hw))) (mvT hZ (hwd187 hw)) (mvT hZ (hwd186 hw)) (by decide) (backOf (W := 0) (fin l Z a0 hw [] b25 ((1 : Int32) + (p2 &&& (1 : Int32))) (T30.heap) n0 sz40 p30_3) hZ (hwd188 hw) (hwd107 hw) (by decide) (by decide)) q39a q39c (g := (mkF m 124 #[.val (.int p1), .val (.int p2), .val (.int p3), .val (.int (0 : Int32)), .val (.int ((p3 &&& (2147483647 : Int32)) - ((p3 &&& (2147483647 : Int32)) / (3 : Int32)) * (3 : Int32))), .val (.int ((1 : Int32) + (p2 &&& (1 : Int32)))), .val (.int zz), .val (.ref b1), .val (.ref b5), .val (.ref b13), .val (.ref b25), .unset] [(.ref b25)])) rfl (by rw [hml]; rfl) (Steps.refl _) (argsL := []) (rest := []) (lenOf pd_1 rfl) rfl (by show 2 * 0 + _ ≤ _; exact Nat.le_of_eq rfl) (hb hby at_124) (fun _ _ => ⟨rfl, rfl, (by decide : 8 + 0 ≤ _), (by decide : 35 + 0 ≤ _)⟩)
  dsimp only [Pt.U, Pt.locs, Pt.cells, Pt.slots] at X39 l39 y39 z39 st39 hQ39
  subst l39 y39 z39
  obtain ⟨rfl, N39q, e39q⟩ := hQ39
  have N39 := Fr.app N30 N39q
  have old42 : Old Z n0 T30.heap := (old37.keep K30 (allS g_b25 all0))
  obtain ⟨cq41, kq41, q41a, q41b, q41c⟩ := isOf hZ e39q p30_1
  obtain ⟨_, _, ⟨T41, L41, k41, n41⟩, -, X41, ⟨Lc41, hQ41, l41, y41, z41⟩, st41⟩ := X39.virtualBack hx (y := my34) (z := my34) hown (mvT hZ (hwd189 hw)) (mvT hZ (hwd190 hw)) (notFace_of_selects (args := #[]) (mvT hZ (hwd192 hw))) (mvT hZ (hwd192 hw)) (mvT hZ (hwd191 hw)) (by decide) (backOf (W := 0) (len l Z a0 hw [] b25 lst_e30 b5 em nn zz (T30.heap) n0 sz40 p30_2 (⟨_, LG_30⟩) ne_em O_M old42) hZ (hwd193 hw) (hwd107 hw) (by decide) (by decide)) q41a q41c (g := (mkF m 135 #[.val (.int p1), .val (.int p2), .val (.int p3), .val (.int (0 : Int32)), .val (.int ((p3 &&& (2147483647 : Int32)) - ((p3 &&& (2147483647 : Int32)) / (3 : Int32)) * (3 : Int32))), .val (.int ((1 : Int32) + (p2 &&& (1 : Int32)))), .val (.int zz), .val (.ref b1), .val (.ref b5), .val (.ref b13), .val (.ref b25), .unset] [(.ref b25)])) rfl (by rw [hml]; rfl) (Steps.refl _) (argsL := []) (rest := []) (lenOf pd_16 rfl) rfl (by show 2 * 0 + _ ≤ _; exact Nat.le_of_eq rfl) (hb hby at_135) (fun _ _ => ⟨rfl, e39q, (by decide : 8 + 0 ≤ _), (by decide : 35 + 0 ≤ _)⟩)
  dsimp only [Pt.U, Pt.locs, Pt.cells, Pt.slots] at X41 l41 y41 z41 st41 hQ41
  subst l41 y41 z41
  obtain ⟨rfl, N41q, e41q⟩ := hQ41
  have N41 := Fr.app N39 N41q
  obtain ⟨cq43, kq43, q43a, q43b, q43c⟩ := isOf hZ e41q p30_1
  obtain ⟨_, _, ⟨T43, L43, k43, n43⟩, -, X43, ⟨Lc43, hQ43, l43, y43, z43⟩, st43⟩ := X41.virtualBack hx (y := my36) (z := my36) hown (mvT hZ (hwd203 hw)) (mvT hZ (hwd204 hw)) (notFace_of_selects (args := #[]) (mvT hZ (hwd206 hw))) (mvT hZ (hwd206 hw)) (mvT hZ (hwd205 hw)) (by decide) (backOf (W := 0) (su l Z a0 hw [] b25 lst_e30 b5 em nn zz ((1 : Int32) + (p2 &&& (1 : Int32))) (T30.heap) n0 sz40 p30_1 p30_2 p30_3 (⟨_, LG_30⟩) hn ne_em O_M old42) hZ (hwd207 hw) (hwd107 hw) (by decide) (by decide)) q43a q43c (g := (mkF m 151 #[.val (.int p1), .val (.int p2), .val (.int p3), .val (.int (0 : Int32)), .val (.int ((p3 &&& (2147483647 : Int32)) - ((p3 &&& (2147483647 : Int32)) / (3 : Int32)) * (3 : Int32))), .val (.int ((1 : Int32) + (p2 &&& (1 : Int32)))), .val (.int zz), .val (.ref b1), .val (.ref b5), .val (.ref b13), .val (.ref b25), .unset] [(.int (zz - (1 : Int32))), (.ref b25)])) rfl (by rw [hml]; rfl) (Steps.refl _) (argsL := [(.int (zz - (1 : Int32)))]) (rest := []) (lenOf pd_20 rfl) rfl (by show 2 * 0 + _ ≤ _; exact Nat.le_of_eq rfl) (hb hby at_151) (fun _ _ => ⟨rfl, e41q, (by decide : 8 + 0 ≤ _), (by decide : 35 + 0 ≤ _)⟩)
  dsimp only [Pt.U, Pt.locs, Pt.cells, Pt.slots] at X43 l43 y43 z43 st43 hQ43
  subst l43 y43 z43
  obtain ⟨rfl, N43q, e43q⟩ := hQ43
  have N43 := Fr.app N41 N43q
  obtain ⟨fs, hr, hrun, hended, hW, hsame⟩ := X43.leave (v := some (.int (1 : Int32))) (fun h => by rw [Bd.returns] at h; cases h)
  refine ⟨_, _, pre0 _ ?_, hrun, hended, _, _, rfl, ?_, ⟨_, rfl⟩, hW, hsame.mono (by decide) (by decide)⟩
  · show Steps p.tables e below (s₁.setTop (mkF m 0 #[.val (.int p1), .val (.int p2), .val (.int p3), .unset, .unset, .unset, .unset, .unset, .unset, .unset, .unset, .unset] [])) _
    refine XS.iloadN X0.here hx rfl (hb hby at_0) rfl ?_
    refine XS.iconst X0.here hx rfl (hb hby at_1) ?_
    refine XS.iand X0.here hx rfl (hb hby at_2) rfl ?_
    refine XS.ifYes X0.here hx rfl (pc0 := 3) (pc' := 10) rfl (hb hby at_3) rfl ((if0 _ _).trans (teq (show (p1 &&& (1 : Int32)) = (0 : Int32) from he)).1) (by decide) (by decide) ?_
    refine XS.iconst X0.here hx rfl (hb hby at_10) ?_
    refine XS.istoreN X0.here hx rfl (hb hby at_11) rfl (l' := #[.val (.int p1), .val (.int p2), .val (.int p3), .val (.int (0 : Int32)), .unset, .unset, .unset, .unset, .unset, .unset, .unset, .unset]) rfl ?_
    show Steps p.tables e below (s₁.setTop (mkF m 12 #[.val (.int p1), .val (.int p2), .val (.int p3), .val (.int (0 : Int32)), .unset, .unset, .unset, .unset, .unset, .unset, .unset, .unset] [])) _
    refine XS.iloadN X0.here hx rfl (hb hby at_12) rfl ?_
    refine XS.ifYes X0.here hx rfl (pc0 := 13) (pc' := 33) rfl (hb hby at_13) rfl ((if0 _ _).trans (teq (show (0 : Int32) = (0 : Int32) from rfl)).1) (by decide) (by decide) ?_
    refine XS.iconst X0.here hx rfl (hb hby at_33) ?_
    refine XS.iloadN X0.here hx rfl (hb hby at_34) rfl ?_
    refine XS.iconst X0.here hx rfl (hb hby at_35) ?_
    refine XS.iand X0.here hx rfl (hb hby at_36) rfl ?_
    show Steps p.tables e below (s₁.setTop (mkF m 37 #[.val (.int p1), .val (.int p2), .val (.int p3), .val (.int (0 : Int32)), .unset, .unset, .unset, .unset, .unset, .unset, .unset, .unset] [(.int (p2 &&& (1 : Int32))), (.int (1 : Int32))])) _
    refine XS.iadd X0.here hx rfl (hb hby at_37) rfl ?_
    refine XS.istore X0.here hx rfl (hb hby at_38) rfl (l' := #[.val (.int p1), .val (.int p2), .val (.int p3), .val (.int (0 : Int32)), .unset, .val (.int ((1 : Int32) + (p2 &&& (1 : Int32)))), .unset, .unset, .unset, .unset, .unset, .unset]) rfl ?_
    refine XS.iconst X0.here hx rfl (hb hby at_40) ?_
    refine XS.iloadN X0.here hx rfl (hb hby at_41) rfl ?_
    refine XS.iconst X0.here hx rfl (hb hby at_42) ?_
    refine XS.ishr X0.here hx rfl (hb hby at_43) rfl ?_
    show Steps p.tables e below (s₁.setTop (mkF m 44 #[.val (.int p1), .val (.int p2), .val (.int p3), .val (.int (0 : Int32)), .unset, .val (.int ((1 : Int32) + (p2 &&& (1 : Int32)))), .unset, .unset, .unset, .unset, .unset, .unset] [(.int (p2 >>> ((1 : Int32) &&& 31))), (.int (1 : Int32))])) _
    refine XS.iconst X0.here hx rfl (hb hby at_44) ?_
    refine XS.iand X0.here hx rfl (hb hby at_45) rfl ?_
    refine XS.iadd X0.here hx rfl (hb hby at_46) rfl ?_
    refine XS.istore X0.here hx rfl (hb hby at_47) rfl (l' := #[.val (.int p1), .val (.int p2), .val (.int p3), .val (.int (0 : Int32)), .unset, .val (.int ((1 : Int32) + (p2 &&& (1 : Int32)))), .unset, .val (.int ((1 : Int32) + ((p2 >>> ((1 : Int32) &&& 31)) &&& (1 : Int32)))), .unset, .unset, .unset, .unset]) rfl ?_
    refine XS.iloadN X0.here hx rfl (hb hby at_49) rfl ?_
    refine X0.ldcInt hx hown (mvT hZ (hwd0 hw)) (g := (mkF m 50 #[.val (.int p1), .val (.int p2), .val (.int p3), .val (.int (0 : Int32)), .unset, .val (.int ((1 : Int32) + (p2 &&& (1 : Int32)))), .unset, .val (.int ((1 : Int32) + ((p2 >>> ((1 : Int32) &&& 31)) &&& (1 : Int32)))), .unset, .unset, .unset, .unset] [(.int p3)])) rfl (hb hby at_50) _ ?_
    show Steps p.tables e below (s₁.setTop (mkF m 52 #[.val (.int p1), .val (.int p2), .val (.int p3), .val (.int (0 : Int32)), .unset, .val (.int ((1 : Int32) + (p2 &&& (1 : Int32)))), .unset, .val (.int ((1 : Int32) + ((p2 >>> ((1 : Int32) &&& 31)) &&& (1 : Int32)))), .unset, .unset, .unset, .unset] [(.int (2147483647 : Int32)), (.int p3)])) _
    refine XS.iand X0.here hx rfl (hb hby at_52) rfl ?_
    refine XS.iconst X0.here hx rfl (hb hby at_53) ?_
    refine XS.irem X0.here hx rfl (hb hby at_54) rfl (by decide) ?_
    refine XS.istore X0.here hx rfl (hb hby at_55) rfl (l' := #[.val (.int p1), .val (.int p2), .val (.int p3), .val (.int (0 : Int32)), .val (.int ((p3 &&& (2147483647 : Int32)) - ((p3 &&& (2147483647 : Int32)) / (3 : Int32)) * (3 : Int32))), .val (.int ((1 : Int32) + (p2 &&& (1 : Int32)))), .unset, .val (.int ((1 : Int32) + ((p2 >>> ((1 : Int32) &&& 31)) &&& (1 : Int32)))), .unset, .unset, .unset, .unset]) rfl ?_
    refine XS.iload X0.here hx rfl (hb hby at_57) rfl ?_
    refine XS.iload X0.here hx rfl (hb hby at_59) rfl ?_
    show Steps p.tables e below (s₁.setTop (mkF m 61 #[.val (.int p1), .val (.int p2), .val (.int p3), .val (.int (0 : Int32)), .val (.int ((p3 &&& (2147483647 : Int32)) - ((p3 &&& (2147483647 : Int32)) / (3 : Int32)) * (3 : Int32))), .val (.int ((1 : Int32) + (p2 &&& (1 : Int32)))), .unset, .val (.int ((1 : Int32) + ((p2 >>> ((1 : Int32) &&& 31)) &&& (1 : Int32)))), .unset, .unset, .unset, .unset] [(.int ((1 : Int32) + ((p2 >>> ((1 : Int32) &&& 31)) &&& (1 : Int32)))), (.int ((p3 &&& (2147483647 : Int32)) - ((p3 &&& (2147483647 : Int32)) / (3 : Int32)) * (3 : Int32)))])) _
    refine XS.iload X0.here hx rfl (hb hby at_61) rfl ?_
    refine XS.imul X0.here hx rfl (hb hby at_63) rfl ?_
    refine XS.iadd X0.here hx rfl (hb hby at_64) rfl ?_
    show Steps p.tables e below (s₁.setTop (mkF m 65 #[.val (.int p1), .val (.int p2), .val (.int p3), .val (.int (0 : Int32)), .val (.int ((p3 &&& (2147483647 : Int32)) - ((p3 &&& (2147483647 : Int32)) / (3 : Int32)) * (3 : Int32))), .val (.int ((1 : Int32) + (p2 &&& (1 : Int32)))), .unset, .val (.int ((1 : Int32) + ((p2 >>> ((1 : Int32) &&& 31)) &&& (1 : Int32)))), .unset, .unset, .unset, .unset] [(.int (((p3 &&& (2147483647 : Int32)) - ((p3 &&& (2147483647 : Int32)) / (3 : Int32)) * (3 : Int32)) + (((1 : Int32) + ((p2 >>> ((1 : Int32) &&& 31)) &&& (1 : Int32))) * ((1 : Int32) + (p2 &&& (1 : Int32))))))])) _
    rw [← h_zz]
    refine XS.istore X0.here hx rfl (hb hby at_65) rfl (l' := #[.val (.int p1), .val (.int p2), .val (.int p3), .val (.int (0 : Int32)), .val (.int ((p3 &&& (2147483647 : Int32)) - ((p3 &&& (2147483647 : Int32)) / (3 : Int32)) * (3 : Int32))), .val (.int ((1 : Int32) + (p2 &&& (1 : Int32)))), .val (.int zz), .val (.int ((1 : Int32) + ((p2 >>> ((1 : Int32) &&& 31)) &&& (1 : Int32)))), .unset, .unset, .unset, .unset]) rfl ?_
    refine st1 _ ?_
    refine XS.dup X1.here hx rfl (hb hby at_70) rfl rfl ?_
    refine st2.trans ?_
    refine XS.astore X2.here hx rfl (hb hby at_74) rfl rfl (l' := #[.val (.int p1), .val (.int p2), .val (.int p3), .val (.int (0 : Int32)), .val (.int ((p3 &&& (2147483647 : Int32)) - ((p3 &&& (2147483647 : Int32)) / (3 : Int32)) * (3 : Int32))), .val (.int ((1 : Int32) + (p2 &&& (1 : Int32)))), .val (.int zz), .val (.ref b1), .unset, .unset, .unset, .unset]) rfl ?_
    show Steps p.tables e below (T2.setTop (mkF m 76 #[.val (.int p1), .val (.int p2), .val (.int p3), .val (.int (0 : Int32)), .val (.int ((p3 &&& (2147483647 : Int32)) - ((p3 &&& (2147483647 : Int32)) / (3 : Int32)) * (3 : Int32))), .val (.int ((1 : Int32) + (p2 &&& (1 : Int32)))), .val (.int zz), .val (.ref b1), .unset, .unset, .unset, .unset] [])) _
    refine st5 _ ?_
    refine XS.dup X5.here hx rfl (hb hby at_79) rfl rfl ?_
    refine XS.aload X5.here hx rfl (hb hby at_80) rfl rfl ?_
    refine XS.aload X5.here hx rfl (hb hby at_82) rfl rfl ?_
    refine st8.trans ?_
    refine XS.astore X8.here hx rfl (hb hby at_87) rfl rfl (l' := #[.val (.int p1), .val (.int p2), .val (.int p3), .val (.int (0 : Int32)), .val (.int ((p3 &&& (2147483647 : Int32)) - ((p3 &&& (2147483647 : Int32)) / (3 : Int32)) * (3 : Int32))), .val (.int ((1 : Int32) + (p2 &&& (1 : Int32)))), .val (.int zz), .val (.ref b1), .val (.ref b5), .unset, .unset, .unset]) rfl ?_
    show Steps p.tables e below (T8.setTop (mkF m 89 #[.val (.int p1), .val (.int p2), .val (.int p3), .val (.int (0 : Int32)), .val (.int ((p3 &&& (2147483647 : Int32)) - ((p3 &&& (2147483647 : Int32)) / (3 : Int32)) * (3 : Int32))), .val (.int ((1 : Int32) + (p2 &&& (1 : Int32)))), .val (.int zz), .val (.ref b1), .val (.ref b5), .unset, .unset, .unset] [])) _
    refine st13 _ ?_
    refine XS.dup X13.here hx rfl (hb hby at_92) rfl rfl ?_
    refine st17.trans ?_
    refine XS.astore X17.here hx rfl (hb hby at_96) rfl rfl (l' := #[.val (.int p1), .val (.int p2), .val (.int p3), .val (.int (0 : Int32)), .val (.int ((p3 &&& (2147483647 : Int32)) - ((p3 &&& (2147483647 : Int32)) / (3 : Int32)) * (3 : Int32))), .val (.int ((1 : Int32) + (p2 &&& (1 : Int32)))), .val (.int zz), .val (.ref b1), .val (.ref b5), .val (.ref b13), .unset, .unset]) rfl ?_
    refine XS.aload X17.here hx rfl (hb hby at_98) rfl rfl ?_
    refine XS.aload X17.here hx rfl (hb hby at_100) rfl rfl ?_
    show Steps p.tables e below (T17.setTop (mkF m 102 #[.val (.int p1), .val (.int p2), .val (.int p3), .val (.int (0 : Int32)), .val (.int ((p3 &&& (2147483647 : Int32)) - ((p3 &&& (2147483647 : Int32)) / (3 : Int32)) * (3 : Int32))), .val (.int ((1 : Int32) + (p2 &&& (1 : Int32)))), .val (.int zz), .val (.ref b1), .val (.ref b5), .val (.ref b13), .unset, .unset] [(.ref b5), (.ref b13)])) _
    refine XS.iload X17.here hx rfl (hb hby at_102) rfl ?_
    refine st20 _ ?_
    refine st25 _ ?_
    refine XS.dup X25.here hx rfl (hb hby at_110) rfl rfl ?_
    refine XS.aload X25.here hx rfl (hb hby at_111) rfl rfl ?_
    refine XS.iload X25.here hx rfl (hb hby at_113) rfl ?_
    show Steps p.tables e below (T25.setTop (mkF m 115 #[.val (.int p1), .val (.int p2), .val (.int p3), .val (.int (0 : Int32)), .val (.int ((p3 &&& (2147483647 : Int32)) - ((p3 &&& (2147483647 : Int32)) / (3 : Int32)) * (3 : Int32))), .val (.int ((1 : Int32) + (p2 &&& (1 : Int32)))), .val (.int zz), .val (.ref b1), .val (.ref b5), .val (.ref b13), .unset, .unset] [(.int ((p3 &&& (2147483647 : Int32)) - ((p3 &&& (2147483647 : Int32)) / (3 : Int32)) * (3 : Int32))), (.ref b13), (.ref b25), (.ref b25)])) _
    refine XS.iload X25.here hx rfl (hb hby at_115) rfl ?_
    refine st30.trans ?_
    refine XS.astore X30.here hx rfl (hb hby at_120) rfl rfl (l' := #[.val (.int p1), .val (.int p2), .val (.int p3), .val (.int (0 : Int32)), .val (.int ((p3 &&& (2147483647 : Int32)) - ((p3 &&& (2147483647 : Int32)) / (3 : Int32)) * (3 : Int32))), .val (.int ((1 : Int32) + (p2 &&& (1 : Int32)))), .val (.int zz), .val (.ref b1), .val (.ref b5), .val (.ref b13), .val (.ref b25), .unset]) rfl ?_
    refine XS.aload X30.here hx rfl (hb hby at_122) rfl rfl ?_
    refine st39.trans ?_
    refine XS.iloadN X39.here hx rfl (hb hby at_127) rfl ?_
    show Steps p.tables e below (T39.setTop (mkF m 128 #[.val (.int p1), .val (.int p2), .val (.int p3), .val (.int (0 : Int32)), .val (.int ((p3 &&& (2147483647 : Int32)) - ((p3 &&& (2147483647 : Int32)) / (3 : Int32)) * (3 : Int32))), .val (.int ((1 : Int32) + (p2 &&& (1 : Int32)))), .val (.int zz), .val (.ref b1), .val (.ref b5), .val (.ref b13), .val (.ref b25), .unset] [(.int (0 : Int32)), (.int (if ((1 : Int32) + (p2 &&& (1 : Int32))) = (0 : Int32) then (1 : Int32) else (0 : Int32)))])) _
    refine XS.icmpYes X39.here hx rfl (pc0 := 128) (pc' := 133) rfl (hb hby at_128) rfl (teq (show (if ((1 : Int32) + (p2 &&& (1 : Int32))) = (0 : Int32) then (1 : Int32) else (0 : Int32)) = (0 : Int32) from (by rw [if_neg hlp]))).1 (by decide) (by decide) ?_
    refine XS.aload X39.here hx rfl (hb hby at_133) rfl rfl ?_
    refine st41.trans ?_
    refine XS.iload X41.here hx rfl (hb hby at_138) rfl ?_
    refine XS.icmpYes X41.here hx rfl (pc0 := 140) (pc' := 145) rfl (hb hby at_140) rfl (teq (show zz = zz from rfl)).1 (by decide) (by decide) ?_
    refine XS.aload X41.here hx rfl (hb hby at_145) rfl rfl ?_
    show Steps p.tables e below (T41.setTop (mkF m 147 #[.val (.int p1), .val (.int p2), .val (.int p3), .val (.int (0 : Int32)), .val (.int ((p3 &&& (2147483647 : Int32)) - ((p3 &&& (2147483647 : Int32)) / (3 : Int32)) * (3 : Int32))), .val (.int ((1 : Int32) + (p2 &&& (1 : Int32)))), .val (.int zz), .val (.ref b1), .val (.ref b5), .val (.ref b13), .val (.ref b25), .unset] [(.ref b25)])) _
    refine XS.iload X41.here hx rfl (hb hby at_147) rfl ?_
    refine XS.iconst X41.here hx rfl (hb hby at_149) ?_
    refine XS.isub X41.here hx rfl (hb hby at_150) rfl ?_
    refine st43.trans ?_
    refine XS.istore X43.here hx rfl (hb hby at_154) rfl (l' := #[.val (.int p1), .val (.int p2), .val (.int p3), .val (.int (0 : Int32)), .val (.int ((p3 &&& (2147483647 : Int32)) - ((p3 &&& (2147483647 : Int32)) / (3 : Int32)) * (3 : Int32))), .val (.int ((1 : Int32) + (p2 &&& (1 : Int32)))), .val (.int zz), .val (.ref b1), .val (.ref b5), .val (.ref b13), .val (.ref b25), .val (.int (if ((1 : Int32) + (p2 &&& (1 : Int32))) = (0 : Int32) then (-1 : Int32) else (zz - ((1 : Int32) + (p2 &&& (1 : Int32))))))]) rfl ?_
    refine XS.iloadN X43.here hx rfl (hb hby at_156) rfl ?_
    show Steps p.tables e below (T43.setTop (mkF m 157 #[.val (.int p1), .val (.int p2), .val (.int p3), .val (.int (0 : Int32)), .val (.int ((p3 &&& (2147483647 : Int32)) - ((p3 &&& (2147483647 : Int32)) / (3 : Int32)) * (3 : Int32))), .val (.int ((1 : Int32) + (p2 &&& (1 : Int32)))), .val (.int zz), .val (.ref b1), .val (.ref b5), .val (.ref b13), .val (.ref b25), .val (.int (if ((1 : Int32) + (p2 &&& (1 : Int32))) = (0 : Int32) then (-1 : Int32) else (zz - ((1 : Int32) + (p2 &&& (1 : Int32))))))] [(.int (0 : Int32))])) _
    refine XS.ifYes X43.here hx rfl (pc0 := 157) (pc' := 172) rfl (hb hby at_157) rfl ((if0 _ _).trans (teq (show (0 : Int32) = (0 : Int32) from rfl)).1) (by decide) (by decide) ?_
    refine XS.iload X43.here hx rfl (hb hby at_172) rfl ?_
    refine XS.iload X43.here hx rfl (hb hby at_174) rfl ?_
    refine XS.iload X43.here hx rfl (hb hby at_176) rfl ?_
    refine XS.isub X43.here hx rfl (hb hby at_178) rfl ?_
    refine XS.icmpNo X43.here hx rfl (hb hby at_179) rfl (teq (show (if ((1 : Int32) + (p2 &&& (1 : Int32))) = (0 : Int32) then (-1 : Int32) else (zz - ((1 : Int32) + (p2 &&& (1 : Int32))))) = (zz - ((1 : Int32) + (p2 &&& (1 : Int32)))) from (by rw [if_neg hlp]))).2 ?_
    show Steps p.tables e below (T43.setTop (mkF m 182 #[.val (.int p1), .val (.int p2), .val (.int p3), .val (.int (0 : Int32)), .val (.int ((p3 &&& (2147483647 : Int32)) - ((p3 &&& (2147483647 : Int32)) / (3 : Int32)) * (3 : Int32))), .val (.int ((1 : Int32) + (p2 &&& (1 : Int32)))), .val (.int zz), .val (.ref b1), .val (.ref b5), .val (.ref b13), .val (.ref b25), .val (.int (if ((1 : Int32) + (p2 &&& (1 : Int32))) = (0 : Int32) then (-1 : Int32) else (zz - ((1 : Int32) + (p2 &&& (1 : Int32))))))] [])) _
    refine XS.iconst X43.here hx rfl (hb hby at_182) ?_
    refine XS.goto X43.here hx rfl (pc0 := 183) (pc' := 187) rfl (hb hby at_183) (by decide) (by decide) ?_
    exact retN X43 hx (t := .boolean) Bd.returns (by simp) (hb hby at_187) hr
  · show Qrm0 Z p1 p2 p3 dd el em mr h0 n0 _ T43.heap _
    rw [e43q]
    exact ⟨rfl, N43⟩
theorem rm0 (l : Launch) (Z : State) (a0 : Array Value) (hw : ∀ d ∈ tables_1, d.before a0 Z = true) (ws : List Jvm.Cond) (p1 : Int32) (p2 : Int32) (p3 : Int32) (dd : Addr) (el : Addr) (em : Addr) (mr : Addr) (h0 : Heap) (n0 : Nat) (Z0 : n0 ≤ h0.size) (O_D : Sta Z Z.heap "java/util/ArrayList" "DEFAULTCAPACITY_EMPTY_ELEMENTDATA" "[Ljava/lang/Object;" (.ref dd)) (A_D : Av Z Z.heap dd (.object "java/lang/Object") 0 (fun _ => .null)) (O_L : Sta Z Z.heap "java/util/ImmutableCollections" "EMPTY_LIST" "Ljava/util/ImmutableCollections$ListN;" (.ref el)) (O_M : Sta Z Z.heap "java/util/ImmutableCollections" "EMPTY" "Ljava/lang/Object;" (.ref em)) (Mr : Mir Z "[Ljava/lang/Object;" mr) (X00 : Old Z n0 h0) (hem : em < Z.heap.size) :
    MetFree l x (head1 (Jvm.Cond.code x code maxLocals ret :: ws) room_1) (fun aa_ U => aa_ = #[(.int p1), (.int p2), (.int p3)] ∧ Z.Warmed39 U.vm ∧ U.heap = h0) (fun _ _ _ _ _ => True) (fun _ U oo_ U' => ∃ v L, oo_ = .returned v ∧ Qrm0 Z p1 p2 p3 dd el em mr h0 n0 v U'.heap L ∧ FrameEnd U oo_ U' L room_1.cells room_1.slots) := by
  by_cases he : (p1 &&& (1 : Int32)) = (0 : Int32)
  · exact law_0 l Z a0 hw ws p1 p2 p3 dd el em mr h0 n0 Z0 O_D A_D O_L O_M Mr X00 hem he
  · exact law_1 l Z a0 hw ws p1 p2 p3 dd el em mr h0 n0 Z0 O_D A_D O_L O_M Mr X00 hem he
set_option maxRecDepth 65536 in
set_option maxHeartbeats 40000000 in
theorem comes_1 {Post : Tables → Env → Array Value → State → Outcome → State → Prop} (hpost : ∀ tb e args s v u, (limb_1_1.after args s (.returned v) u = true ∧ limb_1_2.after args s (.returned v) u = true ∧ True) → FrameEnd s (.returned v) u (Jvm.fieldLocs frame_1_writes args s ++ Jvm.arrayLocs frame_1_arrays args s ++ Jvm.staticLocs frame_1_statics s) 24 192 → Post tb e args s (.returned v) u) :
    ArmFor flags0 classFile x code maxLocals ret World_1 tables_1 room_1 Calls_1 rest_1 Pre_1 Post := by
  intro l hfl _ _ p e ha hc hk s m args below hf hA hF happ hP
  obtain ⟨hcalls, hrest, hpre⟩ := hP
  obtain ⟨-, -, -, hnamed, -, -, -, hat⟩ := (Spec.applies_iff hf).mp happ
  obtain ⟨hg, hn⟩ := and_e (Cond.before_iff.mp (show (Jvm.Cond.and given_1 narrow_1).before args s = true from hpre))
  obtain ⟨gv1, gv2⟩ := and_e hg
  obtain ⟨gv3, gv4⟩ := and_e gv2
  obtain ⟨gv5, gv6⟩ := and_e gv4
  obtain ⟨w0, w1, w2, rfl⟩ : ∃ w0 w1 w2 : Value, args = #[w0, w1, w2] := by
    have hs : args.size = 3 := by simpa [Cond.value, given_1] using gv1
    obtain ⟨L⟩ := args
    match L, hs with
    | [w0, w1, w2], _ => exact ⟨w0, w1, w2, rfl⟩
  have hw := fun d (hd : d ∈ tables_1) => atoms_spec (ws := Jvm.Cond.code x code maxLocals ret :: tables_1) hat d (List.mem_cons_of_mem _ hd)
  have hfit : Fit s := fun {y c} hc i hi => by
    obtain ⟨ha, rfl⟩ := Array.getElem?_eq_some_iff.mp hc
    have q := List.all_eq_true.mp ((Array.all_eq_true_iff_forall_mem.mp hF) _ (Array.getElem_mem ha)) i (List.mem_range.mpr hi)
    simpa [Array.getElem?_eq_getElem hi] using q
  obtain ⟨hsets, hown0⟩ := atoms_of _ (rest_1_c_eq ▸ (show rest_1_c.before _ s = true from hrest))
  have hr0 := Cond.before_iff.mp hown0
  obtain ⟨i0, ei0⟩ := is_v gv3
  obtain rfl : w0 = (.int i0) := Option.some.inj ei0
  obtain ⟨i1, ei1⟩ := is_v gv5
  obtain rfl : w1 = (.int i1) := Option.some.inj ei1
  obtain ⟨i2, ei2⟩ := is_v gv6
  obtain rfl : w2 = (.int i2) := Option.some.inj ei2
  have hD := Cond.before_iff.mp (hsets _ (List.mem_of_getElem? (i := 6) rfl))
  obtain ⟨dd, eD⟩ := arr_v hD
  have SD : Sta s s.heap "java/util/ArrayList" "DEFAULTCAPACITY_EMPTY_ELEMENTDATA" "[Ljava/lang/Object;" (.ref dd) := Sta.start eD (Or.inr ⟨hw _ (List.mem_of_getElem? (i := 3) rfl), hsets _ (List.mem_of_getElem? (i := 2) rfl)⟩)
  obtain ⟨cD, aD⟩ := Arr.start eD hD
  have lD : cD.slots.size = 0 := by
    have q := Cond.before_iff.mp (hsets _ (List.mem_of_getElem? (i := 8) rfl))
    exact own_len eD aD q
  have AD : Av s s.heap dd (.object "java/lang/Object") 0 (fun _ => .null) := ⟨cD, aD, lD, fun j hj => absurd hj (Nat.not_lt_zero _)⟩
  obtain ⟨el, eL⟩ := exa_v (Cond.before_iff.mp (hsets _ (List.mem_of_getElem? (i := 11) rfl)))
  have SL : Sta s s.heap "java/util/ImmutableCollections" "EMPTY_LIST" "Ljava/util/ImmutableCollections$ListN;" (.ref el) := Sta.start eL (Or.inl (hsets _ (List.mem_of_getElem? (i := 10) rfl)))
  have hM := Cond.before_iff.mp (hsets _ (List.mem_of_getElem? (i := 18) rfl))
  obtain ⟨em, eM⟩ := exa_v hM
  have SM : Sta s s.heap "java/util/ImmutableCollections" "EMPTY" "Ljava/lang/Object;" (.ref em) := Sta.start eM (Or.inl (hsets _ (List.mem_of_getElem? (i := 17) rfl)))
  have xM := (Exa.start eM hM).lt
  obtain ⟨mr, MM⟩ := own_mir (show MirrorMade s "[Ljava/lang/Object;" from hcalls.1)
  obtain ⟨n, o, h1, h2, h3, _, L, rfl, ⟨rfl, N⟩, hq⟩ := rm0 l s _ hw tables_1 i0 i1 i2 dd el em mr s.heap s.heap.size (Nat.le_refl _) SD AD SL SM MM (Old.start s) xM p e ha hc hk s m _ below hf ((Spec.applies_iff_loose hf).mp happ).1 ⟨rfl, State.Warmed39.refl s, rfl⟩ trivial
  refine ⟨n, _, h1, h2, h3, hpost _ _ _ _ _ _ ⟨Cond.after_iff.mpr rfl, Cond.after_iff.mpr (eq_i res_at (Term.int_eval (1)) rfl), trivial⟩ ⟨hq.1, hq.2.1, (hq.2.2.sift fun y hy => Or.inr (N y hy)).mono (by decide) (by decide)⟩⟩
theorem main_1_1 : Claimed_1_1 := comes_1 fun _ _ _ _ _ _ h hF => ⟨h.1, hF⟩
theorem main_1_2 : Claimed_1_2 := comes_1 fun _ _ _ _ _ _ h hF => ⟨h.2.1, hF⟩
end Jvm.Pilot.@@N@@
namespace Jvm.Pilot.@@N@@
open Jvm Jvm.ClassFile Sem Op Lib Jvm.Free Jvm.Stand Jvm.Pilot.@@N@@.Jvm.D
/-! MADE BY PROGRAM (witnessworld.py) out of the Statement's table words and the real class files: 30 classes; the members and pool entries that the words name. The judged class is class 1, her method 1. -/
namespace start1
open Jvm.ClassFile
def u (s : String) : CpInfo := .utf8 (stringToUtf16 s)
/-- a pool by its gaps: so many unusable entries, then the entry; so many at the end -/
def gap : Nat → List CpInfo → List CpInfo
  | 0, r => r
  | n + 1, r => .unusable :: gap n r
def poolList (es : List (Nat × CpInfo)) (last : Nat) : List CpInfo := es.foldr (fun e r => gap e.1 (e.2 :: r)) (gap last [])
def pool (es : List (Nat × CpInfo)) (last : Nat) : Array CpInfo := ⟨poolList es last⟩
def fileOf (pool : Array CpInfo) (this : Nat) (attrs : Array Attribute := #[]) (ms : Array MethodInfo := #[]) (fl : Nat := 33) (sup : Nat := 0) (ifs : Array Nat := #[]) (fds : Array FieldInfo := #[]) : ClassFile where
  minorVersion := 0
  majorVersion := 65
  constantPool := pool
  accessFlags := fl
  thisClass := this
  superClass := sup
  interfaces := ifs
  fields := fds
  methods := ms
  attributes := attrs
def plain (name : String) (sup : Option ClassId) : Class where
  name := name
  kind := .ordinary
  loader := none
  accessFlags := 33
  super := sup
  interfaces := #[]
  cf := none
  fields := #[]
  methods := #[]
  instanceTypes := #[]
  staticTypes := #[]
  resolved := #[]
  callSites := []
  init := .initialized
  statics := none
  mirror := none

def pool0 : Array CpInfo := pool [(5, u "<init>"), (0, u "()V"), (1, .class_ 10), (1, u "java/lang/Object"), (0, u "getClass"), (0, u "()Ljava/lang/Class;")] 111

def k0c0 : Code := { maxStack := 0, maxLocals := 1, code := object_method_1_code, exceptionTable := #[], attributes := #[] }
def k0m0 : Method := { name := "<init>", desc := "()V", sig := { parameters := [], returnType := none }, accessFlags := 1, code := some k0c0 }
def k0m1 : Method := { name := "getClass", desc := "()Ljava/lang/Class;", sig := { parameters := [], returnType := some (.object "java/lang/Class") }, accessFlags := 273, code := none }
/-- java/lang/Object -/
def k0 : Class := { plain "java/lang/Object" none with
  accessFlags := 33
  interfaces := #[]
  cf := some (fileOf pool0 8 #[] #[{ accessFlags := 1, nameIndex := 5, descriptorIndex := 6, attributes := #[] }, { accessFlags := 273, nameIndex := 11, descriptorIndex := 12, attributes := #[] }] 33 0 #[] #[])
  fields := #[]
  methods := #[k0m0, k0m1]
  instanceTypes := #[]
  staticTypes := #[]
  resolved := Array.replicate 124 none
  statics := none }

def pool1 : Array CpInfo := pool [(2, .class_ 4), (0, .nameAndType 5 6), (0, u "java/lang/Object"), (0, u "<init>"), (0, u "()V"), (0, .integer 2147483647), (0, .class_ 9), (0, u "java/util/ArrayList"), (0, .methodref 8 3), (0, .class_ 12), (0, u "com/example/gleipnir/gleipnir/service/Counterplay$Position"), (0, .methodref 11 14), (0, .nameAndType 5 15), (0, u "(Ljava/util/List;Ljava/util/List;)V"), (0, .methodref 17 18), (0, .class_ 19), (0, .nameAndType 20 21), (0, u "com/example/gleipnir/gleipnir/service/CounterplayFinitePinLaw"), (0, u "fill"), (0, u "(Ljava/util/ArrayList;Lcom/example/gleipnir/gleipnir/service/Counterplay$Position;I)V"), (0, .class_ 23), (0, u "com/example/gleipnir/gleipnir/service/Counterplay"), (0, .methodref 22 25), (0, .nameAndType 5 26), (0, u "(Ljava/util/List;II)V"), (0, .methodref 22 28), (0, .nameAndType 29 30), (0, u "finite"), (0, u "()Z"), (0, .methodref 22 32), (0, .nameAndType 33 34), (0, u "length"), (0, u "()I"), (0, .methodref 22 36), (0, .nameAndType 37 38), (0, u "successor"), (0, u "(I)I"), (0, .methodref 8 40), (0, .nameAndType 41 42), (0, u "add"), (0, u "(Ljava/lang/Object;)Z"), (2, u "law"), (0, u "(III)Z")] 7

def k1m0 : Method := { name := "<init>", desc := "()V", sig := { parameters := [], returnType := none }, accessFlags := 2, code := none }
def k1c1 : Code := { maxStack := 5, maxLocals := 12, code := code, exceptionTable := #[], attributes := #[] }
def k1m1 : Method := { name := "law", desc := "(III)Z", sig := { parameters := [.int, .int, .int], returnType := some .boolean }, accessFlags := 9, code := some k1c1 }
def k1c2 : Code := { maxStack := 2, maxLocals := 3, code := method_3_code, exceptionTable := #[], attributes := #[] }
def k1m2 : Method := { name := "fill", desc := "(Ljava/util/ArrayList;Lcom/example/gleipnir/gleipnir/service/Counterplay$Position;I)V", sig := { parameters := [(.object "java/util/ArrayList"), (.object "com/example/gleipnir/gleipnir/service/Counterplay$Position"), .int], returnType := none }, accessFlags := 10, code := some k1c2 }
/-- com/example/gleipnir/gleipnir/service/CounterplayFinitePinLaw -/
def k1 : Class := { plain "com/example/gleipnir/gleipnir/service/CounterplayFinitePinLaw" (some 0) with
  accessFlags := 49
  interfaces := #[]
  cf := some (fileOf pool1 17 #[] #[{ accessFlags := 2, nameIndex := 5, descriptorIndex := 6, attributes := #[] }, { accessFlags := 9, nameIndex := 45, descriptorIndex := 46, attributes := #[] }, { accessFlags := 10, nameIndex := 20, descriptorIndex := 21, attributes := #[] }] 49 2 #[] #[])
  fields := #[]
  methods := #[k1m0, k1m1, k1m2]
  instanceTypes := #[]
  staticTypes := #[]
  resolved := Array.replicate 54 none
  statics := none }

def pool2 : Array CpInfo := pool [(8, .class_ 10), (1, u "java/lang/Iterable"), (24, .class_ 36), (0, u "java/lang/Object")] 25

/-- java/lang/Iterable -/
def k2 : Class := { plain "java/lang/Iterable" (some 0) with
  accessFlags := 1537
  interfaces := #[]
  cf := some (fileOf pool2 8 #[] #[] 1537 35 #[] #[])
  fields := #[]
  methods := #[]
  instanceTypes := #[]
  staticTypes := #[]
  resolved := Array.replicate 62 none
  statics := none }

def pool3 : Array CpInfo := pool [(10, .class_ 12), (1, u "java/util/Collection"), (0, u "toArray"), (16, u "()Z"), (29, .class_ 61), (0, u "java/lang/Object"), (0, .class_ 63), (0, u "java/lang/Iterable"), (2, u "isEmpty"), (3, u "()[Ljava/lang/Object;")] 44

def k3m0 : Method := { name := "isEmpty", desc := "()Z", sig := { parameters := [], returnType := some .boolean }, accessFlags := 1025, code := none }
def k3m1 : Method := { name := "toArray", desc := "()[Ljava/lang/Object;", sig := { parameters := [], returnType := some (.array (.object "java/lang/Object")) }, accessFlags := 1025, code := none }
/-- java/util/Collection -/
def k3 : Class := { plain "java/util/Collection" (some 0) with
  accessFlags := 1537
  interfaces := #[2]
  cf := some (fileOf pool3 10 #[] #[{ accessFlags := 1025, nameIndex := 66, descriptorIndex := 30, attributes := #[] }, { accessFlags := 1025, nameIndex := 13, descriptorIndex := 70, attributes := #[] }] 1537 60 #[62] #[])
  fields := #[]
  methods := #[k3m0, k3m1]
  instanceTypes := #[]
  staticTypes := #[]
  resolved := Array.replicate 115 none
  statics := none }

def pool4 : Array CpInfo := pool [(1, .methodref 2 3), (0, .class_ 4), (0, .nameAndType 5 6), (0, u "java/lang/Object"), (0, u "<init>"), (0, u "()V"), (1, .class_ 10), (1, u "java/util/AbstractCollection"), (66, .class_ 78), (0, u "java/util/Collection")] 81

def k4c0 : Code := { maxStack := 1, maxLocals := 1, code := jdk_22_method_1_code, exceptionTable := #[], attributes := #[] }
def k4m0 : Method := { name := "<init>", desc := "()V", sig := { parameters := [], returnType := none }, accessFlags := 4, code := some k4c0 }
/-- java/util/AbstractCollection -/
def k4 : Class := { plain "java/util/AbstractCollection" (some 0) with
  accessFlags := 1057
  interfaces := #[3]
  cf := some (fileOf pool4 8 #[] #[{ accessFlags := 4, nameIndex := 5, descriptorIndex := 6, attributes := #[] }] 1057 2 #[77] #[])
  fields := #[]
  methods := #[k4m0]
  instanceTypes := #[]
  staticTypes := #[]
  resolved := Array.replicate 160 none
  statics := none }

def pool5 : Array CpInfo := pool [(8, .class_ 10), (1, u "java/util/SequencedCollection"), (15, .class_ 27), (0, u "java/lang/Object"), (0, .class_ 29), (0, u "java/util/Collection")] 27

/-- java/util/SequencedCollection -/
def k5 : Class := { plain "java/util/SequencedCollection" (some 0) with
  accessFlags := 1537
  interfaces := #[3]
  cf := some (fileOf pool5 8 #[] #[] 1537 26 #[28] #[])
  fields := #[]
  methods := #[]
  instanceTypes := #[]
  staticTypes := #[]
  resolved := Array.replicate 57 none
  statics := none }

def pool6 : Array CpInfo := pool [(8, .class_ 10), (1, u "java/util/List"), (20, u "(Ljava/lang/Object;)V"), (16, u "<init>"), (30, u "size"), (0, u "()I"), (7, u "of"), (1, .fieldref 91 92), (0, .class_ 93), (0, .nameAndType 94 95), (0, u "java/util/ImmutableCollections"), (0, u "EMPTY_LIST"), (0, u "Ljava/util/ImmutableCollections$ListN;"), (0, .class_ 97), (0, u "java/util/ImmutableCollections$List12"), (0, .methodref 96 99), (0, .nameAndType 48 31), (0, .methodref 96 101), (0, .nameAndType 48 102), (0, u "(Ljava/lang/Object;Ljava/lang/Object;)V"), (0, .class_ 104), (0, u "java/lang/Object"), (3, u "([Ljava/lang/Object;)Ljava/util/List;"), (0, .methodref 91 110), (0, .nameAndType 111 108), (0, u "listFromArray"), (0, .methodref 91 113), (0, .nameAndType 114 115), (0, u "listCopy"), (0, u "(Ljava/util/Collection;)Ljava/util/List;"), (3, u "()Ljava/util/List;"), (0, .class_ 121), (0, u "java/util/SequencedCollection"), (112, u "copyOf")] 16

def k6m0 : Method := { name := "size", desc := "()I", sig := { parameters := [], returnType := some .int }, accessFlags := 1025, code := none }
def k6c1 : Code := { maxStack := 1, maxLocals := 0, code := jdk_40_method_36_code, exceptionTable := #[], attributes := #[] }
def k6m1 : Method := { name := "of", desc := "()Ljava/util/List;", sig := { parameters := [], returnType := some (.object "java/util/List") }, accessFlags := 9, code := some k6c1 }
def k6c2 : Code := { maxStack := 5, maxLocals := 2, code := jdk_40_method_47_code, exceptionTable := #[], attributes := #[] }
def k6m2 : Method := { name := "of", desc := "([Ljava/lang/Object;)Ljava/util/List;", sig := { parameters := [(.array (.object "java/lang/Object"))], returnType := some (.object "java/util/List") }, accessFlags := 137, code := some k6c2 }
def k6c3 : Code := { maxStack := 1, maxLocals := 1, code := jdk_40_method_48_code, exceptionTable := #[], attributes := #[] }
def k6m3 : Method := { name := "copyOf", desc := "(Ljava/util/Collection;)Ljava/util/List;", sig := { parameters := [(.object "java/util/Collection")], returnType := some (.object "java/util/List") }, accessFlags := 9, code := some k6c3 }
/-- java/util/List -/
def k6 : Class := { plain "java/util/List" (some 0) with
  accessFlags := 1537
  interfaces := #[5]
  cf := some (fileOf pool6 8 #[] #[{ accessFlags := 1025, nameIndex := 79, descriptorIndex := 80, attributes := #[] }, { accessFlags := 9, nameIndex := 88, descriptorIndex := 119, attributes := #[] }, { accessFlags := 137, nameIndex := 88, descriptorIndex := 108, attributes := #[] }, { accessFlags := 9, nameIndex := 234, descriptorIndex := 115, attributes := #[] }] 1537 103 #[120] #[])
  fields := #[]
  methods := #[k6m0, k6m1, k6m2, k6m3]
  instanceTypes := #[]
  staticTypes := #[]
  resolved := Array.replicate 251 none
  statics := none }

def pool7 : Array CpInfo := pool [(1, .methodref 2 3), (0, .class_ 4), (0, .nameAndType 5 6), (0, u "java/util/AbstractCollection"), (0, u "<init>"), (0, u "()V"), (0, .fieldref 8 9), (0, .class_ 10), (0, .nameAndType 11 12), (0, u "java/util/AbstractList"), (0, u "modCount"), (0, u "I"), (64, .class_ 78), (0, u "java/util/AbstractList$Itr"), (3, .class_ 83), (0, u "java/util/AbstractList$ListItr"), (9, .class_ 94), (0, u "java/util/AbstractList$RandomAccessSubList"), (3, .class_ 99), (0, u "java/util/AbstractList$SubList"), (33, .class_ 134), (0, u "java/util/List"), (73, .class_ 209), (0, u "java/util/AbstractList$SubList$1"), (0, .class_ 211), (0, u "java/util/AbstractList$RandomAccessSpliterator")] 6

def k7c0 : Code := { maxStack := 2, maxLocals := 1, code := jdk_39_method_1_code, exceptionTable := #[], attributes := #[] }
def k7m0 : Method := { name := "<init>", desc := "()V", sig := { parameters := [], returnType := none }, accessFlags := 4, code := some k7c0 }
/-- java/util/AbstractList -/
def k7 : Class := { plain "java/util/AbstractList" (some 4) with
  accessFlags := 1057
  interfaces := #[6]
  cf := some (fileOf pool7 8 #[.nestMembers #[93, 98, 208, 210, 82, 77]] #[{ accessFlags := 4, nameIndex := 5, descriptorIndex := 6, attributes := #[] }] 1057 2 #[133] #[{ accessFlags := 132, nameIndex := 11, descriptorIndex := 12, attributes := #[] }])
  fields := #[{ name := "modCount", type := .int, accessFlags := 132, slot := 0, constantValue := 0 }]
  methods := #[k7m0]
  instanceTypes := #[.int]
  staticTypes := #[]
  resolved := Array.replicate 218 none
  statics := none }

def pool8 : Array CpInfo := pool [(1, .class_ 2), (0, u "java/util/RandomAccess"), (0, .class_ 4), (0, u "java/lang/Object")] 2

/-- java/util/RandomAccess -/
def k8 : Class := { plain "java/util/RandomAccess" (some 0) with
  accessFlags := 1537
  interfaces := #[]
  cf := some (fileOf pool8 1 #[] #[] 1537 3 #[] #[])
  fields := #[]
  methods := #[]
  instanceTypes := #[]
  staticTypes := #[]
  resolved := Array.replicate 7 none
  statics := none }

def pool9 : Array CpInfo := pool [(1, .class_ 2), (0, u "java/lang/Cloneable"), (0, .class_ 4), (0, u "java/lang/Object")] 2

/-- java/lang/Cloneable -/
def k9 : Class := { plain "java/lang/Cloneable" (some 0) with
  accessFlags := 1537
  interfaces := #[]
  cf := some (fileOf pool9 1 #[] #[] 1537 3 #[] #[])
  fields := #[]
  methods := #[]
  instanceTypes := #[]
  staticTypes := #[]
  resolved := Array.replicate 7 none
  statics := none }

def pool10 : Array CpInfo := pool [(1, .class_ 2), (0, u "java/io/Serializable"), (0, .class_ 4), (0, u "java/lang/Object")] 2

/-- java/io/Serializable -/
def k10 : Class := { plain "java/io/Serializable" (some 0) with
  accessFlags := 1537
  interfaces := #[]
  cf := some (fileOf pool10 1 #[] #[] 1537 3 #[] #[])
  fields := #[]
  methods := #[]
  instanceTypes := #[]
  staticTypes := #[]
  resolved := Array.replicate 7 none
  statics := none }

def pool11 : Array CpInfo := pool [(1, .methodref 2 3), (0, .class_ 4), (0, .nameAndType 5 6), (0, u "java/util/AbstractList"), (0, u "<init>"), (0, u "()V"), (0, .class_ 8), (0, u "java/lang/Object"), (0, .fieldref 10 11), (0, .class_ 12), (0, .nameAndType 13 14), (0, u "java/util/ArrayList"), (0, u "elementData"), (0, u "[Ljava/lang/Object;"), (2, u "EMPTY_ELEMENTDATA"), (21, .fieldref 10 40), (0, .nameAndType 41 14), (0, u "DEFAULTCAPACITY_EMPTY_ELEMENTDATA"), (4, u "toArray"), (0, u "()[Ljava/lang/Object;"), (0, .fieldref 10 49), (0, .nameAndType 50 51), (0, u "size"), (0, u "I"), (6, .class_ 60), (1, u "java/util/Arrays"), (0, u "copyOf"), (1, .fieldref 10 64), (0, .nameAndType 65 51), (0, u "modCount"), (0, .methodref 58 67), (0, .nameAndType 61 68), (0, u "([Ljava/lang/Object;I)[Ljava/lang/Object;"), (0, .methodref 10 70), (0, .nameAndType 71 72), (0, u "grow"), (0, u "(I)[Ljava/lang/Object;"), (6, .methodref 80 81), (0, .class_ 82), (0, .nameAndType 83 84), (0, u "java/lang/Math"), (0, u "max"), (0, u "(II)I"), (11, u "(Ljava/lang/Object;)Z"), (32, .methodref 10 130), (0, .nameAndType 71 47), (0, .methodref 10 132), (0, .nameAndType 133 134), (0, u "add"), (0, u "(Ljava/lang/Object;[Ljava/lang/Object;I)V"), (13, .class_ 149), (0, u "java/util/List"), (23, u "()Z"), (88, .class_ 263), (0, u "java/util/ArrayList$ListItr"), (3, .class_ 268), (0, u "java/util/ArrayList$Itr"), (7, .class_ 277), (0, u "java/util/ArrayList$SubList"), (12, .class_ 291), (0, u "java/util/ArrayList$ArrayListSpliterator"), (37, .class_ 330), (0, u "java/util/RandomAccess"), (0, .class_ 332), (0, u "java/lang/Cloneable"), (0, .class_ 334), (0, u "java/io/Serializable"), (0, u "serialVersionUID"), (0, u "J"), (3, u "DEFAULT_CAPACITY"), (22, u "isEmpty"), (136, .class_ 501), (0, u "java/util/ArrayList$SubList$2"), (0, .class_ 503), (0, u "java/util/ArrayList$SubList$1")] 5

def k11c0 : Code := { maxStack := 2, maxLocals := 1, code := jdk_38_method_2_code, exceptionTable := #[], attributes := #[] }
def k11m0 : Method := { name := "<init>", desc := "()V", sig := { parameters := [], returnType := none }, accessFlags := 1, code := some k11c0 }
def k11c1 : Code := { maxStack := 4, maxLocals := 4, code := jdk_38_method_6_code, exceptionTable := #[], attributes := #[] }
def k11m1 : Method := { name := "grow", desc := "(I)[Ljava/lang/Object;", sig := { parameters := [.int], returnType := some (.array (.object "java/lang/Object")) }, accessFlags := 2, code := some k11c1 }
def k11c2 : Code := { maxStack := 3, maxLocals := 1, code := jdk_38_method_7_code, exceptionTable := #[], attributes := #[] }
def k11m2 : Method := { name := "grow", desc := "()[Ljava/lang/Object;", sig := { parameters := [], returnType := some (.array (.object "java/lang/Object")) }, accessFlags := 2, code := some k11c2 }
def k11c3 : Code := { maxStack := 1, maxLocals := 1, code := jdk_38_method_9_code, exceptionTable := #[], attributes := #[] }
def k11m3 : Method := { name := "isEmpty", desc := "()Z", sig := { parameters := [], returnType := some .boolean }, accessFlags := 1, code := some k11c3 }
def k11c4 : Code := { maxStack := 2, maxLocals := 1, code := jdk_38_method_16_code, exceptionTable := #[], attributes := #[] }
def k11m4 : Method := { name := "toArray", desc := "()[Ljava/lang/Object;", sig := { parameters := [], returnType := some (.array (.object "java/lang/Object")) }, accessFlags := 1, code := some k11c4 }
def k11c5 : Code := { maxStack := 3, maxLocals := 4, code := jdk_38_method_24_code, exceptionTable := #[], attributes := #[] }
def k11m5 : Method := { name := "add", desc := "(Ljava/lang/Object;[Ljava/lang/Object;I)V", sig := { parameters := [(.object "java/lang/Object"), (.array (.object "java/lang/Object")), .int], returnType := none }, accessFlags := 2, code := some k11c5 }
def k11c6 : Code := { maxStack := 4, maxLocals := 2, code := jdk_38_method_25_code, exceptionTable := #[], attributes := #[] }
def k11m6 : Method := { name := "add", desc := "(Ljava/lang/Object;)Z", sig := { parameters := [(.object "java/lang/Object")], returnType := some .boolean }, accessFlags := 1, code := some k11c6 }
/-- java/util/ArrayList -/
def k11 : Class := { plain "java/util/ArrayList" (some 7) with
  accessFlags := 33
  interfaces := #[6, 8, 9, 10]
  cf := some (fileOf pool11 10 #[.nestMembers #[290, 276, 500, 502, 262, 267]] #[{ accessFlags := 1, nameIndex := 5, descriptorIndex := 6, attributes := #[] }, { accessFlags := 2, nameIndex := 71, descriptorIndex := 72, attributes := #[] }, { accessFlags := 2, nameIndex := 71, descriptorIndex := 47, attributes := #[] }, { accessFlags := 1, nameIndex := 363, descriptorIndex := 173, attributes := #[] }, { accessFlags := 1, nameIndex := 46, descriptorIndex := 47, attributes := #[] }, { accessFlags := 2, nameIndex := 133, descriptorIndex := 134, attributes := #[] }, { accessFlags := 1, nameIndex := 133, descriptorIndex := 96, attributes := #[] }] 33 2 #[148, 329, 331, 333] #[{ accessFlags := 26, nameIndex := 335, descriptorIndex := 336, attributes := #[] }, { accessFlags := 26, nameIndex := 340, descriptorIndex := 51, attributes := #[] }, { accessFlags := 26, nameIndex := 17, descriptorIndex := 14, attributes := #[] }, { accessFlags := 26, nameIndex := 41, descriptorIndex := 14, attributes := #[] }, { accessFlags := 128, nameIndex := 13, descriptorIndex := 14, attributes := #[] }, { accessFlags := 2, nameIndex := 50, descriptorIndex := 51, attributes := #[] }])
  fields := #[{ name := "serialVersionUID", type := .long, accessFlags := 26, slot := 0, constantValue := 0 }, { name := "DEFAULT_CAPACITY", type := .int, accessFlags := 26, slot := 1, constantValue := 0 }, { name := "EMPTY_ELEMENTDATA", type := (.array (.object "java/lang/Object")), accessFlags := 26, slot := 2, constantValue := 0 }, { name := "DEFAULTCAPACITY_EMPTY_ELEMENTDATA", type := (.array (.object "java/lang/Object")), accessFlags := 26, slot := 3, constantValue := 0 }, { name := "elementData", type := (.array (.object "java/lang/Object")), accessFlags := 128, slot := 1, constantValue := 0 }, { name := "size", type := .int, accessFlags := 2, slot := 2, constantValue := 0 }]
  methods := #[k11m0, k11m1, k11m2, k11m3, k11m4, k11m5, k11m6]
  instanceTypes := #[.int, (.array (.object "java/lang/Object")), .int]
  staticTypes := #[.long, .int, (.array (.object "java/lang/Object")), (.array (.object "java/lang/Object"))]
  resolved := Array.replicate 509 none
  statics := some 0 }

def pool12 : Array CpInfo := pool [(1, .methodref 2 3), (0, .class_ 4), (0, .nameAndType 5 6), (0, u "java/lang/Object"), (0, u "<init>"), (0, u "()V"), (0, .class_ 8), (0, u "java/lang/Record")] 13

def k12c0 : Code := { maxStack := 1, maxLocals := 1, code := jdk_30_method_1_code, exceptionTable := #[], attributes := #[] }
def k12m0 : Method := { name := "<init>", desc := "()V", sig := { parameters := [], returnType := none }, accessFlags := 4, code := some k12c0 }
/-- java/lang/Record -/
def k12 : Class := { plain "java/lang/Record" (some 0) with
  accessFlags := 1057
  interfaces := #[]
  cf := some (fileOf pool12 7 #[] #[{ accessFlags := 4, nameIndex := 5, descriptorIndex := 6, attributes := #[] }] 1057 2 #[] #[])
  fields := #[]
  methods := #[k12m0]
  instanceTypes := #[]
  staticTypes := #[]
  resolved := Array.replicate 22 none
  statics := none }

def pool13 : Array CpInfo := pool [(1, .methodref 2 3), (0, .class_ 4), (0, .nameAndType 5 6), (0, u "java/lang/Record"), (0, u "<init>"), (0, u "()V"), (0, .interfaceMethodref 8 9), (0, .class_ 10), (0, .nameAndType 11 12), (0, u "java/util/List"), (0, u "copyOf"), (0, u "(Ljava/util/Collection;)Ljava/util/List;"), (0, .fieldref 14 15), (0, .class_ 16), (0, .nameAndType 17 18), (0, u "com/example/gleipnir/gleipnir/service/Counterplay$Position"), (0, u "inputs"), (0, u "Ljava/util/List;"), (0, .fieldref 14 20), (0, .nameAndType 21 18), (0, u "outputs"), (14, u "(Ljava/util/List;Ljava/util/List;)V"), (12, .class_ 50), (0, u "com/example/gleipnir/gleipnir/service/Counterplay")] 20

def k13c0 : Code := { maxStack := 2, maxLocals := 3, code := prog_57_method_1_code, exceptionTable := #[], attributes := #[] }
def k13m0 : Method := { name := "<init>", desc := "(Ljava/util/List;Ljava/util/List;)V", sig := { parameters := [(.object "java/util/List"), (.object "java/util/List")], returnType := none }, accessFlags := 0, code := some k13c0 }
/-- com/example/gleipnir/gleipnir/service/Counterplay$Position -/
def k13 : Class := { plain "com/example/gleipnir/gleipnir/service/Counterplay$Position" (some 12) with
  accessFlags := 48
  interfaces := #[]
  cf := some (fileOf pool13 14 #[.nestHost 49] #[{ accessFlags := 0, nameIndex := 5, descriptorIndex := 36, attributes := #[] }] 48 2 #[] #[{ accessFlags := 18, nameIndex := 17, descriptorIndex := 18, attributes := #[] }, { accessFlags := 18, nameIndex := 21, descriptorIndex := 18, attributes := #[] }])
  fields := #[{ name := "inputs", type := (.object "java/util/List"), accessFlags := 18, slot := 0, constantValue := 0 }, { name := "outputs", type := (.object "java/util/List"), accessFlags := 18, slot := 1, constantValue := 0 }]
  methods := #[k13m0]
  instanceTypes := #[(.object "java/util/List"), (.object "java/util/List")]
  staticTypes := #[]
  resolved := Array.replicate 71 none
  statics := none }

def pool14 : Array CpInfo := pool [(2, .class_ 4), (1, u "java/lang/Object"), (0, u "<init>"), (0, u "()V"), (3, .class_ 11), (0, u "java/util/ImmutableCollections$List12"), (0, .class_ 13), (0, u "java/util/ImmutableCollections$ListN"), (3, u "Z"), (0, .class_ 19), (0, u "java/util/List"), (0, .interfaceMethodref 21 22), (0, .class_ 23), (0, .nameAndType 24 25), (0, u "java/util/Collection"), (0, u "isEmpty"), (0, u "()Z"), (0, .interfaceMethodref 18 27), (0, .nameAndType 28 29), (0, u "of"), (0, u "()Ljava/util/List;"), (0, .interfaceMethodref 21 31), (0, .nameAndType 32 33), (0, u "toArray"), (0, u "()[Ljava/lang/Object;"), (0, .interfaceMethodref 18 35), (0, .nameAndType 28 36), (0, u "([Ljava/lang/Object;)Ljava/util/List;"), (0, .methodref 38 39), (0, .class_ 40), (0, .nameAndType 41 42), (0, u "java/util/Objects"), (0, u "requireNonNull"), (0, u "(Ljava/lang/Object;)Ljava/lang/Object;"), (0, .methodref 12 44), (0, .nameAndType 5 45), (0, u "([Ljava/lang/Object;Z)V"), (1, .class_ 49), (1, u "java/util/ImmutableCollections"), (0, u "$assertionsDisabled"), (5, u "[Ljava/lang/Object;"), (5, u "EMPTY_LIST"), (0, u "Ljava/util/ImmutableCollections$ListN;"), (8, u "EMPTY_LIST_NULLS"), (22, u "SALT32L"), (0, u "J"), (2, u "REVERSE"), (6, u "archivedObjects"), (2, u "EMPTY"), (0, u "Ljava/lang/Object;"), (0, .class_ 112), (0, u "java/util/ImmutableCollections$SetN"), (5, u "EMPTY_SET"), (0, u "Ljava/util/ImmutableCollections$SetN;"), (0, .class_ 121), (0, u "java/util/ImmutableCollections$MapN"), (3, u "EMPTY_MAP"), (0, u "Ljava/util/ImmutableCollections$MapN;"), (4, u "EXPAND_FACTOR"), (0, u "I"), (9, u "listCopy"), (0, u "(Ljava/util/Collection;)Ljava/util/List;"), (7, u "listFromArray"), (17, .class_ 170), (0, u "java/util/ImmutableCollections$MapN$MapNIterator"), (0, .class_ 172), (0, u "java/util/ImmutableCollections$MapN$1"), (0, .class_ 174), (0, u "java/util/ImmutableCollections$Map1"), (0, .class_ 176), (0, u "java/util/ImmutableCollections$AbstractImmutableMap"), (0, .class_ 178), (0, u "java/util/ImmutableCollections$SetN$SetNIterator"), (0, .class_ 180), (0, u "java/util/ImmutableCollections$Set12"), (0, .class_ 182), (0, u "java/util/ImmutableCollections$Set12$1"), (0, .class_ 184), (0, u "java/util/ImmutableCollections$AbstractImmutableSet"), (0, .class_ 186), (0, u "java/util/ImmutableCollections$SubList"), (0, .class_ 188), (0, u "java/util/ImmutableCollections$ListItr"), (0, .class_ 190), (0, u "java/util/ImmutableCollections$AbstractImmutableList"), (0, .class_ 192), (0, u "java/util/ImmutableCollections$AbstractImmutableCollection"), (0, .class_ 194), (0, u "java/util/ImmutableCollections$Access"), (0, .class_ 196), (0, u "java/util/ImmutableCollections$Access$1")] 16

def k14m0 : Method := { name := "<init>", desc := "()V", sig := { parameters := [], returnType := none }, accessFlags := 2, code := none }
def k14c1 : Code := { maxStack := 1, maxLocals := 2, code := jdk_56_method_3_code, exceptionTable := #[], attributes := #[] }
def k14m1 : Method := { name := "listCopy", desc := "(Ljava/util/Collection;)Ljava/util/List;", sig := { parameters := [(.object "java/util/Collection")], returnType := some (.object "java/util/List") }, accessFlags := 8, code := some k14c1 }
def k14c2 : Code := { maxStack := 4, maxLocals := 3, code := jdk_56_method_4_code, exceptionTable := #[], attributes := #[] }
def k14m2 : Method := { name := "listFromArray", desc := "([Ljava/lang/Object;)Ljava/util/List;", sig := { parameters := [(.array (.object "java/lang/Object"))], returnType := some (.object "java/util/List") }, accessFlags := 136, code := some k14c2 }
/-- java/util/ImmutableCollections -/
def k14 : Class := { plain "java/util/ImmutableCollections" (some 0) with
  accessFlags := 32
  interfaces := #[]
  cf := some (fileOf pool14 47 #[.nestMembers #[120, 169, 171, 173, 175, 111, 177, 179, 181, 183, 12, 10, 185, 187, 189, 191, 193, 195]] #[{ accessFlags := 2, nameIndex := 5, descriptorIndex := 6, attributes := #[] }, { accessFlags := 8, nameIndex := 142, descriptorIndex := 143, attributes := #[] }, { accessFlags := 136, nameIndex := 151, descriptorIndex := 36, attributes := #[] }] 32 2 #[] #[{ accessFlags := 26, nameIndex := 95, descriptorIndex := 96, attributes := #[] }, { accessFlags := 26, nameIndex := 99, descriptorIndex := 17, attributes := #[] }, { accessFlags := 10, nameIndex := 106, descriptorIndex := 56, attributes := #[] }, { accessFlags := 26, nameIndex := 109, descriptorIndex := 110, attributes := #[] }, { accessFlags := 24, nameIndex := 62, descriptorIndex := 63, attributes := #[] }, { accessFlags := 24, nameIndex := 72, descriptorIndex := 63, attributes := #[] }, { accessFlags := 24, nameIndex := 118, descriptorIndex := 119, attributes := #[] }, { accessFlags := 24, nameIndex := 125, descriptorIndex := 126, attributes := #[] }, { accessFlags := 24, nameIndex := 131, descriptorIndex := 132, attributes := #[] }, { accessFlags := 4120, nameIndex := 50, descriptorIndex := 17, attributes := #[] }])
  fields := #[{ name := "SALT32L", type := .long, accessFlags := 26, slot := 0, constantValue := 0 }, { name := "REVERSE", type := .boolean, accessFlags := 26, slot := 1, constantValue := 0 }, { name := "archivedObjects", type := (.array (.object "java/lang/Object")), accessFlags := 10, slot := 2, constantValue := 0 }, { name := "EMPTY", type := (.object "java/lang/Object"), accessFlags := 26, slot := 3, constantValue := 0 }, { name := "EMPTY_LIST", type := (.object "java/util/ImmutableCollections$ListN"), accessFlags := 24, slot := 4, constantValue := 0 }, { name := "EMPTY_LIST_NULLS", type := (.object "java/util/ImmutableCollections$ListN"), accessFlags := 24, slot := 5, constantValue := 0 }, { name := "EMPTY_SET", type := (.object "java/util/ImmutableCollections$SetN"), accessFlags := 24, slot := 6, constantValue := 0 }, { name := "EMPTY_MAP", type := (.object "java/util/ImmutableCollections$MapN"), accessFlags := 24, slot := 7, constantValue := 0 }, { name := "EXPAND_FACTOR", type := .int, accessFlags := 24, slot := 8, constantValue := 0 }, { name := "$assertionsDisabled", type := .boolean, accessFlags := 4120, slot := 9, constantValue := 0 }]
  methods := #[k14m0, k14m1, k14m2]
  instanceTypes := #[]
  staticTypes := #[.long, .boolean, (.array (.object "java/lang/Object")), (.object "java/lang/Object"), (.object "java/util/ImmutableCollections$ListN"), (.object "java/util/ImmutableCollections$ListN"), (.object "java/util/ImmutableCollections$SetN"), (.object "java/util/ImmutableCollections$MapN"), .int, .boolean]
  resolved := Array.replicate 213 none
  statics := some 1 }

def pool15 : Array CpInfo := pool [(1, .methodref 2 3), (0, .class_ 4), (0, .nameAndType 5 6), (0, u "java/util/AbstractCollection"), (0, u "<init>"), (0, u "()V"), (1, .class_ 10), (1, u "java/util/ImmutableCollections"), (2, .class_ 14), (0, u "java/util/ImmutableCollections$AbstractImmutableCollection")] 41

def k15c0 : Code := { maxStack := 1, maxLocals := 1, code := jdk_47_method_1_code, exceptionTable := #[], attributes := #[] }
def k15m0 : Method := { name := "<init>", desc := "()V", sig := { parameters := [], returnType := none }, accessFlags := 0, code := some k15c0 }
/-- java/util/ImmutableCollections$AbstractImmutableCollection -/
def k15 : Class := { plain "java/util/ImmutableCollections$AbstractImmutableCollection" (some 4) with
  accessFlags := 1056
  interfaces := #[]
  cf := some (fileOf pool15 13 #[.nestHost 8] #[{ accessFlags := 0, nameIndex := 5, descriptorIndex := 6, attributes := #[] }] 1056 2 #[] #[])
  fields := #[]
  methods := #[k15m0]
  instanceTypes := #[]
  staticTypes := #[]
  resolved := Array.replicate 56 none
  statics := none }

def pool16 : Array CpInfo := pool [(1, .methodref 2 3), (0, .class_ 4), (0, .nameAndType 5 6), (0, u "java/util/ImmutableCollections$AbstractImmutableCollection"), (0, u "<init>"), (0, u "()V"), (1, .class_ 10), (1, u "java/util/ImmutableCollections"), (3, .class_ 16), (1, u "java/util/ImmutableCollections$AbstractImmutableList"), (60, .class_ 78), (0, u "java/util/List"), (45, .class_ 125), (0, u "java/util/RandomAccess")] 70

def k16c0 : Code := { maxStack := 1, maxLocals := 1, code := jdk_46_method_1_code, exceptionTable := #[], attributes := #[] }
def k16m0 : Method := { name := "<init>", desc := "()V", sig := { parameters := [], returnType := none }, accessFlags := 0, code := some k16c0 }
/-- java/util/ImmutableCollections$AbstractImmutableList -/
def k16 : Class := { plain "java/util/ImmutableCollections$AbstractImmutableList" (some 15) with
  accessFlags := 1056
  interfaces := #[6, 8]
  cf := some (fileOf pool16 14 #[.nestHost 8] #[{ accessFlags := 0, nameIndex := 5, descriptorIndex := 6, attributes := #[] }] 1056 2 #[77, 124] #[])
  fields := #[]
  methods := #[k16m0]
  instanceTypes := #[]
  staticTypes := #[]
  resolved := Array.replicate 196 none
  statics := none }

def pool17 : Array CpInfo := pool [(1, .methodref 2 3), (0, .class_ 4), (0, .nameAndType 5 6), (0, u "java/util/ImmutableCollections$AbstractImmutableList"), (0, u "<init>"), (0, u "()V"), (0, .methodref 8 9), (0, .class_ 10), (0, .nameAndType 11 12), (0, u "java/util/Objects"), (0, u "requireNonNull"), (0, u "(Ljava/lang/Object;)Ljava/lang/Object;"), (0, .fieldref 14 15), (0, .class_ 16), (0, .nameAndType 17 18), (0, u "java/util/ImmutableCollections$List12"), (0, u "e0"), (0, u "Ljava/lang/Object;"), (0, .fieldref 20 21), (0, .class_ 22), (0, .nameAndType 23 18), (0, u "java/util/ImmutableCollections"), (0, u "EMPTY"), (0, .fieldref 14 25), (0, .nameAndType 26 18), (0, u "e1"), (24, u "size"), (0, u "()I"), (17, .class_ 71), (0, u "java/io/Serializable"), (4, u "(Ljava/lang/Object;)V"), (8, u "(Ljava/lang/Object;Ljava/lang/Object;)V")] 39

def k17c0 : Code := { maxStack := 2, maxLocals := 2, code := jdk_44_method_1_code, exceptionTable := #[], attributes := #[] }
def k17m0 : Method := { name := "<init>", desc := "(Ljava/lang/Object;)V", sig := { parameters := [(.object "java/lang/Object")], returnType := none }, accessFlags := 0, code := some k17c0 }
def k17c1 : Code := { maxStack := 2, maxLocals := 3, code := jdk_44_method_2_code, exceptionTable := #[], attributes := #[] }
def k17m1 : Method := { name := "<init>", desc := "(Ljava/lang/Object;Ljava/lang/Object;)V", sig := { parameters := [(.object "java/lang/Object"), (.object "java/lang/Object")], returnType := none }, accessFlags := 0, code := some k17c1 }
def k17c2 : Code := { maxStack := 2, maxLocals := 1, code := jdk_44_method_3_code, exceptionTable := #[], attributes := #[] }
def k17m2 : Method := { name := "size", desc := "()I", sig := { parameters := [], returnType := some .int }, accessFlags := 1, code := some k17c2 }
/-- java/util/ImmutableCollections$List12 -/
def k17 : Class := { plain "java/util/ImmutableCollections$List12" (some 16) with
  accessFlags := 48
  interfaces := #[10]
  cf := some (fileOf pool17 14 #[.nestHost 20] #[{ accessFlags := 0, nameIndex := 5, descriptorIndex := 76, attributes := #[] }, { accessFlags := 0, nameIndex := 5, descriptorIndex := 85, attributes := #[] }, { accessFlags := 1, nameIndex := 51, descriptorIndex := 52, attributes := #[] }] 48 2 #[70] #[{ accessFlags := 18, nameIndex := 17, descriptorIndex := 18, attributes := #[] }, { accessFlags := 18, nameIndex := 26, descriptorIndex := 18, attributes := #[] }])
  fields := #[{ name := "e0", type := (.object "java/lang/Object"), accessFlags := 18, slot := 0, constantValue := 0 }, { name := "e1", type := (.object "java/lang/Object"), accessFlags := 18, slot := 1, constantValue := 0 }]
  methods := #[k17m0, k17m1, k17m2]
  instanceTypes := #[(.object "java/lang/Object"), (.object "java/lang/Object")]
  staticTypes := #[]
  resolved := Array.replicate 125 none
  statics := none }

def pool18 : Array CpInfo := pool [(1, .methodref 2 3), (0, .class_ 4), (0, .nameAndType 5 6), (0, u "java/util/ImmutableCollections$AbstractImmutableList"), (0, u "<init>"), (0, u "()V"), (0, .fieldref 8 9), (0, .class_ 10), (0, .nameAndType 11 12), (0, u "java/util/ImmutableCollections$ListN"), (0, u "elements"), (0, u "[Ljava/lang/Object;"), (0, .fieldref 8 14), (0, .nameAndType 15 16), (0, u "allowNulls"), (0, u "Z"), (42, .class_ 60), (0, u "java/io/Serializable"), (4, u "([Ljava/lang/Object;Z)V"), (11, u "size"), (0, u "()I"), (35, .class_ 115), (0, u "java/util/ImmutableCollections")] 3

def k18c0 : Code := { maxStack := 2, maxLocals := 3, code := jdk_45_method_1_code, exceptionTable := #[], attributes := #[] }
def k18m0 : Method := { name := "<init>", desc := "([Ljava/lang/Object;Z)V", sig := { parameters := [(.array (.object "java/lang/Object")), .boolean], returnType := none }, accessFlags := 2, code := some k18c0 }
def k18c1 : Code := { maxStack := 1, maxLocals := 1, code := jdk_45_method_3_code, exceptionTable := #[], attributes := #[] }
def k18m1 : Method := { name := "size", desc := "()I", sig := { parameters := [], returnType := some .int }, accessFlags := 1, code := some k18c1 }
/-- java/util/ImmutableCollections$ListN -/
def k18 : Class := { plain "java/util/ImmutableCollections$ListN" (some 16) with
  accessFlags := 48
  interfaces := #[10]
  cf := some (fileOf pool18 8 #[.nestHost 114] #[{ accessFlags := 2, nameIndex := 5, descriptorIndex := 65, attributes := #[] }, { accessFlags := 1, nameIndex := 77, descriptorIndex := 78, attributes := #[] }] 48 2 #[59] #[{ accessFlags := 18, nameIndex := 11, descriptorIndex := 12, attributes := #[] }, { accessFlags := 18, nameIndex := 15, descriptorIndex := 16, attributes := #[] }])
  fields := #[{ name := "elements", type := (.array (.object "java/lang/Object")), accessFlags := 18, slot := 0, constantValue := 0 }, { name := "allowNulls", type := .boolean, accessFlags := 18, slot := 1, constantValue := 0 }]
  methods := #[k18m0, k18m1]
  instanceTypes := #[(.array (.object "java/lang/Object")), .boolean]
  staticTypes := #[]
  resolved := Array.replicate 119 none
  statics := none }

def pool19 : Array CpInfo := pool [(1, .class_ 2), (0, u "java/lang/Math"), (1, .class_ 6), (1, u "java/lang/Object"), (0, u "<init>"), (0, u "()V"), (89, .class_ 100), (1, u "java/lang/Math$RandomNumberGeneratorHolder"), (71, u "negativeZeroFloatBits"), (0, u "J"), (2, u "negativeZeroDoubleBits"), (21, u "max"), (2, u "min"), (43, u "$assertionsDisabled"), (0, u "Z"), (88, u "(II)I"), (2, u "twoToTheDoubleScaleDown"), (0, u "D"), (4, u "twoToTheDoubleScaleUp"), (9, u "E"), (3, u "PI"), (2, u "TAU"), (2, u "DEGREES_TO_RADIANS"), (0, u "RADIANS_TO_DEGREES")] 94

def k19m0 : Method := { name := "<init>", desc := "()V", sig := { parameters := [], returnType := none }, accessFlags := 2, code := none }
def k19c1 : Code := { maxStack := 2, maxLocals := 2, code := jdk_29_method_65_code, exceptionTable := #[], attributes := #[] }
def k19m1 : Method := { name := "max", desc := "(II)I", sig := { parameters := [.int, .int], returnType := some .int }, accessFlags := 9, code := some k19c1 }
def k19c2 : Code := { maxStack := 2, maxLocals := 2, code := jdk_29_method_69_code, exceptionTable := #[], attributes := #[] }
def k19m2 : Method := { name := "min", desc := "(II)I", sig := { parameters := [.int, .int], returnType := some .int }, accessFlags := 9, code := some k19c2 }
/-- java/lang/Math -/
def k19 : Class := { plain "java/lang/Math" (some 0) with
  accessFlags := 49
  interfaces := #[]
  cf := some (fileOf pool19 1 #[.nestMembers #[98]] #[{ accessFlags := 2, nameIndex := 7, descriptorIndex := 8, attributes := #[] }, { accessFlags := 9, nameIndex := 198, descriptorIndex := 335, attributes := #[] }, { accessFlags := 9, nameIndex := 201, descriptorIndex := 335, attributes := #[] }] 49 4 #[] #[{ accessFlags := 25, nameIndex := 354, descriptorIndex := 339, attributes := #[] }, { accessFlags := 25, nameIndex := 358, descriptorIndex := 339, attributes := #[] }, { accessFlags := 25, nameIndex := 361, descriptorIndex := 339, attributes := #[] }, { accessFlags := 26, nameIndex := 364, descriptorIndex := 339, attributes := #[] }, { accessFlags := 26, nameIndex := 365, descriptorIndex := 339, attributes := #[] }, { accessFlags := 26, nameIndex := 172, descriptorIndex := 173, attributes := #[] }, { accessFlags := 26, nameIndex := 176, descriptorIndex := 173, attributes := #[] }, { accessFlags := 8, nameIndex := 344, descriptorIndex := 339, attributes := #[] }, { accessFlags := 8, nameIndex := 338, descriptorIndex := 339, attributes := #[] }, { accessFlags := 4120, nameIndex := 245, descriptorIndex := 246, attributes := #[] }])
  fields := #[{ name := "E", type := .double, accessFlags := 25, slot := 0, constantValue := 0 }, { name := "PI", type := .double, accessFlags := 25, slot := 1, constantValue := 0 }, { name := "TAU", type := .double, accessFlags := 25, slot := 2, constantValue := 0 }, { name := "DEGREES_TO_RADIANS", type := .double, accessFlags := 26, slot := 3, constantValue := 0 }, { name := "RADIANS_TO_DEGREES", type := .double, accessFlags := 26, slot := 4, constantValue := 0 }, { name := "negativeZeroFloatBits", type := .long, accessFlags := 26, slot := 5, constantValue := 0 }, { name := "negativeZeroDoubleBits", type := .long, accessFlags := 26, slot := 6, constantValue := 0 }, { name := "twoToTheDoubleScaleUp", type := .double, accessFlags := 8, slot := 7, constantValue := 0 }, { name := "twoToTheDoubleScaleDown", type := .double, accessFlags := 8, slot := 8, constantValue := 0 }, { name := "$assertionsDisabled", type := .boolean, accessFlags := 4120, slot := 9, constantValue := 0 }]
  methods := #[k19m0, k19m1, k19m2]
  instanceTypes := #[]
  staticTypes := #[.double, .double, .double, .double, .double, .long, .long, .double, .double, .boolean]
  resolved := Array.replicate 460 none
  statics := none }

def pool20 : Array CpInfo := pool [(1, .methodref 2 3), (0, .class_ 4), (0, .nameAndType 5 6), (0, u "java/lang/Record"), (0, u "<init>"), (0, u "()V"), (0, .interfaceMethodref 8 9), (0, .class_ 10), (0, .nameAndType 11 12), (0, u "java/util/List"), (0, u "copyOf"), (0, u "(Ljava/util/Collection;)Ljava/util/List;"), (0, .fieldref 14 15), (0, .class_ 16), (0, .nameAndType 17 18), (0, u "com/example/gleipnir/gleipnir/service/Counterplay"), (0, u "positions"), (0, u "Ljava/util/List;"), (0, .fieldref 14 20), (0, .nameAndType 21 22), (0, u "stem"), (0, u "I"), (0, .fieldref 14 24), (0, .nameAndType 25 22), (0, u "loop"), (30, .interfaceMethodref 8 57), (0, .nameAndType 58 59), (0, u "size"), (0, u "()I"), (4, .class_ 65), (0, u "com/example/gleipnir/gleipnir/service/Counterplay$Position"), (15, u "()Z"), (15, u "(Ljava/util/List;II)V"), (9, .methodref 14 108), (0, .nameAndType 109 81), (0, u "finite"), (0, .methodref 14 111), (0, .nameAndType 112 59), (0, u "loopStart"), (31, u "length"), (0, u "successor"), (0, u "(I)I")] 29

def k20c0 : Code := { maxStack := 2, maxLocals := 4, code := prog_56_method_1_code, exceptionTable := #[], attributes := #[] }
def k20m0 : Method := { name := "<init>", desc := "(Ljava/util/List;II)V", sig := { parameters := [(.object "java/util/List"), .int, .int], returnType := none }, accessFlags := 0, code := some k20c0 }
def k20c1 : Code := { maxStack := 1, maxLocals := 1, code := prog_56_method_3_code, exceptionTable := #[], attributes := #[] }
def k20m1 : Method := { name := "finite", desc := "()Z", sig := { parameters := [], returnType := some .boolean }, accessFlags := 0, code := some k20c1 }
def k20c2 : Code := { maxStack := 1, maxLocals := 1, code := prog_56_method_4_code, exceptionTable := #[], attributes := #[] }
def k20m2 : Method := { name := "length", desc := "()I", sig := { parameters := [], returnType := some .int }, accessFlags := 0, code := some k20c2 }
def k20c3 : Code := { maxStack := 2, maxLocals := 1, code := prog_56_method_5_code, exceptionTable := #[], attributes := #[] }
def k20m3 : Method := { name := "loopStart", desc := "()I", sig := { parameters := [], returnType := some .int }, accessFlags := 0, code := some k20c3 }
def k20c4 : Code := { maxStack := 2, maxLocals := 3, code := prog_56_method_6_code, exceptionTable := #[], attributes := #[] }
def k20m4 : Method := { name := "successor", desc := "(I)I", sig := { parameters := [.int], returnType := some .int }, accessFlags := 0, code := some k20c4 }
/-- com/example/gleipnir/gleipnir/service/Counterplay -/
def k20 : Class := { plain "com/example/gleipnir/gleipnir/service/Counterplay" (some 12) with
  accessFlags := 48
  interfaces := #[]
  cf := some (fileOf pool20 14 #[.nestMembers #[64]] #[{ accessFlags := 0, nameIndex := 5, descriptorIndex := 97, attributes := #[] }, { accessFlags := 0, nameIndex := 109, descriptorIndex := 81, attributes := #[] }, { accessFlags := 0, nameIndex := 144, descriptorIndex := 59, attributes := #[] }, { accessFlags := 0, nameIndex := 112, descriptorIndex := 59, attributes := #[] }, { accessFlags := 0, nameIndex := 145, descriptorIndex := 146, attributes := #[] }] 48 2 #[] #[{ accessFlags := 18, nameIndex := 17, descriptorIndex := 18, attributes := #[] }, { accessFlags := 18, nameIndex := 21, descriptorIndex := 22, attributes := #[] }, { accessFlags := 18, nameIndex := 25, descriptorIndex := 22, attributes := #[] }])
  fields := #[{ name := "positions", type := (.object "java/util/List"), accessFlags := 18, slot := 0, constantValue := 0 }, { name := "stem", type := .int, accessFlags := 18, slot := 1, constantValue := 0 }, { name := "loop", type := .int, accessFlags := 18, slot := 2, constantValue := 0 }]
  methods := #[k20m0, k20m1, k20m2, k20m3, k20m4]
  instanceTypes := #[(.object "java/util/List"), .int, .int]
  staticTypes := #[]
  resolved := Array.replicate 176 none
  statics := none }

def pool21 : Array CpInfo := pool [(2, .class_ 4), (1, u "java/lang/Object"), (0, u "<init>"), (0, u "()V"), (7, .class_ 16), (1, u "java/util/Arrays"), (57, .class_ 76), (1, u "java/util/Arrays$NaturalOrder"), (9, .methodref 2 87), (0, .nameAndType 88 89), (0, u "getClass"), (0, u "()Ljava/lang/Class;"), (20, .class_ 111), (0, u "[Ljava/lang/Object;"), (1, .class_ 115), (1, u "java/util/Arrays$LegacyMergeSort"), (1, u "Z"), (32, .methodref 151 152), (0, .class_ 153), (0, .nameAndType 154 155), (0, u "java/lang/System"), (0, u "arraycopy"), (0, u "(Ljava/lang/Object;ILjava/lang/Object;II)V"), (144, .methodref 14 301), (0, .nameAndType 302 303), (0, u "copyOf"), (0, u "([Ljava/lang/Object;ILjava/lang/Class;)[Ljava/lang/Object;"), (0, .methodref 305 306), (0, .class_ 307), (0, .nameAndType 308 309), (0, u "java/lang/Math"), (0, u "min"), (0, u "(II)I"), (65, .class_ 376), (0, u "java/util/Arrays$ArrayList"), (68, u "$assertionsDisabled"), (269, u "MIN_ARRAY_SORT_GRAN"), (0, u "I"), (2, u "INSERTIONSORT_THRESHOLD"), (140, u "([Ljava/lang/Object;I)[Ljava/lang/Object;"), (114, .class_ 976), (0, u "java/util/Arrays$ArrayItr")] 52

def k21m0 : Method := { name := "<init>", desc := "()V", sig := { parameters := [], returnType := none }, accessFlags := 2, code := none }
def k21c1 : Code := { maxStack := 3, maxLocals := 2, code := jdk_65_method_119_code, exceptionTable := #[], attributes := #[] }
def k21m1 : Method := { name := "copyOf", desc := "([Ljava/lang/Object;I)[Ljava/lang/Object;", sig := { parameters := [(.array (.object "java/lang/Object")), .int], returnType := some (.array (.object "java/lang/Object")) }, accessFlags := 9, code := some k21c1 }
def k21c2 : Code := { maxStack := 6, maxLocals := 4, code := jdk_65_method_120_code, exceptionTable := #[], attributes := #[] }
def k21m2 : Method := { name := "copyOf", desc := "([Ljava/lang/Object;ILjava/lang/Class;)[Ljava/lang/Object;", sig := { parameters := [(.array (.object "java/lang/Object")), .int, (.object "java/lang/Class")], returnType := some (.array (.object "java/lang/Object")) }, accessFlags := 9, code := some k21c2 }
/-- java/util/Arrays -/
def k21 : Class := { plain "java/util/Arrays" (some 0) with
  accessFlags := 49
  interfaces := #[]
  cf := some (fileOf pool21 14 #[.nestMembers #[975, 375, 113, 74]] #[{ accessFlags := 2, nameIndex := 5, descriptorIndex := 6, attributes := #[] }, { accessFlags := 9, nameIndex := 302, descriptorIndex := 860, attributes := #[] }, { accessFlags := 9, nameIndex := 302, descriptorIndex := 303, attributes := #[] }] 49 2 #[] #[{ accessFlags := 26, nameIndex := 715, descriptorIndex := 716, attributes := #[] }, { accessFlags := 26, nameIndex := 719, descriptorIndex := 716, attributes := #[] }, { accessFlags := 4120, nameIndex := 445, descriptorIndex := 117, attributes := #[] }])
  fields := #[{ name := "MIN_ARRAY_SORT_GRAN", type := .int, accessFlags := 26, slot := 0, constantValue := 0 }, { name := "INSERTIONSORT_THRESHOLD", type := .int, accessFlags := 26, slot := 1, constantValue := 0 }, { name := "$assertionsDisabled", type := .boolean, accessFlags := 4120, slot := 2, constantValue := 0 }]
  methods := #[k21m0, k21m1, k21m2]
  instanceTypes := #[]
  staticTypes := #[.int, .int, .boolean]
  resolved := Array.replicate 1029 none
  statics := none }

def pool22 : Array CpInfo := pool [(2, .class_ 4), (1, u "java/lang/Object"), (0, u "<init>"), (0, u "()V"), (1, .class_ 10), (1, u "java/lang/System"), (0, u "allowSecurityManager"), (0, u "I"), (16, u "cons"), (0, u "Ljava/io/Console;"), (77, .class_ 110), (1, u "java/lang/System$CallersHolder"), (43, u "initialErrStream"), (0, u "Ljava/io/PrintStream;"), (19, u "security"), (0, u "Ljava/lang/SecurityManager;"), (31, .class_ 209), (0, u "java/lang/System$1"), (7, u "props"), (0, u "Ljava/util/Properties;"), (2, u "lineSeparator"), (0, u "Ljava/lang/String;"), (96, .class_ 321), (1, u "java/lang/System$LoggerFinder"), (5, .class_ 328), (0, u "java/lang/System$Logger"), (67, u "err"), (2, u "out"), (91, u "notSupportedJnuEncoding"), (15, u "in"), (17, u "initialIn"), (0, u "Ljava/io/InputStream;"), (35, u "bootLayer"), (0, u "Ljava/lang/ModuleLayer;"), (99, .class_ 664), (0, u "java/lang/System$2"), (9, u "NEVER"), (2, u "MAYBE"), (49, u "arraycopy"), (0, u "(Ljava/lang/Object;ILjava/lang/Object;II)V"), (72, .class_ 802), (0, u "java/lang/System$Logger$Level")] 31

def k22m0 : Method := { name := "<init>", desc := "()V", sig := { parameters := [], returnType := none }, accessFlags := 2, code := none }
def k22m1 : Method := { name := "arraycopy", desc := "(Ljava/lang/Object;ILjava/lang/Object;II)V", sig := { parameters := [(.object "java/lang/Object"), .int, (.object "java/lang/Object"), .int, .int], returnType := none }, accessFlags := 265, code := none }
/-- java/lang/System -/
def k22 : Class := { plain "java/lang/System" (some 0) with
  accessFlags := 49
  interfaces := #[]
  cf := some (fileOf pool22 8 #[.nestMembers #[319, 327, 801, 108, 663, 208]] #[{ accessFlags := 2, nameIndex := 5, descriptorIndex := 6, attributes := #[] }, { accessFlags := 265, nameIndex := 727, descriptorIndex := 728, attributes := #[] }] 49 2 #[] #[{ accessFlags := 25, nameIndex := 507, descriptorIndex := 526, attributes := #[] }, { accessFlags := 25, nameIndex := 399, descriptorIndex := 155, attributes := #[] }, { accessFlags := 25, nameIndex := 396, descriptorIndex := 155, attributes := #[] }, { accessFlags := 10, nameIndex := 525, descriptorIndex := 526, attributes := #[] }, { accessFlags := 26, nameIndex := 674, descriptorIndex := 12, attributes := #[] }, { accessFlags := 26, nameIndex := 677, descriptorIndex := 12, attributes := #[] }, { accessFlags := 10, nameIndex := 11, descriptorIndex := 12, attributes := #[] }, { accessFlags := 74, nameIndex := 175, descriptorIndex := 176, attributes := #[] }, { accessFlags := 10, nameIndex := 491, descriptorIndex := 222, attributes := #[] }, { accessFlags := 74, nameIndex := 29, descriptorIndex := 30, attributes := #[] }, { accessFlags := 74, nameIndex := 154, descriptorIndex := 155, attributes := #[] }, { accessFlags := 10, nameIndex := 217, descriptorIndex := 218, attributes := #[] }, { accessFlags := 10, nameIndex := 221, descriptorIndex := 222, attributes := #[] }, { accessFlags := 8, nameIndex := 562, descriptorIndex := 563, attributes := #[] }])
  fields := #[{ name := "in", type := (.object "java/io/InputStream"), accessFlags := 25, slot := 0, constantValue := 0 }, { name := "out", type := (.object "java/io/PrintStream"), accessFlags := 25, slot := 1, constantValue := 0 }, { name := "err", type := (.object "java/io/PrintStream"), accessFlags := 25, slot := 2, constantValue := 0 }, { name := "initialIn", type := (.object "java/io/InputStream"), accessFlags := 10, slot := 3, constantValue := 0 }, { name := "NEVER", type := .int, accessFlags := 26, slot := 4, constantValue := 0 }, { name := "MAYBE", type := .int, accessFlags := 26, slot := 5, constantValue := 0 }, { name := "allowSecurityManager", type := .int, accessFlags := 10, slot := 6, constantValue := 0 }, { name := "security", type := (.object "java/lang/SecurityManager"), accessFlags := 74, slot := 7, constantValue := 0 }, { name := "notSupportedJnuEncoding", type := (.object "java/lang/String"), accessFlags := 10, slot := 8, constantValue := 0 }, { name := "cons", type := (.object "java/io/Console"), accessFlags := 74, slot := 9, constantValue := 0 }, { name := "initialErrStream", type := (.object "java/io/PrintStream"), accessFlags := 74, slot := 10, constantValue := 0 }, { name := "props", type := (.object "java/util/Properties"), accessFlags := 10, slot := 11, constantValue := 0 }, { name := "lineSeparator", type := (.object "java/lang/String"), accessFlags := 10, slot := 12, constantValue := 0 }, { name := "bootLayer", type := (.object "java/lang/ModuleLayer"), accessFlags := 8, slot := 13, constantValue := 0 }]
  methods := #[k22m0, k22m1]
  instanceTypes := #[]
  staticTypes := #[(.object "java/io/InputStream"), (.object "java/io/PrintStream"), (.object "java/io/PrintStream"), (.object "java/io/InputStream"), .int, .int, .int, (.object "java/lang/SecurityManager"), (.object "java/lang/String"), (.object "java/io/Console"), (.object "java/io/PrintStream"), (.object "java/util/Properties"), (.object "java/lang/String"), (.object "java/lang/ModuleLayer")]
  resolved := Array.replicate 834 none
  statics := none }

def pool23 : Array CpInfo := pool [(2, .class_ 4), (1, u "java/lang/Object"), (0, u "<init>"), (0, u "()V"), (35, .class_ 44), (1, u "java/util/Objects"), (0, u "requireNonNull"), (0, u "(Ljava/lang/Object;)Ljava/lang/Object;")] 137

def k23m0 : Method := { name := "<init>", desc := "()V", sig := { parameters := [], returnType := none }, accessFlags := 2, code := none }
def k23c1 : Code := { maxStack := 2, maxLocals := 1, code := jdk_31_method_10_code, exceptionTable := #[], attributes := #[] }
def k23m1 : Method := { name := "requireNonNull", desc := "(Ljava/lang/Object;)Ljava/lang/Object;", sig := { parameters := [(.object "java/lang/Object")], returnType := some (.object "java/lang/Object") }, accessFlags := 9, code := some k23c1 }
/-- java/util/Objects -/
def k23 : Class := { plain "java/util/Objects" (some 0) with
  accessFlags := 49
  interfaces := #[]
  cf := some (fileOf pool23 42 #[] #[{ accessFlags := 2, nameIndex := 5, descriptorIndex := 6, attributes := #[] }, { accessFlags := 9, nameIndex := 45, descriptorIndex := 46, attributes := #[] }] 49 2 #[] #[])
  fields := #[]
  methods := #[k23m0, k23m1]
  instanceTypes := #[]
  staticTypes := #[]
  resolved := Array.replicate 184 none
  statics := none }

def pool24 : Array CpInfo := pool [(1, u "java/lang/Class"), (0, .class_ 1), (0, u "java/lang/Object"), (0, .class_ 3)] 3

/-- java/lang/Class -/
def k24 : Class := { plain "java/lang/Class" (some 0) with
  accessFlags := 49
  interfaces := #[]
  cf := some (fileOf pool24 2 #[] #[] 49 4 #[] #[])
  fields := #[]
  methods := #[]
  instanceTypes := #[]
  staticTypes := #[]
  resolved := Array.replicate 8 none
  statics := none }

/-- the primitive byte -/
def k25 : Class := { plain "byte" none with kind := .primitive 'B', accessFlags := 0x411 }
/-- [B -/
def k26 : Class := { plain "[B" (some 0) with kind := .array 25 .byte, interfaces := #[9, 10], accessFlags := 1041 }

/-- the primitive int -/
def k27 : Class := { plain "int" none with kind := .primitive 'I', accessFlags := 0x411 }
/-- [I -/
def k28 : Class := { plain "[I" (some 0) with kind := .array 27 .int, interfaces := #[9, 10], accessFlags := 1041 }

/-- [Ljava/lang/Object; -/
def k29 : Class := { plain "[Ljava/lang/Object;" (some 0) with kind := .array 0 (.object "java/lang/Object"), interfaces := #[9, 10], accessFlags := 1041, mirror := some 2 }

def heap : Heap := #[{ cls := 11, slots := #[.long 0, .int 0, .ref 3, .ref 4], vm := .statics 11 },
  { cls := 14, slots := #[.long 0, .int 0, .null, .ref 6, .ref 5, .null, .null, .null, .int 0, .int 1], vm := .statics 14 },
  { cls := 24, slots := #[], vm := .mirror 29 },
  { cls := 29, slots := #[], vm := .none },
  { cls := 29, slots := #[], vm := .none },
  { cls := 18, slots := #[.ref 3, .int 0], vm := .none },
  { cls := 0, slots := #[], vm := .none }]
def classes : Array Class := #[k0, k1, k2, k3, k4, k5, k6, k7, k8, k9, k10, k11, k12, k13, k14, k15, k16, k17, k18, k19, k20, k21, k22, k23, k24, k25, k26, k27, k28, k29]
def interned : List (Array UInt16 × Addr) := []
def slotsUsed : Nat := 16
def theMethod : MethodId := ⟨1, 1⟩
def args0 : Array Value := #[.int 5, .int 6, .int 7]
def aboutOver (below : List Frame) : State where
  vm := { classes := classes, interned := interned.toArray }
  heap := heap
  slotsUsed := slotsUsed
  threads := #[{ frames := .invoking theMethod args0 :: below }]
def below0 : List Frame := [.native { method := ⟨0, 0⟩, args := #[] }]
def about1 : State := aboutOver below0
def p0 : Program := .bare "" "" ""
def e0 : Env := launch0.env 0 0 0
theorem w_frames : about1.frames = Frame.invoking theMethod args0 :: below0 := rfl
set_option maxRecDepth 65536 in
theorem w_args : argsFit about1.vm theMethod args0 = true := by decide +kernel
set_option maxRecDepth 65536 in
theorem w_heap : heapFits about1 = true := by decide +kernel
set_option maxRecDepth 65536 in
theorem w_runnable : about1.curStatus? = some .runnable := by decide +kernel
set_option maxRecDepth 65536 in
theorem w_alone : about1.alone = true := by decide +kernel
set_option maxRecDepth 65536 in
theorem w_named : about1.methodNamed? x = some theMethod := by decide +kernel
set_option maxRecDepth 65536 in
theorem w_hears : about1.hears theMethod below0 = true := by decide +kernel
set_option maxRecDepth 65536 in
theorem w_ripe : about1.ripe theMethod args0 below0 = true := by decide +kernel
theorem w_running : about1.status = .running := rfl
set_option maxRecDepth 65536 in
theorem w_room : about1.hasRoom e0.platform room_1 = true :=
  launch0.hasRoom_least _ room_1 (by decide +kernel) (by decide +kernel) (by decide +kernel) (by decide +kernel) (by decide +kernel) (by decide +kernel)
theorem allAtoms_all (ts : List Jvm.Cond) (a : Array Jvm.Value) (st : Jvm.State) : (allAtoms ts).before a st = ts.all (fun c => c.before a st) := by
  induction ts with
  | nil => rfl
  | cons c t ih =>
    show (Jvm.Cond.and c (allAtoms t)).before a st = _
    rw [Jvm.Cond.before_and, ih, List.all_cons]
def words1 : List Jvm.Cond := Jvm.Cond.code x code maxLocals ret :: tables_1
/-- a 'code' word, met by the world's own term for the bytes: nothing is compared byte by byte -/
theorem code_word {y : MethodName} {bytes : ByteArray} {mx : Nat} {rt : Option FieldType} {a : Array Value} {s : State} {m : MethodId} {meth : Method} {c : Code} (h1 : s.methodNamed? y = some m) (h2 : s.vm.method? m = some meth) (h3 : meth.code = some c) (h4 : c.code = bytes)
    (h5 : (c.maxLocals == mx && c.exceptionTable.isEmpty && decide (c.maxStack ≤ mostOperands) && decide (meth.sig.returnType = rt) && !meth.locks && decide (parseMethodDescriptor y.desc = some meth.sig)) = true) : (Jvm.Cond.code y bytes mx rt).before a s = true := by
  simp only [Bool.and_eq_true, beq_iff_eq, Bool.not_eq_true', decide_eq_true_eq] at h5
  obtain ⟨⟨⟨⟨⟨g1, g2⟩, g3⟩, g4⟩, g5⟩, g6⟩ := h5
  simp [Cond.before, Cond.holds, Cond.value, h1, h2, h3, h4, g1, g2, g3, g4, g5, g6]
def isCode : Jvm.Cond → Bool
  | .code _ _ _ _ => true
  | _ => false
theorem all_split {L : List Jvm.Cond} {P : Jvm.Cond → Bool} (h1 : L.all (fun c => isCode c || P c) = true) (h2 : ∀ c ∈ L.filter isCode, P c = true) : L.all P = true := by
  refine List.all_eq_true.mpr fun c hc => ?_
  have h := List.all_eq_true.mp h1 c hc
  rcases Bool.eq_false_or_eq_true (isCode c) with hi | hi
  · exact h2 c (List.mem_filter.mpr ⟨hc, hi⟩)
  · simpa [hi] using h
set_option maxRecDepth 65536 in
theorem w_c0 : (Jvm.Cond.code x code maxLocals ret).before args0 about1 = true := code_word (m := ⟨1, 1⟩) (meth := k1m1) (c := k1c1) (by decide +kernel) rfl rfl rfl (by decide +kernel)
set_option maxRecDepth 65536 in
theorem w_c1 : (Jvm.Cond.code ({ cls := "java/util/ArrayList", name := "<init>", desc := "()V" } : Jvm.MethodName) jdk_38_method_2_code (1 : Nat) (Option.none : Option Jvm.ClassFile.FieldType)).before args0 about1 = true := code_word (m := ⟨11, 0⟩) (meth := k11m0) (c := k11c0) (by decide +kernel) rfl rfl rfl (by decide +kernel)
set_option maxRecDepth 65536 in
theorem w_c2 : (Jvm.Cond.code ({ cls := "java/util/AbstractList", name := "<init>", desc := "()V" } : Jvm.MethodName) jdk_39_method_1_code (1 : Nat) (Option.none : Option Jvm.ClassFile.FieldType)).before args0 about1 = true := code_word (m := ⟨7, 0⟩) (meth := k7m0) (c := k7c0) (by decide +kernel) rfl rfl rfl (by decide +kernel)
set_option maxRecDepth 65536 in
theorem w_c3 : (Jvm.Cond.code ({ cls := "java/util/AbstractCollection", name := "<init>", desc := "()V" } : Jvm.MethodName) jdk_22_method_1_code (1 : Nat) (Option.none : Option Jvm.ClassFile.FieldType)).before args0 about1 = true := code_word (m := ⟨4, 0⟩) (meth := k4m0) (c := k4c0) (by decide +kernel) rfl rfl rfl (by decide +kernel)
set_option maxRecDepth 65536 in
theorem w_c4 : (Jvm.Cond.code ({ cls := "java/lang/Object", name := "<init>", desc := "()V" } : Jvm.MethodName) object_method_1_code (1 : Nat) (Option.none : Option Jvm.ClassFile.FieldType)).before args0 about1 = true := code_word (m := ⟨0, 0⟩) (meth := k0m0) (c := k0c0) (by decide +kernel) rfl rfl rfl (by decide +kernel)
set_option maxRecDepth 65536 in
theorem w_c5 : (Jvm.Cond.code ({ cls := "com/example/gleipnir/gleipnir/service/Counterplay$Position", name := "<init>", desc := "(Ljava/util/List;Ljava/util/List;)V" } : Jvm.MethodName) prog_57_method_1_code (3 : Nat) (Option.none : Option Jvm.ClassFile.FieldType)).before args0 about1 = true := code_word (m := ⟨13, 0⟩) (meth := k13m0) (c := k13c0) (by decide +kernel) rfl rfl rfl (by decide +kernel)
set_option maxRecDepth 65536 in
theorem w_c6 : (Jvm.Cond.code ({ cls := "java/lang/Record", name := "<init>", desc := "()V" } : Jvm.MethodName) jdk_30_method_1_code (1 : Nat) (Option.none : Option Jvm.ClassFile.FieldType)).before args0 about1 = true := code_word (m := ⟨12, 0⟩) (meth := k12m0) (c := k12c0) (by decide +kernel) rfl rfl rfl (by decide +kernel)
set_option maxRecDepth 65536 in
theorem w_c7 : (Jvm.Cond.code ({ cls := "java/util/List", name := "copyOf", desc := "(Ljava/util/Collection;)Ljava/util/List;" } : Jvm.MethodName) jdk_40_method_48_code (1 : Nat) (Option.some (Jvm.ClassFile.FieldType.object "java/util/List"))).before args0 about1 = true := code_word (m := ⟨6, 3⟩) (meth := k6m3) (c := k6c3) (by decide +kernel) rfl rfl rfl (by decide +kernel)
set_option maxRecDepth 65536 in
theorem w_c8 : (Jvm.Cond.code ({ cls := "java/util/ImmutableCollections", name := "listCopy", desc := "(Ljava/util/Collection;)Ljava/util/List;" } : Jvm.MethodName) jdk_56_method_3_code (2 : Nat) (Option.some (Jvm.ClassFile.FieldType.object "java/util/List"))).before args0 about1 = true := code_word (m := ⟨14, 1⟩) (meth := k14m1) (c := k14c1) (by decide +kernel) rfl rfl rfl (by decide +kernel)
set_option maxRecDepth 65536 in
theorem w_c9 : (Jvm.Cond.code ({ cls := "java/util/ArrayList", name := "isEmpty", desc := "()Z" } : Jvm.MethodName) jdk_38_method_9_code (1 : Nat) (Option.some Jvm.ClassFile.FieldType.boolean)).before args0 about1 = true := code_word (m := ⟨11, 3⟩) (meth := k11m3) (c := k11c3) (by decide +kernel) rfl rfl rfl (by decide +kernel)
set_option maxRecDepth 65536 in
theorem w_c10 : (Jvm.Cond.code ({ cls := "java/util/List", name := "of", desc := "()Ljava/util/List;" } : Jvm.MethodName) jdk_40_method_36_code (0 : Nat) (Option.some (Jvm.ClassFile.FieldType.object "java/util/List"))).before args0 about1 = true := code_word (m := ⟨6, 1⟩) (meth := k6m1) (c := k6c1) (by decide +kernel) rfl rfl rfl (by decide +kernel)
set_option maxRecDepth 65536 in
theorem w_c11 : (Jvm.Cond.code ({ cls := "com/example/gleipnir/gleipnir/service/CounterplayFinitePinLaw", name := "fill", desc := "(Ljava/util/ArrayList;Lcom/example/gleipnir/gleipnir/service/Counterplay$Position;I)V" } : Jvm.MethodName) method_3_code (3 : Nat) (Option.none : Option Jvm.ClassFile.FieldType)).before args0 about1 = true := code_word (m := ⟨1, 2⟩) (meth := k1m2) (c := k1c2) (by decide +kernel) rfl rfl rfl (by decide +kernel)
set_option maxRecDepth 65536 in
theorem w_c12 : (Jvm.Cond.code ({ cls := "java/util/ArrayList", name := "add", desc := "(Ljava/lang/Object;)Z" } : Jvm.MethodName) jdk_38_method_25_code (2 : Nat) (Option.some Jvm.ClassFile.FieldType.boolean)).before args0 about1 = true := code_word (m := ⟨11, 6⟩) (meth := k11m6) (c := k11c6) (by decide +kernel) rfl rfl rfl (by decide +kernel)
set_option maxRecDepth 65536 in
theorem w_c13 : (Jvm.Cond.code ({ cls := "java/util/ArrayList", name := "add", desc := "(Ljava/lang/Object;[Ljava/lang/Object;I)V" } : Jvm.MethodName) jdk_38_method_24_code (4 : Nat) (Option.none : Option Jvm.ClassFile.FieldType)).before args0 about1 = true := code_word (m := ⟨11, 5⟩) (meth := k11m5) (c := k11c5) (by decide +kernel) rfl rfl rfl (by decide +kernel)
set_option maxRecDepth 65536 in
theorem w_c14 : (Jvm.Cond.code ({ cls := "java/util/ArrayList", name := "grow", desc := "()[Ljava/lang/Object;" } : Jvm.MethodName) jdk_38_method_7_code (1 : Nat) (Option.some (Jvm.ClassFile.FieldType.array (Jvm.ClassFile.FieldType.object "java/lang/Object")))).before args0 about1 = true := code_word (m := ⟨11, 2⟩) (meth := k11m2) (c := k11c2) (by decide +kernel) rfl rfl rfl (by decide +kernel)
set_option maxRecDepth 65536 in
theorem w_c15 : (Jvm.Cond.code ({ cls := "java/util/ArrayList", name := "grow", desc := "(I)[Ljava/lang/Object;" } : Jvm.MethodName) jdk_38_method_6_code (4 : Nat) (Option.some (Jvm.ClassFile.FieldType.array (Jvm.ClassFile.FieldType.object "java/lang/Object")))).before args0 about1 = true := code_word (m := ⟨11, 1⟩) (meth := k11m1) (c := k11c1) (by decide +kernel) rfl rfl rfl (by decide +kernel)
set_option maxRecDepth 65536 in
theorem w_c16 : (Jvm.Cond.code ({ cls := "java/lang/Math", name := "max", desc := "(II)I" } : Jvm.MethodName) jdk_29_method_65_code (2 : Nat) (Option.some Jvm.ClassFile.FieldType.int)).before args0 about1 = true := code_word (m := ⟨19, 1⟩) (meth := k19m1) (c := k19c1) (by decide +kernel) rfl rfl rfl (by decide +kernel)
set_option maxRecDepth 65536 in
theorem w_c17 : (Jvm.Cond.code ({ cls := "com/example/gleipnir/gleipnir/service/Counterplay", name := "<init>", desc := "(Ljava/util/List;II)V" } : Jvm.MethodName) prog_56_method_1_code (4 : Nat) (Option.none : Option Jvm.ClassFile.FieldType)).before args0 about1 = true := code_word (m := ⟨20, 0⟩) (meth := k20m0) (c := k20c0) (by decide +kernel) rfl rfl rfl (by decide +kernel)
set_option maxRecDepth 65536 in
theorem w_c18 : (Jvm.Cond.code ({ cls := "java/util/ArrayList", name := "toArray", desc := "()[Ljava/lang/Object;" } : Jvm.MethodName) jdk_38_method_16_code (1 : Nat) (Option.some (Jvm.ClassFile.FieldType.array (Jvm.ClassFile.FieldType.object "java/lang/Object")))).before args0 about1 = true := code_word (m := ⟨11, 4⟩) (meth := k11m4) (c := k11c4) (by decide +kernel) rfl rfl rfl (by decide +kernel)
set_option maxRecDepth 65536 in
theorem w_c19 : (Jvm.Cond.code ({ cls := "java/util/Arrays", name := "copyOf", desc := "([Ljava/lang/Object;I)[Ljava/lang/Object;" } : Jvm.MethodName) jdk_65_method_119_code (2 : Nat) (Option.some (Jvm.ClassFile.FieldType.array (Jvm.ClassFile.FieldType.object "java/lang/Object")))).before args0 about1 = true := code_word (m := ⟨21, 1⟩) (meth := k21m1) (c := k21c1) (by decide +kernel) rfl rfl rfl (by decide +kernel)
set_option maxRecDepth 65536 in
theorem w_c20 : (Jvm.Cond.code ({ cls := "java/util/Arrays", name := "copyOf", desc := "([Ljava/lang/Object;ILjava/lang/Class;)[Ljava/lang/Object;" } : Jvm.MethodName) jdk_65_method_120_code (4 : Nat) (Option.some (Jvm.ClassFile.FieldType.array (Jvm.ClassFile.FieldType.object "java/lang/Object")))).before args0 about1 = true := code_word (m := ⟨21, 2⟩) (meth := k21m2) (c := k21c2) (by decide +kernel) rfl rfl rfl (by decide +kernel)
set_option maxRecDepth 65536 in
theorem w_c21 : (Jvm.Cond.code ({ cls := "java/lang/Math", name := "min", desc := "(II)I" } : Jvm.MethodName) jdk_29_method_69_code (2 : Nat) (Option.some Jvm.ClassFile.FieldType.int)).before args0 about1 = true := code_word (m := ⟨19, 2⟩) (meth := k19m2) (c := k19c2) (by decide +kernel) rfl rfl rfl (by decide +kernel)
set_option maxRecDepth 65536 in
theorem w_c22 : (Jvm.Cond.code ({ cls := "java/util/List", name := "of", desc := "([Ljava/lang/Object;)Ljava/util/List;" } : Jvm.MethodName) jdk_40_method_47_code (2 : Nat) (Option.some (Jvm.ClassFile.FieldType.object "java/util/List"))).before args0 about1 = true := code_word (m := ⟨6, 2⟩) (meth := k6m2) (c := k6c2) (by decide +kernel) rfl rfl rfl (by decide +kernel)
set_option maxRecDepth 65536 in
theorem w_c23 : (Jvm.Cond.code ({ cls := "java/util/ImmutableCollections", name := "listFromArray", desc := "([Ljava/lang/Object;)Ljava/util/List;" } : Jvm.MethodName) jdk_56_method_4_code (3 : Nat) (Option.some (Jvm.ClassFile.FieldType.object "java/util/List"))).before args0 about1 = true := code_word (m := ⟨14, 2⟩) (meth := k14m2) (c := k14c2) (by decide +kernel) rfl rfl rfl (by decide +kernel)
set_option maxRecDepth 65536 in
theorem w_c24 : (Jvm.Cond.code ({ cls := "java/util/Objects", name := "requireNonNull", desc := "(Ljava/lang/Object;)Ljava/lang/Object;" } : Jvm.MethodName) jdk_31_method_10_code (1 : Nat) (Option.some (Jvm.ClassFile.FieldType.object "java/lang/Object"))).before args0 about1 = true := code_word (m := ⟨23, 1⟩) (meth := k23m1) (c := k23c1) (by decide +kernel) rfl rfl rfl (by decide +kernel)
set_option maxRecDepth 65536 in
theorem w_c25 : (Jvm.Cond.code ({ cls := "java/util/ImmutableCollections$ListN", name := "<init>", desc := "([Ljava/lang/Object;Z)V" } : Jvm.MethodName) jdk_45_method_1_code (3 : Nat) (Option.none : Option Jvm.ClassFile.FieldType)).before args0 about1 = true := code_word (m := ⟨18, 0⟩) (meth := k18m0) (c := k18c0) (by decide +kernel) rfl rfl rfl (by decide +kernel)
set_option maxRecDepth 65536 in
theorem w_c26 : (Jvm.Cond.code ({ cls := "java/util/ImmutableCollections$AbstractImmutableList", name := "<init>", desc := "()V" } : Jvm.MethodName) jdk_46_method_1_code (1 : Nat) (Option.none : Option Jvm.ClassFile.FieldType)).before args0 about1 = true := code_word (m := ⟨16, 0⟩) (meth := k16m0) (c := k16c0) (by decide +kernel) rfl rfl rfl (by decide +kernel)
set_option maxRecDepth 65536 in
theorem w_c27 : (Jvm.Cond.code ({ cls := "java/util/ImmutableCollections$AbstractImmutableCollection", name := "<init>", desc := "()V" } : Jvm.MethodName) jdk_47_method_1_code (1 : Nat) (Option.none : Option Jvm.ClassFile.FieldType)).before args0 about1 = true := code_word (m := ⟨15, 0⟩) (meth := k15m0) (c := k15c0) (by decide +kernel) rfl rfl rfl (by decide +kernel)
set_option maxRecDepth 65536 in
theorem w_c28 : (Jvm.Cond.code ({ cls := "com/example/gleipnir/gleipnir/service/Counterplay", name := "finite", desc := "()Z" } : Jvm.MethodName) prog_56_method_3_code (1 : Nat) (Option.some Jvm.ClassFile.FieldType.boolean)).before args0 about1 = true := code_word (m := ⟨20, 1⟩) (meth := k20m1) (c := k20c1) (by decide +kernel) rfl rfl rfl (by decide +kernel)
set_option maxRecDepth 65536 in
theorem w_c29 : (Jvm.Cond.code ({ cls := "com/example/gleipnir/gleipnir/service/Counterplay", name := "length", desc := "()I" } : Jvm.MethodName) prog_56_method_4_code (1 : Nat) (Option.some Jvm.ClassFile.FieldType.int)).before args0 about1 = true := code_word (m := ⟨20, 2⟩) (meth := k20m2) (c := k20c2) (by decide +kernel) rfl rfl rfl (by decide +kernel)
set_option maxRecDepth 65536 in
theorem w_c30 : (Jvm.Cond.code ({ cls := "java/util/ImmutableCollections$ListN", name := "size", desc := "()I" } : Jvm.MethodName) jdk_45_method_3_code (1 : Nat) (Option.some Jvm.ClassFile.FieldType.int)).before args0 about1 = true := code_word (m := ⟨18, 1⟩) (meth := k18m1) (c := k18c1) (by decide +kernel) rfl rfl rfl (by decide +kernel)
set_option maxRecDepth 65536 in
theorem w_c31 : (Jvm.Cond.code ({ cls := "com/example/gleipnir/gleipnir/service/Counterplay", name := "successor", desc := "(I)I" } : Jvm.MethodName) prog_56_method_6_code (3 : Nat) (Option.some Jvm.ClassFile.FieldType.int)).before args0 about1 = true := code_word (m := ⟨20, 4⟩) (meth := k20m4) (c := k20c4) (by decide +kernel) rfl rfl rfl (by decide +kernel)
set_option maxRecDepth 65536 in
theorem w_c32 : (Jvm.Cond.code ({ cls := "com/example/gleipnir/gleipnir/service/Counterplay", name := "loopStart", desc := "()I" } : Jvm.MethodName) prog_56_method_5_code (1 : Nat) (Option.some Jvm.ClassFile.FieldType.int)).before args0 about1 = true := code_word (m := ⟨20, 3⟩) (meth := k20m3) (c := k20c3) (by decide +kernel) rfl rfl rfl (by decide +kernel)
set_option maxRecDepth 65536 in
theorem w_c33 : (Jvm.Cond.code ({ cls := "java/util/ImmutableCollections$List12", name := "<init>", desc := "(Ljava/lang/Object;)V" } : Jvm.MethodName) jdk_44_method_1_code (2 : Nat) (Option.none : Option Jvm.ClassFile.FieldType)).before args0 about1 = true := code_word (m := ⟨17, 0⟩) (meth := k17m0) (c := k17c0) (by decide +kernel) rfl rfl rfl (by decide +kernel)
set_option maxRecDepth 65536 in
theorem w_c34 : (Jvm.Cond.code ({ cls := "java/util/ImmutableCollections$List12", name := "size", desc := "()I" } : Jvm.MethodName) jdk_44_method_3_code (1 : Nat) (Option.some Jvm.ClassFile.FieldType.int)).before args0 about1 = true := code_word (m := ⟨17, 2⟩) (meth := k17m2) (c := k17c2) (by decide +kernel) rfl rfl rfl (by decide +kernel)
set_option maxRecDepth 65536 in
theorem w_c35 : (Jvm.Cond.code ({ cls := "java/util/ImmutableCollections$List12", name := "<init>", desc := "(Ljava/lang/Object;Ljava/lang/Object;)V" } : Jvm.MethodName) jdk_44_method_2_code (3 : Nat) (Option.none : Option Jvm.ClassFile.FieldType)).before args0 about1 = true := code_word (m := ⟨17, 1⟩) (meth := k17m1) (c := k17c1) (by decide +kernel) rfl rfl rfl (by decide +kernel)
def codes1 : List Jvm.Cond := [Jvm.Cond.code x code maxLocals ret, Jvm.Cond.code ({ cls := "java/util/ArrayList", name := "<init>", desc := "()V" } : Jvm.MethodName) jdk_38_method_2_code (1 : Nat) (Option.none : Option Jvm.ClassFile.FieldType), Jvm.Cond.code ({ cls := "java/util/AbstractList", name := "<init>", desc := "()V" } : Jvm.MethodName) jdk_39_method_1_code (1 : Nat) (Option.none : Option Jvm.ClassFile.FieldType), Jvm.Cond.code ({ cls := "java/util/AbstractCollection", name := "<init>", desc := "()V" } : Jvm.MethodName) jdk_22_method_1_code (1 : Nat) (Option.none : Option Jvm.ClassFile.FieldType), Jvm.Cond.code ({ cls := "java/lang/Object", name := "<init>", desc := "()V" } : Jvm.MethodName) object_method_1_code (1 : Nat) (Option.none : Option Jvm.ClassFile.FieldType), Jvm.Cond.code ({ cls := "com/example/gleipnir/gleipnir/service/Counterplay$Position", name := "<init>", desc := "(Ljava/util/List;Ljava/util/List;)V" } : Jvm.MethodName) prog_57_method_1_code (3 : Nat) (Option.none : Option Jvm.ClassFile.FieldType), Jvm.Cond.code ({ cls := "java/lang/Record", name := "<init>", desc := "()V" } : Jvm.MethodName) jdk_30_method_1_code (1 : Nat) (Option.none : Option Jvm.ClassFile.FieldType), Jvm.Cond.code ({ cls := "java/util/List", name := "copyOf", desc := "(Ljava/util/Collection;)Ljava/util/List;" } : Jvm.MethodName) jdk_40_method_48_code (1 : Nat) (Option.some (Jvm.ClassFile.FieldType.object "java/util/List")), Jvm.Cond.code ({ cls := "java/util/ImmutableCollections", name := "listCopy", desc := "(Ljava/util/Collection;)Ljava/util/List;" } : Jvm.MethodName) jdk_56_method_3_code (2 : Nat) (Option.some (Jvm.ClassFile.FieldType.object "java/util/List")), Jvm.Cond.code ({ cls := "java/util/ArrayList", name := "isEmpty", desc := "()Z" } : Jvm.MethodName) jdk_38_method_9_code (1 : Nat) (Option.some Jvm.ClassFile.FieldType.boolean), Jvm.Cond.code ({ cls := "java/util/List", name := "of", desc := "()Ljava/util/List;" } : Jvm.MethodName) jdk_40_method_36_code (0 : Nat) (Option.some (Jvm.ClassFile.FieldType.object "java/util/List")), Jvm.Cond.code ({ cls := "com/example/gleipnir/gleipnir/service/CounterplayFinitePinLaw", name := "fill", desc := "(Ljava/util/ArrayList;Lcom/example/gleipnir/gleipnir/service/Counterplay$Position;I)V" } : Jvm.MethodName) method_3_code (3 : Nat) (Option.none : Option Jvm.ClassFile.FieldType), Jvm.Cond.code ({ cls := "java/util/ArrayList", name := "add", desc := "(Ljava/lang/Object;)Z" } : Jvm.MethodName) jdk_38_method_25_code (2 : Nat) (Option.some Jvm.ClassFile.FieldType.boolean), Jvm.Cond.code ({ cls := "java/util/ArrayList", name := "add", desc := "(Ljava/lang/Object;[Ljava/lang/Object;I)V" } : Jvm.MethodName) jdk_38_method_24_code (4 : Nat) (Option.none : Option Jvm.ClassFile.FieldType), Jvm.Cond.code ({ cls := "java/util/ArrayList", name := "grow", desc := "()[Ljava/lang/Object;" } : Jvm.MethodName) jdk_38_method_7_code (1 : Nat) (Option.some (Jvm.ClassFile.FieldType.array (Jvm.ClassFile.FieldType.object "java/lang/Object"))), Jvm.Cond.code ({ cls := "java/util/ArrayList", name := "grow", desc := "(I)[Ljava/lang/Object;" } : Jvm.MethodName) jdk_38_method_6_code (4 : Nat) (Option.some (Jvm.ClassFile.FieldType.array (Jvm.ClassFile.FieldType.object "java/lang/Object"))), Jvm.Cond.code ({ cls := "java/lang/Math", name := "max", desc := "(II)I" } : Jvm.MethodName) jdk_29_method_65_code (2 : Nat) (Option.some Jvm.ClassFile.FieldType.int), Jvm.Cond.code ({ cls := "com/example/gleipnir/gleipnir/service/Counterplay", name := "<init>", desc := "(Ljava/util/List;II)V" } : Jvm.MethodName) prog_56_method_1_code (4 : Nat) (Option.none : Option Jvm.ClassFile.FieldType), Jvm.Cond.code ({ cls := "java/util/ArrayList", name := "toArray", desc := "()[Ljava/lang/Object;" } : Jvm.MethodName) jdk_38_method_16_code (1 : Nat) (Option.some (Jvm.ClassFile.FieldType.array (Jvm.ClassFile.FieldType.object "java/lang/Object"))), Jvm.Cond.code ({ cls := "java/util/Arrays", name := "copyOf", desc := "([Ljava/lang/Object;I)[Ljava/lang/Object;" } : Jvm.MethodName) jdk_65_method_119_code (2 : Nat) (Option.some (Jvm.ClassFile.FieldType.array (Jvm.ClassFile.FieldType.object "java/lang/Object"))), Jvm.Cond.code ({ cls := "java/util/Arrays", name := "copyOf", desc := "([Ljava/lang/Object;ILjava/lang/Class;)[Ljava/lang/Object;" } : Jvm.MethodName) jdk_65_method_120_code (4 : Nat) (Option.some (Jvm.ClassFile.FieldType.array (Jvm.ClassFile.FieldType.object "java/lang/Object"))), Jvm.Cond.code ({ cls := "java/lang/Math", name := "min", desc := "(II)I" } : Jvm.MethodName) jdk_29_method_69_code (2 : Nat) (Option.some Jvm.ClassFile.FieldType.int), Jvm.Cond.code ({ cls := "java/util/List", name := "of", desc := "([Ljava/lang/Object;)Ljava/util/List;" } : Jvm.MethodName) jdk_40_method_47_code (2 : Nat) (Option.some (Jvm.ClassFile.FieldType.object "java/util/List")), Jvm.Cond.code ({ cls := "java/util/ImmutableCollections", name := "listFromArray", desc := "([Ljava/lang/Object;)Ljava/util/List;" } : Jvm.MethodName) jdk_56_method_4_code (3 : Nat) (Option.some (Jvm.ClassFile.FieldType.object "java/util/List")), Jvm.Cond.code ({ cls := "java/util/Objects", name := "requireNonNull", desc := "(Ljava/lang/Object;)Ljava/lang/Object;" } : Jvm.MethodName) jdk_31_method_10_code (1 : Nat) (Option.some (Jvm.ClassFile.FieldType.object "java/lang/Object")), Jvm.Cond.code ({ cls := "java/util/ImmutableCollections$ListN", name := "<init>", desc := "([Ljava/lang/Object;Z)V" } : Jvm.MethodName) jdk_45_method_1_code (3 : Nat) (Option.none : Option Jvm.ClassFile.FieldType), Jvm.Cond.code ({ cls := "java/util/ImmutableCollections$AbstractImmutableList", name := "<init>", desc := "()V" } : Jvm.MethodName) jdk_46_method_1_code (1 : Nat) (Option.none : Option Jvm.ClassFile.FieldType), Jvm.Cond.code ({ cls := "java/util/ImmutableCollections$AbstractImmutableCollection", name := "<init>", desc := "()V" } : Jvm.MethodName) jdk_47_method_1_code (1 : Nat) (Option.none : Option Jvm.ClassFile.FieldType), Jvm.Cond.code ({ cls := "com/example/gleipnir/gleipnir/service/Counterplay", name := "finite", desc := "()Z" } : Jvm.MethodName) prog_56_method_3_code (1 : Nat) (Option.some Jvm.ClassFile.FieldType.boolean), Jvm.Cond.code ({ cls := "com/example/gleipnir/gleipnir/service/Counterplay", name := "length", desc := "()I" } : Jvm.MethodName) prog_56_method_4_code (1 : Nat) (Option.some Jvm.ClassFile.FieldType.int), Jvm.Cond.code ({ cls := "java/util/ImmutableCollections$ListN", name := "size", desc := "()I" } : Jvm.MethodName) jdk_45_method_3_code (1 : Nat) (Option.some Jvm.ClassFile.FieldType.int), Jvm.Cond.code ({ cls := "com/example/gleipnir/gleipnir/service/Counterplay", name := "successor", desc := "(I)I" } : Jvm.MethodName) prog_56_method_6_code (3 : Nat) (Option.some Jvm.ClassFile.FieldType.int), Jvm.Cond.code ({ cls := "com/example/gleipnir/gleipnir/service/Counterplay", name := "loopStart", desc := "()I" } : Jvm.MethodName) prog_56_method_5_code (1 : Nat) (Option.some Jvm.ClassFile.FieldType.int), Jvm.Cond.code ({ cls := "java/util/ImmutableCollections$List12", name := "<init>", desc := "(Ljava/lang/Object;)V" } : Jvm.MethodName) jdk_44_method_1_code (2 : Nat) (Option.none : Option Jvm.ClassFile.FieldType), Jvm.Cond.code ({ cls := "java/util/ImmutableCollections$List12", name := "size", desc := "()I" } : Jvm.MethodName) jdk_44_method_3_code (1 : Nat) (Option.some Jvm.ClassFile.FieldType.int), Jvm.Cond.code ({ cls := "java/util/ImmutableCollections$List12", name := "<init>", desc := "(Ljava/lang/Object;Ljava/lang/Object;)V" } : Jvm.MethodName) jdk_44_method_2_code (3 : Nat) (Option.none : Option Jvm.ClassFile.FieldType)]
set_option maxRecDepth 65536 in
theorem codes_eq : words1.filter isCode = codes1 := rfl
theorem w_codes : ∀ c ∈ words1.filter isCode, c.before args0 about1 = true := by
  rw [codes_eq]
  intro c hc
  simp only [codes1, List.mem_cons, List.not_mem_nil, or_false] at hc
  rcases hc with rfl | rfl | rfl | rfl | rfl | rfl | rfl | rfl | rfl | rfl | rfl | rfl | rfl | rfl | rfl | rfl | rfl | rfl | rfl | rfl | rfl | rfl | rfl | rfl | rfl | rfl | rfl | rfl | rfl | rfl | rfl | rfl | rfl | rfl | rfl | rfl
  · exact w_c0
  · exact w_c1
  · exact w_c2
  · exact w_c3
  · exact w_c4
  · exact w_c5
  · exact w_c6
  · exact w_c7
  · exact w_c8
  · exact w_c9
  · exact w_c10
  · exact w_c11
  · exact w_c12
  · exact w_c13
  · exact w_c14
  · exact w_c15
  · exact w_c16
  · exact w_c17
  · exact w_c18
  · exact w_c19
  · exact w_c20
  · exact w_c21
  · exact w_c22
  · exact w_c23
  · exact w_c24
  · exact w_c25
  · exact w_c26
  · exact w_c27
  · exact w_c28
  · exact w_c29
  · exact w_c30
  · exact w_c31
  · exact w_c32
  · exact w_c33
  · exact w_c34
  · exact w_c35
set_option maxRecDepth 65536 in
theorem w_t1 : (words1.take 24).all (fun c => isCode c || c.before args0 about1) = true := by decide +kernel
set_option maxRecDepth 65536 in
theorem w_t2 : ((words1.drop 24).take 24).all (fun c => isCode c || c.before args0 about1) = true := by decide +kernel
set_option maxRecDepth 65536 in
theorem w_t3 : (((words1.drop 24).drop 24).take 24).all (fun c => isCode c || c.before args0 about1) = true := by decide +kernel
set_option maxRecDepth 65536 in
theorem w_t4 : ((((words1.drop 24).drop 24).drop 24).take 24).all (fun c => isCode c || c.before args0 about1) = true := by decide +kernel
set_option maxRecDepth 65536 in
theorem w_t5 : (((((words1.drop 24).drop 24).drop 24).drop 24).take 24).all (fun c => isCode c || c.before args0 about1) = true := by decide +kernel
set_option maxRecDepth 65536 in
theorem w_t6 : ((((((words1.drop 24).drop 24).drop 24).drop 24).drop 24).take 24).all (fun c => isCode c || c.before args0 about1) = true := by decide +kernel
set_option maxRecDepth 65536 in
theorem w_t7 : (((((((words1.drop 24).drop 24).drop 24).drop 24).drop 24).drop 24).take 24).all (fun c => isCode c || c.before args0 about1) = true := by decide +kernel
set_option maxRecDepth 65536 in
theorem w_t8 : ((((((((words1.drop 24).drop 24).drop 24).drop 24).drop 24).drop 24).drop 24).take 24).all (fun c => isCode c || c.before args0 about1) = true := by decide +kernel
set_option maxRecDepth 65536 in
theorem w_t9 : (((((((((words1.drop 24).drop 24).drop 24).drop 24).drop 24).drop 24).drop 24).drop 24).take 24).all (fun c => isCode c || c.before args0 about1) = true := by decide +kernel
set_option maxRecDepth 65536 in
theorem w_t10 : ((((((((((words1.drop 24).drop 24).drop 24).drop 24).drop 24).drop 24).drop 24).drop 24).drop 24).take 24).all (fun c => isCode c || c.before args0 about1) = true := by decide +kernel
set_option maxRecDepth 65536 in
theorem w_t11 : ((((((((((words1.drop 24).drop 24).drop 24).drop 24).drop 24).drop 24).drop 24).drop 24).drop 24).drop 24).all (fun c => isCode c || c.before args0 about1) = true := by decide +kernel
theorem w_tables : (allAtoms (Jvm.Cond.code x code maxLocals ret :: tables_1)).before args0 about1 = true := by
  rw [allAtoms_all]
  show words1.all (fun c => c.before args0 about1) = true
  refine all_split ?_ w_codes
  rw [← List.take_append_drop 24 words1, List.all_append, w_t1, ← List.take_append_drop 24 (words1.drop 24), List.all_append, w_t2, ← List.take_append_drop 24 ((words1.drop 24).drop 24), List.all_append, w_t3, ← List.take_append_drop 24 (((words1.drop 24).drop 24).drop 24), List.all_append, w_t4, ← List.take_append_drop 24 ((((words1.drop 24).drop 24).drop 24).drop 24), List.all_append, w_t5, ← List.take_append_drop 24 (((((words1.drop 24).drop 24).drop 24).drop 24).drop 24), List.all_append, w_t6, ← List.take_append_drop 24 ((((((words1.drop 24).drop 24).drop 24).drop 24).drop 24).drop 24), List.all_append, w_t7, ← List.take_append_drop 24 (((((((words1.drop 24).drop 24).drop 24).drop 24).drop 24).drop 24).drop 24), List.all_append, w_t8, ← List.take_append_drop 24 ((((((((words1.drop 24).drop 24).drop 24).drop 24).drop 24).drop 24).drop 24).drop 24), List.all_append, w_t9, ← List.take_append_drop 24 (((((((((words1.drop 24).drop 24).drop 24).drop 24).drop 24).drop 24).drop 24).drop 24).drop 24), List.all_append, w_t10, w_t11]
  rfl
set_option maxRecDepth 65536 in
theorem w_rest : rest_1_c.before args0 about1 = true := by decide +kernel
set_option maxRecDepth 65536 in
theorem w_case : (Jvm.Cond.and given_1 narrow_1).before args0 about1 = true := by decide +kernel
theorem w_applies : (headSpec (Jvm.Cond.code x code maxLocals ret :: tables_1) room_1).applies x e0.platform about1 = true :=
  (Spec.applies_iff w_frames).mpr ⟨w_running, w_runnable, w_alone, w_named, w_hears, w_ripe, w_room, w_tables⟩
theorem atStart : AtStart classFile x code maxLocals ret World_1 tables_1 room_1 Calls_1 rest_1 Pre_1 launch0 p0 e0 about1 theMethod args0 below0 :=
  ⟨lists_1, trivial, launch0.admits_env _ _ _, launch0.least_env, fairChoices_fair.cas, fairChoices_fair.clock, w_frames, w_args, w_heap, w_applies, ⟨⟨29, k29, 2, by decide +kernel, rfl, rfl, _, rfl, rfl⟩, trivial⟩, w_rest, w_case⟩
end start1
theorem witness_1 : WitnessClaimed_1 := ⟨start1.p0, start1.e0, start1.about1, start1.theMethod, start1.args0, start1.below0, start1.atStart⟩
end Jvm.Pilot.@@N@@

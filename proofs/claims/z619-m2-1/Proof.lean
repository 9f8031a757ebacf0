import JvmDerived
import JvmDerived.Pilot.@@N@@Statement
import JvmDerived.Pilot.@@N@@Code
set_option linter.unusedVariables false
set_option linter.unusedSimpArgs false
namespace Jvm.RoadKit
open Sem ClassFile Op Lib Jvm.Stand Jvm.Free Jvm.LawKit
section New
variable {p : Program} {l : Launch} {e : Env} {R : Room} {s : State} {m : MethodId} {args : Array Value} {below : List Frame} {meth : Method} {c : Code} {T : State} {locs : List Loc} {cells slots : Nat}
theorem retI (X : Stand p l e R s m args below meth c T locs cells slots) (hx : p.tables.exec = Jvm.exec) {pc : Nat} {Ls : Array Slot} {z : Int32} {rest : List Value} (hret : meth.sig.returnType = some .int) (hd : decode c.code pc = .ok (.ireturn, 1)) {fs : List Frame}
    (hl : ∀ (f : JFrame) (acts : List Action), f.method = m → f.locked = none → f.entered = [] → (doReturn e (T.setTop f) acts (some (.int z))).1 = T.setFrames fs) : Steps p.tables e below (T.setTop (mkF m pc Ls (.int z :: rest))) (T.setFrames fs) := by
  have hm' : T.vm.method? m = some meth := X.method'
  have hn : narrow .int (.int z) = .int z := rfl
  show Steps p.tables e below (T.setTop { method := m, pc := pc, locals := Ls, stack := _ :: rest, locked := none }) _
  jvm_step X.here [X.here.top, hx, hd, hm', hret, hn]
  first | (intro acts; rw [hl _ acts rfl rfl rfl]) | rw [hl _ _ rfl rfl rfl]
  exact Steps.refl _
end New
end Jvm.RoadKit
namespace Jvm.Pilot.@@N@@
open Jvm Jvm.ClassFile Sem Op Lib Jvm.Free Jvm.Stand Jvm.LawKit Jvm.RoadKit Bundle Jvm.Pilot.@@N@@.Jvm.D
theorem own_sta_keep {Z : State} {h h' : Heap} {C n d : String} {v : Value} (F : Sta Z h C n d v) (K : Keep h h' []) : Sta Z h' C n d v := by
  obtain ⟨cf, i, k, f, st, cell, h1, h2, h3, h4, h5, r⟩ := F
  exact ⟨cf, i, k, f, st, cell, h1, h2, h3, h4, K.2.1 _ _ h5 nin0, r⟩
/-- whoever comes from B to t comes from A to t -/
abbrev own_R (p : Program) (e : Env) (below : List Frame) (A B : State) : Prop := ∀ t, Steps p.tables e below B t → Steps p.tables e below A t
def own_array (p0 : Int32) (p1 : Int32) : Int64 := ((((16 : Int64) + ((p0.toInt64) * (p1.toInt64))) + (7 : Int64)) &&& (-8 : Int64))
theorem d1_0 : decode prog_24_method_2_code 0 = .ok (.ldc2_w 9, 3) := by decide +kernel
theorem d1_3 : decode prog_24_method_2_code 3 = .ok (.iload_n 0, 1) := by decide +kernel
theorem d1_4 : decode prog_24_method_2_code 4 = .ok (.i2l, 1) := by decide +kernel
theorem d1_5 : decode prog_24_method_2_code 5 = .ok (.iload_n 1, 1) := by decide +kernel
theorem d1_6 : decode prog_24_method_2_code 6 = .ok (.i2l, 1) := by decide +kernel
theorem d1_7 : decode prog_24_method_2_code 7 = .ok (.lmul, 1) := by decide +kernel
theorem d1_8 : decode prog_24_method_2_code 8 = .ok (.ladd, 1) := by decide +kernel
theorem d1_9 : decode prog_24_method_2_code 9 = .ok (.ldc2_w 11, 3) := by decide +kernel
theorem d1_12 : decode prog_24_method_2_code 12 = .ok (.ladd, 1) := by decide +kernel
theorem d1_13 : decode prog_24_method_2_code 13 = .ok (.ldc2_w 13, 3) := by decide +kernel
theorem d1_16 : decode prog_24_method_2_code 16 = .ok (.land, 1) := by decide +kernel
theorem d1_17 : decode prog_24_method_2_code 17 = .ok (.lreturn, 1) := by decide +kernel
theorem pn_1 : plainName "com/example/thin_feed/thinfeed/store/HeapBytes" = true := by first | (simp [plainName, overriddenIn]; done) | decide +kernel
theorem ef_1 (m : MethodId) (x0 : Int32) (x1 : Int32) : entryFrame m #[(.int x0), (.int x1)] 2 = mkF m 0 #[.val (.int x0), .val (.int x1)] [] := by first | (simp [entryFrame, mkF, argsToLocals, Value.category]; done) | rfl
def Q1 (Z : State) (p0 : Int32) (p1 : Int32) (h0 : Heap) (n0 : Nat) (v : Option Value) (h : Heap) (L : List Loc) : Prop := v = some (.long (own_array p0 p1)) ∧ Fr n0 L ∧ h = h0
set_option maxRecDepth 65536 in
set_option maxHeartbeats 40000000 in
theorem rm1 (l : Launch) (Z : State) (a0 : Array Value) (hw : ∀ d ∈ tables_1, d.before a0 Z = true) (ws : List Jvm.Cond) (p0 : Int32) (p1 : Int32) (h0 : Heap) (n0 : Nat) (Z0 : n0 ≤ h0.size) :
    MetFree l (⟨"com/example/thin_feed/thinfeed/store/HeapBytes", "array", "(II)J"⟩ : MethodName) (head1 (Jvm.Cond.code (⟨"com/example/thin_feed/thinfeed/store/HeapBytes", "array", "(II)J"⟩ : MethodName) prog_24_method_2_code 2 (some .long) :: ws) ({ frames := 0, cells := 0, slots := 0, locals := 0 } : Room)) (fun a U => a = #[(.int p0), (.int p1)] ∧ Z.Warmed39 U.vm ∧ U.heap = h0) (fun _ _ _ _ _ => True) (fun _ U o U' => ∃ v L, o = .returned v ∧ Q1 Z p0 p1 h0 n0 v U'.heap L ∧ FrameEnd U o U' L ({ frames := 0, cells := 0, slots := 0, locals := 0 } : Room).cells ({ frames := 0, cells := 0, slots := 0, locals := 0 } : Room).slots) := by
  refine MetFree.of_bodySF (plainFor_of_name pn_1) hisR ?_
  intro p e s m args below meth c s₁ Bd hml0 hP hK
  obtain ⟨rfl, hZ, hh⟩ := hP
  have hx := Bd.exec
  have hby := Bd.bytes
  have hml : c.maxLocals = 2 := hml0
  have hown : s.vm.findClass "com/example/thin_feed/thinfeed/store/HeapBytes" = some m.cls := findClass_of_methodNamed Bd.named
  have hnm := (name_of_methodNamed Bd.named Bd.method).1
  have X0 : Stand p l e ({ frames := 0, cells := 0, slots := 0, locals := 0 } : Room) s m #[(.int p0), (.int p1)] below meth c s₁ [] 0 0 := Stand.of_body Bd
  have e0 : s₁.heap = h0 := by rw [← hh, Bd.state]; rfl
  have N0 := Fr.nil n0
  have k0 : own_R p e below (s₁.setTop (entryFrame m #[(.int p0), (.int p1)] 2)) (s₁.setTop (mkF m 0 #[.val (.int p0), .val (.int p1)] [])) := fun t k => castTop (ef_1 m p0 p1) k
  have ks1 : own_R p e below (s₁.setTop (entryFrame m #[(.int p0), (.int p1)] 2)) (s₁.setTop (mkF m 17 #[.val (.int p0), .val (.int p1)] [(.long ((((16 : Int64) + ((p0.toInt64) * (p1.toInt64))) + (7 : Int64)) &&& (-8 : Int64)))])) := fun t k => k0 t (by
    show Steps p.tables e below (s₁.setTop (mkF m 0 #[.val (.int p0), .val (.int p1)] [])) _
    refine X0.ldc2Long hx hown (mvT hZ (hw _ (List.mem_of_getElem? (i := 5) rfl))) (g := (mkF m 0 #[.val (.int p0), .val (.int p1)] [])) rfl (hb hby d1_0) _ ?_
    show Steps p.tables e below (s₁.setTop (mkF m 3 #[.val (.int p0), .val (.int p1)] [(.long (16 : Int64))])) _
    refine XS.iloadN X0.here hx rfl (hb hby d1_3) rfl ?_
    show Steps p.tables e below (s₁.setTop (mkF m 4 #[.val (.int p0), .val (.int p1)] [(.int p0), (.long (16 : Int64))])) _
    refine XS.i2l X0.here hx rfl (hb hby d1_4) rfl ?_
    show Steps p.tables e below (s₁.setTop (mkF m 5 #[.val (.int p0), .val (.int p1)] [(.long (p0.toInt64)), (.long (16 : Int64))])) _
    refine XS.iloadN X0.here hx rfl (hb hby d1_5) rfl ?_
    show Steps p.tables e below (s₁.setTop (mkF m 6 #[.val (.int p0), .val (.int p1)] [(.int p1), (.long (p0.toInt64)), (.long (16 : Int64))])) _
    refine XS.i2l X0.here hx rfl (hb hby d1_6) rfl ?_
    show Steps p.tables e below (s₁.setTop (mkF m 7 #[.val (.int p0), .val (.int p1)] [(.long (p1.toInt64)), (.long (p0.toInt64)), (.long (16 : Int64))])) _
    refine XS.lmul X0.here hx rfl (hb hby d1_7) rfl ?_
    show Steps p.tables e below (s₁.setTop (mkF m 8 #[.val (.int p0), .val (.int p1)] [(.long ((p0.toInt64) * (p1.toInt64))), (.long (16 : Int64))])) _
    refine XS.ladd X0.here hx rfl (hb hby d1_8) rfl ?_
    show Steps p.tables e below (s₁.setTop (mkF m 9 #[.val (.int p0), .val (.int p1)] [(.long ((16 : Int64) + ((p0.toInt64) * (p1.toInt64))))])) _
    refine X0.ldc2Long hx hown (mvT hZ (hw _ (List.mem_of_getElem? (i := 6) rfl))) (g := (mkF m 9 #[.val (.int p0), .val (.int p1)] [(.long ((16 : Int64) + ((p0.toInt64) * (p1.toInt64))))])) rfl (hb hby d1_9) _ ?_
    show Steps p.tables e below (s₁.setTop (mkF m 12 #[.val (.int p0), .val (.int p1)] [(.long (7 : Int64)), (.long ((16 : Int64) + ((p0.toInt64) * (p1.toInt64))))])) _
    refine XS.ladd X0.here hx rfl (hb hby d1_12) rfl ?_
    show Steps p.tables e below (s₁.setTop (mkF m 13 #[.val (.int p0), .val (.int p1)] [(.long (((16 : Int64) + ((p0.toInt64) * (p1.toInt64))) + (7 : Int64)))])) _
    refine X0.ldc2Long hx hown (mvT hZ (hw _ (List.mem_of_getElem? (i := 7) rfl))) (g := (mkF m 13 #[.val (.int p0), .val (.int p1)] [(.long (((16 : Int64) + ((p0.toInt64) * (p1.toInt64))) + (7 : Int64)))])) rfl (hb hby d1_13) _ ?_
    show Steps p.tables e below (s₁.setTop (mkF m 16 #[.val (.int p0), .val (.int p1)] [(.long (-8 : Int64)), (.long (((16 : Int64) + ((p0.toInt64) * (p1.toInt64))) + (7 : Int64)))])) _
    refine XS.land X0.here hx rfl (hb hby d1_16) rfl ?_
    exact k)
  obtain ⟨fs, hr, hrun, hended, hW, hsame⟩ := X0.leave (v := some (.long ((((16 : Int64) + ((p0.toInt64) * (p1.toInt64))) + (7 : Int64)) &&& (-8 : Int64)))) (fun h => by rw [Bd.returns] at h; cases h)
  refine ⟨_, _, ks1 _ ?_, hrun, hended, _, _, rfl, ?_, ⟨_, rfl⟩, hW, hsame.mono (by decide) (by decide)⟩
  · exact retOut X0 hx Bd.returns rfl (Or.inr (Or.inl ⟨rfl, rfl, _, rfl⟩)) (hb hby d1_17) hr
  · show Q1 Z p0 p1 h0 n0 _ s₁.heap _
    rw [e0]
    refine ⟨?_, N0, rfl⟩
    rw [own_array]

theorem own_and8 (x : Int64) : (x &&& (-8 : Int64)).toInt = x.toInt - x.toInt % 8 := by
  have h1 : (x &&& (7 : Int64)).toInt = x.toInt % 8 := c_maskL x 7 3 (by decide) (by decide)
  have h2 : (x &&& (-8 : Int64)) + (x &&& (7 : Int64)) = x := by
    apply Int64.toBitVec_inj.mp
    show (x.toBitVec &&& (-8 : Int64).toBitVec) + (x.toBitVec &&& (7 : Int64).toBitVec) = x.toBitVec
    have e1 : (-8 : Int64).toBitVec = ~~~ (7#64) := by decide
    have e2 : (7 : Int64).toBitVec = 7#64 := by decide
    rw [e1, e2, BitVec.add_eq_or_of_and_eq_zero]
    · apply BitVec.eq_of_getLsbD_eq; intro i hi
      simp only [BitVec.getLsbD_or, BitVec.getLsbD_and, BitVec.getLsbD_not, hi, decide_true, Bool.true_and]
      cases x.toBitVec.getLsbD i <;> cases (7#64).getLsbD i <;> rfl
    · apply BitVec.eq_of_getLsbD_eq; intro i hi
      simp only [BitVec.getLsbD_and, BitVec.getLsbD_not, hi, decide_true, Bool.true_and, BitVec.getLsbD_zero]
      cases x.toBitVec.getLsbD i <;> cases (7#64).getLsbD i <;> rfl
  have h3 := c_ladd (x &&& (-8 : Int64)) (x &&& (7 : Int64))
  rw [h2, h1] at h3
  have h4 := c_andSL x (-8)
  have r := rng64 x; have r2 := rng64 (x &&& (-8 : Int64))
  omega
theorem own_mul (a b : Int) (h1 : -2147483648 ≤ a) (h2 : a < 2147483648) (h3 : -2147483648 ≤ b) (h4 : b < 2147483648) : -4611686016279904256 ≤ a * b ∧ a * b ≤ 4611686018427387904 := by
  have := mc h1 (show a ≤ 2147483647 by omega) h3 (show b ≤ 2147483647 by omega)
  omega
theorem own_facts (p0 p1 : Int32) : (own_array p0 p1 &&& (7 : Int64)) = (0 : Int64) ∧ ¬ (own_array p0 p1 < ((16 : Int64) + (p0.toInt64 * p1.toInt64))) ∧ (own_array p0 p1 - ((16 : Int64) + (p0.toInt64 * p1.toInt64))) < (8 : Int64) := by
  unfold own_array
  have m1 := own_mul p0.toInt p1.toInt (rng32 p0).1 (rng32 p0).2 (rng32 p1).1 (rng32 p1).2
  have e1 := c_lmul p0.toInt64 p1.toInt64
  rw [c_i2l, c_i2l] at e1
  generalize hP : p0.toInt64 * p1.toInt64 = P at *
  generalize p0.toInt * p1.toInt = q at *
  have rP := rng64 P
  have e2 := c_ladd 16 P
  rw [show (16 : Int64).toInt = 16 from rfl] at e2
  generalize hR : (16 : Int64) + P = R at *
  have rR := rng64 R
  have e3 := c_ladd R 7
  rw [show (7 : Int64).toInt = 7 from rfl] at e3
  generalize hX : R + (7 : Int64) = X at *
  have rX := rng64 X
  have e4 := own_and8 X
  have e5 := c_lsub (X &&& (-8 : Int64)) R
  have r5 := rng64 ((X &&& (-8 : Int64)) - R)
  refine ⟨?_, ?_, ?_⟩
  · rw [Int64.and_assoc, show (-8 : Int64) &&& 7 = 0 from by decide]; simp
  · rw [Int64.lt_iff_toInt_lt]; omega
  · rw [Int64.lt_iff_toInt_lt, show (8 : Int64).toInt = 8 from rfl]; omega
theorem pn_0 : plainName "com/example/thin_feed/thinfeed/store/HeapBytesArrayPinLaw" = true := by first | (simp [plainName, overriddenIn]; done) | decide +kernel
theorem pd_0 : parseMethodDescriptor "(II)J" = some ⟨[.int, .int], some .long⟩ := by decide +kernel
theorem ef_0 (m : MethodId) (x0 : Int32) (x1 : Int32) : entryFrame m #[(.int x0), (.int x1)] maxLocals = mkF m 0 #[.val (.int x0), .val (.int x1), .unset, .unset, .unset, .unset, .unset, .unset, .unset] [] := by first | (simp [entryFrame, mkF, argsToLocals, Value.category, maxLocals]; done) | rfl
def Q0 (Z : State) (p0 : Int32) (p1 : Int32) (h0 : Heap) (n0 : Nat) (v : Option Value) (h : Heap) (L : List Loc) : Prop := v = some (.int (1 : Int32)) ∧ Fr n0 L
set_option maxRecDepth 65536 in
set_option maxHeartbeats 40000000 in
theorem rm0 (l : Launch) (Z : State) (a0 : Array Value) (hw : ∀ d ∈ tables_1, d.before a0 Z = true) (ws : List Jvm.Cond) (p0 : Int32) (p1 : Int32) (h0 : Heap) (n0 : Nat) (Z0 : n0 ≤ h0.size) :
    MetFree l x (head1 (Jvm.Cond.code x code maxLocals ret :: ws) room_1) (fun a U => a = #[(.int p0), (.int p1)] ∧ Z.Warmed39 U.vm ∧ U.heap = h0) (fun _ _ _ _ _ => True) (fun _ U o U' => ∃ v L, o = .returned v ∧ Q0 Z p0 p1 h0 n0 v U'.heap L ∧ FrameEnd U o U' L 0 0) := by
  refine MetFree.of_bodySF (plainFor_of_name pn_0) hisR ?_
  intro p e s m args below meth c s₁ Bd hml0 hP hK
  obtain ⟨rfl, hZ, hh⟩ := hP
  have hx := Bd.exec
  have hby := Bd.bytes
  have hml : c.maxLocals = 9 := hml0
  have hown : s.vm.findClass "com/example/thin_feed/thinfeed/store/HeapBytesArrayPinLaw" = some m.cls := findClass_of_methodNamed Bd.named
  have hnm := (name_of_methodNamed Bd.named Bd.method).1
  have X0 : Stand p l e room_1 s m #[(.int p0), (.int p1)] below meth c s₁ [] 0 0 := Stand.of_body Bd
  have e0 : s₁.heap = h0 := by rw [← hh, Bd.state]; rfl
  have N0 := Fr.nil n0
  have k0 : own_R p e below (s₁.setTop (entryFrame m #[(.int p0), (.int p1)] maxLocals)) (s₁.setTop (mkF m 0 #[.val (.int p0), .val (.int p1), .unset, .unset, .unset, .unset, .unset, .unset, .unset] [])) := fun t k => castTop (ef_0 m p0 p1) k
  have ks1 : own_R p e below (s₁.setTop (entryFrame m #[(.int p0), (.int p1)] maxLocals)) (s₁.setTop (mkF m 9 #[.val (.int p0), .val (.int p1), .unset, .unset, .unset, .unset, .unset, .unset, .unset] [(.long ((16 : Int64) + ((p0.toInt64) * (p1.toInt64))))])) := fun t k => k0 t (by
    show Steps p.tables e below (s₁.setTop (mkF m 0 #[.val (.int p0), .val (.int p1), .unset, .unset, .unset, .unset, .unset, .unset, .unset] [])) _
    refine X0.ldc2Long hx hown (mvT hZ (hw _ (List.mem_of_getElem? (i := 0) rfl))) (g := (mkF m 0 #[.val (.int p0), .val (.int p1), .unset, .unset, .unset, .unset, .unset, .unset, .unset] [])) rfl (hb hby at_0) _ ?_
    show Steps p.tables e below (s₁.setTop (mkF m 3 #[.val (.int p0), .val (.int p1), .unset, .unset, .unset, .unset, .unset, .unset, .unset] [(.long (16 : Int64))])) _
    refine XS.iloadN X0.here hx rfl (hb hby at_3) rfl ?_
    show Steps p.tables e below (s₁.setTop (mkF m 4 #[.val (.int p0), .val (.int p1), .unset, .unset, .unset, .unset, .unset, .unset, .unset] [(.int p0), (.long (16 : Int64))])) _
    refine XS.i2l X0.here hx rfl (hb hby at_4) rfl ?_
    show Steps p.tables e below (s₁.setTop (mkF m 5 #[.val (.int p0), .val (.int p1), .unset, .unset, .unset, .unset, .unset, .unset, .unset] [(.long (p0.toInt64)), (.long (16 : Int64))])) _
    refine XS.iloadN X0.here hx rfl (hb hby at_5) rfl ?_
    show Steps p.tables e below (s₁.setTop (mkF m 6 #[.val (.int p0), .val (.int p1), .unset, .unset, .unset, .unset, .unset, .unset, .unset] [(.int p1), (.long (p0.toInt64)), (.long (16 : Int64))])) _
    refine XS.i2l X0.here hx rfl (hb hby at_6) rfl ?_
    show Steps p.tables e below (s₁.setTop (mkF m 7 #[.val (.int p0), .val (.int p1), .unset, .unset, .unset, .unset, .unset, .unset, .unset] [(.long (p1.toInt64)), (.long (p0.toInt64)), (.long (16 : Int64))])) _
    refine XS.lmul X0.here hx rfl (hb hby at_7) rfl ?_
    show Steps p.tables e below (s₁.setTop (mkF m 8 #[.val (.int p0), .val (.int p1), .unset, .unset, .unset, .unset, .unset, .unset, .unset] [(.long ((p0.toInt64) * (p1.toInt64))), (.long (16 : Int64))])) _
    refine XS.ladd X0.here hx rfl (hb hby at_8) rfl ?_
    exact k)
  obtain ⟨v2, hv2⟩ : ∃ z : Int64, z = ((16 : Int64) + ((p0.toInt64) * (p1.toInt64))) := ⟨_, rfl⟩
  rw [← hv2] at ks1
  have ks3 : own_R p e below (s₁.setTop (entryFrame m #[(.int p0), (.int p1)] maxLocals)) (s₁.setTop (mkF m 12 #[.val (.int p0), .val (.int p1), .val (.long v2), .second, .unset, .unset, .unset, .unset, .unset] [(.int p1), (.int p0)])) := fun t k => ks1 t (by
    show Steps p.tables e below (s₁.setTop (mkF m 9 #[.val (.int p0), .val (.int p1), .unset, .unset, .unset, .unset, .unset, .unset, .unset] [(.long v2)])) _
    refine XS.lstoreN X0.here hx rfl (hb hby at_9) rfl (l' := #[.val (.int p0), .val (.int p1), .val (.long v2), .second, .unset, .unset, .unset, .unset, .unset]) rfl ?_
    show Steps p.tables e below (s₁.setTop (mkF m 10 #[.val (.int p0), .val (.int p1), .val (.long v2), .second, .unset, .unset, .unset, .unset, .unset] [])) _
    refine XS.iloadN X0.here hx rfl (hb hby at_10) rfl ?_
    show Steps p.tables e below (s₁.setTop (mkF m 11 #[.val (.int p0), .val (.int p1), .val (.long v2), .second, .unset, .unset, .unset, .unset, .unset] [(.int p0)])) _
    refine XS.iloadN X0.here hx rfl (hb hby at_11) rfl ?_
    exact k)
  obtain ⟨_, _, ⟨T4, L4, k4, n4⟩, -, X4, ⟨Lc4, hQ4, lq4, yq4, zq4⟩, st4⟩ := Jvm.LawKit.callS X0 hx (y := (⟨"com/example/thin_feed/thinfeed/store/HeapBytes", "array", "(II)J"⟩ : MethodName)) hown (mvT hZ (hw _ (List.mem_of_getElem? (i := 1) rfl))) (mvT hZ (hw _ (List.mem_of_getElem? (i := 2) rfl))) (mvT hZ (hw _ (List.mem_of_getElem? (i := 3) rfl))) (mvT hZ (hw _ (List.mem_of_getElem? (i := 4) rfl))) (by decide) (backOf (W := 0) (rm1 l Z a0 hw [] p0 p1 h0 n0 Z0 ) hZ (hw _ (List.mem_of_getElem? (i := 4) rfl)) (hw _ (List.mem_of_getElem? (i := 3) rfl)) (by decide) (by decide)) (g := (mkF m 12 #[.val (.int p0), .val (.int p1), .val (.long v2), .second, .unset, .unset, .unset, .unset, .unset] [(.int p1), (.int p0)])) rfl (by rw [hml]; rfl) (argsL := [(.int p0), (.int p1)]) (rest := []) (lenOf pd_0 rfl) rfl (by show 2 * 0 + _ ≤ _; exact Nat.le_of_eq rfl) (hb hby at_12) (fun _ _ => ⟨rfl, e0, (by decide : 0 + 0 ≤ _), (by decide : 0 + 0 ≤ _)⟩)
  dsimp only [Pt.U, Pt.locs, Pt.cells, Pt.slots] at X4 lq4 yq4 zq4 st4 hQ4
  subst lq4 yq4 zq4
  obtain ⟨rfl, Nq4, eq4⟩ := hQ4
  have N4 := Fr.app N0 Nq4
  have ks5 : own_R p e below (s₁.setTop (entryFrame m #[(.int p0), (.int p1)] maxLocals)) (T4.setTop (mkF m 15 #[.val (.int p0), .val (.int p1), .val (.long v2), .second, .unset, .unset, .unset, .unset, .unset] [(.long (own_array p0 p1))])) := fun t k => ks3 t (st4 t k)
  have ks8 : own_R p e below (s₁.setTop (entryFrame m #[(.int p0), (.int p1)] maxLocals)) (T4.setTop (mkF m 25 #[.val (.int p0), .val (.int p1), .val (.long v2), .second, .val (.long (own_array p0 p1)), .second, .unset, .unset, .unset] [(.int (lcmpW ((own_array p0 p1) &&& (7 : Int64)) (0 : Int64)))])) := fun t k => ks5 t (by
    show Steps p.tables e below (T4.setTop (mkF m 15 #[.val (.int p0), .val (.int p1), .val (.long v2), .second, .unset, .unset, .unset, .unset, .unset] [(.long (own_array p0 p1))])) _
    refine XS.lstore X4.here hx rfl (hb hby at_15) rfl (l' := #[.val (.int p0), .val (.int p1), .val (.long v2), .second, .val (.long (own_array p0 p1)), .second, .unset, .unset, .unset]) rfl ?_
    show Steps p.tables e below (T4.setTop (mkF m 17 #[.val (.int p0), .val (.int p1), .val (.long v2), .second, .val (.long (own_array p0 p1)), .second, .unset, .unset, .unset] [])) _
    refine XS.lload X4.here hx rfl (hb hby at_17) rfl ?_
    show Steps p.tables e below (T4.setTop (mkF m 19 #[.val (.int p0), .val (.int p1), .val (.long v2), .second, .val (.long (own_array p0 p1)), .second, .unset, .unset, .unset] [(.long (own_array p0 p1))])) _
    refine X4.ldc2Long hx hown (mvT hZ (hw _ (List.mem_of_getElem? (i := 8) rfl))) (g := (mkF m 19 #[.val (.int p0), .val (.int p1), .val (.long v2), .second, .val (.long (own_array p0 p1)), .second, .unset, .unset, .unset] [(.long (own_array p0 p1))])) rfl (hb hby at_19) _ ?_
    show Steps p.tables e below (T4.setTop (mkF m 22 #[.val (.int p0), .val (.int p1), .val (.long v2), .second, .val (.long (own_array p0 p1)), .second, .unset, .unset, .unset] [(.long (7 : Int64)), (.long (own_array p0 p1))])) _
    refine XS.land X4.here hx rfl (hb hby at_22) rfl ?_
    show Steps p.tables e below (T4.setTop (mkF m 23 #[.val (.int p0), .val (.int p1), .val (.long v2), .second, .val (.long (own_array p0 p1)), .second, .unset, .unset, .unset] [(.long ((own_array p0 p1) &&& (7 : Int64)))])) _
    refine XS.lconst X4.here hx rfl (hb hby at_23) ?_
    show Steps p.tables e below (T4.setTop (mkF m 24 #[.val (.int p0), .val (.int p1), .val (.long v2), .second, .val (.long (own_array p0 p1)), .second, .unset, .unset, .unset] [(.long (0 : Int64)), (.long ((own_array p0 p1) &&& (7 : Int64)))])) _
    refine XS.lcmp X4.here hx rfl (hb hby at_24) rfl ?_
    exact k)
  obtain ⟨v7, hv7⟩ : ∃ z : Int32, z = (if ((own_array p0 p1) &&& (7 : Int64)) = (0 : Int64) then (1 : Int32) else (0 : Int32)) := ⟨_, rfl⟩
  have ks9 : own_R p e below (s₁.setTop (entryFrame m #[(.int p0), (.int p1)] maxLocals)) (T4.setTop (mkF m 33 #[.val (.int p0), .val (.int p1), .val (.long v2), .second, .val (.long (own_array p0 p1)), .second, .unset, .unset, .unset] [(.int v7)])) := fun t k => ks8 t (by
    by_cases hc6 : ((own_array p0 p1) &&& (7 : Int64)) = (0 : Int64)
    · skip
      have qq10 : v7 = (1 : Int32) := by rw [hv7, if_pos hc6]
      rw [qq10] at k
      show Steps p.tables e below (T4.setTop (mkF m 25 #[.val (.int p0), .val (.int p1), .val (.long v2), .second, .val (.long (own_array p0 p1)), .second, .unset, .unset, .unset] [(.int (lcmpW ((own_array p0 p1) &&& (7 : Int64)) (0 : Int64)))])) _
      refine XS.ifNo X4.here hx rfl (hb hby at_25) rfl ((if0 _ _).trans (teq ((lw_eq _ _).mpr hc6)).2) ?_
      show Steps p.tables e below (T4.setTop (mkF m 28 #[.val (.int p0), .val (.int p1), .val (.long v2), .second, .val (.long (own_array p0 p1)), .second, .unset, .unset, .unset] [])) _
      refine XS.iconst X4.here hx rfl (hb hby at_28) ?_
      show Steps p.tables e below (T4.setTop (mkF m 29 #[.val (.int p0), .val (.int p1), .val (.long v2), .second, .val (.long (own_array p0 p1)), .second, .unset, .unset, .unset] [(.int (1 : Int32))])) _
      refine XS.goto X4.here hx rfl (pc0 := 29) (pc' := 33) rfl (hb hby at_29) (by decide) (by decide) ?_
      exact k
    · skip
      have qq11 : v7 = (0 : Int32) := by rw [hv7, if_neg hc6]
      rw [qq11] at k
      show Steps p.tables e below (T4.setTop (mkF m 25 #[.val (.int p0), .val (.int p1), .val (.long v2), .second, .val (.long (own_array p0 p1)), .second, .unset, .unset, .unset] [(.int (lcmpW ((own_array p0 p1) &&& (7 : Int64)) (0 : Int64)))])) _
      refine XS.ifYes X4.here hx rfl (pc0 := 25) (pc' := 32) rfl (hb hby at_25) rfl ((if0 _ _).trans (feq (fun q => hc6 ((lw_eq _ _).mp q))).2) (by decide) (by decide) ?_
      show Steps p.tables e below (T4.setTop (mkF m 32 #[.val (.int p0), .val (.int p1), .val (.long v2), .second, .val (.long (own_array p0 p1)), .second, .unset, .unset, .unset] [])) _
      refine XS.iconst X4.here hx rfl (hb hby at_32) ?_
      exact k)
  have ks14 : own_R p e below (s₁.setTop (entryFrame m #[(.int p0), (.int p1)] maxLocals)) (T4.setTop (mkF m 39 #[.val (.int p0), .val (.int p1), .val (.long v2), .second, .val (.long (own_array p0 p1)), .second, .val (.int v7), .unset, .unset] [(.int (lcmpW (own_array p0 p1) v2))])) := fun t k => ks9 t (by
    show Steps p.tables e below (T4.setTop (mkF m 33 #[.val (.int p0), .val (.int p1), .val (.long v2), .second, .val (.long (own_array p0 p1)), .second, .unset, .unset, .unset] [(.int v7)])) _
    refine XS.istore X4.here hx rfl (hb hby at_33) rfl (l' := #[.val (.int p0), .val (.int p1), .val (.long v2), .second, .val (.long (own_array p0 p1)), .second, .val (.int v7), .unset, .unset]) rfl ?_
    show Steps p.tables e below (T4.setTop (mkF m 35 #[.val (.int p0), .val (.int p1), .val (.long v2), .second, .val (.long (own_array p0 p1)), .second, .val (.int v7), .unset, .unset] [])) _
    refine XS.lload X4.here hx rfl (hb hby at_35) rfl ?_
    show Steps p.tables e below (T4.setTop (mkF m 37 #[.val (.int p0), .val (.int p1), .val (.long v2), .second, .val (.long (own_array p0 p1)), .second, .val (.int v7), .unset, .unset] [(.long (own_array p0 p1))])) _
    refine XS.lloadN X4.here hx rfl (hb hby at_37) rfl ?_
    show Steps p.tables e below (T4.setTop (mkF m 38 #[.val (.int p0), .val (.int p1), .val (.long v2), .second, .val (.long (own_array p0 p1)), .second, .val (.int v7), .unset, .unset] [(.long v2), (.long (own_array p0 p1))])) _
    refine XS.lcmp X4.here hx rfl (hb hby at_38) rfl ?_
    exact k)
  obtain ⟨v13, hv13⟩ : ∃ z : Int32, z = (if (own_array p0 p1) < v2 then (0 : Int32) else (1 : Int32)) := ⟨_, rfl⟩
  have ks15 : own_R p e below (s₁.setTop (entryFrame m #[(.int p0), (.int p1)] maxLocals)) (T4.setTop (mkF m 47 #[.val (.int p0), .val (.int p1), .val (.long v2), .second, .val (.long (own_array p0 p1)), .second, .val (.int v7), .unset, .unset] [(.int v13)])) := fun t k => ks14 t (by
    by_cases hc12 : (own_array p0 p1) < v2
    · skip
      have qq16 : v13 = (0 : Int32) := by rw [hv13, if_pos hc12]
      rw [qq16] at k
      show Steps p.tables e below (T4.setTop (mkF m 39 #[.val (.int p0), .val (.int p1), .val (.long v2), .second, .val (.long (own_array p0 p1)), .second, .val (.int v7), .unset, .unset] [(.int (lcmpW (own_array p0 p1) v2))])) _
      refine XS.ifYes X4.here hx rfl (pc0 := 39) (pc' := 46) rfl (hb hby at_39) rfl ((if0 _ _).trans (tlt ((lw_lt _ _).mpr hc12)).1) (by decide) (by decide) ?_
      show Steps p.tables e below (T4.setTop (mkF m 46 #[.val (.int p0), .val (.int p1), .val (.long v2), .second, .val (.long (own_array p0 p1)), .second, .val (.int v7), .unset, .unset] [])) _
      refine XS.iconst X4.here hx rfl (hb hby at_46) ?_
      exact k
    · skip
      have qq17 : v13 = (1 : Int32) := by rw [hv13, if_neg hc12]
      rw [qq17] at k
      show Steps p.tables e below (T4.setTop (mkF m 39 #[.val (.int p0), .val (.int p1), .val (.long v2), .second, .val (.long (own_array p0 p1)), .second, .val (.int v7), .unset, .unset] [(.int (lcmpW (own_array p0 p1) v2))])) _
      refine XS.ifNo X4.here hx rfl (hb hby at_39) rfl ((if0 _ _).trans (flt (fun q => hc12 ((lw_lt _ _).mp q))).1) ?_
      show Steps p.tables e below (T4.setTop (mkF m 42 #[.val (.int p0), .val (.int p1), .val (.long v2), .second, .val (.long (own_array p0 p1)), .second, .val (.int v7), .unset, .unset] [])) _
      refine XS.iconst X4.here hx rfl (hb hby at_42) ?_
      show Steps p.tables e below (T4.setTop (mkF m 43 #[.val (.int p0), .val (.int p1), .val (.long v2), .second, .val (.long (own_array p0 p1)), .second, .val (.int v7), .unset, .unset] [(.int (1 : Int32))])) _
      refine XS.goto X4.here hx rfl (pc0 := 43) (pc' := 47) rfl (hb hby at_43) (by decide) (by decide) ?_
      exact k)
  have ks20 : own_R p e below (s₁.setTop (entryFrame m #[(.int p0), (.int p1)] maxLocals)) (T4.setTop (mkF m 57 #[.val (.int p0), .val (.int p1), .val (.long v2), .second, .val (.long (own_array p0 p1)), .second, .val (.int v7), .val (.int v13), .unset] [(.int (lcmpW ((own_array p0 p1) - v2) (8 : Int64)))])) := fun t k => ks15 t (by
    show Steps p.tables e below (T4.setTop (mkF m 47 #[.val (.int p0), .val (.int p1), .val (.long v2), .second, .val (.long (own_array p0 p1)), .second, .val (.int v7), .unset, .unset] [(.int v13)])) _
    refine XS.istore X4.here hx rfl (hb hby at_47) rfl (l' := #[.val (.int p0), .val (.int p1), .val (.long v2), .second, .val (.long (own_array p0 p1)), .second, .val (.int v7), .val (.int v13), .unset]) rfl ?_
    show Steps p.tables e below (T4.setTop (mkF m 49 #[.val (.int p0), .val (.int p1), .val (.long v2), .second, .val (.long (own_array p0 p1)), .second, .val (.int v7), .val (.int v13), .unset] [])) _
    refine XS.lload X4.here hx rfl (hb hby at_49) rfl ?_
    show Steps p.tables e below (T4.setTop (mkF m 51 #[.val (.int p0), .val (.int p1), .val (.long v2), .second, .val (.long (own_array p0 p1)), .second, .val (.int v7), .val (.int v13), .unset] [(.long (own_array p0 p1))])) _
    refine XS.lloadN X4.here hx rfl (hb hby at_51) rfl ?_
    show Steps p.tables e below (T4.setTop (mkF m 52 #[.val (.int p0), .val (.int p1), .val (.long v2), .second, .val (.long (own_array p0 p1)), .second, .val (.int v7), .val (.int v13), .unset] [(.long v2), (.long (own_array p0 p1))])) _
    refine XS.lsub X4.here hx rfl (hb hby at_52) rfl ?_
    show Steps p.tables e below (T4.setTop (mkF m 53 #[.val (.int p0), .val (.int p1), .val (.long v2), .second, .val (.long (own_array p0 p1)), .second, .val (.int v7), .val (.int v13), .unset] [(.long ((own_array p0 p1) - v2))])) _
    refine X4.ldc2Long hx hown (mvT hZ (hw _ (List.mem_of_getElem? (i := 9) rfl))) (g := (mkF m 53 #[.val (.int p0), .val (.int p1), .val (.long v2), .second, .val (.long (own_array p0 p1)), .second, .val (.int v7), .val (.int v13), .unset] [(.long ((own_array p0 p1) - v2))])) rfl (hb hby at_53) _ ?_
    show Steps p.tables e below (T4.setTop (mkF m 56 #[.val (.int p0), .val (.int p1), .val (.long v2), .second, .val (.long (own_array p0 p1)), .second, .val (.int v7), .val (.int v13), .unset] [(.long (8 : Int64)), (.long ((own_array p0 p1) - v2))])) _
    refine XS.lcmp X4.here hx rfl (hb hby at_56) rfl ?_
    exact k)
  obtain ⟨v19, hv19⟩ : ∃ z : Int32, z = (if ((own_array p0 p1) - v2) < (8 : Int64) then (1 : Int32) else (0 : Int32)) := ⟨_, rfl⟩
  have ks21 : own_R p e below (s₁.setTop (entryFrame m #[(.int p0), (.int p1)] maxLocals)) (T4.setTop (mkF m 65 #[.val (.int p0), .val (.int p1), .val (.long v2), .second, .val (.long (own_array p0 p1)), .second, .val (.int v7), .val (.int v13), .unset] [(.int v19)])) := fun t k => ks20 t (by
    by_cases hc18 : ((own_array p0 p1) - v2) < (8 : Int64)
    · skip
      have qq22 : v19 = (1 : Int32) := by rw [hv19, if_pos hc18]
      rw [qq22] at k
      show Steps p.tables e below (T4.setTop (mkF m 57 #[.val (.int p0), .val (.int p1), .val (.long v2), .second, .val (.long (own_array p0 p1)), .second, .val (.int v7), .val (.int v13), .unset] [(.int (lcmpW ((own_array p0 p1) - v2) (8 : Int64)))])) _
      refine XS.ifNo X4.here hx rfl (hb hby at_57) rfl ((if0 _ _).trans (tlt ((lw_lt _ _).mpr hc18)).2.1) ?_
      show Steps p.tables e below (T4.setTop (mkF m 60 #[.val (.int p0), .val (.int p1), .val (.long v2), .second, .val (.long (own_array p0 p1)), .second, .val (.int v7), .val (.int v13), .unset] [])) _
      refine XS.iconst X4.here hx rfl (hb hby at_60) ?_
      show Steps p.tables e below (T4.setTop (mkF m 61 #[.val (.int p0), .val (.int p1), .val (.long v2), .second, .val (.long (own_array p0 p1)), .second, .val (.int v7), .val (.int v13), .unset] [(.int (1 : Int32))])) _
      refine XS.goto X4.here hx rfl (pc0 := 61) (pc' := 65) rfl (hb hby at_61) (by decide) (by decide) ?_
      exact k
    · skip
      have qq23 : v19 = (0 : Int32) := by rw [hv19, if_neg hc18]
      rw [qq23] at k
      show Steps p.tables e below (T4.setTop (mkF m 57 #[.val (.int p0), .val (.int p1), .val (.long v2), .second, .val (.long (own_array p0 p1)), .second, .val (.int v7), .val (.int v13), .unset] [(.int (lcmpW ((own_array p0 p1) - v2) (8 : Int64)))])) _
      refine XS.ifYes X4.here hx rfl (pc0 := 57) (pc' := 64) rfl (hb hby at_57) rfl ((if0 _ _).trans (flt (fun q => hc18 ((lw_lt _ _).mp q))).2.1) (by decide) (by decide) ?_
      show Steps p.tables e below (T4.setTop (mkF m 64 #[.val (.int p0), .val (.int p1), .val (.long v2), .second, .val (.long (own_array p0 p1)), .second, .val (.int v7), .val (.int v13), .unset] [])) _
      refine XS.iconst X4.here hx rfl (hb hby at_64) ?_
      exact k)
  have ks24 : own_R p e below (s₁.setTop (entryFrame m #[(.int p0), (.int p1)] maxLocals)) (T4.setTop (mkF m 69 #[.val (.int p0), .val (.int p1), .val (.long v2), .second, .val (.long (own_array p0 p1)), .second, .val (.int v7), .val (.int v13), .val (.int v19)] [(.int v7)])) := fun t k => ks21 t (by
    show Steps p.tables e below (T4.setTop (mkF m 65 #[.val (.int p0), .val (.int p1), .val (.long v2), .second, .val (.long (own_array p0 p1)), .second, .val (.int v7), .val (.int v13), .unset] [(.int v19)])) _
    refine XS.istore X4.here hx rfl (hb hby at_65) rfl (l' := #[.val (.int p0), .val (.int p1), .val (.long v2), .second, .val (.long (own_array p0 p1)), .second, .val (.int v7), .val (.int v13), .val (.int v19)]) rfl ?_
    show Steps p.tables e below (T4.setTop (mkF m 67 #[.val (.int p0), .val (.int p1), .val (.long v2), .second, .val (.long (own_array p0 p1)), .second, .val (.int v7), .val (.int v13), .val (.int v19)] [])) _
    refine XS.iload X4.here hx rfl (hb hby at_67) rfl ?_
    exact k)
  by_cases hc25 : v7 = (0 : Int32)
  · skip
    have ks26 : own_R p e below (s₁.setTop (entryFrame m #[(.int p0), (.int p1)] maxLocals)) (T4.setTop (mkF m 87 #[.val (.int p0), .val (.int p1), .val (.long v2), .second, .val (.long (own_array p0 p1)), .second, .val (.int v7), .val (.int v13), .val (.int v19)] [(.int (0 : Int32))])) := fun t k => ks24 t (by
      show Steps p.tables e below (T4.setTop (mkF m 69 #[.val (.int p0), .val (.int p1), .val (.long v2), .second, .val (.long (own_array p0 p1)), .second, .val (.int v7), .val (.int v13), .val (.int v19)] [(.int v7)])) _
      refine XS.ifYes X4.here hx rfl (pc0 := 69) (pc' := 86) rfl (hb hby at_69) rfl ((if0 _ _).trans (teq hc25).1) (by decide) (by decide) ?_
      show Steps p.tables e below (T4.setTop (mkF m 86 #[.val (.int p0), .val (.int p1), .val (.long v2), .second, .val (.long (own_array p0 p1)), .second, .val (.int v7), .val (.int v13), .val (.int v19)] [])) _
      refine XS.iconst X4.here hx rfl (hb hby at_86) ?_
      exact k)
    obtain ⟨fs, hr, hrun, hended, hW, hsame⟩ := X4.leave (v := some (.int (0 : Int32))) (fun h => by rw [Bd.returns] at h; cases h)
    refine ⟨_, _, ks26 _ ?_, hrun, hended, _, _, rfl, ?_, ⟨_, rfl⟩, hW, hsame.mono (by decide) (by decide)⟩
    · exact retN X4 hx (t := .boolean) Bd.returns (by simp) (hb hby at_87) hr
    · show Q0 Z p0 p1 h0 n0 _ T4.heap _
      rw [eq4]
      exfalso
      subst hv2
      obtain ⟨f1, f2, f3⟩ := own_facts p0 p1
      rw [if_pos f1] at hv7
      rw [if_neg f2] at hv13
      rw [if_pos f3] at hv19
      subst hv7 hv13 hv19
      exact absurd hc25 (by decide)
  · skip
    have ks27 : own_R p e below (s₁.setTop (entryFrame m #[(.int p0), (.int p1)] maxLocals)) (T4.setTop (mkF m 74 #[.val (.int p0), .val (.int p1), .val (.long v2), .second, .val (.long (own_array p0 p1)), .second, .val (.int v7), .val (.int v13), .val (.int v19)] [(.int v13)])) := fun t k => ks24 t (by
      show Steps p.tables e below (T4.setTop (mkF m 69 #[.val (.int p0), .val (.int p1), .val (.long v2), .second, .val (.long (own_array p0 p1)), .second, .val (.int v7), .val (.int v13), .val (.int v19)] [(.int v7)])) _
      refine XS.ifNo X4.here hx rfl (hb hby at_69) rfl ((if0 _ _).trans (feq hc25).1) ?_
      show Steps p.tables e below (T4.setTop (mkF m 72 #[.val (.int p0), .val (.int p1), .val (.long v2), .second, .val (.long (own_array p0 p1)), .second, .val (.int v7), .val (.int v13), .val (.int v19)] [])) _
      refine XS.iload X4.here hx rfl (hb hby at_72) rfl ?_
      exact k)
    by_cases hc28 : v13 = (0 : Int32)
    · skip
      have ks29 : own_R p e below (s₁.setTop (entryFrame m #[(.int p0), (.int p1)] maxLocals)) (T4.setTop (mkF m 87 #[.val (.int p0), .val (.int p1), .val (.long v2), .second, .val (.long (own_array p0 p1)), .second, .val (.int v7), .val (.int v13), .val (.int v19)] [(.int (0 : Int32))])) := fun t k => ks27 t (by
        show Steps p.tables e below (T4.setTop (mkF m 74 #[.val (.int p0), .val (.int p1), .val (.long v2), .second, .val (.long (own_array p0 p1)), .second, .val (.int v7), .val (.int v13), .val (.int v19)] [(.int v13)])) _
        refine XS.ifYes X4.here hx rfl (pc0 := 74) (pc' := 86) rfl (hb hby at_74) rfl ((if0 _ _).trans (teq hc28).1) (by decide) (by decide) ?_
        show Steps p.tables e below (T4.setTop (mkF m 86 #[.val (.int p0), .val (.int p1), .val (.long v2), .second, .val (.long (own_array p0 p1)), .second, .val (.int v7), .val (.int v13), .val (.int v19)] [])) _
        refine XS.iconst X4.here hx rfl (hb hby at_86) ?_
        exact k)
      obtain ⟨fs, hr, hrun, hended, hW, hsame⟩ := X4.leave (v := some (.int (0 : Int32))) (fun h => by rw [Bd.returns] at h; cases h)
      refine ⟨_, _, ks29 _ ?_, hrun, hended, _, _, rfl, ?_, ⟨_, rfl⟩, hW, hsame.mono (by decide) (by decide)⟩
      · exact retN X4 hx (t := .boolean) Bd.returns (by simp) (hb hby at_87) hr
      · show Q0 Z p0 p1 h0 n0 _ T4.heap _
        rw [eq4]
        exfalso
        subst hv2
        obtain ⟨f1, f2, f3⟩ := own_facts p0 p1
        rw [if_pos f1] at hv7
        rw [if_neg f2] at hv13
        rw [if_pos f3] at hv19
        subst hv7 hv13 hv19
        exact absurd hc28 (by decide)
    · skip
      have ks30 : own_R p e below (s₁.setTop (entryFrame m #[(.int p0), (.int p1)] maxLocals)) (T4.setTop (mkF m 79 #[.val (.int p0), .val (.int p1), .val (.long v2), .second, .val (.long (own_array p0 p1)), .second, .val (.int v7), .val (.int v13), .val (.int v19)] [(.int v19)])) := fun t k => ks27 t (by
        show Steps p.tables e below (T4.setTop (mkF m 74 #[.val (.int p0), .val (.int p1), .val (.long v2), .second, .val (.long (own_array p0 p1)), .second, .val (.int v7), .val (.int v13), .val (.int v19)] [(.int v13)])) _
        refine XS.ifNo X4.here hx rfl (hb hby at_74) rfl ((if0 _ _).trans (feq hc28).1) ?_
        show Steps p.tables e below (T4.setTop (mkF m 77 #[.val (.int p0), .val (.int p1), .val (.long v2), .second, .val (.long (own_array p0 p1)), .second, .val (.int v7), .val (.int v13), .val (.int v19)] [])) _
        refine XS.iload X4.here hx rfl (hb hby at_77) rfl ?_
        exact k)
      by_cases hc31 : v19 = (0 : Int32)
      · skip
        have ks32 : own_R p e below (s₁.setTop (entryFrame m #[(.int p0), (.int p1)] maxLocals)) (T4.setTop (mkF m 87 #[.val (.int p0), .val (.int p1), .val (.long v2), .second, .val (.long (own_array p0 p1)), .second, .val (.int v7), .val (.int v13), .val (.int v19)] [(.int (0 : Int32))])) := fun t k => ks30 t (by
          show Steps p.tables e below (T4.setTop (mkF m 79 #[.val (.int p0), .val (.int p1), .val (.long v2), .second, .val (.long (own_array p0 p1)), .second, .val (.int v7), .val (.int v13), .val (.int v19)] [(.int v19)])) _
          refine XS.ifYes X4.here hx rfl (pc0 := 79) (pc' := 86) rfl (hb hby at_79) rfl ((if0 _ _).trans (teq hc31).1) (by decide) (by decide) ?_
          show Steps p.tables e below (T4.setTop (mkF m 86 #[.val (.int p0), .val (.int p1), .val (.long v2), .second, .val (.long (own_array p0 p1)), .second, .val (.int v7), .val (.int v13), .val (.int v19)] [])) _
          refine XS.iconst X4.here hx rfl (hb hby at_86) ?_
          exact k)
        obtain ⟨fs, hr, hrun, hended, hW, hsame⟩ := X4.leave (v := some (.int (0 : Int32))) (fun h => by rw [Bd.returns] at h; cases h)
        refine ⟨_, _, ks32 _ ?_, hrun, hended, _, _, rfl, ?_, ⟨_, rfl⟩, hW, hsame.mono (by decide) (by decide)⟩
        · exact retN X4 hx (t := .boolean) Bd.returns (by simp) (hb hby at_87) hr
        · show Q0 Z p0 p1 h0 n0 _ T4.heap _
          rw [eq4]
          exfalso
          subst hv2
          obtain ⟨f1, f2, f3⟩ := own_facts p0 p1
          rw [if_pos f1] at hv7
          rw [if_neg f2] at hv13
          rw [if_pos f3] at hv19
          subst hv7 hv13 hv19
          exact absurd hc31 (by decide)
      · skip
        have ks33 : own_R p e below (s₁.setTop (entryFrame m #[(.int p0), (.int p1)] maxLocals)) (T4.setTop (mkF m 87 #[.val (.int p0), .val (.int p1), .val (.long v2), .second, .val (.long (own_array p0 p1)), .second, .val (.int v7), .val (.int v13), .val (.int v19)] [(.int (1 : Int32))])) := fun t k => ks30 t (by
          show Steps p.tables e below (T4.setTop (mkF m 79 #[.val (.int p0), .val (.int p1), .val (.long v2), .second, .val (.long (own_array p0 p1)), .second, .val (.int v7), .val (.int v13), .val (.int v19)] [(.int v19)])) _
          refine XS.ifNo X4.here hx rfl (hb hby at_79) rfl ((if0 _ _).trans (feq hc31).1) ?_
          show Steps p.tables e below (T4.setTop (mkF m 82 #[.val (.int p0), .val (.int p1), .val (.long v2), .second, .val (.long (own_array p0 p1)), .second, .val (.int v7), .val (.int v13), .val (.int v19)] [])) _
          refine XS.iconst X4.here hx rfl (hb hby at_82) ?_
          show Steps p.tables e below (T4.setTop (mkF m 83 #[.val (.int p0), .val (.int p1), .val (.long v2), .second, .val (.long (own_array p0 p1)), .second, .val (.int v7), .val (.int v13), .val (.int v19)] [(.int (1 : Int32))])) _
          refine XS.goto X4.here hx rfl (pc0 := 83) (pc' := 87) rfl (hb hby at_83) (by decide) (by decide) ?_
          exact k)
        obtain ⟨fs, hr, hrun, hended, hW, hsame⟩ := X4.leave (v := some (.int (1 : Int32))) (fun h => by rw [Bd.returns] at h; cases h)
        refine ⟨_, _, ks33 _ ?_, hrun, hended, _, _, rfl, ?_, ⟨_, rfl⟩, hW, hsame.mono (by decide) (by decide)⟩
        · exact retN X4 hx (t := .boolean) Bd.returns (by simp) (hb hby at_87) hr
        · show Q0 Z p0 p1 h0 n0 _ T4.heap _
          rw [eq4]
          exact ⟨rfl, N4⟩
set_option maxRecDepth 65536 in
set_option maxHeartbeats 40000000 in
theorem comes_1 {Post : Tables → Env → Array Value → State → Outcome → State → Prop} (hpost : ∀ tb e args s v u, (limb_1_1.after args s (.returned v) u = true ∧ limb_1_2.after args s (.returned v) u = true ∧ True) → FrameEnd s (.returned v) u (Jvm.fieldLocs frame_1_writes args s ++ Jvm.arrayLocs frame_1_arrays args s ++ Jvm.staticLocs frame_1_statics s) 0 0 → Post tb e args s (.returned v) u) :
    ArmFor flags0 classFile x code maxLocals ret World_1 tables_1 room_1 Calls_1 rest_1 Pre_1 Post := by
  intro l hfl _ _ p e ha hc hk s m args below hf hA hF happ hP
  obtain ⟨hcalls, hrest, hpre⟩ := hP
  obtain ⟨-, -, -, hnamed, -, -, -, hat⟩ := (Spec.applies_iff hf).mp happ
  obtain ⟨hg, hn⟩ := and_e (Cond.before_iff.mp (show (Jvm.Cond.and given_1 narrow_1).before args s = true from hpre))
  obtain ⟨g1, g2⟩ := and_e hg
  obtain ⟨g3, g4⟩ := and_e g2
  obtain ⟨w0, w1, rfl⟩ : ∃ w0 w1 : Value, args = #[w0, w1] := by
    have hs : args.size = 2 := by simpa [Cond.value, given_1] using g1
    obtain ⟨L⟩ := args
    match L, hs with
    | [w0, w1], _ => exact ⟨w0, w1, rfl⟩
  have hw := fun d (hd : d ∈ tables_1) => atoms_spec (ws := Jvm.Cond.code x code maxLocals ret :: tables_1) hat d (List.mem_cons_of_mem _ hd)
  have hfit : Fit s := fun {y c} hc i hi => by
    obtain ⟨ha, rfl⟩ := Array.getElem?_eq_some_iff.mp hc
    have q := List.all_eq_true.mp ((Array.all_eq_true_iff_forall_mem.mp hF) _ (Array.getElem_mem ha)) i (List.mem_range.mpr hi)
    simpa [Array.getElem?_eq_getElem hi] using q
  obtain ⟨i0, ei0⟩ := is_v g3
  obtain rfl : w0 = (.int i0) := Option.some.inj ei0
  obtain ⟨i1, ei1⟩ := is_v g4
  obtain rfl : w1 = (.int i1) := Option.some.inj ei1
  obtain ⟨n, o, h1, h2, h3, _, L, rfl, ⟨rfl, N⟩, hq⟩ := rm0 l s _ hw tables_1 i0 i1 s.heap s.heap.size (Nat.le_refl _)  p e ha hc hk s m _ below hf ((Spec.applies_iff_loose hf).mp happ).1 ⟨rfl, State.Warmed39.refl s, rfl⟩ trivial
  refine ⟨n, _, h1, h2, h3, hpost _ _ _ _ _ _ ⟨Cond.after_iff.mpr rfl, Cond.after_iff.mpr (eq_i res_at (Term.int_eval (1)) rfl), trivial⟩ ⟨hq.1, hq.2.1, (hq.2.2.sift fun y hy => Or.inr (N y hy)).mono (by decide) (by decide)⟩⟩
theorem main_1_1 : Claimed_1_1 := comes_1 fun _ _ _ _ _ _ h hF => ⟨h.1, hF⟩
theorem main_1_2 : Claimed_1_2 := comes_1 fun _ _ _ _ _ _ h hF => ⟨h.2.1, hF⟩
end Jvm.Pilot.@@N@@
namespace Jvm.Pilot.@@N@@
open Jvm Jvm.ClassFile Sem Op Lib Jvm.Free Jvm.Stand Jvm.Pilot.@@N@@.Jvm.D
/-! MADE BY PROGRAM (witnessworld.py) out of the Statement's table words and the real class files: 9 classes; the members and pool entries that the words name. The judged class is class 1, her method 1. -/
namespace start1
open Jvm.ClassFile
def u (s : String) : CpInfo := .utf8 (stringToUtf16 s)
/-- a pool by its gaps: so many unusable entries, then the entry; so many at the end -/
def gap : Nat → List CpInfo → List CpInfo
  | 0, r => r
  | n + 1, r => .unusable :: gap n r
def poolList (es : List (Nat × CpInfo)) (last : Nat) : List CpInfo := es.foldr (fun e r => gap e.1 (e.2 :: r)) (gap last [])
def pool (es : List (Nat × CpInfo)) (last : Nat) : Array CpInfo := ⟨poolList es last⟩
def fileOf (pool : Array CpInfo) (this : Nat) (attrs : Array Attribute := #[]) (ms : Array MethodInfo := #[]) (fl : Nat := 33) (sup : Nat := 0) (ifs : Array Nat := #[]) (fds : Array FieldInfo := #[]) : ClassFile where
  minorVersion := 0
  majorVersion := 65
  constantPool := pool
  accessFlags := fl
  thisClass := this
  superClass := sup
  interfaces := ifs
  fields := fds
  methods := ms
  attributes := attrs
def plain (name : String) (sup : Option ClassId) : Class where
  name := name
  kind := .ordinary
  loader := none
  accessFlags := 33
  super := sup
  interfaces := #[]
  cf := none
  fields := #[]
  methods := #[]
  instanceTypes := #[]
  staticTypes := #[]
  resolved := #[]
  callSites := []
  init := .initialized
  statics := none
  mirror := none

def pool0 : Array CpInfo := pool [(5, u "<init>"), (0, u "()V"), (1, .class_ 10), (1, u "java/lang/Object")] 113

def k0m0 : Method := { name := "<init>", desc := "()V", sig := { parameters := [], returnType := none }, accessFlags := 1, code := none }
/-- java/lang/Object -/
def k0 : Class := { plain "java/lang/Object" none with
  accessFlags := 33
  interfaces := #[]
  cf := some (fileOf pool0 8 #[] #[{ accessFlags := 1, nameIndex := 5, descriptorIndex := 6, attributes := #[] }] 33 0 #[] #[])
  fields := #[]
  methods := #[k0m0]
  instanceTypes := #[]
  staticTypes := #[]
  resolved := Array.replicate 124 none
  statics := none }

def pool1 : Array CpInfo := pool [(2, .class_ 4), (1, u "java/lang/Object"), (0, u "<init>"), (0, u "()V"), (0, .long 16), (1, .methodref 10 11), (0, .class_ 12), (0, .nameAndType 13 14), (0, u "com/example/thin_feed/thinfeed/store/HeapBytes"), (0, u "array"), (0, u "(II)J"), (0, .long 7), (1, .long 8), (1, .class_ 20), (0, u "com/example/thin_feed/thinfeed/store/HeapBytesArrayPinLaw"), (2, u "law"), (0, u "(II)Z")] 3

def k1m0 : Method := { name := "<init>", desc := "()V", sig := { parameters := [], returnType := none }, accessFlags := 2, code := none }
def k1c1 : Code := { maxStack := 6, maxLocals := 9, code := code, exceptionTable := #[], attributes := #[] }
def k1m1 : Method := { name := "law", desc := "(II)Z", sig := { parameters := [.int, .int], returnType := some .boolean }, accessFlags := 9, code := some k1c1 }
/-- com/example/thin_feed/thinfeed/store/HeapBytesArrayPinLaw -/
def k1 : Class := { plain "com/example/thin_feed/thinfeed/store/HeapBytesArrayPinLaw" (some 0) with
  accessFlags := 49
  interfaces := #[]
  cf := some (fileOf pool1 19 #[] #[{ accessFlags := 2, nameIndex := 5, descriptorIndex := 6, attributes := #[] }, { accessFlags := 9, nameIndex := 23, descriptorIndex := 24, attributes := #[] }] 49 2 #[] #[])
  fields := #[]
  methods := #[k1m0, k1m1]
  instanceTypes := #[]
  staticTypes := #[]
  resolved := Array.replicate 28 none
  statics := none }

def pool2 : Array CpInfo := pool [(2, .class_ 4), (1, u "java/lang/Object"), (0, u "<init>"), (0, u "()V"), (0, .class_ 8), (0, u "com/example/thin_feed/thinfeed/store/HeapBytes"), (0, .long 16), (1, .long 7), (1, .long 18446744073709551608), (1, u "TREE_MAP_ENTRY"), (0, u "J"), (3, u "REFERENCE"), (0, u "I"), (1, u "ARRAY_HEADER"), (3, u "array"), (0, u "(II)J")] 2

def k2m0 : Method := { name := "<init>", desc := "()V", sig := { parameters := [], returnType := none }, accessFlags := 2, code := none }
def k2c1 : Code := { maxStack := 6, maxLocals := 2, code := prog_24_method_2_code, exceptionTable := #[], attributes := #[] }
def k2m1 : Method := { name := "array", desc := "(II)J", sig := { parameters := [.int, .int], returnType := some .long }, accessFlags := 8, code := some k2c1 }
/-- com/example/thin_feed/thinfeed/store/HeapBytes -/
def k2 : Class := { plain "com/example/thin_feed/thinfeed/store/HeapBytes" (some 0) with
  accessFlags := 48
  interfaces := #[]
  cf := some (fileOf pool2 7 #[] #[{ accessFlags := 2, nameIndex := 5, descriptorIndex := 6, attributes := #[] }, { accessFlags := 8, nameIndex := 27, descriptorIndex := 28, attributes := #[] }] 48 2 #[] #[{ accessFlags := 24, nameIndex := 15, descriptorIndex := 16, attributes := #[] }, { accessFlags := 24, nameIndex := 20, descriptorIndex := 21, attributes := #[] }, { accessFlags := 26, nameIndex := 23, descriptorIndex := 21, attributes := #[] }])
  fields := #[{ name := "TREE_MAP_ENTRY", type := .long, accessFlags := 24, slot := 0, constantValue := 0 }, { name := "REFERENCE", type := .int, accessFlags := 24, slot := 1, constantValue := 0 }, { name := "ARRAY_HEADER", type := .int, accessFlags := 26, slot := 2, constantValue := 0 }]
  methods := #[k2m0, k2m1]
  instanceTypes := #[]
  staticTypes := #[.long, .int, .int]
  resolved := Array.replicate 31 none
  statics := none }

def pool3 : Array CpInfo := pool [(1, u "java/lang/Cloneable"), (0, .class_ 1), (0, u "java/lang/Object"), (0, .class_ 3)] 3

/-- java/lang/Cloneable -/
def k3 : Class := { plain "java/lang/Cloneable" (some 0) with
  accessFlags := 1537
  interfaces := #[]
  cf := some (fileOf pool3 2 #[] #[] 1537 4 #[] #[])
  fields := #[]
  methods := #[]
  instanceTypes := #[]
  staticTypes := #[]
  resolved := Array.replicate 8 none
  statics := none }

def pool4 : Array CpInfo := pool [(1, u "java/io/Serializable"), (0, .class_ 1), (0, u "java/lang/Object"), (0, .class_ 3)] 3

/-- java/io/Serializable -/
def k4 : Class := { plain "java/io/Serializable" (some 0) with
  accessFlags := 1537
  interfaces := #[]
  cf := some (fileOf pool4 2 #[] #[] 1537 4 #[] #[])
  fields := #[]
  methods := #[]
  instanceTypes := #[]
  staticTypes := #[]
  resolved := Array.replicate 8 none
  statics := none }

/-- the primitive byte -/
def k5 : Class := { plain "byte" none with kind := .primitive 'B', accessFlags := 0x411 }
/-- [B -/
def k6 : Class := { plain "[B" (some 0) with kind := .array 5 .byte, interfaces := #[3, 4], accessFlags := 1041 }

/-- the primitive int -/
def k7 : Class := { plain "int" none with kind := .primitive 'I', accessFlags := 0x411 }
/-- [I -/
def k8 : Class := { plain "[I" (some 0) with kind := .array 7 .int, interfaces := #[3, 4], accessFlags := 1041 }

def heap : Heap := #[]
def classes : Array Class := #[k0, k1, k2, k3, k4, k5, k6, k7, k8]
def interned : List (Array UInt16 × Addr) := []
def slotsUsed : Nat := 0
def theMethod : MethodId := ⟨1, 1⟩
def args0 : Array Value := #[.int 5, .int 7]
def aboutOver (below : List Frame) : State where
  vm := { classes := classes, interned := interned.toArray }
  heap := heap
  slotsUsed := slotsUsed
  threads := #[{ frames := .invoking theMethod args0 :: below }]
def below0 : List Frame := [.native { method := ⟨0, 0⟩, args := #[] }]
def about1 : State := aboutOver below0
def p0 : Program := .bare "" "" ""
def e0 : Env := launch0.env 0 0 0
theorem w_frames : about1.frames = Frame.invoking theMethod args0 :: below0 := rfl
set_option maxRecDepth 65536 in
theorem w_args : argsFit about1.vm theMethod args0 = true := by decide +kernel
set_option maxRecDepth 65536 in
theorem w_heap : heapFits about1 = true := by decide +kernel
set_option maxRecDepth 65536 in
theorem w_runnable : about1.curStatus? = some .runnable := by decide +kernel
set_option maxRecDepth 65536 in
theorem w_alone : about1.alone = true := by decide +kernel
set_option maxRecDepth 65536 in
theorem w_named : about1.methodNamed? x = some theMethod := by decide +kernel
set_option maxRecDepth 65536 in
theorem w_hears : about1.hears theMethod below0 = true := by decide +kernel
set_option maxRecDepth 65536 in
theorem w_ripe : about1.ripe theMethod args0 below0 = true := by decide +kernel
theorem w_running : about1.status = .running := rfl
set_option maxRecDepth 65536 in
theorem w_room : about1.hasRoom e0.platform room_1 = true :=
  launch0.hasRoom_least _ room_1 (by decide +kernel) (by decide +kernel) (by decide +kernel) (by decide +kernel) (by decide +kernel) (by decide +kernel)
theorem allAtoms_all (ts : List Jvm.Cond) (a : Array Jvm.Value) (st : Jvm.State) : (allAtoms ts).before a st = ts.all (fun c => c.before a st) := by
  induction ts with
  | nil => rfl
  | cons c t ih =>
    show (Jvm.Cond.and c (allAtoms t)).before a st = _
    rw [Jvm.Cond.before_and, ih, List.all_cons]
def words1 : List Jvm.Cond := Jvm.Cond.code x code maxLocals ret :: tables_1
/-- a 'code' word, met by the world's own term for the bytes: nothing is compared byte by byte -/
theorem code_word {y : MethodName} {bytes : ByteArray} {mx : Nat} {rt : Option FieldType} {a : Array Value} {s : State} {m : MethodId} {meth : Method} {c : Code} (h1 : s.methodNamed? y = some m) (h2 : s.vm.method? m = some meth) (h3 : meth.code = some c) (h4 : c.code = bytes)
    (h5 : (c.maxLocals == mx && c.exceptionTable.isEmpty && decide (c.maxStack ≤ mostOperands) && decide (meth.sig.returnType = rt) && !meth.locks && decide (parseMethodDescriptor y.desc = some meth.sig)) = true) : (Jvm.Cond.code y bytes mx rt).before a s = true := by
  simp only [Bool.and_eq_true, beq_iff_eq, Bool.not_eq_true', decide_eq_true_eq] at h5
  obtain ⟨⟨⟨⟨⟨g1, g2⟩, g3⟩, g4⟩, g5⟩, g6⟩ := h5
  simp [Cond.before, Cond.holds, Cond.value, h1, h2, h3, h4, g1, g2, g3, g4, g5, g6]
def isCode : Jvm.Cond → Bool
  | .code _ _ _ _ => true
  | _ => false
theorem all_split {L : List Jvm.Cond} {P : Jvm.Cond → Bool} (h1 : L.all (fun c => isCode c || P c) = true) (h2 : ∀ c ∈ L.filter isCode, P c = true) : L.all P = true := by
  refine List.all_eq_true.mpr fun c hc => ?_
  have h := List.all_eq_true.mp h1 c hc
  rcases Bool.eq_false_or_eq_true (isCode c) with hi | hi
  · exact h2 c (List.mem_filter.mpr ⟨hc, hi⟩)
  · simpa [hi] using h
set_option maxRecDepth 65536 in
theorem w_c0 : (Jvm.Cond.code x code maxLocals ret).before args0 about1 = true := code_word (m := ⟨1, 1⟩) (meth := k1m1) (c := k1c1) (by decide +kernel) rfl rfl rfl (by decide +kernel)
set_option maxRecDepth 65536 in
theorem w_c1 : (Jvm.Cond.code ({ cls := "com/example/thin_feed/thinfeed/store/HeapBytes", name := "array", desc := "(II)J" } : Jvm.MethodName) prog_24_method_2_code (2 : Nat) (Option.some Jvm.ClassFile.FieldType.long)).before args0 about1 = true := code_word (m := ⟨2, 1⟩) (meth := k2m1) (c := k2c1) (by decide +kernel) rfl rfl rfl (by decide +kernel)
def codes1 : List Jvm.Cond := [Jvm.Cond.code x code maxLocals ret, Jvm.Cond.code ({ cls := "com/example/thin_feed/thinfeed/store/HeapBytes", name := "array", desc := "(II)J" } : Jvm.MethodName) prog_24_method_2_code (2 : Nat) (Option.some Jvm.ClassFile.FieldType.long)]
set_option maxRecDepth 65536 in
theorem codes_eq : words1.filter isCode = codes1 := rfl
theorem w_codes : ∀ c ∈ words1.filter isCode, c.before args0 about1 = true := by
  rw [codes_eq]
  intro c hc
  simp only [codes1, List.mem_cons, List.not_mem_nil, or_false] at hc
  rcases hc with rfl | rfl
  · exact w_c0
  · exact w_c1
set_option maxRecDepth 65536 in
theorem w_t1 : words1.all (fun c => isCode c || c.before args0 about1) = true := by decide +kernel
theorem w_tables : (allAtoms (Jvm.Cond.code x code maxLocals ret :: tables_1)).before args0 about1 = true := by
  rw [allAtoms_all]
  show words1.all (fun c => c.before args0 about1) = true
  refine all_split ?_ w_codes
  rw [w_t1]
set_option maxRecDepth 65536 in
theorem w_case : (Jvm.Cond.and given_1 narrow_1).before args0 about1 = true := by decide +kernel
theorem w_applies : (headSpec (Jvm.Cond.code x code maxLocals ret :: tables_1) room_1).applies x e0.platform about1 = true :=
  (Spec.applies_iff w_frames).mpr ⟨w_running, w_runnable, w_alone, w_named, w_hears, w_ripe, w_room, w_tables⟩
theorem atStart : AtStart classFile x code maxLocals ret World_1 tables_1 room_1 Calls_1 rest_1 Pre_1 launch0 p0 e0 about1 theMethod args0 below0 :=
  ⟨lists_1, trivial, launch0.admits_env _ _ _, launch0.least_env, fairChoices_fair.cas, fairChoices_fair.clock, w_frames, w_args, w_heap, w_applies, trivial, trivial, w_case⟩
end start1
theorem witness_1 : WitnessClaimed_1 := ⟨start1.p0, start1.e0, start1.about1, start1.theMethod, start1.args0, start1.below0, start1.atStart⟩
end Jvm.Pilot.@@N@@

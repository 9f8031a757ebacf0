import JvmDerived
import JvmDerived.Pilot.@@N@@Statement
import JvmDerived.Pilot.@@N@@Code
set_option linter.unusedVariables false
set_option linter.unusedSimpArgs false
namespace Jvm.RoadKit
open Sem ClassFile Op Lib Jvm.Stand Jvm.Free Jvm.LawKit
section New
variable {p : Program} {l : Launch} {e : Env} {R : Room} {s : State} {m : MethodId} {args : Array Value} {below : List Frame} {meth : Method} {c : Code} {T : State} {locs : List Loc} {cells slots : Nat}
theorem retI (X : Stand p l e R s m args below meth c T locs cells slots) (hx : p.tables.exec = Jvm.exec) {pc : Nat} {Ls : Array Slot} {z : Int32} {rest : List Value} (hret : meth.sig.returnType = some .int) (hd : decode c.code pc = .ok (.ireturn, 1)) {fs : List Frame}
    (hl : ∀ (f : JFrame) (acts : List Action), f.method = m → f.locked = none → f.entered = [] → (doReturn e (T.setTop f) acts (some (.int z))).1 = T.setFrames fs) : Steps p.tables e below (T.setTop (mkF m pc Ls (.int z :: rest))) (T.setFrames fs) := by
  have hm' : T.vm.method? m = some meth := X.method'
  have hn : narrow .int (.int z) = .int z := rfl
  show Steps p.tables e below (T.setTop { method := m, pc := pc, locals := Ls, stack := _ :: rest, locked := none }) _
  jvm_step X.here [X.here.top, hx, hd, hm', hret, hn]
  first | (intro acts; rw [hl _ acts rfl rfl rfl]) | rw [hl _ _ rfl rfl rfl]
  exact Steps.refl _
end New
end Jvm.RoadKit
namespace Jvm.Pilot.@@N@@
open Jvm Jvm.ClassFile Sem Op Lib Jvm.Free Jvm.Stand Jvm.LawKit Jvm.RoadKit Bundle Jvm.Pilot.@@N@@.Jvm.D
theorem own_sta_keep {Z : State} {h h' : Heap} {C n d : String} {v : Value} (F : Sta Z h C n d v) (K : Keep h h' []) : Sta Z h' C n d v := by
  obtain ⟨cf, i, k, f, st, cell, h1, h2, h3, h4, h5, r⟩ := F
  exact ⟨cf, i, k, f, st, cell, h1, h2, h3, h4, K.2.1 _ _ h5 nin0, r⟩
/-- whoever comes from B to t comes from A to t -/
abbrev own_R (p : Program) (e : Env) (below : List Frame) (A B : State) : Prop := ∀ t, Steps p.tables e below B t → Steps p.tables e below A t
def own_mix (q0 : Int64) : Int64 := (((((q0 ^^^ ((q0.toUInt64 >>> ((30 : Int32) &&& 0x3f).toInt64.toUInt64).toInt64)) * (-4658895280553007687 : Int64)) ^^^ ((((q0 ^^^ ((q0.toUInt64 >>> ((30 : Int32) &&& 0x3f).toInt64.toUInt64).toInt64)) * (-4658895280553007687 : Int64)).toUInt64 >>> ((27 : Int32) &&& 0x3f).toInt64.toUInt64).toInt64)) * (-7723592293110705685 : Int64)) ^^^ ((((((q0 ^^^ ((q0.toUInt64 >>> ((30 : Int32) &&& 0x3f).toInt64.toUInt64).toInt64)) * (-4658895280553007687 : Int64)) ^^^ ((((q0 ^^^ ((q0.toUInt64 >>> ((30 : Int32) &&& 0x3f).toInt64.toUInt64).toInt64)) * (-4658895280553007687 : Int64)).toUInt64 >>> ((27 : Int32) &&& 0x3f).toInt64.toUInt64).toInt64)) * (-7723592293110705685 : Int64)).toUInt64 >>> ((31 : Int32) &&& 0x3f).toInt64.toUInt64).toInt64))
theorem d3_0 : decode prog_14_method_7_code 0 = .ok (.lload_n 0, 1) := by decide +kernel
theorem d3_1 : decode prog_14_method_7_code 1 = .ok (.lload_n 0, 1) := by decide +kernel
theorem d3_2 : decode prog_14_method_7_code 2 = .ok (.bipush 30, 2) := by decide +kernel
theorem d3_4 : decode prog_14_method_7_code 4 = .ok (.lushr, 1) := by decide +kernel
theorem d3_5 : decode prog_14_method_7_code 5 = .ok (.lxor, 1) := by decide +kernel
theorem d3_6 : decode prog_14_method_7_code 6 = .ok (.ldc2_w 41, 3) := by decide +kernel
theorem d3_9 : decode prog_14_method_7_code 9 = .ok (.lmul, 1) := by decide +kernel
theorem d3_10 : decode prog_14_method_7_code 10 = .ok (.lstore_n 2, 1) := by decide +kernel
theorem d3_11 : decode prog_14_method_7_code 11 = .ok (.lload_n 2, 1) := by decide +kernel
theorem d3_12 : decode prog_14_method_7_code 12 = .ok (.lload_n 2, 1) := by decide +kernel
theorem d3_13 : decode prog_14_method_7_code 13 = .ok (.bipush 27, 2) := by decide +kernel
theorem d3_15 : decode prog_14_method_7_code 15 = .ok (.lushr, 1) := by decide +kernel
theorem d3_16 : decode prog_14_method_7_code 16 = .ok (.lxor, 1) := by decide +kernel
theorem d3_17 : decode prog_14_method_7_code 17 = .ok (.ldc2_w 43, 3) := by decide +kernel
theorem d3_20 : decode prog_14_method_7_code 20 = .ok (.lmul, 1) := by decide +kernel
theorem d3_21 : decode prog_14_method_7_code 21 = .ok (.lstore_n 2, 1) := by decide +kernel
theorem d3_22 : decode prog_14_method_7_code 22 = .ok (.lload_n 2, 1) := by decide +kernel
theorem d3_23 : decode prog_14_method_7_code 23 = .ok (.lload_n 2, 1) := by decide +kernel
theorem d3_24 : decode prog_14_method_7_code 24 = .ok (.bipush 31, 2) := by decide +kernel
theorem d3_26 : decode prog_14_method_7_code 26 = .ok (.lushr, 1) := by decide +kernel
theorem d3_27 : decode prog_14_method_7_code 27 = .ok (.lxor, 1) := by decide +kernel
theorem d3_28 : decode prog_14_method_7_code 28 = .ok (.lreturn, 1) := by decide +kernel
theorem pn_3 : plainName "com/example/carved_corpus/carvedcorpus/cli/SeededRandom" = true := by first | (simp [plainName, overriddenIn]; done) | decide +kernel
theorem ef_3 (m : MethodId) (x0 : Int64) : entryFrame m #[(.long x0)] 4 = mkF m 0 #[.val (.long x0), .second, .unset, .unset] [] := by first | (simp [entryFrame, mkF, argsToLocals, Value.category]; done) | rfl
def Q3 (Z : State) (q0 : Int64) (h0 : Heap) (n0 : Nat) (v : Option Value) (h : Heap) (L : List Loc) : Prop := v = some (.long (own_mix q0)) ∧ Fr n0 L ∧ h = h0
set_option maxRecDepth 65536 in
set_option maxHeartbeats 40000000 in
theorem rm3 (l : Launch) (Z : State) (a0 : Array Value) (hw : ∀ d ∈ tables_1, d.before a0 Z = true) (ws : List Jvm.Cond) (q0 : Int64) (h0 : Heap) (n0 : Nat) (Z0 : n0 ≤ h0.size) :
    MetFree l (⟨"com/example/carved_corpus/carvedcorpus/cli/SeededRandom", "mix", "(J)J"⟩ : MethodName) (head1 (Jvm.Cond.code (⟨"com/example/carved_corpus/carvedcorpus/cli/SeededRandom", "mix", "(J)J"⟩ : MethodName) prog_14_method_7_code 4 (some .long) :: ws) ({ frames := 0, cells := 0, slots := 0, locals := 0 } : Room)) (fun a U => a = #[(.long q0)] ∧ Z.Warmed39 U.vm ∧ U.heap = h0) (fun _ _ _ _ _ => True) (fun _ U o U' => ∃ v L, o = .returned v ∧ Q3 Z q0 h0 n0 v U'.heap L ∧ FrameEnd U o U' L ({ frames := 0, cells := 0, slots := 0, locals := 0 } : Room).cells ({ frames := 0, cells := 0, slots := 0, locals := 0 } : Room).slots) := by
  refine MetFree.of_bodySF (plainFor_of_name pn_3) hisR ?_
  intro p e s m args below meth c s₁ Bd hml0 hP hK
  obtain ⟨rfl, hZ, hh⟩ := hP
  have hx := Bd.exec
  have hby := Bd.bytes
  have hml : c.maxLocals = 4 := hml0
  have hown : s.vm.findClass "com/example/carved_corpus/carvedcorpus/cli/SeededRandom" = some m.cls := findClass_of_methodNamed Bd.named
  have hnm := (name_of_methodNamed Bd.named Bd.method).1
  have X0 : Stand p l e ({ frames := 0, cells := 0, slots := 0, locals := 0 } : Room) s m #[(.long q0)] below meth c s₁ [] 0 0 := Stand.of_body Bd
  have e0 : s₁.heap = h0 := by rw [← hh, Bd.state]; rfl
  have N0 := Fr.nil n0
  have k0 : own_R p e below (s₁.setTop (entryFrame m #[(.long q0)] 4)) (s₁.setTop (mkF m 0 #[.val (.long q0), .second, .unset, .unset] [])) := fun t k => castTop (ef_3 m q0) k
  have ks1 : own_R p e below (s₁.setTop (entryFrame m #[(.long q0)] 4)) (s₁.setTop (mkF m 10 #[.val (.long q0), .second, .unset, .unset] [(.long ((q0 ^^^ ((q0.toUInt64 >>> ((30 : Int32) &&& 0x3f).toInt64.toUInt64).toInt64)) * (-4658895280553007687 : Int64)))])) := fun t k => k0 t (by
    show Steps p.tables e below (s₁.setTop (mkF m 0 #[.val (.long q0), .second, .unset, .unset] [])) _
    refine XS.lloadN X0.here hx rfl (hb hby d3_0) rfl ?_
    show Steps p.tables e below (s₁.setTop (mkF m 1 #[.val (.long q0), .second, .unset, .unset] [(.long q0)])) _
    refine XS.lloadN X0.here hx rfl (hb hby d3_1) rfl ?_
    show Steps p.tables e below (s₁.setTop (mkF m 2 #[.val (.long q0), .second, .unset, .unset] [(.long q0), (.long q0)])) _
    refine XS.bipush X0.here hx rfl (hb hby d3_2) ?_
    show Steps p.tables e below (s₁.setTop (mkF m 4 #[.val (.long q0), .second, .unset, .unset] [(.int (30 : Int32)), (.long q0), (.long q0)])) _
    refine XS.lushr X0.here hx rfl (hb hby d3_4) rfl ?_
    show Steps p.tables e below (s₁.setTop (mkF m 5 #[.val (.long q0), .second, .unset, .unset] [(.long ((q0.toUInt64 >>> ((30 : Int32) &&& 0x3f).toInt64.toUInt64).toInt64)), (.long q0)])) _
    refine XS.lxor X0.here hx rfl (hb hby d3_5) rfl ?_
    show Steps p.tables e below (s₁.setTop (mkF m 6 #[.val (.long q0), .second, .unset, .unset] [(.long (q0 ^^^ ((q0.toUInt64 >>> ((30 : Int32) &&& 0x3f).toInt64.toUInt64).toInt64)))])) _
    refine X0.ldc2Long hx hown (mvT hZ (hw _ (List.mem_of_getElem? (i := 14) rfl))) (g := (mkF m 6 #[.val (.long q0), .second, .unset, .unset] [(.long (q0 ^^^ ((q0.toUInt64 >>> ((30 : Int32) &&& 0x3f).toInt64.toUInt64).toInt64)))])) rfl (hb hby d3_6) _ ?_
    show Steps p.tables e below (s₁.setTop (mkF m 9 #[.val (.long q0), .second, .unset, .unset] [(.long (-4658895280553007687 : Int64)), (.long (q0 ^^^ ((q0.toUInt64 >>> ((30 : Int32) &&& 0x3f).toInt64.toUInt64).toInt64)))])) _
    refine XS.lmul X0.here hx rfl (hb hby d3_9) rfl ?_
    exact k)
  obtain ⟨v2, hv2⟩ : ∃ z : Int64, z = ((q0 ^^^ ((q0.toUInt64 >>> ((30 : Int32) &&& 0x3f).toInt64.toUInt64).toInt64)) * (-4658895280553007687 : Int64)) := ⟨_, rfl⟩
  rw [← hv2] at ks1
  have ks3 : own_R p e below (s₁.setTop (entryFrame m #[(.long q0)] 4)) (s₁.setTop (mkF m 21 #[.val (.long q0), .second, .val (.long v2), .second] [(.long ((v2 ^^^ ((v2.toUInt64 >>> ((27 : Int32) &&& 0x3f).toInt64.toUInt64).toInt64)) * (-7723592293110705685 : Int64)))])) := fun t k => ks1 t (by
    show Steps p.tables e below (s₁.setTop (mkF m 10 #[.val (.long q0), .second, .unset, .unset] [(.long v2)])) _
    refine XS.lstoreN X0.here hx rfl (hb hby d3_10) rfl (l' := #[.val (.long q0), .second, .val (.long v2), .second]) rfl ?_
    show Steps p.tables e below (s₁.setTop (mkF m 11 #[.val (.long q0), .second, .val (.long v2), .second] [])) _
    refine XS.lloadN X0.here hx rfl (hb hby d3_11) rfl ?_
    show Steps p.tables e below (s₁.setTop (mkF m 12 #[.val (.long q0), .second, .val (.long v2), .second] [(.long v2)])) _
    refine XS.lloadN X0.here hx rfl (hb hby d3_12) rfl ?_
    show Steps p.tables e below (s₁.setTop (mkF m 13 #[.val (.long q0), .second, .val (.long v2), .second] [(.long v2), (.long v2)])) _
    refine XS.bipush X0.here hx rfl (hb hby d3_13) ?_
    show Steps p.tables e below (s₁.setTop (mkF m 15 #[.val (.long q0), .second, .val (.long v2), .second] [(.int (27 : Int32)), (.long v2), (.long v2)])) _
    refine XS.lushr X0.here hx rfl (hb hby d3_15) rfl ?_
    show Steps p.tables e below (s₁.setTop (mkF m 16 #[.val (.long q0), .second, .val (.long v2), .second] [(.long ((v2.toUInt64 >>> ((27 : Int32) &&& 0x3f).toInt64.toUInt64).toInt64)), (.long v2)])) _
    refine XS.lxor X0.here hx rfl (hb hby d3_16) rfl ?_
    show Steps p.tables e below (s₁.setTop (mkF m 17 #[.val (.long q0), .second, .val (.long v2), .second] [(.long (v2 ^^^ ((v2.toUInt64 >>> ((27 : Int32) &&& 0x3f).toInt64.toUInt64).toInt64)))])) _
    refine X0.ldc2Long hx hown (mvT hZ (hw _ (List.mem_of_getElem? (i := 15) rfl))) (g := (mkF m 17 #[.val (.long q0), .second, .val (.long v2), .second] [(.long (v2 ^^^ ((v2.toUInt64 >>> ((27 : Int32) &&& 0x3f).toInt64.toUInt64).toInt64)))])) rfl (hb hby d3_17) _ ?_
    show Steps p.tables e below (s₁.setTop (mkF m 20 #[.val (.long q0), .second, .val (.long v2), .second] [(.long (-7723592293110705685 : Int64)), (.long (v2 ^^^ ((v2.toUInt64 >>> ((27 : Int32) &&& 0x3f).toInt64.toUInt64).toInt64)))])) _
    refine XS.lmul X0.here hx rfl (hb hby d3_20) rfl ?_
    exact k)
  obtain ⟨v4, hv4⟩ : ∃ z : Int64, z = ((v2 ^^^ ((v2.toUInt64 >>> ((27 : Int32) &&& 0x3f).toInt64.toUInt64).toInt64)) * (-7723592293110705685 : Int64)) := ⟨_, rfl⟩
  rw [← hv4] at ks3
  have ks5 : own_R p e below (s₁.setTop (entryFrame m #[(.long q0)] 4)) (s₁.setTop (mkF m 28 #[.val (.long q0), .second, .val (.long v4), .second] [(.long (v4 ^^^ ((v4.toUInt64 >>> ((31 : Int32) &&& 0x3f).toInt64.toUInt64).toInt64)))])) := fun t k => ks3 t (by
    show Steps p.tables e below (s₁.setTop (mkF m 21 #[.val (.long q0), .second, .val (.long v2), .second] [(.long v4)])) _
    refine XS.lstoreN X0.here hx rfl (hb hby d3_21) rfl (l' := #[.val (.long q0), .second, .val (.long v4), .second]) rfl ?_
    show Steps p.tables e below (s₁.setTop (mkF m 22 #[.val (.long q0), .second, .val (.long v4), .second] [])) _
    refine XS.lloadN X0.here hx rfl (hb hby d3_22) rfl ?_
    show Steps p.tables e below (s₁.setTop (mkF m 23 #[.val (.long q0), .second, .val (.long v4), .second] [(.long v4)])) _
    refine XS.lloadN X0.here hx rfl (hb hby d3_23) rfl ?_
    show Steps p.tables e below (s₁.setTop (mkF m 24 #[.val (.long q0), .second, .val (.long v4), .second] [(.long v4), (.long v4)])) _
    refine XS.bipush X0.here hx rfl (hb hby d3_24) ?_
    show Steps p.tables e below (s₁.setTop (mkF m 26 #[.val (.long q0), .second, .val (.long v4), .second] [(.int (31 : Int32)), (.long v4), (.long v4)])) _
    refine XS.lushr X0.here hx rfl (hb hby d3_26) rfl ?_
    show Steps p.tables e below (s₁.setTop (mkF m 27 #[.val (.long q0), .second, .val (.long v4), .second] [(.long ((v4.toUInt64 >>> ((31 : Int32) &&& 0x3f).toInt64.toUInt64).toInt64)), (.long v4)])) _
    refine XS.lxor X0.here hx rfl (hb hby d3_27) rfl ?_
    exact k)
  obtain ⟨fs, hr, hrun, hended, hW, hsame⟩ := X0.leave (v := some (.long (v4 ^^^ ((v4.toUInt64 >>> ((31 : Int32) &&& 0x3f).toInt64.toUInt64).toInt64)))) (fun h => by rw [Bd.returns] at h; cases h)
  refine ⟨_, _, ks5 _ ?_, hrun, hended, _, _, rfl, ?_, ⟨_, rfl⟩, hW, hsame.mono (by decide) (by decide)⟩
  · exact retOut X0 hx Bd.returns rfl (Or.inr (Or.inl ⟨rfl, rfl, _, rfl⟩)) (hb hby d3_28) hr
  · show Q3 Z q0 h0 n0 _ s₁.heap _
    rw [e0]
    subst hv4
    subst hv2
    refine ⟨?_, N0, rfl⟩
    rw [own_mix]
def own_inv (q0 : Int64) : Int64 := (((((q0 * ((2 : Int64) - (q0 * q0))) * ((2 : Int64) - (q0 * (q0 * ((2 : Int64) - (q0 * q0)))))) * ((2 : Int64) - (q0 * ((q0 * ((2 : Int64) - (q0 * q0))) * ((2 : Int64) - (q0 * (q0 * ((2 : Int64) - (q0 * q0))))))))) * ((2 : Int64) - (q0 * (((q0 * ((2 : Int64) - (q0 * q0))) * ((2 : Int64) - (q0 * (q0 * ((2 : Int64) - (q0 * q0)))))) * ((2 : Int64) - (q0 * ((q0 * ((2 : Int64) - (q0 * q0))) * ((2 : Int64) - (q0 * (q0 * ((2 : Int64) - (q0 * q0)))))))))))) * ((2 : Int64) - (q0 * ((((q0 * ((2 : Int64) - (q0 * q0))) * ((2 : Int64) - (q0 * (q0 * ((2 : Int64) - (q0 * q0)))))) * ((2 : Int64) - (q0 * ((q0 * ((2 : Int64) - (q0 * q0))) * ((2 : Int64) - (q0 * (q0 * ((2 : Int64) - (q0 * q0))))))))) * ((2 : Int64) - (q0 * (((q0 * ((2 : Int64) - (q0 * q0))) * ((2 : Int64) - (q0 * (q0 * ((2 : Int64) - (q0 * q0)))))) * ((2 : Int64) - (q0 * ((q0 * ((2 : Int64) - (q0 * q0))) * ((2 : Int64) - (q0 * (q0 * ((2 : Int64) - (q0 * q0)))))))))))))))
theorem d6_0 : decode method_2_code 0 = .ok (.lload_n 0, 1) := by decide +kernel
theorem d6_1 : decode method_2_code 1 = .ok (.lstore_n 2, 1) := by decide +kernel
theorem d6_2 : decode method_2_code 2 = .ok (.lload_n 2, 1) := by decide +kernel
theorem d6_3 : decode method_2_code 3 = .ok (.ldc2_w 7, 3) := by decide +kernel
theorem d6_6 : decode method_2_code 6 = .ok (.lload_n 0, 1) := by decide +kernel
theorem d6_7 : decode method_2_code 7 = .ok (.lload_n 2, 1) := by decide +kernel
theorem d6_8 : decode method_2_code 8 = .ok (.lmul, 1) := by decide +kernel
theorem d6_9 : decode method_2_code 9 = .ok (.lsub, 1) := by decide +kernel
theorem d6_10 : decode method_2_code 10 = .ok (.lmul, 1) := by decide +kernel
theorem d6_11 : decode method_2_code 11 = .ok (.lstore_n 2, 1) := by decide +kernel
theorem d6_12 : decode method_2_code 12 = .ok (.lload_n 2, 1) := by decide +kernel
theorem d6_13 : decode method_2_code 13 = .ok (.ldc2_w 7, 3) := by decide +kernel
theorem d6_16 : decode method_2_code 16 = .ok (.lload_n 0, 1) := by decide +kernel
theorem d6_17 : decode method_2_code 17 = .ok (.lload_n 2, 1) := by decide +kernel
theorem d6_18 : decode method_2_code 18 = .ok (.lmul, 1) := by decide +kernel
theorem d6_19 : decode method_2_code 19 = .ok (.lsub, 1) := by decide +kernel
theorem d6_20 : decode method_2_code 20 = .ok (.lmul, 1) := by decide +kernel
theorem d6_21 : decode method_2_code 21 = .ok (.lstore_n 2, 1) := by decide +kernel
theorem d6_22 : decode method_2_code 22 = .ok (.lload_n 2, 1) := by decide +kernel
theorem d6_23 : decode method_2_code 23 = .ok (.ldc2_w 7, 3) := by decide +kernel
theorem d6_26 : decode method_2_code 26 = .ok (.lload_n 0, 1) := by decide +kernel
theorem d6_27 : decode method_2_code 27 = .ok (.lload_n 2, 1) := by decide +kernel
theorem d6_28 : decode method_2_code 28 = .ok (.lmul, 1) := by decide +kernel
theorem d6_29 : decode method_2_code 29 = .ok (.lsub, 1) := by decide +kernel
theorem d6_30 : decode method_2_code 30 = .ok (.lmul, 1) := by decide +kernel
theorem d6_31 : decode method_2_code 31 = .ok (.lstore_n 2, 1) := by decide +kernel
theorem d6_32 : decode method_2_code 32 = .ok (.lload_n 2, 1) := by decide +kernel
theorem d6_33 : decode method_2_code 33 = .ok (.ldc2_w 7, 3) := by decide +kernel
theorem d6_36 : decode method_2_code 36 = .ok (.lload_n 0, 1) := by decide +kernel
theorem d6_37 : decode method_2_code 37 = .ok (.lload_n 2, 1) := by decide +kernel
theorem d6_38 : decode method_2_code 38 = .ok (.lmul, 1) := by decide +kernel
theorem d6_39 : decode method_2_code 39 = .ok (.lsub, 1) := by decide +kernel
theorem d6_40 : decode method_2_code 40 = .ok (.lmul, 1) := by decide +kernel
theorem d6_41 : decode method_2_code 41 = .ok (.lstore_n 2, 1) := by decide +kernel
theorem d6_42 : decode method_2_code 42 = .ok (.lload_n 2, 1) := by decide +kernel
theorem d6_43 : decode method_2_code 43 = .ok (.ldc2_w 7, 3) := by decide +kernel
theorem d6_46 : decode method_2_code 46 = .ok (.lload_n 0, 1) := by decide +kernel
theorem d6_47 : decode method_2_code 47 = .ok (.lload_n 2, 1) := by decide +kernel
theorem d6_48 : decode method_2_code 48 = .ok (.lmul, 1) := by decide +kernel
theorem d6_49 : decode method_2_code 49 = .ok (.lsub, 1) := by decide +kernel
theorem d6_50 : decode method_2_code 50 = .ok (.lmul, 1) := by decide +kernel
theorem d6_51 : decode method_2_code 51 = .ok (.lstore_n 2, 1) := by decide +kernel
theorem d6_52 : decode method_2_code 52 = .ok (.lload_n 2, 1) := by decide +kernel
theorem d6_53 : decode method_2_code 53 = .ok (.lreturn, 1) := by decide +kernel
theorem pn_6 : plainName "com/example/carved_corpus/carvedcorpus/cli/SeededRandomNextLongPinLaw" = true := by first | (simp [plainName, overriddenIn]; done) | decide +kernel
theorem ef_6 (m : MethodId) (x0 : Int64) : entryFrame m #[(.long x0)] 4 = mkF m 0 #[.val (.long x0), .second, .unset, .unset] [] := by first | (simp [entryFrame, mkF, argsToLocals, Value.category]; done) | rfl
def Q6 (Z : State) (q0 : Int64) (h0 : Heap) (n0 : Nat) (v : Option Value) (h : Heap) (L : List Loc) : Prop := v = some (.long (own_inv q0)) ∧ Fr n0 L ∧ h = h0
set_option maxRecDepth 65536 in
set_option maxHeartbeats 40000000 in
theorem rm6 (l : Launch) (Z : State) (a0 : Array Value) (hw : ∀ d ∈ tables_1, d.before a0 Z = true) (ws : List Jvm.Cond) (q0 : Int64) (h0 : Heap) (n0 : Nat) (Z0 : n0 ≤ h0.size) :
    MetFree l (⟨"com/example/carved_corpus/carvedcorpus/cli/SeededRandomNextLongPinLaw", "inverse", "(J)J"⟩ : MethodName) (head1 (Jvm.Cond.code (⟨"com/example/carved_corpus/carvedcorpus/cli/SeededRandomNextLongPinLaw", "inverse", "(J)J"⟩ : MethodName) method_2_code 4 (some .long) :: ws) ({ frames := 0, cells := 0, slots := 0, locals := 0 } : Room)) (fun a U => a = #[(.long q0)] ∧ Z.Warmed39 U.vm ∧ U.heap = h0) (fun _ _ _ _ _ => True) (fun _ U o U' => ∃ v L, o = .returned v ∧ Q6 Z q0 h0 n0 v U'.heap L ∧ FrameEnd U o U' L ({ frames := 0, cells := 0, slots := 0, locals := 0 } : Room).cells ({ frames := 0, cells := 0, slots := 0, locals := 0 } : Room).slots) := by
  refine MetFree.of_bodySF (plainFor_of_name pn_6) hisR ?_
  intro p e s m args below meth c s₁ Bd hml0 hP hK
  obtain ⟨rfl, hZ, hh⟩ := hP
  have hx := Bd.exec
  have hby := Bd.bytes
  have hml : c.maxLocals = 4 := hml0
  have hown : s.vm.findClass "com/example/carved_corpus/carvedcorpus/cli/SeededRandomNextLongPinLaw" = some m.cls := findClass_of_methodNamed Bd.named
  have hnm := (name_of_methodNamed Bd.named Bd.method).1
  have X0 : Stand p l e ({ frames := 0, cells := 0, slots := 0, locals := 0 } : Room) s m #[(.long q0)] below meth c s₁ [] 0 0 := Stand.of_body Bd
  have e0 : s₁.heap = h0 := by rw [← hh, Bd.state]; rfl
  have N0 := Fr.nil n0
  have k0 : own_R p e below (s₁.setTop (entryFrame m #[(.long q0)] 4)) (s₁.setTop (mkF m 0 #[.val (.long q0), .second, .unset, .unset] [])) := fun t k => castTop (ef_6 m q0) k
  have ks1 : own_R p e below (s₁.setTop (entryFrame m #[(.long q0)] 4)) (s₁.setTop (mkF m 11 #[.val (.long q0), .second, .val (.long q0), .second] [(.long (q0 * ((2 : Int64) - (q0 * q0))))])) := fun t k => k0 t (by
    show Steps p.tables e below (s₁.setTop (mkF m 0 #[.val (.long q0), .second, .unset, .unset] [])) _
    refine XS.lloadN X0.here hx rfl (hb hby d6_0) rfl ?_
    show Steps p.tables e below (s₁.setTop (mkF m 1 #[.val (.long q0), .second, .unset, .unset] [(.long q0)])) _
    refine XS.lstoreN X0.here hx rfl (hb hby d6_1) rfl (l' := #[.val (.long q0), .second, .val (.long q0), .second]) rfl ?_
    show Steps p.tables e below (s₁.setTop (mkF m 2 #[.val (.long q0), .second, .val (.long q0), .second] [])) _
    refine XS.lloadN X0.here hx rfl (hb hby d6_2) rfl ?_
    show Steps p.tables e below (s₁.setTop (mkF m 3 #[.val (.long q0), .second, .val (.long q0), .second] [(.long q0)])) _
    refine X0.ldc2Long hx hown (mvT hZ (hw _ (List.mem_of_getElem? (i := 31) rfl))) (g := (mkF m 3 #[.val (.long q0), .second, .val (.long q0), .second] [(.long q0)])) rfl (hb hby d6_3) _ ?_
    show Steps p.tables e below (s₁.setTop (mkF m 6 #[.val (.long q0), .second, .val (.long q0), .second] [(.long (2 : Int64)), (.long q0)])) _
    refine XS.lloadN X0.here hx rfl (hb hby d6_6) rfl ?_
    show Steps p.tables e below (s₁.setTop (mkF m 7 #[.val (.long q0), .second, .val (.long q0), .second] [(.long q0), (.long (2 : Int64)), (.long q0)])) _
    refine XS.lloadN X0.here hx rfl (hb hby d6_7) rfl ?_
    show Steps p.tables e below (s₁.setTop (mkF m 8 #[.val (.long q0), .second, .val (.long q0), .second] [(.long q0), (.long q0), (.long (2 : Int64)), (.long q0)])) _
    refine XS.lmul X0.here hx rfl (hb hby d6_8) rfl ?_
    show Steps p.tables e below (s₁.setTop (mkF m 9 #[.val (.long q0), .second, .val (.long q0), .second] [(.long (q0 * q0)), (.long (2 : Int64)), (.long q0)])) _
    refine XS.lsub X0.here hx rfl (hb hby d6_9) rfl ?_
    show Steps p.tables e below (s₁.setTop (mkF m 10 #[.val (.long q0), .second, .val (.long q0), .second] [(.long ((2 : Int64) - (q0 * q0))), (.long q0)])) _
    refine XS.lmul X0.here hx rfl (hb hby d6_10) rfl ?_
    exact k)
  obtain ⟨v2, hv2⟩ : ∃ z : Int64, z = (q0 * ((2 : Int64) - (q0 * q0))) := ⟨_, rfl⟩
  rw [← hv2] at ks1
  have ks3 : own_R p e below (s₁.setTop (entryFrame m #[(.long q0)] 4)) (s₁.setTop (mkF m 21 #[.val (.long q0), .second, .val (.long v2), .second] [(.long (v2 * ((2 : Int64) - (q0 * v2))))])) := fun t k => ks1 t (by
    show Steps p.tables e below (s₁.setTop (mkF m 11 #[.val (.long q0), .second, .val (.long q0), .second] [(.long v2)])) _
    refine XS.lstoreN X0.here hx rfl (hb hby d6_11) rfl (l' := #[.val (.long q0), .second, .val (.long v2), .second]) rfl ?_
    show Steps p.tables e below (s₁.setTop (mkF m 12 #[.val (.long q0), .second, .val (.long v2), .second] [])) _
    refine XS.lloadN X0.here hx rfl (hb hby d6_12) rfl ?_
    show Steps p.tables e below (s₁.setTop (mkF m 13 #[.val (.long q0), .second, .val (.long v2), .second] [(.long v2)])) _
    refine X0.ldc2Long hx hown (mvT hZ (hw _ (List.mem_of_getElem? (i := 31) rfl))) (g := (mkF m 13 #[.val (.long q0), .second, .val (.long v2), .second] [(.long v2)])) rfl (hb hby d6_13) _ ?_
    show Steps p.tables e below (s₁.setTop (mkF m 16 #[.val (.long q0), .second, .val (.long v2), .second] [(.long (2 : Int64)), (.long v2)])) _
    refine XS.lloadN X0.here hx rfl (hb hby d6_16) rfl ?_
    show Steps p.tables e below (s₁.setTop (mkF m 17 #[.val (.long q0), .second, .val (.long v2), .second] [(.long q0), (.long (2 : Int64)), (.long v2)])) _
    refine XS.lloadN X0.here hx rfl (hb hby d6_17) rfl ?_
    show Steps p.tables e below (s₁.setTop (mkF m 18 #[.val (.long q0), .second, .val (.long v2), .second] [(.long v2), (.long q0), (.long (2 : Int64)), (.long v2)])) _
    refine XS.lmul X0.here hx rfl (hb hby d6_18) rfl ?_
    show Steps p.tables e below (s₁.setTop (mkF m 19 #[.val (.long q0), .second, .val (.long v2), .second] [(.long (q0 * v2)), (.long (2 : Int64)), (.long v2)])) _
    refine XS.lsub X0.here hx rfl (hb hby d6_19) rfl ?_
    show Steps p.tables e below (s₁.setTop (mkF m 20 #[.val (.long q0), .second, .val (.long v2), .second] [(.long ((2 : Int64) - (q0 * v2))), (.long v2)])) _
    refine XS.lmul X0.here hx rfl (hb hby d6_20) rfl ?_
    exact k)
  obtain ⟨v4, hv4⟩ : ∃ z : Int64, z = (v2 * ((2 : Int64) - (q0 * v2))) := ⟨_, rfl⟩
  rw [← hv4] at ks3
  have ks5 : own_R p e below (s₁.setTop (entryFrame m #[(.long q0)] 4)) (s₁.setTop (mkF m 31 #[.val (.long q0), .second, .val (.long v4), .second] [(.long (v4 * ((2 : Int64) - (q0 * v4))))])) := fun t k => ks3 t (by
    show Steps p.tables e below (s₁.setTop (mkF m 21 #[.val (.long q0), .second, .val (.long v2), .second] [(.long v4)])) _
    refine XS.lstoreN X0.here hx rfl (hb hby d6_21) rfl (l' := #[.val (.long q0), .second, .val (.long v4), .second]) rfl ?_
    show Steps p.tables e below (s₁.setTop (mkF m 22 #[.val (.long q0), .second, .val (.long v4), .second] [])) _
    refine XS.lloadN X0.here hx rfl (hb hby d6_22) rfl ?_
    show Steps p.tables e below (s₁.setTop (mkF m 23 #[.val (.long q0), .second, .val (.long v4), .second] [(.long v4)])) _
    refine X0.ldc2Long hx hown (mvT hZ (hw _ (List.mem_of_getElem? (i := 31) rfl))) (g := (mkF m 23 #[.val (.long q0), .second, .val (.long v4), .second] [(.long v4)])) rfl (hb hby d6_23) _ ?_
    show Steps p.tables e below (s₁.setTop (mkF m 26 #[.val (.long q0), .second, .val (.long v4), .second] [(.long (2 : Int64)), (.long v4)])) _
    refine XS.lloadN X0.here hx rfl (hb hby d6_26) rfl ?_
    show Steps p.tables e below (s₁.setTop (mkF m 27 #[.val (.long q0), .second, .val (.long v4), .second] [(.long q0), (.long (2 : Int64)), (.long v4)])) _
    refine XS.lloadN X0.here hx rfl (hb hby d6_27) rfl ?_
    show Steps p.tables e below (s₁.setTop (mkF m 28 #[.val (.long q0), .second, .val (.long v4), .second] [(.long v4), (.long q0), (.long (2 : Int64)), (.long v4)])) _
    refine XS.lmul X0.here hx rfl (hb hby d6_28) rfl ?_
    show Steps p.tables e below (s₁.setTop (mkF m 29 #[.val (.long q0), .second, .val (.long v4), .second] [(.long (q0 * v4)), (.long (2 : Int64)), (.long v4)])) _
    refine XS.lsub X0.here hx rfl (hb hby d6_29) rfl ?_
    show Steps p.tables e below (s₁.setTop (mkF m 30 #[.val (.long q0), .second, .val (.long v4), .second] [(.long ((2 : Int64) - (q0 * v4))), (.long v4)])) _
    refine XS.lmul X0.here hx rfl (hb hby d6_30) rfl ?_
    exact k)
  obtain ⟨v6, hv6⟩ : ∃ z : Int64, z = (v4 * ((2 : Int64) - (q0 * v4))) := ⟨_, rfl⟩
  rw [← hv6] at ks5
  have ks7 : own_R p e below (s₁.setTop (entryFrame m #[(.long q0)] 4)) (s₁.setTop (mkF m 41 #[.val (.long q0), .second, .val (.long v6), .second] [(.long (v6 * ((2 : Int64) - (q0 * v6))))])) := fun t k => ks5 t (by
    show Steps p.tables e below (s₁.setTop (mkF m 31 #[.val (.long q0), .second, .val (.long v4), .second] [(.long v6)])) _
    refine XS.lstoreN X0.here hx rfl (hb hby d6_31) rfl (l' := #[.val (.long q0), .second, .val (.long v6), .second]) rfl ?_
    show Steps p.tables e below (s₁.setTop (mkF m 32 #[.val (.long q0), .second, .val (.long v6), .second] [])) _
    refine XS.lloadN X0.here hx rfl (hb hby d6_32) rfl ?_
    show Steps p.tables e below (s₁.setTop (mkF m 33 #[.val (.long q0), .second, .val (.long v6), .second] [(.long v6)])) _
    refine X0.ldc2Long hx hown (mvT hZ (hw _ (List.mem_of_getElem? (i := 31) rfl))) (g := (mkF m 33 #[.val (.long q0), .second, .val (.long v6), .second] [(.long v6)])) rfl (hb hby d6_33) _ ?_
    show Steps p.tables e below (s₁.setTop (mkF m 36 #[.val (.long q0), .second, .val (.long v6), .second] [(.long (2 : Int64)), (.long v6)])) _
    refine XS.lloadN X0.here hx rfl (hb hby d6_36) rfl ?_
    show Steps p.tables e below (s₁.setTop (mkF m 37 #[.val (.long q0), .second, .val (.long v6), .second] [(.long q0), (.long (2 : Int64)), (.long v6)])) _
    refine XS.lloadN X0.here hx rfl (hb hby d6_37) rfl ?_
    show Steps p.tables e below (s₁.setTop (mkF m 38 #[.val (.long q0), .second, .val (.long v6), .second] [(.long v6), (.long q0), (.long (2 : Int64)), (.long v6)])) _
    refine XS.lmul X0.here hx rfl (hb hby d6_38) rfl ?_
    show Steps p.tables e below (s₁.setTop (mkF m 39 #[.val (.long q0), .second, .val (.long v6), .second] [(.long (q0 * v6)), (.long (2 : Int64)), (.long v6)])) _
    refine XS.lsub X0.here hx rfl (hb hby d6_39) rfl ?_
    show Steps p.tables e below (s₁.setTop (mkF m 40 #[.val (.long q0), .second, .val (.long v6), .second] [(.long ((2 : Int64) - (q0 * v6))), (.long v6)])) _
    refine XS.lmul X0.here hx rfl (hb hby d6_40) rfl ?_
    exact k)
  obtain ⟨v8, hv8⟩ : ∃ z : Int64, z = (v6 * ((2 : Int64) - (q0 * v6))) := ⟨_, rfl⟩
  rw [← hv8] at ks7
  have ks9 : own_R p e below (s₁.setTop (entryFrame m #[(.long q0)] 4)) (s₁.setTop (mkF m 51 #[.val (.long q0), .second, .val (.long v8), .second] [(.long (v8 * ((2 : Int64) - (q0 * v8))))])) := fun t k => ks7 t (by
    show Steps p.tables e below (s₁.setTop (mkF m 41 #[.val (.long q0), .second, .val (.long v6), .second] [(.long v8)])) _
    refine XS.lstoreN X0.here hx rfl (hb hby d6_41) rfl (l' := #[.val (.long q0), .second, .val (.long v8), .second]) rfl ?_
    show Steps p.tables e below (s₁.setTop (mkF m 42 #[.val (.long q0), .second, .val (.long v8), .second] [])) _
    refine XS.lloadN X0.here hx rfl (hb hby d6_42) rfl ?_
    show Steps p.tables e below (s₁.setTop (mkF m 43 #[.val (.long q0), .second, .val (.long v8), .second] [(.long v8)])) _
    refine X0.ldc2Long hx hown (mvT hZ (hw _ (List.mem_of_getElem? (i := 31) rfl))) (g := (mkF m 43 #[.val (.long q0), .second, .val (.long v8), .second] [(.long v8)])) rfl (hb hby d6_43) _ ?_
    show Steps p.tables e below (s₁.setTop (mkF m 46 #[.val (.long q0), .second, .val (.long v8), .second] [(.long (2 : Int64)), (.long v8)])) _
    refine XS.lloadN X0.here hx rfl (hb hby d6_46) rfl ?_
    show Steps p.tables e below (s₁.setTop (mkF m 47 #[.val (.long q0), .second, .val (.long v8), .second] [(.long q0), (.long (2 : Int64)), (.long v8)])) _
    refine XS.lloadN X0.here hx rfl (hb hby d6_47) rfl ?_
    show Steps p.tables e below (s₁.setTop (mkF m 48 #[.val (.long q0), .second, .val (.long v8), .second] [(.long v8), (.long q0), (.long (2 : Int64)), (.long v8)])) _
    refine XS.lmul X0.here hx rfl (hb hby d6_48) rfl ?_
    show Steps p.tables e below (s₁.setTop (mkF m 49 #[.val (.long q0), .second, .val (.long v8), .second] [(.long (q0 * v8)), (.long (2 : Int64)), (.long v8)])) _
    refine XS.lsub X0.here hx rfl (hb hby d6_49) rfl ?_
    show Steps p.tables e below (s₁.setTop (mkF m 50 #[.val (.long q0), .second, .val (.long v8), .second] [(.long ((2 : Int64) - (q0 * v8))), (.long v8)])) _
    refine XS.lmul X0.here hx rfl (hb hby d6_50) rfl ?_
    exact k)
  obtain ⟨v10, hv10⟩ : ∃ z : Int64, z = (v8 * ((2 : Int64) - (q0 * v8))) := ⟨_, rfl⟩
  rw [← hv10] at ks9
  have ks11 : own_R p e below (s₁.setTop (entryFrame m #[(.long q0)] 4)) (s₁.setTop (mkF m 53 #[.val (.long q0), .second, .val (.long v10), .second] [(.long v10)])) := fun t k => ks9 t (by
    show Steps p.tables e below (s₁.setTop (mkF m 51 #[.val (.long q0), .second, .val (.long v8), .second] [(.long v10)])) _
    refine XS.lstoreN X0.here hx rfl (hb hby d6_51) rfl (l' := #[.val (.long q0), .second, .val (.long v10), .second]) rfl ?_
    show Steps p.tables e below (s₁.setTop (mkF m 52 #[.val (.long q0), .second, .val (.long v10), .second] [])) _
    refine XS.lloadN X0.here hx rfl (hb hby d6_52) rfl ?_
    exact k)
  obtain ⟨fs, hr, hrun, hended, hW, hsame⟩ := X0.leave (v := some (.long v10)) (fun h => by rw [Bd.returns] at h; cases h)
  refine ⟨_, _, ks11 _ ?_, hrun, hended, _, _, rfl, ?_, ⟨_, rfl⟩, hW, hsame.mono (by decide) (by decide)⟩
  · exact retOut X0 hx Bd.returns rfl (Or.inr (Or.inl ⟨rfl, rfl, _, rfl⟩)) (hb hby d6_53) hr
  · show Q6 Z q0 h0 n0 _ s₁.heap _
    rw [e0]
    subst hv10
    subst hv8
    subst hv6
    subst hv4
    subst hv2
    refine ⟨?_, N0, rfl⟩
    rw [own_inv]
def own_unmix (q0 : Int64) : Int64 := ((((((((q0 ^^^ ((q0.toUInt64 >>> ((31 : Int32) &&& 0x3f).toInt64.toUInt64).toInt64)) ^^^ ((q0.toUInt64 >>> ((62 : Int32) &&& 0x3f).toInt64.toUInt64).toInt64)) * (own_inv (-7723592293110705685 : Int64))) ^^^ (((((q0 ^^^ ((q0.toUInt64 >>> ((31 : Int32) &&& 0x3f).toInt64.toUInt64).toInt64)) ^^^ ((q0.toUInt64 >>> ((62 : Int32) &&& 0x3f).toInt64.toUInt64).toInt64)) * (own_inv (-7723592293110705685 : Int64))).toUInt64 >>> ((27 : Int32) &&& 0x3f).toInt64.toUInt64).toInt64)) ^^^ (((((q0 ^^^ ((q0.toUInt64 >>> ((31 : Int32) &&& 0x3f).toInt64.toUInt64).toInt64)) ^^^ ((q0.toUInt64 >>> ((62 : Int32) &&& 0x3f).toInt64.toUInt64).toInt64)) * (own_inv (-7723592293110705685 : Int64))).toUInt64 >>> ((54 : Int32) &&& 0x3f).toInt64.toUInt64).toInt64)) * (own_inv (-4658895280553007687 : Int64))) ^^^ ((((((((q0 ^^^ ((q0.toUInt64 >>> ((31 : Int32) &&& 0x3f).toInt64.toUInt64).toInt64)) ^^^ ((q0.toUInt64 >>> ((62 : Int32) &&& 0x3f).toInt64.toUInt64).toInt64)) * (own_inv (-7723592293110705685 : Int64))) ^^^ (((((q0 ^^^ ((q0.toUInt64 >>> ((31 : Int32) &&& 0x3f).toInt64.toUInt64).toInt64)) ^^^ ((q0.toUInt64 >>> ((62 : Int32) &&& 0x3f).toInt64.toUInt64).toInt64)) * (own_inv (-7723592293110705685 : Int64))).toUInt64 >>> ((27 : Int32) &&& 0x3f).toInt64.toUInt64).toInt64)) ^^^ (((((q0 ^^^ ((q0.toUInt64 >>> ((31 : Int32) &&& 0x3f).toInt64.toUInt64).toInt64)) ^^^ ((q0.toUInt64 >>> ((62 : Int32) &&& 0x3f).toInt64.toUInt64).toInt64)) * (own_inv (-7723592293110705685 : Int64))).toUInt64 >>> ((54 : Int32) &&& 0x3f).toInt64.toUInt64).toInt64)) * (own_inv (-4658895280553007687 : Int64))).toUInt64 >>> ((30 : Int32) &&& 0x3f).toInt64.toUInt64).toInt64)) ^^^ ((((((((q0 ^^^ ((q0.toUInt64 >>> ((31 : Int32) &&& 0x3f).toInt64.toUInt64).toInt64)) ^^^ ((q0.toUInt64 >>> ((62 : Int32) &&& 0x3f).toInt64.toUInt64).toInt64)) * (own_inv (-7723592293110705685 : Int64))) ^^^ (((((q0 ^^^ ((q0.toUInt64 >>> ((31 : Int32) &&& 0x3f).toInt64.toUInt64).toInt64)) ^^^ ((q0.toUInt64 >>> ((62 : Int32) &&& 0x3f).toInt64.toUInt64).toInt64)) * (own_inv (-7723592293110705685 : Int64))).toUInt64 >>> ((27 : Int32) &&& 0x3f).toInt64.toUInt64).toInt64)) ^^^ (((((q0 ^^^ ((q0.toUInt64 >>> ((31 : Int32) &&& 0x3f).toInt64.toUInt64).toInt64)) ^^^ ((q0.toUInt64 >>> ((62 : Int32) &&& 0x3f).toInt64.toUInt64).toInt64)) * (own_inv (-7723592293110705685 : Int64))).toUInt64 >>> ((54 : Int32) &&& 0x3f).toInt64.toUInt64).toInt64)) * (own_inv (-4658895280553007687 : Int64))).toUInt64 >>> ((60 : Int32) &&& 0x3f).toInt64.toUInt64).toInt64))
theorem d5_0 : decode method_3_code 0 = .ok (.lload_n 0, 1) := by decide +kernel
theorem d5_1 : decode method_3_code 1 = .ok (.lload_n 0, 1) := by decide +kernel
theorem d5_2 : decode method_3_code 2 = .ok (.bipush 31, 2) := by decide +kernel
theorem d5_4 : decode method_3_code 4 = .ok (.lushr, 1) := by decide +kernel
theorem d5_5 : decode method_3_code 5 = .ok (.lxor, 1) := by decide +kernel
theorem d5_6 : decode method_3_code 6 = .ok (.lload_n 0, 1) := by decide +kernel
theorem d5_7 : decode method_3_code 7 = .ok (.bipush 62, 2) := by decide +kernel
theorem d5_9 : decode method_3_code 9 = .ok (.lushr, 1) := by decide +kernel
theorem d5_10 : decode method_3_code 10 = .ok (.lxor, 1) := by decide +kernel
theorem d5_11 : decode method_3_code 11 = .ok (.lstore_n 2, 1) := by decide +kernel
theorem d5_12 : decode method_3_code 12 = .ok (.lload_n 2, 1) := by decide +kernel
theorem d5_13 : decode method_3_code 13 = .ok (.ldc2_w 9, 3) := by decide +kernel
theorem d5_16 : decode method_3_code 16 = .ok (.invokestatic 11, 3) := by decide +kernel
theorem d5_19 : decode method_3_code 19 = .ok (.lmul, 1) := by decide +kernel
theorem d5_20 : decode method_3_code 20 = .ok (.lstore_n 2, 1) := by decide +kernel
theorem d5_21 : decode method_3_code 21 = .ok (.lload_n 2, 1) := by decide +kernel
theorem d5_22 : decode method_3_code 22 = .ok (.lload_n 2, 1) := by decide +kernel
theorem d5_23 : decode method_3_code 23 = .ok (.bipush 27, 2) := by decide +kernel
theorem d5_25 : decode method_3_code 25 = .ok (.lushr, 1) := by decide +kernel
theorem d5_26 : decode method_3_code 26 = .ok (.lxor, 1) := by decide +kernel
theorem d5_27 : decode method_3_code 27 = .ok (.lload_n 2, 1) := by decide +kernel
theorem d5_28 : decode method_3_code 28 = .ok (.bipush 54, 2) := by decide +kernel
theorem d5_30 : decode method_3_code 30 = .ok (.lushr, 1) := by decide +kernel
theorem d5_31 : decode method_3_code 31 = .ok (.lxor, 1) := by decide +kernel
theorem d5_32 : decode method_3_code 32 = .ok (.lstore_n 2, 1) := by decide +kernel
theorem d5_33 : decode method_3_code 33 = .ok (.lload_n 2, 1) := by decide +kernel
theorem d5_34 : decode method_3_code 34 = .ok (.ldc2_w 17, 3) := by decide +kernel
theorem d5_37 : decode method_3_code 37 = .ok (.invokestatic 11, 3) := by decide +kernel
theorem d5_40 : decode method_3_code 40 = .ok (.lmul, 1) := by decide +kernel
theorem d5_41 : decode method_3_code 41 = .ok (.lstore_n 2, 1) := by decide +kernel
theorem d5_42 : decode method_3_code 42 = .ok (.lload_n 2, 1) := by decide +kernel
theorem d5_43 : decode method_3_code 43 = .ok (.lload_n 2, 1) := by decide +kernel
theorem d5_44 : decode method_3_code 44 = .ok (.bipush 30, 2) := by decide +kernel
theorem d5_46 : decode method_3_code 46 = .ok (.lushr, 1) := by decide +kernel
theorem d5_47 : decode method_3_code 47 = .ok (.lxor, 1) := by decide +kernel
theorem d5_48 : decode method_3_code 48 = .ok (.lload_n 2, 1) := by decide +kernel
theorem d5_49 : decode method_3_code 49 = .ok (.bipush 60, 2) := by decide +kernel
theorem d5_51 : decode method_3_code 51 = .ok (.lushr, 1) := by decide +kernel
theorem d5_52 : decode method_3_code 52 = .ok (.lxor, 1) := by decide +kernel
theorem d5_53 : decode method_3_code 53 = .ok (.lreturn, 1) := by decide +kernel
theorem pn_5 : plainName "com/example/carved_corpus/carvedcorpus/cli/SeededRandomNextLongPinLaw" = true := by first | (simp [plainName, overriddenIn]; done) | decide +kernel
theorem pd_2 : parseMethodDescriptor "(J)J" = some ⟨[.long], some .long⟩ := by decide +kernel
theorem ef_5 (m : MethodId) (x0 : Int64) : entryFrame m #[(.long x0)] 4 = mkF m 0 #[.val (.long x0), .second, .unset, .unset] [] := by first | (simp [entryFrame, mkF, argsToLocals, Value.category]; done) | rfl
def Q5 (Z : State) (q0 : Int64) (h0 : Heap) (n0 : Nat) (v : Option Value) (h : Heap) (L : List Loc) : Prop := v = some (.long (own_unmix q0)) ∧ Fr n0 L ∧ h = h0
set_option maxRecDepth 65536 in
set_option maxHeartbeats 40000000 in
theorem rm5 (l : Launch) (Z : State) (a0 : Array Value) (hw : ∀ d ∈ tables_1, d.before a0 Z = true) (ws : List Jvm.Cond) (q0 : Int64) (h0 : Heap) (n0 : Nat) (Z0 : n0 ≤ h0.size) :
    MetFree l (⟨"com/example/carved_corpus/carvedcorpus/cli/SeededRandomNextLongPinLaw", "unmix", "(J)J"⟩ : MethodName) (head1 (Jvm.Cond.code (⟨"com/example/carved_corpus/carvedcorpus/cli/SeededRandomNextLongPinLaw", "unmix", "(J)J"⟩ : MethodName) method_3_code 4 (some .long) :: ws) ({ frames := 1, cells := 0, slots := 0, locals := 17 } : Room)) (fun a U => a = #[(.long q0)] ∧ Z.Warmed39 U.vm ∧ U.heap = h0) (fun _ _ _ _ _ => True) (fun _ U o U' => ∃ v L, o = .returned v ∧ Q5 Z q0 h0 n0 v U'.heap L ∧ FrameEnd U o U' L ({ frames := 1, cells := 0, slots := 0, locals := 17 } : Room).cells ({ frames := 1, cells := 0, slots := 0, locals := 17 } : Room).slots) := by
  refine MetFree.of_bodySF (plainFor_of_name pn_5) hisR ?_
  intro p e s m args below meth c s₁ Bd hml0 hP hK
  obtain ⟨rfl, hZ, hh⟩ := hP
  have hx := Bd.exec
  have hby := Bd.bytes
  have hml : c.maxLocals = 4 := hml0
  have hown : s.vm.findClass "com/example/carved_corpus/carvedcorpus/cli/SeededRandomNextLongPinLaw" = some m.cls := findClass_of_methodNamed Bd.named
  have hnm := (name_of_methodNamed Bd.named Bd.method).1
  have X0 : Stand p l e ({ frames := 1, cells := 0, slots := 0, locals := 17 } : Room) s m #[(.long q0)] below meth c s₁ [] 0 0 := Stand.of_body Bd
  have e0 : s₁.heap = h0 := by rw [← hh, Bd.state]; rfl
  have N0 := Fr.nil n0
  have k0 : own_R p e below (s₁.setTop (entryFrame m #[(.long q0)] 4)) (s₁.setTop (mkF m 0 #[.val (.long q0), .second, .unset, .unset] [])) := fun t k => castTop (ef_5 m q0) k
  have ks1 : own_R p e below (s₁.setTop (entryFrame m #[(.long q0)] 4)) (s₁.setTop (mkF m 11 #[.val (.long q0), .second, .unset, .unset] [(.long ((q0 ^^^ ((q0.toUInt64 >>> ((31 : Int32) &&& 0x3f).toInt64.toUInt64).toInt64)) ^^^ ((q0.toUInt64 >>> ((62 : Int32) &&& 0x3f).toInt64.toUInt64).toInt64)))])) := fun t k => k0 t (by
    show Steps p.tables e below (s₁.setTop (mkF m 0 #[.val (.long q0), .second, .unset, .unset] [])) _
    refine XS.lloadN X0.here hx rfl (hb hby d5_0) rfl ?_
    show Steps p.tables e below (s₁.setTop (mkF m 1 #[.val (.long q0), .second, .unset, .unset] [(.long q0)])) _
    refine XS.lloadN X0.here hx rfl (hb hby d5_1) rfl ?_
    show Steps p.tables e below (s₁.setTop (mkF m 2 #[.val (.long q0), .second, .unset, .unset] [(.long q0), (.long q0)])) _
    refine XS.bipush X0.here hx rfl (hb hby d5_2) ?_
    show Steps p.tables e below (s₁.setTop (mkF m 4 #[.val (.long q0), .second, .unset, .unset] [(.int (31 : Int32)), (.long q0), (.long q0)])) _
    refine XS.lushr X0.here hx rfl (hb hby d5_4) rfl ?_
    show Steps p.tables e below (s₁.setTop (mkF m 5 #[.val (.long q0), .second, .unset, .unset] [(.long ((q0.toUInt64 >>> ((31 : Int32) &&& 0x3f).toInt64.toUInt64).toInt64)), (.long q0)])) _
    refine XS.lxor X0.here hx rfl (hb hby d5_5) rfl ?_
    show Steps p.tables e below (s₁.setTop (mkF m 6 #[.val (.long q0), .second, .unset, .unset] [(.long (q0 ^^^ ((q0.toUInt64 >>> ((31 : Int32) &&& 0x3f).toInt64.toUInt64).toInt64)))])) _
    refine XS.lloadN X0.here hx rfl (hb hby d5_6) rfl ?_
    show Steps p.tables e below (s₁.setTop (mkF m 7 #[.val (.long q0), .second, .unset, .unset] [(.long q0), (.long (q0 ^^^ ((q0.toUInt64 >>> ((31 : Int32) &&& 0x3f).toInt64.toUInt64).toInt64)))])) _
    refine XS.bipush X0.here hx rfl (hb hby d5_7) ?_
    show Steps p.tables e below (s₁.setTop (mkF m 9 #[.val (.long q0), .second, .unset, .unset] [(.int (62 : Int32)), (.long q0), (.long (q0 ^^^ ((q0.toUInt64 >>> ((31 : Int32) &&& 0x3f).toInt64.toUInt64).toInt64)))])) _
    refine XS.lushr X0.here hx rfl (hb hby d5_9) rfl ?_
    show Steps p.tables e below (s₁.setTop (mkF m 10 #[.val (.long q0), .second, .unset, .unset] [(.long ((q0.toUInt64 >>> ((62 : Int32) &&& 0x3f).toInt64.toUInt64).toInt64)), (.long (q0 ^^^ ((q0.toUInt64 >>> ((31 : Int32) &&& 0x3f).toInt64.toUInt64).toInt64)))])) _
    refine XS.lxor X0.here hx rfl (hb hby d5_10) rfl ?_
    exact k)
  obtain ⟨v2, hv2⟩ : ∃ z : Int64, z = ((q0 ^^^ ((q0.toUInt64 >>> ((31 : Int32) &&& 0x3f).toInt64.toUInt64).toInt64)) ^^^ ((q0.toUInt64 >>> ((62 : Int32) &&& 0x3f).toInt64.toUInt64).toInt64)) := ⟨_, rfl⟩
  rw [← hv2] at ks1
  have ks3 : own_R p e below (s₁.setTop (entryFrame m #[(.long q0)] 4)) (s₁.setTop (mkF m 16 #[.val (.long q0), .second, .val (.long v2), .second] [(.long (-7723592293110705685 : Int64)), (.long v2)])) := fun t k => ks1 t (by
    show Steps p.tables e below (s₁.setTop (mkF m 11 #[.val (.long q0), .second, .unset, .unset] [(.long v2)])) _
    refine XS.lstoreN X0.here hx rfl (hb hby d5_11) rfl (l' := #[.val (.long q0), .second, .val (.long v2), .second]) rfl ?_
    show Steps p.tables e below (s₁.setTop (mkF m 12 #[.val (.long q0), .second, .val (.long v2), .second] [])) _
    refine XS.lloadN X0.here hx rfl (hb hby d5_12) rfl ?_
    show Steps p.tables e below (s₁.setTop (mkF m 13 #[.val (.long q0), .second, .val (.long v2), .second] [(.long v2)])) _
    refine X0.ldc2Long hx hown (mvT hZ (hw _ (List.mem_of_getElem? (i := 27) rfl))) (g := (mkF m 13 #[.val (.long q0), .second, .val (.long v2), .second] [(.long v2)])) rfl (hb hby d5_13) _ ?_
    exact k)
  obtain ⟨_, _, ⟨T4, L4, k4, n4⟩, -, X4, ⟨Lc4, hQ4, lq4, yq4, zq4⟩, st4⟩ := Jvm.LawKit.callS X0 hx (y := (⟨"com/example/carved_corpus/carvedcorpus/cli/SeededRandomNextLongPinLaw", "inverse", "(J)J"⟩ : MethodName)) hown (mvT hZ (hw _ (List.mem_of_getElem? (i := 28) rfl))) (mvT hZ (hw _ (List.mem_of_getElem? (i := 29) rfl))) (mvT hZ (hw _ (List.mem_of_getElem? (i := 25) rfl))) (mvT hZ (hw _ (List.mem_of_getElem? (i := 30) rfl))) (by decide) (backOf (W := 2) (rm6 l Z a0 hw [] (-7723592293110705685 : Int64) h0 n0 Z0 ) hZ (hw _ (List.mem_of_getElem? (i := 30) rfl)) (hw _ (List.mem_of_getElem? (i := 25) rfl)) (by decide) (by decide)) (g := (mkF m 16 #[.val (.long q0), .second, .val (.long v2), .second] [(.long (-7723592293110705685 : Int64)), (.long v2)])) rfl (by rw [hml]; rfl) (argsL := [(.long (-7723592293110705685 : Int64))]) (rest := [(.long v2)]) (lenOf pd_2 rfl) rfl (by show 2 * 0 + _ ≤ _; exact Nat.le_of_eq rfl) (hb hby d5_16) (fun _ _ => ⟨rfl, e0, (by decide : 0 + 0 ≤ _), (by decide : 0 + 0 ≤ _)⟩)
  dsimp only [Pt.U, Pt.locs, Pt.cells, Pt.slots] at X4 lq4 yq4 zq4 st4 hQ4
  subst lq4 yq4 zq4
  obtain ⟨rfl, Nq4, eq4⟩ := hQ4
  have N4 := Fr.app N0 Nq4
  have ks5 : own_R p e below (s₁.setTop (entryFrame m #[(.long q0)] 4)) (T4.setTop (mkF m 19 #[.val (.long q0), .second, .val (.long v2), .second] [(.long (own_inv (-7723592293110705685 : Int64))), (.long v2)])) := fun t k => ks3 t (st4 t k)
  have ks6 : own_R p e below (s₁.setTop (entryFrame m #[(.long q0)] 4)) (T4.setTop (mkF m 20 #[.val (.long q0), .second, .val (.long v2), .second] [(.long (v2 * (own_inv (-7723592293110705685 : Int64))))])) := fun t k => ks5 t (by
    show Steps p.tables e below (T4.setTop (mkF m 19 #[.val (.long q0), .second, .val (.long v2), .second] [(.long (own_inv (-7723592293110705685 : Int64))), (.long v2)])) _
    refine XS.lmul X4.here hx rfl (hb hby d5_19) rfl ?_
    exact k)
  obtain ⟨v7, hv7⟩ : ∃ z : Int64, z = (v2 * (own_inv (-7723592293110705685 : Int64))) := ⟨_, rfl⟩
  rw [← hv7] at ks6
  have ks8 : own_R p e below (s₁.setTop (entryFrame m #[(.long q0)] 4)) (T4.setTop (mkF m 32 #[.val (.long q0), .second, .val (.long v7), .second] [(.long ((v7 ^^^ ((v7.toUInt64 >>> ((27 : Int32) &&& 0x3f).toInt64.toUInt64).toInt64)) ^^^ ((v7.toUInt64 >>> ((54 : Int32) &&& 0x3f).toInt64.toUInt64).toInt64)))])) := fun t k => ks6 t (by
    show Steps p.tables e below (T4.setTop (mkF m 20 #[.val (.long q0), .second, .val (.long v2), .second] [(.long v7)])) _
    refine XS.lstoreN X4.here hx rfl (hb hby d5_20) rfl (l' := #[.val (.long q0), .second, .val (.long v7), .second]) rfl ?_
    show Steps p.tables e below (T4.setTop (mkF m 21 #[.val (.long q0), .second, .val (.long v7), .second] [])) _
    refine XS.lloadN X4.here hx rfl (hb hby d5_21) rfl ?_
    show Steps p.tables e below (T4.setTop (mkF m 22 #[.val (.long q0), .second, .val (.long v7), .second] [(.long v7)])) _
    refine XS.lloadN X4.here hx rfl (hb hby d5_22) rfl ?_
    show Steps p.tables e below (T4.setTop (mkF m 23 #[.val (.long q0), .second, .val (.long v7), .second] [(.long v7), (.long v7)])) _
    refine XS.bipush X4.here hx rfl (hb hby d5_23) ?_
    show Steps p.tables e below (T4.setTop (mkF m 25 #[.val (.long q0), .second, .val (.long v7), .second] [(.int (27 : Int32)), (.long v7), (.long v7)])) _
    refine XS.lushr X4.here hx rfl (hb hby d5_25) rfl ?_
    show Steps p.tables e below (T4.setTop (mkF m 26 #[.val (.long q0), .second, .val (.long v7), .second] [(.long ((v7.toUInt64 >>> ((27 : Int32) &&& 0x3f).toInt64.toUInt64).toInt64)), (.long v7)])) _
    refine XS.lxor X4.here hx rfl (hb hby d5_26) rfl ?_
    show Steps p.tables e below (T4.setTop (mkF m 27 #[.val (.long q0), .second, .val (.long v7), .second] [(.long (v7 ^^^ ((v7.toUInt64 >>> ((27 : Int32) &&& 0x3f).toInt64.toUInt64).toInt64)))])) _
    refine XS.lloadN X4.here hx rfl (hb hby d5_27) rfl ?_
    show Steps p.tables e below (T4.setTop (mkF m 28 #[.val (.long q0), .second, .val (.long v7), .second] [(.long v7), (.long (v7 ^^^ ((v7.toUInt64 >>> ((27 : Int32) &&& 0x3f).toInt64.toUInt64).toInt64)))])) _
    refine XS.bipush X4.here hx rfl (hb hby d5_28) ?_
    show Steps p.tables e below (T4.setTop (mkF m 30 #[.val (.long q0), .second, .val (.long v7), .second] [(.int (54 : Int32)), (.long v7), (.long (v7 ^^^ ((v7.toUInt64 >>> ((27 : Int32) &&& 0x3f).toInt64.toUInt64).toInt64)))])) _
    refine XS.lushr X4.here hx rfl (hb hby d5_30) rfl ?_
    show Steps p.tables e below (T4.setTop (mkF m 31 #[.val (.long q0), .second, .val (.long v7), .second] [(.long ((v7.toUInt64 >>> ((54 : Int32) &&& 0x3f).toInt64.toUInt64).toInt64)), (.long (v7 ^^^ ((v7.toUInt64 >>> ((27 : Int32) &&& 0x3f).toInt64.toUInt64).toInt64)))])) _
    refine XS.lxor X4.here hx rfl (hb hby d5_31) rfl ?_
    exact k)
  obtain ⟨v9, hv9⟩ : ∃ z : Int64, z = ((v7 ^^^ ((v7.toUInt64 >>> ((27 : Int32) &&& 0x3f).toInt64.toUInt64).toInt64)) ^^^ ((v7.toUInt64 >>> ((54 : Int32) &&& 0x3f).toInt64.toUInt64).toInt64)) := ⟨_, rfl⟩
  rw [← hv9] at ks8
  have ks10 : own_R p e below (s₁.setTop (entryFrame m #[(.long q0)] 4)) (T4.setTop (mkF m 37 #[.val (.long q0), .second, .val (.long v9), .second] [(.long (-4658895280553007687 : Int64)), (.long v9)])) := fun t k => ks8 t (by
    show Steps p.tables e below (T4.setTop (mkF m 32 #[.val (.long q0), .second, .val (.long v7), .second] [(.long v9)])) _
    refine XS.lstoreN X4.here hx rfl (hb hby d5_32) rfl (l' := #[.val (.long q0), .second, .val (.long v9), .second]) rfl ?_
    show Steps p.tables e below (T4.setTop (mkF m 33 #[.val (.long q0), .second, .val (.long v9), .second] [])) _
    refine XS.lloadN X4.here hx rfl (hb hby d5_33) rfl ?_
    show Steps p.tables e below (T4.setTop (mkF m 34 #[.val (.long q0), .second, .val (.long v9), .second] [(.long v9)])) _
    refine X4.ldc2Long hx hown (mvT hZ (hw _ (List.mem_of_getElem? (i := 32) rfl))) (g := (mkF m 34 #[.val (.long q0), .second, .val (.long v9), .second] [(.long v9)])) rfl (hb hby d5_34) _ ?_
    exact k)
  obtain ⟨_, _, ⟨T11, L11, k11, n11⟩, -, X11, ⟨Lc11, hQ11, lq11, yq11, zq11⟩, st11⟩ := Jvm.LawKit.callS X4 hx (y := (⟨"com/example/carved_corpus/carvedcorpus/cli/SeededRandomNextLongPinLaw", "inverse", "(J)J"⟩ : MethodName)) hown (mvT hZ (hw _ (List.mem_of_getElem? (i := 28) rfl))) (mvT hZ (hw _ (List.mem_of_getElem? (i := 29) rfl))) (mvT hZ (hw _ (List.mem_of_getElem? (i := 25) rfl))) (mvT hZ (hw _ (List.mem_of_getElem? (i := 30) rfl))) (by decide) (backOf (W := 2) (rm6 l Z a0 hw [] (-4658895280553007687 : Int64) h0 n0 Z0 ) hZ (hw _ (List.mem_of_getElem? (i := 30) rfl)) (hw _ (List.mem_of_getElem? (i := 25) rfl)) (by decide) (by decide)) (g := (mkF m 37 #[.val (.long q0), .second, .val (.long v9), .second] [(.long (-4658895280553007687 : Int64)), (.long v9)])) rfl (by rw [hml]; rfl) (argsL := [(.long (-4658895280553007687 : Int64))]) (rest := [(.long v9)]) (lenOf pd_2 rfl) rfl (by show 2 * 0 + _ ≤ _; exact Nat.le_of_eq rfl) (hb hby d5_37) (fun _ _ => ⟨rfl, eq4, (by decide : 0 + 0 ≤ _), (by decide : 0 + 0 ≤ _)⟩)
  dsimp only [Pt.U, Pt.locs, Pt.cells, Pt.slots] at X11 lq11 yq11 zq11 st11 hQ11
  subst lq11 yq11 zq11
  obtain ⟨rfl, Nq11, eq11⟩ := hQ11
  have N11 := Fr.app N4 Nq11
  have ks12 : own_R p e below (s₁.setTop (entryFrame m #[(.long q0)] 4)) (T11.setTop (mkF m 40 #[.val (.long q0), .second, .val (.long v9), .second] [(.long (own_inv (-4658895280553007687 : Int64))), (.long v9)])) := fun t k => ks10 t (st11 t k)
  have ks13 : own_R p e below (s₁.setTop (entryFrame m #[(.long q0)] 4)) (T11.setTop (mkF m 41 #[.val (.long q0), .second, .val (.long v9), .second] [(.long (v9 * (own_inv (-4658895280553007687 : Int64))))])) := fun t k => ks12 t (by
    show Steps p.tables e below (T11.setTop (mkF m 40 #[.val (.long q0), .second, .val (.long v9), .second] [(.long (own_inv (-4658895280553007687 : Int64))), (.long v9)])) _
    refine XS.lmul X11.here hx rfl (hb hby d5_40) rfl ?_
    exact k)
  obtain ⟨v14, hv14⟩ : ∃ z : Int64, z = (v9 * (own_inv (-4658895280553007687 : Int64))) := ⟨_, rfl⟩
  rw [← hv14] at ks13
  have ks15 : own_R p e below (s₁.setTop (entryFrame m #[(.long q0)] 4)) (T11.setTop (mkF m 53 #[.val (.long q0), .second, .val (.long v14), .second] [(.long ((v14 ^^^ ((v14.toUInt64 >>> ((30 : Int32) &&& 0x3f).toInt64.toUInt64).toInt64)) ^^^ ((v14.toUInt64 >>> ((60 : Int32) &&& 0x3f).toInt64.toUInt64).toInt64)))])) := fun t k => ks13 t (by
    show Steps p.tables e below (T11.setTop (mkF m 41 #[.val (.long q0), .second, .val (.long v9), .second] [(.long v14)])) _
    refine XS.lstoreN X11.here hx rfl (hb hby d5_41) rfl (l' := #[.val (.long q0), .second, .val (.long v14), .second]) rfl ?_
    show Steps p.tables e below (T11.setTop (mkF m 42 #[.val (.long q0), .second, .val (.long v14), .second] [])) _
    refine XS.lloadN X11.here hx rfl (hb hby d5_42) rfl ?_
    show Steps p.tables e below (T11.setTop (mkF m 43 #[.val (.long q0), .second, .val (.long v14), .second] [(.long v14)])) _
    refine XS.lloadN X11.here hx rfl (hb hby d5_43) rfl ?_
    show Steps p.tables e below (T11.setTop (mkF m 44 #[.val (.long q0), .second, .val (.long v14), .second] [(.long v14), (.long v14)])) _
    refine XS.bipush X11.here hx rfl (hb hby d5_44) ?_
    show Steps p.tables e below (T11.setTop (mkF m 46 #[.val (.long q0), .second, .val (.long v14), .second] [(.int (30 : Int32)), (.long v14), (.long v14)])) _
    refine XS.lushr X11.here hx rfl (hb hby d5_46) rfl ?_
    show Steps p.tables e below (T11.setTop (mkF m 47 #[.val (.long q0), .second, .val (.long v14), .second] [(.long ((v14.toUInt64 >>> ((30 : Int32) &&& 0x3f).toInt64.toUInt64).toInt64)), (.long v14)])) _
    refine XS.lxor X11.here hx rfl (hb hby d5_47) rfl ?_
    show Steps p.tables e below (T11.setTop (mkF m 48 #[.val (.long q0), .second, .val (.long v14), .second] [(.long (v14 ^^^ ((v14.toUInt64 >>> ((30 : Int32) &&& 0x3f).toInt64.toUInt64).toInt64)))])) _
    refine XS.lloadN X11.here hx rfl (hb hby d5_48) rfl ?_
    show Steps p.tables e below (T11.setTop (mkF m 49 #[.val (.long q0), .second, .val (.long v14), .second] [(.long v14), (.long (v14 ^^^ ((v14.toUInt64 >>> ((30 : Int32) &&& 0x3f).toInt64.toUInt64).toInt64)))])) _
    refine XS.bipush X11.here hx rfl (hb hby d5_49) ?_
    show Steps p.tables e below (T11.setTop (mkF m 51 #[.val (.long q0), .second, .val (.long v14), .second] [(.int (60 : Int32)), (.long v14), (.long (v14 ^^^ ((v14.toUInt64 >>> ((30 : Int32) &&& 0x3f).toInt64.toUInt64).toInt64)))])) _
    refine XS.lushr X11.here hx rfl (hb hby d5_51) rfl ?_
    show Steps p.tables e below (T11.setTop (mkF m 52 #[.val (.long q0), .second, .val (.long v14), .second] [(.long ((v14.toUInt64 >>> ((60 : Int32) &&& 0x3f).toInt64.toUInt64).toInt64)), (.long (v14 ^^^ ((v14.toUInt64 >>> ((30 : Int32) &&& 0x3f).toInt64.toUInt64).toInt64)))])) _
    refine XS.lxor X11.here hx rfl (hb hby d5_52) rfl ?_
    exact k)
  obtain ⟨fs, hr, hrun, hended, hW, hsame⟩ := X11.leave (v := some (.long ((v14 ^^^ ((v14.toUInt64 >>> ((30 : Int32) &&& 0x3f).toInt64.toUInt64).toInt64)) ^^^ ((v14.toUInt64 >>> ((60 : Int32) &&& 0x3f).toInt64.toUInt64).toInt64)))) (fun h => by rw [Bd.returns] at h; cases h)
  refine ⟨_, _, ks15 _ ?_, hrun, hended, _, _, rfl, ?_, ⟨_, rfl⟩, hW, hsame.mono (by decide) (by decide)⟩
  · exact retOut X11 hx Bd.returns rfl (Or.inr (Or.inl ⟨rfl, rfl, _, rfl⟩)) (hb hby d5_53) hr
  · show Q5 Z q0 h0 n0 _ T11.heap _
    rw [eq11]
    subst hv14
    subst hv9
    subst hv7
    subst hv2
    refine ⟨?_, N11, rfl⟩
    rw [own_unmix]
theorem d1_0 : decode prog_14_method_1_code 0 = .ok (.aload_n 0, 1) := by decide +kernel
theorem d1_1 : decode prog_14_method_1_code 1 = .ok (.invokespecial 1, 3) := by decide +kernel
theorem d1_4 : decode prog_14_method_1_code 4 = .ok (.lconst 0, 1) := by decide +kernel
theorem d1_5 : decode prog_14_method_1_code 5 = .ok (.lstore_n 2, 1) := by decide +kernel
theorem d1_6 : decode prog_14_method_1_code 6 = .ok (.aload_n 1, 1) := by decide +kernel
theorem d1_7 : decode prog_14_method_1_code 7 = .ok (.astore 4, 2) := by decide +kernel
theorem d1_9 : decode prog_14_method_1_code 9 = .ok (.aload 4, 2) := by decide +kernel
theorem d1_11 : decode prog_14_method_1_code 11 = .ok (.arraylength, 1) := by decide +kernel
theorem d1_12 : decode prog_14_method_1_code 12 = .ok (.istore 5, 2) := by decide +kernel
theorem d1_14 : decode prog_14_method_1_code 14 = .ok (.iconst 0, 1) := by decide +kernel
theorem d1_15 : decode prog_14_method_1_code 15 = .ok (.istore 6, 2) := by decide +kernel
theorem d1_17 : decode prog_14_method_1_code 17 = .ok (.iload 6, 2) := by decide +kernel
theorem d1_19 : decode prog_14_method_1_code 19 = .ok (.iload 5, 2) := by decide +kernel
theorem d1_21 : decode prog_14_method_1_code 21 = .ok (.if_icmp .ge 28, 3) := by decide +kernel
theorem d1_24 : decode prog_14_method_1_code 24 = .ok (.aload 4, 2) := by decide +kernel
theorem d1_26 : decode prog_14_method_1_code 26 = .ok (.iload 6, 2) := by decide +kernel
theorem d1_28 : decode prog_14_method_1_code 28 = .ok (.laload, 1) := by decide +kernel
theorem d1_29 : decode prog_14_method_1_code 29 = .ok (.lstore 7, 2) := by decide +kernel
theorem d1_31 : decode prog_14_method_1_code 31 = .ok (.lload_n 2, 1) := by decide +kernel
theorem d1_32 : decode prog_14_method_1_code 32 = .ok (.ldc2_w 9, 3) := by decide +kernel
theorem d1_35 : decode prog_14_method_1_code 35 = .ok (.ladd, 1) := by decide +kernel
theorem d1_36 : decode prog_14_method_1_code 36 = .ok (.lload 7, 2) := by decide +kernel
theorem d1_38 : decode prog_14_method_1_code 38 = .ok (.lxor, 1) := by decide +kernel
theorem d1_39 : decode prog_14_method_1_code 39 = .ok (.invokestatic 11, 3) := by decide +kernel
theorem d1_42 : decode prog_14_method_1_code 42 = .ok (.lstore_n 2, 1) := by decide +kernel
theorem d1_43 : decode prog_14_method_1_code 43 = .ok (.iinc 6 1, 3) := by decide +kernel
theorem d1_46 : decode prog_14_method_1_code 46 = .ok (.goto (-29), 3) := by decide +kernel
theorem d1_49 : decode prog_14_method_1_code 49 = .ok (.aload_n 0, 1) := by decide +kernel
theorem d1_50 : decode prog_14_method_1_code 50 = .ok (.lload_n 2, 1) := by decide +kernel
theorem d1_51 : decode prog_14_method_1_code 51 = .ok (.putfield 15, 3) := by decide +kernel
theorem d1_54 : decode prog_14_method_1_code 54 = .ok (.return_, 1) := by decide +kernel
theorem pn_1 : plainName "com/example/carved_corpus/carvedcorpus/cli/SeededRandom" = true := by first | (simp [plainName, overriddenIn]; done) | decide +kernel
theorem ef_1a (m : MethodId) (x0 : Addr) (x1 : Addr) : entryFrame m #[(.ref x0), (.ref x1)] 9 = mkF m 0 #[.val (.ref x0), .val (.ref x1), .unset, .unset, .unset, .unset, .unset, .unset, .unset] [] := by first | (simp [entryFrame, mkF, argsToLocals, Value.category]; done) | rfl
def Q1a (Z : State) (r0 : Addr) (r1 : Addr) (k1 : ClassId) (q9 : Int64) (y0 : Int64) (h0 : Heap) (n0 : Nat) (v : Option Value) (h : Heap) (L : List Loc) : Prop := v = none ∧ Fr n0 L ∧ Keep h0 h [r0] ∧ Exa Z h r0 "com/example/carved_corpus/carvedcorpus/cli/SeededRandom" ∧ Fld Z h r0 "com/example/carved_corpus/carvedcorpus/cli/SeededRandom" "state" "J" (.long (own_mix (((0 : Int64) + (-7046029254386353131 : Int64)) ^^^ y0)))
set_option maxRecDepth 65536 in
set_option maxHeartbeats 40000000 in
theorem rm1a (l : Launch) (Z : State) (a0 : Array Value) (hw : ∀ d ∈ tables_1, d.before a0 Z = true) (ws : List Jvm.Cond) (r0 : Addr) (r1 : Addr) (k1 : ClassId) (q9 : Int64) (y0 : Int64) (h0 : Heap) (n0 : Nat) (Z0 : n0 ≤ h0.size) (n01 : r0 ≠ r1) (g_r0 : n0 ≤ r0) (E0 : Exa Z h0 r0 "com/example/carved_corpus/carvedcorpus/cli/SeededRandom") (F0 : Fld Z h0 r0 "com/example/carved_corpus/carvedcorpus/cli/SeededRandom" "state" "J" (.long q9)) (V0 : Arv Z h0 r1 k1 .long (1 : Int32) [.long y0] (.long (0 : Int64))) :
    MetFree l (⟨"com/example/carved_corpus/carvedcorpus/cli/SeededRandom", "<init>", "([J)V"⟩ : MethodName) (head1 (Jvm.Cond.code (⟨"com/example/carved_corpus/carvedcorpus/cli/SeededRandom", "<init>", "([J)V"⟩ : MethodName) prog_14_method_1_code 9 none :: ws) ({ frames := 1, cells := 0, slots := 0, locals := 15 } : Room)) (fun a U => a = #[(.ref r0), (.ref r1)] ∧ Z.Warmed39 U.vm ∧ U.heap = h0) (fun _ _ _ _ _ => True) (fun _ U o U' => ∃ v L, o = .returned v ∧ Q1a Z r0 r1 k1 q9 y0 h0 n0 v U'.heap L ∧ FrameEnd U o U' L ({ frames := 1, cells := 0, slots := 0, locals := 15 } : Room).cells ({ frames := 1, cells := 0, slots := 0, locals := 15 } : Room).slots) := by
  refine MetFree.of_bodySF (plainFor_of_name pn_1) hisR ?_
  intro p e s m args below meth c s₁ Bd hml0 hP hK
  obtain ⟨rfl, hZ, hh⟩ := hP
  have hx := Bd.exec
  have hby := Bd.bytes
  have hml : c.maxLocals = 9 := hml0
  have hown : s.vm.findClass "com/example/carved_corpus/carvedcorpus/cli/SeededRandom" = some m.cls := findClass_of_methodNamed Bd.named
  have hnm := (name_of_methodNamed Bd.named Bd.method).1
  have X0 : Stand p l e ({ frames := 1, cells := 0, slots := 0, locals := 15 } : Room) s m #[(.ref r0), (.ref r1)] below meth c s₁ [] 0 0 := Stand.of_body Bd
  have e0 : s₁.heap = h0 := by rw [← hh, Bd.state]; rfl
  have N0 := Fr.nil n0
  have k0 : own_R p e below (s₁.setTop (entryFrame m #[(.ref r0), (.ref r1)] 9)) (s₁.setTop (mkF m 0 #[.val (.ref r0), .val (.ref r1), .unset, .unset, .unset, .unset, .unset, .unset, .unset] [])) := fun t k => castTop (ef_1a m r0 r1) k
  have ks1 : own_R p e below (s₁.setTop (entryFrame m #[(.ref r0), (.ref r1)] 9)) (s₁.setTop (mkF m 1 #[.val (.ref r0), .val (.ref r1), .unset, .unset, .unset, .unset, .unset, .unset, .unset] [(.ref r0)])) := fun t k => k0 t (by
    show Steps p.tables e below (s₁.setTop (mkF m 0 #[.val (.ref r0), .val (.ref r1), .unset, .unset, .unset, .unset, .unset, .unset, .unset] [])) _
    refine XS.aloadN X0.here hx rfl (hb hby d1_0) rfl rfl ?_
    exact k)
  obtain ⟨T2, X2, e2, st2⟩ := initO X0 hx hZ hown (hw _ (List.mem_of_getElem? (i := 7) rfl)) (hw _ (List.mem_of_getElem? (i := 8) rfl)) (hw _ (List.mem_of_getElem? (i := 9) rfl)) e0 (g := (mkF m 1 #[.val (.ref r0), .val (.ref r1), .unset, .unset, .unset, .unset, .unset, .unset, .unset] [(.ref r0)])) rfl (by rw [hml]; rfl) rfl (hb hby d1_1) (by decide) (W := 0) (by show 2 * 0 + _ ≤ _; exact Nat.le_of_eq rfl) (by decide)
  have ks3 : own_R p e below (s₁.setTop (entryFrame m #[(.ref r0), (.ref r1)] 9)) (T2.setTop (mkF m 4 #[.val (.ref r0), .val (.ref r1), .unset, .unset, .unset, .unset, .unset, .unset, .unset] [])) := fun t k => ks1 t (st2 t k)
  have ks4 : own_R p e below (s₁.setTop (entryFrame m #[(.ref r0), (.ref r1)] 9)) (T2.setTop (mkF m 11 #[.val (.ref r0), .val (.ref r1), .val (.long (0 : Int64)), .second, .val (.ref r1), .unset, .unset, .unset, .unset] [(.ref r1)])) := fun t k => ks3 t (by
    show Steps p.tables e below (T2.setTop (mkF m 4 #[.val (.ref r0), .val (.ref r1), .unset, .unset, .unset, .unset, .unset, .unset, .unset] [])) _
    refine XS.lconst X2.here hx rfl (hb hby d1_4) ?_
    show Steps p.tables e below (T2.setTop (mkF m 5 #[.val (.ref r0), .val (.ref r1), .unset, .unset, .unset, .unset, .unset, .unset, .unset] [(.long (0 : Int64))])) _
    refine XS.lstoreN X2.here hx rfl (hb hby d1_5) rfl (l' := #[.val (.ref r0), .val (.ref r1), .val (.long (0 : Int64)), .second, .unset, .unset, .unset, .unset, .unset]) rfl ?_
    show Steps p.tables e below (T2.setTop (mkF m 6 #[.val (.ref r0), .val (.ref r1), .val (.long (0 : Int64)), .second, .unset, .unset, .unset, .unset, .unset] [])) _
    refine XS.aloadN X2.here hx rfl (hb hby d1_6) rfl rfl ?_
    show Steps p.tables e below (T2.setTop (mkF m 7 #[.val (.ref r0), .val (.ref r1), .val (.long (0 : Int64)), .second, .unset, .unset, .unset, .unset, .unset] [(.ref r1)])) _
    refine XS.astore X2.here hx rfl (hb hby d1_7) rfl rfl (l' := #[.val (.ref r0), .val (.ref r1), .val (.long (0 : Int64)), .second, .val (.ref r1), .unset, .unset, .unset, .unset]) rfl ?_
    show Steps p.tables e below (T2.setTop (mkF m 9 #[.val (.ref r0), .val (.ref r1), .val (.long (0 : Int64)), .second, .val (.ref r1), .unset, .unset, .unset, .unset] [])) _
    refine XS.aload X2.here hx rfl (hb hby d1_9) rfl rfl ?_
    exact k)
  obtain ⟨cl5, Ar5, qa5, S5, Na5, Ha5, Ga5⟩ := id V0
  have ks6 : own_R p e below (s₁.setTop (entryFrame m #[(.ref r0), (.ref r1)] 9)) (T2.setTop (mkF m 39 #[.val (.ref r0), .val (.ref r1), .val (.long (0 : Int64)), .second, .val (.ref r1), .val (.int (1 : Int32)), .val (.int (0 : Int32)), .val (.long y0), .second] [(.long ((-7046029254386353131 : Int64) ^^^ y0))])) := fun t k => ks4 t (by
    show Steps p.tables e below (T2.setTop (mkF m 11 #[.val (.ref r0), .val (.ref r1), .val (.long (0 : Int64)), .second, .val (.ref r1), .unset, .unset, .unset, .unset] [(.ref r1)])) _
    refine X2.arraylength hx (by rw [e2]; exact Ar5.1) (State.isArrayOf_alike hZ.alike Ar5.2.1) (g := (mkF m 11 #[.val (.ref r0), .val (.ref r1), .val (.long (0 : Int64)), .second, .val (.ref r1), .unset, .unset, .unset, .unset] [(.ref r1)])) rfl rfl (hb hby d1_11) _ ?_
    rw [len_of S5 Na5]
    show Steps p.tables e below (T2.setTop (mkF m 12 #[.val (.ref r0), .val (.ref r1), .val (.long (0 : Int64)), .second, .val (.ref r1), .unset, .unset, .unset, .unset] [(.int (1 : Int32))])) _
    refine XS.istore X2.here hx rfl (hb hby d1_12) rfl (l' := #[.val (.ref r0), .val (.ref r1), .val (.long (0 : Int64)), .second, .val (.ref r1), .val (.int (1 : Int32)), .unset, .unset, .unset]) rfl ?_
    show Steps p.tables e below (T2.setTop (mkF m 14 #[.val (.ref r0), .val (.ref r1), .val (.long (0 : Int64)), .second, .val (.ref r1), .val (.int (1 : Int32)), .unset, .unset, .unset] [])) _
    refine XS.iconst X2.here hx rfl (hb hby d1_14) ?_
    show Steps p.tables e below (T2.setTop (mkF m 15 #[.val (.ref r0), .val (.ref r1), .val (.long (0 : Int64)), .second, .val (.ref r1), .val (.int (1 : Int32)), .unset, .unset, .unset] [(.int (0 : Int32))])) _
    refine XS.istore X2.here hx rfl (hb hby d1_15) rfl (l' := #[.val (.ref r0), .val (.ref r1), .val (.long (0 : Int64)), .second, .val (.ref r1), .val (.int (1 : Int32)), .val (.int (0 : Int32)), .unset, .unset]) rfl ?_
    show Steps p.tables e below (T2.setTop (mkF m 17 #[.val (.ref r0), .val (.ref r1), .val (.long (0 : Int64)), .second, .val (.ref r1), .val (.int (1 : Int32)), .val (.int (0 : Int32)), .unset, .unset] [])) _
    refine XS.iload X2.here hx rfl (hb hby d1_17) rfl ?_
    show Steps p.tables e below (T2.setTop (mkF m 19 #[.val (.ref r0), .val (.ref r1), .val (.long (0 : Int64)), .second, .val (.ref r1), .val (.int (1 : Int32)), .val (.int (0 : Int32)), .unset, .unset] [(.int (0 : Int32))])) _
    refine XS.iload X2.here hx rfl (hb hby d1_19) rfl ?_
    show Steps p.tables e below (T2.setTop (mkF m 21 #[.val (.ref r0), .val (.ref r1), .val (.long (0 : Int64)), .second, .val (.ref r1), .val (.int (1 : Int32)), .val (.int (0 : Int32)), .unset, .unset] [(.int (1 : Int32)), (.int (0 : Int32))])) _
    refine XS.icmpNo X2.here hx rfl (hb hby d1_21) rfl (tlt (by decide)).2.1 ?_
    show Steps p.tables e below (T2.setTop (mkF m 24 #[.val (.ref r0), .val (.ref r1), .val (.long (0 : Int64)), .second, .val (.ref r1), .val (.int (1 : Int32)), .val (.int (0 : Int32)), .unset, .unset] [])) _
    refine XS.aload X2.here hx rfl (hb hby d1_24) rfl rfl ?_
    show Steps p.tables e below (T2.setTop (mkF m 26 #[.val (.ref r0), .val (.ref r1), .val (.long (0 : Int64)), .second, .val (.ref r1), .val (.int (1 : Int32)), .val (.int (0 : Int32)), .unset, .unset] [(.ref r1)])) _
    refine XS.iload X2.here hx rfl (hb hby d1_26) rfl ?_
    show Steps p.tables e below (T2.setTop (mkF m 28 #[.val (.ref r0), .val (.ref r1), .val (.long (0 : Int64)), .second, .val (.ref r1), .val (.int (1 : Int32)), .val (.int (0 : Int32)), .unset, .unset] [(.int (0 : Int32)), (.ref r1)])) _
    refine X2.laload hx (j := (0 : Int32)) (v := (.long y0)) (by rw [e2]; exact Ar5.1) (State.isArrayOf_alike hZ.alike Ar5.2.1) Ar5.2.2 (inb_of S5 ⟨by decide, by decide⟩) (Has.at Ha5 (inb_of S5 ⟨by decide, by decide⟩) rfl) (g := (mkF m 28 #[.val (.ref r0), .val (.ref r1), .val (.long (0 : Int64)), .second, .val (.ref r1), .val (.int (1 : Int32)), .val (.int (0 : Int32)), .unset, .unset] [(.int (0 : Int32)), (.ref r1)])) rfl rfl (hb hby d1_28) _ ?_
    show Steps p.tables e below (T2.setTop (mkF m 29 #[.val (.ref r0), .val (.ref r1), .val (.long (0 : Int64)), .second, .val (.ref r1), .val (.int (1 : Int32)), .val (.int (0 : Int32)), .unset, .unset] [(.long y0)])) _
    refine XS.lstore X2.here hx rfl (hb hby d1_29) rfl (l' := #[.val (.ref r0), .val (.ref r1), .val (.long (0 : Int64)), .second, .val (.ref r1), .val (.int (1 : Int32)), .val (.int (0 : Int32)), .val (.long y0), .second]) rfl ?_
    show Steps p.tables e below (T2.setTop (mkF m 31 #[.val (.ref r0), .val (.ref r1), .val (.long (0 : Int64)), .second, .val (.ref r1), .val (.int (1 : Int32)), .val (.int (0 : Int32)), .val (.long y0), .second] [])) _
    refine XS.lloadN X2.here hx rfl (hb hby d1_31) rfl ?_
    show Steps p.tables e below (T2.setTop (mkF m 32 #[.val (.ref r0), .val (.ref r1), .val (.long (0 : Int64)), .second, .val (.ref r1), .val (.int (1 : Int32)), .val (.int (0 : Int32)), .val (.long y0), .second] [(.long (0 : Int64))])) _
    refine X2.ldc2Long hx hown (mvT hZ (hw _ (List.mem_of_getElem? (i := 10) rfl))) (g := (mkF m 32 #[.val (.ref r0), .val (.ref r1), .val (.long (0 : Int64)), .second, .val (.ref r1), .val (.int (1 : Int32)), .val (.int (0 : Int32)), .val (.long y0), .second] [(.long (0 : Int64))])) rfl (hb hby d1_32) _ ?_
    show Steps p.tables e below (T2.setTop (mkF m 35 #[.val (.ref r0), .val (.ref r1), .val (.long (0 : Int64)), .second, .val (.ref r1), .val (.int (1 : Int32)), .val (.int (0 : Int32)), .val (.long y0), .second] [(.long (-7046029254386353131 : Int64)), (.long (0 : Int64))])) _
    refine XS.ladd X2.here hx rfl (hb hby d1_35) rfl ?_
    show Steps p.tables e below (T2.setTop (mkF m 36 #[.val (.ref r0), .val (.ref r1), .val (.long (0 : Int64)), .second, .val (.ref r1), .val (.int (1 : Int32)), .val (.int (0 : Int32)), .val (.long y0), .second] [(.long (-7046029254386353131 : Int64))])) _
    refine XS.lload X2.here hx rfl (hb hby d1_36) rfl ?_
    show Steps p.tables e below (T2.setTop (mkF m 38 #[.val (.ref r0), .val (.ref r1), .val (.long (0 : Int64)), .second, .val (.ref r1), .val (.int (1 : Int32)), .val (.int (0 : Int32)), .val (.long y0), .second] [(.long y0), (.long (-7046029254386353131 : Int64))])) _
    refine XS.lxor X2.here hx rfl (hb hby d1_38) rfl ?_
    exact k)
  obtain ⟨_, _, ⟨T7, L7, k7, n7⟩, -, X7, ⟨Lc7, hQ7, lq7, yq7, zq7⟩, st7⟩ := Jvm.LawKit.callS X2 hx (y := (⟨"com/example/carved_corpus/carvedcorpus/cli/SeededRandom", "mix", "(J)J"⟩ : MethodName)) hown (mvT hZ (hw _ (List.mem_of_getElem? (i := 11) rfl))) (mvT hZ (hw _ (List.mem_of_getElem? (i := 12) rfl))) (mvT hZ (hw _ (List.mem_of_getElem? (i := 2) rfl))) (mvT hZ (hw _ (List.mem_of_getElem? (i := 13) rfl))) (by decide) (backOf (W := 0) (rm3 l Z a0 hw [] ((-7046029254386353131 : Int64) ^^^ y0) h0 n0 Z0 ) hZ (hw _ (List.mem_of_getElem? (i := 13) rfl)) (hw _ (List.mem_of_getElem? (i := 2) rfl)) (by decide) (by decide)) (g := (mkF m 39 #[.val (.ref r0), .val (.ref r1), .val (.long (0 : Int64)), .second, .val (.ref r1), .val (.int (1 : Int32)), .val (.int (0 : Int32)), .val (.long y0), .second] [(.long ((-7046029254386353131 : Int64) ^^^ y0))])) rfl (by rw [hml]; rfl) (argsL := [(.long ((-7046029254386353131 : Int64) ^^^ y0))]) (rest := []) (lenOf pd_2 rfl) rfl (by show 2 * 0 + _ ≤ _; exact Nat.le_of_eq rfl) (hb hby d1_39) (fun _ _ => ⟨rfl, e2, (by decide : 0 + 0 ≤ _), (by decide : 0 + 0 ≤ _)⟩)
  dsimp only [Pt.U, Pt.locs, Pt.cells, Pt.slots] at X7 lq7 yq7 zq7 st7 hQ7
  subst lq7 yq7 zq7
  obtain ⟨rfl, Nq7, eq7⟩ := hQ7
  have N7 := Fr.app N0 Nq7
  have ks8 : own_R p e below (s₁.setTop (entryFrame m #[(.ref r0), (.ref r1)] 9)) (T7.setTop (mkF m 42 #[.val (.ref r0), .val (.ref r1), .val (.long (0 : Int64)), .second, .val (.ref r1), .val (.int (1 : Int32)), .val (.int (0 : Int32)), .val (.long y0), .second] [(.long (own_mix ((-7046029254386353131 : Int64) ^^^ y0)))])) := fun t k => ks6 t (st7 t k)
  obtain ⟨v9, hv9⟩ : ∃ z : Int64, z = (own_mix ((-7046029254386353131 : Int64) ^^^ y0)) := ⟨_, rfl⟩
  rw [← hv9] at ks8
  have ks10 : own_R p e below (s₁.setTop (entryFrame m #[(.ref r0), (.ref r1)] 9)) (T7.setTop (mkF m 51 #[.val (.ref r0), .val (.ref r1), .val (.long v9), .second, .val (.ref r1), .val (.int (1 : Int32)), .val (.int (1 : Int32)), .val (.long y0), .second] [(.long v9), (.ref r0)])) := fun t k => ks8 t (by
    show Steps p.tables e below (T7.setTop (mkF m 42 #[.val (.ref r0), .val (.ref r1), .val (.long (0 : Int64)), .second, .val (.ref r1), .val (.int (1 : Int32)), .val (.int (0 : Int32)), .val (.long y0), .second] [(.long v9)])) _
    refine XS.lstoreN X7.here hx rfl (hb hby d1_42) rfl (l' := #[.val (.ref r0), .val (.ref r1), .val (.long v9), .second, .val (.ref r1), .val (.int (1 : Int32)), .val (.int (0 : Int32)), .val (.long y0), .second]) rfl ?_
    show Steps p.tables e below (T7.setTop (mkF m 43 #[.val (.ref r0), .val (.ref r1), .val (.long v9), .second, .val (.ref r1), .val (.int (1 : Int32)), .val (.int (0 : Int32)), .val (.long y0), .second] [])) _
    refine XS.iinc X7.here hx rfl (hb hby d1_43) rfl (l' := #[.val (.ref r0), .val (.ref r1), .val (.long v9), .second, .val (.ref r1), .val (.int (1 : Int32)), .val (.int (1 : Int32)), .val (.long y0), .second]) rfl ?_
    show Steps p.tables e below (T7.setTop (mkF m 46 #[.val (.ref r0), .val (.ref r1), .val (.long v9), .second, .val (.ref r1), .val (.int (1 : Int32)), .val (.int (1 : Int32)), .val (.long y0), .second] [])) _
    refine XS.goto X7.here hx rfl (pc0 := 46) (pc' := 17) rfl (hb hby d1_46) (by decide) (by decide) ?_
    show Steps p.tables e below (T7.setTop (mkF m 17 #[.val (.ref r0), .val (.ref r1), .val (.long v9), .second, .val (.ref r1), .val (.int (1 : Int32)), .val (.int (1 : Int32)), .val (.long y0), .second] [])) _
    refine XS.iload X7.here hx rfl (hb hby d1_17) rfl ?_
    show Steps p.tables e below (T7.setTop (mkF m 19 #[.val (.ref r0), .val (.ref r1), .val (.long v9), .second, .val (.ref r1), .val (.int (1 : Int32)), .val (.int (1 : Int32)), .val (.long y0), .second] [(.int (1 : Int32))])) _
    refine XS.iload X7.here hx rfl (hb hby d1_19) rfl ?_
    show Steps p.tables e below (T7.setTop (mkF m 21 #[.val (.ref r0), .val (.ref r1), .val (.long v9), .second, .val (.ref r1), .val (.int (1 : Int32)), .val (.int (1 : Int32)), .val (.long y0), .second] [(.int (1 : Int32)), (.int (1 : Int32))])) _
    refine XS.icmpYes X7.here hx rfl (pc0 := 21) (pc' := 49) rfl (hb hby d1_21) rfl (flt (by decide)).2.1 (by decide) (by decide) ?_
    show Steps p.tables e below (T7.setTop (mkF m 49 #[.val (.ref r0), .val (.ref r1), .val (.long v9), .second, .val (.ref r1), .val (.int (1 : Int32)), .val (.int (1 : Int32)), .val (.long y0), .second] [])) _
    refine XS.aloadN X7.here hx rfl (hb hby d1_49) rfl rfl ?_
    show Steps p.tables e below (T7.setTop (mkF m 50 #[.val (.ref r0), .val (.ref r1), .val (.long v9), .second, .val (.ref r1), .val (.int (1 : Int32)), .val (.int (1 : Int32)), .val (.long y0), .second] [(.ref r0)])) _
    refine XS.lloadN X7.here hx rfl (hb hby d1_50) rfl ?_
    exact k)
  obtain ⟨T11, h11, X11, e11, W11, st11⟩ := putF X7 hx hZ hown (host := "") (Or.inl (hw _ (List.mem_of_getElem? (i := 16) rfl))) Via.refl eq7 F0 E0 (Or.inl (hw _ (List.mem_of_getElem? (i := 17) rfl))) (hw _ (List.mem_of_getElem? (i := 1) rfl)) (ty := .long) (by decide) rfl rfl (g := (mkF m 51 #[.val (.ref r0), .val (.ref r1), .val (.long v9), .second, .val (.ref r1), .val (.int (1 : Int32)), .val (.int (1 : Int32)), .val (.long y0), .second] [(.long v9), (.ref r0)])) rfl rfl (hb hby d1_51)
  have Fw11 := F0.same W11
  have KH11 : Keep h0 h11 [r0] := (Keep.refl h0 [r0]).wr W11 (Or.inl (List.mem_of_getElem? (i := 0) rfl))
  have Zn11 : n0 ≤ h11.size := Nat.le_trans Z0 (Keep.of_wr W11).1
  have N11 := Fr.snoc X11 N7 g_r0
  have ks12 : own_R p e below (s₁.setTop (entryFrame m #[(.ref r0), (.ref r1)] 9)) (T11.setTop (mkF m 54 #[.val (.ref r0), .val (.ref r1), .val (.long v9), .second, .val (.ref r1), .val (.int (1 : Int32)), .val (.int (1 : Int32)), .val (.long y0), .second] [])) := fun t k => ks10 t (st11 t k)
  obtain ⟨fs, hr, hrun, hended, hW, hsame⟩ := X11.leave (v := none) (fun _ => rfl)
  refine ⟨_, _, ks12 _ ?_, hrun, hended, _, _, rfl, ?_, ⟨_, rfl⟩, hW, hsame.mono (by decide) (by decide)⟩
  · exact X11.returnOut hx Bd.returns (hb hby d1_54) hr
  · show Q1a Z r0 r1 k1 q9 y0 h0 n0 _ T11.heap _
    rw [e11]
    have f13 := E0.keep KH11
    refine ⟨?_, N11, KH11, f13, ?_⟩
    · first | rfl | (subst hv9; rfl)
    · first | exact Fw11 | (subst hv9; exact Fw11)
theorem ef_1b (m : MethodId) (x0 : Addr) (x1 : Addr) : entryFrame m #[(.ref x0), (.ref x1)] 9 = mkF m 0 #[.val (.ref x0), .val (.ref x1), .unset, .unset, .unset, .unset, .unset, .unset, .unset] [] := by first | (simp [entryFrame, mkF, argsToLocals, Value.category]; done) | rfl
def Q1b (Z : State) (r0 : Addr) (r1 : Addr) (k1 : ClassId) (q9 : Int64) (y0 : Int64) (y1 : Int64) (h0 : Heap) (n0 : Nat) (v : Option Value) (h : Heap) (L : List Loc) : Prop := v = none ∧ Fr n0 L ∧ Keep h0 h [r0] ∧ Exa Z h r0 "com/example/carved_corpus/carvedcorpus/cli/SeededRandom" ∧ Fld Z h r0 "com/example/carved_corpus/carvedcorpus/cli/SeededRandom" "state" "J" (.long (own_mix (((own_mix (((0 : Int64) + (-7046029254386353131 : Int64)) ^^^ y0)) + (-7046029254386353131 : Int64)) ^^^ y1)))
set_option maxRecDepth 65536 in
set_option maxHeartbeats 40000000 in
theorem rm1b (l : Launch) (Z : State) (a0 : Array Value) (hw : ∀ d ∈ tables_1, d.before a0 Z = true) (ws : List Jvm.Cond) (r0 : Addr) (r1 : Addr) (k1 : ClassId) (q9 : Int64) (y0 : Int64) (y1 : Int64) (h0 : Heap) (n0 : Nat) (Z0 : n0 ≤ h0.size) (n01 : r0 ≠ r1) (g_r0 : n0 ≤ r0) (E0 : Exa Z h0 r0 "com/example/carved_corpus/carvedcorpus/cli/SeededRandom") (F0 : Fld Z h0 r0 "com/example/carved_corpus/carvedcorpus/cli/SeededRandom" "state" "J" (.long q9)) (V0 : Arv Z h0 r1 k1 .long (2 : Int32) [.long y0, .long y1] (.long (0 : Int64))) :
    MetFree l (⟨"com/example/carved_corpus/carvedcorpus/cli/SeededRandom", "<init>", "([J)V"⟩ : MethodName) (head1 (Jvm.Cond.code (⟨"com/example/carved_corpus/carvedcorpus/cli/SeededRandom", "<init>", "([J)V"⟩ : MethodName) prog_14_method_1_code 9 none :: ws) ({ frames := 1, cells := 0, slots := 0, locals := 15 } : Room)) (fun a U => a = #[(.ref r0), (.ref r1)] ∧ Z.Warmed39 U.vm ∧ U.heap = h0) (fun _ _ _ _ _ => True) (fun _ U o U' => ∃ v L, o = .returned v ∧ Q1b Z r0 r1 k1 q9 y0 y1 h0 n0 v U'.heap L ∧ FrameEnd U o U' L ({ frames := 1, cells := 0, slots := 0, locals := 15 } : Room).cells ({ frames := 1, cells := 0, slots := 0, locals := 15 } : Room).slots) := by
  refine MetFree.of_bodySF (plainFor_of_name pn_1) hisR ?_
  intro p e s m args below meth c s₁ Bd hml0 hP hK
  obtain ⟨rfl, hZ, hh⟩ := hP
  have hx := Bd.exec
  have hby := Bd.bytes
  have hml : c.maxLocals = 9 := hml0
  have hown : s.vm.findClass "com/example/carved_corpus/carvedcorpus/cli/SeededRandom" = some m.cls := findClass_of_methodNamed Bd.named
  have hnm := (name_of_methodNamed Bd.named Bd.method).1
  have X0 : Stand p l e ({ frames := 1, cells := 0, slots := 0, locals := 15 } : Room) s m #[(.ref r0), (.ref r1)] below meth c s₁ [] 0 0 := Stand.of_body Bd
  have e0 : s₁.heap = h0 := by rw [← hh, Bd.state]; rfl
  have N0 := Fr.nil n0
  have k0 : own_R p e below (s₁.setTop (entryFrame m #[(.ref r0), (.ref r1)] 9)) (s₁.setTop (mkF m 0 #[.val (.ref r0), .val (.ref r1), .unset, .unset, .unset, .unset, .unset, .unset, .unset] [])) := fun t k => castTop (ef_1b m r0 r1) k
  have ks1 : own_R p e below (s₁.setTop (entryFrame m #[(.ref r0), (.ref r1)] 9)) (s₁.setTop (mkF m 1 #[.val (.ref r0), .val (.ref r1), .unset, .unset, .unset, .unset, .unset, .unset, .unset] [(.ref r0)])) := fun t k => k0 t (by
    show Steps p.tables e below (s₁.setTop (mkF m 0 #[.val (.ref r0), .val (.ref r1), .unset, .unset, .unset, .unset, .unset, .unset, .unset] [])) _
    refine XS.aloadN X0.here hx rfl (hb hby d1_0) rfl rfl ?_
    exact k)
  obtain ⟨T2, X2, e2, st2⟩ := initO X0 hx hZ hown (hw _ (List.mem_of_getElem? (i := 7) rfl)) (hw _ (List.mem_of_getElem? (i := 8) rfl)) (hw _ (List.mem_of_getElem? (i := 9) rfl)) e0 (g := (mkF m 1 #[.val (.ref r0), .val (.ref r1), .unset, .unset, .unset, .unset, .unset, .unset, .unset] [(.ref r0)])) rfl (by rw [hml]; rfl) rfl (hb hby d1_1) (by decide) (W := 0) (by show 2 * 0 + _ ≤ _; exact Nat.le_of_eq rfl) (by decide)
  have ks3 : own_R p e below (s₁.setTop (entryFrame m #[(.ref r0), (.ref r1)] 9)) (T2.setTop (mkF m 4 #[.val (.ref r0), .val (.ref r1), .unset, .unset, .unset, .unset, .unset, .unset, .unset] [])) := fun t k => ks1 t (st2 t k)
  have ks4 : own_R p e below (s₁.setTop (entryFrame m #[(.ref r0), (.ref r1)] 9)) (T2.setTop (mkF m 11 #[.val (.ref r0), .val (.ref r1), .val (.long (0 : Int64)), .second, .val (.ref r1), .unset, .unset, .unset, .unset] [(.ref r1)])) := fun t k => ks3 t (by
    show Steps p.tables e below (T2.setTop (mkF m 4 #[.val (.ref r0), .val (.ref r1), .unset, .unset, .unset, .unset, .unset, .unset, .unset] [])) _
    refine XS.lconst X2.here hx rfl (hb hby d1_4) ?_
    show Steps p.tables e below (T2.setTop (mkF m 5 #[.val (.ref r0), .val (.ref r1), .unset, .unset, .unset, .unset, .unset, .unset, .unset] [(.long (0 : Int64))])) _
    refine XS.lstoreN X2.here hx rfl (hb hby d1_5) rfl (l' := #[.val (.ref r0), .val (.ref r1), .val (.long (0 : Int64)), .second, .unset, .unset, .unset, .unset, .unset]) rfl ?_
    show Steps p.tables e below (T2.setTop (mkF m 6 #[.val (.ref r0), .val (.ref r1), .val (.long (0 : Int64)), .second, .unset, .unset, .unset, .unset, .unset] [])) _
    refine XS.aloadN X2.here hx rfl (hb hby d1_6) rfl rfl ?_
    show Steps p.tables e below (T2.setTop (mkF m 7 #[.val (.ref r0), .val (.ref r1), .val (.long (0 : Int64)), .second, .unset, .unset, .unset, .unset, .unset] [(.ref r1)])) _
    refine XS.astore X2.here hx rfl (hb hby d1_7) rfl rfl (l' := #[.val (.ref r0), .val (.ref r1), .val (.long (0 : Int64)), .second, .val (.ref r1), .unset, .unset, .unset, .unset]) rfl ?_
    show Steps p.tables e below (T2.setTop (mkF m 9 #[.val (.ref r0), .val (.ref r1), .val (.long (0 : Int64)), .second, .val (.ref r1), .unset, .unset, .unset, .unset] [])) _
    refine XS.aload X2.here hx rfl (hb hby d1_9) rfl rfl ?_
    exact k)
  obtain ⟨cl5, Ar5, qa5, S5, Na5, Ha5, Ga5⟩ := id V0
  have ks6 : own_R p e below (s₁.setTop (entryFrame m #[(.ref r0), (.ref r1)] 9)) (T2.setTop (mkF m 39 #[.val (.ref r0), .val (.ref r1), .val (.long (0 : Int64)), .second, .val (.ref r1), .val (.int (2 : Int32)), .val (.int (0 : Int32)), .val (.long y0), .second] [(.long ((-7046029254386353131 : Int64) ^^^ y0))])) := fun t k => ks4 t (by
    show Steps p.tables e below (T2.setTop (mkF m 11 #[.val (.ref r0), .val (.ref r1), .val (.long (0 : Int64)), .second, .val (.ref r1), .unset, .unset, .unset, .unset] [(.ref r1)])) _
    refine X2.arraylength hx (by rw [e2]; exact Ar5.1) (State.isArrayOf_alike hZ.alike Ar5.2.1) (g := (mkF m 11 #[.val (.ref r0), .val (.ref r1), .val (.long (0 : Int64)), .second, .val (.ref r1), .unset, .unset, .unset, .unset] [(.ref r1)])) rfl rfl (hb hby d1_11) _ ?_
    rw [len_of S5 Na5]
    show Steps p.tables e below (T2.setTop (mkF m 12 #[.val (.ref r0), .val (.ref r1), .val (.long (0 : Int64)), .second, .val (.ref r1), .unset, .unset, .unset, .unset] [(.int (2 : Int32))])) _
    refine XS.istore X2.here hx rfl (hb hby d1_12) rfl (l' := #[.val (.ref r0), .val (.ref r1), .val (.long (0 : Int64)), .second, .val (.ref r1), .val (.int (2 : Int32)), .unset, .unset, .unset]) rfl ?_
    show Steps p.tables e below (T2.setTop (mkF m 14 #[.val (.ref r0), .val (.ref r1), .val (.long (0 : Int64)), .second, .val (.ref r1), .val (.int (2 : Int32)), .unset, .unset, .unset] [])) _
    refine XS.iconst X2.here hx rfl (hb hby d1_14) ?_
    show Steps p.tables e below (T2.setTop (mkF m 15 #[.val (.ref r0), .val (.ref r1), .val (.long (0 : Int64)), .second, .val (.ref r1), .val (.int (2 : Int32)), .unset, .unset, .unset] [(.int (0 : Int32))])) _
    refine XS.istore X2.here hx rfl (hb hby d1_15) rfl (l' := #[.val (.ref r0), .val (.ref r1), .val (.long (0 : Int64)), .second, .val (.ref r1), .val (.int (2 : Int32)), .val (.int (0 : Int32)), .unset, .unset]) rfl ?_
    show Steps p.tables e below (T2.setTop (mkF m 17 #[.val (.ref r0), .val (.ref r1), .val (.long (0 : Int64)), .second, .val (.ref r1), .val (.int (2 : Int32)), .val (.int (0 : Int32)), .unset, .unset] [])) _
    refine XS.iload X2.here hx rfl (hb hby d1_17) rfl ?_
    show Steps p.tables e below (T2.setTop (mkF m 19 #[.val (.ref r0), .val (.ref r1), .val (.long (0 : Int64)), .second, .val (.ref r1), .val (.int (2 : Int32)), .val (.int (0 : Int32)), .unset, .unset] [(.int (0 : Int32))])) _
    refine XS.iload X2.here hx rfl (hb hby d1_19) rfl ?_
    show Steps p.tables e below (T2.setTop (mkF m 21 #[.val (.ref r0), .val (.ref r1), .val (.long (0 : Int64)), .second, .val (.ref r1), .val (.int (2 : Int32)), .val (.int (0 : Int32)), .unset, .unset] [(.int (2 : Int32)), (.int (0 : Int32))])) _
    refine XS.icmpNo X2.here hx rfl (hb hby d1_21) rfl (tlt (by decide)).2.1 ?_
    show Steps p.tables e below (T2.setTop (mkF m 24 #[.val (.ref r0), .val (.ref r1), .val (.long (0 : Int64)), .second, .val (.ref r1), .val (.int (2 : Int32)), .val (.int (0 : Int32)), .unset, .unset] [])) _
    refine XS.aload X2.here hx rfl (hb hby d1_24) rfl rfl ?_
    show Steps p.tables e below (T2.setTop (mkF m 26 #[.val (.ref r0), .val (.ref r1), .val (.long (0 : Int64)), .second, .val (.ref r1), .val (.int (2 : Int32)), .val (.int (0 : Int32)), .unset, .unset] [(.ref r1)])) _
    refine XS.iload X2.here hx rfl (hb hby d1_26) rfl ?_
    show Steps p.tables e below (T2.setTop (mkF m 28 #[.val (.ref r0), .val (.ref r1), .val (.long (0 : Int64)), .second, .val (.ref r1), .val (.int (2 : Int32)), .val (.int (0 : Int32)), .unset, .unset] [(.int (0 : Int32)), (.ref r1)])) _
    refine X2.laload hx (j := (0 : Int32)) (v := (.long y0)) (by rw [e2]; exact Ar5.1) (State.isArrayOf_alike hZ.alike Ar5.2.1) Ar5.2.2 (inb_of S5 ⟨by decide, by decide⟩) (Has.at Ha5 (inb_of S5 ⟨by decide, by decide⟩) rfl) (g := (mkF m 28 #[.val (.ref r0), .val (.ref r1), .val (.long (0 : Int64)), .second, .val (.ref r1), .val (.int (2 : Int32)), .val (.int (0 : Int32)), .unset, .unset] [(.int (0 : Int32)), (.ref r1)])) rfl rfl (hb hby d1_28) _ ?_
    show Steps p.tables e below (T2.setTop (mkF m 29 #[.val (.ref r0), .val (.ref r1), .val (.long (0 : Int64)), .second, .val (.ref r1), .val (.int (2 : Int32)), .val (.int (0 : Int32)), .unset, .unset] [(.long y0)])) _
    refine XS.lstore X2.here hx rfl (hb hby d1_29) rfl (l' := #[.val (.ref r0), .val (.ref r1), .val (.long (0 : Int64)), .second, .val (.ref r1), .val (.int (2 : Int32)), .val (.int (0 : Int32)), .val (.long y0), .second]) rfl ?_
    show Steps p.tables e below (T2.setTop (mkF m 31 #[.val (.ref r0), .val (.ref r1), .val (.long (0 : Int64)), .second, .val (.ref r1), .val (.int (2 : Int32)), .val (.int (0 : Int32)), .val (.long y0), .second] [])) _
    refine XS.lloadN X2.here hx rfl (hb hby d1_31) rfl ?_
    show Steps p.tables e below (T2.setTop (mkF m 32 #[.val (.ref r0), .val (.ref r1), .val (.long (0 : Int64)), .second, .val (.ref r1), .val (.int (2 : Int32)), .val (.int (0 : Int32)), .val (.long y0), .second] [(.long (0 : Int64))])) _
    refine X2.ldc2Long hx hown (mvT hZ (hw _ (List.mem_of_getElem? (i := 10) rfl))) (g := (mkF m 32 #[.val (.ref r0), .val (.ref r1), .val (.long (0 : Int64)), .second, .val (.ref r1), .val (.int (2 : Int32)), .val (.int (0 : Int32)), .val (.long y0), .second] [(.long (0 : Int64))])) rfl (hb hby d1_32) _ ?_
    show Steps p.tables e below (T2.setTop (mkF m 35 #[.val (.ref r0), .val (.ref r1), .val (.long (0 : Int64)), .second, .val (.ref r1), .val (.int (2 : Int32)), .val (.int (0 : Int32)), .val (.long y0), .second] [(.long (-7046029254386353131 : Int64)), (.long (0 : Int64))])) _
    refine XS.ladd X2.here hx rfl (hb hby d1_35) rfl ?_
    show Steps p.tables e below (T2.setTop (mkF m 36 #[.val (.ref r0), .val (.ref r1), .val (.long (0 : Int64)), .second, .val (.ref r1), .val (.int (2 : Int32)), .val (.int (0 : Int32)), .val (.long y0), .second] [(.long (-7046029254386353131 : Int64))])) _
    refine XS.lload X2.here hx rfl (hb hby d1_36) rfl ?_
    show Steps p.tables e below (T2.setTop (mkF m 38 #[.val (.ref r0), .val (.ref r1), .val (.long (0 : Int64)), .second, .val (.ref r1), .val (.int (2 : Int32)), .val (.int (0 : Int32)), .val (.long y0), .second] [(.long y0), (.long (-7046029254386353131 : Int64))])) _
    refine XS.lxor X2.here hx rfl (hb hby d1_38) rfl ?_
    exact k)
  obtain ⟨_, _, ⟨T7, L7, k7, n7⟩, -, X7, ⟨Lc7, hQ7, lq7, yq7, zq7⟩, st7⟩ := Jvm.LawKit.callS X2 hx (y := (⟨"com/example/carved_corpus/carvedcorpus/cli/SeededRandom", "mix", "(J)J"⟩ : MethodName)) hown (mvT hZ (hw _ (List.mem_of_getElem? (i := 11) rfl))) (mvT hZ (hw _ (List.mem_of_getElem? (i := 12) rfl))) (mvT hZ (hw _ (List.mem_of_getElem? (i := 2) rfl))) (mvT hZ (hw _ (List.mem_of_getElem? (i := 13) rfl))) (by decide) (backOf (W := 0) (rm3 l Z a0 hw [] ((-7046029254386353131 : Int64) ^^^ y0) h0 n0 Z0 ) hZ (hw _ (List.mem_of_getElem? (i := 13) rfl)) (hw _ (List.mem_of_getElem? (i := 2) rfl)) (by decide) (by decide)) (g := (mkF m 39 #[.val (.ref r0), .val (.ref r1), .val (.long (0 : Int64)), .second, .val (.ref r1), .val (.int (2 : Int32)), .val (.int (0 : Int32)), .val (.long y0), .second] [(.long ((-7046029254386353131 : Int64) ^^^ y0))])) rfl (by rw [hml]; rfl) (argsL := [(.long ((-7046029254386353131 : Int64) ^^^ y0))]) (rest := []) (lenOf pd_2 rfl) rfl (by show 2 * 0 + _ ≤ _; exact Nat.le_of_eq rfl) (hb hby d1_39) (fun _ _ => ⟨rfl, e2, (by decide : 0 + 0 ≤ _), (by decide : 0 + 0 ≤ _)⟩)
  dsimp only [Pt.U, Pt.locs, Pt.cells, Pt.slots] at X7 lq7 yq7 zq7 st7 hQ7
  subst lq7 yq7 zq7
  obtain ⟨rfl, Nq7, eq7⟩ := hQ7
  have N7 := Fr.app N0 Nq7
  have ks8 : own_R p e below (s₁.setTop (entryFrame m #[(.ref r0), (.ref r1)] 9)) (T7.setTop (mkF m 42 #[.val (.ref r0), .val (.ref r1), .val (.long (0 : Int64)), .second, .val (.ref r1), .val (.int (2 : Int32)), .val (.int (0 : Int32)), .val (.long y0), .second] [(.long (own_mix ((-7046029254386353131 : Int64) ^^^ y0)))])) := fun t k => ks6 t (st7 t k)
  obtain ⟨v9, hv9⟩ : ∃ z : Int64, z = (own_mix ((-7046029254386353131 : Int64) ^^^ y0)) := ⟨_, rfl⟩
  rw [← hv9] at ks8
  have ks10 : own_R p e below (s₁.setTop (entryFrame m #[(.ref r0), (.ref r1)] 9)) (T7.setTop (mkF m 39 #[.val (.ref r0), .val (.ref r1), .val (.long v9), .second, .val (.ref r1), .val (.int (2 : Int32)), .val (.int (1 : Int32)), .val (.long y1), .second] [(.long ((v9 + (-7046029254386353131 : Int64)) ^^^ y1))])) := fun t k => ks8 t (by
    show Steps p.tables e below (T7.setTop (mkF m 42 #[.val (.ref r0), .val (.ref r1), .val (.long (0 : Int64)), .second, .val (.ref r1), .val (.int (2 : Int32)), .val (.int (0 : Int32)), .val (.long y0), .second] [(.long v9)])) _
    refine XS.lstoreN X7.here hx rfl (hb hby d1_42) rfl (l' := #[.val (.ref r0), .val (.ref r1), .val (.long v9), .second, .val (.ref r1), .val (.int (2 : Int32)), .val (.int (0 : Int32)), .val (.long y0), .second]) rfl ?_
    show Steps p.tables e below (T7.setTop (mkF m 43 #[.val (.ref r0), .val (.ref r1), .val (.long v9), .second, .val (.ref r1), .val (.int (2 : Int32)), .val (.int (0 : Int32)), .val (.long y0), .second] [])) _
    refine XS.iinc X7.here hx rfl (hb hby d1_43) rfl (l' := #[.val (.ref r0), .val (.ref r1), .val (.long v9), .second, .val (.ref r1), .val (.int (2 : Int32)), .val (.int (1 : Int32)), .val (.long y0), .second]) rfl ?_
    show Steps p.tables e below (T7.setTop (mkF m 46 #[.val (.ref r0), .val (.ref r1), .val (.long v9), .second, .val (.ref r1), .val (.int (2 : Int32)), .val (.int (1 : Int32)), .val (.long y0), .second] [])) _
    refine XS.goto X7.here hx rfl (pc0 := 46) (pc' := 17) rfl (hb hby d1_46) (by decide) (by decide) ?_
    show Steps p.tables e below (T7.setTop (mkF m 17 #[.val (.ref r0), .val (.ref r1), .val (.long v9), .second, .val (.ref r1), .val (.int (2 : Int32)), .val (.int (1 : Int32)), .val (.long y0), .second] [])) _
    refine XS.iload X7.here hx rfl (hb hby d1_17) rfl ?_
    show Steps p.tables e below (T7.setTop (mkF m 19 #[.val (.ref r0), .val (.ref r1), .val (.long v9), .second, .val (.ref r1), .val (.int (2 : Int32)), .val (.int (1 : Int32)), .val (.long y0), .second] [(.int (1 : Int32))])) _
    refine XS.iload X7.here hx rfl (hb hby d1_19) rfl ?_
    show Steps p.tables e below (T7.setTop (mkF m 21 #[.val (.ref r0), .val (.ref r1), .val (.long v9), .second, .val (.ref r1), .val (.int (2 : Int32)), .val (.int (1 : Int32)), .val (.long y0), .second] [(.int (2 : Int32)), (.int (1 : Int32))])) _
    refine XS.icmpNo X7.here hx rfl (hb hby d1_21) rfl (tlt (by decide)).2.1 ?_
    show Steps p.tables e below (T7.setTop (mkF m 24 #[.val (.ref r0), .val (.ref r1), .val (.long v9), .second, .val (.ref r1), .val (.int (2 : Int32)), .val (.int (1 : Int32)), .val (.long y0), .second] [])) _
    refine XS.aload X7.here hx rfl (hb hby d1_24) rfl rfl ?_
    show Steps p.tables e below (T7.setTop (mkF m 26 #[.val (.ref r0), .val (.ref r1), .val (.long v9), .second, .val (.ref r1), .val (.int (2 : Int32)), .val (.int (1 : Int32)), .val (.long y0), .second] [(.ref r1)])) _
    refine XS.iload X7.here hx rfl (hb hby d1_26) rfl ?_
    show Steps p.tables e below (T7.setTop (mkF m 28 #[.val (.ref r0), .val (.ref r1), .val (.long v9), .second, .val (.ref r1), .val (.int (2 : Int32)), .val (.int (1 : Int32)), .val (.long y0), .second] [(.int (1 : Int32)), (.ref r1)])) _
    refine X7.laload hx (j := (1 : Int32)) (v := (.long y1)) (by rw [eq7]; exact Ar5.1) (State.isArrayOf_alike hZ.alike Ar5.2.1) Ar5.2.2 (inb_of S5 ⟨by decide, by decide⟩) (Has.at Ha5 (inb_of S5 ⟨by decide, by decide⟩) rfl) (g := (mkF m 28 #[.val (.ref r0), .val (.ref r1), .val (.long v9), .second, .val (.ref r1), .val (.int (2 : Int32)), .val (.int (1 : Int32)), .val (.long y0), .second] [(.int (1 : Int32)), (.ref r1)])) rfl rfl (hb hby d1_28) _ ?_
    show Steps p.tables e below (T7.setTop (mkF m 29 #[.val (.ref r0), .val (.ref r1), .val (.long v9), .second, .val (.ref r1), .val (.int (2 : Int32)), .val (.int (1 : Int32)), .val (.long y0), .second] [(.long y1)])) _
    refine XS.lstore X7.here hx rfl (hb hby d1_29) rfl (l' := #[.val (.ref r0), .val (.ref r1), .val (.long v9), .second, .val (.ref r1), .val (.int (2 : Int32)), .val (.int (1 : Int32)), .val (.long y1), .second]) rfl ?_
    show Steps p.tables e below (T7.setTop (mkF m 31 #[.val (.ref r0), .val (.ref r1), .val (.long v9), .second, .val (.ref r1), .val (.int (2 : Int32)), .val (.int (1 : Int32)), .val (.long y1), .second] [])) _
    refine XS.lloadN X7.here hx rfl (hb hby d1_31) rfl ?_
    show Steps p.tables e below (T7.setTop (mkF m 32 #[.val (.ref r0), .val (.ref r1), .val (.long v9), .second, .val (.ref r1), .val (.int (2 : Int32)), .val (.int (1 : Int32)), .val (.long y1), .second] [(.long v9)])) _
    refine X7.ldc2Long hx hown (mvT hZ (hw _ (List.mem_of_getElem? (i := 10) rfl))) (g := (mkF m 32 #[.val (.ref r0), .val (.ref r1), .val (.long v9), .second, .val (.ref r1), .val (.int (2 : Int32)), .val (.int (1 : Int32)), .val (.long y1), .second] [(.long v9)])) rfl (hb hby d1_32) _ ?_
    show Steps p.tables e below (T7.setTop (mkF m 35 #[.val (.ref r0), .val (.ref r1), .val (.long v9), .second, .val (.ref r1), .val (.int (2 : Int32)), .val (.int (1 : Int32)), .val (.long y1), .second] [(.long (-7046029254386353131 : Int64)), (.long v9)])) _
    refine XS.ladd X7.here hx rfl (hb hby d1_35) rfl ?_
    show Steps p.tables e below (T7.setTop (mkF m 36 #[.val (.ref r0), .val (.ref r1), .val (.long v9), .second, .val (.ref r1), .val (.int (2 : Int32)), .val (.int (1 : Int32)), .val (.long y1), .second] [(.long (v9 + (-7046029254386353131 : Int64)))])) _
    refine XS.lload X7.here hx rfl (hb hby d1_36) rfl ?_
    show Steps p.tables e below (T7.setTop (mkF m 38 #[.val (.ref r0), .val (.ref r1), .val (.long v9), .second, .val (.ref r1), .val (.int (2 : Int32)), .val (.int (1 : Int32)), .val (.long y1), .second] [(.long y1), (.long (v9 + (-7046029254386353131 : Int64)))])) _
    refine XS.lxor X7.here hx rfl (hb hby d1_38) rfl ?_
    exact k)
  obtain ⟨_, _, ⟨T11, L11, k11, n11⟩, -, X11, ⟨Lc11, hQ11, lq11, yq11, zq11⟩, st11⟩ := Jvm.LawKit.callS X7 hx (y := (⟨"com/example/carved_corpus/carvedcorpus/cli/SeededRandom", "mix", "(J)J"⟩ : MethodName)) hown (mvT hZ (hw _ (List.mem_of_getElem? (i := 11) rfl))) (mvT hZ (hw _ (List.mem_of_getElem? (i := 12) rfl))) (mvT hZ (hw _ (List.mem_of_getElem? (i := 2) rfl))) (mvT hZ (hw _ (List.mem_of_getElem? (i := 13) rfl))) (by decide) (backOf (W := 0) (rm3 l Z a0 hw [] ((v9 + (-7046029254386353131 : Int64)) ^^^ y1) h0 n0 Z0 ) hZ (hw _ (List.mem_of_getElem? (i := 13) rfl)) (hw _ (List.mem_of_getElem? (i := 2) rfl)) (by decide) (by decide)) (g := (mkF m 39 #[.val (.ref r0), .val (.ref r1), .val (.long v9), .second, .val (.ref r1), .val (.int (2 : Int32)), .val (.int (1 : Int32)), .val (.long y1), .second] [(.long ((v9 + (-7046029254386353131 : Int64)) ^^^ y1))])) rfl (by rw [hml]; rfl) (argsL := [(.long ((v9 + (-7046029254386353131 : Int64)) ^^^ y1))]) (rest := []) (lenOf pd_2 rfl) rfl (by show 2 * 0 + _ ≤ _; exact Nat.le_of_eq rfl) (hb hby d1_39) (fun _ _ => ⟨rfl, eq7, (by decide : 0 + 0 ≤ _), (by decide : 0 + 0 ≤ _)⟩)
  dsimp only [Pt.U, Pt.locs, Pt.cells, Pt.slots] at X11 lq11 yq11 zq11 st11 hQ11
  subst lq11 yq11 zq11
  obtain ⟨rfl, Nq11, eq11⟩ := hQ11
  have N11 := Fr.app N7 Nq11
  have ks12 : own_R p e below (s₁.setTop (entryFrame m #[(.ref r0), (.ref r1)] 9)) (T11.setTop (mkF m 42 #[.val (.ref r0), .val (.ref r1), .val (.long v9), .second, .val (.ref r1), .val (.int (2 : Int32)), .val (.int (1 : Int32)), .val (.long y1), .second] [(.long (own_mix ((v9 + (-7046029254386353131 : Int64)) ^^^ y1)))])) := fun t k => ks10 t (st11 t k)
  obtain ⟨v13, hv13⟩ : ∃ z : Int64, z = (own_mix ((v9 + (-7046029254386353131 : Int64)) ^^^ y1)) := ⟨_, rfl⟩
  rw [← hv13] at ks12
  have ks14 : own_R p e below (s₁.setTop (entryFrame m #[(.ref r0), (.ref r1)] 9)) (T11.setTop (mkF m 51 #[.val (.ref r0), .val (.ref r1), .val (.long v13), .second, .val (.ref r1), .val (.int (2 : Int32)), .val (.int (2 : Int32)), .val (.long y1), .second] [(.long v13), (.ref r0)])) := fun t k => ks12 t (by
    show Steps p.tables e below (T11.setTop (mkF m 42 #[.val (.ref r0), .val (.ref r1), .val (.long v9), .second, .val (.ref r1), .val (.int (2 : Int32)), .val (.int (1 : Int32)), .val (.long y1), .second] [(.long v13)])) _
    refine XS.lstoreN X11.here hx rfl (hb hby d1_42) rfl (l' := #[.val (.ref r0), .val (.ref r1), .val (.long v13), .second, .val (.ref r1), .val (.int (2 : Int32)), .val (.int (1 : Int32)), .val (.long y1), .second]) rfl ?_
    show Steps p.tables e below (T11.setTop (mkF m 43 #[.val (.ref r0), .val (.ref r1), .val (.long v13), .second, .val (.ref r1), .val (.int (2 : Int32)), .val (.int (1 : Int32)), .val (.long y1), .second] [])) _
    refine XS.iinc X11.here hx rfl (hb hby d1_43) rfl (l' := #[.val (.ref r0), .val (.ref r1), .val (.long v13), .second, .val (.ref r1), .val (.int (2 : Int32)), .val (.int (2 : Int32)), .val (.long y1), .second]) rfl ?_
    show Steps p.tables e below (T11.setTop (mkF m 46 #[.val (.ref r0), .val (.ref r1), .val (.long v13), .second, .val (.ref r1), .val (.int (2 : Int32)), .val (.int (2 : Int32)), .val (.long y1), .second] [])) _
    refine XS.goto X11.here hx rfl (pc0 := 46) (pc' := 17) rfl (hb hby d1_46) (by decide) (by decide) ?_
    show Steps p.tables e below (T11.setTop (mkF m 17 #[.val (.ref r0), .val (.ref r1), .val (.long v13), .second, .val (.ref r1), .val (.int (2 : Int32)), .val (.int (2 : Int32)), .val (.long y1), .second] [])) _
    refine XS.iload X11.here hx rfl (hb hby d1_17) rfl ?_
    show Steps p.tables e below (T11.setTop (mkF m 19 #[.val (.ref r0), .val (.ref r1), .val (.long v13), .second, .val (.ref r1), .val (.int (2 : Int32)), .val (.int (2 : Int32)), .val (.long y1), .second] [(.int (2 : Int32))])) _
    refine XS.iload X11.here hx rfl (hb hby d1_19) rfl ?_
    show Steps p.tables e below (T11.setTop (mkF m 21 #[.val (.ref r0), .val (.ref r1), .val (.long v13), .second, .val (.ref r1), .val (.int (2 : Int32)), .val (.int (2 : Int32)), .val (.long y1), .second] [(.int (2 : Int32)), (.int (2 : Int32))])) _
    refine XS.icmpYes X11.here hx rfl (pc0 := 21) (pc' := 49) rfl (hb hby d1_21) rfl (flt (by decide)).2.1 (by decide) (by decide) ?_
    show Steps p.tables e below (T11.setTop (mkF m 49 #[.val (.ref r0), .val (.ref r1), .val (.long v13), .second, .val (.ref r1), .val (.int (2 : Int32)), .val (.int (2 : Int32)), .val (.long y1), .second] [])) _
    refine XS.aloadN X11.here hx rfl (hb hby d1_49) rfl rfl ?_
    show Steps p.tables e below (T11.setTop (mkF m 50 #[.val (.ref r0), .val (.ref r1), .val (.long v13), .second, .val (.ref r1), .val (.int (2 : Int32)), .val (.int (2 : Int32)), .val (.long y1), .second] [(.ref r0)])) _
    refine XS.lloadN X11.here hx rfl (hb hby d1_50) rfl ?_
    exact k)
  obtain ⟨T15, h15, X15, e15, W15, st15⟩ := putF X11 hx hZ hown (host := "") (Or.inl (hw _ (List.mem_of_getElem? (i := 16) rfl))) Via.refl eq11 F0 E0 (Or.inl (hw _ (List.mem_of_getElem? (i := 17) rfl))) (hw _ (List.mem_of_getElem? (i := 1) rfl)) (ty := .long) (by decide) rfl rfl (g := (mkF m 51 #[.val (.ref r0), .val (.ref r1), .val (.long v13), .second, .val (.ref r1), .val (.int (2 : Int32)), .val (.int (2 : Int32)), .val (.long y1), .second] [(.long v13), (.ref r0)])) rfl rfl (hb hby d1_51)
  have Fw15 := F0.same W15
  have KH15 : Keep h0 h15 [r0] := (Keep.refl h0 [r0]).wr W15 (Or.inl (List.mem_of_getElem? (i := 0) rfl))
  have Zn15 : n0 ≤ h15.size := Nat.le_trans Z0 (Keep.of_wr W15).1
  have N15 := Fr.snoc X15 N11 g_r0
  have ks16 : own_R p e below (s₁.setTop (entryFrame m #[(.ref r0), (.ref r1)] 9)) (T15.setTop (mkF m 54 #[.val (.ref r0), .val (.ref r1), .val (.long v13), .second, .val (.ref r1), .val (.int (2 : Int32)), .val (.int (2 : Int32)), .val (.long y1), .second] [])) := fun t k => ks14 t (st15 t k)
  obtain ⟨fs, hr, hrun, hended, hW, hsame⟩ := X15.leave (v := none) (fun _ => rfl)
  refine ⟨_, _, ks16 _ ?_, hrun, hended, _, _, rfl, ?_, ⟨_, rfl⟩, hW, hsame.mono (by decide) (by decide)⟩
  · exact X15.returnOut hx Bd.returns (hb hby d1_54) hr
  · show Q1b Z r0 r1 k1 q9 y0 y1 h0 n0 _ T15.heap _
    rw [e15]
    have f17 := E0.keep KH15
    refine ⟨?_, N15, KH15, f17, ?_⟩
    · first | rfl | (subst hv13; subst hv9; rfl)
    · first | exact Fw15 | (subst hv13; subst hv9; exact Fw15)
theorem d4_0 : decode prog_14_method_2_code 0 = .ok (.aload_n 0, 1) := by decide +kernel
theorem d4_1 : decode prog_14_method_2_code 1 = .ok (.dup, 1) := by decide +kernel
theorem d4_2 : decode prog_14_method_2_code 2 = .ok (.getfield 15, 3) := by decide +kernel
theorem d4_5 : decode prog_14_method_2_code 5 = .ok (.ldc2_w 9, 3) := by decide +kernel
theorem d4_8 : decode prog_14_method_2_code 8 = .ok (.ladd, 1) := by decide +kernel
theorem d4_9 : decode prog_14_method_2_code 9 = .ok (.putfield 15, 3) := by decide +kernel
theorem d4_12 : decode prog_14_method_2_code 12 = .ok (.aload_n 0, 1) := by decide +kernel
theorem d4_13 : decode prog_14_method_2_code 13 = .ok (.getfield 15, 3) := by decide +kernel
theorem d4_16 : decode prog_14_method_2_code 16 = .ok (.invokestatic 11, 3) := by decide +kernel
theorem d4_19 : decode prog_14_method_2_code 19 = .ok (.lreturn, 1) := by decide +kernel
theorem pn_4 : plainName "com/example/carved_corpus/carvedcorpus/cli/SeededRandom" = true := by first | (simp [plainName, overriddenIn]; done) | decide +kernel
theorem ef_4 (m : MethodId) (x0 : Addr) : entryFrame m #[(.ref x0)] 1 = mkF m 0 #[.val (.ref x0)] [] := by first | (simp [entryFrame, mkF, argsToLocals, Value.category]; done) | rfl
def Q4 (Z : State) (r0 : Addr) (q9 : Int64) (h0 : Heap) (n0 : Nat) (v : Option Value) (h : Heap) (L : List Loc) : Prop := v = some (.long (own_mix (q9 + (-7046029254386353131 : Int64)))) ∧ Fr n0 L ∧ Keep h0 h [r0] ∧ Exa Z h r0 "com/example/carved_corpus/carvedcorpus/cli/SeededRandom" ∧ Fld Z h r0 "com/example/carved_corpus/carvedcorpus/cli/SeededRandom" "state" "J" (.long (q9 + (-7046029254386353131 : Int64)))
set_option maxRecDepth 65536 in
set_option maxHeartbeats 40000000 in
theorem rm4 (l : Launch) (Z : State) (a0 : Array Value) (hw : ∀ d ∈ tables_1, d.before a0 Z = true) (ws : List Jvm.Cond) (r0 : Addr) (q9 : Int64) (h0 : Heap) (n0 : Nat) (Z0 : n0 ≤ h0.size) (g_r0 : n0 ≤ r0) (E0 : Exa Z h0 r0 "com/example/carved_corpus/carvedcorpus/cli/SeededRandom") (F0 : Fld Z h0 r0 "com/example/carved_corpus/carvedcorpus/cli/SeededRandom" "state" "J" (.long q9)) :
    MetFree l (⟨"com/example/carved_corpus/carvedcorpus/cli/SeededRandom", "nextLong", "()J"⟩ : MethodName) (head1 (Jvm.Cond.code (⟨"com/example/carved_corpus/carvedcorpus/cli/SeededRandom", "nextLong", "()J"⟩ : MethodName) prog_14_method_2_code 1 (some .long) :: ws) ({ frames := 1, cells := 0, slots := 0, locals := 15 } : Room)) (fun a U => a = #[(.ref r0)] ∧ Z.Warmed39 U.vm ∧ U.heap = h0) (fun _ _ _ _ _ => True) (fun _ U o U' => ∃ v L, o = .returned v ∧ Q4 Z r0 q9 h0 n0 v U'.heap L ∧ FrameEnd U o U' L ({ frames := 1, cells := 0, slots := 0, locals := 15 } : Room).cells ({ frames := 1, cells := 0, slots := 0, locals := 15 } : Room).slots) := by
  refine MetFree.of_bodySF (plainFor_of_name pn_4) hisR ?_
  intro p e s m args below meth c s₁ Bd hml0 hP hK
  obtain ⟨rfl, hZ, hh⟩ := hP
  have hx := Bd.exec
  have hby := Bd.bytes
  have hml : c.maxLocals = 1 := hml0
  have hown : s.vm.findClass "com/example/carved_corpus/carvedcorpus/cli/SeededRandom" = some m.cls := findClass_of_methodNamed Bd.named
  have hnm := (name_of_methodNamed Bd.named Bd.method).1
  have X0 : Stand p l e ({ frames := 1, cells := 0, slots := 0, locals := 15 } : Room) s m #[(.ref r0)] below meth c s₁ [] 0 0 := Stand.of_body Bd
  have e0 : s₁.heap = h0 := by rw [← hh, Bd.state]; rfl
  have N0 := Fr.nil n0
  have k0 : own_R p e below (s₁.setTop (entryFrame m #[(.ref r0)] 1)) (s₁.setTop (mkF m 0 #[.val (.ref r0)] [])) := fun t k => castTop (ef_4 m r0) k
  have ks1 : own_R p e below (s₁.setTop (entryFrame m #[(.ref r0)] 1)) (s₁.setTop (mkF m 2 #[.val (.ref r0)] [(.ref r0), (.ref r0)])) := fun t k => k0 t (by
    show Steps p.tables e below (s₁.setTop (mkF m 0 #[.val (.ref r0)] [])) _
    refine XS.aloadN X0.here hx rfl (hb hby d4_0) rfl rfl ?_
    show Steps p.tables e below (s₁.setTop (mkF m 1 #[.val (.ref r0)] [(.ref r0)])) _
    refine XS.dup X0.here hx rfl (hb hby d4_1) rfl rfl ?_
    exact k)
  obtain ⟨T2, X2, e2, st2⟩ := getF X0 hx hZ hown (host := "") (Or.inl (hw _ (List.mem_of_getElem? (i := 16) rfl))) Via.refl e0 F0 (g := (mkF m 2 #[.val (.ref r0)] [(.ref r0), (.ref r0)])) rfl rfl (hb hby d4_2)
  have ks3 : own_R p e below (s₁.setTop (entryFrame m #[(.ref r0)] 1)) (T2.setTop (mkF m 5 #[.val (.ref r0)] [(.long q9), (.ref r0)])) := fun t k => ks1 t (st2 t k)
  have ks4 : own_R p e below (s₁.setTop (entryFrame m #[(.ref r0)] 1)) (T2.setTop (mkF m 9 #[.val (.ref r0)] [(.long (q9 + (-7046029254386353131 : Int64))), (.ref r0)])) := fun t k => ks3 t (by
    show Steps p.tables e below (T2.setTop (mkF m 5 #[.val (.ref r0)] [(.long q9), (.ref r0)])) _
    refine X2.ldc2Long hx hown (mvT hZ (hw _ (List.mem_of_getElem? (i := 10) rfl))) (g := (mkF m 5 #[.val (.ref r0)] [(.long q9), (.ref r0)])) rfl (hb hby d4_5) _ ?_
    show Steps p.tables e below (T2.setTop (mkF m 8 #[.val (.ref r0)] [(.long (-7046029254386353131 : Int64)), (.long q9), (.ref r0)])) _
    refine XS.ladd X2.here hx rfl (hb hby d4_8) rfl ?_
    exact k)
  obtain ⟨T5, h5, X5, e5, W5, st5⟩ := putF X2 hx hZ hown (host := "") (Or.inl (hw _ (List.mem_of_getElem? (i := 16) rfl))) Via.refl e2 F0 E0 (Or.inl (hw _ (List.mem_of_getElem? (i := 17) rfl))) (hw _ (List.mem_of_getElem? (i := 1) rfl)) (ty := .long) (by decide) rfl rfl (g := (mkF m 9 #[.val (.ref r0)] [(.long (q9 + (-7046029254386353131 : Int64))), (.ref r0)])) rfl rfl (hb hby d4_9)
  have Fw5 := F0.same W5
  have KH5 : Keep h0 h5 [r0] := (Keep.refl h0 [r0]).wr W5 (Or.inl (List.mem_of_getElem? (i := 0) rfl))
  have Zn5 : n0 ≤ h5.size := Nat.le_trans Z0 (Keep.of_wr W5).1
  have N5 := Fr.snoc X5 N0 g_r0
  have ks6 : own_R p e below (s₁.setTop (entryFrame m #[(.ref r0)] 1)) (T5.setTop (mkF m 12 #[.val (.ref r0)] [])) := fun t k => ks4 t (st5 t k)
  have ks7 : own_R p e below (s₁.setTop (entryFrame m #[(.ref r0)] 1)) (T5.setTop (mkF m 13 #[.val (.ref r0)] [(.ref r0)])) := fun t k => ks6 t (by
    show Steps p.tables e below (T5.setTop (mkF m 12 #[.val (.ref r0)] [])) _
    refine XS.aloadN X5.here hx rfl (hb hby d4_12) rfl rfl ?_
    exact k)
  obtain ⟨T8, X8, e8, st8⟩ := getF X5 hx hZ hown (host := "") (Or.inl (hw _ (List.mem_of_getElem? (i := 16) rfl))) Via.refl e5 Fw5 (g := (mkF m 13 #[.val (.ref r0)] [(.ref r0)])) rfl rfl (hb hby d4_13)
  have ks9 : own_R p e below (s₁.setTop (entryFrame m #[(.ref r0)] 1)) (T8.setTop (mkF m 16 #[.val (.ref r0)] [(.long (q9 + (-7046029254386353131 : Int64)))])) := fun t k => ks7 t (st8 t k)
  obtain ⟨_, _, ⟨T10, L10, k10, n10⟩, -, X10, ⟨Lc10, hQ10, lq10, yq10, zq10⟩, st10⟩ := Jvm.LawKit.callS X8 hx (y := (⟨"com/example/carved_corpus/carvedcorpus/cli/SeededRandom", "mix", "(J)J"⟩ : MethodName)) hown (mvT hZ (hw _ (List.mem_of_getElem? (i := 11) rfl))) (mvT hZ (hw _ (List.mem_of_getElem? (i := 12) rfl))) (mvT hZ (hw _ (List.mem_of_getElem? (i := 2) rfl))) (mvT hZ (hw _ (List.mem_of_getElem? (i := 13) rfl))) (by decide) (backOf (W := 0) (rm3 l Z a0 hw [] (q9 + (-7046029254386353131 : Int64)) h5 n0 Zn5 ) hZ (hw _ (List.mem_of_getElem? (i := 13) rfl)) (hw _ (List.mem_of_getElem? (i := 2) rfl)) (by decide) (by decide)) (g := (mkF m 16 #[.val (.ref r0)] [(.long (q9 + (-7046029254386353131 : Int64)))])) rfl (by rw [hml]; rfl) (argsL := [(.long (q9 + (-7046029254386353131 : Int64)))]) (rest := []) (lenOf pd_2 rfl) rfl (by show 2 * 0 + _ ≤ _; exact Nat.le_of_eq rfl) (hb hby d4_16) (fun _ _ => ⟨rfl, e8, (by decide : 0 + 0 ≤ _), (by decide : 0 + 0 ≤ _)⟩)
  dsimp only [Pt.U, Pt.locs, Pt.cells, Pt.slots] at X10 lq10 yq10 zq10 st10 hQ10
  subst lq10 yq10 zq10
  obtain ⟨rfl, Nq10, eq10⟩ := hQ10
  have N10 := Fr.app N5 Nq10
  have ks11 : own_R p e below (s₁.setTop (entryFrame m #[(.ref r0)] 1)) (T10.setTop (mkF m 19 #[.val (.ref r0)] [(.long (own_mix (q9 + (-7046029254386353131 : Int64))))])) := fun t k => ks9 t (st10 t k)
  obtain ⟨fs, hr, hrun, hended, hW, hsame⟩ := X10.leave (v := some (.long (own_mix (q9 + (-7046029254386353131 : Int64))))) (fun h => by rw [Bd.returns] at h; cases h)
  refine ⟨_, _, ks11 _ ?_, hrun, hended, _, _, rfl, ?_, ⟨_, rfl⟩, hW, hsame.mono (by decide) (by decide)⟩
  · exact retOut X10 hx Bd.returns rfl (Or.inr (Or.inl ⟨rfl, rfl, _, rfl⟩)) (hb hby d4_19) hr
  · show Q4 Z r0 q9 h0 n0 _ T10.heap _
    rw [eq10]
    have f12 := E0.keep KH5
    refine ⟨?_, N10, KH5, f12, ?_⟩
    · first | rfl | (rfl)
    · first | exact Fw5 | (exact Fw5)

theorem own_shr (q : Int32) (k : Nat) (hk : q.toBitVec.toNat % 64 = k) (y : Int64) : ((y.toUInt64 >>> (q &&& 0x3f).toInt64.toUInt64).toInt64).toBitVec = y.toBitVec >>> k := by
  have e := (sm64 q k hk).1; have l := (sm64 q k hk).2
  show (y.toUInt64 >>> (q &&& 0x3f).toInt64.toUInt64).toBitVec = _
  rw [UInt64.toBitVec_shiftRight]
  show y.toBitVec >>> ((q &&& 0x3f).toInt64.toBitVec % 64#64) = _
  rw [e]
  apply BitVec.eq_of_toNat_eq
  simp [BitVec.toNat_ushiftRight, BitVec.toNat_ofNat, Nat.mod_eq_of_lt (show k < 18446744073709551616 by omega), Nat.mod_eq_of_lt l]
theorem own_i1 : (-7723592293110705685 : Int64) * own_inv (-7723592293110705685 : Int64) = 1 := by decide +kernel
theorem own_i2 : (-4658895280553007687 : Int64) * own_inv (-4658895280553007687 : Int64) = 1 := by decide +kernel
theorem own_xs (x : Int64) (n : Nat) (q1 q2 : Int32) (h1 : q1.toBitVec.toNat % 64 = n) (h2 : q2.toBitVec.toNat % 64 = 2 * n) (h3 : 64 ≤ 3 * n) :
    (((x ^^^ ((x.toUInt64 >>> (q1 &&& 0x3f).toInt64.toUInt64).toInt64)) ^^^ (((x ^^^ ((x.toUInt64 >>> (q1 &&& 0x3f).toInt64.toUInt64).toInt64)).toUInt64 >>> (q1 &&& 0x3f).toInt64.toUInt64).toInt64)) ^^^ (((x ^^^ ((x.toUInt64 >>> (q1 &&& 0x3f).toInt64.toUInt64).toInt64)).toUInt64 >>> (q2 &&& 0x3f).toInt64.toUInt64).toInt64)) = x := by
  have s1 : ∀ y : Int64, ((y.toUInt64 >>> (q1 &&& 0x3f).toInt64.toUInt64).toInt64).toBitVec = y.toBitVec >>> n := own_shr q1 n h1
  have s2 : ∀ y : Int64, ((y.toUInt64 >>> (q2 &&& 0x3f).toInt64.toUInt64).toInt64).toBitVec = y.toBitVec >>> (2 * n) := own_shr q2 (2 * n) h2
  apply Int64.toBitVec_inj.mp
  simp only [Int64.toBitVec_xor, s1, s2]
  apply BitVec.eq_of_getLsbD_eq; intro i hi
  simp only [BitVec.getLsbD_xor, BitVec.getLsbD_ushiftRight]
  rw [show n + (n + i) = 2 * n + i by omega, show n + (2 * n + i) = 3 * n + i by omega, BitVec.getLsbD_of_ge _ (3 * n + i) (by omega)]
  cases x.toBitVec.getLsbD i <;> cases x.toBitVec.getLsbD (n + i) <;> cases x.toBitVec.getLsbD (2 * n + i) <;> rfl
theorem own_unmix_mix (x : Int64) : own_unmix (own_mix x) = x := by
  unfold own_unmix own_mix
  rw [own_xs _ 31 31 62 (by decide) (by decide) (by decide), Int64.mul_assoc, own_i1, Int64.mul_one, own_xs _ 27 27 54 (by decide) (by decide) (by decide), Int64.mul_assoc, own_i2, Int64.mul_one, own_xs _ 30 30 60 (by decide) (by decide) (by decide)]
theorem own_cancel (y g : Int64) : (y + g) - y = g := by
  rw [Int64.add_comm, Int64.add_sub_cancel]
theorem pn_0 : plainName "com/example/carved_corpus/carvedcorpus/cli/SeededRandomNextLongPinLaw" = true := by first | (simp [plainName, overriddenIn]; done) | decide +kernel
theorem pd_0 : parseMethodDescriptor "([J)V" = some ⟨[(.array .long)], none⟩ := by decide +kernel
theorem pd_3 : parseMethodDescriptor "()J" = some ⟨[], some .long⟩ := by decide +kernel
theorem ef_0 (m : MethodId) (x0 : Int64) : entryFrame m #[(.long x0)] maxLocals = mkF m 0 #[.val (.long x0), .second, .unset, .unset, .unset, .unset, .unset, .unset, .unset, .unset, .unset, .unset] [] := by first | (simp [entryFrame, mkF, argsToLocals, Value.category, maxLocals]; done) | rfl
def Q0 (Z : State) (q0 : Int64) (h0 : Heap) (n0 : Nat) (v : Option Value) (h : Heap) (L : List Loc) : Prop := v = some (.int (1 : Int32)) ∧ Fr n0 L
set_option maxRecDepth 65536 in
set_option maxHeartbeats 40000000 in
theorem rm0 (l : Launch) (Z : State) (a0 : Array Value) (hw : ∀ d ∈ tables_1, d.before a0 Z = true) (ws : List Jvm.Cond) (q0 : Int64) (h0 : Heap) (n0 : Nat) (Z0 : n0 ≤ h0.size) :
    MetFree l x (head1 (Jvm.Cond.code x code maxLocals ret :: ws) room_1) (fun a U => a = #[(.long q0)] ∧ Z.Warmed39 U.vm ∧ U.heap = h0) (fun _ _ _ _ _ => True) (fun _ U o U' => ∃ v L, o = .returned v ∧ Q0 Z q0 h0 n0 v U'.heap L ∧ FrameEnd U o U' L 16 128) := by
  refine MetFree.of_bodySF (plainFor_of_name pn_0) hisR ?_
  intro p e s m args below meth c s₁ Bd hml0 hP hK
  obtain ⟨rfl, hZ, hh⟩ := hP
  have hx := Bd.exec
  have hby := Bd.bytes
  have hml : c.maxLocals = 12 := hml0
  have hown : s.vm.findClass "com/example/carved_corpus/carvedcorpus/cli/SeededRandomNextLongPinLaw" = some m.cls := findClass_of_methodNamed Bd.named
  have hnm := (name_of_methodNamed Bd.named Bd.method).1
  have X0 : Stand p l e room_1 s m #[(.long q0)] below meth c s₁ [] 0 0 := Stand.of_body Bd
  have e0 : s₁.heap = h0 := by rw [← hh, Bd.state]; rfl
  have N0 := Fr.nil n0
  have k0 : own_R p e below (s₁.setTop (entryFrame m #[(.long q0)] maxLocals)) (s₁.setTop (mkF m 0 #[.val (.long q0), .second, .unset, .unset, .unset, .unset, .unset, .unset, .unset, .unset, .unset, .unset] [])) := fun t k => castTop (ef_0 m q0) k
  obtain ⟨T1, h1, X1, e1, E1, A1, D1, -, st1⟩ := newO X0 hx hZ hown (hw _ (List.mem_of_getElem? (i := 0) rfl)) (hw _ (List.mem_of_getElem? (i := 1) rfl)) (hw _ (List.mem_of_getElem? (i := 2) rfl)) e0 (g := (mkF m 0 #[.val (.long q0), .second, .unset, .unset, .unset, .unset, .unset, .unset, .unset, .unset, .unset, .unset] [])) rfl (hb hby at_0) (by decide) (by decide)
  obtain ⟨b1, g1⟩ : ∃ z, z = h0.size := ⟨_, rfl⟩
  rw [← g1] at A1 D1 st1
  have g_b1 : n0 ≤ b1 := Nat.le_trans Z0 (Nat.le_of_eq g1.symm)
  have sz_b1 : h0.size ≤ b1 := Nat.le_trans (Keep.refl h0 []).1 (Nat.le_of_eq g1.symm)
  have KH1 : Keep h0 h1 [] := (Keep.refl h0 []).ext E1
  have Zn1 : n0 ≤ h1.size := Nat.le_trans Z0 E1.1
  have F_state_b1 : Fld Z h1 b1 "com/example/carved_corpus/carvedcorpus/cli/SeededRandom" "state" "J" (.long (0 : Int64)) := D1 (Or.inl (hw _ (List.mem_of_getElem? (i := 17) rfl))) (ty := .long) (by decide)
  have ks2 : own_R p e below (s₁.setTop (entryFrame m #[(.long q0)] maxLocals)) (T1.setTop (mkF m 3 #[.val (.long q0), .second, .unset, .unset, .unset, .unset, .unset, .unset, .unset, .unset, .unset, .unset] [(.ref b1)])) := fun t k => k0 t (st1 t k)
  have ks3 : own_R p e below (s₁.setTop (entryFrame m #[(.long q0)] maxLocals)) (T1.setTop (mkF m 5 #[.val (.long q0), .second, .unset, .unset, .unset, .unset, .unset, .unset, .unset, .unset, .unset, .unset] [(.int (1 : Int32)), (.ref b1), (.ref b1)])) := fun t k => ks2 t (by
    show Steps p.tables e below (T1.setTop (mkF m 3 #[.val (.long q0), .second, .unset, .unset, .unset, .unset, .unset, .unset, .unset, .unset, .unset, .unset] [(.ref b1)])) _
    refine XS.dup X1.here hx rfl (hb hby at_3) rfl rfl ?_
    show Steps p.tables e below (T1.setTop (mkF m 4 #[.val (.long q0), .second, .unset, .unset, .unset, .unset, .unset, .unset, .unset, .unset, .unset, .unset] [(.ref b1), (.ref b1)])) _
    refine XS.iconst X1.here hx rfl (hb hby at_4) ?_
    exact k)
  obtain ⟨T4, h4, c4, X4, e4, E4, A4, st4⟩ := newP X1 hx hZ (hw _ (List.mem_of_getElem? (i := 3) rfl)) e1 (g := (mkF m 5 #[.val (.long q0), .second, .unset, .unset, .unset, .unset, .unset, .unset, .unset, .unset, .unset, .unset] [(.int (1 : Int32)), (.ref b1), (.ref b1)])) rfl (hb hby at_5) rfl (by decide) (cap := 1) (by decide) (by decide) (by decide) (by decide)
  obtain ⟨b4, g4⟩ : ∃ z, z = h1.size := ⟨_, rfl⟩
  rw [← g4] at A4 st4
  have ne_b1_b4 : b1 ≠ b4 := Nat.ne_of_lt (Nat.lt_of_lt_of_le A1.lt (Nat.le_of_eq g4.symm))
  have g_b4 : n0 ≤ b4 := Nat.le_trans Zn1 (Nat.le_of_eq g4.symm)
  have sz_b4 : h0.size ≤ b4 := Nat.le_trans KH1.1 (Nat.le_of_eq g4.symm)
  have KH4 : Keep h0 h4 [] := KH1.ext E4
  have Zn4 : n0 ≤ h4.size := Nat.le_trans Zn1 E4.1
  have V4 : Arv Z h4 b4 c4 .long (1 : Int32) [(.long (0 : Int64))] (.long (0 : Int64)) := (Arv.new A4 (by decide)).pad (pad_rep [] (.long (0 : Int64)) 1)
  have ks5 : own_R p e below (s₁.setTop (entryFrame m #[(.long q0)] maxLocals)) (T4.setTop (mkF m 7 #[.val (.long q0), .second, .unset, .unset, .unset, .unset, .unset, .unset, .unset, .unset, .unset, .unset] [(.ref b4), (.ref b1), (.ref b1)])) := fun t k => ks3 t (st4 t k)
  have ks6 : own_R p e below (s₁.setTop (entryFrame m #[(.long q0)] maxLocals)) (T4.setTop (mkF m 10 #[.val (.long q0), .second, .unset, .unset, .unset, .unset, .unset, .unset, .unset, .unset, .unset, .unset] [(.long q0), (.int (0 : Int32)), (.ref b4), (.ref b4), (.ref b1), (.ref b1)])) := fun t k => ks5 t (by
    show Steps p.tables e below (T4.setTop (mkF m 7 #[.val (.long q0), .second, .unset, .unset, .unset, .unset, .unset, .unset, .unset, .unset, .unset, .unset] [(.ref b4), (.ref b1), (.ref b1)])) _
    refine XS.dup X4.here hx rfl (hb hby at_7) rfl rfl ?_
    show Steps p.tables e below (T4.setTop (mkF m 8 #[.val (.long q0), .second, .unset, .unset, .unset, .unset, .unset, .unset, .unset, .unset, .unset, .unset] [(.ref b4), (.ref b4), (.ref b1), (.ref b1)])) _
    refine XS.iconst X4.here hx rfl (hb hby at_8) ?_
    show Steps p.tables e below (T4.setTop (mkF m 9 #[.val (.long q0), .second, .unset, .unset, .unset, .unset, .unset, .unset, .unset, .unset, .unset, .unset] [(.int (0 : Int32)), (.ref b4), (.ref b4), (.ref b1), (.ref b1)])) _
    refine XS.lloadN X4.here hx rfl (hb hby at_9) rfl ?_
    exact k)
  obtain ⟨cl7, Ar7, qa7, S7, Na7, Ha7, Ga7⟩ := id V4
  have hin7 : ¬ ((0 : Int32) < 0 ∨ cl7.slots.size ≤ ((0 : Int32)).toNatClampNeg) := inb_of S7 ⟨by decide, by decide⟩
  obtain ⟨T8, h8, X8, e8, W8, st8⟩ := stJ X4 hx hZ e4 Ar7 (j := (0 : Int32)) hin7 (g := (mkF m 10 #[.val (.long q0), .second, .unset, .unset, .unset, .unset, .unset, .unset, .unset, .unset, .unset, .unset] [(.long q0), (.int (0 : Int32)), (.ref b4), (.ref b4), (.ref b1), (.ref b1)])) rfl rfl (hb hby at_10)
  have V8 : Arv Z h8 b4 c4 .long (1 : Int32) [(.long q0)] (.long (0 : Int64)) := Arv.set Ar7 qa7 S7 Na7 Ha7 Ga7 rfl W8 0 rfl (Nat.le_of_ble_eq_true rfl)
  have KH8 : Keep h0 h8 [] := KH4.wr W8 (Or.inr sz_b4)
  have Zn8 : n0 ≤ h8.size := Nat.le_trans Zn4 (Keep.of_wr W8).1
  have N8 := Fr.snoc X8 N0 g_b4
  have ks9 : own_R p e below (s₁.setTop (entryFrame m #[(.long q0)] maxLocals)) (T8.setTop (mkF m 11 #[.val (.long q0), .second, .unset, .unset, .unset, .unset, .unset, .unset, .unset, .unset, .unset, .unset] [(.ref b4), (.ref b1), (.ref b1)])) := fun t k => ks6 t (st8 t k)
  have f11 := ((A1.ext E4).wr W8)
  have f12 := ((F_state_b1.ext E4).other W8 (Or.inl ne_b1_b4))
  obtain ⟨_, _, ⟨T10, L10, k10, n10⟩, -, X10, ⟨Lc10, hQ10, lq10, yq10, zq10⟩, st10⟩ := X8.specialBack hx (y := (⟨"com/example/carved_corpus/carvedcorpus/cli/SeededRandom", "<init>", "([J)V"⟩ : MethodName)) rfl hown (mvT hZ (hw _ (List.mem_of_getElem? (i := 4) rfl))) (mvT hZ (hw _ (List.mem_of_getElem? (i := 5) rfl))) (mvT hZ (hw _ (List.mem_of_getElem? (i := 6) rfl))) (by decide) (backOf (W := 1) (rm1a l Z a0 hw [] b1 b4 _ _ q0 h8 n0 Zn8 ne_b1_b4 g_b1 f11 f12 V8) hZ (hw _ (List.mem_of_getElem? (i := 6) rfl)) (hw _ (List.mem_of_getElem? (i := 2) rfl)) (by decide) (by decide)) (g := (mkF m 11 #[.val (.long q0), .second, .unset, .unset, .unset, .unset, .unset, .unset, .unset, .unset, .unset, .unset] [(.ref b4), (.ref b1), (.ref b1)])) rfl (by rw [hml]; rfl) (Steps.refl _) (a := b1) (argsL := [(.ref b4)]) (rest := [(.ref b1)]) (lenOf pd_0 rfl) rfl (by show 2 * 0 + _ ≤ _; exact Nat.le_of_eq rfl) (hb hby at_11) (fun _ _ => ⟨rfl, e8, (by decide : 2 + 0 ≤ _), (by decide : 2 + 0 ≤ _)⟩)
  dsimp only [Pt.U, Pt.locs, Pt.cells, Pt.slots] at X10 lq10 yq10 zq10 st10 hQ10
  subst lq10 yq10 zq10
  obtain ⟨rfl, Nq10, Kq10, Ex10, Fx10⟩ := hQ10
  have N10 := Fr.app N8 Nq10
  have KH10 : Keep h0 T10.heap [] := KH8.trans Kq10 (allS (Or.inr sz_b1) all0)
  have Zn10 : n0 ≤ T10.heap.size := Nat.le_trans Zn8 Kq10.1
  have ks13 : own_R p e below (s₁.setTop (entryFrame m #[(.long q0)] maxLocals)) (T10.setTop (mkF m 14 #[.val (.long q0), .second, .unset, .unset, .unset, .unset, .unset, .unset, .unset, .unset, .unset, .unset] [(.ref b1)])) := fun t k => ks9 t (st10.trans k)
  have ks14 : own_R p e below (s₁.setTop (entryFrame m #[(.long q0)] maxLocals)) (T10.setTop (mkF m 16 #[.val (.long q0), .second, .val (.ref b1), .unset, .unset, .unset, .unset, .unset, .unset, .unset, .unset, .unset] [(.ref b1)])) := fun t k => ks13 t (by
    show Steps p.tables e below (T10.setTop (mkF m 14 #[.val (.long q0), .second, .unset, .unset, .unset, .unset, .unset, .unset, .unset, .unset, .unset, .unset] [(.ref b1)])) _
    refine XS.astoreN X10.here hx rfl (hb hby at_14) rfl rfl (l' := #[.val (.long q0), .second, .val (.ref b1), .unset, .unset, .unset, .unset, .unset, .unset, .unset, .unset, .unset]) rfl ?_
    show Steps p.tables e below (T10.setTop (mkF m 15 #[.val (.long q0), .second, .val (.ref b1), .unset, .unset, .unset, .unset, .unset, .unset, .unset, .unset, .unset] [])) _
    refine XS.aloadN X10.here hx rfl (hb hby at_15) rfl rfl ?_
    exact k)
  obtain ⟨cq15, kq15, q15a, q15b, q15c⟩ := isOf hZ rfl Ex10
  obtain ⟨_, _, ⟨T15, L15, k15, n15⟩, -, X15, ⟨Lc15, hQ15, lq15, yq15, zq15⟩, st15⟩ := X10.virtualBack hx (y := (⟨"com/example/carved_corpus/carvedcorpus/cli/SeededRandom", "nextLong", "()J"⟩ : MethodName)) (z := (⟨"com/example/carved_corpus/carvedcorpus/cli/SeededRandom", "nextLong", "()J"⟩ : MethodName)) hown (mvT hZ (hw _ (List.mem_of_getElem? (i := 18) rfl))) (mvT hZ (hw _ (List.mem_of_getElem? (i := 19) rfl))) (notFace_of_selects (args := #[]) (mvT hZ (hw _ (List.mem_of_getElem? (i := 21) rfl)))) (mvT hZ (hw _ (List.mem_of_getElem? (i := 21) rfl))) (mvT hZ (hw _ (List.mem_of_getElem? (i := 20) rfl))) (by decide) (backOf (W := 0) (rm4 l Z a0 hw [] b1 (own_mix (((0 : Int64) + (-7046029254386353131 : Int64)) ^^^ q0)) T10.heap n0 Zn10 g_b1 Ex10 Fx10) hZ (hw _ (List.mem_of_getElem? (i := 22) rfl)) (hw _ (List.mem_of_getElem? (i := 2) rfl)) (by decide) (by decide)) q15a q15c (g := (mkF m 16 #[.val (.long q0), .second, .val (.ref b1), .unset, .unset, .unset, .unset, .unset, .unset, .unset, .unset, .unset] [(.ref b1)])) rfl (by rw [hml]; rfl) (Steps.refl _) (argsL := []) (rest := []) (lenOf pd_3 rfl) rfl (by show 2 * 0 + _ ≤ _; exact Nat.le_of_eq rfl) (hb hby at_16) (fun _ _ => ⟨rfl, rfl, (by decide : 2 + 0 ≤ _), (by decide : 2 + 0 ≤ _)⟩)
  dsimp only [Pt.U, Pt.locs, Pt.cells, Pt.slots] at X15 lq15 yq15 zq15 st15 hQ15
  subst lq15 yq15 zq15
  obtain ⟨rfl, Nq15, Kq15, Ex15, Fx15⟩ := hQ15
  have N15 := Fr.app N10 Nq15
  have KH15 : Keep h0 T15.heap [] := KH10.trans Kq15 (allS (Or.inr sz_b1) all0)
  have Zn15 : n0 ≤ T15.heap.size := Nat.le_trans Zn10 Kq15.1
  have ks16 : own_R p e below (s₁.setTop (entryFrame m #[(.long q0)] maxLocals)) (T15.setTop (mkF m 19 #[.val (.long q0), .second, .val (.ref b1), .unset, .unset, .unset, .unset, .unset, .unset, .unset, .unset, .unset] [(.long (own_mix ((own_mix (((0 : Int64) + (-7046029254386353131 : Int64)) ^^^ q0)) + (-7046029254386353131 : Int64))))])) := fun t k => ks14 t (st15.trans k)
  obtain ⟨v17, hv17⟩ : ∃ z : Int64, z = (own_mix ((own_mix (((0 : Int64) + (-7046029254386353131 : Int64)) ^^^ q0)) + (-7046029254386353131 : Int64))) := ⟨_, rfl⟩
  rw [← hv17] at ks16
  have ks18 : own_R p e below (s₁.setTop (entryFrame m #[(.long q0)] maxLocals)) (T15.setTop (mkF m 21 #[.val (.long q0), .second, .val (.ref b1), .val (.long v17), .second, .unset, .unset, .unset, .unset, .unset, .unset, .unset] [(.ref b1)])) := fun t k => ks16 t (by
    show Steps p.tables e below (T15.setTop (mkF m 19 #[.val (.long q0), .second, .val (.ref b1), .unset, .unset, .unset, .unset, .unset, .unset, .unset, .unset, .unset] [(.long v17)])) _
    refine XS.lstoreN X15.here hx rfl (hb hby at_19) rfl (l' := #[.val (.long q0), .second, .val (.ref b1), .val (.long v17), .second, .unset, .unset, .unset, .unset, .unset, .unset, .unset]) rfl ?_
    show Steps p.tables e below (T15.setTop (mkF m 20 #[.val (.long q0), .second, .val (.ref b1), .val (.long v17), .second, .unset, .unset, .unset, .unset, .unset, .unset, .unset] [])) _
    refine XS.aloadN X15.here hx rfl (hb hby at_20) rfl rfl ?_
    exact k)
  obtain ⟨cq19, kq19, q19a, q19b, q19c⟩ := isOf hZ rfl Ex15
  obtain ⟨_, _, ⟨T19, L19, k19, n19⟩, -, X19, ⟨Lc19, hQ19, lq19, yq19, zq19⟩, st19⟩ := X15.virtualBack hx (y := (⟨"com/example/carved_corpus/carvedcorpus/cli/SeededRandom", "nextLong", "()J"⟩ : MethodName)) (z := (⟨"com/example/carved_corpus/carvedcorpus/cli/SeededRandom", "nextLong", "()J"⟩ : MethodName)) hown (mvT hZ (hw _ (List.mem_of_getElem? (i := 18) rfl))) (mvT hZ (hw _ (List.mem_of_getElem? (i := 19) rfl))) (notFace_of_selects (args := #[]) (mvT hZ (hw _ (List.mem_of_getElem? (i := 21) rfl)))) (mvT hZ (hw _ (List.mem_of_getElem? (i := 21) rfl))) (mvT hZ (hw _ (List.mem_of_getElem? (i := 20) rfl))) (by decide) (backOf (W := 0) (rm4 l Z a0 hw [] b1 ((own_mix (((0 : Int64) + (-7046029254386353131 : Int64)) ^^^ q0)) + (-7046029254386353131 : Int64)) T15.heap n0 Zn15 g_b1 Ex15 Fx15) hZ (hw _ (List.mem_of_getElem? (i := 22) rfl)) (hw _ (List.mem_of_getElem? (i := 2) rfl)) (by decide) (by decide)) q19a q19c (g := (mkF m 21 #[.val (.long q0), .second, .val (.ref b1), .val (.long v17), .second, .unset, .unset, .unset, .unset, .unset, .unset, .unset] [(.ref b1)])) rfl (by rw [hml]; rfl) (Steps.refl _) (argsL := []) (rest := []) (lenOf pd_3 rfl) rfl (by show 2 * 0 + _ ≤ _; exact Nat.le_of_eq rfl) (hb hby at_21) (fun _ _ => ⟨rfl, rfl, (by decide : 2 + 0 ≤ _), (by decide : 2 + 0 ≤ _)⟩)
  dsimp only [Pt.U, Pt.locs, Pt.cells, Pt.slots] at X19 lq19 yq19 zq19 st19 hQ19
  subst lq19 yq19 zq19
  obtain ⟨rfl, Nq19, Kq19, Ex19, Fx19⟩ := hQ19
  have N19 := Fr.app N15 Nq19
  have KH19 : Keep h0 T19.heap [] := KH15.trans Kq19 (allS (Or.inr sz_b1) all0)
  have Zn19 : n0 ≤ T19.heap.size := Nat.le_trans Zn15 Kq19.1
  have ks20 : own_R p e below (s₁.setTop (entryFrame m #[(.long q0)] maxLocals)) (T19.setTop (mkF m 24 #[.val (.long q0), .second, .val (.ref b1), .val (.long v17), .second, .unset, .unset, .unset, .unset, .unset, .unset, .unset] [(.long (own_mix (((own_mix (((0 : Int64) + (-7046029254386353131 : Int64)) ^^^ q0)) + (-7046029254386353131 : Int64)) + (-7046029254386353131 : Int64))))])) := fun t k => ks18 t (st19.trans k)
  obtain ⟨v21, hv21⟩ : ∃ z : Int64, z = (own_mix (((own_mix (((0 : Int64) + (-7046029254386353131 : Int64)) ^^^ q0)) + (-7046029254386353131 : Int64)) + (-7046029254386353131 : Int64))) := ⟨_, rfl⟩
  rw [← hv21] at ks20
  have ks22 : own_R p e below (s₁.setTop (entryFrame m #[(.long q0)] maxLocals)) (T19.setTop (mkF m 26 #[.val (.long q0), .second, .val (.ref b1), .val (.long v17), .second, .val (.long v21), .second, .unset, .unset, .unset, .unset, .unset] [])) := fun t k => ks20 t (by
    show Steps p.tables e below (T19.setTop (mkF m 24 #[.val (.long q0), .second, .val (.ref b1), .val (.long v17), .second, .unset, .unset, .unset, .unset, .unset, .unset, .unset] [(.long v21)])) _
    refine XS.lstore X19.here hx rfl (hb hby at_24) rfl (l' := #[.val (.long q0), .second, .val (.ref b1), .val (.long v17), .second, .val (.long v21), .second, .unset, .unset, .unset, .unset, .unset]) rfl ?_
    exact k)
  have f23 := (((V8.keep Kq10 (ninS (Ne.symm ne_b1_b4) nin0)).keep Kq15 (ninS (Ne.symm ne_b1_b4) nin0)).keep Kq19 (ninS (Ne.symm ne_b1_b4) nin0))
  obtain ⟨T24, h24, X24, e24, E24, A24, D24, -, st24⟩ := newO X19 hx hZ hown (hw _ (List.mem_of_getElem? (i := 0) rfl)) (hw _ (List.mem_of_getElem? (i := 1) rfl)) (hw _ (List.mem_of_getElem? (i := 2) rfl)) rfl (g := (mkF m 26 #[.val (.long q0), .second, .val (.ref b1), .val (.long v17), .second, .val (.long v21), .second, .unset, .unset, .unset, .unset, .unset] [])) rfl (hb hby at_26) (by decide) (by decide)
  obtain ⟨b24, g24⟩ : ∃ z, z = T19.heap.size := ⟨_, rfl⟩
  rw [← g24] at A24 D24 st24
  have ne_b1_b24 : b1 ≠ b24 := Nat.ne_of_lt (Nat.lt_of_lt_of_le Ex19.lt (Nat.le_of_eq g24.symm))
  have ne_b4_b24 : b4 ≠ b24 := Nat.ne_of_lt (Nat.lt_of_lt_of_le f23.lt (Nat.le_of_eq g24.symm))
  have g_b24 : n0 ≤ b24 := Nat.le_trans Zn19 (Nat.le_of_eq g24.symm)
  have sz_b24 : h0.size ≤ b24 := Nat.le_trans KH19.1 (Nat.le_of_eq g24.symm)
  have KH24 : Keep h0 h24 [] := KH19.ext E24
  have Zn24 : n0 ≤ h24.size := Nat.le_trans Zn19 E24.1
  have F_state_b24 : Fld Z h24 b24 "com/example/carved_corpus/carvedcorpus/cli/SeededRandom" "state" "J" (.long (0 : Int64)) := D24 (Or.inl (hw _ (List.mem_of_getElem? (i := 17) rfl))) (ty := .long) (by decide)
  have ks25 : own_R p e below (s₁.setTop (entryFrame m #[(.long q0)] maxLocals)) (T24.setTop (mkF m 29 #[.val (.long q0), .second, .val (.ref b1), .val (.long v17), .second, .val (.long v21), .second, .unset, .unset, .unset, .unset, .unset] [(.ref b24)])) := fun t k => ks22 t (st24 t k)
  have ks26 : own_R p e below (s₁.setTop (entryFrame m #[(.long q0)] maxLocals)) (T24.setTop (mkF m 31 #[.val (.long q0), .second, .val (.ref b1), .val (.long v17), .second, .val (.long v21), .second, .unset, .unset, .unset, .unset, .unset] [(.int (2 : Int32)), (.ref b24), (.ref b24)])) := fun t k => ks25 t (by
    show Steps p.tables e below (T24.setTop (mkF m 29 #[.val (.long q0), .second, .val (.ref b1), .val (.long v17), .second, .val (.long v21), .second, .unset, .unset, .unset, .unset, .unset] [(.ref b24)])) _
    refine XS.dup X24.here hx rfl (hb hby at_29) rfl rfl ?_
    show Steps p.tables e below (T24.setTop (mkF m 30 #[.val (.long q0), .second, .val (.ref b1), .val (.long v17), .second, .val (.long v21), .second, .unset, .unset, .unset, .unset, .unset] [(.ref b24), (.ref b24)])) _
    refine XS.iconst X24.here hx rfl (hb hby at_30) ?_
    exact k)
  have f27 := (Ex19.ext E24)
  have f28 := (f23.ext E24)
  obtain ⟨T29, h29, c29, X29, e29, E29, A29, st29⟩ := newP X24 hx hZ (hw _ (List.mem_of_getElem? (i := 3) rfl)) e24 (g := (mkF m 31 #[.val (.long q0), .second, .val (.ref b1), .val (.long v17), .second, .val (.long v21), .second, .unset, .unset, .unset, .unset, .unset] [(.int (2 : Int32)), (.ref b24), (.ref b24)])) rfl (hb hby at_31) rfl (by decide) (cap := 2) (by decide) (by decide) (by decide) (by decide)
  obtain ⟨b29, g29⟩ : ∃ z, z = h24.size := ⟨_, rfl⟩
  rw [← g29] at A29 st29
  have ne_b1_b29 : b1 ≠ b29 := Nat.ne_of_lt (Nat.lt_of_lt_of_le f27.lt (Nat.le_of_eq g29.symm))
  have ne_b4_b29 : b4 ≠ b29 := Nat.ne_of_lt (Nat.lt_of_lt_of_le f28.lt (Nat.le_of_eq g29.symm))
  have ne_b24_b29 : b24 ≠ b29 := Nat.ne_of_lt (Nat.lt_of_lt_of_le A24.lt (Nat.le_of_eq g29.symm))
  have g_b29 : n0 ≤ b29 := Nat.le_trans Zn24 (Nat.le_of_eq g29.symm)
  have sz_b29 : h0.size ≤ b29 := Nat.le_trans KH24.1 (Nat.le_of_eq g29.symm)
  have KH29 : Keep h0 h29 [] := KH24.ext E29
  have Zn29 : n0 ≤ h29.size := Nat.le_trans Zn24 E29.1
  have V29 : Arv Z h29 b29 c29 .long (2 : Int32) [(.long (0 : Int64)), (.long (0 : Int64))] (.long (0 : Int64)) := (Arv.new A29 (by decide)).pad (pad_rep [] (.long (0 : Int64)) 2)
  have ks30 : own_R p e below (s₁.setTop (entryFrame m #[(.long q0)] maxLocals)) (T29.setTop (mkF m 33 #[.val (.long q0), .second, .val (.ref b1), .val (.long v17), .second, .val (.long v21), .second, .unset, .unset, .unset, .unset, .unset] [(.ref b29), (.ref b24), (.ref b24)])) := fun t k => ks26 t (st29 t k)
  have ks31 : own_R p e below (s₁.setTop (entryFrame m #[(.long q0)] maxLocals)) (T29.setTop (mkF m 36 #[.val (.long q0), .second, .val (.ref b1), .val (.long v17), .second, .val (.long v21), .second, .unset, .unset, .unset, .unset, .unset] [(.long q0), (.int (0 : Int32)), (.ref b29), (.ref b29), (.ref b24), (.ref b24)])) := fun t k => ks30 t (by
    show Steps p.tables e below (T29.setTop (mkF m 33 #[.val (.long q0), .second, .val (.ref b1), .val (.long v17), .second, .val (.long v21), .second, .unset, .unset, .unset, .unset, .unset] [(.ref b29), (.ref b24), (.ref b24)])) _
    refine XS.dup X29.here hx rfl (hb hby at_33) rfl rfl ?_
    show Steps p.tables e below (T29.setTop (mkF m 34 #[.val (.long q0), .second, .val (.ref b1), .val (.long v17), .second, .val (.long v21), .second, .unset, .unset, .unset, .unset, .unset] [(.ref b29), (.ref b29), (.ref b24), (.ref b24)])) _
    refine XS.iconst X29.here hx rfl (hb hby at_34) ?_
    show Steps p.tables e below (T29.setTop (mkF m 35 #[.val (.long q0), .second, .val (.ref b1), .val (.long v17), .second, .val (.long v21), .second, .unset, .unset, .unset, .unset, .unset] [(.int (0 : Int32)), (.ref b29), (.ref b29), (.ref b24), (.ref b24)])) _
    refine XS.lloadN X29.here hx rfl (hb hby at_35) rfl ?_
    exact k)
  obtain ⟨cl32, Ar32, qa32, S32, Na32, Ha32, Ga32⟩ := id V29
  have hin32 : ¬ ((0 : Int32) < 0 ∨ cl32.slots.size ≤ ((0 : Int32)).toNatClampNeg) := inb_of S32 ⟨by decide, by decide⟩
  obtain ⟨T33, h33, X33, e33, W33, st33⟩ := stJ X29 hx hZ e29 Ar32 (j := (0 : Int32)) hin32 (g := (mkF m 36 #[.val (.long q0), .second, .val (.ref b1), .val (.long v17), .second, .val (.long v21), .second, .unset, .unset, .unset, .unset, .unset] [(.long q0), (.int (0 : Int32)), (.ref b29), (.ref b29), (.ref b24), (.ref b24)])) rfl rfl (hb hby at_36)
  have V33 : Arv Z h33 b29 c29 .long (2 : Int32) [(.long q0), (.long (0 : Int64))] (.long (0 : Int64)) := Arv.set Ar32 qa32 S32 Na32 Ha32 Ga32 rfl W33 0 rfl (Nat.le_of_ble_eq_true rfl)
  have KH33 : Keep h0 h33 [] := KH29.wr W33 (Or.inr sz_b29)
  have Zn33 : n0 ≤ h33.size := Nat.le_trans Zn29 (Keep.of_wr W33).1
  have N33 := Fr.snoc X33 N19 g_b29
  have ks34 : own_R p e below (s₁.setTop (entryFrame m #[(.long q0)] maxLocals)) (T33.setTop (mkF m 37 #[.val (.long q0), .second, .val (.ref b1), .val (.long v17), .second, .val (.long v21), .second, .unset, .unset, .unset, .unset, .unset] [(.ref b29), (.ref b24), (.ref b24)])) := fun t k => ks31 t (st33 t k)
  have ks35 : own_R p e below (s₁.setTop (entryFrame m #[(.long q0)] maxLocals)) (T33.setTop (mkF m 40 #[.val (.long q0), .second, .val (.ref b1), .val (.long v17), .second, .val (.long v21), .second, .unset, .unset, .unset, .unset, .unset] [(.long (0 : Int64)), (.int (1 : Int32)), (.ref b29), (.ref b29), (.ref b24), (.ref b24)])) := fun t k => ks34 t (by
    show Steps p.tables e below (T33.setTop (mkF m 37 #[.val (.long q0), .second, .val (.ref b1), .val (.long v17), .second, .val (.long v21), .second, .unset, .unset, .unset, .unset, .unset] [(.ref b29), (.ref b24), (.ref b24)])) _
    refine XS.dup X33.here hx rfl (hb hby at_37) rfl rfl ?_
    show Steps p.tables e below (T33.setTop (mkF m 38 #[.val (.long q0), .second, .val (.ref b1), .val (.long v17), .second, .val (.long v21), .second, .unset, .unset, .unset, .unset, .unset] [(.ref b29), (.ref b29), (.ref b24), (.ref b24)])) _
    refine XS.iconst X33.here hx rfl (hb hby at_38) ?_
    show Steps p.tables e below (T33.setTop (mkF m 39 #[.val (.long q0), .second, .val (.ref b1), .val (.long v17), .second, .val (.long v21), .second, .unset, .unset, .unset, .unset, .unset] [(.int (1 : Int32)), (.ref b29), (.ref b29), (.ref b24), (.ref b24)])) _
    refine XS.lconst X33.here hx rfl (hb hby at_39) ?_
    exact k)
  obtain ⟨cl36, Ar36, qa36, S36, Na36, Ha36, Ga36⟩ := id V33
  have hin36 : ¬ ((1 : Int32) < 0 ∨ cl36.slots.size ≤ ((1 : Int32)).toNatClampNeg) := inb_of S36 ⟨by decide, by decide⟩
  obtain ⟨T37, h37, X37, e37, W37, st37⟩ := stJ X33 hx hZ e33 Ar36 (j := (1 : Int32)) hin36 (g := (mkF m 40 #[.val (.long q0), .second, .val (.ref b1), .val (.long v17), .second, .val (.long v21), .second, .unset, .unset, .unset, .unset, .unset] [(.long (0 : Int64)), (.int (1 : Int32)), (.ref b29), (.ref b29), (.ref b24), (.ref b24)])) rfl rfl (hb hby at_40)
  have V37 : Arv Z h37 b29 c29 .long (2 : Int32) [(.long q0), (.long (0 : Int64))] (.long (0 : Int64)) := Arv.set Ar36 qa36 S36 Na36 Ha36 Ga36 rfl W37 1 rfl (Nat.le_of_ble_eq_true rfl)
  have KH37 : Keep h0 h37 [] := KH33.wr W37 (Or.inr sz_b29)
  have Zn37 : n0 ≤ h37.size := Nat.le_trans Zn33 (Keep.of_wr W37).1
  have N37 := Fr.snoc X37 N33 g_b29
  have ks38 : own_R p e below (s₁.setTop (entryFrame m #[(.long q0)] maxLocals)) (T37.setTop (mkF m 41 #[.val (.long q0), .second, .val (.ref b1), .val (.long v17), .second, .val (.long v21), .second, .unset, .unset, .unset, .unset, .unset] [(.ref b29), (.ref b24), (.ref b24)])) := fun t k => ks35 t (st37 t k)
  have f40 := (((A24.ext E29).wr W33).wr W37)
  have f41 := (((F_state_b24.ext E29).other W33 (Or.inl ne_b24_b29)).other W37 (Or.inl ne_b24_b29))
  obtain ⟨_, _, ⟨T39, L39, k39, n39⟩, -, X39, ⟨Lc39, hQ39, lq39, yq39, zq39⟩, st39⟩ := X37.specialBack hx (y := (⟨"com/example/carved_corpus/carvedcorpus/cli/SeededRandom", "<init>", "([J)V"⟩ : MethodName)) rfl hown (mvT hZ (hw _ (List.mem_of_getElem? (i := 4) rfl))) (mvT hZ (hw _ (List.mem_of_getElem? (i := 5) rfl))) (mvT hZ (hw _ (List.mem_of_getElem? (i := 6) rfl))) (by decide) (backOf (W := 1) (rm1b l Z a0 hw [] b24 b29 _ _ q0 (0 : Int64) h37 n0 Zn37 ne_b24_b29 g_b24 f40 f41 V37) hZ (hw _ (List.mem_of_getElem? (i := 6) rfl)) (hw _ (List.mem_of_getElem? (i := 2) rfl)) (by decide) (by decide)) (g := (mkF m 41 #[.val (.long q0), .second, .val (.ref b1), .val (.long v17), .second, .val (.long v21), .second, .unset, .unset, .unset, .unset, .unset] [(.ref b29), (.ref b24), (.ref b24)])) rfl (by rw [hml]; rfl) (Steps.refl _) (a := b24) (argsL := [(.ref b29)]) (rest := [(.ref b24)]) (lenOf pd_0 rfl) rfl (by show 2 * 0 + _ ≤ _; exact Nat.le_of_eq rfl) (hb hby at_41) (fun _ _ => ⟨rfl, e37, (by decide : 4 + 0 ≤ _), (by decide : 5 + 0 ≤ _)⟩)
  dsimp only [Pt.U, Pt.locs, Pt.cells, Pt.slots] at X39 lq39 yq39 zq39 st39 hQ39
  subst lq39 yq39 zq39
  obtain ⟨rfl, Nq39, Kq39, Ex39, Fx39⟩ := hQ39
  have N39 := Fr.app N37 Nq39
  have KH39 : Keep h0 T39.heap [] := KH37.trans Kq39 (allS (Or.inr sz_b24) all0)
  have Zn39 : n0 ≤ T39.heap.size := Nat.le_trans Zn37 Kq39.1
  have ks42 : own_R p e below (s₁.setTop (entryFrame m #[(.long q0)] maxLocals)) (T39.setTop (mkF m 44 #[.val (.long q0), .second, .val (.ref b1), .val (.long v17), .second, .val (.long v21), .second, .unset, .unset, .unset, .unset, .unset] [(.ref b24)])) := fun t k => ks38 t (st39.trans k)
  have ks43 : own_R p e below (s₁.setTop (entryFrame m #[(.long q0)] maxLocals)) (T39.setTop (mkF m 48 #[.val (.long q0), .second, .val (.ref b1), .val (.long v17), .second, .val (.long v21), .second, .val (.ref b24), .unset, .unset, .unset, .unset] [(.ref b24)])) := fun t k => ks42 t (by
    show Steps p.tables e below (T39.setTop (mkF m 44 #[.val (.long q0), .second, .val (.ref b1), .val (.long v17), .second, .val (.long v21), .second, .unset, .unset, .unset, .unset, .unset] [(.ref b24)])) _
    refine XS.astore X39.here hx rfl (hb hby at_44) rfl rfl (l' := #[.val (.long q0), .second, .val (.ref b1), .val (.long v17), .second, .val (.long v21), .second, .val (.ref b24), .unset, .unset, .unset, .unset]) rfl ?_
    show Steps p.tables e below (T39.setTop (mkF m 46 #[.val (.long q0), .second, .val (.ref b1), .val (.long v17), .second, .val (.long v21), .second, .val (.ref b24), .unset, .unset, .unset, .unset] [])) _
    refine XS.aload X39.here hx rfl (hb hby at_46) rfl rfl ?_
    exact k)
  obtain ⟨cq44, kq44, q44a, q44b, q44c⟩ := isOf hZ rfl Ex39
  obtain ⟨_, _, ⟨T44, L44, k44, n44⟩, -, X44, ⟨Lc44, hQ44, lq44, yq44, zq44⟩, st44⟩ := X39.virtualBack hx (y := (⟨"com/example/carved_corpus/carvedcorpus/cli/SeededRandom", "nextLong", "()J"⟩ : MethodName)) (z := (⟨"com/example/carved_corpus/carvedcorpus/cli/SeededRandom", "nextLong", "()J"⟩ : MethodName)) hown (mvT hZ (hw _ (List.mem_of_getElem? (i := 18) rfl))) (mvT hZ (hw _ (List.mem_of_getElem? (i := 19) rfl))) (notFace_of_selects (args := #[]) (mvT hZ (hw _ (List.mem_of_getElem? (i := 21) rfl)))) (mvT hZ (hw _ (List.mem_of_getElem? (i := 21) rfl))) (mvT hZ (hw _ (List.mem_of_getElem? (i := 20) rfl))) (by decide) (backOf (W := 0) (rm4 l Z a0 hw [] b24 (own_mix (((own_mix (((0 : Int64) + (-7046029254386353131 : Int64)) ^^^ q0)) + (-7046029254386353131 : Int64)) ^^^ (0 : Int64))) T39.heap n0 Zn39 g_b24 Ex39 Fx39) hZ (hw _ (List.mem_of_getElem? (i := 22) rfl)) (hw _ (List.mem_of_getElem? (i := 2) rfl)) (by decide) (by decide)) q44a q44c (g := (mkF m 48 #[.val (.long q0), .second, .val (.ref b1), .val (.long v17), .second, .val (.long v21), .second, .val (.ref b24), .unset, .unset, .unset, .unset] [(.ref b24)])) rfl (by rw [hml]; rfl) (Steps.refl _) (argsL := []) (rest := []) (lenOf pd_3 rfl) rfl (by show 2 * 0 + _ ≤ _; exact Nat.le_of_eq rfl) (hb hby at_48) (fun _ _ => ⟨rfl, rfl, (by decide : 4 + 0 ≤ _), (by decide : 5 + 0 ≤ _)⟩)
  dsimp only [Pt.U, Pt.locs, Pt.cells, Pt.slots] at X44 lq44 yq44 zq44 st44 hQ44
  subst lq44 yq44 zq44
  obtain ⟨rfl, Nq44, Kq44, Ex44, Fx44⟩ := hQ44
  have N44 := Fr.app N39 Nq44
  have KH44 : Keep h0 T44.heap [] := KH39.trans Kq44 (allS (Or.inr sz_b24) all0)
  have Zn44 : n0 ≤ T44.heap.size := Nat.le_trans Zn39 Kq44.1
  have ks45 : own_R p e below (s₁.setTop (entryFrame m #[(.long q0)] maxLocals)) (T44.setTop (mkF m 51 #[.val (.long q0), .second, .val (.ref b1), .val (.long v17), .second, .val (.long v21), .second, .val (.ref b24), .unset, .unset, .unset, .unset] [(.long (own_mix ((own_mix (((own_mix (((0 : Int64) + (-7046029254386353131 : Int64)) ^^^ q0)) + (-7046029254386353131 : Int64)) ^^^ (0 : Int64))) + (-7046029254386353131 : Int64))))])) := fun t k => ks43 t (st44.trans k)
  obtain ⟨v46, hv46⟩ : ∃ z : Int64, z = (own_mix ((own_mix (((own_mix (((0 : Int64) + (-7046029254386353131 : Int64)) ^^^ q0)) + (-7046029254386353131 : Int64)) ^^^ (0 : Int64))) + (-7046029254386353131 : Int64))) := ⟨_, rfl⟩
  rw [← hv46] at ks45
  have ks47 : own_R p e below (s₁.setTop (entryFrame m #[(.long q0)] maxLocals)) (T44.setTop (mkF m 55 #[.val (.long q0), .second, .val (.ref b1), .val (.long v17), .second, .val (.long v21), .second, .val (.ref b24), .val (.long v46), .second, .unset, .unset] [(.long v21)])) := fun t k => ks45 t (by
    show Steps p.tables e below (T44.setTop (mkF m 51 #[.val (.long q0), .second, .val (.ref b1), .val (.long v17), .second, .val (.long v21), .second, .val (.ref b24), .unset, .unset, .unset, .unset] [(.long v46)])) _
    refine XS.lstore X44.here hx rfl (hb hby at_51) rfl (l' := #[.val (.long q0), .second, .val (.ref b1), .val (.long v17), .second, .val (.long v21), .second, .val (.ref b24), .val (.long v46), .second, .unset, .unset]) rfl ?_
    show Steps p.tables e below (T44.setTop (mkF m 53 #[.val (.long q0), .second, .val (.ref b1), .val (.long v17), .second, .val (.long v21), .second, .val (.ref b24), .val (.long v46), .second, .unset, .unset] [])) _
    refine XS.lload X44.here hx rfl (hb hby at_53) rfl ?_
    exact k)
  obtain ⟨_, _, ⟨T48, L48, k48, n48⟩, -, X48, ⟨Lc48, hQ48, lq48, yq48, zq48⟩, st48⟩ := Jvm.LawKit.callS X44 hx (y := (⟨"com/example/carved_corpus/carvedcorpus/cli/SeededRandomNextLongPinLaw", "unmix", "(J)J"⟩ : MethodName)) hown (mvT hZ (hw _ (List.mem_of_getElem? (i := 23) rfl))) (mvT hZ (hw _ (List.mem_of_getElem? (i := 24) rfl))) (mvT hZ (hw _ (List.mem_of_getElem? (i := 25) rfl))) (mvT hZ (hw _ (List.mem_of_getElem? (i := 26) rfl))) (by decide) (backOf (W := 0) (rm5 l Z a0 hw [] v21 T44.heap n0 Zn44 ) hZ (hw _ (List.mem_of_getElem? (i := 26) rfl)) (hw _ (List.mem_of_getElem? (i := 25) rfl)) (by decide) (by decide)) (g := (mkF m 55 #[.val (.long q0), .second, .val (.ref b1), .val (.long v17), .second, .val (.long v21), .second, .val (.ref b24), .val (.long v46), .second, .unset, .unset] [(.long v21)])) rfl (by rw [hml]; rfl) (argsL := [(.long v21)]) (rest := []) (lenOf pd_2 rfl) rfl (by show 2 * 0 + _ ≤ _; exact Nat.le_of_eq rfl) (hb hby at_55) (fun _ _ => ⟨rfl, rfl, (by decide : 4 + 0 ≤ _), (by decide : 5 + 0 ≤ _)⟩)
  dsimp only [Pt.U, Pt.locs, Pt.cells, Pt.slots] at X48 lq48 yq48 zq48 st48 hQ48
  subst lq48 yq48 zq48
  obtain ⟨rfl, Nq48, eq48⟩ := hQ48
  have N48 := Fr.app N44 Nq48
  have ks49 : own_R p e below (s₁.setTop (entryFrame m #[(.long q0)] maxLocals)) (T48.setTop (mkF m 58 #[.val (.long q0), .second, .val (.ref b1), .val (.long v17), .second, .val (.long v21), .second, .val (.ref b24), .val (.long v46), .second, .unset, .unset] [(.long (own_unmix v21))])) := fun t k => ks47 t (st48 t k)
  have ks50 : own_R p e below (s₁.setTop (entryFrame m #[(.long q0)] maxLocals)) (T48.setTop (mkF m 59 #[.val (.long q0), .second, .val (.ref b1), .val (.long v17), .second, .val (.long v21), .second, .val (.ref b24), .val (.long v46), .second, .unset, .unset] [(.long v17), (.long (own_unmix v21))])) := fun t k => ks49 t (by
    show Steps p.tables e below (T48.setTop (mkF m 58 #[.val (.long q0), .second, .val (.ref b1), .val (.long v17), .second, .val (.long v21), .second, .val (.ref b24), .val (.long v46), .second, .unset, .unset] [(.long (own_unmix v21))])) _
    refine XS.lloadN X48.here hx rfl (hb hby at_58) rfl ?_
    exact k)
  obtain ⟨_, _, ⟨T51, L51, k51, n51⟩, -, X51, ⟨Lc51, hQ51, lq51, yq51, zq51⟩, st51⟩ := Jvm.LawKit.callS X48 hx (y := (⟨"com/example/carved_corpus/carvedcorpus/cli/SeededRandomNextLongPinLaw", "unmix", "(J)J"⟩ : MethodName)) hown (mvT hZ (hw _ (List.mem_of_getElem? (i := 23) rfl))) (mvT hZ (hw _ (List.mem_of_getElem? (i := 24) rfl))) (mvT hZ (hw _ (List.mem_of_getElem? (i := 25) rfl))) (mvT hZ (hw _ (List.mem_of_getElem? (i := 26) rfl))) (by decide) (backOf (W := 2) (rm5 l Z a0 hw [] v17 T44.heap n0 Zn44 ) hZ (hw _ (List.mem_of_getElem? (i := 26) rfl)) (hw _ (List.mem_of_getElem? (i := 25) rfl)) (by decide) (by decide)) (g := (mkF m 59 #[.val (.long q0), .second, .val (.ref b1), .val (.long v17), .second, .val (.long v21), .second, .val (.ref b24), .val (.long v46), .second, .unset, .unset] [(.long v17), (.long (own_unmix v21))])) rfl (by rw [hml]; rfl) (argsL := [(.long v17)]) (rest := [(.long (own_unmix v21))]) (lenOf pd_2 rfl) rfl (by show 2 * 0 + _ ≤ _; exact Nat.le_of_eq rfl) (hb hby at_59) (fun _ _ => ⟨rfl, eq48, (by decide : 4 + 0 ≤ _), (by decide : 5 + 0 ≤ _)⟩)
  dsimp only [Pt.U, Pt.locs, Pt.cells, Pt.slots] at X51 lq51 yq51 zq51 st51 hQ51
  subst lq51 yq51 zq51
  obtain ⟨rfl, Nq51, eq51⟩ := hQ51
  have N51 := Fr.app N48 Nq51
  have ks52 : own_R p e below (s₁.setTop (entryFrame m #[(.long q0)] maxLocals)) (T51.setTop (mkF m 62 #[.val (.long q0), .second, .val (.ref b1), .val (.long v17), .second, .val (.long v21), .second, .val (.ref b24), .val (.long v46), .second, .unset, .unset] [(.long (own_unmix v17)), (.long (own_unmix v21))])) := fun t k => ks50 t (st51 t k)
  have ks55 : own_R p e below (s₁.setTop (entryFrame m #[(.long q0)] maxLocals)) (T51.setTop (mkF m 67 #[.val (.long q0), .second, .val (.ref b1), .val (.long v17), .second, .val (.long v21), .second, .val (.ref b24), .val (.long v46), .second, .unset, .unset] [(.int (lcmpW ((own_unmix v21) - (own_unmix v17)) (-7046029254386353131 : Int64)))])) := fun t k => ks52 t (by
    show Steps p.tables e below (T51.setTop (mkF m 62 #[.val (.long q0), .second, .val (.ref b1), .val (.long v17), .second, .val (.long v21), .second, .val (.ref b24), .val (.long v46), .second, .unset, .unset] [(.long (own_unmix v17)), (.long (own_unmix v21))])) _
    refine XS.lsub X51.here hx rfl (hb hby at_62) rfl ?_
    show Steps p.tables e below (T51.setTop (mkF m 63 #[.val (.long q0), .second, .val (.ref b1), .val (.long v17), .second, .val (.long v21), .second, .val (.ref b24), .val (.long v46), .second, .unset, .unset] [(.long ((own_unmix v21) - (own_unmix v17)))])) _
    refine X51.ldc2Long hx hown (mvT hZ (hw _ (List.mem_of_getElem? (i := 33) rfl))) (g := (mkF m 63 #[.val (.long q0), .second, .val (.ref b1), .val (.long v17), .second, .val (.long v21), .second, .val (.ref b24), .val (.long v46), .second, .unset, .unset] [(.long ((own_unmix v21) - (own_unmix v17)))])) rfl (hb hby at_63) _ ?_
    show Steps p.tables e below (T51.setTop (mkF m 66 #[.val (.long q0), .second, .val (.ref b1), .val (.long v17), .second, .val (.long v21), .second, .val (.ref b24), .val (.long v46), .second, .unset, .unset] [(.long (-7046029254386353131 : Int64)), (.long ((own_unmix v21) - (own_unmix v17)))])) _
    refine XS.lcmp X51.here hx rfl (hb hby at_66) rfl ?_
    exact k)
  obtain ⟨v54, hv54⟩ : ∃ z : Int32, z = (if ((own_unmix v21) - (own_unmix v17)) = (-7046029254386353131 : Int64) then (1 : Int32) else (0 : Int32)) := ⟨_, rfl⟩
  have ks56 : own_R p e below (s₁.setTop (entryFrame m #[(.long q0)] maxLocals)) (T51.setTop (mkF m 75 #[.val (.long q0), .second, .val (.ref b1), .val (.long v17), .second, .val (.long v21), .second, .val (.ref b24), .val (.long v46), .second, .unset, .unset] [(.int v54)])) := fun t k => ks55 t (by
    by_cases hc53 : ((own_unmix v21) - (own_unmix v17)) = (-7046029254386353131 : Int64)
    · skip
      have qq57 : v54 = (1 : Int32) := by rw [hv54, if_pos hc53]
      rw [qq57] at k
      show Steps p.tables e below (T51.setTop (mkF m 67 #[.val (.long q0), .second, .val (.ref b1), .val (.long v17), .second, .val (.long v21), .second, .val (.ref b24), .val (.long v46), .second, .unset, .unset] [(.int (lcmpW ((own_unmix v21) - (own_unmix v17)) (-7046029254386353131 : Int64)))])) _
      refine XS.ifNo X51.here hx rfl (hb hby at_67) rfl ((if0 _ _).trans (teq ((lw_eq _ _).mpr hc53)).2) ?_
      show Steps p.tables e below (T51.setTop (mkF m 70 #[.val (.long q0), .second, .val (.ref b1), .val (.long v17), .second, .val (.long v21), .second, .val (.ref b24), .val (.long v46), .second, .unset, .unset] [])) _
      refine XS.iconst X51.here hx rfl (hb hby at_70) ?_
      show Steps p.tables e below (T51.setTop (mkF m 71 #[.val (.long q0), .second, .val (.ref b1), .val (.long v17), .second, .val (.long v21), .second, .val (.ref b24), .val (.long v46), .second, .unset, .unset] [(.int (1 : Int32))])) _
      refine XS.goto X51.here hx rfl (pc0 := 71) (pc' := 75) rfl (hb hby at_71) (by decide) (by decide) ?_
      exact k
    · skip
      have qq58 : v54 = (0 : Int32) := by rw [hv54, if_neg hc53]
      rw [qq58] at k
      show Steps p.tables e below (T51.setTop (mkF m 67 #[.val (.long q0), .second, .val (.ref b1), .val (.long v17), .second, .val (.long v21), .second, .val (.ref b24), .val (.long v46), .second, .unset, .unset] [(.int (lcmpW ((own_unmix v21) - (own_unmix v17)) (-7046029254386353131 : Int64)))])) _
      refine XS.ifYes X51.here hx rfl (pc0 := 67) (pc' := 74) rfl (hb hby at_67) rfl ((if0 _ _).trans (feq (fun q => hc53 ((lw_eq _ _).mp q))).2) (by decide) (by decide) ?_
      show Steps p.tables e below (T51.setTop (mkF m 74 #[.val (.long q0), .second, .val (.ref b1), .val (.long v17), .second, .val (.long v21), .second, .val (.ref b24), .val (.long v46), .second, .unset, .unset] [])) _
      refine XS.iconst X51.here hx rfl (hb hby at_74) ?_
      exact k)
  have ks59 : own_R p e below (s₁.setTop (entryFrame m #[(.long q0)] maxLocals)) (T51.setTop (mkF m 79 #[.val (.long q0), .second, .val (.ref b1), .val (.long v17), .second, .val (.long v21), .second, .val (.ref b24), .val (.long v46), .second, .val (.int v54), .unset] [(.long v46)])) := fun t k => ks56 t (by
    show Steps p.tables e below (T51.setTop (mkF m 75 #[.val (.long q0), .second, .val (.ref b1), .val (.long v17), .second, .val (.long v21), .second, .val (.ref b24), .val (.long v46), .second, .unset, .unset] [(.int v54)])) _
    refine XS.istore X51.here hx rfl (hb hby at_75) rfl (l' := #[.val (.long q0), .second, .val (.ref b1), .val (.long v17), .second, .val (.long v21), .second, .val (.ref b24), .val (.long v46), .second, .val (.int v54), .unset]) rfl ?_
    show Steps p.tables e below (T51.setTop (mkF m 77 #[.val (.long q0), .second, .val (.ref b1), .val (.long v17), .second, .val (.long v21), .second, .val (.ref b24), .val (.long v46), .second, .val (.int v54), .unset] [])) _
    refine XS.lload X51.here hx rfl (hb hby at_77) rfl ?_
    exact k)
  obtain ⟨_, _, ⟨T60, L60, k60, n60⟩, -, X60, ⟨Lc60, hQ60, lq60, yq60, zq60⟩, st60⟩ := Jvm.LawKit.callS X51 hx (y := (⟨"com/example/carved_corpus/carvedcorpus/cli/SeededRandomNextLongPinLaw", "unmix", "(J)J"⟩ : MethodName)) hown (mvT hZ (hw _ (List.mem_of_getElem? (i := 23) rfl))) (mvT hZ (hw _ (List.mem_of_getElem? (i := 24) rfl))) (mvT hZ (hw _ (List.mem_of_getElem? (i := 25) rfl))) (mvT hZ (hw _ (List.mem_of_getElem? (i := 26) rfl))) (by decide) (backOf (W := 0) (rm5 l Z a0 hw [] v46 T44.heap n0 Zn44 ) hZ (hw _ (List.mem_of_getElem? (i := 26) rfl)) (hw _ (List.mem_of_getElem? (i := 25) rfl)) (by decide) (by decide)) (g := (mkF m 79 #[.val (.long q0), .second, .val (.ref b1), .val (.long v17), .second, .val (.long v21), .second, .val (.ref b24), .val (.long v46), .second, .val (.int v54), .unset] [(.long v46)])) rfl (by rw [hml]; rfl) (argsL := [(.long v46)]) (rest := []) (lenOf pd_2 rfl) rfl (by show 2 * 0 + _ ≤ _; exact Nat.le_of_eq rfl) (hb hby at_79) (fun _ _ => ⟨rfl, eq51, (by decide : 4 + 0 ≤ _), (by decide : 5 + 0 ≤ _)⟩)
  dsimp only [Pt.U, Pt.locs, Pt.cells, Pt.slots] at X60 lq60 yq60 zq60 st60 hQ60
  subst lq60 yq60 zq60
  obtain ⟨rfl, Nq60, eq60⟩ := hQ60
  have N60 := Fr.app N51 Nq60
  have ks61 : own_R p e below (s₁.setTop (entryFrame m #[(.long q0)] maxLocals)) (T60.setTop (mkF m 82 #[.val (.long q0), .second, .val (.ref b1), .val (.long v17), .second, .val (.long v21), .second, .val (.ref b24), .val (.long v46), .second, .val (.int v54), .unset] [(.long (own_unmix v46))])) := fun t k => ks59 t (st60 t k)
  have ks64 : own_R p e below (s₁.setTop (entryFrame m #[(.long q0)] maxLocals)) (T60.setTop (mkF m 88 #[.val (.long q0), .second, .val (.ref b1), .val (.long v17), .second, .val (.long v21), .second, .val (.ref b24), .val (.long v46), .second, .val (.int v54), .unset] [(.int (lcmpW (own_unmix v46) (v17 + (-7046029254386353131 : Int64))))])) := fun t k => ks61 t (by
    show Steps p.tables e below (T60.setTop (mkF m 82 #[.val (.long q0), .second, .val (.ref b1), .val (.long v17), .second, .val (.long v21), .second, .val (.ref b24), .val (.long v46), .second, .val (.int v54), .unset] [(.long (own_unmix v46))])) _
    refine XS.lloadN X60.here hx rfl (hb hby at_82) rfl ?_
    show Steps p.tables e below (T60.setTop (mkF m 83 #[.val (.long q0), .second, .val (.ref b1), .val (.long v17), .second, .val (.long v21), .second, .val (.ref b24), .val (.long v46), .second, .val (.int v54), .unset] [(.long v17), (.long (own_unmix v46))])) _
    refine X60.ldc2Long hx hown (mvT hZ (hw _ (List.mem_of_getElem? (i := 33) rfl))) (g := (mkF m 83 #[.val (.long q0), .second, .val (.ref b1), .val (.long v17), .second, .val (.long v21), .second, .val (.ref b24), .val (.long v46), .second, .val (.int v54), .unset] [(.long v17), (.long (own_unmix v46))])) rfl (hb hby at_83) _ ?_
    show Steps p.tables e below (T60.setTop (mkF m 86 #[.val (.long q0), .second, .val (.ref b1), .val (.long v17), .second, .val (.long v21), .second, .val (.ref b24), .val (.long v46), .second, .val (.int v54), .unset] [(.long (-7046029254386353131 : Int64)), (.long v17), (.long (own_unmix v46))])) _
    refine XS.ladd X60.here hx rfl (hb hby at_86) rfl ?_
    show Steps p.tables e below (T60.setTop (mkF m 87 #[.val (.long q0), .second, .val (.ref b1), .val (.long v17), .second, .val (.long v21), .second, .val (.ref b24), .val (.long v46), .second, .val (.int v54), .unset] [(.long (v17 + (-7046029254386353131 : Int64))), (.long (own_unmix v46))])) _
    refine XS.lcmp X60.here hx rfl (hb hby at_87) rfl ?_
    exact k)
  obtain ⟨v63, hv63⟩ : ∃ z : Int32, z = (if (own_unmix v46) = (v17 + (-7046029254386353131 : Int64)) then (1 : Int32) else (0 : Int32)) := ⟨_, rfl⟩
  have ks65 : own_R p e below (s₁.setTop (entryFrame m #[(.long q0)] maxLocals)) (T60.setTop (mkF m 96 #[.val (.long q0), .second, .val (.ref b1), .val (.long v17), .second, .val (.long v21), .second, .val (.ref b24), .val (.long v46), .second, .val (.int v54), .unset] [(.int v63)])) := fun t k => ks64 t (by
    by_cases hc62 : (own_unmix v46) = (v17 + (-7046029254386353131 : Int64))
    · skip
      have qq66 : v63 = (1 : Int32) := by rw [hv63, if_pos hc62]
      rw [qq66] at k
      show Steps p.tables e below (T60.setTop (mkF m 88 #[.val (.long q0), .second, .val (.ref b1), .val (.long v17), .second, .val (.long v21), .second, .val (.ref b24), .val (.long v46), .second, .val (.int v54), .unset] [(.int (lcmpW (own_unmix v46) (v17 + (-7046029254386353131 : Int64))))])) _
      refine XS.ifNo X60.here hx rfl (hb hby at_88) rfl ((if0 _ _).trans (teq ((lw_eq _ _).mpr hc62)).2) ?_
      show Steps p.tables e below (T60.setTop (mkF m 91 #[.val (.long q0), .second, .val (.ref b1), .val (.long v17), .second, .val (.long v21), .second, .val (.ref b24), .val (.long v46), .second, .val (.int v54), .unset] [])) _
      refine XS.iconst X60.here hx rfl (hb hby at_91) ?_
      show Steps p.tables e below (T60.setTop (mkF m 92 #[.val (.long q0), .second, .val (.ref b1), .val (.long v17), .second, .val (.long v21), .second, .val (.ref b24), .val (.long v46), .second, .val (.int v54), .unset] [(.int (1 : Int32))])) _
      refine XS.goto X60.here hx rfl (pc0 := 92) (pc' := 96) rfl (hb hby at_92) (by decide) (by decide) ?_
      exact k
    · skip
      have qq67 : v63 = (0 : Int32) := by rw [hv63, if_neg hc62]
      rw [qq67] at k
      show Steps p.tables e below (T60.setTop (mkF m 88 #[.val (.long q0), .second, .val (.ref b1), .val (.long v17), .second, .val (.long v21), .second, .val (.ref b24), .val (.long v46), .second, .val (.int v54), .unset] [(.int (lcmpW (own_unmix v46) (v17 + (-7046029254386353131 : Int64))))])) _
      refine XS.ifYes X60.here hx rfl (pc0 := 88) (pc' := 95) rfl (hb hby at_88) rfl ((if0 _ _).trans (feq (fun q => hc62 ((lw_eq _ _).mp q))).2) (by decide) (by decide) ?_
      show Steps p.tables e below (T60.setTop (mkF m 95 #[.val (.long q0), .second, .val (.ref b1), .val (.long v17), .second, .val (.long v21), .second, .val (.ref b24), .val (.long v46), .second, .val (.int v54), .unset] [])) _
      refine XS.iconst X60.here hx rfl (hb hby at_95) ?_
      exact k)
  have ks68 : own_R p e below (s₁.setTop (entryFrame m #[(.long q0)] maxLocals)) (T60.setTop (mkF m 100 #[.val (.long q0), .second, .val (.ref b1), .val (.long v17), .second, .val (.long v21), .second, .val (.ref b24), .val (.long v46), .second, .val (.int v54), .val (.int v63)] [(.int v54)])) := fun t k => ks65 t (by
    show Steps p.tables e below (T60.setTop (mkF m 96 #[.val (.long q0), .second, .val (.ref b1), .val (.long v17), .second, .val (.long v21), .second, .val (.ref b24), .val (.long v46), .second, .val (.int v54), .unset] [(.int v63)])) _
    refine XS.istore X60.here hx rfl (hb hby at_96) rfl (l' := #[.val (.long q0), .second, .val (.ref b1), .val (.long v17), .second, .val (.long v21), .second, .val (.ref b24), .val (.long v46), .second, .val (.int v54), .val (.int v63)]) rfl ?_
    show Steps p.tables e below (T60.setTop (mkF m 98 #[.val (.long q0), .second, .val (.ref b1), .val (.long v17), .second, .val (.long v21), .second, .val (.ref b24), .val (.long v46), .second, .val (.int v54), .val (.int v63)] [])) _
    refine XS.iload X60.here hx rfl (hb hby at_98) rfl ?_
    exact k)
  by_cases hc69 : v54 = (0 : Int32)
  · skip
    have ks70 : own_R p e below (s₁.setTop (entryFrame m #[(.long q0)] maxLocals)) (T60.setTop (mkF m 113 #[.val (.long q0), .second, .val (.ref b1), .val (.long v17), .second, .val (.long v21), .second, .val (.ref b24), .val (.long v46), .second, .val (.int v54), .val (.int v63)] [(.int (0 : Int32))])) := fun t k => ks68 t (by
      show Steps p.tables e below (T60.setTop (mkF m 100 #[.val (.long q0), .second, .val (.ref b1), .val (.long v17), .second, .val (.long v21), .second, .val (.ref b24), .val (.long v46), .second, .val (.int v54), .val (.int v63)] [(.int v54)])) _
      refine XS.ifYes X60.here hx rfl (pc0 := 100) (pc' := 112) rfl (hb hby at_100) rfl ((if0 _ _).trans (teq hc69).1) (by decide) (by decide) ?_
      show Steps p.tables e below (T60.setTop (mkF m 112 #[.val (.long q0), .second, .val (.ref b1), .val (.long v17), .second, .val (.long v21), .second, .val (.ref b24), .val (.long v46), .second, .val (.int v54), .val (.int v63)] [])) _
      refine XS.iconst X60.here hx rfl (hb hby at_112) ?_
      exact k)
    obtain ⟨fs, hr, hrun, hended, hW, hsame⟩ := X60.leave (v := some (.int (0 : Int32))) (fun h => by rw [Bd.returns] at h; cases h)
    refine ⟨_, _, ks70 _ ?_, hrun, hended, _, _, rfl, ?_, ⟨_, rfl⟩, hW, hsame.mono (by decide) (by decide)⟩
    · exact retN X60 hx (t := .boolean) Bd.returns (by simp) (hb hby at_113) hr
    · show Q0 Z q0 h0 n0 _ T60.heap _
      rw [eq60]
      exfalso
      subst hv63
      subst hv54
      subst hv46
      subst hv21
      subst hv17
      rw [own_unmix_mix, own_unmix_mix, own_cancel, if_pos rfl] at hc69
      exact absurd hc69 (by decide)
  · skip
    have ks71 : own_R p e below (s₁.setTop (entryFrame m #[(.long q0)] maxLocals)) (T60.setTop (mkF m 105 #[.val (.long q0), .second, .val (.ref b1), .val (.long v17), .second, .val (.long v21), .second, .val (.ref b24), .val (.long v46), .second, .val (.int v54), .val (.int v63)] [(.int v63)])) := fun t k => ks68 t (by
      show Steps p.tables e below (T60.setTop (mkF m 100 #[.val (.long q0), .second, .val (.ref b1), .val (.long v17), .second, .val (.long v21), .second, .val (.ref b24), .val (.long v46), .second, .val (.int v54), .val (.int v63)] [(.int v54)])) _
      refine XS.ifNo X60.here hx rfl (hb hby at_100) rfl ((if0 _ _).trans (feq hc69).1) ?_
      show Steps p.tables e below (T60.setTop (mkF m 103 #[.val (.long q0), .second, .val (.ref b1), .val (.long v17), .second, .val (.long v21), .second, .val (.ref b24), .val (.long v46), .second, .val (.int v54), .val (.int v63)] [])) _
      refine XS.iload X60.here hx rfl (hb hby at_103) rfl ?_
      exact k)
    by_cases hc72 : v63 = (0 : Int32)
    · skip
      have ks73 : own_R p e below (s₁.setTop (entryFrame m #[(.long q0)] maxLocals)) (T60.setTop (mkF m 113 #[.val (.long q0), .second, .val (.ref b1), .val (.long v17), .second, .val (.long v21), .second, .val (.ref b24), .val (.long v46), .second, .val (.int v54), .val (.int v63)] [(.int (0 : Int32))])) := fun t k => ks71 t (by
        show Steps p.tables e below (T60.setTop (mkF m 105 #[.val (.long q0), .second, .val (.ref b1), .val (.long v17), .second, .val (.long v21), .second, .val (.ref b24), .val (.long v46), .second, .val (.int v54), .val (.int v63)] [(.int v63)])) _
        refine XS.ifYes X60.here hx rfl (pc0 := 105) (pc' := 112) rfl (hb hby at_105) rfl ((if0 _ _).trans (teq hc72).1) (by decide) (by decide) ?_
        show Steps p.tables e below (T60.setTop (mkF m 112 #[.val (.long q0), .second, .val (.ref b1), .val (.long v17), .second, .val (.long v21), .second, .val (.ref b24), .val (.long v46), .second, .val (.int v54), .val (.int v63)] [])) _
        refine XS.iconst X60.here hx rfl (hb hby at_112) ?_
        exact k)
      obtain ⟨fs, hr, hrun, hended, hW, hsame⟩ := X60.leave (v := some (.int (0 : Int32))) (fun h => by rw [Bd.returns] at h; cases h)
      refine ⟨_, _, ks73 _ ?_, hrun, hended, _, _, rfl, ?_, ⟨_, rfl⟩, hW, hsame.mono (by decide) (by decide)⟩
      · exact retN X60 hx (t := .boolean) Bd.returns (by simp) (hb hby at_113) hr
      · show Q0 Z q0 h0 n0 _ T60.heap _
        rw [eq60]
        exfalso
        subst hv63
        subst hv54
        subst hv46
        subst hv21
        subst hv17
        rw [own_unmix_mix, Int64.xor_zero, if_pos rfl] at hc72
        exact absurd hc72 (by decide)
    · skip
      have ks74 : own_R p e below (s₁.setTop (entryFrame m #[(.long q0)] maxLocals)) (T60.setTop (mkF m 113 #[.val (.long q0), .second, .val (.ref b1), .val (.long v17), .second, .val (.long v21), .second, .val (.ref b24), .val (.long v46), .second, .val (.int v54), .val (.int v63)] [(.int (1 : Int32))])) := fun t k => ks71 t (by
        show Steps p.tables e below (T60.setTop (mkF m 105 #[.val (.long q0), .second, .val (.ref b1), .val (.long v17), .second, .val (.long v21), .second, .val (.ref b24), .val (.long v46), .second, .val (.int v54), .val (.int v63)] [(.int v63)])) _
        refine XS.ifNo X60.here hx rfl (hb hby at_105) rfl ((if0 _ _).trans (feq hc72).1) ?_
        show Steps p.tables e below (T60.setTop (mkF m 108 #[.val (.long q0), .second, .val (.ref b1), .val (.long v17), .second, .val (.long v21), .second, .val (.ref b24), .val (.long v46), .second, .val (.int v54), .val (.int v63)] [])) _
        refine XS.iconst X60.here hx rfl (hb hby at_108) ?_
        show Steps p.tables e below (T60.setTop (mkF m 109 #[.val (.long q0), .second, .val (.ref b1), .val (.long v17), .second, .val (.long v21), .second, .val (.ref b24), .val (.long v46), .second, .val (.int v54), .val (.int v63)] [(.int (1 : Int32))])) _
        refine XS.goto X60.here hx rfl (pc0 := 109) (pc' := 113) rfl (hb hby at_109) (by decide) (by decide) ?_
        exact k)
      obtain ⟨fs, hr, hrun, hended, hW, hsame⟩ := X60.leave (v := some (.int (1 : Int32))) (fun h => by rw [Bd.returns] at h; cases h)
      refine ⟨_, _, ks74 _ ?_, hrun, hended, _, _, rfl, ?_, ⟨_, rfl⟩, hW, hsame.mono (by decide) (by decide)⟩
      · exact retN X60 hx (t := .boolean) Bd.returns (by simp) (hb hby at_113) hr
      · show Q0 Z q0 h0 n0 _ T60.heap _
        rw [eq60]
        exact ⟨rfl, N60⟩
set_option maxRecDepth 65536 in
set_option maxHeartbeats 40000000 in
theorem comes_1 {Post : Tables → Env → Array Value → State → Outcome → State → Prop} (hpost : ∀ tb e args s v u, (limb_1_1.after args s (.returned v) u = true ∧ limb_1_2.after args s (.returned v) u = true ∧ True) → FrameEnd s (.returned v) u (Jvm.fieldLocs frame_1_writes args s ++ Jvm.arrayLocs frame_1_arrays args s ++ Jvm.staticLocs frame_1_statics s) 16 128 → Post tb e args s (.returned v) u) :
    ArmFor flags0 classFile x code maxLocals ret World_1 tables_1 room_1 Calls_1 rest_1 Pre_1 Post := by
  intro l hfl _ _ p e ha hc hk s m args below hf hA hF happ hP
  obtain ⟨hcalls, hrest, hpre⟩ := hP
  obtain ⟨-, -, -, hnamed, -, -, -, hat⟩ := (Spec.applies_iff hf).mp happ
  obtain ⟨hg, hn⟩ := and_e (Cond.before_iff.mp (show (Jvm.Cond.and given_1 narrow_1).before args s = true from hpre))
  obtain ⟨g1, g2⟩ := and_e hg
  obtain ⟨w0, rfl⟩ : ∃ w0 : Value, args = #[w0] := by
    have hs : args.size = 1 := by simpa [Cond.value, given_1] using g1
    obtain ⟨L⟩ := args
    match L, hs with
    | [w0], _ => exact ⟨w0, rfl⟩
  have hw := fun d (hd : d ∈ tables_1) => atoms_spec (ws := Jvm.Cond.code x code maxLocals ret :: tables_1) hat d (List.mem_cons_of_mem _ hd)
  have hfit : Fit s := fun {y c} hc i hi => by
    obtain ⟨ha, rfl⟩ := Array.getElem?_eq_some_iff.mp hc
    have q := List.all_eq_true.mp ((Array.all_eq_true_iff_forall_mem.mp hF) _ (Array.getElem_mem ha)) i (List.mem_range.mpr hi)
    simpa [Array.getElem?_eq_getElem hi] using q
  obtain ⟨i0, ei0⟩ := isL_v g2
  obtain rfl : w0 = (.long i0) := Option.some.inj ei0
  obtain ⟨n, o, h1, h2, h3, _, L, rfl, ⟨rfl, N⟩, hq⟩ := rm0 l s _ hw tables_1 i0 s.heap s.heap.size (Nat.le_refl _)  p e ha hc hk s m _ below hf ((Spec.applies_iff_loose hf).mp happ).1 ⟨rfl, State.Warmed39.refl s, rfl⟩ trivial
  refine ⟨n, _, h1, h2, h3, hpost _ _ _ _ _ _ ⟨Cond.after_iff.mpr rfl, Cond.after_iff.mpr (eq_i res_at (Term.int_eval (1)) rfl), trivial⟩ ⟨hq.1, hq.2.1, (hq.2.2.sift fun y hy => Or.inr (N y hy)).mono (by decide) (by decide)⟩⟩
theorem main_1_1 : Claimed_1_1 := comes_1 fun _ _ _ _ _ _ h hF => ⟨h.1, hF⟩
theorem main_1_2 : Claimed_1_2 := comes_1 fun _ _ _ _ _ _ h hF => ⟨h.2.1, hF⟩
end Jvm.Pilot.@@N@@
namespace Jvm.Pilot.@@N@@
open Jvm Jvm.ClassFile Sem Op Lib Jvm.Free Jvm.Stand Jvm.Pilot.@@N@@.Jvm.D
/-! MADE BY PROGRAM (witnessworld.py) out of the Statement's table words and the real class files: 11 classes; the members and pool entries that the words name. The judged class is class 1, her method 3. -/
namespace start1
open Jvm.ClassFile
def u (s : String) : CpInfo := .utf8 (stringToUtf16 s)
/-- a pool by its gaps: so many unusable entries, then the entry; so many at the end -/
def gap : Nat → List CpInfo → List CpInfo
  | 0, r => r
  | n + 1, r => .unusable :: gap n r
def poolList (es : List (Nat × CpInfo)) (last : Nat) : List CpInfo := es.foldr (fun e r => gap e.1 (e.2 :: r)) (gap last [])
def pool (es : List (Nat × CpInfo)) (last : Nat) : Array CpInfo := ⟨poolList es last⟩
def fileOf (pool : Array CpInfo) (this : Nat) (attrs : Array Attribute := #[]) (ms : Array MethodInfo := #[]) (fl : Nat := 33) (sup : Nat := 0) (ifs : Array Nat := #[]) (fds : Array FieldInfo := #[]) : ClassFile where
  minorVersion := 0
  majorVersion := 65
  constantPool := pool
  accessFlags := fl
  thisClass := this
  superClass := sup
  interfaces := ifs
  fields := fds
  methods := ms
  attributes := attrs
def plain (name : String) (sup : Option ClassId) : Class where
  name := name
  kind := .ordinary
  loader := none
  accessFlags := 33
  super := sup
  interfaces := #[]
  cf := none
  fields := #[]
  methods := #[]
  instanceTypes := #[]
  staticTypes := #[]
  resolved := #[]
  callSites := []
  init := .initialized
  statics := none
  mirror := none

def pool0 : Array CpInfo := pool [(5, u "<init>"), (0, u "()V"), (1, .class_ 10), (1, u "java/lang/Object")] 113

def k0c0 : Code := { maxStack := 0, maxLocals := 1, code := object_method_1_code, exceptionTable := #[], attributes := #[] }
def k0m0 : Method := { name := "<init>", desc := "()V", sig := { parameters := [], returnType := none }, accessFlags := 1, code := some k0c0 }
/-- java/lang/Object -/
def k0 : Class := { plain "java/lang/Object" none with
  accessFlags := 33
  interfaces := #[]
  cf := some (fileOf pool0 8 #[] #[{ accessFlags := 1, nameIndex := 5, descriptorIndex := 6, attributes := #[] }] 33 0 #[] #[])
  fields := #[]
  methods := #[k0m0]
  instanceTypes := #[]
  staticTypes := #[]
  resolved := Array.replicate 124 none
  statics := none }

def pool1 : Array CpInfo := pool [(2, .class_ 4), (1, u "java/lang/Object"), (0, u "<init>"), (0, u "()V"), (0, .long 2), (1, .long 10723151780598845931), (1, .methodref 12 13), (0, .class_ 14), (0, .nameAndType 15 16), (0, u "com/example/carved_corpus/carvedcorpus/cli/SeededRandomNextLongPinLaw"), (0, u "inverse"), (0, u "(J)J"), (0, .long 13787848793156543929), (1, .class_ 20), (0, u "com/example/carved_corpus/carvedcorpus/cli/SeededRandom"), (0, .methodref 19 22), (0, .nameAndType 5 23), (0, u "([J)V"), (0, .methodref 19 25), (0, .nameAndType 26 27), (0, u "nextLong"), (0, u "()J"), (0, .methodref 12 29), (0, .nameAndType 30 16), (0, u "unmix"), (0, .long 11400714819323198485), (3, u "law"), (0, u "(J)Z")] 3

def k1m0 : Method := { name := "<init>", desc := "()V", sig := { parameters := [], returnType := none }, accessFlags := 2, code := none }
def k1c1 : Code := { maxStack := 8, maxLocals := 4, code := method_2_code, exceptionTable := #[], attributes := #[] }
def k1m1 : Method := { name := "inverse", desc := "(J)J", sig := { parameters := [.long], returnType := some .long }, accessFlags := 10, code := some k1c1 }
def k1c2 : Code := { maxStack := 5, maxLocals := 4, code := method_3_code, exceptionTable := #[], attributes := #[] }
def k1m2 : Method := { name := "unmix", desc := "(J)J", sig := { parameters := [.long], returnType := some .long }, accessFlags := 10, code := some k1c2 }
def k1c3 : Code := { maxStack := 7, maxLocals := 12, code := code, exceptionTable := #[], attributes := #[] }
def k1m3 : Method := { name := "law", desc := "(J)Z", sig := { parameters := [.long], returnType := some .boolean }, accessFlags := 9, code := some k1c3 }
/-- com/example/carved_corpus/carvedcorpus/cli/SeededRandomNextLongPinLaw -/
def k1 : Class := { plain "com/example/carved_corpus/carvedcorpus/cli/SeededRandomNextLongPinLaw" (some 0) with
  accessFlags := 49
  interfaces := #[]
  cf := some (fileOf pool1 12 #[] #[{ accessFlags := 2, nameIndex := 5, descriptorIndex := 6, attributes := #[] }, { accessFlags := 10, nameIndex := 15, descriptorIndex := 16, attributes := #[] }, { accessFlags := 10, nameIndex := 30, descriptorIndex := 16, attributes := #[] }, { accessFlags := 9, nameIndex := 35, descriptorIndex := 36, attributes := #[] }] 49 2 #[] #[])
  fields := #[]
  methods := #[k1m0, k1m1, k1m2, k1m3]
  instanceTypes := #[]
  staticTypes := #[]
  resolved := Array.replicate 40 none
  statics := none }

def pool2 : Array CpInfo := pool [(1, .methodref 2 3), (0, .class_ 4), (0, .nameAndType 5 6), (0, u "java/lang/Object"), (0, u "<init>"), (0, u "()V"), (0, .class_ 8), (0, u "com/example/carved_corpus/carvedcorpus/cli/SeededRandom"), (0, .long 11400714819323198485), (1, .methodref 7 12), (0, .nameAndType 13 14), (0, u "mix"), (0, u "(J)J"), (0, .fieldref 7 16), (0, .nameAndType 17 18), (0, u "state"), (0, u "J"), (2, u "nextLong"), (0, u "()J"), (10, u "ROOT_THREE"), (0, u "D"), (6, .long 13787848793156543929), (1, .long 10723151780598845931), (8, u "GAMMA"), (1, u "([J)V")] 14

def k2c0 : Code := { maxStack := 4, maxLocals := 9, code := prog_14_method_1_code, exceptionTable := #[], attributes := #[] }
def k2m0 : Method := { name := "<init>", desc := "([J)V", sig := { parameters := [(.array .long)], returnType := none }, accessFlags := 128, code := some k2c0 }
def k2c1 : Code := { maxStack := 5, maxLocals := 1, code := prog_14_method_2_code, exceptionTable := #[], attributes := #[] }
def k2m1 : Method := { name := "nextLong", desc := "()J", sig := { parameters := [], returnType := some .long }, accessFlags := 0, code := some k2c1 }
def k2c2 : Code := { maxStack := 5, maxLocals := 4, code := prog_14_method_7_code, exceptionTable := #[], attributes := #[] }
def k2m2 : Method := { name := "mix", desc := "(J)J", sig := { parameters := [.long], returnType := some .long }, accessFlags := 10, code := some k2c2 }
/-- com/example/carved_corpus/carvedcorpus/cli/SeededRandom -/
def k2 : Class := { plain "com/example/carved_corpus/carvedcorpus/cli/SeededRandom" (some 0) with
  accessFlags := 32
  interfaces := #[]
  cf := some (fileOf pool2 7 #[] #[{ accessFlags := 128, nameIndex := 5, descriptorIndex := 54, attributes := #[] }, { accessFlags := 0, nameIndex := 21, descriptorIndex := 22, attributes := #[] }, { accessFlags := 10, nameIndex := 13, descriptorIndex := 14, attributes := #[] }] 32 2 #[] #[{ accessFlags := 26, nameIndex := 52, descriptorIndex := 18, attributes := #[] }, { accessFlags := 26, nameIndex := 33, descriptorIndex := 34, attributes := #[] }, { accessFlags := 2, nameIndex := 17, descriptorIndex := 18, attributes := #[] }])
  fields := #[{ name := "GAMMA", type := .long, accessFlags := 26, slot := 0, constantValue := 0 }, { name := "ROOT_THREE", type := .double, accessFlags := 26, slot := 1, constantValue := 0 }, { name := "state", type := .long, accessFlags := 2, slot := 0, constantValue := 0 }]
  methods := #[k2m0, k2m1, k2m2]
  instanceTypes := #[.long]
  staticTypes := #[.long, .double]
  resolved := Array.replicate 69 none
  statics := none }

def pool3 : Array CpInfo := pool [(1, u "java/lang/Cloneable"), (0, .class_ 1), (0, u "java/lang/Object"), (0, .class_ 3)] 3

/-- java/lang/Cloneable -/
def k3 : Class := { plain "java/lang/Cloneable" (some 0) with
  accessFlags := 1537
  interfaces := #[]
  cf := some (fileOf pool3 2 #[] #[] 1537 4 #[] #[])
  fields := #[]
  methods := #[]
  instanceTypes := #[]
  staticTypes := #[]
  resolved := Array.replicate 8 none
  statics := none }

def pool4 : Array CpInfo := pool [(1, u "java/io/Serializable"), (0, .class_ 1), (0, u "java/lang/Object"), (0, .class_ 3)] 3

/-- java/io/Serializable -/
def k4 : Class := { plain "java/io/Serializable" (some 0) with
  accessFlags := 1537
  interfaces := #[]
  cf := some (fileOf pool4 2 #[] #[] 1537 4 #[] #[])
  fields := #[]
  methods := #[]
  instanceTypes := #[]
  staticTypes := #[]
  resolved := Array.replicate 8 none
  statics := none }

/-- the primitive byte -/
def k5 : Class := { plain "byte" none with kind := .primitive 'B', accessFlags := 0x411 }
/-- [B -/
def k6 : Class := { plain "[B" (some 0) with kind := .array 5 .byte, interfaces := #[3, 4], accessFlags := 1041 }

/-- the primitive int -/
def k7 : Class := { plain "int" none with kind := .primitive 'I', accessFlags := 0x411 }
/-- [I -/
def k8 : Class := { plain "[I" (some 0) with kind := .array 7 .int, interfaces := #[3, 4], accessFlags := 1041 }

/-- the primitive long -/
def k9 : Class := { plain "long" none with kind := .primitive 'J', accessFlags := 0x411 }
/-- [J -/
def k10 : Class := { plain "[J" (some 0) with kind := .array 9 .long, interfaces := #[3, 4], accessFlags := 1041 }

def heap : Heap := #[]
def classes : Array Class := #[k0, k1, k2, k3, k4, k5, k6, k7, k8, k9, k10]
def interned : List (Array UInt16 × Addr) := []
def slotsUsed : Nat := 0
def theMethod : MethodId := ⟨1, 3⟩
def args0 : Array Value := #[.long 5]
def aboutOver (below : List Frame) : State where
  vm := { classes := classes, interned := interned.toArray }
  heap := heap
  slotsUsed := slotsUsed
  threads := #[{ frames := .invoking theMethod args0 :: below }]
def below0 : List Frame := [.native { method := ⟨0, 0⟩, args := #[] }]
def about1 : State := aboutOver below0
def p0 : Program := .bare "" "" ""
def e0 : Env := launch0.env 0 0 0
theorem w_frames : about1.frames = Frame.invoking theMethod args0 :: below0 := rfl
set_option maxRecDepth 65536 in
theorem w_args : argsFit about1.vm theMethod args0 = true := by decide +kernel
set_option maxRecDepth 65536 in
theorem w_heap : heapFits about1 = true := by decide +kernel
set_option maxRecDepth 65536 in
theorem w_runnable : about1.curStatus? = some .runnable := by decide +kernel
set_option maxRecDepth 65536 in
theorem w_alone : about1.alone = true := by decide +kernel
set_option maxRecDepth 65536 in
theorem w_named : about1.methodNamed? x = some theMethod := by decide +kernel
set_option maxRecDepth 65536 in
theorem w_hears : about1.hears theMethod below0 = true := by decide +kernel
set_option maxRecDepth 65536 in
theorem w_ripe : about1.ripe theMethod args0 below0 = true := by decide +kernel
theorem w_running : about1.status = .running := rfl
set_option maxRecDepth 65536 in
theorem w_room : about1.hasRoom e0.platform room_1 = true :=
  launch0.hasRoom_least _ room_1 (by decide +kernel) (by decide +kernel) (by decide +kernel) (by decide +kernel) (by decide +kernel) (by decide +kernel)
theorem allAtoms_all (ts : List Jvm.Cond) (a : Array Jvm.Value) (st : Jvm.State) : (allAtoms ts).before a st = ts.all (fun c => c.before a st) := by
  induction ts with
  | nil => rfl
  | cons c t ih =>
    show (Jvm.Cond.and c (allAtoms t)).before a st = _
    rw [Jvm.Cond.before_and, ih, List.all_cons]
def words1 : List Jvm.Cond := Jvm.Cond.code x code maxLocals ret :: tables_1
/-- a 'code' word, met by the world's own term for the bytes: nothing is compared byte by byte -/
theorem code_word {y : MethodName} {bytes : ByteArray} {mx : Nat} {rt : Option FieldType} {a : Array Value} {s : State} {m : MethodId} {meth : Method} {c : Code} (h1 : s.methodNamed? y = some m) (h2 : s.vm.method? m = some meth) (h3 : meth.code = some c) (h4 : c.code = bytes)
    (h5 : (c.maxLocals == mx && c.exceptionTable.isEmpty && decide (c.maxStack ≤ mostOperands) && decide (meth.sig.returnType = rt) && !meth.locks && decide (parseMethodDescriptor y.desc = some meth.sig)) = true) : (Jvm.Cond.code y bytes mx rt).before a s = true := by
  simp only [Bool.and_eq_true, beq_iff_eq, Bool.not_eq_true', decide_eq_true_eq] at h5
  obtain ⟨⟨⟨⟨⟨g1, g2⟩, g3⟩, g4⟩, g5⟩, g6⟩ := h5
  simp [Cond.before, Cond.holds, Cond.value, h1, h2, h3, h4, g1, g2, g3, g4, g5, g6]
def isCode : Jvm.Cond → Bool
  | .code _ _ _ _ => true
  | _ => false
theorem all_split {L : List Jvm.Cond} {P : Jvm.Cond → Bool} (h1 : L.all (fun c => isCode c || P c) = true) (h2 : ∀ c ∈ L.filter isCode, P c = true) : L.all P = true := by
  refine List.all_eq_true.mpr fun c hc => ?_
  have h := List.all_eq_true.mp h1 c hc
  rcases Bool.eq_false_or_eq_true (isCode c) with hi | hi
  · exact h2 c (List.mem_filter.mpr ⟨hc, hi⟩)
  · simpa [hi] using h
set_option maxRecDepth 65536 in
theorem w_c0 : (Jvm.Cond.code x code maxLocals ret).before args0 about1 = true := code_word (m := ⟨1, 3⟩) (meth := k1m3) (c := k1c3) (by decide +kernel) rfl rfl rfl (by decide +kernel)
set_option maxRecDepth 65536 in
theorem w_c1 : (Jvm.Cond.code ({ cls := "com/example/carved_corpus/carvedcorpus/cli/SeededRandom", name := "<init>", desc := "([J)V" } : Jvm.MethodName) prog_14_method_1_code (9 : Nat) (Option.none : Option Jvm.ClassFile.FieldType)).before args0 about1 = true := code_word (m := ⟨2, 0⟩) (meth := k2m0) (c := k2c0) (by decide +kernel) rfl rfl rfl (by decide +kernel)
set_option maxRecDepth 65536 in
theorem w_c2 : (Jvm.Cond.code ({ cls := "java/lang/Object", name := "<init>", desc := "()V" } : Jvm.MethodName) object_method_1_code (1 : Nat) (Option.none : Option Jvm.ClassFile.FieldType)).before args0 about1 = true := code_word (m := ⟨0, 0⟩) (meth := k0m0) (c := k0c0) (by decide +kernel) rfl rfl rfl (by decide +kernel)
set_option maxRecDepth 65536 in
theorem w_c3 : (Jvm.Cond.code ({ cls := "com/example/carved_corpus/carvedcorpus/cli/SeededRandom", name := "mix", desc := "(J)J" } : Jvm.MethodName) prog_14_method_7_code (4 : Nat) (Option.some Jvm.ClassFile.FieldType.long)).before args0 about1 = true := code_word (m := ⟨2, 2⟩) (meth := k2m2) (c := k2c2) (by decide +kernel) rfl rfl rfl (by decide +kernel)
set_option maxRecDepth 65536 in
theorem w_c4 : (Jvm.Cond.code ({ cls := "com/example/carved_corpus/carvedcorpus/cli/SeededRandom", name := "nextLong", desc := "()J" } : Jvm.MethodName) prog_14_method_2_code (1 : Nat) (Option.some Jvm.ClassFile.FieldType.long)).before args0 about1 = true := code_word (m := ⟨2, 1⟩) (meth := k2m1) (c := k2c1) (by decide +kernel) rfl rfl rfl (by decide +kernel)
set_option maxRecDepth 65536 in
theorem w_c5 : (Jvm.Cond.code ({ cls := "com/example/carved_corpus/carvedcorpus/cli/SeededRandomNextLongPinLaw", name := "unmix", desc := "(J)J" } : Jvm.MethodName) method_3_code (4 : Nat) (Option.some Jvm.ClassFile.FieldType.long)).before args0 about1 = true := code_word (m := ⟨1, 2⟩) (meth := k1m2) (c := k1c2) (by decide +kernel) rfl rfl rfl (by decide +kernel)
set_option maxRecDepth 65536 in
theorem w_c6 : (Jvm.Cond.code ({ cls := "com/example/carved_corpus/carvedcorpus/cli/SeededRandomNextLongPinLaw", name := "inverse", desc := "(J)J" } : Jvm.MethodName) method_2_code (4 : Nat) (Option.some Jvm.ClassFile.FieldType.long)).before args0 about1 = true := code_word (m := ⟨1, 1⟩) (meth := k1m1) (c := k1c1) (by decide +kernel) rfl rfl rfl (by decide +kernel)
def codes1 : List Jvm.Cond := [Jvm.Cond.code x code maxLocals ret, Jvm.Cond.code ({ cls := "com/example/carved_corpus/carvedcorpus/cli/SeededRandom", name := "<init>", desc := "([J)V" } : Jvm.MethodName) prog_14_method_1_code (9 : Nat) (Option.none : Option Jvm.ClassFile.FieldType), Jvm.Cond.code ({ cls := "java/lang/Object", name := "<init>", desc := "()V" } : Jvm.MethodName) object_method_1_code (1 : Nat) (Option.none : Option Jvm.ClassFile.FieldType), Jvm.Cond.code ({ cls := "com/example/carved_corpus/carvedcorpus/cli/SeededRandom", name := "mix", desc := "(J)J" } : Jvm.MethodName) prog_14_method_7_code (4 : Nat) (Option.some Jvm.ClassFile.FieldType.long), Jvm.Cond.code ({ cls := "com/example/carved_corpus/carvedcorpus/cli/SeededRandom", name := "nextLong", desc := "()J" } : Jvm.MethodName) prog_14_method_2_code (1 : Nat) (Option.some Jvm.ClassFile.FieldType.long), Jvm.Cond.code ({ cls := "com/example/carved_corpus/carvedcorpus/cli/SeededRandomNextLongPinLaw", name := "unmix", desc := "(J)J" } : Jvm.MethodName) method_3_code (4 : Nat) (Option.some Jvm.ClassFile.FieldType.long), Jvm.Cond.code ({ cls := "com/example/carved_corpus/carvedcorpus/cli/SeededRandomNextLongPinLaw", name := "inverse", desc := "(J)J" } : Jvm.MethodName) method_2_code (4 : Nat) (Option.some Jvm.ClassFile.FieldType.long)]
set_option maxRecDepth 65536 in
theorem codes_eq : words1.filter isCode = codes1 := rfl
theorem w_codes : ∀ c ∈ words1.filter isCode, c.before args0 about1 = true := by
  rw [codes_eq]
  intro c hc
  simp only [codes1, List.mem_cons, List.not_mem_nil, or_false] at hc
  rcases hc with rfl | rfl | rfl | rfl | rfl | rfl | rfl
  · exact w_c0
  · exact w_c1
  · exact w_c2
  · exact w_c3
  · exact w_c4
  · exact w_c5
  · exact w_c6
set_option maxRecDepth 65536 in
theorem w_t1 : (words1.take 24).all (fun c => isCode c || c.before args0 about1) = true := by decide +kernel
set_option maxRecDepth 65536 in
theorem w_t2 : (words1.drop 24).all (fun c => isCode c || c.before args0 about1) = true := by decide +kernel
theorem w_tables : (allAtoms (Jvm.Cond.code x code maxLocals ret :: tables_1)).before args0 about1 = true := by
  rw [allAtoms_all]
  show words1.all (fun c => c.before args0 about1) = true
  refine all_split ?_ w_codes
  rw [← List.take_append_drop 24 words1, List.all_append, w_t1, w_t2]
  rfl
set_option maxRecDepth 65536 in
theorem w_case : (Jvm.Cond.and given_1 narrow_1).before args0 about1 = true := by decide +kernel
theorem w_applies : (headSpec (Jvm.Cond.code x code maxLocals ret :: tables_1) room_1).applies x e0.platform about1 = true :=
  (Spec.applies_iff w_frames).mpr ⟨w_running, w_runnable, w_alone, w_named, w_hears, w_ripe, w_room, w_tables⟩
theorem atStart : AtStart classFile x code maxLocals ret World_1 tables_1 room_1 Calls_1 rest_1 Pre_1 launch0 p0 e0 about1 theMethod args0 below0 :=
  ⟨lists_1, trivial, launch0.admits_env _ _ _, launch0.least_env, fairChoices_fair.cas, fairChoices_fair.clock, w_frames, w_args, w_heap, w_applies, trivial, trivial, w_case⟩
end start1
theorem witness_1 : WitnessClaimed_1 := ⟨start1.p0, start1.e0, start1.about1, start1.theMethod, start1.args0, start1.below0, start1.atStart⟩
end Jvm.Pilot.@@N@@

import JvmDerived
import JvmDerived.Pilot.@@N@@Statement
import JvmDerived.Pilot.@@N@@Code
set_option linter.unusedVariables false
set_option linter.unusedSimpArgs false
namespace Jvm.RoadKit
open Sem ClassFile Op Lib Jvm.Stand Jvm.Free Jvm.LawKit
section New
variable {p : Program} {l : Launch} {e : Env} {R : Room} {s : State} {m : MethodId} {args : Array Value} {below : List Frame} {meth : Method} {c : Code} {T : State} {locs : List Loc} {cells slots : Nat}
theorem retI (X : Stand p l e R s m args below meth c T locs cells slots) (hx : p.tables.exec = Jvm.exec) {pc : Nat} {Ls : Array Slot} {z : Int32} {rest : List Value} (hret : meth.sig.returnType = some .int) (hd : decode c.code pc = .ok (.ireturn, 1)) {fs : List Frame}
    (hl : ∀ (f : JFrame) (acts : List Action), f.method = m → f.locked = none → f.entered = [] → (doReturn e (T.setTop f) acts (some (.int z))).1 = T.setFrames fs) : Steps p.tables e below (T.setTop (mkF m pc Ls (.int z :: rest))) (T.setFrames fs) := by
  have hm' : T.vm.method? m = some meth := X.method'
  have hn : narrow .int (.int z) = .int z := rfl
  show Steps p.tables e below (T.setTop { method := m, pc := pc, locals := Ls, stack := _ :: rest, locked := none }) _
  jvm_step X.here [X.here.top, hx, hd, hm', hret, hn]
  first | (intro acts; rw [hl _ acts rfl rfl rfl]) | rw [hl _ _ rfl rfl rfl]
  exact Steps.refl _
end New
end Jvm.RoadKit
namespace Jvm.Pilot.@@N@@
open Jvm Jvm.ClassFile Sem Op Lib Jvm.Free Jvm.Stand Jvm.LawKit Jvm.RoadKit Bundle Jvm.Pilot.@@N@@.Jvm.D
theorem own_sta_keep {Z : State} {h h' : Heap} {C n d : String} {v : Value} (F : Sta Z h C n d v) (K : Keep h h' []) : Sta Z h' C n d v := by
  obtain ⟨cf, i, k, f, st, cell, h1, h2, h3, h4, h5, r⟩ := F
  exact ⟨cf, i, k, f, st, cell, h1, h2, h3, h4, K.2.1 _ _ h5 nin0, r⟩
/-- whoever comes from B to t comes from A to t -/
abbrev own_R (p : Program) (e : Env) (below : List Frame) (A B : State) : Prop := ∀ t, Steps p.tables e below B t → Steps p.tables e below A t
theorem own_nb (y : Int32) : narrow .byte (.int y.toInt8.toInt32) = .int y.toInt8.toInt32 := by
  show Value.int (y.toInt8.toInt32).toInt8.toInt32 = _
  rw [Int8.toInt8_toInt32]
def own_draw (p0 : Int32) : Int32 := (if (p0 &&& (7 : Int32)) = (0 : Int32) then (32 : Int32) else (if (p0 &&& (7 : Int32)) = (1 : Int32) then (9 : Int32) else (if (p0 &&& (7 : Int32)) = (2 : Int32) then (13 : Int32) else (if (p0 &&& (7 : Int32)) = (3 : Int32) then (10 : Int32) else ((p0 >>> ((3 : Int32) &&& 31)).toInt8.toInt32)))))
theorem d1_0 : decode method_2_code 0 = .ok (.iload_n 0, 1) := by decide +kernel
theorem d1_1 : decode method_2_code 1 = .ok (.bipush 7, 2) := by decide +kernel
theorem d1_3 : decode method_2_code 3 = .ok (.iand, 1) := by decide +kernel
theorem d1_4 : decode method_2_code 4 = .ok (.istore_n 1, 1) := by decide +kernel
theorem d1_5 : decode method_2_code 5 = .ok (.iload_n 1, 1) := by decide +kernel
theorem d1_6 : decode method_2_code 6 = .ok (.ifCond .ne 6, 3) := by decide +kernel
theorem d1_9 : decode method_2_code 9 = .ok (.bipush 32, 2) := by decide +kernel
theorem d1_11 : decode method_2_code 11 = .ok (.ireturn, 1) := by decide +kernel
theorem d1_12 : decode method_2_code 12 = .ok (.iload_n 1, 1) := by decide +kernel
theorem d1_13 : decode method_2_code 13 = .ok (.iconst 1, 1) := by decide +kernel
theorem d1_14 : decode method_2_code 14 = .ok (.if_icmp .ne 6, 3) := by decide +kernel
theorem d1_17 : decode method_2_code 17 = .ok (.bipush 9, 2) := by decide +kernel
theorem d1_19 : decode method_2_code 19 = .ok (.ireturn, 1) := by decide +kernel
theorem d1_20 : decode method_2_code 20 = .ok (.iload_n 1, 1) := by decide +kernel
theorem d1_21 : decode method_2_code 21 = .ok (.iconst 2, 1) := by decide +kernel
theorem d1_22 : decode method_2_code 22 = .ok (.if_icmp .ne 6, 3) := by decide +kernel
theorem d1_25 : decode method_2_code 25 = .ok (.bipush 13, 2) := by decide +kernel
theorem d1_27 : decode method_2_code 27 = .ok (.ireturn, 1) := by decide +kernel
theorem d1_28 : decode method_2_code 28 = .ok (.iload_n 1, 1) := by decide +kernel
theorem d1_29 : decode method_2_code 29 = .ok (.iconst 3, 1) := by decide +kernel
theorem d1_30 : decode method_2_code 30 = .ok (.if_icmp .ne 6, 3) := by decide +kernel
theorem d1_33 : decode method_2_code 33 = .ok (.bipush 10, 2) := by decide +kernel
theorem d1_35 : decode method_2_code 35 = .ok (.ireturn, 1) := by decide +kernel
theorem d1_36 : decode method_2_code 36 = .ok (.iload_n 0, 1) := by decide +kernel
theorem d1_37 : decode method_2_code 37 = .ok (.iconst 3, 1) := by decide +kernel
theorem d1_38 : decode method_2_code 38 = .ok (.ishr, 1) := by decide +kernel
theorem d1_39 : decode method_2_code 39 = .ok (.i2b, 1) := by decide +kernel
theorem d1_40 : decode method_2_code 40 = .ok (.ireturn, 1) := by decide +kernel
theorem pn_1 : plainName "com/example/rackline/rackline/protocols/ssc/MessageReaderIsBlankPinLaw" = true := by first | (simp [plainName, overriddenIn]; done) | decide +kernel
theorem ef_1 (m : MethodId) (x0 : Int32) : entryFrame m #[(.int x0)] 2 = mkF m 0 #[.val (.int x0), .unset] [] := by first | (simp [entryFrame, mkF, argsToLocals, Value.category]; done) | rfl
def Q1 (Z : State) (p0 : Int32) (h0 : Heap) (n0 : Nat) (v : Option Value) (h : Heap) (L : List Loc) : Prop := v = some (.int (own_draw p0)) ∧ Fr n0 L ∧ h = h0
set_option maxRecDepth 65536 in
set_option maxHeartbeats 40000000 in
theorem rm1 (l : Launch) (Z : State) (a0 : Array Value) (hw : ∀ d ∈ tables_1, d.before a0 Z = true) (ws : List Jvm.Cond) (p0 : Int32) (h0 : Heap) (n0 : Nat) (Z0 : n0 ≤ h0.size) :
    MetFree l (⟨"com/example/rackline/rackline/protocols/ssc/MessageReaderIsBlankPinLaw", "draw", "(I)B"⟩ : MethodName) (head1 (Jvm.Cond.code (⟨"com/example/rackline/rackline/protocols/ssc/MessageReaderIsBlankPinLaw", "draw", "(I)B"⟩ : MethodName) method_2_code 2 (some .byte) :: ws) ({ frames := 0, cells := 0, slots := 0, locals := 0 } : Room)) (fun a U => a = #[(.int p0)] ∧ Z.Warmed39 U.vm ∧ U.heap = h0) (fun _ _ _ _ _ => True) (fun _ U o U' => ∃ v L, o = .returned v ∧ Q1 Z p0 h0 n0 v U'.heap L ∧ FrameEnd U o U' L ({ frames := 0, cells := 0, slots := 0, locals := 0 } : Room).cells ({ frames := 0, cells := 0, slots := 0, locals := 0 } : Room).slots) := by
  refine MetFree.of_bodySF (plainFor_of_name pn_1) hisR ?_
  intro p e s m args below meth c s₁ Bd hml0 hP hK
  obtain ⟨rfl, hZ, hh⟩ := hP
  have hx := Bd.exec
  have hby := Bd.bytes
  have hml : c.maxLocals = 2 := hml0
  have hown : s.vm.findClass "com/example/rackline/rackline/protocols/ssc/MessageReaderIsBlankPinLaw" = some m.cls := findClass_of_methodNamed Bd.named
  have hnm := (name_of_methodNamed Bd.named Bd.method).1
  have X0 : Stand p l e ({ frames := 0, cells := 0, slots := 0, locals := 0 } : Room) s m #[(.int p0)] below meth c s₁ [] 0 0 := Stand.of_body Bd
  have e0 : s₁.heap = h0 := by rw [← hh, Bd.state]; rfl
  have N0 := Fr.nil n0
  have k0 : own_R p e below (s₁.setTop (entryFrame m #[(.int p0)] 2)) (s₁.setTop (mkF m 0 #[.val (.int p0), .unset] [])) := fun t k => castTop (ef_1 m p0) k
  have ks1 : own_R p e below (s₁.setTop (entryFrame m #[(.int p0)] 2)) (s₁.setTop (mkF m 6 #[.val (.int p0), .val (.int (p0 &&& (7 : Int32)))] [(.int (p0 &&& (7 : Int32)))])) := fun t k => k0 t (by
    show Steps p.tables e below (s₁.setTop (mkF m 0 #[.val (.int p0), .unset] [])) _
    refine XS.iloadN X0.here hx rfl (hb hby d1_0) rfl ?_
    show Steps p.tables e below (s₁.setTop (mkF m 1 #[.val (.int p0), .unset] [(.int p0)])) _
    refine XS.bipush X0.here hx rfl (hb hby d1_1) ?_
    show Steps p.tables e below (s₁.setTop (mkF m 3 #[.val (.int p0), .unset] [(.int (7 : Int32)), (.int p0)])) _
    refine XS.iand X0.here hx rfl (hb hby d1_3) rfl ?_
    show Steps p.tables e below (s₁.setTop (mkF m 4 #[.val (.int p0), .unset] [(.int (p0 &&& (7 : Int32)))])) _
    refine XS.istoreN X0.here hx rfl (hb hby d1_4) rfl (l' := #[.val (.int p0), .val (.int (p0 &&& (7 : Int32)))]) rfl ?_
    show Steps p.tables e below (s₁.setTop (mkF m 5 #[.val (.int p0), .val (.int (p0 &&& (7 : Int32)))] [])) _
    refine XS.iloadN X0.here hx rfl (hb hby d1_5) rfl ?_
    exact k)
  by_cases hc2 : (p0 &&& (7 : Int32)) = (0 : Int32)
  · skip
    have ks3 : own_R p e below (s₁.setTop (entryFrame m #[(.int p0)] 2)) (s₁.setTop (mkF m 11 #[.val (.int p0), .val (.int (p0 &&& (7 : Int32)))] [(.int (32 : Int32))])) := fun t k => ks1 t (by
      show Steps p.tables e below (s₁.setTop (mkF m 6 #[.val (.int p0), .val (.int (p0 &&& (7 : Int32)))] [(.int (p0 &&& (7 : Int32)))])) _
      refine XS.ifNo X0.here hx rfl (hb hby d1_6) rfl ((if0 _ _).trans (teq hc2).2) ?_
      show Steps p.tables e below (s₁.setTop (mkF m 9 #[.val (.int p0), .val (.int (p0 &&& (7 : Int32)))] [])) _
      refine XS.bipush X0.here hx rfl (hb hby d1_9) ?_
      exact k)
    obtain ⟨fs, hr, hrun, hended, hW, hsame⟩ := X0.leave (v := some (.int (32 : Int32))) (fun h => by rw [Bd.returns] at h; cases h)
    refine ⟨_, _, ks3 _ ?_, hrun, hended, _, _, rfl, ?_, ⟨_, rfl⟩, hW, hsame.mono (by decide) (by decide)⟩
    · exact retN X0 hx (t := .byte) Bd.returns (by simp) (hb hby d1_11) hr
    · show Q1 Z p0 h0 n0 _ s₁.heap _
      rw [e0]
      refine ⟨?_, N0, rfl⟩
      rw [own_draw, if_pos hc2]
  · skip
    have ks4 : own_R p e below (s₁.setTop (entryFrame m #[(.int p0)] 2)) (s₁.setTop (mkF m 14 #[.val (.int p0), .val (.int (p0 &&& (7 : Int32)))] [(.int (1 : Int32)), (.int (p0 &&& (7 : Int32)))])) := fun t k => ks1 t (by
      show Steps p.tables e below (s₁.setTop (mkF m 6 #[.val (.int p0), .val (.int (p0 &&& (7 : Int32)))] [(.int (p0 &&& (7 : Int32)))])) _
      refine XS.ifYes X0.here hx rfl (pc0 := 6) (pc' := 12) rfl (hb hby d1_6) rfl ((if0 _ _).trans (feq hc2).2) (by decide) (by decide) ?_
      show Steps p.tables e below (s₁.setTop (mkF m 12 #[.val (.int p0), .val (.int (p0 &&& (7 : Int32)))] [])) _
      refine XS.iloadN X0.here hx rfl (hb hby d1_12) rfl ?_
      show Steps p.tables e below (s₁.setTop (mkF m 13 #[.val (.int p0), .val (.int (p0 &&& (7 : Int32)))] [(.int (p0 &&& (7 : Int32)))])) _
      refine XS.iconst X0.here hx rfl (hb hby d1_13) ?_
      exact k)
    by_cases hc5 : (p0 &&& (7 : Int32)) = (1 : Int32)
    · skip
      have ks6 : own_R p e below (s₁.setTop (entryFrame m #[(.int p0)] 2)) (s₁.setTop (mkF m 19 #[.val (.int p0), .val (.int (p0 &&& (7 : Int32)))] [(.int (9 : Int32))])) := fun t k => ks4 t (by
        show Steps p.tables e below (s₁.setTop (mkF m 14 #[.val (.int p0), .val (.int (p0 &&& (7 : Int32)))] [(.int (1 : Int32)), (.int (p0 &&& (7 : Int32)))])) _
        refine XS.icmpNo X0.here hx rfl (hb hby d1_14) rfl (teq hc5).2 ?_
        show Steps p.tables e below (s₁.setTop (mkF m 17 #[.val (.int p0), .val (.int (p0 &&& (7 : Int32)))] [])) _
        refine XS.bipush X0.here hx rfl (hb hby d1_17) ?_
        exact k)
      obtain ⟨fs, hr, hrun, hended, hW, hsame⟩ := X0.leave (v := some (.int (9 : Int32))) (fun h => by rw [Bd.returns] at h; cases h)
      refine ⟨_, _, ks6 _ ?_, hrun, hended, _, _, rfl, ?_, ⟨_, rfl⟩, hW, hsame.mono (by decide) (by decide)⟩
      · exact retN X0 hx (t := .byte) Bd.returns (by simp) (hb hby d1_19) hr
      · show Q1 Z p0 h0 n0 _ s₁.heap _
        rw [e0]
        refine ⟨?_, N0, rfl⟩
        rw [own_draw, if_neg hc2, if_pos hc5]
    · skip
      have ks7 : own_R p e below (s₁.setTop (entryFrame m #[(.int p0)] 2)) (s₁.setTop (mkF m 22 #[.val (.int p0), .val (.int (p0 &&& (7 : Int32)))] [(.int (2 : Int32)), (.int (p0 &&& (7 : Int32)))])) := fun t k => ks4 t (by
        show Steps p.tables e below (s₁.setTop (mkF m 14 #[.val (.int p0), .val (.int (p0 &&& (7 : Int32)))] [(.int (1 : Int32)), (.int (p0 &&& (7 : Int32)))])) _
        refine XS.icmpYes X0.here hx rfl (pc0 := 14) (pc' := 20) rfl (hb hby d1_14) rfl (feq hc5).2 (by decide) (by decide) ?_
        show Steps p.tables e below (s₁.setTop (mkF m 20 #[.val (.int p0), .val (.int (p0 &&& (7 : Int32)))] [])) _
        refine XS.iloadN X0.here hx rfl (hb hby d1_20) rfl ?_
        show Steps p.tables e below (s₁.setTop (mkF m 21 #[.val (.int p0), .val (.int (p0 &&& (7 : Int32)))] [(.int (p0 &&& (7 : Int32)))])) _
        refine XS.iconst X0.here hx rfl (hb hby d1_21) ?_
        exact k)
      by_cases hc8 : (p0 &&& (7 : Int32)) = (2 : Int32)
      · skip
        have ks9 : own_R p e below (s₁.setTop (entryFrame m #[(.int p0)] 2)) (s₁.setTop (mkF m 27 #[.val (.int p0), .val (.int (p0 &&& (7 : Int32)))] [(.int (13 : Int32))])) := fun t k => ks7 t (by
          show Steps p.tables e below (s₁.setTop (mkF m 22 #[.val (.int p0), .val (.int (p0 &&& (7 : Int32)))] [(.int (2 : Int32)), (.int (p0 &&& (7 : Int32)))])) _
          refine XS.icmpNo X0.here hx rfl (hb hby d1_22) rfl (teq hc8).2 ?_
          show Steps p.tables e below (s₁.setTop (mkF m 25 #[.val (.int p0), .val (.int (p0 &&& (7 : Int32)))] [])) _
          refine XS.bipush X0.here hx rfl (hb hby d1_25) ?_
          exact k)
        obtain ⟨fs, hr, hrun, hended, hW, hsame⟩ := X0.leave (v := some (.int (13 : Int32))) (fun h => by rw [Bd.returns] at h; cases h)
        refine ⟨_, _, ks9 _ ?_, hrun, hended, _, _, rfl, ?_, ⟨_, rfl⟩, hW, hsame.mono (by decide) (by decide)⟩
        · exact retN X0 hx (t := .byte) Bd.returns (by simp) (hb hby d1_27) hr
        · show Q1 Z p0 h0 n0 _ s₁.heap _
          rw [e0]
          refine ⟨?_, N0, rfl⟩
          rw [own_draw, if_neg hc2, if_neg hc5, if_pos hc8]
      · skip
        have ks10 : own_R p e below (s₁.setTop (entryFrame m #[(.int p0)] 2)) (s₁.setTop (mkF m 30 #[.val (.int p0), .val (.int (p0 &&& (7 : Int32)))] [(.int (3 : Int32)), (.int (p0 &&& (7 : Int32)))])) := fun t k => ks7 t (by
          show Steps p.tables e below (s₁.setTop (mkF m 22 #[.val (.int p0), .val (.int (p0 &&& (7 : Int32)))] [(.int (2 : Int32)), (.int (p0 &&& (7 : Int32)))])) _
          refine XS.icmpYes X0.here hx rfl (pc0 := 22) (pc' := 28) rfl (hb hby d1_22) rfl (feq hc8).2 (by decide) (by decide) ?_
          show Steps p.tables e below (s₁.setTop (mkF m 28 #[.val (.int p0), .val (.int (p0 &&& (7 : Int32)))] [])) _
          refine XS.iloadN X0.here hx rfl (hb hby d1_28) rfl ?_
          show Steps p.tables e below (s₁.setTop (mkF m 29 #[.val (.int p0), .val (.int (p0 &&& (7 : Int32)))] [(.int (p0 &&& (7 : Int32)))])) _
          refine XS.iconst X0.here hx rfl (hb hby d1_29) ?_
          exact k)
        by_cases hc11 : (p0 &&& (7 : Int32)) = (3 : Int32)
        · skip
          have ks12 : own_R p e below (s₁.setTop (entryFrame m #[(.int p0)] 2)) (s₁.setTop (mkF m 35 #[.val (.int p0), .val (.int (p0 &&& (7 : Int32)))] [(.int (10 : Int32))])) := fun t k => ks10 t (by
            show Steps p.tables e below (s₁.setTop (mkF m 30 #[.val (.int p0), .val (.int (p0 &&& (7 : Int32)))] [(.int (3 : Int32)), (.int (p0 &&& (7 : Int32)))])) _
            refine XS.icmpNo X0.here hx rfl (hb hby d1_30) rfl (teq hc11).2 ?_
            show Steps p.tables e below (s₁.setTop (mkF m 33 #[.val (.int p0), .val (.int (p0 &&& (7 : Int32)))] [])) _
            refine XS.bipush X0.here hx rfl (hb hby d1_33) ?_
            exact k)
          obtain ⟨fs, hr, hrun, hended, hW, hsame⟩ := X0.leave (v := some (.int (10 : Int32))) (fun h => by rw [Bd.returns] at h; cases h)
          refine ⟨_, _, ks12 _ ?_, hrun, hended, _, _, rfl, ?_, ⟨_, rfl⟩, hW, hsame.mono (by decide) (by decide)⟩
          · exact retN X0 hx (t := .byte) Bd.returns (by simp) (hb hby d1_35) hr
          · show Q1 Z p0 h0 n0 _ s₁.heap _
            rw [e0]
            refine ⟨?_, N0, rfl⟩
            rw [own_draw, if_neg hc2, if_neg hc5, if_neg hc8, if_pos hc11]
        · skip
          have ks13 : own_R p e below (s₁.setTop (entryFrame m #[(.int p0)] 2)) (s₁.setTop (mkF m 40 #[.val (.int p0), .val (.int (p0 &&& (7 : Int32)))] [(.int ((p0 >>> ((3 : Int32) &&& 31)).toInt8.toInt32))])) := fun t k => ks10 t (by
            show Steps p.tables e below (s₁.setTop (mkF m 30 #[.val (.int p0), .val (.int (p0 &&& (7 : Int32)))] [(.int (3 : Int32)), (.int (p0 &&& (7 : Int32)))])) _
            refine XS.icmpYes X0.here hx rfl (pc0 := 30) (pc' := 36) rfl (hb hby d1_30) rfl (feq hc11).2 (by decide) (by decide) ?_
            show Steps p.tables e below (s₁.setTop (mkF m 36 #[.val (.int p0), .val (.int (p0 &&& (7 : Int32)))] [])) _
            refine XS.iloadN X0.here hx rfl (hb hby d1_36) rfl ?_
            show Steps p.tables e below (s₁.setTop (mkF m 37 #[.val (.int p0), .val (.int (p0 &&& (7 : Int32)))] [(.int p0)])) _
            refine XS.iconst X0.here hx rfl (hb hby d1_37) ?_
            show Steps p.tables e below (s₁.setTop (mkF m 38 #[.val (.int p0), .val (.int (p0 &&& (7 : Int32)))] [(.int (3 : Int32)), (.int p0)])) _
            refine XS.ishr X0.here hx rfl (hb hby d1_38) rfl ?_
            show Steps p.tables e below (s₁.setTop (mkF m 39 #[.val (.int p0), .val (.int (p0 &&& (7 : Int32)))] [(.int (p0 >>> ((3 : Int32) &&& 31)))])) _
            refine XS.i2b X0.here hx rfl (hb hby d1_39) rfl ?_
            exact k)
          obtain ⟨fs, hr, hrun, hended, hW, hsame⟩ := X0.leave (v := some (.int ((p0 >>> ((3 : Int32) &&& 31)).toInt8.toInt32))) (fun h => by rw [Bd.returns] at h; cases h)
          refine ⟨_, _, ks13 _ ?_, hrun, hended, _, _, rfl, ?_, ⟨_, rfl⟩, hW, hsame.mono (by decide) (by decide)⟩
          · exact retOut X0 hx Bd.returns (own_nb _) (Or.inl ⟨rfl, by simp, _, rfl⟩) (hb hby d1_40) hr
          · show Q1 Z p0 h0 n0 _ s₁.heap _
            rw [e0]
            refine ⟨?_, N0, rfl⟩
            rw [own_draw, if_neg hc2, if_neg hc5, if_neg hc8, if_neg hc11]
def own_ws (p0 : Int32) : Int32 := (if p0 = (32 : Int32) then (1 : Int32) else (if p0 = (9 : Int32) then (1 : Int32) else (if p0 = (13 : Int32) then (1 : Int32) else (if p0 = (10 : Int32) then (1 : Int32) else (0 : Int32)))))
theorem d2_0 : decode method_3_code 0 = .ok (.iload_n 0, 1) := by decide +kernel
theorem d2_1 : decode method_3_code 1 = .ok (.bipush 32, 2) := by decide +kernel
theorem d2_3 : decode method_3_code 3 = .ok (.if_icmp .eq 21, 3) := by decide +kernel
theorem d2_6 : decode method_3_code 6 = .ok (.iload_n 0, 1) := by decide +kernel
theorem d2_7 : decode method_3_code 7 = .ok (.bipush 9, 2) := by decide +kernel
theorem d2_9 : decode method_3_code 9 = .ok (.if_icmp .eq 15, 3) := by decide +kernel
theorem d2_12 : decode method_3_code 12 = .ok (.iload_n 0, 1) := by decide +kernel
theorem d2_13 : decode method_3_code 13 = .ok (.bipush 13, 2) := by decide +kernel
theorem d2_15 : decode method_3_code 15 = .ok (.if_icmp .eq 9, 3) := by decide +kernel
theorem d2_18 : decode method_3_code 18 = .ok (.iload_n 0, 1) := by decide +kernel
theorem d2_19 : decode method_3_code 19 = .ok (.bipush 10, 2) := by decide +kernel
theorem d2_21 : decode method_3_code 21 = .ok (.if_icmp .ne 7, 3) := by decide +kernel
theorem d2_24 : decode method_3_code 24 = .ok (.iconst 1, 1) := by decide +kernel
theorem d2_25 : decode method_3_code 25 = .ok (.goto 4, 3) := by decide +kernel
theorem d2_28 : decode method_3_code 28 = .ok (.iconst 0, 1) := by decide +kernel
theorem d2_29 : decode method_3_code 29 = .ok (.ireturn, 1) := by decide +kernel
theorem pn_2 : plainName "com/example/rackline/rackline/protocols/ssc/MessageReaderIsBlankPinLaw" = true := by first | (simp [plainName, overriddenIn]; done) | decide +kernel
theorem ef_2 (m : MethodId) (x0 : Int32) : entryFrame m #[(.int x0)] 1 = mkF m 0 #[.val (.int x0)] [] := by first | (simp [entryFrame, mkF, argsToLocals, Value.category]; done) | rfl
def Q2 (Z : State) (p0 : Int32) (h0 : Heap) (n0 : Nat) (v : Option Value) (h : Heap) (L : List Loc) : Prop := v = some (.int (own_ws p0)) ∧ Fr n0 L ∧ h = h0
set_option maxRecDepth 65536 in
set_option maxHeartbeats 40000000 in
theorem rm2 (l : Launch) (Z : State) (a0 : Array Value) (hw : ∀ d ∈ tables_1, d.before a0 Z = true) (ws : List Jvm.Cond) (p0 : Int32) (h0 : Heap) (n0 : Nat) (Z0 : n0 ≤ h0.size) :
    MetFree l (⟨"com/example/rackline/rackline/protocols/ssc/MessageReaderIsBlankPinLaw", "ws", "(B)Z"⟩ : MethodName) (head1 (Jvm.Cond.code (⟨"com/example/rackline/rackline/protocols/ssc/MessageReaderIsBlankPinLaw", "ws", "(B)Z"⟩ : MethodName) method_3_code 1 (some .boolean) :: ws) ({ frames := 0, cells := 0, slots := 0, locals := 0 } : Room)) (fun a U => a = #[(.int p0)] ∧ Z.Warmed39 U.vm ∧ U.heap = h0) (fun _ _ _ _ _ => True) (fun _ U o U' => ∃ v L, o = .returned v ∧ Q2 Z p0 h0 n0 v U'.heap L ∧ FrameEnd U o U' L ({ frames := 0, cells := 0, slots := 0, locals := 0 } : Room).cells ({ frames := 0, cells := 0, slots := 0, locals := 0 } : Room).slots) := by
  refine MetFree.of_bodySF (plainFor_of_name pn_2) hisR ?_
  intro p e s m args below meth c s₁ Bd hml0 hP hK
  obtain ⟨rfl, hZ, hh⟩ := hP
  have hx := Bd.exec
  have hby := Bd.bytes
  have hml : c.maxLocals = 1 := hml0
  have hown : s.vm.findClass "com/example/rackline/rackline/protocols/ssc/MessageReaderIsBlankPinLaw" = some m.cls := findClass_of_methodNamed Bd.named
  have hnm := (name_of_methodNamed Bd.named Bd.method).1
  have X0 : Stand p l e ({ frames := 0, cells := 0, slots := 0, locals := 0 } : Room) s m #[(.int p0)] below meth c s₁ [] 0 0 := Stand.of_body Bd
  have e0 : s₁.heap = h0 := by rw [← hh, Bd.state]; rfl
  have N0 := Fr.nil n0
  have k0 : own_R p e below (s₁.setTop (entryFrame m #[(.int p0)] 1)) (s₁.setTop (mkF m 0 #[.val (.int p0)] [])) := fun t k => castTop (ef_2 m p0) k
  have ks1 : own_R p e below (s₁.setTop (entryFrame m #[(.int p0)] 1)) (s₁.setTop (mkF m 3 #[.val (.int p0)] [(.int (32 : Int32)), (.int p0)])) := fun t k => k0 t (by
    show Steps p.tables e below (s₁.setTop (mkF m 0 #[.val (.int p0)] [])) _
    refine XS.iloadN X0.here hx rfl (hb hby d2_0) rfl ?_
    show Steps p.tables e below (s₁.setTop (mkF m 1 #[.val (.int p0)] [(.int p0)])) _
    refine XS.bipush X0.here hx rfl (hb hby d2_1) ?_
    exact k)
  by_cases hc2 : p0 = (32 : Int32)
  · skip
    have ks3 : own_R p e below (s₁.setTop (entryFrame m #[(.int p0)] 1)) (s₁.setTop (mkF m 29 #[.val (.int p0)] [(.int (1 : Int32))])) := fun t k => ks1 t (by
      show Steps p.tables e below (s₁.setTop (mkF m 3 #[.val (.int p0)] [(.int (32 : Int32)), (.int p0)])) _
      refine XS.icmpYes X0.here hx rfl (pc0 := 3) (pc' := 24) rfl (hb hby d2_3) rfl (teq hc2).1 (by decide) (by decide) ?_
      show Steps p.tables e below (s₁.setTop (mkF m 24 #[.val (.int p0)] [])) _
      refine XS.iconst X0.here hx rfl (hb hby d2_24) ?_
      show Steps p.tables e below (s₁.setTop (mkF m 25 #[.val (.int p0)] [(.int (1 : Int32))])) _
      refine XS.goto X0.here hx rfl (pc0 := 25) (pc' := 29) rfl (hb hby d2_25) (by decide) (by decide) ?_
      exact k)
    obtain ⟨fs, hr, hrun, hended, hW, hsame⟩ := X0.leave (v := some (.int (1 : Int32))) (fun h => by rw [Bd.returns] at h; cases h)
    refine ⟨_, _, ks3 _ ?_, hrun, hended, _, _, rfl, ?_, ⟨_, rfl⟩, hW, hsame.mono (by decide) (by decide)⟩
    · exact retN X0 hx (t := .boolean) Bd.returns (by simp) (hb hby d2_29) hr
    · show Q2 Z p0 h0 n0 _ s₁.heap _
      rw [e0]
      refine ⟨?_, N0, rfl⟩
      rw [own_ws, if_pos hc2]
  · skip
    have ks4 : own_R p e below (s₁.setTop (entryFrame m #[(.int p0)] 1)) (s₁.setTop (mkF m 9 #[.val (.int p0)] [(.int (9 : Int32)), (.int p0)])) := fun t k => ks1 t (by
      show Steps p.tables e below (s₁.setTop (mkF m 3 #[.val (.int p0)] [(.int (32 : Int32)), (.int p0)])) _
      refine XS.icmpNo X0.here hx rfl (hb hby d2_3) rfl (feq hc2).1 ?_
      show Steps p.tables e below (s₁.setTop (mkF m 6 #[.val (.int p0)] [])) _
      refine XS.iloadN X0.here hx rfl (hb hby d2_6) rfl ?_
      show Steps p.tables e below (s₁.setTop (mkF m 7 #[.val (.int p0)] [(.int p0)])) _
      refine XS.bipush X0.here hx rfl (hb hby d2_7) ?_
      exact k)
    by_cases hc5 : p0 = (9 : Int32)
    · skip
      have ks6 : own_R p e below (s₁.setTop (entryFrame m #[(.int p0)] 1)) (s₁.setTop (mkF m 29 #[.val (.int p0)] [(.int (1 : Int32))])) := fun t k => ks4 t (by
        show Steps p.tables e below (s₁.setTop (mkF m 9 #[.val (.int p0)] [(.int (9 : Int32)), (.int p0)])) _
        refine XS.icmpYes X0.here hx rfl (pc0 := 9) (pc' := 24) rfl (hb hby d2_9) rfl (teq hc5).1 (by decide) (by decide) ?_
        show Steps p.tables e below (s₁.setTop (mkF m 24 #[.val (.int p0)] [])) _
        refine XS.iconst X0.here hx rfl (hb hby d2_24) ?_
        show Steps p.tables e below (s₁.setTop (mkF m 25 #[.val (.int p0)] [(.int (1 : Int32))])) _
        refine XS.goto X0.here hx rfl (pc0 := 25) (pc' := 29) rfl (hb hby d2_25) (by decide) (by decide) ?_
        exact k)
      obtain ⟨fs, hr, hrun, hended, hW, hsame⟩ := X0.leave (v := some (.int (1 : Int32))) (fun h => by rw [Bd.returns] at h; cases h)
      refine ⟨_, _, ks6 _ ?_, hrun, hended, _, _, rfl, ?_, ⟨_, rfl⟩, hW, hsame.mono (by decide) (by decide)⟩
      · exact retN X0 hx (t := .boolean) Bd.returns (by simp) (hb hby d2_29) hr
      · show Q2 Z p0 h0 n0 _ s₁.heap _
        rw [e0]
        refine ⟨?_, N0, rfl⟩
        rw [own_ws, if_neg hc2, if_pos hc5]
    · skip
      have ks7 : own_R p e below (s₁.setTop (entryFrame m #[(.int p0)] 1)) (s₁.setTop (mkF m 15 #[.val (.int p0)] [(.int (13 : Int32)), (.int p0)])) := fun t k => ks4 t (by
        show Steps p.tables e below (s₁.setTop (mkF m 9 #[.val (.int p0)] [(.int (9 : Int32)), (.int p0)])) _
        refine XS.icmpNo X0.here hx rfl (hb hby d2_9) rfl (feq hc5).1 ?_
        show Steps p.tables e below (s₁.setTop (mkF m 12 #[.val (.int p0)] [])) _
        refine XS.iloadN X0.here hx rfl (hb hby d2_12) rfl ?_
        show Steps p.tables e below (s₁.setTop (mkF m 13 #[.val (.int p0)] [(.int p0)])) _
        refine XS.bipush X0.here hx rfl (hb hby d2_13) ?_
        exact k)
      by_cases hc8 : p0 = (13 : Int32)
      · skip
        have ks9 : own_R p e below (s₁.setTop (entryFrame m #[(.int p0)] 1)) (s₁.setTop (mkF m 29 #[.val (.int p0)] [(.int (1 : Int32))])) := fun t k => ks7 t (by
          show Steps p.tables e below (s₁.setTop (mkF m 15 #[.val (.int p0)] [(.int (13 : Int32)), (.int p0)])) _
          refine XS.icmpYes X0.here hx rfl (pc0 := 15) (pc' := 24) rfl (hb hby d2_15) rfl (teq hc8).1 (by decide) (by decide) ?_
          show Steps p.tables e below (s₁.setTop (mkF m 24 #[.val (.int p0)] [])) _
          refine XS.iconst X0.here hx rfl (hb hby d2_24) ?_
          show Steps p.tables e below (s₁.setTop (mkF m 25 #[.val (.int p0)] [(.int (1 : Int32))])) _
          refine XS.goto X0.here hx rfl (pc0 := 25) (pc' := 29) rfl (hb hby d2_25) (by decide) (by decide) ?_
          exact k)
        obtain ⟨fs, hr, hrun, hended, hW, hsame⟩ := X0.leave (v := some (.int (1 : Int32))) (fun h => by rw [Bd.returns] at h; cases h)
        refine ⟨_, _, ks9 _ ?_, hrun, hended, _, _, rfl, ?_, ⟨_, rfl⟩, hW, hsame.mono (by decide) (by decide)⟩
        · exact retN X0 hx (t := .boolean) Bd.returns (by simp) (hb hby d2_29) hr
        · show Q2 Z p0 h0 n0 _ s₁.heap _
          rw [e0]
          refine ⟨?_, N0, rfl⟩
          rw [own_ws, if_neg hc2, if_neg hc5, if_pos hc8]
      · skip
        have ks10 : own_R p e below (s₁.setTop (entryFrame m #[(.int p0)] 1)) (s₁.setTop (mkF m 21 #[.val (.int p0)] [(.int (10 : Int32)), (.int p0)])) := fun t k => ks7 t (by
          show Steps p.tables e below (s₁.setTop (mkF m 15 #[.val (.int p0)] [(.int (13 : Int32)), (.int p0)])) _
          refine XS.icmpNo X0.here hx rfl (hb hby d2_15) rfl (feq hc8).1 ?_
          show Steps p.tables e below (s₁.setTop (mkF m 18 #[.val (.int p0)] [])) _
          refine XS.iloadN X0.here hx rfl (hb hby d2_18) rfl ?_
          show Steps p.tables e below (s₁.setTop (mkF m 19 #[.val (.int p0)] [(.int p0)])) _
          refine XS.bipush X0.here hx rfl (hb hby d2_19) ?_
          exact k)
        by_cases hc11 : p0 = (10 : Int32)
        · skip
          have ks12 : own_R p e below (s₁.setTop (entryFrame m #[(.int p0)] 1)) (s₁.setTop (mkF m 29 #[.val (.int p0)] [(.int (1 : Int32))])) := fun t k => ks10 t (by
            show Steps p.tables e below (s₁.setTop (mkF m 21 #[.val (.int p0)] [(.int (10 : Int32)), (.int p0)])) _
            refine XS.icmpNo X0.here hx rfl (hb hby d2_21) rfl (teq hc11).2 ?_
            show Steps p.tables e below (s₁.setTop (mkF m 24 #[.val (.int p0)] [])) _
            refine XS.iconst X0.here hx rfl (hb hby d2_24) ?_
            show Steps p.tables e below (s₁.setTop (mkF m 25 #[.val (.int p0)] [(.int (1 : Int32))])) _
            refine XS.goto X0.here hx rfl (pc0 := 25) (pc' := 29) rfl (hb hby d2_25) (by decide) (by decide) ?_
            exact k)
          obtain ⟨fs, hr, hrun, hended, hW, hsame⟩ := X0.leave (v := some (.int (1 : Int32))) (fun h => by rw [Bd.returns] at h; cases h)
          refine ⟨_, _, ks12 _ ?_, hrun, hended, _, _, rfl, ?_, ⟨_, rfl⟩, hW, hsame.mono (by decide) (by decide)⟩
          · exact retN X0 hx (t := .boolean) Bd.returns (by simp) (hb hby d2_29) hr
          · show Q2 Z p0 h0 n0 _ s₁.heap _
            rw [e0]
            refine ⟨?_, N0, rfl⟩
            rw [own_ws, if_neg hc2, if_neg hc5, if_neg hc8, if_pos hc11]
        · skip
          have ks13 : own_R p e below (s₁.setTop (entryFrame m #[(.int p0)] 1)) (s₁.setTop (mkF m 29 #[.val (.int p0)] [(.int (0 : Int32))])) := fun t k => ks10 t (by
            show Steps p.tables e below (s₁.setTop (mkF m 21 #[.val (.int p0)] [(.int (10 : Int32)), (.int p0)])) _
            refine XS.icmpYes X0.here hx rfl (pc0 := 21) (pc' := 28) rfl (hb hby d2_21) rfl (feq hc11).2 (by decide) (by decide) ?_
            show Steps p.tables e below (s₁.setTop (mkF m 28 #[.val (.int p0)] [])) _
            refine XS.iconst X0.here hx rfl (hb hby d2_28) ?_
            exact k)
          obtain ⟨fs, hr, hrun, hended, hW, hsame⟩ := X0.leave (v := some (.int (0 : Int32))) (fun h => by rw [Bd.returns] at h; cases h)
          refine ⟨_, _, ks13 _ ?_, hrun, hended, _, _, rfl, ?_, ⟨_, rfl⟩, hW, hsame.mono (by decide) (by decide)⟩
          · exact retN X0 hx (t := .boolean) Bd.returns (by simp) (hb hby d2_29) hr
          · show Q2 Z p0 h0 n0 _ s₁.heap _
            rw [e0]
            refine ⟨?_, N0, rfl⟩
            rw [own_ws, if_neg hc2, if_neg hc5, if_neg hc8, if_neg hc11]
def own_blank (y0 y1 y2 y3 y4 : Int32) (p1 : Int32) : Int32 := (if (0 : Int32) < p1 then (if (if y0 = (32 : Int32) then (0 : Int32) else (if y0 = (9 : Int32) then (0 : Int32) else (if y0 = (13 : Int32) then (0 : Int32) else (if y0 = (10 : Int32) then (0 : Int32) else (1 : Int32))))) = (0 : Int32) then (if (1 : Int32) < p1 then (if (if y1 = (32 : Int32) then (0 : Int32) else (if y1 = (9 : Int32) then (0 : Int32) else (if y1 = (13 : Int32) then (0 : Int32) else (if y1 = (10 : Int32) then (0 : Int32) else (1 : Int32))))) = (0 : Int32) then (if (2 : Int32) < p1 then (if (if y2 = (32 : Int32) then (0 : Int32) else (if y2 = (9 : Int32) then (0 : Int32) else (if y2 = (13 : Int32) then (0 : Int32) else (if y2 = (10 : Int32) then (0 : Int32) else (1 : Int32))))) = (0 : Int32) then (if (3 : Int32) < p1 then (if (if y3 = (32 : Int32) then (0 : Int32) else (if y3 = (9 : Int32) then (0 : Int32) else (if y3 = (13 : Int32) then (0 : Int32) else (if y3 = (10 : Int32) then (0 : Int32) else (1 : Int32))))) = (0 : Int32) then (if (4 : Int32) < p1 then (if (if y4 = (32 : Int32) then (0 : Int32) else (if y4 = (9 : Int32) then (0 : Int32) else (if y4 = (13 : Int32) then (0 : Int32) else (if y4 = (10 : Int32) then (0 : Int32) else (1 : Int32))))) = (0 : Int32) then (if (5 : Int32) < p1 then (0 : Int32) else (1 : Int32)) else (0 : Int32)) else (1 : Int32)) else (0 : Int32)) else (1 : Int32)) else (0 : Int32)) else (1 : Int32)) else (0 : Int32)) else (1 : Int32)) else (0 : Int32)) else (1 : Int32))
theorem d3_0 : decode prog_24_method_4_code 0 = .ok (.iconst 0, 1) := by decide +kernel
theorem d3_1 : decode prog_24_method_4_code 1 = .ok (.istore_n 2, 1) := by decide +kernel
theorem d3_2 : decode prog_24_method_4_code 2 = .ok (.iload_n 2, 1) := by decide +kernel
theorem d3_3 : decode prog_24_method_4_code 3 = .ok (.iload_n 1, 1) := by decide +kernel
theorem d3_4 : decode prog_24_method_4_code 4 = .ok (.if_icmp .ge 43, 3) := by decide +kernel
theorem d3_7 : decode prog_24_method_4_code 7 = .ok (.aload_n 0, 1) := by decide +kernel
theorem d3_8 : decode prog_24_method_4_code 8 = .ok (.iload_n 2, 1) := by decide +kernel
theorem d3_9 : decode prog_24_method_4_code 9 = .ok (.baload, 1) := by decide +kernel
theorem d3_10 : decode prog_24_method_4_code 10 = .ok (.bipush 32, 2) := by decide +kernel
theorem d3_12 : decode prog_24_method_4_code 12 = .ok (.if_icmp .eq 29, 3) := by decide +kernel
theorem d3_15 : decode prog_24_method_4_code 15 = .ok (.aload_n 0, 1) := by decide +kernel
theorem d3_16 : decode prog_24_method_4_code 16 = .ok (.iload_n 2, 1) := by decide +kernel
theorem d3_17 : decode prog_24_method_4_code 17 = .ok (.baload, 1) := by decide +kernel
theorem d3_18 : decode prog_24_method_4_code 18 = .ok (.bipush 9, 2) := by decide +kernel
theorem d3_20 : decode prog_24_method_4_code 20 = .ok (.if_icmp .eq 21, 3) := by decide +kernel
theorem d3_23 : decode prog_24_method_4_code 23 = .ok (.aload_n 0, 1) := by decide +kernel
theorem d3_24 : decode prog_24_method_4_code 24 = .ok (.iload_n 2, 1) := by decide +kernel
theorem d3_25 : decode prog_24_method_4_code 25 = .ok (.baload, 1) := by decide +kernel
theorem d3_26 : decode prog_24_method_4_code 26 = .ok (.bipush 13, 2) := by decide +kernel
theorem d3_28 : decode prog_24_method_4_code 28 = .ok (.if_icmp .eq 13, 3) := by decide +kernel
theorem d3_31 : decode prog_24_method_4_code 31 = .ok (.aload_n 0, 1) := by decide +kernel
theorem d3_32 : decode prog_24_method_4_code 32 = .ok (.iload_n 2, 1) := by decide +kernel
theorem d3_33 : decode prog_24_method_4_code 33 = .ok (.baload, 1) := by decide +kernel
theorem d3_34 : decode prog_24_method_4_code 34 = .ok (.bipush 10, 2) := by decide +kernel
theorem d3_36 : decode prog_24_method_4_code 36 = .ok (.if_icmp .eq 5, 3) := by decide +kernel
theorem d3_39 : decode prog_24_method_4_code 39 = .ok (.iconst 0, 1) := by decide +kernel
theorem d3_40 : decode prog_24_method_4_code 40 = .ok (.ireturn, 1) := by decide +kernel
theorem d3_41 : decode prog_24_method_4_code 41 = .ok (.iinc 2 1, 3) := by decide +kernel
theorem d3_44 : decode prog_24_method_4_code 44 = .ok (.goto (-42), 3) := by decide +kernel
theorem d3_47 : decode prog_24_method_4_code 47 = .ok (.iconst 1, 1) := by decide +kernel
theorem d3_48 : decode prog_24_method_4_code 48 = .ok (.ireturn, 1) := by decide +kernel
theorem pn_3 : plainName "com/example/rackline/rackline/protocols/ssc/MessageReader" = true := by first | (simp [plainName, overriddenIn]; done) | decide +kernel
theorem ef_3 (m : MethodId) (x0 : Addr) (x1 : Int32) : entryFrame m #[(.ref x0), (.int x1)] 3 = mkF m 0 #[.val (.ref x0), .val (.int x1), .unset] [] := by first | (simp [entryFrame, mkF, argsToLocals, Value.category]; done) | rfl
def Q3 (Z : State) (r0 : Addr) (p1 : Int32) (k1 : ClassId) (y0 : Int32) (y1 : Int32) (y2 : Int32) (y3 : Int32) (y4 : Int32) (h0 : Heap) (n0 : Nat) (v : Option Value) (h : Heap) (L : List Loc) : Prop := v = some (.int (own_blank y0 y1 y2 y3 y4 p1)) ∧ Fr n0 L ∧ h = h0
set_option maxRecDepth 65536 in
set_option maxHeartbeats 40000000 in
theorem rm3 (l : Launch) (Z : State) (a0 : Array Value) (hw : ∀ d ∈ tables_1, d.before a0 Z = true) (ws : List Jvm.Cond) (r0 : Addr) (p1 : Int32) (k1 : ClassId) (y0 : Int32) (y1 : Int32) (y2 : Int32) (y3 : Int32) (y4 : Int32) (h0 : Heap) (n0 : Nat) (Z0 : n0 ≤ h0.size) (hp : ¬ (5 : Int32) < p1) (V0 : Arv Z h0 r0 k1 .byte (5 : Int32) [.int y0, .int y1, .int y2, .int y3, .int y4] (.int (0 : Int32))) :
    MetFree l (⟨"com/example/rackline/rackline/protocols/ssc/MessageReader", "isBlank", "([BI)Z"⟩ : MethodName) (head1 (Jvm.Cond.code (⟨"com/example/rackline/rackline/protocols/ssc/MessageReader", "isBlank", "([BI)Z"⟩ : MethodName) prog_24_method_4_code 3 (some .boolean) :: ws) ({ frames := 0, cells := 0, slots := 0, locals := 0 } : Room)) (fun a U => a = #[(.ref r0), (.int p1)] ∧ Z.Warmed39 U.vm ∧ U.heap = h0) (fun _ _ _ _ _ => True) (fun _ U o U' => ∃ v L, o = .returned v ∧ Q3 Z r0 p1 k1 y0 y1 y2 y3 y4 h0 n0 v U'.heap L ∧ FrameEnd U o U' L ({ frames := 0, cells := 0, slots := 0, locals := 0 } : Room).cells ({ frames := 0, cells := 0, slots := 0, locals := 0 } : Room).slots) := by
  refine MetFree.of_bodySF (plainFor_of_name pn_3) hisR ?_
  intro p e s m args below meth c s₁ Bd hml0 hP hK
  obtain ⟨rfl, hZ, hh⟩ := hP
  have hx := Bd.exec
  have hby := Bd.bytes
  have hml : c.maxLocals = 3 := hml0
  have hown : s.vm.findClass "com/example/rackline/rackline/protocols/ssc/MessageReader" = some m.cls := findClass_of_methodNamed Bd.named
  have hnm := (name_of_methodNamed Bd.named Bd.method).1
  have X0 : Stand p l e ({ frames := 0, cells := 0, slots := 0, locals := 0 } : Room) s m #[(.ref r0), (.int p1)] below meth c s₁ [] 0 0 := Stand.of_body Bd
  have e0 : s₁.heap = h0 := by rw [← hh, Bd.state]; rfl
  have N0 := Fr.nil n0
  have k0 : own_R p e below (s₁.setTop (entryFrame m #[(.ref r0), (.int p1)] 3)) (s₁.setTop (mkF m 0 #[.val (.ref r0), .val (.int p1), .unset] [])) := fun t k => castTop (ef_3 m r0 p1) k
  obtain ⟨cl1, Ar1, qa1, S1, Na1, Ha1, Ga1⟩ := id V0
  have ks2 : own_R p e below (s₁.setTop (entryFrame m #[(.ref r0), (.int p1)] 3)) (s₁.setTop (mkF m 4 #[.val (.ref r0), .val (.int p1), .val (.int (0 : Int32))] [(.int p1), (.int (0 : Int32))])) := fun t k => k0 t (by
    show Steps p.tables e below (s₁.setTop (mkF m 0 #[.val (.ref r0), .val (.int p1), .unset] [])) _
    refine XS.iconst X0.here hx rfl (hb hby d3_0) ?_
    show Steps p.tables e below (s₁.setTop (mkF m 1 #[.val (.ref r0), .val (.int p1), .unset] [(.int (0 : Int32))])) _
    refine XS.istoreN X0.here hx rfl (hb hby d3_1) rfl (l' := #[.val (.ref r0), .val (.int p1), .val (.int (0 : Int32))]) rfl ?_
    show Steps p.tables e below (s₁.setTop (mkF m 2 #[.val (.ref r0), .val (.int p1), .val (.int (0 : Int32))] [])) _
    refine XS.iloadN X0.here hx rfl (hb hby d3_2) rfl ?_
    show Steps p.tables e below (s₁.setTop (mkF m 3 #[.val (.ref r0), .val (.int p1), .val (.int (0 : Int32))] [(.int (0 : Int32))])) _
    refine XS.iloadN X0.here hx rfl (hb hby d3_3) rfl ?_
    exact k)
  by_cases hc3 : (0 : Int32) < p1
  · skip
    have ks4 : own_R p e below (s₁.setTop (entryFrame m #[(.ref r0), (.int p1)] 3)) (s₁.setTop (mkF m 12 #[.val (.ref r0), .val (.int p1), .val (.int (0 : Int32))] [(.int (32 : Int32)), (.int y0)])) := fun t k => ks2 t (by
      show Steps p.tables e below (s₁.setTop (mkF m 4 #[.val (.ref r0), .val (.int p1), .val (.int (0 : Int32))] [(.int p1), (.int (0 : Int32))])) _
      refine XS.icmpNo X0.here hx rfl (hb hby d3_4) rfl (tlt hc3).2.1 ?_
      show Steps p.tables e below (s₁.setTop (mkF m 7 #[.val (.ref r0), .val (.int p1), .val (.int (0 : Int32))] [])) _
      refine XS.aloadN X0.here hx rfl (hb hby d3_7) rfl rfl ?_
      show Steps p.tables e below (s₁.setTop (mkF m 8 #[.val (.ref r0), .val (.int p1), .val (.int (0 : Int32))] [(.ref r0)])) _
      refine XS.iloadN X0.here hx rfl (hb hby d3_8) rfl ?_
      show Steps p.tables e below (s₁.setTop (mkF m 9 #[.val (.ref r0), .val (.int p1), .val (.int (0 : Int32))] [(.int (0 : Int32)), (.ref r0)])) _
      refine X0.baloadBytes hx (j := (0 : Int32)) (v := (.int y0)) (by rw [e0]; exact Ar1.1) (State.isArrayOf_alike hZ.alike Ar1.2.1) Ar1.2.2 (inb_of S1 ⟨by decide, by decide⟩) (Has.at Ha1 (inb_of S1 ⟨by decide, by decide⟩) rfl) (g := (mkF m 9 #[.val (.ref r0), .val (.int p1), .val (.int (0 : Int32))] [(.int (0 : Int32)), (.ref r0)])) rfl rfl (hb hby d3_9) _ ?_
      show Steps p.tables e below (s₁.setTop (mkF m 10 #[.val (.ref r0), .val (.int p1), .val (.int (0 : Int32))] [(.int y0)])) _
      refine XS.bipush X0.here hx rfl (hb hby d3_10) ?_
      exact k)
    obtain ⟨v9, hv9⟩ : ∃ z : Int32, z = (if y0 = (32 : Int32) then (0 : Int32) else (if y0 = (9 : Int32) then (0 : Int32) else (if y0 = (13 : Int32) then (0 : Int32) else (if y0 = (10 : Int32) then (0 : Int32) else (1 : Int32))))) := ⟨_, rfl⟩
    by_cases hc10 : v9 = (0 : Int32)
    · skip
      have ks11 : own_R p e below (s₁.setTop (entryFrame m #[(.ref r0), (.int p1)] 3)) (s₁.setTop (mkF m 41 #[.val (.ref r0), .val (.int p1), .val (.int (0 : Int32))] [])) := fun t k => ks4 t (by
        by_cases hc5 : y0 = (32 : Int32)
        · skip
          show Steps p.tables e below (s₁.setTop (mkF m 12 #[.val (.ref r0), .val (.int p1), .val (.int (0 : Int32))] [(.int (32 : Int32)), (.int y0)])) _
          refine XS.icmpYes X0.here hx rfl (pc0 := 12) (pc' := 41) rfl (hb hby d3_12) rfl (teq hc5).1 (by decide) (by decide) ?_
          exact k
        · skip
          show Steps p.tables e below (s₁.setTop (mkF m 12 #[.val (.ref r0), .val (.int p1), .val (.int (0 : Int32))] [(.int (32 : Int32)), (.int y0)])) _
          refine XS.icmpNo X0.here hx rfl (hb hby d3_12) rfl (feq hc5).1 ?_
          show Steps p.tables e below (s₁.setTop (mkF m 15 #[.val (.ref r0), .val (.int p1), .val (.int (0 : Int32))] [])) _
          refine XS.aloadN X0.here hx rfl (hb hby d3_15) rfl rfl ?_
          show Steps p.tables e below (s₁.setTop (mkF m 16 #[.val (.ref r0), .val (.int p1), .val (.int (0 : Int32))] [(.ref r0)])) _
          refine XS.iloadN X0.here hx rfl (hb hby d3_16) rfl ?_
          show Steps p.tables e below (s₁.setTop (mkF m 17 #[.val (.ref r0), .val (.int p1), .val (.int (0 : Int32))] [(.int (0 : Int32)), (.ref r0)])) _
          refine X0.baloadBytes hx (j := (0 : Int32)) (v := (.int y0)) (by rw [e0]; exact Ar1.1) (State.isArrayOf_alike hZ.alike Ar1.2.1) Ar1.2.2 (inb_of S1 ⟨by decide, by decide⟩) (Has.at Ha1 (inb_of S1 ⟨by decide, by decide⟩) rfl) (g := (mkF m 17 #[.val (.ref r0), .val (.int p1), .val (.int (0 : Int32))] [(.int (0 : Int32)), (.ref r0)])) rfl rfl (hb hby d3_17) _ ?_
          show Steps p.tables e below (s₁.setTop (mkF m 18 #[.val (.ref r0), .val (.int p1), .val (.int (0 : Int32))] [(.int y0)])) _
          refine XS.bipush X0.here hx rfl (hb hby d3_18) ?_
          by_cases hc6 : y0 = (9 : Int32)
          · skip
            show Steps p.tables e below (s₁.setTop (mkF m 20 #[.val (.ref r0), .val (.int p1), .val (.int (0 : Int32))] [(.int (9 : Int32)), (.int y0)])) _
            refine XS.icmpYes X0.here hx rfl (pc0 := 20) (pc' := 41) rfl (hb hby d3_20) rfl (teq hc6).1 (by decide) (by decide) ?_
            exact k
          · skip
            show Steps p.tables e below (s₁.setTop (mkF m 20 #[.val (.ref r0), .val (.int p1), .val (.int (0 : Int32))] [(.int (9 : Int32)), (.int y0)])) _
            refine XS.icmpNo X0.here hx rfl (hb hby d3_20) rfl (feq hc6).1 ?_
            show Steps p.tables e below (s₁.setTop (mkF m 23 #[.val (.ref r0), .val (.int p1), .val (.int (0 : Int32))] [])) _
            refine XS.aloadN X0.here hx rfl (hb hby d3_23) rfl rfl ?_
            show Steps p.tables e below (s₁.setTop (mkF m 24 #[.val (.ref r0), .val (.int p1), .val (.int (0 : Int32))] [(.ref r0)])) _
            refine XS.iloadN X0.here hx rfl (hb hby d3_24) rfl ?_
            show Steps p.tables e below (s₁.setTop (mkF m 25 #[.val (.ref r0), .val (.int p1), .val (.int (0 : Int32))] [(.int (0 : Int32)), (.ref r0)])) _
            refine X0.baloadBytes hx (j := (0 : Int32)) (v := (.int y0)) (by rw [e0]; exact Ar1.1) (State.isArrayOf_alike hZ.alike Ar1.2.1) Ar1.2.2 (inb_of S1 ⟨by decide, by decide⟩) (Has.at Ha1 (inb_of S1 ⟨by decide, by decide⟩) rfl) (g := (mkF m 25 #[.val (.ref r0), .val (.int p1), .val (.int (0 : Int32))] [(.int (0 : Int32)), (.ref r0)])) rfl rfl (hb hby d3_25) _ ?_
            show Steps p.tables e below (s₁.setTop (mkF m 26 #[.val (.ref r0), .val (.int p1), .val (.int (0 : Int32))] [(.int y0)])) _
            refine XS.bipush X0.here hx rfl (hb hby d3_26) ?_
            by_cases hc7 : y0 = (13 : Int32)
            · skip
              show Steps p.tables e below (s₁.setTop (mkF m 28 #[.val (.ref r0), .val (.int p1), .val (.int (0 : Int32))] [(.int (13 : Int32)), (.int y0)])) _
              refine XS.icmpYes X0.here hx rfl (pc0 := 28) (pc' := 41) rfl (hb hby d3_28) rfl (teq hc7).1 (by decide) (by decide) ?_
              exact k
            · skip
              show Steps p.tables e below (s₁.setTop (mkF m 28 #[.val (.ref r0), .val (.int p1), .val (.int (0 : Int32))] [(.int (13 : Int32)), (.int y0)])) _
              refine XS.icmpNo X0.here hx rfl (hb hby d3_28) rfl (feq hc7).1 ?_
              show Steps p.tables e below (s₁.setTop (mkF m 31 #[.val (.ref r0), .val (.int p1), .val (.int (0 : Int32))] [])) _
              refine XS.aloadN X0.here hx rfl (hb hby d3_31) rfl rfl ?_
              show Steps p.tables e below (s₁.setTop (mkF m 32 #[.val (.ref r0), .val (.int p1), .val (.int (0 : Int32))] [(.ref r0)])) _
              refine XS.iloadN X0.here hx rfl (hb hby d3_32) rfl ?_
              show Steps p.tables e below (s₁.setTop (mkF m 33 #[.val (.ref r0), .val (.int p1), .val (.int (0 : Int32))] [(.int (0 : Int32)), (.ref r0)])) _
              refine X0.baloadBytes hx (j := (0 : Int32)) (v := (.int y0)) (by rw [e0]; exact Ar1.1) (State.isArrayOf_alike hZ.alike Ar1.2.1) Ar1.2.2 (inb_of S1 ⟨by decide, by decide⟩) (Has.at Ha1 (inb_of S1 ⟨by decide, by decide⟩) rfl) (g := (mkF m 33 #[.val (.ref r0), .val (.int p1), .val (.int (0 : Int32))] [(.int (0 : Int32)), (.ref r0)])) rfl rfl (hb hby d3_33) _ ?_
              show Steps p.tables e below (s₁.setTop (mkF m 34 #[.val (.ref r0), .val (.int p1), .val (.int (0 : Int32))] [(.int y0)])) _
              refine XS.bipush X0.here hx rfl (hb hby d3_34) ?_
              by_cases hc8 : y0 = (10 : Int32)
              · skip
                show Steps p.tables e below (s₁.setTop (mkF m 36 #[.val (.ref r0), .val (.int p1), .val (.int (0 : Int32))] [(.int (10 : Int32)), (.int y0)])) _
                refine XS.icmpYes X0.here hx rfl (pc0 := 36) (pc' := 41) rfl (hb hby d3_36) rfl (teq hc8).1 (by decide) (by decide) ?_
                exact k
              · skip
                have qq12 : v9 = (1 : Int32) := by rw [hv9, if_neg hc5, if_neg hc6, if_neg hc7, if_neg hc8]
                exact absurd (qq12.symm.trans hc10) (by decide))
      have ks13 : own_R p e below (s₁.setTop (entryFrame m #[(.ref r0), (.int p1)] 3)) (s₁.setTop (mkF m 4 #[.val (.ref r0), .val (.int p1), .val (.int (1 : Int32))] [(.int p1), (.int (1 : Int32))])) := fun t k => ks11 t (by
        show Steps p.tables e below (s₁.setTop (mkF m 41 #[.val (.ref r0), .val (.int p1), .val (.int (0 : Int32))] [])) _
        refine XS.iinc X0.here hx rfl (hb hby d3_41) rfl (l' := #[.val (.ref r0), .val (.int p1), .val (.int (1 : Int32))]) rfl ?_
        show Steps p.tables e below (s₁.setTop (mkF m 44 #[.val (.ref r0), .val (.int p1), .val (.int (1 : Int32))] [])) _
        refine XS.goto X0.here hx rfl (pc0 := 44) (pc' := 2) rfl (hb hby d3_44) (by decide) (by decide) ?_
        show Steps p.tables e below (s₁.setTop (mkF m 2 #[.val (.ref r0), .val (.int p1), .val (.int (1 : Int32))] [])) _
        refine XS.iloadN X0.here hx rfl (hb hby d3_2) rfl ?_
        show Steps p.tables e below (s₁.setTop (mkF m 3 #[.val (.ref r0), .val (.int p1), .val (.int (1 : Int32))] [(.int (1 : Int32))])) _
        refine XS.iloadN X0.here hx rfl (hb hby d3_3) rfl ?_
        exact k)
      by_cases hc14 : (1 : Int32) < p1
      · skip
        have ks15 : own_R p e below (s₁.setTop (entryFrame m #[(.ref r0), (.int p1)] 3)) (s₁.setTop (mkF m 12 #[.val (.ref r0), .val (.int p1), .val (.int (1 : Int32))] [(.int (32 : Int32)), (.int y1)])) := fun t k => ks13 t (by
          show Steps p.tables e below (s₁.setTop (mkF m 4 #[.val (.ref r0), .val (.int p1), .val (.int (1 : Int32))] [(.int p1), (.int (1 : Int32))])) _
          refine XS.icmpNo X0.here hx rfl (hb hby d3_4) rfl (tlt hc14).2.1 ?_
          show Steps p.tables e below (s₁.setTop (mkF m 7 #[.val (.ref r0), .val (.int p1), .val (.int (1 : Int32))] [])) _
          refine XS.aloadN X0.here hx rfl (hb hby d3_7) rfl rfl ?_
          show Steps p.tables e below (s₁.setTop (mkF m 8 #[.val (.ref r0), .val (.int p1), .val (.int (1 : Int32))] [(.ref r0)])) _
          refine XS.iloadN X0.here hx rfl (hb hby d3_8) rfl ?_
          show Steps p.tables e below (s₁.setTop (mkF m 9 #[.val (.ref r0), .val (.int p1), .val (.int (1 : Int32))] [(.int (1 : Int32)), (.ref r0)])) _
          refine X0.baloadBytes hx (j := (1 : Int32)) (v := (.int y1)) (by rw [e0]; exact Ar1.1) (State.isArrayOf_alike hZ.alike Ar1.2.1) Ar1.2.2 (inb_of S1 ⟨by decide, by decide⟩) (Has.at Ha1 (inb_of S1 ⟨by decide, by decide⟩) rfl) (g := (mkF m 9 #[.val (.ref r0), .val (.int p1), .val (.int (1 : Int32))] [(.int (1 : Int32)), (.ref r0)])) rfl rfl (hb hby d3_9) _ ?_
          show Steps p.tables e below (s₁.setTop (mkF m 10 #[.val (.ref r0), .val (.int p1), .val (.int (1 : Int32))] [(.int y1)])) _
          refine XS.bipush X0.here hx rfl (hb hby d3_10) ?_
          exact k)
        obtain ⟨v20, hv20⟩ : ∃ z : Int32, z = (if y1 = (32 : Int32) then (0 : Int32) else (if y1 = (9 : Int32) then (0 : Int32) else (if y1 = (13 : Int32) then (0 : Int32) else (if y1 = (10 : Int32) then (0 : Int32) else (1 : Int32))))) := ⟨_, rfl⟩
        by_cases hc21 : v20 = (0 : Int32)
        · skip
          have ks22 : own_R p e below (s₁.setTop (entryFrame m #[(.ref r0), (.int p1)] 3)) (s₁.setTop (mkF m 41 #[.val (.ref r0), .val (.int p1), .val (.int (1 : Int32))] [])) := fun t k => ks15 t (by
            by_cases hc16 : y1 = (32 : Int32)
            · skip
              show Steps p.tables e below (s₁.setTop (mkF m 12 #[.val (.ref r0), .val (.int p1), .val (.int (1 : Int32))] [(.int (32 : Int32)), (.int y1)])) _
              refine XS.icmpYes X0.here hx rfl (pc0 := 12) (pc' := 41) rfl (hb hby d3_12) rfl (teq hc16).1 (by decide) (by decide) ?_
              exact k
            · skip
              show Steps p.tables e below (s₁.setTop (mkF m 12 #[.val (.ref r0), .val (.int p1), .val (.int (1 : Int32))] [(.int (32 : Int32)), (.int y1)])) _
              refine XS.icmpNo X0.here hx rfl (hb hby d3_12) rfl (feq hc16).1 ?_
              show Steps p.tables e below (s₁.setTop (mkF m 15 #[.val (.ref r0), .val (.int p1), .val (.int (1 : Int32))] [])) _
              refine XS.aloadN X0.here hx rfl (hb hby d3_15) rfl rfl ?_
              show Steps p.tables e below (s₁.setTop (mkF m 16 #[.val (.ref r0), .val (.int p1), .val (.int (1 : Int32))] [(.ref r0)])) _
              refine XS.iloadN X0.here hx rfl (hb hby d3_16) rfl ?_
              show Steps p.tables e below (s₁.setTop (mkF m 17 #[.val (.ref r0), .val (.int p1), .val (.int (1 : Int32))] [(.int (1 : Int32)), (.ref r0)])) _
              refine X0.baloadBytes hx (j := (1 : Int32)) (v := (.int y1)) (by rw [e0]; exact Ar1.1) (State.isArrayOf_alike hZ.alike Ar1.2.1) Ar1.2.2 (inb_of S1 ⟨by decide, by decide⟩) (Has.at Ha1 (inb_of S1 ⟨by decide, by decide⟩) rfl) (g := (mkF m 17 #[.val (.ref r0), .val (.int p1), .val (.int (1 : Int32))] [(.int (1 : Int32)), (.ref r0)])) rfl rfl (hb hby d3_17) _ ?_
              show Steps p.tables e below (s₁.setTop (mkF m 18 #[.val (.ref r0), .val (.int p1), .val (.int (1 : Int32))] [(.int y1)])) _
              refine XS.bipush X0.here hx rfl (hb hby d3_18) ?_
              by_cases hc17 : y1 = (9 : Int32)
              · skip
                show Steps p.tables e below (s₁.setTop (mkF m 20 #[.val (.ref r0), .val (.int p1), .val (.int (1 : Int32))] [(.int (9 : Int32)), (.int y1)])) _
                refine XS.icmpYes X0.here hx rfl (pc0 := 20) (pc' := 41) rfl (hb hby d3_20) rfl (teq hc17).1 (by decide) (by decide) ?_
                exact k
              · skip
                show Steps p.tables e below (s₁.setTop (mkF m 20 #[.val (.ref r0), .val (.int p1), .val (.int (1 : Int32))] [(.int (9 : Int32)), (.int y1)])) _
                refine XS.icmpNo X0.here hx rfl (hb hby d3_20) rfl (feq hc17).1 ?_
                show Steps p.tables e below (s₁.setTop (mkF m 23 #[.val (.ref r0), .val (.int p1), .val (.int (1 : Int32))] [])) _
                refine XS.aloadN X0.here hx rfl (hb hby d3_23) rfl rfl ?_
                show Steps p.tables e below (s₁.setTop (mkF m 24 #[.val (.ref r0), .val (.int p1), .val (.int (1 : Int32))] [(.ref r0)])) _
                refine XS.iloadN X0.here hx rfl (hb hby d3_24) rfl ?_
                show Steps p.tables e below (s₁.setTop (mkF m 25 #[.val (.ref r0), .val (.int p1), .val (.int (1 : Int32))] [(.int (1 : Int32)), (.ref r0)])) _
                refine X0.baloadBytes hx (j := (1 : Int32)) (v := (.int y1)) (by rw [e0]; exact Ar1.1) (State.isArrayOf_alike hZ.alike Ar1.2.1) Ar1.2.2 (inb_of S1 ⟨by decide, by decide⟩) (Has.at Ha1 (inb_of S1 ⟨by decide, by decide⟩) rfl) (g := (mkF m 25 #[.val (.ref r0), .val (.int p1), .val (.int (1 : Int32))] [(.int (1 : Int32)), (.ref r0)])) rfl rfl (hb hby d3_25) _ ?_
                show Steps p.tables e below (s₁.setTop (mkF m 26 #[.val (.ref r0), .val (.int p1), .val (.int (1 : Int32))] [(.int y1)])) _
                refine XS.bipush X0.here hx rfl (hb hby d3_26) ?_
                by_cases hc18 : y1 = (13 : Int32)
                · skip
                  show Steps p.tables e below (s₁.setTop (mkF m 28 #[.val (.ref r0), .val (.int p1), .val (.int (1 : Int32))] [(.int (13 : Int32)), (.int y1)])) _
                  refine XS.icmpYes X0.here hx rfl (pc0 := 28) (pc' := 41) rfl (hb hby d3_28) rfl (teq hc18).1 (by decide) (by decide) ?_
                  exact k
                · skip
                  show Steps p.tables e below (s₁.setTop (mkF m 28 #[.val (.ref r0), .val (.int p1), .val (.int (1 : Int32))] [(.int (13 : Int32)), (.int y1)])) _
                  refine XS.icmpNo X0.here hx rfl (hb hby d3_28) rfl (feq hc18).1 ?_
                  show Steps p.tables e below (s₁.setTop (mkF m 31 #[.val (.ref r0), .val (.int p1), .val (.int (1 : Int32))] [])) _
                  refine XS.aloadN X0.here hx rfl (hb hby d3_31) rfl rfl ?_
                  show Steps p.tables e below (s₁.setTop (mkF m 32 #[.val (.ref r0), .val (.int p1), .val (.int (1 : Int32))] [(.ref r0)])) _
                  refine XS.iloadN X0.here hx rfl (hb hby d3_32) rfl ?_
                  show Steps p.tables e below (s₁.setTop (mkF m 33 #[.val (.ref r0), .val (.int p1), .val (.int (1 : Int32))] [(.int (1 : Int32)), (.ref r0)])) _
                  refine X0.baloadBytes hx (j := (1 : Int32)) (v := (.int y1)) (by rw [e0]; exact Ar1.1) (State.isArrayOf_alike hZ.alike Ar1.2.1) Ar1.2.2 (inb_of S1 ⟨by decide, by decide⟩) (Has.at Ha1 (inb_of S1 ⟨by decide, by decide⟩) rfl) (g := (mkF m 33 #[.val (.ref r0), .val (.int p1), .val (.int (1 : Int32))] [(.int (1 : Int32)), (.ref r0)])) rfl rfl (hb hby d3_33) _ ?_
                  show Steps p.tables e below (s₁.setTop (mkF m 34 #[.val (.ref r0), .val (.int p1), .val (.int (1 : Int32))] [(.int y1)])) _
                  refine XS.bipush X0.here hx rfl (hb hby d3_34) ?_
                  by_cases hc19 : y1 = (10 : Int32)
                  · skip
                    show Steps p.tables e below (s₁.setTop (mkF m 36 #[.val (.ref r0), .val (.int p1), .val (.int (1 : Int32))] [(.int (10 : Int32)), (.int y1)])) _
                    refine XS.icmpYes X0.here hx rfl (pc0 := 36) (pc' := 41) rfl (hb hby d3_36) rfl (teq hc19).1 (by decide) (by decide) ?_
                    exact k
                  · skip
                    have qq23 : v20 = (1 : Int32) := by rw [hv20, if_neg hc16, if_neg hc17, if_neg hc18, if_neg hc19]
                    exact absurd (qq23.symm.trans hc21) (by decide))
          have ks24 : own_R p e below (s₁.setTop (entryFrame m #[(.ref r0), (.int p1)] 3)) (s₁.setTop (mkF m 4 #[.val (.ref r0), .val (.int p1), .val (.int (2 : Int32))] [(.int p1), (.int (2 : Int32))])) := fun t k => ks22 t (by
            show Steps p.tables e below (s₁.setTop (mkF m 41 #[.val (.ref r0), .val (.int p1), .val (.int (1 : Int32))] [])) _
            refine XS.iinc X0.here hx rfl (hb hby d3_41) rfl (l' := #[.val (.ref r0), .val (.int p1), .val (.int (2 : Int32))]) rfl ?_
            show Steps p.tables e below (s₁.setTop (mkF m 44 #[.val (.ref r0), .val (.int p1), .val (.int (2 : Int32))] [])) _
            refine XS.goto X0.here hx rfl (pc0 := 44) (pc' := 2) rfl (hb hby d3_44) (by decide) (by decide) ?_
            show Steps p.tables e below (s₁.setTop (mkF m 2 #[.val (.ref r0), .val (.int p1), .val (.int (2 : Int32))] [])) _
            refine XS.iloadN X0.here hx rfl (hb hby d3_2) rfl ?_
            show Steps p.tables e below (s₁.setTop (mkF m 3 #[.val (.ref r0), .val (.int p1), .val (.int (2 : Int32))] [(.int (2 : Int32))])) _
            refine XS.iloadN X0.here hx rfl (hb hby d3_3) rfl ?_
            exact k)
          by_cases hc25 : (2 : Int32) < p1
          · skip
            have ks26 : own_R p e below (s₁.setTop (entryFrame m #[(.ref r0), (.int p1)] 3)) (s₁.setTop (mkF m 12 #[.val (.ref r0), .val (.int p1), .val (.int (2 : Int32))] [(.int (32 : Int32)), (.int y2)])) := fun t k => ks24 t (by
              show Steps p.tables e below (s₁.setTop (mkF m 4 #[.val (.ref r0), .val (.int p1), .val (.int (2 : Int32))] [(.int p1), (.int (2 : Int32))])) _
              refine XS.icmpNo X0.here hx rfl (hb hby d3_4) rfl (tlt hc25).2.1 ?_
              show Steps p.tables e below (s₁.setTop (mkF m 7 #[.val (.ref r0), .val (.int p1), .val (.int (2 : Int32))] [])) _
              refine XS.aloadN X0.here hx rfl (hb hby d3_7) rfl rfl ?_
              show Steps p.tables e below (s₁.setTop (mkF m 8 #[.val (.ref r0), .val (.int p1), .val (.int (2 : Int32))] [(.ref r0)])) _
              refine XS.iloadN X0.here hx rfl (hb hby d3_8) rfl ?_
              show Steps p.tables e below (s₁.setTop (mkF m 9 #[.val (.ref r0), .val (.int p1), .val (.int (2 : Int32))] [(.int (2 : Int32)), (.ref r0)])) _
              refine X0.baloadBytes hx (j := (2 : Int32)) (v := (.int y2)) (by rw [e0]; exact Ar1.1) (State.isArrayOf_alike hZ.alike Ar1.2.1) Ar1.2.2 (inb_of S1 ⟨by decide, by decide⟩) (Has.at Ha1 (inb_of S1 ⟨by decide, by decide⟩) rfl) (g := (mkF m 9 #[.val (.ref r0), .val (.int p1), .val (.int (2 : Int32))] [(.int (2 : Int32)), (.ref r0)])) rfl rfl (hb hby d3_9) _ ?_
              show Steps p.tables e below (s₁.setTop (mkF m 10 #[.val (.ref r0), .val (.int p1), .val (.int (2 : Int32))] [(.int y2)])) _
              refine XS.bipush X0.here hx rfl (hb hby d3_10) ?_
              exact k)
            obtain ⟨v31, hv31⟩ : ∃ z : Int32, z = (if y2 = (32 : Int32) then (0 : Int32) else (if y2 = (9 : Int32) then (0 : Int32) else (if y2 = (13 : Int32) then (0 : Int32) else (if y2 = (10 : Int32) then (0 : Int32) else (1 : Int32))))) := ⟨_, rfl⟩
            by_cases hc32 : v31 = (0 : Int32)
            · skip
              have ks33 : own_R p e below (s₁.setTop (entryFrame m #[(.ref r0), (.int p1)] 3)) (s₁.setTop (mkF m 41 #[.val (.ref r0), .val (.int p1), .val (.int (2 : Int32))] [])) := fun t k => ks26 t (by
                by_cases hc27 : y2 = (32 : Int32)
                · skip
                  show Steps p.tables e below (s₁.setTop (mkF m 12 #[.val (.ref r0), .val (.int p1), .val (.int (2 : Int32))] [(.int (32 : Int32)), (.int y2)])) _
                  refine XS.icmpYes X0.here hx rfl (pc0 := 12) (pc' := 41) rfl (hb hby d3_12) rfl (teq hc27).1 (by decide) (by decide) ?_
                  exact k
                · skip
                  show Steps p.tables e below (s₁.setTop (mkF m 12 #[.val (.ref r0), .val (.int p1), .val (.int (2 : Int32))] [(.int (32 : Int32)), (.int y2)])) _
                  refine XS.icmpNo X0.here hx rfl (hb hby d3_12) rfl (feq hc27).1 ?_
                  show Steps p.tables e below (s₁.setTop (mkF m 15 #[.val (.ref r0), .val (.int p1), .val (.int (2 : Int32))] [])) _
                  refine XS.aloadN X0.here hx rfl (hb hby d3_15) rfl rfl ?_
                  show Steps p.tables e below (s₁.setTop (mkF m 16 #[.val (.ref r0), .val (.int p1), .val (.int (2 : Int32))] [(.ref r0)])) _
                  refine XS.iloadN X0.here hx rfl (hb hby d3_16) rfl ?_
                  show Steps p.tables e below (s₁.setTop (mkF m 17 #[.val (.ref r0), .val (.int p1), .val (.int (2 : Int32))] [(.int (2 : Int32)), (.ref r0)])) _
                  refine X0.baloadBytes hx (j := (2 : Int32)) (v := (.int y2)) (by rw [e0]; exact Ar1.1) (State.isArrayOf_alike hZ.alike Ar1.2.1) Ar1.2.2 (inb_of S1 ⟨by decide, by decide⟩) (Has.at Ha1 (inb_of S1 ⟨by decide, by decide⟩) rfl) (g := (mkF m 17 #[.val (.ref r0), .val (.int p1), .val (.int (2 : Int32))] [(.int (2 : Int32)), (.ref r0)])) rfl rfl (hb hby d3_17) _ ?_
                  show Steps p.tables e below (s₁.setTop (mkF m 18 #[.val (.ref r0), .val (.int p1), .val (.int (2 : Int32))] [(.int y2)])) _
                  refine XS.bipush X0.here hx rfl (hb hby d3_18) ?_
                  by_cases hc28 : y2 = (9 : Int32)
                  · skip
                    show Steps p.tables e below (s₁.setTop (mkF m 20 #[.val (.ref r0), .val (.int p1), .val (.int (2 : Int32))] [(.int (9 : Int32)), (.int y2)])) _
                    refine XS.icmpYes X0.here hx rfl (pc0 := 20) (pc' := 41) rfl (hb hby d3_20) rfl (teq hc28).1 (by decide) (by decide) ?_
                    exact k
                  · skip
                    show Steps p.tables e below (s₁.setTop (mkF m 20 #[.val (.ref r0), .val (.int p1), .val (.int (2 : Int32))] [(.int (9 : Int32)), (.int y2)])) _
                    refine XS.icmpNo X0.here hx rfl (hb hby d3_20) rfl (feq hc28).1 ?_
                    show Steps p.tables e below (s₁.setTop (mkF m 23 #[.val (.ref r0), .val (.int p1), .val (.int (2 : Int32))] [])) _
                    refine XS.aloadN X0.here hx rfl (hb hby d3_23) rfl rfl ?_
                    show Steps p.tables e below (s₁.setTop (mkF m 24 #[.val (.ref r0), .val (.int p1), .val (.int (2 : Int32))] [(.ref r0)])) _
                    refine XS.iloadN X0.here hx rfl (hb hby d3_24) rfl ?_
                    show Steps p.tables e below (s₁.setTop (mkF m 25 #[.val (.ref r0), .val (.int p1), .val (.int (2 : Int32))] [(.int (2 : Int32)), (.ref r0)])) _
                    refine X0.baloadBytes hx (j := (2 : Int32)) (v := (.int y2)) (by rw [e0]; exact Ar1.1) (State.isArrayOf_alike hZ.alike Ar1.2.1) Ar1.2.2 (inb_of S1 ⟨by decide, by decide⟩) (Has.at Ha1 (inb_of S1 ⟨by decide, by decide⟩) rfl) (g := (mkF m 25 #[.val (.ref r0), .val (.int p1), .val (.int (2 : Int32))] [(.int (2 : Int32)), (.ref r0)])) rfl rfl (hb hby d3_25) _ ?_
                    show Steps p.tables e below (s₁.setTop (mkF m 26 #[.val (.ref r0), .val (.int p1), .val (.int (2 : Int32))] [(.int y2)])) _
                    refine XS.bipush X0.here hx rfl (hb hby d3_26) ?_
                    by_cases hc29 : y2 = (13 : Int32)
                    · skip
                      show Steps p.tables e below (s₁.setTop (mkF m 28 #[.val (.ref r0), .val (.int p1), .val (.int (2 : Int32))] [(.int (13 : Int32)), (.int y2)])) _
                      refine XS.icmpYes X0.here hx rfl (pc0 := 28) (pc' := 41) rfl (hb hby d3_28) rfl (teq hc29).1 (by decide) (by decide) ?_
                      exact k
                    · skip
                      show Steps p.tables e below (s₁.setTop (mkF m 28 #[.val (.ref r0), .val (.int p1), .val (.int (2 : Int32))] [(.int (13 : Int32)), (.int y2)])) _
                      refine XS.icmpNo X0.here hx rfl (hb hby d3_28) rfl (feq hc29).1 ?_
                      show Steps p.tables e below (s₁.setTop (mkF m 31 #[.val (.ref r0), .val (.int p1), .val (.int (2 : Int32))] [])) _
                      refine XS.aloadN X0.here hx rfl (hb hby d3_31) rfl rfl ?_
                      show Steps p.tables e below (s₁.setTop (mkF m 32 #[.val (.ref r0), .val (.int p1), .val (.int (2 : Int32))] [(.ref r0)])) _
                      refine XS.iloadN X0.here hx rfl (hb hby d3_32) rfl ?_
                      show Steps p.tables e below (s₁.setTop (mkF m 33 #[.val (.ref r0), .val (.int p1), .val (.int (2 : Int32))] [(.int (2 : Int32)), (.ref r0)])) _
                      refine X0.baloadBytes hx (j := (2 : Int32)) (v := (.int y2)) (by rw [e0]; exact Ar1.1) (State.isArrayOf_alike hZ.alike Ar1.2.1) Ar1.2.2 (inb_of S1 ⟨by decide, by decide⟩) (Has.at Ha1 (inb_of S1 ⟨by decide, by decide⟩) rfl) (g := (mkF m 33 #[.val (.ref r0), .val (.int p1), .val (.int (2 : Int32))] [(.int (2 : Int32)), (.ref r0)])) rfl rfl (hb hby d3_33) _ ?_
                      show Steps p.tables e below (s₁.setTop (mkF m 34 #[.val (.ref r0), .val (.int p1), .val (.int (2 : Int32))] [(.int y2)])) _
                      refine XS.bipush X0.here hx rfl (hb hby d3_34) ?_
                      by_cases hc30 : y2 = (10 : Int32)
                      · skip
                        show Steps p.tables e below (s₁.setTop (mkF m 36 #[.val (.ref r0), .val (.int p1), .val (.int (2 : Int32))] [(.int (10 : Int32)), (.int y2)])) _
                        refine XS.icmpYes X0.here hx rfl (pc0 := 36) (pc' := 41) rfl (hb hby d3_36) rfl (teq hc30).1 (by decide) (by decide) ?_
                        exact k
                      · skip
                        have qq34 : v31 = (1 : Int32) := by rw [hv31, if_neg hc27, if_neg hc28, if_neg hc29, if_neg hc30]
                        exact absurd (qq34.symm.trans hc32) (by decide))
              have ks35 : own_R p e below (s₁.setTop (entryFrame m #[(.ref r0), (.int p1)] 3)) (s₁.setTop (mkF m 4 #[.val (.ref r0), .val (.int p1), .val (.int (3 : Int32))] [(.int p1), (.int (3 : Int32))])) := fun t k => ks33 t (by
                show Steps p.tables e below (s₁.setTop (mkF m 41 #[.val (.ref r0), .val (.int p1), .val (.int (2 : Int32))] [])) _
                refine XS.iinc X0.here hx rfl (hb hby d3_41) rfl (l' := #[.val (.ref r0), .val (.int p1), .val (.int (3 : Int32))]) rfl ?_
                show Steps p.tables e below (s₁.setTop (mkF m 44 #[.val (.ref r0), .val (.int p1), .val (.int (3 : Int32))] [])) _
                refine XS.goto X0.here hx rfl (pc0 := 44) (pc' := 2) rfl (hb hby d3_44) (by decide) (by decide) ?_
                show Steps p.tables e below (s₁.setTop (mkF m 2 #[.val (.ref r0), .val (.int p1), .val (.int (3 : Int32))] [])) _
                refine XS.iloadN X0.here hx rfl (hb hby d3_2) rfl ?_
                show Steps p.tables e below (s₁.setTop (mkF m 3 #[.val (.ref r0), .val (.int p1), .val (.int (3 : Int32))] [(.int (3 : Int32))])) _
                refine XS.iloadN X0.here hx rfl (hb hby d3_3) rfl ?_
                exact k)
              by_cases hc36 : (3 : Int32) < p1
              · skip
                have ks37 : own_R p e below (s₁.setTop (entryFrame m #[(.ref r0), (.int p1)] 3)) (s₁.setTop (mkF m 12 #[.val (.ref r0), .val (.int p1), .val (.int (3 : Int32))] [(.int (32 : Int32)), (.int y3)])) := fun t k => ks35 t (by
                  show Steps p.tables e below (s₁.setTop (mkF m 4 #[.val (.ref r0), .val (.int p1), .val (.int (3 : Int32))] [(.int p1), (.int (3 : Int32))])) _
                  refine XS.icmpNo X0.here hx rfl (hb hby d3_4) rfl (tlt hc36).2.1 ?_
                  show Steps p.tables e below (s₁.setTop (mkF m 7 #[.val (.ref r0), .val (.int p1), .val (.int (3 : Int32))] [])) _
                  refine XS.aloadN X0.here hx rfl (hb hby d3_7) rfl rfl ?_
                  show Steps p.tables e below (s₁.setTop (mkF m 8 #[.val (.ref r0), .val (.int p1), .val (.int (3 : Int32))] [(.ref r0)])) _
                  refine XS.iloadN X0.here hx rfl (hb hby d3_8) rfl ?_
                  show Steps p.tables e below (s₁.setTop (mkF m 9 #[.val (.ref r0), .val (.int p1), .val (.int (3 : Int32))] [(.int (3 : Int32)), (.ref r0)])) _
                  refine X0.baloadBytes hx (j := (3 : Int32)) (v := (.int y3)) (by rw [e0]; exact Ar1.1) (State.isArrayOf_alike hZ.alike Ar1.2.1) Ar1.2.2 (inb_of S1 ⟨by decide, by decide⟩) (Has.at Ha1 (inb_of S1 ⟨by decide, by decide⟩) rfl) (g := (mkF m 9 #[.val (.ref r0), .val (.int p1), .val (.int (3 : Int32))] [(.int (3 : Int32)), (.ref r0)])) rfl rfl (hb hby d3_9) _ ?_
                  show Steps p.tables e below (s₁.setTop (mkF m 10 #[.val (.ref r0), .val (.int p1), .val (.int (3 : Int32))] [(.int y3)])) _
                  refine XS.bipush X0.here hx rfl (hb hby d3_10) ?_
                  exact k)
                obtain ⟨v42, hv42⟩ : ∃ z : Int32, z = (if y3 = (32 : Int32) then (0 : Int32) else (if y3 = (9 : Int32) then (0 : Int32) else (if y3 = (13 : Int32) then (0 : Int32) else (if y3 = (10 : Int32) then (0 : Int32) else (1 : Int32))))) := ⟨_, rfl⟩
                by_cases hc43 : v42 = (0 : Int32)
                · skip
                  have ks44 : own_R p e below (s₁.setTop (entryFrame m #[(.ref r0), (.int p1)] 3)) (s₁.setTop (mkF m 41 #[.val (.ref r0), .val (.int p1), .val (.int (3 : Int32))] [])) := fun t k => ks37 t (by
                    by_cases hc38 : y3 = (32 : Int32)
                    · skip
                      show Steps p.tables e below (s₁.setTop (mkF m 12 #[.val (.ref r0), .val (.int p1), .val (.int (3 : Int32))] [(.int (32 : Int32)), (.int y3)])) _
                      refine XS.icmpYes X0.here hx rfl (pc0 := 12) (pc' := 41) rfl (hb hby d3_12) rfl (teq hc38).1 (by decide) (by decide) ?_
                      exact k
                    · skip
                      show Steps p.tables e below (s₁.setTop (mkF m 12 #[.val (.ref r0), .val (.int p1), .val (.int (3 : Int32))] [(.int (32 : Int32)), (.int y3)])) _
                      refine XS.icmpNo X0.here hx rfl (hb hby d3_12) rfl (feq hc38).1 ?_
                      show Steps p.tables e below (s₁.setTop (mkF m 15 #[.val (.ref r0), .val (.int p1), .val (.int (3 : Int32))] [])) _
                      refine XS.aloadN X0.here hx rfl (hb hby d3_15) rfl rfl ?_
                      show Steps p.tables e below (s₁.setTop (mkF m 16 #[.val (.ref r0), .val (.int p1), .val (.int (3 : Int32))] [(.ref r0)])) _
                      refine XS.iloadN X0.here hx rfl (hb hby d3_16) rfl ?_
                      show Steps p.tables e below (s₁.setTop (mkF m 17 #[.val (.ref r0), .val (.int p1), .val (.int (3 : Int32))] [(.int (3 : Int32)), (.ref r0)])) _
                      refine X0.baloadBytes hx (j := (3 : Int32)) (v := (.int y3)) (by rw [e0]; exact Ar1.1) (State.isArrayOf_alike hZ.alike Ar1.2.1) Ar1.2.2 (inb_of S1 ⟨by decide, by decide⟩) (Has.at Ha1 (inb_of S1 ⟨by decide, by decide⟩) rfl) (g := (mkF m 17 #[.val (.ref r0), .val (.int p1), .val (.int (3 : Int32))] [(.int (3 : Int32)), (.ref r0)])) rfl rfl (hb hby d3_17) _ ?_
                      show Steps p.tables e below (s₁.setTop (mkF m 18 #[.val (.ref r0), .val (.int p1), .val (.int (3 : Int32))] [(.int y3)])) _
                      refine XS.bipush X0.here hx rfl (hb hby d3_18) ?_
                      by_cases hc39 : y3 = (9 : Int32)
                      · skip
                        show Steps p.tables e below (s₁.setTop (mkF m 20 #[.val (.ref r0), .val (.int p1), .val (.int (3 : Int32))] [(.int (9 : Int32)), (.int y3)])) _
                        refine XS.icmpYes X0.here hx rfl (pc0 := 20) (pc' := 41) rfl (hb hby d3_20) rfl (teq hc39).1 (by decide) (by decide) ?_
                        exact k
                      · skip
                        show Steps p.tables e below (s₁.setTop (mkF m 20 #[.val (.ref r0), .val (.int p1), .val (.int (3 : Int32))] [(.int (9 : Int32)), (.int y3)])) _
                        refine XS.icmpNo X0.here hx rfl (hb hby d3_20) rfl (feq hc39).1 ?_
                        show Steps p.tables e below (s₁.setTop (mkF m 23 #[.val (.ref r0), .val (.int p1), .val (.int (3 : Int32))] [])) _
                        refine XS.aloadN X0.here hx rfl (hb hby d3_23) rfl rfl ?_
                        show Steps p.tables e below (s₁.setTop (mkF m 24 #[.val (.ref r0), .val (.int p1), .val (.int (3 : Int32))] [(.ref r0)])) _
                        refine XS.iloadN X0.here hx rfl (hb hby d3_24) rfl ?_
                        show Steps p.tables e below (s₁.setTop (mkF m 25 #[.val (.ref r0), .val (.int p1), .val (.int (3 : Int32))] [(.int (3 : Int32)), (.ref r0)])) _
                        refine X0.baloadBytes hx (j := (3 : Int32)) (v := (.int y3)) (by rw [e0]; exact Ar1.1) (State.isArrayOf_alike hZ.alike Ar1.2.1) Ar1.2.2 (inb_of S1 ⟨by decide, by decide⟩) (Has.at Ha1 (inb_of S1 ⟨by decide, by decide⟩) rfl) (g := (mkF m 25 #[.val (.ref r0), .val (.int p1), .val (.int (3 : Int32))] [(.int (3 : Int32)), (.ref r0)])) rfl rfl (hb hby d3_25) _ ?_
                        show Steps p.tables e below (s₁.setTop (mkF m 26 #[.val (.ref r0), .val (.int p1), .val (.int (3 : Int32))] [(.int y3)])) _
                        refine XS.bipush X0.here hx rfl (hb hby d3_26) ?_
                        by_cases hc40 : y3 = (13 : Int32)
                        · skip
                          show Steps p.tables e below (s₁.setTop (mkF m 28 #[.val (.ref r0), .val (.int p1), .val (.int (3 : Int32))] [(.int (13 : Int32)), (.int y3)])) _
                          refine XS.icmpYes X0.here hx rfl (pc0 := 28) (pc' := 41) rfl (hb hby d3_28) rfl (teq hc40).1 (by decide) (by decide) ?_
                          exact k
                        · skip
                          show Steps p.tables e below (s₁.setTop (mkF m 28 #[.val (.ref r0), .val (.int p1), .val (.int (3 : Int32))] [(.int (13 : Int32)), (.int y3)])) _
                          refine XS.icmpNo X0.here hx rfl (hb hby d3_28) rfl (feq hc40).1 ?_
                          show Steps p.tables e below (s₁.setTop (mkF m 31 #[.val (.ref r0), .val (.int p1), .val (.int (3 : Int32))] [])) _
                          refine XS.aloadN X0.here hx rfl (hb hby d3_31) rfl rfl ?_
                          show Steps p.tables e below (s₁.setTop (mkF m 32 #[.val (.ref r0), .val (.int p1), .val (.int (3 : Int32))] [(.ref r0)])) _
                          refine XS.iloadN X0.here hx rfl (hb hby d3_32) rfl ?_
                          show Steps p.tables e below (s₁.setTop (mkF m 33 #[.val (.ref r0), .val (.int p1), .val (.int (3 : Int32))] [(.int (3 : Int32)), (.ref r0)])) _
                          refine X0.baloadBytes hx (j := (3 : Int32)) (v := (.int y3)) (by rw [e0]; exact Ar1.1) (State.isArrayOf_alike hZ.alike Ar1.2.1) Ar1.2.2 (inb_of S1 ⟨by decide, by decide⟩) (Has.at Ha1 (inb_of S1 ⟨by decide, by decide⟩) rfl) (g := (mkF m 33 #[.val (.ref r0), .val (.int p1), .val (.int (3 : Int32))] [(.int (3 : Int32)), (.ref r0)])) rfl rfl (hb hby d3_33) _ ?_
                          show Steps p.tables e below (s₁.setTop (mkF m 34 #[.val (.ref r0), .val (.int p1), .val (.int (3 : Int32))] [(.int y3)])) _
                          refine XS.bipush X0.here hx rfl (hb hby d3_34) ?_
                          by_cases hc41 : y3 = (10 : Int32)
                          · skip
                            show Steps p.tables e below (s₁.setTop (mkF m 36 #[.val (.ref r0), .val (.int p1), .val (.int (3 : Int32))] [(.int (10 : Int32)), (.int y3)])) _
                            refine XS.icmpYes X0.here hx rfl (pc0 := 36) (pc' := 41) rfl (hb hby d3_36) rfl (teq hc41).1 (by decide) (by decide) ?_
                            exact k
                          · skip
                            have qq45 : v42 = (1 : Int32) := by rw [hv42, if_neg hc38, if_neg hc39, if_neg hc40, if_neg hc41]
                            exact absurd (qq45.symm.trans hc43) (by decide))
                  have ks46 : own_R p e below (s₁.setTop (entryFrame m #[(.ref r0), (.int p1)] 3)) (s₁.setTop (mkF m 4 #[.val (.ref r0), .val (.int p1), .val (.int (4 : Int32))] [(.int p1), (.int (4 : Int32))])) := fun t k => ks44 t (by
                    show Steps p.tables e below (s₁.setTop (mkF m 41 #[.val (.ref r0), .val (.int p1), .val (.int (3 : Int32))] [])) _
                    refine XS.iinc X0.here hx rfl (hb hby d3_41) rfl (l' := #[.val (.ref r0), .val (.int p1), .val (.int (4 : Int32))]) rfl ?_
                    show Steps p.tables e below (s₁.setTop (mkF m 44 #[.val (.ref r0), .val (.int p1), .val (.int (4 : Int32))] [])) _
                    refine XS.goto X0.here hx rfl (pc0 := 44) (pc' := 2) rfl (hb hby d3_44) (by decide) (by decide) ?_
                    show Steps p.tables e below (s₁.setTop (mkF m 2 #[.val (.ref r0), .val (.int p1), .val (.int (4 : Int32))] [])) _
                    refine XS.iloadN X0.here hx rfl (hb hby d3_2) rfl ?_
                    show Steps p.tables e below (s₁.setTop (mkF m 3 #[.val (.ref r0), .val (.int p1), .val (.int (4 : Int32))] [(.int (4 : Int32))])) _
                    refine XS.iloadN X0.here hx rfl (hb hby d3_3) rfl ?_
                    exact k)
                  by_cases hc47 : (4 : Int32) < p1
                  · skip
                    have ks48 : own_R p e below (s₁.setTop (entryFrame m #[(.ref r0), (.int p1)] 3)) (s₁.setTop (mkF m 12 #[.val (.ref r0), .val (.int p1), .val (.int (4 : Int32))] [(.int (32 : Int32)), (.int y4)])) := fun t k => ks46 t (by
                      show Steps p.tables e below (s₁.setTop (mkF m 4 #[.val (.ref r0), .val (.int p1), .val (.int (4 : Int32))] [(.int p1), (.int (4 : Int32))])) _
                      refine XS.icmpNo X0.here hx rfl (hb hby d3_4) rfl (tlt hc47).2.1 ?_
                      show Steps p.tables e below (s₁.setTop (mkF m 7 #[.val (.ref r0), .val (.int p1), .val (.int (4 : Int32))] [])) _
                      refine XS.aloadN X0.here hx rfl (hb hby d3_7) rfl rfl ?_
                      show Steps p.tables e below (s₁.setTop (mkF m 8 #[.val (.ref r0), .val (.int p1), .val (.int (4 : Int32))] [(.ref r0)])) _
                      refine XS.iloadN X0.here hx rfl (hb hby d3_8) rfl ?_
                      show Steps p.tables e below (s₁.setTop (mkF m 9 #[.val (.ref r0), .val (.int p1), .val (.int (4 : Int32))] [(.int (4 : Int32)), (.ref r0)])) _
                      refine X0.baloadBytes hx (j := (4 : Int32)) (v := (.int y4)) (by rw [e0]; exact Ar1.1) (State.isArrayOf_alike hZ.alike Ar1.2.1) Ar1.2.2 (inb_of S1 ⟨by decide, by decide⟩) (Has.at Ha1 (inb_of S1 ⟨by decide, by decide⟩) rfl) (g := (mkF m 9 #[.val (.ref r0), .val (.int p1), .val (.int (4 : Int32))] [(.int (4 : Int32)), (.ref r0)])) rfl rfl (hb hby d3_9) _ ?_
                      show Steps p.tables e below (s₁.setTop (mkF m 10 #[.val (.ref r0), .val (.int p1), .val (.int (4 : Int32))] [(.int y4)])) _
                      refine XS.bipush X0.here hx rfl (hb hby d3_10) ?_
                      exact k)
                    obtain ⟨v53, hv53⟩ : ∃ z : Int32, z = (if y4 = (32 : Int32) then (0 : Int32) else (if y4 = (9 : Int32) then (0 : Int32) else (if y4 = (13 : Int32) then (0 : Int32) else (if y4 = (10 : Int32) then (0 : Int32) else (1 : Int32))))) := ⟨_, rfl⟩
                    by_cases hc54 : v53 = (0 : Int32)
                    · skip
                      have ks55 : own_R p e below (s₁.setTop (entryFrame m #[(.ref r0), (.int p1)] 3)) (s₁.setTop (mkF m 41 #[.val (.ref r0), .val (.int p1), .val (.int (4 : Int32))] [])) := fun t k => ks48 t (by
                        by_cases hc49 : y4 = (32 : Int32)
                        · skip
                          show Steps p.tables e below (s₁.setTop (mkF m 12 #[.val (.ref r0), .val (.int p1), .val (.int (4 : Int32))] [(.int (32 : Int32)), (.int y4)])) _
                          refine XS.icmpYes X0.here hx rfl (pc0 := 12) (pc' := 41) rfl (hb hby d3_12) rfl (teq hc49).1 (by decide) (by decide) ?_
                          exact k
                        · skip
                          show Steps p.tables e below (s₁.setTop (mkF m 12 #[.val (.ref r0), .val (.int p1), .val (.int (4 : Int32))] [(.int (32 : Int32)), (.int y4)])) _
                          refine XS.icmpNo X0.here hx rfl (hb hby d3_12) rfl (feq hc49).1 ?_
                          show Steps p.tables e below (s₁.setTop (mkF m 15 #[.val (.ref r0), .val (.int p1), .val (.int (4 : Int32))] [])) _
                          refine XS.aloadN X0.here hx rfl (hb hby d3_15) rfl rfl ?_
                          show Steps p.tables e below (s₁.setTop (mkF m 16 #[.val (.ref r0), .val (.int p1), .val (.int (4 : Int32))] [(.ref r0)])) _
                          refine XS.iloadN X0.here hx rfl (hb hby d3_16) rfl ?_
                          show Steps p.tables e below (s₁.setTop (mkF m 17 #[.val (.ref r0), .val (.int p1), .val (.int (4 : Int32))] [(.int (4 : Int32)), (.ref r0)])) _
                          refine X0.baloadBytes hx (j := (4 : Int32)) (v := (.int y4)) (by rw [e0]; exact Ar1.1) (State.isArrayOf_alike hZ.alike Ar1.2.1) Ar1.2.2 (inb_of S1 ⟨by decide, by decide⟩) (Has.at Ha1 (inb_of S1 ⟨by decide, by decide⟩) rfl) (g := (mkF m 17 #[.val (.ref r0), .val (.int p1), .val (.int (4 : Int32))] [(.int (4 : Int32)), (.ref r0)])) rfl rfl (hb hby d3_17) _ ?_
                          show Steps p.tables e below (s₁.setTop (mkF m 18 #[.val (.ref r0), .val (.int p1), .val (.int (4 : Int32))] [(.int y4)])) _
                          refine XS.bipush X0.here hx rfl (hb hby d3_18) ?_
                          by_cases hc50 : y4 = (9 : Int32)
                          · skip
                            show Steps p.tables e below (s₁.setTop (mkF m 20 #[.val (.ref r0), .val (.int p1), .val (.int (4 : Int32))] [(.int (9 : Int32)), (.int y4)])) _
                            refine XS.icmpYes X0.here hx rfl (pc0 := 20) (pc' := 41) rfl (hb hby d3_20) rfl (teq hc50).1 (by decide) (by decide) ?_
                            exact k
                          · skip
                            show Steps p.tables e below (s₁.setTop (mkF m 20 #[.val (.ref r0), .val (.int p1), .val (.int (4 : Int32))] [(.int (9 : Int32)), (.int y4)])) _
                            refine XS.icmpNo X0.here hx rfl (hb hby d3_20) rfl (feq hc50).1 ?_
                            show Steps p.tables e below (s₁.setTop (mkF m 23 #[.val (.ref r0), .val (.int p1), .val (.int (4 : Int32))] [])) _
                            refine XS.aloadN X0.here hx rfl (hb hby d3_23) rfl rfl ?_
                            show Steps p.tables e below (s₁.setTop (mkF m 24 #[.val (.ref r0), .val (.int p1), .val (.int (4 : Int32))] [(.ref r0)])) _
                            refine XS.iloadN X0.here hx rfl (hb hby d3_24) rfl ?_
                            show Steps p.tables e below (s₁.setTop (mkF m 25 #[.val (.ref r0), .val (.int p1), .val (.int (4 : Int32))] [(.int (4 : Int32)), (.ref r0)])) _
                            refine X0.baloadBytes hx (j := (4 : Int32)) (v := (.int y4)) (by rw [e0]; exact Ar1.1) (State.isArrayOf_alike hZ.alike Ar1.2.1) Ar1.2.2 (inb_of S1 ⟨by decide, by decide⟩) (Has.at Ha1 (inb_of S1 ⟨by decide, by decide⟩) rfl) (g := (mkF m 25 #[.val (.ref r0), .val (.int p1), .val (.int (4 : Int32))] [(.int (4 : Int32)), (.ref r0)])) rfl rfl (hb hby d3_25) _ ?_
                            show Steps p.tables e below (s₁.setTop (mkF m 26 #[.val (.ref r0), .val (.int p1), .val (.int (4 : Int32))] [(.int y4)])) _
                            refine XS.bipush X0.here hx rfl (hb hby d3_26) ?_
                            by_cases hc51 : y4 = (13 : Int32)
                            · skip
                              show Steps p.tables e below (s₁.setTop (mkF m 28 #[.val (.ref r0), .val (.int p1), .val (.int (4 : Int32))] [(.int (13 : Int32)), (.int y4)])) _
                              refine XS.icmpYes X0.here hx rfl (pc0 := 28) (pc' := 41) rfl (hb hby d3_28) rfl (teq hc51).1 (by decide) (by decide) ?_
                              exact k
                            · skip
                              show Steps p.tables e below (s₁.setTop (mkF m 28 #[.val (.ref r0), .val (.int p1), .val (.int (4 : Int32))] [(.int (13 : Int32)), (.int y4)])) _
                              refine XS.icmpNo X0.here hx rfl (hb hby d3_28) rfl (feq hc51).1 ?_
                              show Steps p.tables e below (s₁.setTop (mkF m 31 #[.val (.ref r0), .val (.int p1), .val (.int (4 : Int32))] [])) _
                              refine XS.aloadN X0.here hx rfl (hb hby d3_31) rfl rfl ?_
                              show Steps p.tables e below (s₁.setTop (mkF m 32 #[.val (.ref r0), .val (.int p1), .val (.int (4 : Int32))] [(.ref r0)])) _
                              refine XS.iloadN X0.here hx rfl (hb hby d3_32) rfl ?_
                              show Steps p.tables e below (s₁.setTop (mkF m 33 #[.val (.ref r0), .val (.int p1), .val (.int (4 : Int32))] [(.int (4 : Int32)), (.ref r0)])) _
                              refine X0.baloadBytes hx (j := (4 : Int32)) (v := (.int y4)) (by rw [e0]; exact Ar1.1) (State.isArrayOf_alike hZ.alike Ar1.2.1) Ar1.2.2 (inb_of S1 ⟨by decide, by decide⟩) (Has.at Ha1 (inb_of S1 ⟨by decide, by decide⟩) rfl) (g := (mkF m 33 #[.val (.ref r0), .val (.int p1), .val (.int (4 : Int32))] [(.int (4 : Int32)), (.ref r0)])) rfl rfl (hb hby d3_33) _ ?_
                              show Steps p.tables e below (s₁.setTop (mkF m 34 #[.val (.ref r0), .val (.int p1), .val (.int (4 : Int32))] [(.int y4)])) _
                              refine XS.bipush X0.here hx rfl (hb hby d3_34) ?_
                              by_cases hc52 : y4 = (10 : Int32)
                              · skip
                                show Steps p.tables e below (s₁.setTop (mkF m 36 #[.val (.ref r0), .val (.int p1), .val (.int (4 : Int32))] [(.int (10 : Int32)), (.int y4)])) _
                                refine XS.icmpYes X0.here hx rfl (pc0 := 36) (pc' := 41) rfl (hb hby d3_36) rfl (teq hc52).1 (by decide) (by decide) ?_
                                exact k
                              · skip
                                have qq56 : v53 = (1 : Int32) := by rw [hv53, if_neg hc49, if_neg hc50, if_neg hc51, if_neg hc52]
                                exact absurd (qq56.symm.trans hc54) (by decide))
                      have ks57 : own_R p e below (s₁.setTop (entryFrame m #[(.ref r0), (.int p1)] 3)) (s₁.setTop (mkF m 4 #[.val (.ref r0), .val (.int p1), .val (.int (5 : Int32))] [(.int p1), (.int (5 : Int32))])) := fun t k => ks55 t (by
                        show Steps p.tables e below (s₁.setTop (mkF m 41 #[.val (.ref r0), .val (.int p1), .val (.int (4 : Int32))] [])) _
                        refine XS.iinc X0.here hx rfl (hb hby d3_41) rfl (l' := #[.val (.ref r0), .val (.int p1), .val (.int (5 : Int32))]) rfl ?_
                        show Steps p.tables e below (s₁.setTop (mkF m 44 #[.val (.ref r0), .val (.int p1), .val (.int (5 : Int32))] [])) _
                        refine XS.goto X0.here hx rfl (pc0 := 44) (pc' := 2) rfl (hb hby d3_44) (by decide) (by decide) ?_
                        show Steps p.tables e below (s₁.setTop (mkF m 2 #[.val (.ref r0), .val (.int p1), .val (.int (5 : Int32))] [])) _
                        refine XS.iloadN X0.here hx rfl (hb hby d3_2) rfl ?_
                        show Steps p.tables e below (s₁.setTop (mkF m 3 #[.val (.ref r0), .val (.int p1), .val (.int (5 : Int32))] [(.int (5 : Int32))])) _
                        refine XS.iloadN X0.here hx rfl (hb hby d3_3) rfl ?_
                        exact k)
                      by_cases hc58 : (5 : Int32) < p1
                      · skip
                        exact absurd hc58 hp
                      · skip
                        have ks59 : own_R p e below (s₁.setTop (entryFrame m #[(.ref r0), (.int p1)] 3)) (s₁.setTop (mkF m 48 #[.val (.ref r0), .val (.int p1), .val (.int (5 : Int32))] [(.int (1 : Int32))])) := fun t k => ks57 t (by
                          show Steps p.tables e below (s₁.setTop (mkF m 4 #[.val (.ref r0), .val (.int p1), .val (.int (5 : Int32))] [(.int p1), (.int (5 : Int32))])) _
                          refine XS.icmpYes X0.here hx rfl (pc0 := 4) (pc' := 47) rfl (hb hby d3_4) rfl (flt hc58).2.1 (by decide) (by decide) ?_
                          show Steps p.tables e below (s₁.setTop (mkF m 47 #[.val (.ref r0), .val (.int p1), .val (.int (5 : Int32))] [])) _
                          refine XS.iconst X0.here hx rfl (hb hby d3_47) ?_
                          exact k)
                        obtain ⟨fs, hr, hrun, hended, hW, hsame⟩ := X0.leave (v := some (.int (1 : Int32))) (fun h => by rw [Bd.returns] at h; cases h)
                        refine ⟨_, _, ks59 _ ?_, hrun, hended, _, _, rfl, ?_, ⟨_, rfl⟩, hW, hsame.mono (by decide) (by decide)⟩
                        · exact retN X0 hx (t := .boolean) Bd.returns (by simp) (hb hby d3_48) hr
                        · show Q3 Z r0 p1 k1 y0 y1 y2 y3 y4 h0 n0 _ s₁.heap _
                          rw [e0]
                          subst hv53
                          subst hv42
                          subst hv31
                          subst hv20
                          subst hv9
                          refine ⟨?_, N0, rfl⟩
                          rw [own_blank, if_pos hc3, if_pos hc10, if_pos hc14, if_pos hc21, if_pos hc25, if_pos hc32, if_pos hc36, if_pos hc43, if_pos hc47, if_pos hc54, if_neg hc58]
                    · skip
                      have ks61 : own_R p e below (s₁.setTop (entryFrame m #[(.ref r0), (.int p1)] 3)) (s₁.setTop (mkF m 39 #[.val (.ref r0), .val (.int p1), .val (.int (4 : Int32))] [])) := fun t k => ks48 t (by
                        by_cases hc49 : y4 = (32 : Int32)
                        · skip
                          have qq62 : v53 = (0 : Int32) := by rw [hv53, if_pos hc49]
                          exact absurd qq62 hc54
                        · skip
                          show Steps p.tables e below (s₁.setTop (mkF m 12 #[.val (.ref r0), .val (.int p1), .val (.int (4 : Int32))] [(.int (32 : Int32)), (.int y4)])) _
                          refine XS.icmpNo X0.here hx rfl (hb hby d3_12) rfl (feq hc49).1 ?_
                          show Steps p.tables e below (s₁.setTop (mkF m 15 #[.val (.ref r0), .val (.int p1), .val (.int (4 : Int32))] [])) _
                          refine XS.aloadN X0.here hx rfl (hb hby d3_15) rfl rfl ?_
                          show Steps p.tables e below (s₁.setTop (mkF m 16 #[.val (.ref r0), .val (.int p1), .val (.int (4 : Int32))] [(.ref r0)])) _
                          refine XS.iloadN X0.here hx rfl (hb hby d3_16) rfl ?_
                          show Steps p.tables e below (s₁.setTop (mkF m 17 #[.val (.ref r0), .val (.int p1), .val (.int (4 : Int32))] [(.int (4 : Int32)), (.ref r0)])) _
                          refine X0.baloadBytes hx (j := (4 : Int32)) (v := (.int y4)) (by rw [e0]; exact Ar1.1) (State.isArrayOf_alike hZ.alike Ar1.2.1) Ar1.2.2 (inb_of S1 ⟨by decide, by decide⟩) (Has.at Ha1 (inb_of S1 ⟨by decide, by decide⟩) rfl) (g := (mkF m 17 #[.val (.ref r0), .val (.int p1), .val (.int (4 : Int32))] [(.int (4 : Int32)), (.ref r0)])) rfl rfl (hb hby d3_17) _ ?_
                          show Steps p.tables e below (s₁.setTop (mkF m 18 #[.val (.ref r0), .val (.int p1), .val (.int (4 : Int32))] [(.int y4)])) _
                          refine XS.bipush X0.here hx rfl (hb hby d3_18) ?_
                          by_cases hc50 : y4 = (9 : Int32)
                          · skip
                            have qq63 : v53 = (0 : Int32) := by rw [hv53, if_neg hc49, if_pos hc50]
                            exact absurd qq63 hc54
                          · skip
                            show Steps p.tables e below (s₁.setTop (mkF m 20 #[.val (.ref r0), .val (.int p1), .val (.int (4 : Int32))] [(.int (9 : Int32)), (.int y4)])) _
                            refine XS.icmpNo X0.here hx rfl (hb hby d3_20) rfl (feq hc50).1 ?_
                            show Steps p.tables e below (s₁.setTop (mkF m 23 #[.val (.ref r0), .val (.int p1), .val (.int (4 : Int32))] [])) _
                            refine XS.aloadN X0.here hx rfl (hb hby d3_23) rfl rfl ?_
                            show Steps p.tables e below (s₁.setTop (mkF m 24 #[.val (.ref r0), .val (.int p1), .val (.int (4 : Int32))] [(.ref r0)])) _
                            refine XS.iloadN X0.here hx rfl (hb hby d3_24) rfl ?_
                            show Steps p.tables e below (s₁.setTop (mkF m 25 #[.val (.ref r0), .val (.int p1), .val (.int (4 : Int32))] [(.int (4 : Int32)), (.ref r0)])) _
                            refine X0.baloadBytes hx (j := (4 : Int32)) (v := (.int y4)) (by rw [e0]; exact Ar1.1) (State.isArrayOf_alike hZ.alike Ar1.2.1) Ar1.2.2 (inb_of S1 ⟨by decide, by decide⟩) (Has.at Ha1 (inb_of S1 ⟨by decide, by decide⟩) rfl) (g := (mkF m 25 #[.val (.ref r0), .val (.int p1), .val (.int (4 : Int32))] [(.int (4 : Int32)), (.ref r0)])) rfl rfl (hb hby d3_25) _ ?_
                            show Steps p.tables e below (s₁.setTop (mkF m 26 #[.val (.ref r0), .val (.int p1), .val (.int (4 : Int32))] [(.int y4)])) _
                            refine XS.bipush X0.here hx rfl (hb hby d3_26) ?_
                            by_cases hc51 : y4 = (13 : Int32)
                            · skip
                              have qq64 : v53 = (0 : Int32) := by rw [hv53, if_neg hc49, if_neg hc50, if_pos hc51]
                              exact absurd qq64 hc54
                            · skip
                              show Steps p.tables e below (s₁.setTop (mkF m 28 #[.val (.ref r0), .val (.int p1), .val (.int (4 : Int32))] [(.int (13 : Int32)), (.int y4)])) _
                              refine XS.icmpNo X0.here hx rfl (hb hby d3_28) rfl (feq hc51).1 ?_
                              show Steps p.tables e below (s₁.setTop (mkF m 31 #[.val (.ref r0), .val (.int p1), .val (.int (4 : Int32))] [])) _
                              refine XS.aloadN X0.here hx rfl (hb hby d3_31) rfl rfl ?_
                              show Steps p.tables e below (s₁.setTop (mkF m 32 #[.val (.ref r0), .val (.int p1), .val (.int (4 : Int32))] [(.ref r0)])) _
                              refine XS.iloadN X0.here hx rfl (hb hby d3_32) rfl ?_
                              show Steps p.tables e below (s₁.setTop (mkF m 33 #[.val (.ref r0), .val (.int p1), .val (.int (4 : Int32))] [(.int (4 : Int32)), (.ref r0)])) _
                              refine X0.baloadBytes hx (j := (4 : Int32)) (v := (.int y4)) (by rw [e0]; exact Ar1.1) (State.isArrayOf_alike hZ.alike Ar1.2.1) Ar1.2.2 (inb_of S1 ⟨by decide, by decide⟩) (Has.at Ha1 (inb_of S1 ⟨by decide, by decide⟩) rfl) (g := (mkF m 33 #[.val (.ref r0), .val (.int p1), .val (.int (4 : Int32))] [(.int (4 : Int32)), (.ref r0)])) rfl rfl (hb hby d3_33) _ ?_
                              show Steps p.tables e below (s₁.setTop (mkF m 34 #[.val (.ref r0), .val (.int p1), .val (.int (4 : Int32))] [(.int y4)])) _
                              refine XS.bipush X0.here hx rfl (hb hby d3_34) ?_
                              by_cases hc52 : y4 = (10 : Int32)
                              · skip
                                have qq65 : v53 = (0 : Int32) := by rw [hv53, if_neg hc49, if_neg hc50, if_neg hc51, if_pos hc52]
                                exact absurd qq65 hc54
                              · skip
                                show Steps p.tables e below (s₁.setTop (mkF m 36 #[.val (.ref r0), .val (.int p1), .val (.int (4 : Int32))] [(.int (10 : Int32)), (.int y4)])) _
                                refine XS.icmpNo X0.here hx rfl (hb hby d3_36) rfl (feq hc52).1 ?_
                                exact k)
                      have ks66 : own_R p e below (s₁.setTop (entryFrame m #[(.ref r0), (.int p1)] 3)) (s₁.setTop (mkF m 40 #[.val (.ref r0), .val (.int p1), .val (.int (4 : Int32))] [(.int (0 : Int32))])) := fun t k => ks61 t (by
                        show Steps p.tables e below (s₁.setTop (mkF m 39 #[.val (.ref r0), .val (.int p1), .val (.int (4 : Int32))] [])) _
                        refine XS.iconst X0.here hx rfl (hb hby d3_39) ?_
                        exact k)
                      obtain ⟨fs, hr, hrun, hended, hW, hsame⟩ := X0.leave (v := some (.int (0 : Int32))) (fun h => by rw [Bd.returns] at h; cases h)
                      refine ⟨_, _, ks66 _ ?_, hrun, hended, _, _, rfl, ?_, ⟨_, rfl⟩, hW, hsame.mono (by decide) (by decide)⟩
                      · exact retN X0 hx (t := .boolean) Bd.returns (by simp) (hb hby d3_40) hr
                      · show Q3 Z r0 p1 k1 y0 y1 y2 y3 y4 h0 n0 _ s₁.heap _
                        rw [e0]
                        subst hv53
                        subst hv42
                        subst hv31
                        subst hv20
                        subst hv9
                        refine ⟨?_, N0, rfl⟩
                        rw [own_blank, if_pos hc3, if_pos hc10, if_pos hc14, if_pos hc21, if_pos hc25, if_pos hc32, if_pos hc36, if_pos hc43, if_pos hc47, if_neg hc54]
                  · skip
                    have ks67 : own_R p e below (s₁.setTop (entryFrame m #[(.ref r0), (.int p1)] 3)) (s₁.setTop (mkF m 48 #[.val (.ref r0), .val (.int p1), .val (.int (4 : Int32))] [(.int (1 : Int32))])) := fun t k => ks46 t (by
                      show Steps p.tables e below (s₁.setTop (mkF m 4 #[.val (.ref r0), .val (.int p1), .val (.int (4 : Int32))] [(.int p1), (.int (4 : Int32))])) _
                      refine XS.icmpYes X0.here hx rfl (pc0 := 4) (pc' := 47) rfl (hb hby d3_4) rfl (flt hc47).2.1 (by decide) (by decide) ?_
                      show Steps p.tables e below (s₁.setTop (mkF m 47 #[.val (.ref r0), .val (.int p1), .val (.int (4 : Int32))] [])) _
                      refine XS.iconst X0.here hx rfl (hb hby d3_47) ?_
                      exact k)
                    obtain ⟨fs, hr, hrun, hended, hW, hsame⟩ := X0.leave (v := some (.int (1 : Int32))) (fun h => by rw [Bd.returns] at h; cases h)
                    refine ⟨_, _, ks67 _ ?_, hrun, hended, _, _, rfl, ?_, ⟨_, rfl⟩, hW, hsame.mono (by decide) (by decide)⟩
                    · exact retN X0 hx (t := .boolean) Bd.returns (by simp) (hb hby d3_48) hr
                    · show Q3 Z r0 p1 k1 y0 y1 y2 y3 y4 h0 n0 _ s₁.heap _
                      rw [e0]
                      subst hv42
                      subst hv31
                      subst hv20
                      subst hv9
                      refine ⟨?_, N0, rfl⟩
                      rw [own_blank, if_pos hc3, if_pos hc10, if_pos hc14, if_pos hc21, if_pos hc25, if_pos hc32, if_pos hc36, if_pos hc43, if_neg hc47]
                · skip
                  have ks69 : own_R p e below (s₁.setTop (entryFrame m #[(.ref r0), (.int p1)] 3)) (s₁.setTop (mkF m 39 #[.val (.ref r0), .val (.int p1), .val (.int (3 : Int32))] [])) := fun t k => ks37 t (by
                    by_cases hc38 : y3 = (32 : Int32)
                    · skip
                      have qq70 : v42 = (0 : Int32) := by rw [hv42, if_pos hc38]
                      exact absurd qq70 hc43
                    · skip
                      show Steps p.tables e below (s₁.setTop (mkF m 12 #[.val (.ref r0), .val (.int p1), .val (.int (3 : Int32))] [(.int (32 : Int32)), (.int y3)])) _
                      refine XS.icmpNo X0.here hx rfl (hb hby d3_12) rfl (feq hc38).1 ?_
                      show Steps p.tables e below (s₁.setTop (mkF m 15 #[.val (.ref r0), .val (.int p1), .val (.int (3 : Int32))] [])) _
                      refine XS.aloadN X0.here hx rfl (hb hby d3_15) rfl rfl ?_
                      show Steps p.tables e below (s₁.setTop (mkF m 16 #[.val (.ref r0), .val (.int p1), .val (.int (3 : Int32))] [(.ref r0)])) _
                      refine XS.iloadN X0.here hx rfl (hb hby d3_16) rfl ?_
                      show Steps p.tables e below (s₁.setTop (mkF m 17 #[.val (.ref r0), .val (.int p1), .val (.int (3 : Int32))] [(.int (3 : Int32)), (.ref r0)])) _
                      refine X0.baloadBytes hx (j := (3 : Int32)) (v := (.int y3)) (by rw [e0]; exact Ar1.1) (State.isArrayOf_alike hZ.alike Ar1.2.1) Ar1.2.2 (inb_of S1 ⟨by decide, by decide⟩) (Has.at Ha1 (inb_of S1 ⟨by decide, by decide⟩) rfl) (g := (mkF m 17 #[.val (.ref r0), .val (.int p1), .val (.int (3 : Int32))] [(.int (3 : Int32)), (.ref r0)])) rfl rfl (hb hby d3_17) _ ?_
                      show Steps p.tables e below (s₁.setTop (mkF m 18 #[.val (.ref r0), .val (.int p1), .val (.int (3 : Int32))] [(.int y3)])) _
                      refine XS.bipush X0.here hx rfl (hb hby d3_18) ?_
                      by_cases hc39 : y3 = (9 : Int32)
                      · skip
                        have qq71 : v42 = (0 : Int32) := by rw [hv42, if_neg hc38, if_pos hc39]
                        exact absurd qq71 hc43
                      · skip
                        show Steps p.tables e below (s₁.setTop (mkF m 20 #[.val (.ref r0), .val (.int p1), .val (.int (3 : Int32))] [(.int (9 : Int32)), (.int y3)])) _
                        refine XS.icmpNo X0.here hx rfl (hb hby d3_20) rfl (feq hc39).1 ?_
                        show Steps p.tables e below (s₁.setTop (mkF m 23 #[.val (.ref r0), .val (.int p1), .val (.int (3 : Int32))] [])) _
                        refine XS.aloadN X0.here hx rfl (hb hby d3_23) rfl rfl ?_
                        show Steps p.tables e below (s₁.setTop (mkF m 24 #[.val (.ref r0), .val (.int p1), .val (.int (3 : Int32))] [(.ref r0)])) _
                        refine XS.iloadN X0.here hx rfl (hb hby d3_24) rfl ?_
                        show Steps p.tables e below (s₁.setTop (mkF m 25 #[.val (.ref r0), .val (.int p1), .val (.int (3 : Int32))] [(.int (3 : Int32)), (.ref r0)])) _
                        refine X0.baloadBytes hx (j := (3 : Int32)) (v := (.int y3)) (by rw [e0]; exact Ar1.1) (State.isArrayOf_alike hZ.alike Ar1.2.1) Ar1.2.2 (inb_of S1 ⟨by decide, by decide⟩) (Has.at Ha1 (inb_of S1 ⟨by decide, by decide⟩) rfl) (g := (mkF m 25 #[.val (.ref r0), .val (.int p1), .val (.int (3 : Int32))] [(.int (3 : Int32)), (.ref r0)])) rfl rfl (hb hby d3_25) _ ?_
                        show Steps p.tables e below (s₁.setTop (mkF m 26 #[.val (.ref r0), .val (.int p1), .val (.int (3 : Int32))] [(.int y3)])) _
                        refine XS.bipush X0.here hx rfl (hb hby d3_26) ?_
                        by_cases hc40 : y3 = (13 : Int32)
                        · skip
                          have qq72 : v42 = (0 : Int32) := by rw [hv42, if_neg hc38, if_neg hc39, if_pos hc40]
                          exact absurd qq72 hc43
                        · skip
                          show Steps p.tables e below (s₁.setTop (mkF m 28 #[.val (.ref r0), .val (.int p1), .val (.int (3 : Int32))] [(.int (13 : Int32)), (.int y3)])) _
                          refine XS.icmpNo X0.here hx rfl (hb hby d3_28) rfl (feq hc40).1 ?_
                          show Steps p.tables e below (s₁.setTop (mkF m 31 #[.val (.ref r0), .val (.int p1), .val (.int (3 : Int32))] [])) _
                          refine XS.aloadN X0.here hx rfl (hb hby d3_31) rfl rfl ?_
                          show Steps p.tables e below (s₁.setTop (mkF m 32 #[.val (.ref r0), .val (.int p1), .val (.int (3 : Int32))] [(.ref r0)])) _
                          refine XS.iloadN X0.here hx rfl (hb hby d3_32) rfl ?_
                          show Steps p.tables e below (s₁.setTop (mkF m 33 #[.val (.ref r0), .val (.int p1), .val (.int (3 : Int32))] [(.int (3 : Int32)), (.ref r0)])) _
                          refine X0.baloadBytes hx (j := (3 : Int32)) (v := (.int y3)) (by rw [e0]; exact Ar1.1) (State.isArrayOf_alike hZ.alike Ar1.2.1) Ar1.2.2 (inb_of S1 ⟨by decide, by decide⟩) (Has.at Ha1 (inb_of S1 ⟨by decide, by decide⟩) rfl) (g := (mkF m 33 #[.val (.ref r0), .val (.int p1), .val (.int (3 : Int32))] [(.int (3 : Int32)), (.ref r0)])) rfl rfl (hb hby d3_33) _ ?_
                          show Steps p.tables e below (s₁.setTop (mkF m 34 #[.val (.ref r0), .val (.int p1), .val (.int (3 : Int32))] [(.int y3)])) _
                          refine XS.bipush X0.here hx rfl (hb hby d3_34) ?_
                          by_cases hc41 : y3 = (10 : Int32)
                          · skip
                            have qq73 : v42 = (0 : Int32) := by rw [hv42, if_neg hc38, if_neg hc39, if_neg hc40, if_pos hc41]
                            exact absurd qq73 hc43
                          · skip
                            show Steps p.tables e below (s₁.setTop (mkF m 36 #[.val (.ref r0), .val (.int p1), .val (.int (3 : Int32))] [(.int (10 : Int32)), (.int y3)])) _
                            refine XS.icmpNo X0.here hx rfl (hb hby d3_36) rfl (feq hc41).1 ?_
                            exact k)
                  have ks74 : own_R p e below (s₁.setTop (entryFrame m #[(.ref r0), (.int p1)] 3)) (s₁.setTop (mkF m 40 #[.val (.ref r0), .val (.int p1), .val (.int (3 : Int32))] [(.int (0 : Int32))])) := fun t k => ks69 t (by
                    show Steps p.tables e below (s₁.setTop (mkF m 39 #[.val (.ref r0), .val (.int p1), .val (.int (3 : Int32))] [])) _
                    refine XS.iconst X0.here hx rfl (hb hby d3_39) ?_
                    exact k)
                  obtain ⟨fs, hr, hrun, hended, hW, hsame⟩ := X0.leave (v := some (.int (0 : Int32))) (fun h => by rw [Bd.returns] at h; cases h)
                  refine ⟨_, _, ks74 _ ?_, hrun, hended, _, _, rfl, ?_, ⟨_, rfl⟩, hW, hsame.mono (by decide) (by decide)⟩
                  · exact retN X0 hx (t := .boolean) Bd.returns (by simp) (hb hby d3_40) hr
                  · show Q3 Z r0 p1 k1 y0 y1 y2 y3 y4 h0 n0 _ s₁.heap _
                    rw [e0]
                    subst hv42
                    subst hv31
                    subst hv20
                    subst hv9
                    refine ⟨?_, N0, rfl⟩
                    rw [own_blank, if_pos hc3, if_pos hc10, if_pos hc14, if_pos hc21, if_pos hc25, if_pos hc32, if_pos hc36, if_neg hc43]
              · skip
                have ks75 : own_R p e below (s₁.setTop (entryFrame m #[(.ref r0), (.int p1)] 3)) (s₁.setTop (mkF m 48 #[.val (.ref r0), .val (.int p1), .val (.int (3 : Int32))] [(.int (1 : Int32))])) := fun t k => ks35 t (by
                  show Steps p.tables e below (s₁.setTop (mkF m 4 #[.val (.ref r0), .val (.int p1), .val (.int (3 : Int32))] [(.int p1), (.int (3 : Int32))])) _
                  refine XS.icmpYes X0.here hx rfl (pc0 := 4) (pc' := 47) rfl (hb hby d3_4) rfl (flt hc36).2.1 (by decide) (by decide) ?_
                  show Steps p.tables e below (s₁.setTop (mkF m 47 #[.val (.ref r0), .val (.int p1), .val (.int (3 : Int32))] [])) _
                  refine XS.iconst X0.here hx rfl (hb hby d3_47) ?_
                  exact k)
                obtain ⟨fs, hr, hrun, hended, hW, hsame⟩ := X0.leave (v := some (.int (1 : Int32))) (fun h => by rw [Bd.returns] at h; cases h)
                refine ⟨_, _, ks75 _ ?_, hrun, hended, _, _, rfl, ?_, ⟨_, rfl⟩, hW, hsame.mono (by decide) (by decide)⟩
                · exact retN X0 hx (t := .boolean) Bd.returns (by simp) (hb hby d3_48) hr
                · show Q3 Z r0 p1 k1 y0 y1 y2 y3 y4 h0 n0 _ s₁.heap _
                  rw [e0]
                  subst hv31
                  subst hv20
                  subst hv9
                  refine ⟨?_, N0, rfl⟩
                  rw [own_blank, if_pos hc3, if_pos hc10, if_pos hc14, if_pos hc21, if_pos hc25, if_pos hc32, if_neg hc36]
            · skip
              have ks77 : own_R p e below (s₁.setTop (entryFrame m #[(.ref r0), (.int p1)] 3)) (s₁.setTop (mkF m 39 #[.val (.ref r0), .val (.int p1), .val (.int (2 : Int32))] [])) := fun t k => ks26 t (by
                by_cases hc27 : y2 = (32 : Int32)
                · skip
                  have qq78 : v31 = (0 : Int32) := by rw [hv31, if_pos hc27]
                  exact absurd qq78 hc32
                · skip
                  show Steps p.tables e below (s₁.setTop (mkF m 12 #[.val (.ref r0), .val (.int p1), .val (.int (2 : Int32))] [(.int (32 : Int32)), (.int y2)])) _
                  refine XS.icmpNo X0.here hx rfl (hb hby d3_12) rfl (feq hc27).1 ?_
                  show Steps p.tables e below (s₁.setTop (mkF m 15 #[.val (.ref r0), .val (.int p1), .val (.int (2 : Int32))] [])) _
                  refine XS.aloadN X0.here hx rfl (hb hby d3_15) rfl rfl ?_
                  show Steps p.tables e below (s₁.setTop (mkF m 16 #[.val (.ref r0), .val (.int p1), .val (.int (2 : Int32))] [(.ref r0)])) _
                  refine XS.iloadN X0.here hx rfl (hb hby d3_16) rfl ?_
                  show Steps p.tables e below (s₁.setTop (mkF m 17 #[.val (.ref r0), .val (.int p1), .val (.int (2 : Int32))] [(.int (2 : Int32)), (.ref r0)])) _
                  refine X0.baloadBytes hx (j := (2 : Int32)) (v := (.int y2)) (by rw [e0]; exact Ar1.1) (State.isArrayOf_alike hZ.alike Ar1.2.1) Ar1.2.2 (inb_of S1 ⟨by decide, by decide⟩) (Has.at Ha1 (inb_of S1 ⟨by decide, by decide⟩) rfl) (g := (mkF m 17 #[.val (.ref r0), .val (.int p1), .val (.int (2 : Int32))] [(.int (2 : Int32)), (.ref r0)])) rfl rfl (hb hby d3_17) _ ?_
                  show Steps p.tables e below (s₁.setTop (mkF m 18 #[.val (.ref r0), .val (.int p1), .val (.int (2 : Int32))] [(.int y2)])) _
                  refine XS.bipush X0.here hx rfl (hb hby d3_18) ?_
                  by_cases hc28 : y2 = (9 : Int32)
                  · skip
                    have qq79 : v31 = (0 : Int32) := by rw [hv31, if_neg hc27, if_pos hc28]
                    exact absurd qq79 hc32
                  · skip
                    show Steps p.tables e below (s₁.setTop (mkF m 20 #[.val (.ref r0), .val (.int p1), .val (.int (2 : Int32))] [(.int (9 : Int32)), (.int y2)])) _
                    refine XS.icmpNo X0.here hx rfl (hb hby d3_20) rfl (feq hc28).1 ?_
                    show Steps p.tables e below (s₁.setTop (mkF m 23 #[.val (.ref r0), .val (.int p1), .val (.int (2 : Int32))] [])) _
                    refine XS.aloadN X0.here hx rfl (hb hby d3_23) rfl rfl ?_
                    show Steps p.tables e below (s₁.setTop (mkF m 24 #[.val (.ref r0), .val (.int p1), .val (.int (2 : Int32))] [(.ref r0)])) _
                    refine XS.iloadN X0.here hx rfl (hb hby d3_24) rfl ?_
                    show Steps p.tables e below (s₁.setTop (mkF m 25 #[.val (.ref r0), .val (.int p1), .val (.int (2 : Int32))] [(.int (2 : Int32)), (.ref r0)])) _
                    refine X0.baloadBytes hx (j := (2 : Int32)) (v := (.int y2)) (by rw [e0]; exact Ar1.1) (State.isArrayOf_alike hZ.alike Ar1.2.1) Ar1.2.2 (inb_of S1 ⟨by decide, by decide⟩) (Has.at Ha1 (inb_of S1 ⟨by decide, by decide⟩) rfl) (g := (mkF m 25 #[.val (.ref r0), .val (.int p1), .val (.int (2 : Int32))] [(.int (2 : Int32)), (.ref r0)])) rfl rfl (hb hby d3_25) _ ?_
                    show Steps p.tables e below (s₁.setTop (mkF m 26 #[.val (.ref r0), .val (.int p1), .val (.int (2 : Int32))] [(.int y2)])) _
                    refine XS.bipush X0.here hx rfl (hb hby d3_26) ?_
                    by_cases hc29 : y2 = (13 : Int32)
                    · skip
                      have qq80 : v31 = (0 : Int32) := by rw [hv31, if_neg hc27, if_neg hc28, if_pos hc29]
                      exact absurd qq80 hc32
                    · skip
                      show Steps p.tables e below (s₁.setTop (mkF m 28 #[.val (.ref r0), .val (.int p1), .val (.int (2 : Int32))] [(.int (13 : Int32)), (.int y2)])) _
                      refine XS.icmpNo X0.here hx rfl (hb hby d3_28) rfl (feq hc29).1 ?_
                      show Steps p.tables e below (s₁.setTop (mkF m 31 #[.val (.ref r0), .val (.int p1), .val (.int (2 : Int32))] [])) _
                      refine XS.aloadN X0.here hx rfl (hb hby d3_31) rfl rfl ?_
                      show Steps p.tables e below (s₁.setTop (mkF m 32 #[.val (.ref r0), .val (.int p1), .val (.int (2 : Int32))] [(.ref r0)])) _
                      refine XS.iloadN X0.here hx rfl (hb hby d3_32) rfl ?_
                      show Steps p.tables e below (s₁.setTop (mkF m 33 #[.val (.ref r0), .val (.int p1), .val (.int (2 : Int32))] [(.int (2 : Int32)), (.ref r0)])) _
                      refine X0.baloadBytes hx (j := (2 : Int32)) (v := (.int y2)) (by rw [e0]; exact Ar1.1) (State.isArrayOf_alike hZ.alike Ar1.2.1) Ar1.2.2 (inb_of S1 ⟨by decide, by decide⟩) (Has.at Ha1 (inb_of S1 ⟨by decide, by decide⟩) rfl) (g := (mkF m 33 #[.val (.ref r0), .val (.int p1), .val (.int (2 : Int32))] [(.int (2 : Int32)), (.ref r0)])) rfl rfl (hb hby d3_33) _ ?_
                      show Steps p.tables e below (s₁.setTop (mkF m 34 #[.val (.ref r0), .val (.int p1), .val (.int (2 : Int32))] [(.int y2)])) _
                      refine XS.bipush X0.here hx rfl (hb hby d3_34) ?_
                      by_cases hc30 : y2 = (10 : Int32)
                      · skip
                        have qq81 : v31 = (0 : Int32) := by rw [hv31, if_neg hc27, if_neg hc28, if_neg hc29, if_pos hc30]
                        exact absurd qq81 hc32
                      · skip
                        show Steps p.tables e below (s₁.setTop (mkF m 36 #[.val (.ref r0), .val (.int p1), .val (.int (2 : Int32))] [(.int (10 : Int32)), (.int y2)])) _
                        refine XS.icmpNo X0.here hx rfl (hb hby d3_36) rfl (feq hc30).1 ?_
                        exact k)
              have ks82 : own_R p e below (s₁.setTop (entryFrame m #[(.ref r0), (.int p1)] 3)) (s₁.setTop (mkF m 40 #[.val (.ref r0), .val (.int p1), .val (.int (2 : Int32))] [(.int (0 : Int32))])) := fun t k => ks77 t (by
                show Steps p.tables e below (s₁.setTop (mkF m 39 #[.val (.ref r0), .val (.int p1), .val (.int (2 : Int32))] [])) _
                refine XS.iconst X0.here hx rfl (hb hby d3_39) ?_
                exact k)
              obtain ⟨fs, hr, hrun, hended, hW, hsame⟩ := X0.leave (v := some (.int (0 : Int32))) (fun h => by rw [Bd.returns] at h; cases h)
              refine ⟨_, _, ks82 _ ?_, hrun, hended, _, _, rfl, ?_, ⟨_, rfl⟩, hW, hsame.mono (by decide) (by decide)⟩
              · exact retN X0 hx (t := .boolean) Bd.returns (by simp) (hb hby d3_40) hr
              · show Q3 Z r0 p1 k1 y0 y1 y2 y3 y4 h0 n0 _ s₁.heap _
                rw [e0]
                subst hv31
                subst hv20
                subst hv9
                refine ⟨?_, N0, rfl⟩
                rw [own_blank, if_pos hc3, if_pos hc10, if_pos hc14, if_pos hc21, if_pos hc25, if_neg hc32]
          · skip
            have ks83 : own_R p e below (s₁.setTop (entryFrame m #[(.ref r0), (.int p1)] 3)) (s₁.setTop (mkF m 48 #[.val (.ref r0), .val (.int p1), .val (.int (2 : Int32))] [(.int (1 : Int32))])) := fun t k => ks24 t (by
              show Steps p.tables e below (s₁.setTop (mkF m 4 #[.val (.ref r0), .val (.int p1), .val (.int (2 : Int32))] [(.int p1), (.int (2 : Int32))])) _
              refine XS.icmpYes X0.here hx rfl (pc0 := 4) (pc' := 47) rfl (hb hby d3_4) rfl (flt hc25).2.1 (by decide) (by decide) ?_
              show Steps p.tables e below (s₁.setTop (mkF m 47 #[.val (.ref r0), .val (.int p1), .val (.int (2 : Int32))] [])) _
              refine XS.iconst X0.here hx rfl (hb hby d3_47) ?_
              exact k)
            obtain ⟨fs, hr, hrun, hended, hW, hsame⟩ := X0.leave (v := some (.int (1 : Int32))) (fun h => by rw [Bd.returns] at h; cases h)
            refine ⟨_, _, ks83 _ ?_, hrun, hended, _, _, rfl, ?_, ⟨_, rfl⟩, hW, hsame.mono (by decide) (by decide)⟩
            · exact retN X0 hx (t := .boolean) Bd.returns (by simp) (hb hby d3_48) hr
            · show Q3 Z r0 p1 k1 y0 y1 y2 y3 y4 h0 n0 _ s₁.heap _
              rw [e0]
              subst hv20
              subst hv9
              refine ⟨?_, N0, rfl⟩
              rw [own_blank, if_pos hc3, if_pos hc10, if_pos hc14, if_pos hc21, if_neg hc25]
        · skip
          have ks85 : own_R p e below (s₁.setTop (entryFrame m #[(.ref r0), (.int p1)] 3)) (s₁.setTop (mkF m 39 #[.val (.ref r0), .val (.int p1), .val (.int (1 : Int32))] [])) := fun t k => ks15 t (by
            by_cases hc16 : y1 = (32 : Int32)
            · skip
              have qq86 : v20 = (0 : Int32) := by rw [hv20, if_pos hc16]
              exact absurd qq86 hc21
            · skip
              show Steps p.tables e below (s₁.setTop (mkF m 12 #[.val (.ref r0), .val (.int p1), .val (.int (1 : Int32))] [(.int (32 : Int32)), (.int y1)])) _
              refine XS.icmpNo X0.here hx rfl (hb hby d3_12) rfl (feq hc16).1 ?_
              show Steps p.tables e below (s₁.setTop (mkF m 15 #[.val (.ref r0), .val (.int p1), .val (.int (1 : Int32))] [])) _
              refine XS.aloadN X0.here hx rfl (hb hby d3_15) rfl rfl ?_
              show Steps p.tables e below (s₁.setTop (mkF m 16 #[.val (.ref r0), .val (.int p1), .val (.int (1 : Int32))] [(.ref r0)])) _
              refine XS.iloadN X0.here hx rfl (hb hby d3_16) rfl ?_
              show Steps p.tables e below (s₁.setTop (mkF m 17 #[.val (.ref r0), .val (.int p1), .val (.int (1 : Int32))] [(.int (1 : Int32)), (.ref r0)])) _
              refine X0.baloadBytes hx (j := (1 : Int32)) (v := (.int y1)) (by rw [e0]; exact Ar1.1) (State.isArrayOf_alike hZ.alike Ar1.2.1) Ar1.2.2 (inb_of S1 ⟨by decide, by decide⟩) (Has.at Ha1 (inb_of S1 ⟨by decide, by decide⟩) rfl) (g := (mkF m 17 #[.val (.ref r0), .val (.int p1), .val (.int (1 : Int32))] [(.int (1 : Int32)), (.ref r0)])) rfl rfl (hb hby d3_17) _ ?_
              show Steps p.tables e below (s₁.setTop (mkF m 18 #[.val (.ref r0), .val (.int p1), .val (.int (1 : Int32))] [(.int y1)])) _
              refine XS.bipush X0.here hx rfl (hb hby d3_18) ?_
              by_cases hc17 : y1 = (9 : Int32)
              · skip
                have qq87 : v20 = (0 : Int32) := by rw [hv20, if_neg hc16, if_pos hc17]
                exact absurd qq87 hc21
              · skip
                show Steps p.tables e below (s₁.setTop (mkF m 20 #[.val (.ref r0), .val (.int p1), .val (.int (1 : Int32))] [(.int (9 : Int32)), (.int y1)])) _
                refine XS.icmpNo X0.here hx rfl (hb hby d3_20) rfl (feq hc17).1 ?_
                show Steps p.tables e below (s₁.setTop (mkF m 23 #[.val (.ref r0), .val (.int p1), .val (.int (1 : Int32))] [])) _
                refine XS.aloadN X0.here hx rfl (hb hby d3_23) rfl rfl ?_
                show Steps p.tables e below (s₁.setTop (mkF m 24 #[.val (.ref r0), .val (.int p1), .val (.int (1 : Int32))] [(.ref r0)])) _
                refine XS.iloadN X0.here hx rfl (hb hby d3_24) rfl ?_
                show Steps p.tables e below (s₁.setTop (mkF m 25 #[.val (.ref r0), .val (.int p1), .val (.int (1 : Int32))] [(.int (1 : Int32)), (.ref r0)])) _
                refine X0.baloadBytes hx (j := (1 : Int32)) (v := (.int y1)) (by rw [e0]; exact Ar1.1) (State.isArrayOf_alike hZ.alike Ar1.2.1) Ar1.2.2 (inb_of S1 ⟨by decide, by decide⟩) (Has.at Ha1 (inb_of S1 ⟨by decide, by decide⟩) rfl) (g := (mkF m 25 #[.val (.ref r0), .val (.int p1), .val (.int (1 : Int32))] [(.int (1 : Int32)), (.ref r0)])) rfl rfl (hb hby d3_25) _ ?_
                show Steps p.tables e below (s₁.setTop (mkF m 26 #[.val (.ref r0), .val (.int p1), .val (.int (1 : Int32))] [(.int y1)])) _
                refine XS.bipush X0.here hx rfl (hb hby d3_26) ?_
                by_cases hc18 : y1 = (13 : Int32)
                · skip
                  have qq88 : v20 = (0 : Int32) := by rw [hv20, if_neg hc16, if_neg hc17, if_pos hc18]
                  exact absurd qq88 hc21
                · skip
                  show Steps p.tables e below (s₁.setTop (mkF m 28 #[.val (.ref r0), .val (.int p1), .val (.int (1 : Int32))] [(.int (13 : Int32)), (.int y1)])) _
                  refine XS.icmpNo X0.here hx rfl (hb hby d3_28) rfl (feq hc18).1 ?_
                  show Steps p.tables e below (s₁.setTop (mkF m 31 #[.val (.ref r0), .val (.int p1), .val (.int (1 : Int32))] [])) _
                  refine XS.aloadN X0.here hx rfl (hb hby d3_31) rfl rfl ?_
                  show Steps p.tables e below (s₁.setTop (mkF m 32 #[.val (.ref r0), .val (.int p1), .val (.int (1 : Int32))] [(.ref r0)])) _
                  refine XS.iloadN X0.here hx rfl (hb hby d3_32) rfl ?_
                  show Steps p.tables e below (s₁.setTop (mkF m 33 #[.val (.ref r0), .val (.int p1), .val (.int (1 : Int32))] [(.int (1 : Int32)), (.ref r0)])) _
                  refine X0.baloadBytes hx (j := (1 : Int32)) (v := (.int y1)) (by rw [e0]; exact Ar1.1) (State.isArrayOf_alike hZ.alike Ar1.2.1) Ar1.2.2 (inb_of S1 ⟨by decide, by decide⟩) (Has.at Ha1 (inb_of S1 ⟨by decide, by decide⟩) rfl) (g := (mkF m 33 #[.val (.ref r0), .val (.int p1), .val (.int (1 : Int32))] [(.int (1 : Int32)), (.ref r0)])) rfl rfl (hb hby d3_33) _ ?_
                  show Steps p.tables e below (s₁.setTop (mkF m 34 #[.val (.ref r0), .val (.int p1), .val (.int (1 : Int32))] [(.int y1)])) _
                  refine XS.bipush X0.here hx rfl (hb hby d3_34) ?_
                  by_cases hc19 : y1 = (10 : Int32)
                  · skip
                    have qq89 : v20 = (0 : Int32) := by rw [hv20, if_neg hc16, if_neg hc17, if_neg hc18, if_pos hc19]
                    exact absurd qq89 hc21
                  · skip
                    show Steps p.tables e below (s₁.setTop (mkF m 36 #[.val (.ref r0), .val (.int p1), .val (.int (1 : Int32))] [(.int (10 : Int32)), (.int y1)])) _
                    refine XS.icmpNo X0.here hx rfl (hb hby d3_36) rfl (feq hc19).1 ?_
                    exact k)
          have ks90 : own_R p e below (s₁.setTop (entryFrame m #[(.ref r0), (.int p1)] 3)) (s₁.setTop (mkF m 40 #[.val (.ref r0), .val (.int p1), .val (.int (1 : Int32))] [(.int (0 : Int32))])) := fun t k => ks85 t (by
            show Steps p.tables e below (s₁.setTop (mkF m 39 #[.val (.ref r0), .val (.int p1), .val (.int (1 : Int32))] [])) _
            refine XS.iconst X0.here hx rfl (hb hby d3_39) ?_
            exact k)
          obtain ⟨fs, hr, hrun, hended, hW, hsame⟩ := X0.leave (v := some (.int (0 : Int32))) (fun h => by rw [Bd.returns] at h; cases h)
          refine ⟨_, _, ks90 _ ?_, hrun, hended, _, _, rfl, ?_, ⟨_, rfl⟩, hW, hsame.mono (by decide) (by decide)⟩
          · exact retN X0 hx (t := .boolean) Bd.returns (by simp) (hb hby d3_40) hr
          · show Q3 Z r0 p1 k1 y0 y1 y2 y3 y4 h0 n0 _ s₁.heap _
            rw [e0]
            subst hv20
            subst hv9
            refine ⟨?_, N0, rfl⟩
            rw [own_blank, if_pos hc3, if_pos hc10, if_pos hc14, if_neg hc21]
      · skip
        have ks91 : own_R p e below (s₁.setTop (entryFrame m #[(.ref r0), (.int p1)] 3)) (s₁.setTop (mkF m 48 #[.val (.ref r0), .val (.int p1), .val (.int (1 : Int32))] [(.int (1 : Int32))])) := fun t k => ks13 t (by
          show Steps p.tables e below (s₁.setTop (mkF m 4 #[.val (.ref r0), .val (.int p1), .val (.int (1 : Int32))] [(.int p1), (.int (1 : Int32))])) _
          refine XS.icmpYes X0.here hx rfl (pc0 := 4) (pc' := 47) rfl (hb hby d3_4) rfl (flt hc14).2.1 (by decide) (by decide) ?_
          show Steps p.tables e below (s₁.setTop (mkF m 47 #[.val (.ref r0), .val (.int p1), .val (.int (1 : Int32))] [])) _
          refine XS.iconst X0.here hx rfl (hb hby d3_47) ?_
          exact k)
        obtain ⟨fs, hr, hrun, hended, hW, hsame⟩ := X0.leave (v := some (.int (1 : Int32))) (fun h => by rw [Bd.returns] at h; cases h)
        refine ⟨_, _, ks91 _ ?_, hrun, hended, _, _, rfl, ?_, ⟨_, rfl⟩, hW, hsame.mono (by decide) (by decide)⟩
        · exact retN X0 hx (t := .boolean) Bd.returns (by simp) (hb hby d3_48) hr
        · show Q3 Z r0 p1 k1 y0 y1 y2 y3 y4 h0 n0 _ s₁.heap _
          rw [e0]
          subst hv9
          refine ⟨?_, N0, rfl⟩
          rw [own_blank, if_pos hc3, if_pos hc10, if_neg hc14]
    · skip
      have ks93 : own_R p e below (s₁.setTop (entryFrame m #[(.ref r0), (.int p1)] 3)) (s₁.setTop (mkF m 39 #[.val (.ref r0), .val (.int p1), .val (.int (0 : Int32))] [])) := fun t k => ks4 t (by
        by_cases hc5 : y0 = (32 : Int32)
        · skip
          have qq94 : v9 = (0 : Int32) := by rw [hv9, if_pos hc5]
          exact absurd qq94 hc10
        · skip
          show Steps p.tables e below (s₁.setTop (mkF m 12 #[.val (.ref r0), .val (.int p1), .val (.int (0 : Int32))] [(.int (32 : Int32)), (.int y0)])) _
          refine XS.icmpNo X0.here hx rfl (hb hby d3_12) rfl (feq hc5).1 ?_
          show Steps p.tables e below (s₁.setTop (mkF m 15 #[.val (.ref r0), .val (.int p1), .val (.int (0 : Int32))] [])) _
          refine XS.aloadN X0.here hx rfl (hb hby d3_15) rfl rfl ?_
          show Steps p.tables e below (s₁.setTop (mkF m 16 #[.val (.ref r0), .val (.int p1), .val (.int (0 : Int32))] [(.ref r0)])) _
          refine XS.iloadN X0.here hx rfl (hb hby d3_16) rfl ?_
          show Steps p.tables e below (s₁.setTop (mkF m 17 #[.val (.ref r0), .val (.int p1), .val (.int (0 : Int32))] [(.int (0 : Int32)), (.ref r0)])) _
          refine X0.baloadBytes hx (j := (0 : Int32)) (v := (.int y0)) (by rw [e0]; exact Ar1.1) (State.isArrayOf_alike hZ.alike Ar1.2.1) Ar1.2.2 (inb_of S1 ⟨by decide, by decide⟩) (Has.at Ha1 (inb_of S1 ⟨by decide, by decide⟩) rfl) (g := (mkF m 17 #[.val (.ref r0), .val (.int p1), .val (.int (0 : Int32))] [(.int (0 : Int32)), (.ref r0)])) rfl rfl (hb hby d3_17) _ ?_
          show Steps p.tables e below (s₁.setTop (mkF m 18 #[.val (.ref r0), .val (.int p1), .val (.int (0 : Int32))] [(.int y0)])) _
          refine XS.bipush X0.here hx rfl (hb hby d3_18) ?_
          by_cases hc6 : y0 = (9 : Int32)
          · skip
            have qq95 : v9 = (0 : Int32) := by rw [hv9, if_neg hc5, if_pos hc6]
            exact absurd qq95 hc10
          · skip
            show Steps p.tables e below (s₁.setTop (mkF m 20 #[.val (.ref r0), .val (.int p1), .val (.int (0 : Int32))] [(.int (9 : Int32)), (.int y0)])) _
            refine XS.icmpNo X0.here hx rfl (hb hby d3_20) rfl (feq hc6).1 ?_
            show Steps p.tables e below (s₁.setTop (mkF m 23 #[.val (.ref r0), .val (.int p1), .val (.int (0 : Int32))] [])) _
            refine XS.aloadN X0.here hx rfl (hb hby d3_23) rfl rfl ?_
            show Steps p.tables e below (s₁.setTop (mkF m 24 #[.val (.ref r0), .val (.int p1), .val (.int (0 : Int32))] [(.ref r0)])) _
            refine XS.iloadN X0.here hx rfl (hb hby d3_24) rfl ?_
            show Steps p.tables e below (s₁.setTop (mkF m 25 #[.val (.ref r0), .val (.int p1), .val (.int (0 : Int32))] [(.int (0 : Int32)), (.ref r0)])) _
            refine X0.baloadBytes hx (j := (0 : Int32)) (v := (.int y0)) (by rw [e0]; exact Ar1.1) (State.isArrayOf_alike hZ.alike Ar1.2.1) Ar1.2.2 (inb_of S1 ⟨by decide, by decide⟩) (Has.at Ha1 (inb_of S1 ⟨by decide, by decide⟩) rfl) (g := (mkF m 25 #[.val (.ref r0), .val (.int p1), .val (.int (0 : Int32))] [(.int (0 : Int32)), (.ref r0)])) rfl rfl (hb hby d3_25) _ ?_
            show Steps p.tables e below (s₁.setTop (mkF m 26 #[.val (.ref r0), .val (.int p1), .val (.int (0 : Int32))] [(.int y0)])) _
            refine XS.bipush X0.here hx rfl (hb hby d3_26) ?_
            by_cases hc7 : y0 = (13 : Int32)
            · skip
              have qq96 : v9 = (0 : Int32) := by rw [hv9, if_neg hc5, if_neg hc6, if_pos hc7]
              exact absurd qq96 hc10
            · skip
              show Steps p.tables e below (s₁.setTop (mkF m 28 #[.val (.ref r0), .val (.int p1), .val (.int (0 : Int32))] [(.int (13 : Int32)), (.int y0)])) _
              refine XS.icmpNo X0.here hx rfl (hb hby d3_28) rfl (feq hc7).1 ?_
              show Steps p.tables e below (s₁.setTop (mkF m 31 #[.val (.ref r0), .val (.int p1), .val (.int (0 : Int32))] [])) _
              refine XS.aloadN X0.here hx rfl (hb hby d3_31) rfl rfl ?_
              show Steps p.tables e below (s₁.setTop (mkF m 32 #[.val (.ref r0), .val (.int p1), .val (.int (0 : Int32))] [(.ref r0)])) _
              refine XS.iloadN X0.here hx rfl (hb hby d3_32) rfl ?_
              show Steps p.tables e below (s₁.setTop (mkF m 33 #[.val (.ref r0), .val (.int p1), .val (.int (0 : Int32))] [(.int (0 : Int32)), (.ref r0)])) _
              refine X0.baloadBytes hx (j := (0 : Int32)) (v := (.int y0)) (by rw [e0]; exact Ar1.1) (State.isArrayOf_alike hZ.alike Ar1.2.1) Ar1.2.2 (inb_of S1 ⟨by decide, by decide⟩) (Has.at Ha1 (inb_of S1 ⟨by decide, by decide⟩) rfl) (g := (mkF m 33 #[.val (.ref r0), .val (.int p1), .val (.int (0 : Int32))] [(.int (0 : Int32)), (.ref r0)])) rfl rfl (hb hby d3_33) _ ?_
              show Steps p.tables e below (s₁.setTop (mkF m 34 #[.val (.ref r0), .val (.int p1), .val (.int (0 : Int32))] [(.int y0)])) _
              refine XS.bipush X0.here hx rfl (hb hby d3_34) ?_
              by_cases hc8 : y0 = (10 : Int32)
              · skip
                have qq97 : v9 = (0 : Int32) := by rw [hv9, if_neg hc5, if_neg hc6, if_neg hc7, if_pos hc8]
                exact absurd qq97 hc10
              · skip
                show Steps p.tables e below (s₁.setTop (mkF m 36 #[.val (.ref r0), .val (.int p1), .val (.int (0 : Int32))] [(.int (10 : Int32)), (.int y0)])) _
                refine XS.icmpNo X0.here hx rfl (hb hby d3_36) rfl (feq hc8).1 ?_
                exact k)
      have ks98 : own_R p e below (s₁.setTop (entryFrame m #[(.ref r0), (.int p1)] 3)) (s₁.setTop (mkF m 40 #[.val (.ref r0), .val (.int p1), .val (.int (0 : Int32))] [(.int (0 : Int32))])) := fun t k => ks93 t (by
        show Steps p.tables e below (s₁.setTop (mkF m 39 #[.val (.ref r0), .val (.int p1), .val (.int (0 : Int32))] [])) _
        refine XS.iconst X0.here hx rfl (hb hby d3_39) ?_
        exact k)
      obtain ⟨fs, hr, hrun, hended, hW, hsame⟩ := X0.leave (v := some (.int (0 : Int32))) (fun h => by rw [Bd.returns] at h; cases h)
      refine ⟨_, _, ks98 _ ?_, hrun, hended, _, _, rfl, ?_, ⟨_, rfl⟩, hW, hsame.mono (by decide) (by decide)⟩
      · exact retN X0 hx (t := .boolean) Bd.returns (by simp) (hb hby d3_40) hr
      · show Q3 Z r0 p1 k1 y0 y1 y2 y3 y4 h0 n0 _ s₁.heap _
        rw [e0]
        subst hv9
        refine ⟨?_, N0, rfl⟩
        rw [own_blank, if_pos hc3, if_neg hc10]
  · skip
    have ks99 : own_R p e below (s₁.setTop (entryFrame m #[(.ref r0), (.int p1)] 3)) (s₁.setTop (mkF m 48 #[.val (.ref r0), .val (.int p1), .val (.int (0 : Int32))] [(.int (1 : Int32))])) := fun t k => ks2 t (by
      show Steps p.tables e below (s₁.setTop (mkF m 4 #[.val (.ref r0), .val (.int p1), .val (.int (0 : Int32))] [(.int p1), (.int (0 : Int32))])) _
      refine XS.icmpYes X0.here hx rfl (pc0 := 4) (pc' := 47) rfl (hb hby d3_4) rfl (flt hc3).2.1 (by decide) (by decide) ?_
      show Steps p.tables e below (s₁.setTop (mkF m 47 #[.val (.ref r0), .val (.int p1), .val (.int (0 : Int32))] [])) _
      refine XS.iconst X0.here hx rfl (hb hby d3_47) ?_
      exact k)
    obtain ⟨fs, hr, hrun, hended, hW, hsame⟩ := X0.leave (v := some (.int (1 : Int32))) (fun h => by rw [Bd.returns] at h; cases h)
    refine ⟨_, _, ks99 _ ?_, hrun, hended, _, _, rfl, ?_, ⟨_, rfl⟩, hW, hsame.mono (by decide) (by decide)⟩
    · exact retN X0 hx (t := .boolean) Bd.returns (by simp) (hb hby d3_48) hr
    · show Q3 Z r0 p1 k1 y0 y1 y2 y3 y4 h0 n0 _ s₁.heap _
      rw [e0]
      refine ⟨?_, N0, rfl⟩
      rw [own_blank, if_neg hc3]

theorem own_six (b : Int32) : ((b &&& (2147483647 : Int32)) % (6 : Int32)) = 0 ∨ ((b &&& (2147483647 : Int32)) % (6 : Int32)) = 1 ∨ ((b &&& (2147483647 : Int32)) % (6 : Int32)) = 2 ∨ ((b &&& (2147483647 : Int32)) % (6 : Int32)) = 3 ∨ ((b &&& (2147483647 : Int32)) % (6 : Int32)) = 4 ∨ ((b &&& (2147483647 : Int32)) % (6 : Int32)) = 5 := by
  have h1 : (b &&& (2147483647 : Int32)).toInt = b.toInt % 2147483648 := c_mask b 2147483647 31 (by decide) (by decide)
  have h3 := (c_irem (b &&& (2147483647 : Int32)) 6 6 rfl).1 (by omega)
  generalize ((b &&& (2147483647 : Int32)) % (6 : Int32)) = d at *
  simp only [← Int32.toInt_inj]
  show d.toInt = 0 ∨ d.toInt = 1 ∨ d.toInt = 2 ∨ d.toInt = 3 ∨ d.toInt = 4 ∨ d.toInt = 5
  omega
theorem own_wi (y : Int32) : ((if y = (32 : Int32) then (0 : Int32) else (if y = (9 : Int32) then (0 : Int32) else (if y = (13 : Int32) then (0 : Int32) else (if y = (10 : Int32) then (0 : Int32) else (1 : Int32))))) = (0 : Int32)) = ¬ (own_ws y = 0) := by
  unfold own_ws
  by_cases h1 : y = 32
  · simp [h1]
  by_cases h2 : y = 9
  · simp [h2]
  by_cases h3 : y = 13
  · simp [h3]
  by_cases h4 : y = 10
  · simp [h4]
  simp [h1, h2, h3, h4]
theorem pn_0 : plainName "com/example/rackline/rackline/protocols/ssc/MessageReaderIsBlankPinLaw" = true := by first | (simp [plainName, overriddenIn]; done) | decide +kernel
theorem pd_0 : parseMethodDescriptor "(I)B" = some ⟨[.int], some .byte⟩ := by decide +kernel
theorem pd_1 : parseMethodDescriptor "(B)Z" = some ⟨[.byte], some .boolean⟩ := by decide +kernel
theorem pd_2 : parseMethodDescriptor "([BI)Z" = some ⟨[(.array .byte), .int], some .boolean⟩ := by decide +kernel
theorem ef_0 (m : MethodId) (x0 : Int32) (x1 : Int32) (x2 : Int32) (x3 : Int32) (x4 : Int32) (x5 : Int32) : entryFrame m #[(.int x0), (.int x1), (.int x2), (.int x3), (.int x4), (.int x5)] maxLocals = mkF m 0 #[.val (.int x0), .val (.int x1), .val (.int x2), .val (.int x3), .val (.int x4), .val (.int x5), .unset, .unset, .unset] [] := by first | (simp [entryFrame, mkF, argsToLocals, Value.category, maxLocals]; done) | rfl
def Q0 (Z : State) (p0 : Int32) (p1 : Int32) (p2 : Int32) (p3 : Int32) (p4 : Int32) (p5 : Int32) (h0 : Heap) (n0 : Nat) (v : Option Value) (h : Heap) (L : List Loc) : Prop := v = some (.int (1 : Int32)) ∧ Fr n0 L
set_option maxRecDepth 65536 in
set_option maxHeartbeats 40000000 in
theorem rm0 (l : Launch) (Z : State) (a0 : Array Value) (hw : ∀ d ∈ tables_1, d.before a0 Z = true) (ws : List Jvm.Cond) (p0 : Int32) (p1 : Int32) (p2 : Int32) (p3 : Int32) (p4 : Int32) (p5 : Int32) (h0 : Heap) (n0 : Nat) (Z0 : n0 ≤ h0.size) :
    MetFree l x (head1 (Jvm.Cond.code x code maxLocals ret :: ws) room_1) (fun a U => a = #[(.int p0), (.int p1), (.int p2), (.int p3), (.int p4), (.int p5)] ∧ Z.Warmed39 U.vm ∧ U.heap = h0) (fun _ _ _ _ _ => True) (fun _ U o U' => ∃ v L, o = .returned v ∧ Q0 Z p0 p1 p2 p3 p4 p5 h0 n0 v U'.heap L ∧ FrameEnd U o U' L 16 128) := by
  refine MetFree.of_bodySF (plainFor_of_name pn_0) hisR ?_
  intro p e s m args below meth c s₁ Bd hml0 hP hK
  obtain ⟨rfl, hZ, hh⟩ := hP
  have hx := Bd.exec
  have hby := Bd.bytes
  have hml : c.maxLocals = 9 := hml0
  have hown : s.vm.findClass "com/example/rackline/rackline/protocols/ssc/MessageReaderIsBlankPinLaw" = some m.cls := findClass_of_methodNamed Bd.named
  have hnm := (name_of_methodNamed Bd.named Bd.method).1
  have X0 : Stand p l e room_1 s m #[(.int p0), (.int p1), (.int p2), (.int p3), (.int p4), (.int p5)] below meth c s₁ [] 0 0 := Stand.of_body Bd
  have e0 : s₁.heap = h0 := by rw [← hh, Bd.state]; rfl
  have N0 := Fr.nil n0
  have k0 : own_R p e below (s₁.setTop (entryFrame m #[(.int p0), (.int p1), (.int p2), (.int p3), (.int p4), (.int p5)] maxLocals)) (s₁.setTop (mkF m 0 #[.val (.int p0), .val (.int p1), .val (.int p2), .val (.int p3), .val (.int p4), .val (.int p5), .unset, .unset, .unset] [])) := fun t k => castTop (ef_0 m p0 p1 p2 p3 p4 p5) k
  have ks1 : own_R p e below (s₁.setTop (entryFrame m #[(.int p0), (.int p1), (.int p2), (.int p3), (.int p4), (.int p5)] maxLocals)) (s₁.setTop (mkF m 1 #[.val (.int p0), .val (.int p1), .val (.int p2), .val (.int p3), .val (.int p4), .val (.int p5), .unset, .unset, .unset] [(.int (5 : Int32))])) := fun t k => k0 t (by
    show Steps p.tables e below (s₁.setTop (mkF m 0 #[.val (.int p0), .val (.int p1), .val (.int p2), .val (.int p3), .val (.int p4), .val (.int p5), .unset, .unset, .unset] [])) _
    refine XS.iconst X0.here hx rfl (hb hby at_0) ?_
    exact k)
  obtain ⟨T2, h2, c2, X2, e2, E2, A2, st2⟩ := newP X0 hx hZ (hw _ (List.mem_of_getElem? (i := 0) rfl)) e0 (g := (mkF m 1 #[.val (.int p0), .val (.int p1), .val (.int p2), .val (.int p3), .val (.int p4), .val (.int p5), .unset, .unset, .unset] [(.int (5 : Int32))])) rfl (hb hby at_1) rfl (by decide) (cap := 5) (by decide) (by decide) (by decide) (by decide)
  obtain ⟨b2, g2⟩ : ∃ z, z = h0.size := ⟨_, rfl⟩
  rw [← g2] at A2 st2
  have g_b2 : n0 ≤ b2 := Nat.le_trans Z0 (Nat.le_of_eq g2.symm)
  have sz_b2 : h0.size ≤ b2 := Nat.le_trans (Keep.refl h0 []).1 (Nat.le_of_eq g2.symm)
  have KH2 : Keep h0 h2 [] := (Keep.refl h0 []).ext E2
  have Zn2 : n0 ≤ h2.size := Nat.le_trans Z0 E2.1
  have V2 : Arv Z h2 b2 c2 .byte (5 : Int32) [(.int (0 : Int32)), (.int (0 : Int32)), (.int (0 : Int32)), (.int (0 : Int32)), (.int (0 : Int32))] (.int (0 : Int32)) := (Arv.new A2 (by decide)).pad (pad_rep [] (.int (0 : Int32)) 5)
  have ks3 : own_R p e below (s₁.setTop (entryFrame m #[(.int p0), (.int p1), (.int p2), (.int p3), (.int p4), (.int p5)] maxLocals)) (T2.setTop (mkF m 3 #[.val (.int p0), .val (.int p1), .val (.int p2), .val (.int p3), .val (.int p4), .val (.int p5), .unset, .unset, .unset] [(.ref b2)])) := fun t k => ks1 t (st2 t k)
  have ks4 : own_R p e below (s₁.setTop (entryFrame m #[(.int p0), (.int p1), (.int p2), (.int p3), (.int p4), (.int p5)] maxLocals)) (T2.setTop (mkF m 9 #[.val (.int p0), .val (.int p1), .val (.int p2), .val (.int p3), .val (.int p4), .val (.int p5), .val (.ref b2), .unset, .unset] [(.int p0), (.int (0 : Int32)), (.ref b2)])) := fun t k => ks3 t (by
    show Steps p.tables e below (T2.setTop (mkF m 3 #[.val (.int p0), .val (.int p1), .val (.int p2), .val (.int p3), .val (.int p4), .val (.int p5), .unset, .unset, .unset] [(.ref b2)])) _
    refine XS.astore X2.here hx rfl (hb hby at_3) rfl rfl (l' := #[.val (.int p0), .val (.int p1), .val (.int p2), .val (.int p3), .val (.int p4), .val (.int p5), .val (.ref b2), .unset, .unset]) rfl ?_
    show Steps p.tables e below (T2.setTop (mkF m 5 #[.val (.int p0), .val (.int p1), .val (.int p2), .val (.int p3), .val (.int p4), .val (.int p5), .val (.ref b2), .unset, .unset] [])) _
    refine XS.aload X2.here hx rfl (hb hby at_5) rfl rfl ?_
    show Steps p.tables e below (T2.setTop (mkF m 7 #[.val (.int p0), .val (.int p1), .val (.int p2), .val (.int p3), .val (.int p4), .val (.int p5), .val (.ref b2), .unset, .unset] [(.ref b2)])) _
    refine XS.iconst X2.here hx rfl (hb hby at_7) ?_
    show Steps p.tables e below (T2.setTop (mkF m 8 #[.val (.int p0), .val (.int p1), .val (.int p2), .val (.int p3), .val (.int p4), .val (.int p5), .val (.ref b2), .unset, .unset] [(.int (0 : Int32)), (.ref b2)])) _
    refine XS.iloadN X2.here hx rfl (hb hby at_8) rfl ?_
    exact k)
  obtain ⟨_, _, ⟨T5, L5, k5, n5⟩, -, X5, ⟨Lc5, hQ5, lq5, yq5, zq5⟩, st5⟩ := Jvm.LawKit.callS X2 hx (y := (⟨"com/example/rackline/rackline/protocols/ssc/MessageReaderIsBlankPinLaw", "draw", "(I)B"⟩ : MethodName)) hown (mvT hZ (hw _ (List.mem_of_getElem? (i := 1) rfl))) (mvT hZ (hw _ (List.mem_of_getElem? (i := 2) rfl))) (mvT hZ (hw _ (List.mem_of_getElem? (i := 3) rfl))) (mvT hZ (hw _ (List.mem_of_getElem? (i := 4) rfl))) (by decide) (backOf (W := 2) (rm1 l Z a0 hw [] p0 h2 n0 Zn2 ) hZ (hw _ (List.mem_of_getElem? (i := 4) rfl)) (hw _ (List.mem_of_getElem? (i := 3) rfl)) (by decide) (by decide)) (g := (mkF m 9 #[.val (.int p0), .val (.int p1), .val (.int p2), .val (.int p3), .val (.int p4), .val (.int p5), .val (.ref b2), .unset, .unset] [(.int p0), (.int (0 : Int32)), (.ref b2)])) rfl (by rw [hml]; rfl) (argsL := [(.int p0)]) (rest := [(.int (0 : Int32)), (.ref b2)]) (lenOf pd_0 rfl) rfl (by show 2 * 0 + _ ≤ _; exact Nat.le_of_eq rfl) (hb hby at_9) (fun _ _ => ⟨rfl, e2, (by decide : 1 + 0 ≤ _), (by decide : 5 + 0 ≤ _)⟩)
  dsimp only [Pt.U, Pt.locs, Pt.cells, Pt.slots] at X5 lq5 yq5 zq5 st5 hQ5
  subst lq5 yq5 zq5
  obtain ⟨rfl, Nq5, eq5⟩ := hQ5
  have N5 := Fr.app N0 Nq5
  have ks6 : own_R p e below (s₁.setTop (entryFrame m #[(.int p0), (.int p1), (.int p2), (.int p3), (.int p4), (.int p5)] maxLocals)) (T5.setTop (mkF m 12 #[.val (.int p0), .val (.int p1), .val (.int p2), .val (.int p3), .val (.int p4), .val (.int p5), .val (.ref b2), .unset, .unset] [(.int (own_draw p0)), (.int (0 : Int32)), (.ref b2)])) := fun t k => ks4 t (st5 t k)
  obtain ⟨cl7, Ar7, qa7, S7, Na7, Ha7, Ga7⟩ := id V2
  have hin7 : ¬ ((0 : Int32) < 0 ∨ cl7.slots.size ≤ ((0 : Int32)).toNatClampNeg) := inb_of S7 ⟨by decide, by decide⟩
  obtain ⟨T8, h8, X8, e8, W8, st8⟩ := stB X5 hx hZ eq5 Ar7 (j := (0 : Int32)) hin7 (g := (mkF m 12 #[.val (.int p0), .val (.int p1), .val (.int p2), .val (.int p3), .val (.int p4), .val (.int p5), .val (.ref b2), .unset, .unset] [(.int (own_draw p0)), (.int (0 : Int32)), (.ref b2)])) rfl rfl (hb hby at_12)
  have V8 : Arv Z h8 b2 c2 .byte (5 : Int32) [(.int ((own_draw p0).toInt8.toInt32)), (.int (0 : Int32)), (.int (0 : Int32)), (.int (0 : Int32)), (.int (0 : Int32))] (.int (0 : Int32)) := Arv.set Ar7 qa7 S7 Na7 Ha7 Ga7 (fits_nar_byte _) W8 0 rfl (Nat.le_of_ble_eq_true rfl)
  have KH8 : Keep h0 h8 [] := KH2.wr W8 (Or.inr sz_b2)
  have Zn8 : n0 ≤ h8.size := Nat.le_trans Zn2 (Keep.of_wr W8).1
  have N8 := Fr.snoc X8 N5 g_b2
  have ks9 : own_R p e below (s₁.setTop (entryFrame m #[(.int p0), (.int p1), (.int p2), (.int p3), (.int p4), (.int p5)] maxLocals)) (T8.setTop (mkF m 13 #[.val (.int p0), .val (.int p1), .val (.int p2), .val (.int p3), .val (.int p4), .val (.int p5), .val (.ref b2), .unset, .unset] [])) := fun t k => ks6 t (st8 t k)
  have ks10 : own_R p e below (s₁.setTop (entryFrame m #[(.int p0), (.int p1), (.int p2), (.int p3), (.int p4), (.int p5)] maxLocals)) (T8.setTop (mkF m 17 #[.val (.int p0), .val (.int p1), .val (.int p2), .val (.int p3), .val (.int p4), .val (.int p5), .val (.ref b2), .unset, .unset] [(.int p1), (.int (1 : Int32)), (.ref b2)])) := fun t k => ks9 t (by
    show Steps p.tables e below (T8.setTop (mkF m 13 #[.val (.int p0), .val (.int p1), .val (.int p2), .val (.int p3), .val (.int p4), .val (.int p5), .val (.ref b2), .unset, .unset] [])) _
    refine XS.aload X8.here hx rfl (hb hby at_13) rfl rfl ?_
    show Steps p.tables e below (T8.setTop (mkF m 15 #[.val (.int p0), .val (.int p1), .val (.int p2), .val (.int p3), .val (.int p4), .val (.int p5), .val (.ref b2), .unset, .unset] [(.ref b2)])) _
    refine XS.iconst X8.here hx rfl (hb hby at_15) ?_
    show Steps p.tables e below (T8.setTop (mkF m 16 #[.val (.int p0), .val (.int p1), .val (.int p2), .val (.int p3), .val (.int p4), .val (.int p5), .val (.ref b2), .unset, .unset] [(.int (1 : Int32)), (.ref b2)])) _
    refine XS.iloadN X8.here hx rfl (hb hby at_16) rfl ?_
    exact k)
  obtain ⟨_, _, ⟨T11, L11, k11, n11⟩, -, X11, ⟨Lc11, hQ11, lq11, yq11, zq11⟩, st11⟩ := Jvm.LawKit.callS X8 hx (y := (⟨"com/example/rackline/rackline/protocols/ssc/MessageReaderIsBlankPinLaw", "draw", "(I)B"⟩ : MethodName)) hown (mvT hZ (hw _ (List.mem_of_getElem? (i := 1) rfl))) (mvT hZ (hw _ (List.mem_of_getElem? (i := 2) rfl))) (mvT hZ (hw _ (List.mem_of_getElem? (i := 3) rfl))) (mvT hZ (hw _ (List.mem_of_getElem? (i := 4) rfl))) (by decide) (backOf (W := 2) (rm1 l Z a0 hw [] p1 h8 n0 Zn8 ) hZ (hw _ (List.mem_of_getElem? (i := 4) rfl)) (hw _ (List.mem_of_getElem? (i := 3) rfl)) (by decide) (by decide)) (g := (mkF m 17 #[.val (.int p0), .val (.int p1), .val (.int p2), .val (.int p3), .val (.int p4), .val (.int p5), .val (.ref b2), .unset, .unset] [(.int p1), (.int (1 : Int32)), (.ref b2)])) rfl (by rw [hml]; rfl) (argsL := [(.int p1)]) (rest := [(.int (1 : Int32)), (.ref b2)]) (lenOf pd_0 rfl) rfl (by show 2 * 0 + _ ≤ _; exact Nat.le_of_eq rfl) (hb hby at_17) (fun _ _ => ⟨rfl, e8, (by decide : 1 + 0 ≤ _), (by decide : 5 + 0 ≤ _)⟩)
  dsimp only [Pt.U, Pt.locs, Pt.cells, Pt.slots] at X11 lq11 yq11 zq11 st11 hQ11
  subst lq11 yq11 zq11
  obtain ⟨rfl, Nq11, eq11⟩ := hQ11
  have N11 := Fr.app N8 Nq11
  have ks12 : own_R p e below (s₁.setTop (entryFrame m #[(.int p0), (.int p1), (.int p2), (.int p3), (.int p4), (.int p5)] maxLocals)) (T11.setTop (mkF m 20 #[.val (.int p0), .val (.int p1), .val (.int p2), .val (.int p3), .val (.int p4), .val (.int p5), .val (.ref b2), .unset, .unset] [(.int (own_draw p1)), (.int (1 : Int32)), (.ref b2)])) := fun t k => ks10 t (st11 t k)
  obtain ⟨cl13, Ar13, qa13, S13, Na13, Ha13, Ga13⟩ := id V8
  have hin13 : ¬ ((1 : Int32) < 0 ∨ cl13.slots.size ≤ ((1 : Int32)).toNatClampNeg) := inb_of S13 ⟨by decide, by decide⟩
  obtain ⟨T14, h14, X14, e14, W14, st14⟩ := stB X11 hx hZ eq11 Ar13 (j := (1 : Int32)) hin13 (g := (mkF m 20 #[.val (.int p0), .val (.int p1), .val (.int p2), .val (.int p3), .val (.int p4), .val (.int p5), .val (.ref b2), .unset, .unset] [(.int (own_draw p1)), (.int (1 : Int32)), (.ref b2)])) rfl rfl (hb hby at_20)
  have V14 : Arv Z h14 b2 c2 .byte (5 : Int32) [(.int ((own_draw p0).toInt8.toInt32)), (.int ((own_draw p1).toInt8.toInt32)), (.int (0 : Int32)), (.int (0 : Int32)), (.int (0 : Int32))] (.int (0 : Int32)) := Arv.set Ar13 qa13 S13 Na13 Ha13 Ga13 (fits_nar_byte _) W14 1 rfl (Nat.le_of_ble_eq_true rfl)
  have KH14 : Keep h0 h14 [] := KH8.wr W14 (Or.inr sz_b2)
  have Zn14 : n0 ≤ h14.size := Nat.le_trans Zn8 (Keep.of_wr W14).1
  have N14 := Fr.snoc X14 N11 g_b2
  have ks15 : own_R p e below (s₁.setTop (entryFrame m #[(.int p0), (.int p1), (.int p2), (.int p3), (.int p4), (.int p5)] maxLocals)) (T14.setTop (mkF m 21 #[.val (.int p0), .val (.int p1), .val (.int p2), .val (.int p3), .val (.int p4), .val (.int p5), .val (.ref b2), .unset, .unset] [])) := fun t k => ks12 t (st14 t k)
  have ks16 : own_R p e below (s₁.setTop (entryFrame m #[(.int p0), (.int p1), (.int p2), (.int p3), (.int p4), (.int p5)] maxLocals)) (T14.setTop (mkF m 25 #[.val (.int p0), .val (.int p1), .val (.int p2), .val (.int p3), .val (.int p4), .val (.int p5), .val (.ref b2), .unset, .unset] [(.int p2), (.int (2 : Int32)), (.ref b2)])) := fun t k => ks15 t (by
    show Steps p.tables e below (T14.setTop (mkF m 21 #[.val (.int p0), .val (.int p1), .val (.int p2), .val (.int p3), .val (.int p4), .val (.int p5), .val (.ref b2), .unset, .unset] [])) _
    refine XS.aload X14.here hx rfl (hb hby at_21) rfl rfl ?_
    show Steps p.tables e below (T14.setTop (mkF m 23 #[.val (.int p0), .val (.int p1), .val (.int p2), .val (.int p3), .val (.int p4), .val (.int p5), .val (.ref b2), .unset, .unset] [(.ref b2)])) _
    refine XS.iconst X14.here hx rfl (hb hby at_23) ?_
    show Steps p.tables e below (T14.setTop (mkF m 24 #[.val (.int p0), .val (.int p1), .val (.int p2), .val (.int p3), .val (.int p4), .val (.int p5), .val (.ref b2), .unset, .unset] [(.int (2 : Int32)), (.ref b2)])) _
    refine XS.iloadN X14.here hx rfl (hb hby at_24) rfl ?_
    exact k)
  obtain ⟨_, _, ⟨T17, L17, k17, n17⟩, -, X17, ⟨Lc17, hQ17, lq17, yq17, zq17⟩, st17⟩ := Jvm.LawKit.callS X14 hx (y := (⟨"com/example/rackline/rackline/protocols/ssc/MessageReaderIsBlankPinLaw", "draw", "(I)B"⟩ : MethodName)) hown (mvT hZ (hw _ (List.mem_of_getElem? (i := 1) rfl))) (mvT hZ (hw _ (List.mem_of_getElem? (i := 2) rfl))) (mvT hZ (hw _ (List.mem_of_getElem? (i := 3) rfl))) (mvT hZ (hw _ (List.mem_of_getElem? (i := 4) rfl))) (by decide) (backOf (W := 2) (rm1 l Z a0 hw [] p2 h14 n0 Zn14 ) hZ (hw _ (List.mem_of_getElem? (i := 4) rfl)) (hw _ (List.mem_of_getElem? (i := 3) rfl)) (by decide) (by decide)) (g := (mkF m 25 #[.val (.int p0), .val (.int p1), .val (.int p2), .val (.int p3), .val (.int p4), .val (.int p5), .val (.ref b2), .unset, .unset] [(.int p2), (.int (2 : Int32)), (.ref b2)])) rfl (by rw [hml]; rfl) (argsL := [(.int p2)]) (rest := [(.int (2 : Int32)), (.ref b2)]) (lenOf pd_0 rfl) rfl (by show 2 * 0 + _ ≤ _; exact Nat.le_of_eq rfl) (hb hby at_25) (fun _ _ => ⟨rfl, e14, (by decide : 1 + 0 ≤ _), (by decide : 5 + 0 ≤ _)⟩)
  dsimp only [Pt.U, Pt.locs, Pt.cells, Pt.slots] at X17 lq17 yq17 zq17 st17 hQ17
  subst lq17 yq17 zq17
  obtain ⟨rfl, Nq17, eq17⟩ := hQ17
  have N17 := Fr.app N14 Nq17
  have ks18 : own_R p e below (s₁.setTop (entryFrame m #[(.int p0), (.int p1), (.int p2), (.int p3), (.int p4), (.int p5)] maxLocals)) (T17.setTop (mkF m 28 #[.val (.int p0), .val (.int p1), .val (.int p2), .val (.int p3), .val (.int p4), .val (.int p5), .val (.ref b2), .unset, .unset] [(.int (own_draw p2)), (.int (2 : Int32)), (.ref b2)])) := fun t k => ks16 t (st17 t k)
  obtain ⟨cl19, Ar19, qa19, S19, Na19, Ha19, Ga19⟩ := id V14
  have hin19 : ¬ ((2 : Int32) < 0 ∨ cl19.slots.size ≤ ((2 : Int32)).toNatClampNeg) := inb_of S19 ⟨by decide, by decide⟩
  obtain ⟨T20, h20, X20, e20, W20, st20⟩ := stB X17 hx hZ eq17 Ar19 (j := (2 : Int32)) hin19 (g := (mkF m 28 #[.val (.int p0), .val (.int p1), .val (.int p2), .val (.int p3), .val (.int p4), .val (.int p5), .val (.ref b2), .unset, .unset] [(.int (own_draw p2)), (.int (2 : Int32)), (.ref b2)])) rfl rfl (hb hby at_28)
  have V20 : Arv Z h20 b2 c2 .byte (5 : Int32) [(.int ((own_draw p0).toInt8.toInt32)), (.int ((own_draw p1).toInt8.toInt32)), (.int ((own_draw p2).toInt8.toInt32)), (.int (0 : Int32)), (.int (0 : Int32))] (.int (0 : Int32)) := Arv.set Ar19 qa19 S19 Na19 Ha19 Ga19 (fits_nar_byte _) W20 2 rfl (Nat.le_of_ble_eq_true rfl)
  have KH20 : Keep h0 h20 [] := KH14.wr W20 (Or.inr sz_b2)
  have Zn20 : n0 ≤ h20.size := Nat.le_trans Zn14 (Keep.of_wr W20).1
  have N20 := Fr.snoc X20 N17 g_b2
  have ks21 : own_R p e below (s₁.setTop (entryFrame m #[(.int p0), (.int p1), (.int p2), (.int p3), (.int p4), (.int p5)] maxLocals)) (T20.setTop (mkF m 29 #[.val (.int p0), .val (.int p1), .val (.int p2), .val (.int p3), .val (.int p4), .val (.int p5), .val (.ref b2), .unset, .unset] [])) := fun t k => ks18 t (st20 t k)
  have ks22 : own_R p e below (s₁.setTop (entryFrame m #[(.int p0), (.int p1), (.int p2), (.int p3), (.int p4), (.int p5)] maxLocals)) (T20.setTop (mkF m 33 #[.val (.int p0), .val (.int p1), .val (.int p2), .val (.int p3), .val (.int p4), .val (.int p5), .val (.ref b2), .unset, .unset] [(.int p3), (.int (3 : Int32)), (.ref b2)])) := fun t k => ks21 t (by
    show Steps p.tables e below (T20.setTop (mkF m 29 #[.val (.int p0), .val (.int p1), .val (.int p2), .val (.int p3), .val (.int p4), .val (.int p5), .val (.ref b2), .unset, .unset] [])) _
    refine XS.aload X20.here hx rfl (hb hby at_29) rfl rfl ?_
    show Steps p.tables e below (T20.setTop (mkF m 31 #[.val (.int p0), .val (.int p1), .val (.int p2), .val (.int p3), .val (.int p4), .val (.int p5), .val (.ref b2), .unset, .unset] [(.ref b2)])) _
    refine XS.iconst X20.here hx rfl (hb hby at_31) ?_
    show Steps p.tables e below (T20.setTop (mkF m 32 #[.val (.int p0), .val (.int p1), .val (.int p2), .val (.int p3), .val (.int p4), .val (.int p5), .val (.ref b2), .unset, .unset] [(.int (3 : Int32)), (.ref b2)])) _
    refine XS.iloadN X20.here hx rfl (hb hby at_32) rfl ?_
    exact k)
  obtain ⟨_, _, ⟨T23, L23, k23, n23⟩, -, X23, ⟨Lc23, hQ23, lq23, yq23, zq23⟩, st23⟩ := Jvm.LawKit.callS X20 hx (y := (⟨"com/example/rackline/rackline/protocols/ssc/MessageReaderIsBlankPinLaw", "draw", "(I)B"⟩ : MethodName)) hown (mvT hZ (hw _ (List.mem_of_getElem? (i := 1) rfl))) (mvT hZ (hw _ (List.mem_of_getElem? (i := 2) rfl))) (mvT hZ (hw _ (List.mem_of_getElem? (i := 3) rfl))) (mvT hZ (hw _ (List.mem_of_getElem? (i := 4) rfl))) (by decide) (backOf (W := 2) (rm1 l Z a0 hw [] p3 h20 n0 Zn20 ) hZ (hw _ (List.mem_of_getElem? (i := 4) rfl)) (hw _ (List.mem_of_getElem? (i := 3) rfl)) (by decide) (by decide)) (g := (mkF m 33 #[.val (.int p0), .val (.int p1), .val (.int p2), .val (.int p3), .val (.int p4), .val (.int p5), .val (.ref b2), .unset, .unset] [(.int p3), (.int (3 : Int32)), (.ref b2)])) rfl (by rw [hml]; rfl) (argsL := [(.int p3)]) (rest := [(.int (3 : Int32)), (.ref b2)]) (lenOf pd_0 rfl) rfl (by show 2 * 0 + _ ≤ _; exact Nat.le_of_eq rfl) (hb hby at_33) (fun _ _ => ⟨rfl, e20, (by decide : 1 + 0 ≤ _), (by decide : 5 + 0 ≤ _)⟩)
  dsimp only [Pt.U, Pt.locs, Pt.cells, Pt.slots] at X23 lq23 yq23 zq23 st23 hQ23
  subst lq23 yq23 zq23
  obtain ⟨rfl, Nq23, eq23⟩ := hQ23
  have N23 := Fr.app N20 Nq23
  have ks24 : own_R p e below (s₁.setTop (entryFrame m #[(.int p0), (.int p1), (.int p2), (.int p3), (.int p4), (.int p5)] maxLocals)) (T23.setTop (mkF m 36 #[.val (.int p0), .val (.int p1), .val (.int p2), .val (.int p3), .val (.int p4), .val (.int p5), .val (.ref b2), .unset, .unset] [(.int (own_draw p3)), (.int (3 : Int32)), (.ref b2)])) := fun t k => ks22 t (st23 t k)
  obtain ⟨cl25, Ar25, qa25, S25, Na25, Ha25, Ga25⟩ := id V20
  have hin25 : ¬ ((3 : Int32) < 0 ∨ cl25.slots.size ≤ ((3 : Int32)).toNatClampNeg) := inb_of S25 ⟨by decide, by decide⟩
  obtain ⟨T26, h26, X26, e26, W26, st26⟩ := stB X23 hx hZ eq23 Ar25 (j := (3 : Int32)) hin25 (g := (mkF m 36 #[.val (.int p0), .val (.int p1), .val (.int p2), .val (.int p3), .val (.int p4), .val (.int p5), .val (.ref b2), .unset, .unset] [(.int (own_draw p3)), (.int (3 : Int32)), (.ref b2)])) rfl rfl (hb hby at_36)
  have V26 : Arv Z h26 b2 c2 .byte (5 : Int32) [(.int ((own_draw p0).toInt8.toInt32)), (.int ((own_draw p1).toInt8.toInt32)), (.int ((own_draw p2).toInt8.toInt32)), (.int ((own_draw p3).toInt8.toInt32)), (.int (0 : Int32))] (.int (0 : Int32)) := Arv.set Ar25 qa25 S25 Na25 Ha25 Ga25 (fits_nar_byte _) W26 3 rfl (Nat.le_of_ble_eq_true rfl)
  have KH26 : Keep h0 h26 [] := KH20.wr W26 (Or.inr sz_b2)
  have Zn26 : n0 ≤ h26.size := Nat.le_trans Zn20 (Keep.of_wr W26).1
  have N26 := Fr.snoc X26 N23 g_b2
  have ks27 : own_R p e below (s₁.setTop (entryFrame m #[(.int p0), (.int p1), (.int p2), (.int p3), (.int p4), (.int p5)] maxLocals)) (T26.setTop (mkF m 37 #[.val (.int p0), .val (.int p1), .val (.int p2), .val (.int p3), .val (.int p4), .val (.int p5), .val (.ref b2), .unset, .unset] [])) := fun t k => ks24 t (st26 t k)
  have ks28 : own_R p e below (s₁.setTop (entryFrame m #[(.int p0), (.int p1), (.int p2), (.int p3), (.int p4), (.int p5)] maxLocals)) (T26.setTop (mkF m 42 #[.val (.int p0), .val (.int p1), .val (.int p2), .val (.int p3), .val (.int p4), .val (.int p5), .val (.ref b2), .unset, .unset] [(.int p4), (.int (4 : Int32)), (.ref b2)])) := fun t k => ks27 t (by
    show Steps p.tables e below (T26.setTop (mkF m 37 #[.val (.int p0), .val (.int p1), .val (.int p2), .val (.int p3), .val (.int p4), .val (.int p5), .val (.ref b2), .unset, .unset] [])) _
    refine XS.aload X26.here hx rfl (hb hby at_37) rfl rfl ?_
    show Steps p.tables e below (T26.setTop (mkF m 39 #[.val (.int p0), .val (.int p1), .val (.int p2), .val (.int p3), .val (.int p4), .val (.int p5), .val (.ref b2), .unset, .unset] [(.ref b2)])) _
    refine XS.iconst X26.here hx rfl (hb hby at_39) ?_
    show Steps p.tables e below (T26.setTop (mkF m 40 #[.val (.int p0), .val (.int p1), .val (.int p2), .val (.int p3), .val (.int p4), .val (.int p5), .val (.ref b2), .unset, .unset] [(.int (4 : Int32)), (.ref b2)])) _
    refine XS.iload X26.here hx rfl (hb hby at_40) rfl ?_
    exact k)
  obtain ⟨_, _, ⟨T29, L29, k29, n29⟩, -, X29, ⟨Lc29, hQ29, lq29, yq29, zq29⟩, st29⟩ := Jvm.LawKit.callS X26 hx (y := (⟨"com/example/rackline/rackline/protocols/ssc/MessageReaderIsBlankPinLaw", "draw", "(I)B"⟩ : MethodName)) hown (mvT hZ (hw _ (List.mem_of_getElem? (i := 1) rfl))) (mvT hZ (hw _ (List.mem_of_getElem? (i := 2) rfl))) (mvT hZ (hw _ (List.mem_of_getElem? (i := 3) rfl))) (mvT hZ (hw _ (List.mem_of_getElem? (i := 4) rfl))) (by decide) (backOf (W := 2) (rm1 l Z a0 hw [] p4 h26 n0 Zn26 ) hZ (hw _ (List.mem_of_getElem? (i := 4) rfl)) (hw _ (List.mem_of_getElem? (i := 3) rfl)) (by decide) (by decide)) (g := (mkF m 42 #[.val (.int p0), .val (.int p1), .val (.int p2), .val (.int p3), .val (.int p4), .val (.int p5), .val (.ref b2), .unset, .unset] [(.int p4), (.int (4 : Int32)), (.ref b2)])) rfl (by rw [hml]; rfl) (argsL := [(.int p4)]) (rest := [(.int (4 : Int32)), (.ref b2)]) (lenOf pd_0 rfl) rfl (by show 2 * 0 + _ ≤ _; exact Nat.le_of_eq rfl) (hb hby at_42) (fun _ _ => ⟨rfl, e26, (by decide : 1 + 0 ≤ _), (by decide : 5 + 0 ≤ _)⟩)
  dsimp only [Pt.U, Pt.locs, Pt.cells, Pt.slots] at X29 lq29 yq29 zq29 st29 hQ29
  subst lq29 yq29 zq29
  obtain ⟨rfl, Nq29, eq29⟩ := hQ29
  have N29 := Fr.app N26 Nq29
  have ks30 : own_R p e below (s₁.setTop (entryFrame m #[(.int p0), (.int p1), (.int p2), (.int p3), (.int p4), (.int p5)] maxLocals)) (T29.setTop (mkF m 45 #[.val (.int p0), .val (.int p1), .val (.int p2), .val (.int p3), .val (.int p4), .val (.int p5), .val (.ref b2), .unset, .unset] [(.int (own_draw p4)), (.int (4 : Int32)), (.ref b2)])) := fun t k => ks28 t (st29 t k)
  obtain ⟨cl31, Ar31, qa31, S31, Na31, Ha31, Ga31⟩ := id V26
  have hin31 : ¬ ((4 : Int32) < 0 ∨ cl31.slots.size ≤ ((4 : Int32)).toNatClampNeg) := inb_of S31 ⟨by decide, by decide⟩
  obtain ⟨T32, h32, X32, e32, W32, st32⟩ := stB X29 hx hZ eq29 Ar31 (j := (4 : Int32)) hin31 (g := (mkF m 45 #[.val (.int p0), .val (.int p1), .val (.int p2), .val (.int p3), .val (.int p4), .val (.int p5), .val (.ref b2), .unset, .unset] [(.int (own_draw p4)), (.int (4 : Int32)), (.ref b2)])) rfl rfl (hb hby at_45)
  have V32 : Arv Z h32 b2 c2 .byte (5 : Int32) [(.int ((own_draw p0).toInt8.toInt32)), (.int ((own_draw p1).toInt8.toInt32)), (.int ((own_draw p2).toInt8.toInt32)), (.int ((own_draw p3).toInt8.toInt32)), (.int ((own_draw p4).toInt8.toInt32))] (.int (0 : Int32)) := Arv.set Ar31 qa31 S31 Na31 Ha31 Ga31 (fits_nar_byte _) W32 4 rfl (Nat.le_of_ble_eq_true rfl)
  have KH32 : Keep h0 h32 [] := KH26.wr W32 (Or.inr sz_b2)
  have Zn32 : n0 ≤ h32.size := Nat.le_trans Zn26 (Keep.of_wr W32).1
  have N32 := Fr.snoc X32 N29 g_b2
  have ks33 : own_R p e below (s₁.setTop (entryFrame m #[(.int p0), (.int p1), (.int p2), (.int p3), (.int p4), (.int p5)] maxLocals)) (T32.setTop (mkF m 46 #[.val (.int p0), .val (.int p1), .val (.int p2), .val (.int p3), .val (.int p4), .val (.int p5), .val (.ref b2), .unset, .unset] [])) := fun t k => ks30 t (st32 t k)
  have ks34 : own_R p e below (s₁.setTop (entryFrame m #[(.int p0), (.int p1), (.int p2), (.int p3), (.int p4), (.int p5)] maxLocals)) (T32.setTop (mkF m 54 #[.val (.int p0), .val (.int p1), .val (.int p2), .val (.int p3), .val (.int p4), .val (.int p5), .val (.ref b2), .unset, .unset] [(.int ((p5 &&& (2147483647 : Int32)) % (6 : Int32)))])) := fun t k => ks33 t (by
    show Steps p.tables e below (T32.setTop (mkF m 46 #[.val (.int p0), .val (.int p1), .val (.int p2), .val (.int p3), .val (.int p4), .val (.int p5), .val (.ref b2), .unset, .unset] [])) _
    refine XS.iload X32.here hx rfl (hb hby at_46) rfl ?_
    show Steps p.tables e below (T32.setTop (mkF m 48 #[.val (.int p0), .val (.int p1), .val (.int p2), .val (.int p3), .val (.int p4), .val (.int p5), .val (.ref b2), .unset, .unset] [(.int p5)])) _
    refine X32.ldcInt hx hown (mvT hZ (hw _ (List.mem_of_getElem? (i := 5) rfl))) (g := (mkF m 48 #[.val (.int p0), .val (.int p1), .val (.int p2), .val (.int p3), .val (.int p4), .val (.int p5), .val (.ref b2), .unset, .unset] [(.int p5)])) rfl (hb hby at_48) _ ?_
    show Steps p.tables e below (T32.setTop (mkF m 50 #[.val (.int p0), .val (.int p1), .val (.int p2), .val (.int p3), .val (.int p4), .val (.int p5), .val (.ref b2), .unset, .unset] [(.int (2147483647 : Int32)), (.int p5)])) _
    refine XS.iand X32.here hx rfl (hb hby at_50) rfl ?_
    show Steps p.tables e below (T32.setTop (mkF m 51 #[.val (.int p0), .val (.int p1), .val (.int p2), .val (.int p3), .val (.int p4), .val (.int p5), .val (.ref b2), .unset, .unset] [(.int (p5 &&& (2147483647 : Int32)))])) _
    refine XS.bipush X32.here hx rfl (hb hby at_51) ?_
    show Steps p.tables e below (T32.setTop (mkF m 53 #[.val (.int p0), .val (.int p1), .val (.int p2), .val (.int p3), .val (.int p4), .val (.int p5), .val (.ref b2), .unset, .unset] [(.int (6 : Int32)), (.int (p5 &&& (2147483647 : Int32)))])) _
    refine Jvm.RoadKit.iremM X32 hx rfl (hb hby at_53) rfl (by decide) ?_
    exact k)
  obtain ⟨v35, hv35⟩ : ∃ z : Int32, z = ((p5 &&& (2147483647 : Int32)) % (6 : Int32)) := ⟨_, rfl⟩
  rw [← hv35] at ks34
  have ks36 : own_R p e below (s₁.setTop (entryFrame m #[(.int p0), (.int p1), (.int p2), (.int p3), (.int p4), (.int p5)] maxLocals)) (T32.setTop (mkF m 56 #[.val (.int p0), .val (.int p1), .val (.int p2), .val (.int p3), .val (.int p4), .val (.int p5), .val (.ref b2), .val (.int v35), .unset] [])) := fun t k => ks34 t (by
    show Steps p.tables e below (T32.setTop (mkF m 54 #[.val (.int p0), .val (.int p1), .val (.int p2), .val (.int p3), .val (.int p4), .val (.int p5), .val (.ref b2), .unset, .unset] [(.int v35)])) _
    refine XS.istore X32.here hx rfl (hb hby at_54) rfl (l' := #[.val (.int p0), .val (.int p1), .val (.int p2), .val (.int p3), .val (.int p4), .val (.int p5), .val (.ref b2), .val (.int v35), .unset]) rfl ?_
    exact k)
  rcases own_six p5 with hl | hl | hl | hl | hl | hl
  · have el : v35 = (0 : Int32) := hv35.trans hl
    rw [el] at ks36
    have ks37 : own_R p e below (s₁.setTop (entryFrame m #[(.int p0), (.int p1), (.int p2), (.int p3), (.int p4), (.int p5)] maxLocals)) (T32.setTop (mkF m 147 #[.val (.int p0), .val (.int p1), .val (.int p2), .val (.int p3), .val (.int p4), .val (.int p5), .val (.ref b2), .val (.int (0 : Int32)), .val (.int (1 : Int32))] [(.int (0 : Int32)), (.ref b2)])) := fun t k => ks36 t (by
      show Steps p.tables e below (T32.setTop (mkF m 56 #[.val (.int p0), .val (.int p1), .val (.int p2), .val (.int p3), .val (.int p4), .val (.int p5), .val (.ref b2), .val (.int (0 : Int32)), .unset] [])) _
      refine XS.iload X32.here hx rfl (hb hby at_56) rfl ?_
      show Steps p.tables e below (T32.setTop (mkF m 58 #[.val (.int p0), .val (.int p1), .val (.int p2), .val (.int p3), .val (.int p4), .val (.int p5), .val (.ref b2), .val (.int (0 : Int32)), .unset] [(.int (0 : Int32))])) _
      refine XS.iconst X32.here hx rfl (hb hby at_58) ?_
      show Steps p.tables e below (T32.setTop (mkF m 59 #[.val (.int p0), .val (.int p1), .val (.int p2), .val (.int p3), .val (.int p4), .val (.int p5), .val (.ref b2), .val (.int (0 : Int32)), .unset] [(.int (1 : Int32)), (.int (0 : Int32))])) _
      refine XS.icmpYes X32.here hx rfl (pc0 := 59) (pc' := 72) rfl (hb hby at_59) rfl (tlt (by decide)).1 (by decide) (by decide) ?_
      show Steps p.tables e below (T32.setTop (mkF m 72 #[.val (.int p0), .val (.int p1), .val (.int p2), .val (.int p3), .val (.int p4), .val (.int p5), .val (.ref b2), .val (.int (0 : Int32)), .unset] [])) _
      refine XS.iload X32.here hx rfl (hb hby at_72) rfl ?_
      show Steps p.tables e below (T32.setTop (mkF m 74 #[.val (.int p0), .val (.int p1), .val (.int p2), .val (.int p3), .val (.int p4), .val (.int p5), .val (.ref b2), .val (.int (0 : Int32)), .unset] [(.int (0 : Int32))])) _
      refine XS.iconst X32.here hx rfl (hb hby at_74) ?_
      show Steps p.tables e below (T32.setTop (mkF m 75 #[.val (.int p0), .val (.int p1), .val (.int p2), .val (.int p3), .val (.int p4), .val (.int p5), .val (.ref b2), .val (.int (0 : Int32)), .unset] [(.int (2 : Int32)), (.int (0 : Int32))])) _
      refine XS.icmpYes X32.here hx rfl (pc0 := 75) (pc' := 88) rfl (hb hby at_75) rfl (tlt (by decide)).1 (by decide) (by decide) ?_
      show Steps p.tables e below (T32.setTop (mkF m 88 #[.val (.int p0), .val (.int p1), .val (.int p2), .val (.int p3), .val (.int p4), .val (.int p5), .val (.ref b2), .val (.int (0 : Int32)), .unset] [])) _
      refine XS.iload X32.here hx rfl (hb hby at_88) rfl ?_
      show Steps p.tables e below (T32.setTop (mkF m 90 #[.val (.int p0), .val (.int p1), .val (.int p2), .val (.int p3), .val (.int p4), .val (.int p5), .val (.ref b2), .val (.int (0 : Int32)), .unset] [(.int (0 : Int32))])) _
      refine XS.iconst X32.here hx rfl (hb hby at_90) ?_
      show Steps p.tables e below (T32.setTop (mkF m 91 #[.val (.int p0), .val (.int p1), .val (.int p2), .val (.int p3), .val (.int p4), .val (.int p5), .val (.ref b2), .val (.int (0 : Int32)), .unset] [(.int (3 : Int32)), (.int (0 : Int32))])) _
      refine XS.icmpYes X32.here hx rfl (pc0 := 91) (pc' := 104) rfl (hb hby at_91) rfl (tlt (by decide)).1 (by decide) (by decide) ?_
      show Steps p.tables e below (T32.setTop (mkF m 104 #[.val (.int p0), .val (.int p1), .val (.int p2), .val (.int p3), .val (.int p4), .val (.int p5), .val (.ref b2), .val (.int (0 : Int32)), .unset] [])) _
      refine XS.iload X32.here hx rfl (hb hby at_104) rfl ?_
      show Steps p.tables e below (T32.setTop (mkF m 106 #[.val (.int p0), .val (.int p1), .val (.int p2), .val (.int p3), .val (.int p4), .val (.int p5), .val (.ref b2), .val (.int (0 : Int32)), .unset] [(.int (0 : Int32))])) _
      refine XS.iconst X32.here hx rfl (hb hby at_106) ?_
      show Steps p.tables e below (T32.setTop (mkF m 107 #[.val (.int p0), .val (.int p1), .val (.int p2), .val (.int p3), .val (.int p4), .val (.int p5), .val (.ref b2), .val (.int (0 : Int32)), .unset] [(.int (4 : Int32)), (.int (0 : Int32))])) _
      refine XS.icmpYes X32.here hx rfl (pc0 := 107) (pc' := 120) rfl (hb hby at_107) rfl (tlt (by decide)).1 (by decide) (by decide) ?_
      show Steps p.tables e below (T32.setTop (mkF m 120 #[.val (.int p0), .val (.int p1), .val (.int p2), .val (.int p3), .val (.int p4), .val (.int p5), .val (.ref b2), .val (.int (0 : Int32)), .unset] [])) _
      refine XS.iload X32.here hx rfl (hb hby at_120) rfl ?_
      show Steps p.tables e below (T32.setTop (mkF m 122 #[.val (.int p0), .val (.int p1), .val (.int p2), .val (.int p3), .val (.int p4), .val (.int p5), .val (.ref b2), .val (.int (0 : Int32)), .unset] [(.int (0 : Int32))])) _
      refine XS.iconst X32.here hx rfl (hb hby at_122) ?_
      show Steps p.tables e below (T32.setTop (mkF m 123 #[.val (.int p0), .val (.int p1), .val (.int p2), .val (.int p3), .val (.int p4), .val (.int p5), .val (.ref b2), .val (.int (0 : Int32)), .unset] [(.int (5 : Int32)), (.int (0 : Int32))])) _
      refine XS.icmpYes X32.here hx rfl (pc0 := 123) (pc' := 136) rfl (hb hby at_123) rfl (tlt (by decide)).1 (by decide) (by decide) ?_
      show Steps p.tables e below (T32.setTop (mkF m 136 #[.val (.int p0), .val (.int p1), .val (.int p2), .val (.int p3), .val (.int p4), .val (.int p5), .val (.ref b2), .val (.int (0 : Int32)), .unset] [])) _
      refine XS.iconst X32.here hx rfl (hb hby at_136) ?_
      show Steps p.tables e below (T32.setTop (mkF m 137 #[.val (.int p0), .val (.int p1), .val (.int p2), .val (.int p3), .val (.int p4), .val (.int p5), .val (.ref b2), .val (.int (0 : Int32)), .unset] [(.int (1 : Int32))])) _
      refine XS.goto X32.here hx rfl (pc0 := 137) (pc' := 141) rfl (hb hby at_137) (by decide) (by decide) ?_
      show Steps p.tables e below (T32.setTop (mkF m 141 #[.val (.int p0), .val (.int p1), .val (.int p2), .val (.int p3), .val (.int p4), .val (.int p5), .val (.ref b2), .val (.int (0 : Int32)), .unset] [(.int (1 : Int32))])) _
      refine XS.istore X32.here hx rfl (hb hby at_141) rfl (l' := #[.val (.int p0), .val (.int p1), .val (.int p2), .val (.int p3), .val (.int p4), .val (.int p5), .val (.ref b2), .val (.int (0 : Int32)), .val (.int (1 : Int32))]) rfl ?_
      show Steps p.tables e below (T32.setTop (mkF m 143 #[.val (.int p0), .val (.int p1), .val (.int p2), .val (.int p3), .val (.int p4), .val (.int p5), .val (.ref b2), .val (.int (0 : Int32)), .val (.int (1 : Int32))] [])) _
      refine XS.aload X32.here hx rfl (hb hby at_143) rfl rfl ?_
      show Steps p.tables e below (T32.setTop (mkF m 145 #[.val (.int p0), .val (.int p1), .val (.int p2), .val (.int p3), .val (.int p4), .val (.int p5), .val (.ref b2), .val (.int (0 : Int32)), .val (.int (1 : Int32))] [(.ref b2)])) _
      refine XS.iload X32.here hx rfl (hb hby at_145) rfl ?_
      exact k)
    obtain ⟨_, _, ⟨T38, L38, k38, n38⟩, -, X38, ⟨Lc38, hQ38, lq38, yq38, zq38⟩, st38⟩ := Jvm.LawKit.callS X32 hx (y := (⟨"com/example/rackline/rackline/protocols/ssc/MessageReader", "isBlank", "([BI)Z"⟩ : MethodName)) hown (mvT hZ (hw _ (List.mem_of_getElem? (i := 9) rfl))) (mvT hZ (hw _ (List.mem_of_getElem? (i := 10) rfl))) (mvT hZ (hw _ (List.mem_of_getElem? (i := 11) rfl))) (mvT hZ (hw _ (List.mem_of_getElem? (i := 12) rfl))) (by decide) (backOf (W := 0) (rm3 l Z a0 hw [] b2 (0 : Int32) _ ((own_draw p0).toInt8.toInt32) ((own_draw p1).toInt8.toInt32) ((own_draw p2).toInt8.toInt32) ((own_draw p3).toInt8.toInt32) ((own_draw p4).toInt8.toInt32) h32 n0 Zn32 (by decide) V32) hZ (hw _ (List.mem_of_getElem? (i := 12) rfl)) (hw _ (List.mem_of_getElem? (i := 11) rfl)) (by decide) (by decide)) (g := (mkF m 147 #[.val (.int p0), .val (.int p1), .val (.int p2), .val (.int p3), .val (.int p4), .val (.int p5), .val (.ref b2), .val (.int (0 : Int32)), .val (.int (1 : Int32))] [(.int (0 : Int32)), (.ref b2)])) rfl (by rw [hml]; rfl) (argsL := [(.ref b2), (.int (0 : Int32))]) (rest := []) (lenOf pd_2 rfl) rfl (by show 2 * 0 + _ ≤ _; exact Nat.le_of_eq rfl) (hb hby at_147) (fun _ _ => ⟨rfl, e32, (by decide : 1 + 0 ≤ _), (by decide : 5 + 0 ≤ _)⟩)
    dsimp only [Pt.U, Pt.locs, Pt.cells, Pt.slots] at X38 lq38 yq38 zq38 st38 hQ38
    subst lq38 yq38 zq38
    obtain ⟨rfl, Nq38, eq38⟩ := hQ38
    have N38 := Fr.app N32 Nq38
    have ks39 : own_R p e below (s₁.setTop (entryFrame m #[(.int p0), (.int p1), (.int p2), (.int p3), (.int p4), (.int p5)] maxLocals)) (T38.setTop (mkF m 150 #[.val (.int p0), .val (.int p1), .val (.int p2), .val (.int p3), .val (.int p4), .val (.int p5), .val (.ref b2), .val (.int (0 : Int32)), .val (.int (1 : Int32))] [(.int (own_blank ((own_draw p0).toInt8.toInt32) ((own_draw p1).toInt8.toInt32) ((own_draw p2).toInt8.toInt32) ((own_draw p3).toInt8.toInt32) ((own_draw p4).toInt8.toInt32) (0 : Int32)))])) := fun t k => ks37 t (st38 t k)
    have ks40 : own_R p e below (s₁.setTop (entryFrame m #[(.int p0), (.int p1), (.int p2), (.int p3), (.int p4), (.int p5)] maxLocals)) (T38.setTop (mkF m 152 #[.val (.int p0), .val (.int p1), .val (.int p2), .val (.int p3), .val (.int p4), .val (.int p5), .val (.ref b2), .val (.int (0 : Int32)), .val (.int (1 : Int32))] [(.int (1 : Int32)), (.int (own_blank ((own_draw p0).toInt8.toInt32) ((own_draw p1).toInt8.toInt32) ((own_draw p2).toInt8.toInt32) ((own_draw p3).toInt8.toInt32) ((own_draw p4).toInt8.toInt32) (0 : Int32)))])) := fun t k => ks39 t (by
      show Steps p.tables e below (T38.setTop (mkF m 150 #[.val (.int p0), .val (.int p1), .val (.int p2), .val (.int p3), .val (.int p4), .val (.int p5), .val (.ref b2), .val (.int (0 : Int32)), .val (.int (1 : Int32))] [(.int (own_blank ((own_draw p0).toInt8.toInt32) ((own_draw p1).toInt8.toInt32) ((own_draw p2).toInt8.toInt32) ((own_draw p3).toInt8.toInt32) ((own_draw p4).toInt8.toInt32) (0 : Int32)))])) _
      refine XS.iload X38.here hx rfl (hb hby at_150) rfl ?_
      exact k)
    by_cases hc41 : (own_blank ((own_draw p0).toInt8.toInt32) ((own_draw p1).toInt8.toInt32) ((own_draw p2).toInt8.toInt32) ((own_draw p3).toInt8.toInt32) ((own_draw p4).toInt8.toInt32) (0 : Int32)) = (1 : Int32)
    · skip
      have ks42 : own_R p e below (s₁.setTop (entryFrame m #[(.int p0), (.int p1), (.int p2), (.int p3), (.int p4), (.int p5)] maxLocals)) (T38.setTop (mkF m 160 #[.val (.int p0), .val (.int p1), .val (.int p2), .val (.int p3), .val (.int p4), .val (.int p5), .val (.ref b2), .val (.int (0 : Int32)), .val (.int (1 : Int32))] [(.int (1 : Int32))])) := fun t k => ks40 t (by
        show Steps p.tables e below (T38.setTop (mkF m 152 #[.val (.int p0), .val (.int p1), .val (.int p2), .val (.int p3), .val (.int p4), .val (.int p5), .val (.ref b2), .val (.int (0 : Int32)), .val (.int (1 : Int32))] [(.int (1 : Int32)), (.int (own_blank ((own_draw p0).toInt8.toInt32) ((own_draw p1).toInt8.toInt32) ((own_draw p2).toInt8.toInt32) ((own_draw p3).toInt8.toInt32) ((own_draw p4).toInt8.toInt32) (0 : Int32)))])) _
        refine XS.icmpNo X38.here hx rfl (hb hby at_152) rfl (teq hc41).2 ?_
        show Steps p.tables e below (T38.setTop (mkF m 155 #[.val (.int p0), .val (.int p1), .val (.int p2), .val (.int p3), .val (.int p4), .val (.int p5), .val (.ref b2), .val (.int (0 : Int32)), .val (.int (1 : Int32))] [])) _
        refine XS.iconst X38.here hx rfl (hb hby at_155) ?_
        show Steps p.tables e below (T38.setTop (mkF m 156 #[.val (.int p0), .val (.int p1), .val (.int p2), .val (.int p3), .val (.int p4), .val (.int p5), .val (.ref b2), .val (.int (0 : Int32)), .val (.int (1 : Int32))] [(.int (1 : Int32))])) _
        refine XS.goto X38.here hx rfl (pc0 := 156) (pc' := 160) rfl (hb hby at_156) (by decide) (by decide) ?_
        exact k)
      obtain ⟨fs, hr, hrun, hended, hW, hsame⟩ := X38.leave (v := some (.int (1 : Int32))) (fun h => by rw [Bd.returns] at h; cases h)
      refine ⟨_, _, ks42 _ ?_, hrun, hended, _, _, rfl, ?_, ⟨_, rfl⟩, hW, hsame.mono (by decide) (by decide)⟩
      · exact retN X38 hx (t := .boolean) Bd.returns (by simp) (hb hby at_160) hr
      · show Q0 Z p0 p1 p2 p3 p4 p5 h0 n0 _ T38.heap _
        rw [eq38]
        exact ⟨rfl, N38⟩
    · skip
      have ks43 : own_R p e below (s₁.setTop (entryFrame m #[(.int p0), (.int p1), (.int p2), (.int p3), (.int p4), (.int p5)] maxLocals)) (T38.setTop (mkF m 160 #[.val (.int p0), .val (.int p1), .val (.int p2), .val (.int p3), .val (.int p4), .val (.int p5), .val (.ref b2), .val (.int (0 : Int32)), .val (.int (1 : Int32))] [(.int (0 : Int32))])) := fun t k => ks40 t (by
        show Steps p.tables e below (T38.setTop (mkF m 152 #[.val (.int p0), .val (.int p1), .val (.int p2), .val (.int p3), .val (.int p4), .val (.int p5), .val (.ref b2), .val (.int (0 : Int32)), .val (.int (1 : Int32))] [(.int (1 : Int32)), (.int (own_blank ((own_draw p0).toInt8.toInt32) ((own_draw p1).toInt8.toInt32) ((own_draw p2).toInt8.toInt32) ((own_draw p3).toInt8.toInt32) ((own_draw p4).toInt8.toInt32) (0 : Int32)))])) _
        refine XS.icmpYes X38.here hx rfl (pc0 := 152) (pc' := 159) rfl (hb hby at_152) rfl (feq hc41).2 (by decide) (by decide) ?_
        show Steps p.tables e below (T38.setTop (mkF m 159 #[.val (.int p0), .val (.int p1), .val (.int p2), .val (.int p3), .val (.int p4), .val (.int p5), .val (.ref b2), .val (.int (0 : Int32)), .val (.int (1 : Int32))] [])) _
        refine XS.iconst X38.here hx rfl (hb hby at_159) ?_
        exact k)
      obtain ⟨fs, hr, hrun, hended, hW, hsame⟩ := X38.leave (v := some (.int (0 : Int32))) (fun h => by rw [Bd.returns] at h; cases h)
      refine ⟨_, _, ks43 _ ?_, hrun, hended, _, _, rfl, ?_, ⟨_, rfl⟩, hW, hsame.mono (by decide) (by decide)⟩
      · exact retN X38 hx (t := .boolean) Bd.returns (by simp) (hb hby at_160) hr
      · show Q0 Z p0 p1 p2 p3 p4 p5 h0 n0 _ T38.heap _
        rw [eq38]
        exfalso
        apply hc41
        unfold own_blank
        simp only [own_wi]
        simp
  · have el : v35 = (1 : Int32) := hv35.trans hl
    rw [el] at ks36
    have ks44 : own_R p e below (s₁.setTop (entryFrame m #[(.int p0), (.int p1), (.int p2), (.int p3), (.int p4), (.int p5)] maxLocals)) (T32.setTop (mkF m 65 #[.val (.int p0), .val (.int p1), .val (.int p2), .val (.int p3), .val (.int p4), .val (.int p5), .val (.ref b2), .val (.int (1 : Int32)), .unset] [(.int (0 : Int32)), (.ref b2)])) := fun t k => ks36 t (by
      show Steps p.tables e below (T32.setTop (mkF m 56 #[.val (.int p0), .val (.int p1), .val (.int p2), .val (.int p3), .val (.int p4), .val (.int p5), .val (.ref b2), .val (.int (1 : Int32)), .unset] [])) _
      refine XS.iload X32.here hx rfl (hb hby at_56) rfl ?_
      show Steps p.tables e below (T32.setTop (mkF m 58 #[.val (.int p0), .val (.int p1), .val (.int p2), .val (.int p3), .val (.int p4), .val (.int p5), .val (.ref b2), .val (.int (1 : Int32)), .unset] [(.int (1 : Int32))])) _
      refine XS.iconst X32.here hx rfl (hb hby at_58) ?_
      show Steps p.tables e below (T32.setTop (mkF m 59 #[.val (.int p0), .val (.int p1), .val (.int p2), .val (.int p3), .val (.int p4), .val (.int p5), .val (.ref b2), .val (.int (1 : Int32)), .unset] [(.int (1 : Int32)), (.int (1 : Int32))])) _
      refine XS.icmpNo X32.here hx rfl (hb hby at_59) rfl (flt (by decide)).1 ?_
      show Steps p.tables e below (T32.setTop (mkF m 62 #[.val (.int p0), .val (.int p1), .val (.int p2), .val (.int p3), .val (.int p4), .val (.int p5), .val (.ref b2), .val (.int (1 : Int32)), .unset] [])) _
      refine XS.aload X32.here hx rfl (hb hby at_62) rfl rfl ?_
      show Steps p.tables e below (T32.setTop (mkF m 64 #[.val (.int p0), .val (.int p1), .val (.int p2), .val (.int p3), .val (.int p4), .val (.int p5), .val (.ref b2), .val (.int (1 : Int32)), .unset] [(.ref b2)])) _
      refine XS.iconst X32.here hx rfl (hb hby at_64) ?_
      exact k)
    obtain ⟨cl45, Ar45, qa45, S45, Na45, Ha45, Ga45⟩ := id V32
    have ks46 : own_R p e below (s₁.setTop (entryFrame m #[(.int p0), (.int p1), (.int p2), (.int p3), (.int p4), (.int p5)] maxLocals)) (T32.setTop (mkF m 66 #[.val (.int p0), .val (.int p1), .val (.int p2), .val (.int p3), .val (.int p4), .val (.int p5), .val (.ref b2), .val (.int (1 : Int32)), .unset] [(.int ((own_draw p0).toInt8.toInt32))])) := fun t k => ks44 t (by
      show Steps p.tables e below (T32.setTop (mkF m 65 #[.val (.int p0), .val (.int p1), .val (.int p2), .val (.int p3), .val (.int p4), .val (.int p5), .val (.ref b2), .val (.int (1 : Int32)), .unset] [(.int (0 : Int32)), (.ref b2)])) _
      refine X32.baloadBytes hx (j := (0 : Int32)) (v := (.int ((own_draw p0).toInt8.toInt32))) (by rw [e32]; exact Ar45.1) (State.isArrayOf_alike hZ.alike Ar45.2.1) Ar45.2.2 (inb_of S45 ⟨by decide, by decide⟩) (Has.at Ha45 (inb_of S45 ⟨by decide, by decide⟩) rfl) (g := (mkF m 65 #[.val (.int p0), .val (.int p1), .val (.int p2), .val (.int p3), .val (.int p4), .val (.int p5), .val (.ref b2), .val (.int (1 : Int32)), .unset] [(.int (0 : Int32)), (.ref b2)])) rfl rfl (hb hby at_65) _ ?_
      exact k)
    obtain ⟨_, _, ⟨T47, L47, k47, n47⟩, -, X47, ⟨Lc47, hQ47, lq47, yq47, zq47⟩, st47⟩ := Jvm.LawKit.callS X32 hx (y := (⟨"com/example/rackline/rackline/protocols/ssc/MessageReaderIsBlankPinLaw", "ws", "(B)Z"⟩ : MethodName)) hown (mvT hZ (hw _ (List.mem_of_getElem? (i := 6) rfl))) (mvT hZ (hw _ (List.mem_of_getElem? (i := 7) rfl))) (mvT hZ (hw _ (List.mem_of_getElem? (i := 3) rfl))) (mvT hZ (hw _ (List.mem_of_getElem? (i := 8) rfl))) (by decide) (backOf (W := 0) (rm2 l Z a0 hw [] ((own_draw p0).toInt8.toInt32) h32 n0 Zn32 ) hZ (hw _ (List.mem_of_getElem? (i := 8) rfl)) (hw _ (List.mem_of_getElem? (i := 3) rfl)) (by decide) (by decide)) (g := (mkF m 66 #[.val (.int p0), .val (.int p1), .val (.int p2), .val (.int p3), .val (.int p4), .val (.int p5), .val (.ref b2), .val (.int (1 : Int32)), .unset] [(.int ((own_draw p0).toInt8.toInt32))])) rfl (by rw [hml]; rfl) (argsL := [(.int ((own_draw p0).toInt8.toInt32))]) (rest := []) (lenOf pd_1 rfl) rfl (by show 2 * 0 + _ ≤ _; exact Nat.le_of_eq rfl) (hb hby at_66) (fun _ _ => ⟨rfl, e32, (by decide : 1 + 0 ≤ _), (by decide : 5 + 0 ≤ _)⟩)
    dsimp only [Pt.U, Pt.locs, Pt.cells, Pt.slots] at X47 lq47 yq47 zq47 st47 hQ47
    subst lq47 yq47 zq47
    obtain ⟨rfl, Nq47, eq47⟩ := hQ47
    have N47 := Fr.app N32 Nq47
    have ks48 : own_R p e below (s₁.setTop (entryFrame m #[(.int p0), (.int p1), (.int p2), (.int p3), (.int p4), (.int p5)] maxLocals)) (T47.setTop (mkF m 69 #[.val (.int p0), .val (.int p1), .val (.int p2), .val (.int p3), .val (.int p4), .val (.int p5), .val (.ref b2), .val (.int (1 : Int32)), .unset] [(.int (own_ws ((own_draw p0).toInt8.toInt32)))])) := fun t k => ks46 t (st47 t k)
    obtain ⟨v50, hv50⟩ : ∃ z : Int32, z = (if (own_ws ((own_draw p0).toInt8.toInt32)) = (0 : Int32) then (0 : Int32) else (1 : Int32)) := ⟨_, rfl⟩
    have ks51 : own_R p e below (s₁.setTop (entryFrame m #[(.int p0), (.int p1), (.int p2), (.int p3), (.int p4), (.int p5)] maxLocals)) (T47.setTop (mkF m 141 #[.val (.int p0), .val (.int p1), .val (.int p2), .val (.int p3), .val (.int p4), .val (.int p5), .val (.ref b2), .val (.int (1 : Int32)), .unset] [(.int v50)])) := fun t k => ks48 t (by
      by_cases hc49 : (own_ws ((own_draw p0).toInt8.toInt32)) = (0 : Int32)
      · skip
        have qq52 : v50 = (0 : Int32) := by rw [hv50, if_pos hc49]
        rw [qq52] at k
        show Steps p.tables e below (T47.setTop (mkF m 69 #[.val (.int p0), .val (.int p1), .val (.int p2), .val (.int p3), .val (.int p4), .val (.int p5), .val (.ref b2), .val (.int (1 : Int32)), .unset] [(.int (own_ws ((own_draw p0).toInt8.toInt32)))])) _
        refine XS.ifYes X47.here hx rfl (pc0 := 69) (pc' := 140) rfl (hb hby at_69) rfl ((if0 _ _).trans (teq hc49).1) (by decide) (by decide) ?_
        show Steps p.tables e below (T47.setTop (mkF m 140 #[.val (.int p0), .val (.int p1), .val (.int p2), .val (.int p3), .val (.int p4), .val (.int p5), .val (.ref b2), .val (.int (1 : Int32)), .unset] [])) _
        refine XS.iconst X47.here hx rfl (hb hby at_140) ?_
        exact k
      · skip
        have qq53 : v50 = (1 : Int32) := by rw [hv50, if_neg hc49]
        rw [qq53] at k
        show Steps p.tables e below (T47.setTop (mkF m 69 #[.val (.int p0), .val (.int p1), .val (.int p2), .val (.int p3), .val (.int p4), .val (.int p5), .val (.ref b2), .val (.int (1 : Int32)), .unset] [(.int (own_ws ((own_draw p0).toInt8.toInt32)))])) _
        refine XS.ifNo X47.here hx rfl (hb hby at_69) rfl ((if0 _ _).trans (feq hc49).1) ?_
        show Steps p.tables e below (T47.setTop (mkF m 72 #[.val (.int p0), .val (.int p1), .val (.int p2), .val (.int p3), .val (.int p4), .val (.int p5), .val (.ref b2), .val (.int (1 : Int32)), .unset] [])) _
        refine XS.iload X47.here hx rfl (hb hby at_72) rfl ?_
        show Steps p.tables e below (T47.setTop (mkF m 74 #[.val (.int p0), .val (.int p1), .val (.int p2), .val (.int p3), .val (.int p4), .val (.int p5), .val (.ref b2), .val (.int (1 : Int32)), .unset] [(.int (1 : Int32))])) _
        refine XS.iconst X47.here hx rfl (hb hby at_74) ?_
        show Steps p.tables e below (T47.setTop (mkF m 75 #[.val (.int p0), .val (.int p1), .val (.int p2), .val (.int p3), .val (.int p4), .val (.int p5), .val (.ref b2), .val (.int (1 : Int32)), .unset] [(.int (2 : Int32)), (.int (1 : Int32))])) _
        refine XS.icmpYes X47.here hx rfl (pc0 := 75) (pc' := 88) rfl (hb hby at_75) rfl (tlt (by decide)).1 (by decide) (by decide) ?_
        show Steps p.tables e below (T47.setTop (mkF m 88 #[.val (.int p0), .val (.int p1), .val (.int p2), .val (.int p3), .val (.int p4), .val (.int p5), .val (.ref b2), .val (.int (1 : Int32)), .unset] [])) _
        refine XS.iload X47.here hx rfl (hb hby at_88) rfl ?_
        show Steps p.tables e below (T47.setTop (mkF m 90 #[.val (.int p0), .val (.int p1), .val (.int p2), .val (.int p3), .val (.int p4), .val (.int p5), .val (.ref b2), .val (.int (1 : Int32)), .unset] [(.int (1 : Int32))])) _
        refine XS.iconst X47.here hx rfl (hb hby at_90) ?_
        show Steps p.tables e below (T47.setTop (mkF m 91 #[.val (.int p0), .val (.int p1), .val (.int p2), .val (.int p3), .val (.int p4), .val (.int p5), .val (.ref b2), .val (.int (1 : Int32)), .unset] [(.int (3 : Int32)), (.int (1 : Int32))])) _
        refine XS.icmpYes X47.here hx rfl (pc0 := 91) (pc' := 104) rfl (hb hby at_91) rfl (tlt (by decide)).1 (by decide) (by decide) ?_
        show Steps p.tables e below (T47.setTop (mkF m 104 #[.val (.int p0), .val (.int p1), .val (.int p2), .val (.int p3), .val (.int p4), .val (.int p5), .val (.ref b2), .val (.int (1 : Int32)), .unset] [])) _
        refine XS.iload X47.here hx rfl (hb hby at_104) rfl ?_
        show Steps p.tables e below (T47.setTop (mkF m 106 #[.val (.int p0), .val (.int p1), .val (.int p2), .val (.int p3), .val (.int p4), .val (.int p5), .val (.ref b2), .val (.int (1 : Int32)), .unset] [(.int (1 : Int32))])) _
        refine XS.iconst X47.here hx rfl (hb hby at_106) ?_
        show Steps p.tables e below (T47.setTop (mkF m 107 #[.val (.int p0), .val (.int p1), .val (.int p2), .val (.int p3), .val (.int p4), .val (.int p5), .val (.ref b2), .val (.int (1 : Int32)), .unset] [(.int (4 : Int32)), (.int (1 : Int32))])) _
        refine XS.icmpYes X47.here hx rfl (pc0 := 107) (pc' := 120) rfl (hb hby at_107) rfl (tlt (by decide)).1 (by decide) (by decide) ?_
        show Steps p.tables e below (T47.setTop (mkF m 120 #[.val (.int p0), .val (.int p1), .val (.int p2), .val (.int p3), .val (.int p4), .val (.int p5), .val (.ref b2), .val (.int (1 : Int32)), .unset] [])) _
        refine XS.iload X47.here hx rfl (hb hby at_120) rfl ?_
        show Steps p.tables e below (T47.setTop (mkF m 122 #[.val (.int p0), .val (.int p1), .val (.int p2), .val (.int p3), .val (.int p4), .val (.int p5), .val (.ref b2), .val (.int (1 : Int32)), .unset] [(.int (1 : Int32))])) _
        refine XS.iconst X47.here hx rfl (hb hby at_122) ?_
        show Steps p.tables e below (T47.setTop (mkF m 123 #[.val (.int p0), .val (.int p1), .val (.int p2), .val (.int p3), .val (.int p4), .val (.int p5), .val (.ref b2), .val (.int (1 : Int32)), .unset] [(.int (5 : Int32)), (.int (1 : Int32))])) _
        refine XS.icmpYes X47.here hx rfl (pc0 := 123) (pc' := 136) rfl (hb hby at_123) rfl (tlt (by decide)).1 (by decide) (by decide) ?_
        show Steps p.tables e below (T47.setTop (mkF m 136 #[.val (.int p0), .val (.int p1), .val (.int p2), .val (.int p3), .val (.int p4), .val (.int p5), .val (.ref b2), .val (.int (1 : Int32)), .unset] [])) _
        refine XS.iconst X47.here hx rfl (hb hby at_136) ?_
        show Steps p.tables e below (T47.setTop (mkF m 137 #[.val (.int p0), .val (.int p1), .val (.int p2), .val (.int p3), .val (.int p4), .val (.int p5), .val (.ref b2), .val (.int (1 : Int32)), .unset] [(.int (1 : Int32))])) _
        refine XS.goto X47.here hx rfl (pc0 := 137) (pc' := 141) rfl (hb hby at_137) (by decide) (by decide) ?_
        exact k)
    have ks54 : own_R p e below (s₁.setTop (entryFrame m #[(.int p0), (.int p1), (.int p2), (.int p3), (.int p4), (.int p5)] maxLocals)) (T47.setTop (mkF m 147 #[.val (.int p0), .val (.int p1), .val (.int p2), .val (.int p3), .val (.int p4), .val (.int p5), .val (.ref b2), .val (.int (1 : Int32)), .val (.int v50)] [(.int (1 : Int32)), (.ref b2)])) := fun t k => ks51 t (by
      show Steps p.tables e below (T47.setTop (mkF m 141 #[.val (.int p0), .val (.int p1), .val (.int p2), .val (.int p3), .val (.int p4), .val (.int p5), .val (.ref b2), .val (.int (1 : Int32)), .unset] [(.int v50)])) _
      refine XS.istore X47.here hx rfl (hb hby at_141) rfl (l' := #[.val (.int p0), .val (.int p1), .val (.int p2), .val (.int p3), .val (.int p4), .val (.int p5), .val (.ref b2), .val (.int (1 : Int32)), .val (.int v50)]) rfl ?_
      show Steps p.tables e below (T47.setTop (mkF m 143 #[.val (.int p0), .val (.int p1), .val (.int p2), .val (.int p3), .val (.int p4), .val (.int p5), .val (.ref b2), .val (.int (1 : Int32)), .val (.int v50)] [])) _
      refine XS.aload X47.here hx rfl (hb hby at_143) rfl rfl ?_
      show Steps p.tables e below (T47.setTop (mkF m 145 #[.val (.int p0), .val (.int p1), .val (.int p2), .val (.int p3), .val (.int p4), .val (.int p5), .val (.ref b2), .val (.int (1 : Int32)), .val (.int v50)] [(.ref b2)])) _
      refine XS.iload X47.here hx rfl (hb hby at_145) rfl ?_
      exact k)
    obtain ⟨_, _, ⟨T55, L55, k55, n55⟩, -, X55, ⟨Lc55, hQ55, lq55, yq55, zq55⟩, st55⟩ := Jvm.LawKit.callS X47 hx (y := (⟨"com/example/rackline/rackline/protocols/ssc/MessageReader", "isBlank", "([BI)Z"⟩ : MethodName)) hown (mvT hZ (hw _ (List.mem_of_getElem? (i := 9) rfl))) (mvT hZ (hw _ (List.mem_of_getElem? (i := 10) rfl))) (mvT hZ (hw _ (List.mem_of_getElem? (i := 11) rfl))) (mvT hZ (hw _ (List.mem_of_getElem? (i := 12) rfl))) (by decide) (backOf (W := 0) (rm3 l Z a0 hw [] b2 (1 : Int32) _ ((own_draw p0).toInt8.toInt32) ((own_draw p1).toInt8.toInt32) ((own_draw p2).toInt8.toInt32) ((own_draw p3).toInt8.toInt32) ((own_draw p4).toInt8.toInt32) h32 n0 Zn32 (by decide) V32) hZ (hw _ (List.mem_of_getElem? (i := 12) rfl)) (hw _ (List.mem_of_getElem? (i := 11) rfl)) (by decide) (by decide)) (g := (mkF m 147 #[.val (.int p0), .val (.int p1), .val (.int p2), .val (.int p3), .val (.int p4), .val (.int p5), .val (.ref b2), .val (.int (1 : Int32)), .val (.int v50)] [(.int (1 : Int32)), (.ref b2)])) rfl (by rw [hml]; rfl) (argsL := [(.ref b2), (.int (1 : Int32))]) (rest := []) (lenOf pd_2 rfl) rfl (by show 2 * 0 + _ ≤ _; exact Nat.le_of_eq rfl) (hb hby at_147) (fun _ _ => ⟨rfl, eq47, (by decide : 1 + 0 ≤ _), (by decide : 5 + 0 ≤ _)⟩)
    dsimp only [Pt.U, Pt.locs, Pt.cells, Pt.slots] at X55 lq55 yq55 zq55 st55 hQ55
    subst lq55 yq55 zq55
    obtain ⟨rfl, Nq55, eq55⟩ := hQ55
    have N55 := Fr.app N47 Nq55
    have ks56 : own_R p e below (s₁.setTop (entryFrame m #[(.int p0), (.int p1), (.int p2), (.int p3), (.int p4), (.int p5)] maxLocals)) (T55.setTop (mkF m 150 #[.val (.int p0), .val (.int p1), .val (.int p2), .val (.int p3), .val (.int p4), .val (.int p5), .val (.ref b2), .val (.int (1 : Int32)), .val (.int v50)] [(.int (own_blank ((own_draw p0).toInt8.toInt32) ((own_draw p1).toInt8.toInt32) ((own_draw p2).toInt8.toInt32) ((own_draw p3).toInt8.toInt32) ((own_draw p4).toInt8.toInt32) (1 : Int32)))])) := fun t k => ks54 t (st55 t k)
    have ks57 : own_R p e below (s₁.setTop (entryFrame m #[(.int p0), (.int p1), (.int p2), (.int p3), (.int p4), (.int p5)] maxLocals)) (T55.setTop (mkF m 152 #[.val (.int p0), .val (.int p1), .val (.int p2), .val (.int p3), .val (.int p4), .val (.int p5), .val (.ref b2), .val (.int (1 : Int32)), .val (.int v50)] [(.int v50), (.int (own_blank ((own_draw p0).toInt8.toInt32) ((own_draw p1).toInt8.toInt32) ((own_draw p2).toInt8.toInt32) ((own_draw p3).toInt8.toInt32) ((own_draw p4).toInt8.toInt32) (1 : Int32)))])) := fun t k => ks56 t (by
      show Steps p.tables e below (T55.setTop (mkF m 150 #[.val (.int p0), .val (.int p1), .val (.int p2), .val (.int p3), .val (.int p4), .val (.int p5), .val (.ref b2), .val (.int (1 : Int32)), .val (.int v50)] [(.int (own_blank ((own_draw p0).toInt8.toInt32) ((own_draw p1).toInt8.toInt32) ((own_draw p2).toInt8.toInt32) ((own_draw p3).toInt8.toInt32) ((own_draw p4).toInt8.toInt32) (1 : Int32)))])) _
      refine XS.iload X55.here hx rfl (hb hby at_150) rfl ?_
      exact k)
    by_cases hc58 : (own_blank ((own_draw p0).toInt8.toInt32) ((own_draw p1).toInt8.toInt32) ((own_draw p2).toInt8.toInt32) ((own_draw p3).toInt8.toInt32) ((own_draw p4).toInt8.toInt32) (1 : Int32)) = v50
    · skip
      have ks59 : own_R p e below (s₁.setTop (entryFrame m #[(.int p0), (.int p1), (.int p2), (.int p3), (.int p4), (.int p5)] maxLocals)) (T55.setTop (mkF m 160 #[.val (.int p0), .val (.int p1), .val (.int p2), .val (.int p3), .val (.int p4), .val (.int p5), .val (.ref b2), .val (.int (1 : Int32)), .val (.int v50)] [(.int (1 : Int32))])) := fun t k => ks57 t (by
        show Steps p.tables e below (T55.setTop (mkF m 152 #[.val (.int p0), .val (.int p1), .val (.int p2), .val (.int p3), .val (.int p4), .val (.int p5), .val (.ref b2), .val (.int (1 : Int32)), .val (.int v50)] [(.int v50), (.int (own_blank ((own_draw p0).toInt8.toInt32) ((own_draw p1).toInt8.toInt32) ((own_draw p2).toInt8.toInt32) ((own_draw p3).toInt8.toInt32) ((own_draw p4).toInt8.toInt32) (1 : Int32)))])) _
        refine XS.icmpNo X55.here hx rfl (hb hby at_152) rfl (teq hc58).2 ?_
        show Steps p.tables e below (T55.setTop (mkF m 155 #[.val (.int p0), .val (.int p1), .val (.int p2), .val (.int p3), .val (.int p4), .val (.int p5), .val (.ref b2), .val (.int (1 : Int32)), .val (.int v50)] [])) _
        refine XS.iconst X55.here hx rfl (hb hby at_155) ?_
        show Steps p.tables e below (T55.setTop (mkF m 156 #[.val (.int p0), .val (.int p1), .val (.int p2), .val (.int p3), .val (.int p4), .val (.int p5), .val (.ref b2), .val (.int (1 : Int32)), .val (.int v50)] [(.int (1 : Int32))])) _
        refine XS.goto X55.here hx rfl (pc0 := 156) (pc' := 160) rfl (hb hby at_156) (by decide) (by decide) ?_
        exact k)
      obtain ⟨fs, hr, hrun, hended, hW, hsame⟩ := X55.leave (v := some (.int (1 : Int32))) (fun h => by rw [Bd.returns] at h; cases h)
      refine ⟨_, _, ks59 _ ?_, hrun, hended, _, _, rfl, ?_, ⟨_, rfl⟩, hW, hsame.mono (by decide) (by decide)⟩
      · exact retN X55 hx (t := .boolean) Bd.returns (by simp) (hb hby at_160) hr
      · show Q0 Z p0 p1 p2 p3 p4 p5 h0 n0 _ T55.heap _
        rw [eq55]
        exact ⟨rfl, N55⟩
    · skip
      have ks60 : own_R p e below (s₁.setTop (entryFrame m #[(.int p0), (.int p1), (.int p2), (.int p3), (.int p4), (.int p5)] maxLocals)) (T55.setTop (mkF m 160 #[.val (.int p0), .val (.int p1), .val (.int p2), .val (.int p3), .val (.int p4), .val (.int p5), .val (.ref b2), .val (.int (1 : Int32)), .val (.int v50)] [(.int (0 : Int32))])) := fun t k => ks57 t (by
        show Steps p.tables e below (T55.setTop (mkF m 152 #[.val (.int p0), .val (.int p1), .val (.int p2), .val (.int p3), .val (.int p4), .val (.int p5), .val (.ref b2), .val (.int (1 : Int32)), .val (.int v50)] [(.int v50), (.int (own_blank ((own_draw p0).toInt8.toInt32) ((own_draw p1).toInt8.toInt32) ((own_draw p2).toInt8.toInt32) ((own_draw p3).toInt8.toInt32) ((own_draw p4).toInt8.toInt32) (1 : Int32)))])) _
        refine XS.icmpYes X55.here hx rfl (pc0 := 152) (pc' := 159) rfl (hb hby at_152) rfl (feq hc58).2 (by decide) (by decide) ?_
        show Steps p.tables e below (T55.setTop (mkF m 159 #[.val (.int p0), .val (.int p1), .val (.int p2), .val (.int p3), .val (.int p4), .val (.int p5), .val (.ref b2), .val (.int (1 : Int32)), .val (.int v50)] [])) _
        refine XS.iconst X55.here hx rfl (hb hby at_159) ?_
        exact k)
      obtain ⟨fs, hr, hrun, hended, hW, hsame⟩ := X55.leave (v := some (.int (0 : Int32))) (fun h => by rw [Bd.returns] at h; cases h)
      refine ⟨_, _, ks60 _ ?_, hrun, hended, _, _, rfl, ?_, ⟨_, rfl⟩, hW, hsame.mono (by decide) (by decide)⟩
      · exact retN X55 hx (t := .boolean) Bd.returns (by simp) (hb hby at_160) hr
      · show Q0 Z p0 p1 p2 p3 p4 p5 h0 n0 _ T55.heap _
        rw [eq55]
        exfalso
        apply hc58
        subst hv50
        unfold own_blank
        simp only [own_wi]
        simp
  · have el : v35 = (2 : Int32) := hv35.trans hl
    rw [el] at ks36
    have ks61 : own_R p e below (s₁.setTop (entryFrame m #[(.int p0), (.int p1), (.int p2), (.int p3), (.int p4), (.int p5)] maxLocals)) (T32.setTop (mkF m 65 #[.val (.int p0), .val (.int p1), .val (.int p2), .val (.int p3), .val (.int p4), .val (.int p5), .val (.ref b2), .val (.int (2 : Int32)), .unset] [(.int (0 : Int32)), (.ref b2)])) := fun t k => ks36 t (by
      show Steps p.tables e below (T32.setTop (mkF m 56 #[.val (.int p0), .val (.int p1), .val (.int p2), .val (.int p3), .val (.int p4), .val (.int p5), .val (.ref b2), .val (.int (2 : Int32)), .unset] [])) _
      refine XS.iload X32.here hx rfl (hb hby at_56) rfl ?_
      show Steps p.tables e below (T32.setTop (mkF m 58 #[.val (.int p0), .val (.int p1), .val (.int p2), .val (.int p3), .val (.int p4), .val (.int p5), .val (.ref b2), .val (.int (2 : Int32)), .unset] [(.int (2 : Int32))])) _
      refine XS.iconst X32.here hx rfl (hb hby at_58) ?_
      show Steps p.tables e below (T32.setTop (mkF m 59 #[.val (.int p0), .val (.int p1), .val (.int p2), .val (.int p3), .val (.int p4), .val (.int p5), .val (.ref b2), .val (.int (2 : Int32)), .unset] [(.int (1 : Int32)), (.int (2 : Int32))])) _
      refine XS.icmpNo X32.here hx rfl (hb hby at_59) rfl (flt (by decide)).1 ?_
      show Steps p.tables e below (T32.setTop (mkF m 62 #[.val (.int p0), .val (.int p1), .val (.int p2), .val (.int p3), .val (.int p4), .val (.int p5), .val (.ref b2), .val (.int (2 : Int32)), .unset] [])) _
      refine XS.aload X32.here hx rfl (hb hby at_62) rfl rfl ?_
      show Steps p.tables e below (T32.setTop (mkF m 64 #[.val (.int p0), .val (.int p1), .val (.int p2), .val (.int p3), .val (.int p4), .val (.int p5), .val (.ref b2), .val (.int (2 : Int32)), .unset] [(.ref b2)])) _
      refine XS.iconst X32.here hx rfl (hb hby at_64) ?_
      exact k)
    obtain ⟨cl62, Ar62, qa62, S62, Na62, Ha62, Ga62⟩ := id V32
    have ks63 : own_R p e below (s₁.setTop (entryFrame m #[(.int p0), (.int p1), (.int p2), (.int p3), (.int p4), (.int p5)] maxLocals)) (T32.setTop (mkF m 66 #[.val (.int p0), .val (.int p1), .val (.int p2), .val (.int p3), .val (.int p4), .val (.int p5), .val (.ref b2), .val (.int (2 : Int32)), .unset] [(.int ((own_draw p0).toInt8.toInt32))])) := fun t k => ks61 t (by
      show Steps p.tables e below (T32.setTop (mkF m 65 #[.val (.int p0), .val (.int p1), .val (.int p2), .val (.int p3), .val (.int p4), .val (.int p5), .val (.ref b2), .val (.int (2 : Int32)), .unset] [(.int (0 : Int32)), (.ref b2)])) _
      refine X32.baloadBytes hx (j := (0 : Int32)) (v := (.int ((own_draw p0).toInt8.toInt32))) (by rw [e32]; exact Ar62.1) (State.isArrayOf_alike hZ.alike Ar62.2.1) Ar62.2.2 (inb_of S62 ⟨by decide, by decide⟩) (Has.at Ha62 (inb_of S62 ⟨by decide, by decide⟩) rfl) (g := (mkF m 65 #[.val (.int p0), .val (.int p1), .val (.int p2), .val (.int p3), .val (.int p4), .val (.int p5), .val (.ref b2), .val (.int (2 : Int32)), .unset] [(.int (0 : Int32)), (.ref b2)])) rfl rfl (hb hby at_65) _ ?_
      exact k)
    obtain ⟨_, _, ⟨T64, L64, k64, n64⟩, -, X64, ⟨Lc64, hQ64, lq64, yq64, zq64⟩, st64⟩ := Jvm.LawKit.callS X32 hx (y := (⟨"com/example/rackline/rackline/protocols/ssc/MessageReaderIsBlankPinLaw", "ws", "(B)Z"⟩ : MethodName)) hown (mvT hZ (hw _ (List.mem_of_getElem? (i := 6) rfl))) (mvT hZ (hw _ (List.mem_of_getElem? (i := 7) rfl))) (mvT hZ (hw _ (List.mem_of_getElem? (i := 3) rfl))) (mvT hZ (hw _ (List.mem_of_getElem? (i := 8) rfl))) (by decide) (backOf (W := 0) (rm2 l Z a0 hw [] ((own_draw p0).toInt8.toInt32) h32 n0 Zn32 ) hZ (hw _ (List.mem_of_getElem? (i := 8) rfl)) (hw _ (List.mem_of_getElem? (i := 3) rfl)) (by decide) (by decide)) (g := (mkF m 66 #[.val (.int p0), .val (.int p1), .val (.int p2), .val (.int p3), .val (.int p4), .val (.int p5), .val (.ref b2), .val (.int (2 : Int32)), .unset] [(.int ((own_draw p0).toInt8.toInt32))])) rfl (by rw [hml]; rfl) (argsL := [(.int ((own_draw p0).toInt8.toInt32))]) (rest := []) (lenOf pd_1 rfl) rfl (by show 2 * 0 + _ ≤ _; exact Nat.le_of_eq rfl) (hb hby at_66) (fun _ _ => ⟨rfl, e32, (by decide : 1 + 0 ≤ _), (by decide : 5 + 0 ≤ _)⟩)
    dsimp only [Pt.U, Pt.locs, Pt.cells, Pt.slots] at X64 lq64 yq64 zq64 st64 hQ64
    subst lq64 yq64 zq64
    obtain ⟨rfl, Nq64, eq64⟩ := hQ64
    have N64 := Fr.app N32 Nq64
    have ks65 : own_R p e below (s₁.setTop (entryFrame m #[(.int p0), (.int p1), (.int p2), (.int p3), (.int p4), (.int p5)] maxLocals)) (T64.setTop (mkF m 69 #[.val (.int p0), .val (.int p1), .val (.int p2), .val (.int p3), .val (.int p4), .val (.int p5), .val (.ref b2), .val (.int (2 : Int32)), .unset] [(.int (own_ws ((own_draw p0).toInt8.toInt32)))])) := fun t k => ks63 t (st64 t k)
    obtain ⟨v76, hv76⟩ : ∃ z : Int32, z = (if (own_ws ((own_draw p0).toInt8.toInt32)) = (0 : Int32) then (0 : Int32) else (if (own_ws ((own_draw p1).toInt8.toInt32)) = (0 : Int32) then (0 : Int32) else (1 : Int32))) := ⟨_, rfl⟩
    obtain ⟨T77, L77, X77, N77, e77, k77⟩ : ∃ T' L', Stand p l e room_1 s m #[(.int p0), (.int p1), (.int p2), (.int p3), (.int p4), (.int p5)] below meth c T' L' 1 5 ∧ Fr n0 L' ∧ T'.heap = h32 ∧ own_R p e below (s₁.setTop (entryFrame m #[(.int p0), (.int p1), (.int p2), (.int p3), (.int p4), (.int p5)] maxLocals)) (T'.setTop (mkF m 141 #[.val (.int p0), .val (.int p1), .val (.int p2), .val (.int p3), .val (.int p4), .val (.int p5), .val (.ref b2), .val (.int (2 : Int32)), .unset] [(.int v76)])) := by
      by_cases hc66 : (own_ws ((own_draw p0).toInt8.toInt32)) = (0 : Int32)
      · skip
        have ks67 : own_R p e below (s₁.setTop (entryFrame m #[(.int p0), (.int p1), (.int p2), (.int p3), (.int p4), (.int p5)] maxLocals)) (T64.setTop (mkF m 141 #[.val (.int p0), .val (.int p1), .val (.int p2), .val (.int p3), .val (.int p4), .val (.int p5), .val (.ref b2), .val (.int (2 : Int32)), .unset] [(.int (0 : Int32))])) := fun t k => ks65 t (by
          show Steps p.tables e below (T64.setTop (mkF m 69 #[.val (.int p0), .val (.int p1), .val (.int p2), .val (.int p3), .val (.int p4), .val (.int p5), .val (.ref b2), .val (.int (2 : Int32)), .unset] [(.int (own_ws ((own_draw p0).toInt8.toInt32)))])) _
          refine XS.ifYes X64.here hx rfl (pc0 := 69) (pc' := 140) rfl (hb hby at_69) rfl ((if0 _ _).trans (teq hc66).1) (by decide) (by decide) ?_
          show Steps p.tables e below (T64.setTop (mkF m 140 #[.val (.int p0), .val (.int p1), .val (.int p2), .val (.int p3), .val (.int p4), .val (.int p5), .val (.ref b2), .val (.int (2 : Int32)), .unset] [])) _
          refine XS.iconst X64.here hx rfl (hb hby at_140) ?_
          exact k)
        have qq78 : v76 = (0 : Int32) := by
          rw [hv76, if_pos hc66]
        have ks79 : own_R p e below (s₁.setTop (entryFrame m #[(.int p0), (.int p1), (.int p2), (.int p3), (.int p4), (.int p5)] maxLocals)) (T64.setTop (mkF m 141 #[.val (.int p0), .val (.int p1), .val (.int p2), .val (.int p3), .val (.int p4), .val (.int p5), .val (.ref b2), .val (.int (2 : Int32)), .unset] [(.int v76)])) := fun t k => ks67 t (by
          rw [qq78] at k
          exact k)
        exact ⟨T64, _, X64, N64, eq64, ks79⟩
      · skip
        have ks68 : own_R p e below (s₁.setTop (entryFrame m #[(.int p0), (.int p1), (.int p2), (.int p3), (.int p4), (.int p5)] maxLocals)) (T64.setTop (mkF m 82 #[.val (.int p0), .val (.int p1), .val (.int p2), .val (.int p3), .val (.int p4), .val (.int p5), .val (.ref b2), .val (.int (2 : Int32)), .unset] [(.int ((own_draw p1).toInt8.toInt32))])) := fun t k => ks65 t (by
          show Steps p.tables e below (T64.setTop (mkF m 69 #[.val (.int p0), .val (.int p1), .val (.int p2), .val (.int p3), .val (.int p4), .val (.int p5), .val (.ref b2), .val (.int (2 : Int32)), .unset] [(.int (own_ws ((own_draw p0).toInt8.toInt32)))])) _
          refine XS.ifNo X64.here hx rfl (hb hby at_69) rfl ((if0 _ _).trans (feq hc66).1) ?_
          show Steps p.tables e below (T64.setTop (mkF m 72 #[.val (.int p0), .val (.int p1), .val (.int p2), .val (.int p3), .val (.int p4), .val (.int p5), .val (.ref b2), .val (.int (2 : Int32)), .unset] [])) _
          refine XS.iload X64.here hx rfl (hb hby at_72) rfl ?_
          show Steps p.tables e below (T64.setTop (mkF m 74 #[.val (.int p0), .val (.int p1), .val (.int p2), .val (.int p3), .val (.int p4), .val (.int p5), .val (.ref b2), .val (.int (2 : Int32)), .unset] [(.int (2 : Int32))])) _
          refine XS.iconst X64.here hx rfl (hb hby at_74) ?_
          show Steps p.tables e below (T64.setTop (mkF m 75 #[.val (.int p0), .val (.int p1), .val (.int p2), .val (.int p3), .val (.int p4), .val (.int p5), .val (.ref b2), .val (.int (2 : Int32)), .unset] [(.int (2 : Int32)), (.int (2 : Int32))])) _
          refine XS.icmpNo X64.here hx rfl (hb hby at_75) rfl (flt (by decide)).1 ?_
          show Steps p.tables e below (T64.setTop (mkF m 78 #[.val (.int p0), .val (.int p1), .val (.int p2), .val (.int p3), .val (.int p4), .val (.int p5), .val (.ref b2), .val (.int (2 : Int32)), .unset] [])) _
          refine XS.aload X64.here hx rfl (hb hby at_78) rfl rfl ?_
          show Steps p.tables e below (T64.setTop (mkF m 80 #[.val (.int p0), .val (.int p1), .val (.int p2), .val (.int p3), .val (.int p4), .val (.int p5), .val (.ref b2), .val (.int (2 : Int32)), .unset] [(.ref b2)])) _
          refine XS.iconst X64.here hx rfl (hb hby at_80) ?_
          show Steps p.tables e below (T64.setTop (mkF m 81 #[.val (.int p0), .val (.int p1), .val (.int p2), .val (.int p3), .val (.int p4), .val (.int p5), .val (.ref b2), .val (.int (2 : Int32)), .unset] [(.int (1 : Int32)), (.ref b2)])) _
          refine X64.baloadBytes hx (j := (1 : Int32)) (v := (.int ((own_draw p1).toInt8.toInt32))) (by rw [eq64]; exact Ar62.1) (State.isArrayOf_alike hZ.alike Ar62.2.1) Ar62.2.2 (inb_of S62 ⟨by decide, by decide⟩) (Has.at Ha62 (inb_of S62 ⟨by decide, by decide⟩) rfl) (g := (mkF m 81 #[.val (.int p0), .val (.int p1), .val (.int p2), .val (.int p3), .val (.int p4), .val (.int p5), .val (.ref b2), .val (.int (2 : Int32)), .unset] [(.int (1 : Int32)), (.ref b2)])) rfl rfl (hb hby at_81) _ ?_
          exact k)
        obtain ⟨_, _, ⟨T69, L69, k69, n69⟩, -, X69, ⟨Lc69, hQ69, lq69, yq69, zq69⟩, st69⟩ := Jvm.LawKit.callS X64 hx (y := (⟨"com/example/rackline/rackline/protocols/ssc/MessageReaderIsBlankPinLaw", "ws", "(B)Z"⟩ : MethodName)) hown (mvT hZ (hw _ (List.mem_of_getElem? (i := 6) rfl))) (mvT hZ (hw _ (List.mem_of_getElem? (i := 7) rfl))) (mvT hZ (hw _ (List.mem_of_getElem? (i := 3) rfl))) (mvT hZ (hw _ (List.mem_of_getElem? (i := 8) rfl))) (by decide) (backOf (W := 0) (rm2 l Z a0 hw [] ((own_draw p1).toInt8.toInt32) h32 n0 Zn32 ) hZ (hw _ (List.mem_of_getElem? (i := 8) rfl)) (hw _ (List.mem_of_getElem? (i := 3) rfl)) (by decide) (by decide)) (g := (mkF m 82 #[.val (.int p0), .val (.int p1), .val (.int p2), .val (.int p3), .val (.int p4), .val (.int p5), .val (.ref b2), .val (.int (2 : Int32)), .unset] [(.int ((own_draw p1).toInt8.toInt32))])) rfl (by rw [hml]; rfl) (argsL := [(.int ((own_draw p1).toInt8.toInt32))]) (rest := []) (lenOf pd_1 rfl) rfl (by show 2 * 0 + _ ≤ _; exact Nat.le_of_eq rfl) (hb hby at_82) (fun _ _ => ⟨rfl, eq64, (by decide : 1 + 0 ≤ _), (by decide : 5 + 0 ≤ _)⟩)
        dsimp only [Pt.U, Pt.locs, Pt.cells, Pt.slots] at X69 lq69 yq69 zq69 st69 hQ69
        subst lq69 yq69 zq69
        obtain ⟨rfl, Nq69, eq69⟩ := hQ69
        have N69 := Fr.app N64 Nq69
        have ks70 : own_R p e below (s₁.setTop (entryFrame m #[(.int p0), (.int p1), (.int p2), (.int p3), (.int p4), (.int p5)] maxLocals)) (T69.setTop (mkF m 85 #[.val (.int p0), .val (.int p1), .val (.int p2), .val (.int p3), .val (.int p4), .val (.int p5), .val (.ref b2), .val (.int (2 : Int32)), .unset] [(.int (own_ws ((own_draw p1).toInt8.toInt32)))])) := fun t k => ks68 t (st69 t k)
        obtain ⟨v72, hv72⟩ : ∃ z : Int32, z = (if (own_ws ((own_draw p1).toInt8.toInt32)) = (0 : Int32) then (0 : Int32) else (1 : Int32)) := ⟨_, rfl⟩
        have ks73 : own_R p e below (s₁.setTop (entryFrame m #[(.int p0), (.int p1), (.int p2), (.int p3), (.int p4), (.int p5)] maxLocals)) (T69.setTop (mkF m 141 #[.val (.int p0), .val (.int p1), .val (.int p2), .val (.int p3), .val (.int p4), .val (.int p5), .val (.ref b2), .val (.int (2 : Int32)), .unset] [(.int v72)])) := fun t k => ks70 t (by
          by_cases hc71 : (own_ws ((own_draw p1).toInt8.toInt32)) = (0 : Int32)
          · skip
            have qq74 : v72 = (0 : Int32) := by rw [hv72, if_pos hc71]
            rw [qq74] at k
            show Steps p.tables e below (T69.setTop (mkF m 85 #[.val (.int p0), .val (.int p1), .val (.int p2), .val (.int p3), .val (.int p4), .val (.int p5), .val (.ref b2), .val (.int (2 : Int32)), .unset] [(.int (own_ws ((own_draw p1).toInt8.toInt32)))])) _
            refine XS.ifYes X69.here hx rfl (pc0 := 85) (pc' := 140) rfl (hb hby at_85) rfl ((if0 _ _).trans (teq hc71).1) (by decide) (by decide) ?_
            show Steps p.tables e below (T69.setTop (mkF m 140 #[.val (.int p0), .val (.int p1), .val (.int p2), .val (.int p3), .val (.int p4), .val (.int p5), .val (.ref b2), .val (.int (2 : Int32)), .unset] [])) _
            refine XS.iconst X69.here hx rfl (hb hby at_140) ?_
            exact k
          · skip
            have qq75 : v72 = (1 : Int32) := by rw [hv72, if_neg hc71]
            rw [qq75] at k
            show Steps p.tables e below (T69.setTop (mkF m 85 #[.val (.int p0), .val (.int p1), .val (.int p2), .val (.int p3), .val (.int p4), .val (.int p5), .val (.ref b2), .val (.int (2 : Int32)), .unset] [(.int (own_ws ((own_draw p1).toInt8.toInt32)))])) _
            refine XS.ifNo X69.here hx rfl (hb hby at_85) rfl ((if0 _ _).trans (feq hc71).1) ?_
            show Steps p.tables e below (T69.setTop (mkF m 88 #[.val (.int p0), .val (.int p1), .val (.int p2), .val (.int p3), .val (.int p4), .val (.int p5), .val (.ref b2), .val (.int (2 : Int32)), .unset] [])) _
            refine XS.iload X69.here hx rfl (hb hby at_88) rfl ?_
            show Steps p.tables e below (T69.setTop (mkF m 90 #[.val (.int p0), .val (.int p1), .val (.int p2), .val (.int p3), .val (.int p4), .val (.int p5), .val (.ref b2), .val (.int (2 : Int32)), .unset] [(.int (2 : Int32))])) _
            refine XS.iconst X69.here hx rfl (hb hby at_90) ?_
            show Steps p.tables e below (T69.setTop (mkF m 91 #[.val (.int p0), .val (.int p1), .val (.int p2), .val (.int p3), .val (.int p4), .val (.int p5), .val (.ref b2), .val (.int (2 : Int32)), .unset] [(.int (3 : Int32)), (.int (2 : Int32))])) _
            refine XS.icmpYes X69.here hx rfl (pc0 := 91) (pc' := 104) rfl (hb hby at_91) rfl (tlt (by decide)).1 (by decide) (by decide) ?_
            show Steps p.tables e below (T69.setTop (mkF m 104 #[.val (.int p0), .val (.int p1), .val (.int p2), .val (.int p3), .val (.int p4), .val (.int p5), .val (.ref b2), .val (.int (2 : Int32)), .unset] [])) _
            refine XS.iload X69.here hx rfl (hb hby at_104) rfl ?_
            show Steps p.tables e below (T69.setTop (mkF m 106 #[.val (.int p0), .val (.int p1), .val (.int p2), .val (.int p3), .val (.int p4), .val (.int p5), .val (.ref b2), .val (.int (2 : Int32)), .unset] [(.int (2 : Int32))])) _
            refine XS.iconst X69.here hx rfl (hb hby at_106) ?_
            show Steps p.tables e below (T69.setTop (mkF m 107 #[.val (.int p0), .val (.int p1), .val (.int p2), .val (.int p3), .val (.int p4), .val (.int p5), .val (.ref b2), .val (.int (2 : Int32)), .unset] [(.int (4 : Int32)), (.int (2 : Int32))])) _
            refine XS.icmpYes X69.here hx rfl (pc0 := 107) (pc' := 120) rfl (hb hby at_107) rfl (tlt (by decide)).1 (by decide) (by decide) ?_
            show Steps p.tables e below (T69.setTop (mkF m 120 #[.val (.int p0), .val (.int p1), .val (.int p2), .val (.int p3), .val (.int p4), .val (.int p5), .val (.ref b2), .val (.int (2 : Int32)), .unset] [])) _
            refine XS.iload X69.here hx rfl (hb hby at_120) rfl ?_
            show Steps p.tables e below (T69.setTop (mkF m 122 #[.val (.int p0), .val (.int p1), .val (.int p2), .val (.int p3), .val (.int p4), .val (.int p5), .val (.ref b2), .val (.int (2 : Int32)), .unset] [(.int (2 : Int32))])) _
            refine XS.iconst X69.here hx rfl (hb hby at_122) ?_
            show Steps p.tables e below (T69.setTop (mkF m 123 #[.val (.int p0), .val (.int p1), .val (.int p2), .val (.int p3), .val (.int p4), .val (.int p5), .val (.ref b2), .val (.int (2 : Int32)), .unset] [(.int (5 : Int32)), (.int (2 : Int32))])) _
            refine XS.icmpYes X69.here hx rfl (pc0 := 123) (pc' := 136) rfl (hb hby at_123) rfl (tlt (by decide)).1 (by decide) (by decide) ?_
            show Steps p.tables e below (T69.setTop (mkF m 136 #[.val (.int p0), .val (.int p1), .val (.int p2), .val (.int p3), .val (.int p4), .val (.int p5), .val (.ref b2), .val (.int (2 : Int32)), .unset] [])) _
            refine XS.iconst X69.here hx rfl (hb hby at_136) ?_
            show Steps p.tables e below (T69.setTop (mkF m 137 #[.val (.int p0), .val (.int p1), .val (.int p2), .val (.int p3), .val (.int p4), .val (.int p5), .val (.ref b2), .val (.int (2 : Int32)), .unset] [(.int (1 : Int32))])) _
            refine XS.goto X69.here hx rfl (pc0 := 137) (pc' := 141) rfl (hb hby at_137) (by decide) (by decide) ?_
            exact k)
        have qq80 : v76 = v72 := by
          subst hv72
          rw [hv76, if_neg hc66]
        have ks81 : own_R p e below (s₁.setTop (entryFrame m #[(.int p0), (.int p1), (.int p2), (.int p3), (.int p4), (.int p5)] maxLocals)) (T69.setTop (mkF m 141 #[.val (.int p0), .val (.int p1), .val (.int p2), .val (.int p3), .val (.int p4), .val (.int p5), .val (.ref b2), .val (.int (2 : Int32)), .unset] [(.int v76)])) := fun t k => ks73 t (by
          rw [qq80] at k
          exact k)
        exact ⟨T69, _, X69, N69, eq69, ks81⟩
    have ks82 : own_R p e below (s₁.setTop (entryFrame m #[(.int p0), (.int p1), (.int p2), (.int p3), (.int p4), (.int p5)] maxLocals)) (T77.setTop (mkF m 147 #[.val (.int p0), .val (.int p1), .val (.int p2), .val (.int p3), .val (.int p4), .val (.int p5), .val (.ref b2), .val (.int (2 : Int32)), .val (.int v76)] [(.int (2 : Int32)), (.ref b2)])) := fun t k => k77 t (by
      show Steps p.tables e below (T77.setTop (mkF m 141 #[.val (.int p0), .val (.int p1), .val (.int p2), .val (.int p3), .val (.int p4), .val (.int p5), .val (.ref b2), .val (.int (2 : Int32)), .unset] [(.int v76)])) _
      refine XS.istore X77.here hx rfl (hb hby at_141) rfl (l' := #[.val (.int p0), .val (.int p1), .val (.int p2), .val (.int p3), .val (.int p4), .val (.int p5), .val (.ref b2), .val (.int (2 : Int32)), .val (.int v76)]) rfl ?_
      show Steps p.tables e below (T77.setTop (mkF m 143 #[.val (.int p0), .val (.int p1), .val (.int p2), .val (.int p3), .val (.int p4), .val (.int p5), .val (.ref b2), .val (.int (2 : Int32)), .val (.int v76)] [])) _
      refine XS.aload X77.here hx rfl (hb hby at_143) rfl rfl ?_
      show Steps p.tables e below (T77.setTop (mkF m 145 #[.val (.int p0), .val (.int p1), .val (.int p2), .val (.int p3), .val (.int p4), .val (.int p5), .val (.ref b2), .val (.int (2 : Int32)), .val (.int v76)] [(.ref b2)])) _
      refine XS.iload X77.here hx rfl (hb hby at_145) rfl ?_
      exact k)
    obtain ⟨_, _, ⟨T83, L83, k83, n83⟩, -, X83, ⟨Lc83, hQ83, lq83, yq83, zq83⟩, st83⟩ := Jvm.LawKit.callS X77 hx (y := (⟨"com/example/rackline/rackline/protocols/ssc/MessageReader", "isBlank", "([BI)Z"⟩ : MethodName)) hown (mvT hZ (hw _ (List.mem_of_getElem? (i := 9) rfl))) (mvT hZ (hw _ (List.mem_of_getElem? (i := 10) rfl))) (mvT hZ (hw _ (List.mem_of_getElem? (i := 11) rfl))) (mvT hZ (hw _ (List.mem_of_getElem? (i := 12) rfl))) (by decide) (backOf (W := 0) (rm3 l Z a0 hw [] b2 (2 : Int32) _ ((own_draw p0).toInt8.toInt32) ((own_draw p1).toInt8.toInt32) ((own_draw p2).toInt8.toInt32) ((own_draw p3).toInt8.toInt32) ((own_draw p4).toInt8.toInt32) h32 n0 Zn32 (by decide) V32) hZ (hw _ (List.mem_of_getElem? (i := 12) rfl)) (hw _ (List.mem_of_getElem? (i := 11) rfl)) (by decide) (by decide)) (g := (mkF m 147 #[.val (.int p0), .val (.int p1), .val (.int p2), .val (.int p3), .val (.int p4), .val (.int p5), .val (.ref b2), .val (.int (2 : Int32)), .val (.int v76)] [(.int (2 : Int32)), (.ref b2)])) rfl (by rw [hml]; rfl) (argsL := [(.ref b2), (.int (2 : Int32))]) (rest := []) (lenOf pd_2 rfl) rfl (by show 2 * 0 + _ ≤ _; exact Nat.le_of_eq rfl) (hb hby at_147) (fun _ _ => ⟨rfl, e77, (by decide : 1 + 0 ≤ _), (by decide : 5 + 0 ≤ _)⟩)
    dsimp only [Pt.U, Pt.locs, Pt.cells, Pt.slots] at X83 lq83 yq83 zq83 st83 hQ83
    subst lq83 yq83 zq83
    obtain ⟨rfl, Nq83, eq83⟩ := hQ83
    have N83 := Fr.app N77 Nq83
    have ks84 : own_R p e below (s₁.setTop (entryFrame m #[(.int p0), (.int p1), (.int p2), (.int p3), (.int p4), (.int p5)] maxLocals)) (T83.setTop (mkF m 150 #[.val (.int p0), .val (.int p1), .val (.int p2), .val (.int p3), .val (.int p4), .val (.int p5), .val (.ref b2), .val (.int (2 : Int32)), .val (.int v76)] [(.int (own_blank ((own_draw p0).toInt8.toInt32) ((own_draw p1).toInt8.toInt32) ((own_draw p2).toInt8.toInt32) ((own_draw p3).toInt8.toInt32) ((own_draw p4).toInt8.toInt32) (2 : Int32)))])) := fun t k => ks82 t (st83 t k)
    have ks85 : own_R p e below (s₁.setTop (entryFrame m #[(.int p0), (.int p1), (.int p2), (.int p3), (.int p4), (.int p5)] maxLocals)) (T83.setTop (mkF m 152 #[.val (.int p0), .val (.int p1), .val (.int p2), .val (.int p3), .val (.int p4), .val (.int p5), .val (.ref b2), .val (.int (2 : Int32)), .val (.int v76)] [(.int v76), (.int (own_blank ((own_draw p0).toInt8.toInt32) ((own_draw p1).toInt8.toInt32) ((own_draw p2).toInt8.toInt32) ((own_draw p3).toInt8.toInt32) ((own_draw p4).toInt8.toInt32) (2 : Int32)))])) := fun t k => ks84 t (by
      show Steps p.tables e below (T83.setTop (mkF m 150 #[.val (.int p0), .val (.int p1), .val (.int p2), .val (.int p3), .val (.int p4), .val (.int p5), .val (.ref b2), .val (.int (2 : Int32)), .val (.int v76)] [(.int (own_blank ((own_draw p0).toInt8.toInt32) ((own_draw p1).toInt8.toInt32) ((own_draw p2).toInt8.toInt32) ((own_draw p3).toInt8.toInt32) ((own_draw p4).toInt8.toInt32) (2 : Int32)))])) _
      refine XS.iload X83.here hx rfl (hb hby at_150) rfl ?_
      exact k)
    by_cases hc86 : (own_blank ((own_draw p0).toInt8.toInt32) ((own_draw p1).toInt8.toInt32) ((own_draw p2).toInt8.toInt32) ((own_draw p3).toInt8.toInt32) ((own_draw p4).toInt8.toInt32) (2 : Int32)) = v76
    · skip
      have ks87 : own_R p e below (s₁.setTop (entryFrame m #[(.int p0), (.int p1), (.int p2), (.int p3), (.int p4), (.int p5)] maxLocals)) (T83.setTop (mkF m 160 #[.val (.int p0), .val (.int p1), .val (.int p2), .val (.int p3), .val (.int p4), .val (.int p5), .val (.ref b2), .val (.int (2 : Int32)), .val (.int v76)] [(.int (1 : Int32))])) := fun t k => ks85 t (by
        show Steps p.tables e below (T83.setTop (mkF m 152 #[.val (.int p0), .val (.int p1), .val (.int p2), .val (.int p3), .val (.int p4), .val (.int p5), .val (.ref b2), .val (.int (2 : Int32)), .val (.int v76)] [(.int v76), (.int (own_blank ((own_draw p0).toInt8.toInt32) ((own_draw p1).toInt8.toInt32) ((own_draw p2).toInt8.toInt32) ((own_draw p3).toInt8.toInt32) ((own_draw p4).toInt8.toInt32) (2 : Int32)))])) _
        refine XS.icmpNo X83.here hx rfl (hb hby at_152) rfl (teq hc86).2 ?_
        show Steps p.tables e below (T83.setTop (mkF m 155 #[.val (.int p0), .val (.int p1), .val (.int p2), .val (.int p3), .val (.int p4), .val (.int p5), .val (.ref b2), .val (.int (2 : Int32)), .val (.int v76)] [])) _
        refine XS.iconst X83.here hx rfl (hb hby at_155) ?_
        show Steps p.tables e below (T83.setTop (mkF m 156 #[.val (.int p0), .val (.int p1), .val (.int p2), .val (.int p3), .val (.int p4), .val (.int p5), .val (.ref b2), .val (.int (2 : Int32)), .val (.int v76)] [(.int (1 : Int32))])) _
        refine XS.goto X83.here hx rfl (pc0 := 156) (pc' := 160) rfl (hb hby at_156) (by decide) (by decide) ?_
        exact k)
      obtain ⟨fs, hr, hrun, hended, hW, hsame⟩ := X83.leave (v := some (.int (1 : Int32))) (fun h => by rw [Bd.returns] at h; cases h)
      refine ⟨_, _, ks87 _ ?_, hrun, hended, _, _, rfl, ?_, ⟨_, rfl⟩, hW, hsame.mono (by decide) (by decide)⟩
      · exact retN X83 hx (t := .boolean) Bd.returns (by simp) (hb hby at_160) hr
      · show Q0 Z p0 p1 p2 p3 p4 p5 h0 n0 _ T83.heap _
        rw [eq83]
        exact ⟨rfl, N83⟩
    · skip
      have ks88 : own_R p e below (s₁.setTop (entryFrame m #[(.int p0), (.int p1), (.int p2), (.int p3), (.int p4), (.int p5)] maxLocals)) (T83.setTop (mkF m 160 #[.val (.int p0), .val (.int p1), .val (.int p2), .val (.int p3), .val (.int p4), .val (.int p5), .val (.ref b2), .val (.int (2 : Int32)), .val (.int v76)] [(.int (0 : Int32))])) := fun t k => ks85 t (by
        show Steps p.tables e below (T83.setTop (mkF m 152 #[.val (.int p0), .val (.int p1), .val (.int p2), .val (.int p3), .val (.int p4), .val (.int p5), .val (.ref b2), .val (.int (2 : Int32)), .val (.int v76)] [(.int v76), (.int (own_blank ((own_draw p0).toInt8.toInt32) ((own_draw p1).toInt8.toInt32) ((own_draw p2).toInt8.toInt32) ((own_draw p3).toInt8.toInt32) ((own_draw p4).toInt8.toInt32) (2 : Int32)))])) _
        refine XS.icmpYes X83.here hx rfl (pc0 := 152) (pc' := 159) rfl (hb hby at_152) rfl (feq hc86).2 (by decide) (by decide) ?_
        show Steps p.tables e below (T83.setTop (mkF m 159 #[.val (.int p0), .val (.int p1), .val (.int p2), .val (.int p3), .val (.int p4), .val (.int p5), .val (.ref b2), .val (.int (2 : Int32)), .val (.int v76)] [])) _
        refine XS.iconst X83.here hx rfl (hb hby at_159) ?_
        exact k)
      obtain ⟨fs, hr, hrun, hended, hW, hsame⟩ := X83.leave (v := some (.int (0 : Int32))) (fun h => by rw [Bd.returns] at h; cases h)
      refine ⟨_, _, ks88 _ ?_, hrun, hended, _, _, rfl, ?_, ⟨_, rfl⟩, hW, hsame.mono (by decide) (by decide)⟩
      · exact retN X83 hx (t := .boolean) Bd.returns (by simp) (hb hby at_160) hr
      · show Q0 Z p0 p1 p2 p3 p4 p5 h0 n0 _ T83.heap _
        rw [eq83]
        exfalso
        apply hc86
        subst hv76
        unfold own_blank
        simp only [own_wi]
        simp
  · have el : v35 = (3 : Int32) := hv35.trans hl
    rw [el] at ks36
    have ks89 : own_R p e below (s₁.setTop (entryFrame m #[(.int p0), (.int p1), (.int p2), (.int p3), (.int p4), (.int p5)] maxLocals)) (T32.setTop (mkF m 65 #[.val (.int p0), .val (.int p1), .val (.int p2), .val (.int p3), .val (.int p4), .val (.int p5), .val (.ref b2), .val (.int (3 : Int32)), .unset] [(.int (0 : Int32)), (.ref b2)])) := fun t k => ks36 t (by
      show Steps p.tables e below (T32.setTop (mkF m 56 #[.val (.int p0), .val (.int p1), .val (.int p2), .val (.int p3), .val (.int p4), .val (.int p5), .val (.ref b2), .val (.int (3 : Int32)), .unset] [])) _
      refine XS.iload X32.here hx rfl (hb hby at_56) rfl ?_
      show Steps p.tables e below (T32.setTop (mkF m 58 #[.val (.int p0), .val (.int p1), .val (.int p2), .val (.int p3), .val (.int p4), .val (.int p5), .val (.ref b2), .val (.int (3 : Int32)), .unset] [(.int (3 : Int32))])) _
      refine XS.iconst X32.here hx rfl (hb hby at_58) ?_
      show Steps p.tables e below (T32.setTop (mkF m 59 #[.val (.int p0), .val (.int p1), .val (.int p2), .val (.int p3), .val (.int p4), .val (.int p5), .val (.ref b2), .val (.int (3 : Int32)), .unset] [(.int (1 : Int32)), (.int (3 : Int32))])) _
      refine XS.icmpNo X32.here hx rfl (hb hby at_59) rfl (flt (by decide)).1 ?_
      show Steps p.tables e below (T32.setTop (mkF m 62 #[.val (.int p0), .val (.int p1), .val (.int p2), .val (.int p3), .val (.int p4), .val (.int p5), .val (.ref b2), .val (.int (3 : Int32)), .unset] [])) _
      refine XS.aload X32.here hx rfl (hb hby at_62) rfl rfl ?_
      show Steps p.tables e below (T32.setTop (mkF m 64 #[.val (.int p0), .val (.int p1), .val (.int p2), .val (.int p3), .val (.int p4), .val (.int p5), .val (.ref b2), .val (.int (3 : Int32)), .unset] [(.ref b2)])) _
      refine XS.iconst X32.here hx rfl (hb hby at_64) ?_
      exact k)
    obtain ⟨cl90, Ar90, qa90, S90, Na90, Ha90, Ga90⟩ := id V32
    have ks91 : own_R p e below (s₁.setTop (entryFrame m #[(.int p0), (.int p1), (.int p2), (.int p3), (.int p4), (.int p5)] maxLocals)) (T32.setTop (mkF m 66 #[.val (.int p0), .val (.int p1), .val (.int p2), .val (.int p3), .val (.int p4), .val (.int p5), .val (.ref b2), .val (.int (3 : Int32)), .unset] [(.int ((own_draw p0).toInt8.toInt32))])) := fun t k => ks89 t (by
      show Steps p.tables e below (T32.setTop (mkF m 65 #[.val (.int p0), .val (.int p1), .val (.int p2), .val (.int p3), .val (.int p4), .val (.int p5), .val (.ref b2), .val (.int (3 : Int32)), .unset] [(.int (0 : Int32)), (.ref b2)])) _
      refine X32.baloadBytes hx (j := (0 : Int32)) (v := (.int ((own_draw p0).toInt8.toInt32))) (by rw [e32]; exact Ar90.1) (State.isArrayOf_alike hZ.alike Ar90.2.1) Ar90.2.2 (inb_of S90 ⟨by decide, by decide⟩) (Has.at Ha90 (inb_of S90 ⟨by decide, by decide⟩) rfl) (g := (mkF m 65 #[.val (.int p0), .val (.int p1), .val (.int p2), .val (.int p3), .val (.int p4), .val (.int p5), .val (.ref b2), .val (.int (3 : Int32)), .unset] [(.int (0 : Int32)), (.ref b2)])) rfl rfl (hb hby at_65) _ ?_
      exact k)
    obtain ⟨_, _, ⟨T92, L92, k92, n92⟩, -, X92, ⟨Lc92, hQ92, lq92, yq92, zq92⟩, st92⟩ := Jvm.LawKit.callS X32 hx (y := (⟨"com/example/rackline/rackline/protocols/ssc/MessageReaderIsBlankPinLaw", "ws", "(B)Z"⟩ : MethodName)) hown (mvT hZ (hw _ (List.mem_of_getElem? (i := 6) rfl))) (mvT hZ (hw _ (List.mem_of_getElem? (i := 7) rfl))) (mvT hZ (hw _ (List.mem_of_getElem? (i := 3) rfl))) (mvT hZ (hw _ (List.mem_of_getElem? (i := 8) rfl))) (by decide) (backOf (W := 0) (rm2 l Z a0 hw [] ((own_draw p0).toInt8.toInt32) h32 n0 Zn32 ) hZ (hw _ (List.mem_of_getElem? (i := 8) rfl)) (hw _ (List.mem_of_getElem? (i := 3) rfl)) (by decide) (by decide)) (g := (mkF m 66 #[.val (.int p0), .val (.int p1), .val (.int p2), .val (.int p3), .val (.int p4), .val (.int p5), .val (.ref b2), .val (.int (3 : Int32)), .unset] [(.int ((own_draw p0).toInt8.toInt32))])) rfl (by rw [hml]; rfl) (argsL := [(.int ((own_draw p0).toInt8.toInt32))]) (rest := []) (lenOf pd_1 rfl) rfl (by show 2 * 0 + _ ≤ _; exact Nat.le_of_eq rfl) (hb hby at_66) (fun _ _ => ⟨rfl, e32, (by decide : 1 + 0 ≤ _), (by decide : 5 + 0 ≤ _)⟩)
    dsimp only [Pt.U, Pt.locs, Pt.cells, Pt.slots] at X92 lq92 yq92 zq92 st92 hQ92
    subst lq92 yq92 zq92
    obtain ⟨rfl, Nq92, eq92⟩ := hQ92
    have N92 := Fr.app N32 Nq92
    have ks93 : own_R p e below (s₁.setTop (entryFrame m #[(.int p0), (.int p1), (.int p2), (.int p3), (.int p4), (.int p5)] maxLocals)) (T92.setTop (mkF m 69 #[.val (.int p0), .val (.int p1), .val (.int p2), .val (.int p3), .val (.int p4), .val (.int p5), .val (.ref b2), .val (.int (3 : Int32)), .unset] [(.int (own_ws ((own_draw p0).toInt8.toInt32)))])) := fun t k => ks91 t (st92 t k)
    obtain ⟨v115, hv115⟩ : ∃ z : Int32, z = (if (own_ws ((own_draw p0).toInt8.toInt32)) = (0 : Int32) then (0 : Int32) else (if (own_ws ((own_draw p1).toInt8.toInt32)) = (0 : Int32) then (0 : Int32) else (if (own_ws ((own_draw p2).toInt8.toInt32)) = (0 : Int32) then (0 : Int32) else (1 : Int32)))) := ⟨_, rfl⟩
    obtain ⟨T116, L116, X116, N116, e116, k116⟩ : ∃ T' L', Stand p l e room_1 s m #[(.int p0), (.int p1), (.int p2), (.int p3), (.int p4), (.int p5)] below meth c T' L' 1 5 ∧ Fr n0 L' ∧ T'.heap = h32 ∧ own_R p e below (s₁.setTop (entryFrame m #[(.int p0), (.int p1), (.int p2), (.int p3), (.int p4), (.int p5)] maxLocals)) (T'.setTop (mkF m 141 #[.val (.int p0), .val (.int p1), .val (.int p2), .val (.int p3), .val (.int p4), .val (.int p5), .val (.ref b2), .val (.int (3 : Int32)), .unset] [(.int v115)])) := by
      by_cases hc94 : (own_ws ((own_draw p0).toInt8.toInt32)) = (0 : Int32)
      · skip
        have ks95 : own_R p e below (s₁.setTop (entryFrame m #[(.int p0), (.int p1), (.int p2), (.int p3), (.int p4), (.int p5)] maxLocals)) (T92.setTop (mkF m 141 #[.val (.int p0), .val (.int p1), .val (.int p2), .val (.int p3), .val (.int p4), .val (.int p5), .val (.ref b2), .val (.int (3 : Int32)), .unset] [(.int (0 : Int32))])) := fun t k => ks93 t (by
          show Steps p.tables e below (T92.setTop (mkF m 69 #[.val (.int p0), .val (.int p1), .val (.int p2), .val (.int p3), .val (.int p4), .val (.int p5), .val (.ref b2), .val (.int (3 : Int32)), .unset] [(.int (own_ws ((own_draw p0).toInt8.toInt32)))])) _
          refine XS.ifYes X92.here hx rfl (pc0 := 69) (pc' := 140) rfl (hb hby at_69) rfl ((if0 _ _).trans (teq hc94).1) (by decide) (by decide) ?_
          show Steps p.tables e below (T92.setTop (mkF m 140 #[.val (.int p0), .val (.int p1), .val (.int p2), .val (.int p3), .val (.int p4), .val (.int p5), .val (.ref b2), .val (.int (3 : Int32)), .unset] [])) _
          refine XS.iconst X92.here hx rfl (hb hby at_140) ?_
          exact k)
        have qq117 : v115 = (0 : Int32) := by
          rw [hv115, if_pos hc94]
        have ks118 : own_R p e below (s₁.setTop (entryFrame m #[(.int p0), (.int p1), (.int p2), (.int p3), (.int p4), (.int p5)] maxLocals)) (T92.setTop (mkF m 141 #[.val (.int p0), .val (.int p1), .val (.int p2), .val (.int p3), .val (.int p4), .val (.int p5), .val (.ref b2), .val (.int (3 : Int32)), .unset] [(.int v115)])) := fun t k => ks95 t (by
          rw [qq117] at k
          exact k)
        exact ⟨T92, _, X92, N92, eq92, ks118⟩
      · skip
        have ks96 : own_R p e below (s₁.setTop (entryFrame m #[(.int p0), (.int p1), (.int p2), (.int p3), (.int p4), (.int p5)] maxLocals)) (T92.setTop (mkF m 82 #[.val (.int p0), .val (.int p1), .val (.int p2), .val (.int p3), .val (.int p4), .val (.int p5), .val (.ref b2), .val (.int (3 : Int32)), .unset] [(.int ((own_draw p1).toInt8.toInt32))])) := fun t k => ks93 t (by
          show Steps p.tables e below (T92.setTop (mkF m 69 #[.val (.int p0), .val (.int p1), .val (.int p2), .val (.int p3), .val (.int p4), .val (.int p5), .val (.ref b2), .val (.int (3 : Int32)), .unset] [(.int (own_ws ((own_draw p0).toInt8.toInt32)))])) _
          refine XS.ifNo X92.here hx rfl (hb hby at_69) rfl ((if0 _ _).trans (feq hc94).1) ?_
          show Steps p.tables e below (T92.setTop (mkF m 72 #[.val (.int p0), .val (.int p1), .val (.int p2), .val (.int p3), .val (.int p4), .val (.int p5), .val (.ref b2), .val (.int (3 : Int32)), .unset] [])) _
          refine XS.iload X92.here hx rfl (hb hby at_72) rfl ?_
          show Steps p.tables e below (T92.setTop (mkF m 74 #[.val (.int p0), .val (.int p1), .val (.int p2), .val (.int p3), .val (.int p4), .val (.int p5), .val (.ref b2), .val (.int (3 : Int32)), .unset] [(.int (3 : Int32))])) _
          refine XS.iconst X92.here hx rfl (hb hby at_74) ?_
          show Steps p.tables e below (T92.setTop (mkF m 75 #[.val (.int p0), .val (.int p1), .val (.int p2), .val (.int p3), .val (.int p4), .val (.int p5), .val (.ref b2), .val (.int (3 : Int32)), .unset] [(.int (2 : Int32)), (.int (3 : Int32))])) _
          refine XS.icmpNo X92.here hx rfl (hb hby at_75) rfl (flt (by decide)).1 ?_
          show Steps p.tables e below (T92.setTop (mkF m 78 #[.val (.int p0), .val (.int p1), .val (.int p2), .val (.int p3), .val (.int p4), .val (.int p5), .val (.ref b2), .val (.int (3 : Int32)), .unset] [])) _
          refine XS.aload X92.here hx rfl (hb hby at_78) rfl rfl ?_
          show Steps p.tables e below (T92.setTop (mkF m 80 #[.val (.int p0), .val (.int p1), .val (.int p2), .val (.int p3), .val (.int p4), .val (.int p5), .val (.ref b2), .val (.int (3 : Int32)), .unset] [(.ref b2)])) _
          refine XS.iconst X92.here hx rfl (hb hby at_80) ?_
          show Steps p.tables e below (T92.setTop (mkF m 81 #[.val (.int p0), .val (.int p1), .val (.int p2), .val (.int p3), .val (.int p4), .val (.int p5), .val (.ref b2), .val (.int (3 : Int32)), .unset] [(.int (1 : Int32)), (.ref b2)])) _
          refine X92.baloadBytes hx (j := (1 : Int32)) (v := (.int ((own_draw p1).toInt8.toInt32))) (by rw [eq92]; exact Ar90.1) (State.isArrayOf_alike hZ.alike Ar90.2.1) Ar90.2.2 (inb_of S90 ⟨by decide, by decide⟩) (Has.at Ha90 (inb_of S90 ⟨by decide, by decide⟩) rfl) (g := (mkF m 81 #[.val (.int p0), .val (.int p1), .val (.int p2), .val (.int p3), .val (.int p4), .val (.int p5), .val (.ref b2), .val (.int (3 : Int32)), .unset] [(.int (1 : Int32)), (.ref b2)])) rfl rfl (hb hby at_81) _ ?_
          exact k)
        obtain ⟨_, _, ⟨T97, L97, k97, n97⟩, -, X97, ⟨Lc97, hQ97, lq97, yq97, zq97⟩, st97⟩ := Jvm.LawKit.callS X92 hx (y := (⟨"com/example/rackline/rackline/protocols/ssc/MessageReaderIsBlankPinLaw", "ws", "(B)Z"⟩ : MethodName)) hown (mvT hZ (hw _ (List.mem_of_getElem? (i := 6) rfl))) (mvT hZ (hw _ (List.mem_of_getElem? (i := 7) rfl))) (mvT hZ (hw _ (List.mem_of_getElem? (i := 3) rfl))) (mvT hZ (hw _ (List.mem_of_getElem? (i := 8) rfl))) (by decide) (backOf (W := 0) (rm2 l Z a0 hw [] ((own_draw p1).toInt8.toInt32) h32 n0 Zn32 ) hZ (hw _ (List.mem_of_getElem? (i := 8) rfl)) (hw _ (List.mem_of_getElem? (i := 3) rfl)) (by decide) (by decide)) (g := (mkF m 82 #[.val (.int p0), .val (.int p1), .val (.int p2), .val (.int p3), .val (.int p4), .val (.int p5), .val (.ref b2), .val (.int (3 : Int32)), .unset] [(.int ((own_draw p1).toInt8.toInt32))])) rfl (by rw [hml]; rfl) (argsL := [(.int ((own_draw p1).toInt8.toInt32))]) (rest := []) (lenOf pd_1 rfl) rfl (by show 2 * 0 + _ ≤ _; exact Nat.le_of_eq rfl) (hb hby at_82) (fun _ _ => ⟨rfl, eq92, (by decide : 1 + 0 ≤ _), (by decide : 5 + 0 ≤ _)⟩)
        dsimp only [Pt.U, Pt.locs, Pt.cells, Pt.slots] at X97 lq97 yq97 zq97 st97 hQ97
        subst lq97 yq97 zq97
        obtain ⟨rfl, Nq97, eq97⟩ := hQ97
        have N97 := Fr.app N92 Nq97
        have ks98 : own_R p e below (s₁.setTop (entryFrame m #[(.int p0), (.int p1), (.int p2), (.int p3), (.int p4), (.int p5)] maxLocals)) (T97.setTop (mkF m 85 #[.val (.int p0), .val (.int p1), .val (.int p2), .val (.int p3), .val (.int p4), .val (.int p5), .val (.ref b2), .val (.int (3 : Int32)), .unset] [(.int (own_ws ((own_draw p1).toInt8.toInt32)))])) := fun t k => ks96 t (st97 t k)
        obtain ⟨v109, hv109⟩ : ∃ z : Int32, z = (if (own_ws ((own_draw p1).toInt8.toInt32)) = (0 : Int32) then (0 : Int32) else (if (own_ws ((own_draw p2).toInt8.toInt32)) = (0 : Int32) then (0 : Int32) else (1 : Int32))) := ⟨_, rfl⟩
        obtain ⟨T110, L110, X110, N110, e110, k110⟩ : ∃ T' L', Stand p l e room_1 s m #[(.int p0), (.int p1), (.int p2), (.int p3), (.int p4), (.int p5)] below meth c T' L' 1 5 ∧ Fr n0 L' ∧ T'.heap = h32 ∧ own_R p e below (s₁.setTop (entryFrame m #[(.int p0), (.int p1), (.int p2), (.int p3), (.int p4), (.int p5)] maxLocals)) (T'.setTop (mkF m 141 #[.val (.int p0), .val (.int p1), .val (.int p2), .val (.int p3), .val (.int p4), .val (.int p5), .val (.ref b2), .val (.int (3 : Int32)), .unset] [(.int v109)])) := by
          by_cases hc99 : (own_ws ((own_draw p1).toInt8.toInt32)) = (0 : Int32)
          · skip
            have ks100 : own_R p e below (s₁.setTop (entryFrame m #[(.int p0), (.int p1), (.int p2), (.int p3), (.int p4), (.int p5)] maxLocals)) (T97.setTop (mkF m 141 #[.val (.int p0), .val (.int p1), .val (.int p2), .val (.int p3), .val (.int p4), .val (.int p5), .val (.ref b2), .val (.int (3 : Int32)), .unset] [(.int (0 : Int32))])) := fun t k => ks98 t (by
              show Steps p.tables e below (T97.setTop (mkF m 85 #[.val (.int p0), .val (.int p1), .val (.int p2), .val (.int p3), .val (.int p4), .val (.int p5), .val (.ref b2), .val (.int (3 : Int32)), .unset] [(.int (own_ws ((own_draw p1).toInt8.toInt32)))])) _
              refine XS.ifYes X97.here hx rfl (pc0 := 85) (pc' := 140) rfl (hb hby at_85) rfl ((if0 _ _).trans (teq hc99).1) (by decide) (by decide) ?_
              show Steps p.tables e below (T97.setTop (mkF m 140 #[.val (.int p0), .val (.int p1), .val (.int p2), .val (.int p3), .val (.int p4), .val (.int p5), .val (.ref b2), .val (.int (3 : Int32)), .unset] [])) _
              refine XS.iconst X97.here hx rfl (hb hby at_140) ?_
              exact k)
            have qq111 : v109 = (0 : Int32) := by
              rw [hv109, if_pos hc99]
            have ks112 : own_R p e below (s₁.setTop (entryFrame m #[(.int p0), (.int p1), (.int p2), (.int p3), (.int p4), (.int p5)] maxLocals)) (T97.setTop (mkF m 141 #[.val (.int p0), .val (.int p1), .val (.int p2), .val (.int p3), .val (.int p4), .val (.int p5), .val (.ref b2), .val (.int (3 : Int32)), .unset] [(.int v109)])) := fun t k => ks100 t (by
              rw [qq111] at k
              exact k)
            exact ⟨T97, _, X97, N97, eq97, ks112⟩
          · skip
            have ks101 : own_R p e below (s₁.setTop (entryFrame m #[(.int p0), (.int p1), (.int p2), (.int p3), (.int p4), (.int p5)] maxLocals)) (T97.setTop (mkF m 98 #[.val (.int p0), .val (.int p1), .val (.int p2), .val (.int p3), .val (.int p4), .val (.int p5), .val (.ref b2), .val (.int (3 : Int32)), .unset] [(.int ((own_draw p2).toInt8.toInt32))])) := fun t k => ks98 t (by
              show Steps p.tables e below (T97.setTop (mkF m 85 #[.val (.int p0), .val (.int p1), .val (.int p2), .val (.int p3), .val (.int p4), .val (.int p5), .val (.ref b2), .val (.int (3 : Int32)), .unset] [(.int (own_ws ((own_draw p1).toInt8.toInt32)))])) _
              refine XS.ifNo X97.here hx rfl (hb hby at_85) rfl ((if0 _ _).trans (feq hc99).1) ?_
              show Steps p.tables e below (T97.setTop (mkF m 88 #[.val (.int p0), .val (.int p1), .val (.int p2), .val (.int p3), .val (.int p4), .val (.int p5), .val (.ref b2), .val (.int (3 : Int32)), .unset] [])) _
              refine XS.iload X97.here hx rfl (hb hby at_88) rfl ?_
              show Steps p.tables e below (T97.setTop (mkF m 90 #[.val (.int p0), .val (.int p1), .val (.int p2), .val (.int p3), .val (.int p4), .val (.int p5), .val (.ref b2), .val (.int (3 : Int32)), .unset] [(.int (3 : Int32))])) _
              refine XS.iconst X97.here hx rfl (hb hby at_90) ?_
              show Steps p.tables e below (T97.setTop (mkF m 91 #[.val (.int p0), .val (.int p1), .val (.int p2), .val (.int p3), .val (.int p4), .val (.int p5), .val (.ref b2), .val (.int (3 : Int32)), .unset] [(.int (3 : Int32)), (.int (3 : Int32))])) _
              refine XS.icmpNo X97.here hx rfl (hb hby at_91) rfl (flt (by decide)).1 ?_
              show Steps p.tables e below (T97.setTop (mkF m 94 #[.val (.int p0), .val (.int p1), .val (.int p2), .val (.int p3), .val (.int p4), .val (.int p5), .val (.ref b2), .val (.int (3 : Int32)), .unset] [])) _
              refine XS.aload X97.here hx rfl (hb hby at_94) rfl rfl ?_
              show Steps p.tables e below (T97.setTop (mkF m 96 #[.val (.int p0), .val (.int p1), .val (.int p2), .val (.int p3), .val (.int p4), .val (.int p5), .val (.ref b2), .val (.int (3 : Int32)), .unset] [(.ref b2)])) _
              refine XS.iconst X97.here hx rfl (hb hby at_96) ?_
              show Steps p.tables e below (T97.setTop (mkF m 97 #[.val (.int p0), .val (.int p1), .val (.int p2), .val (.int p3), .val (.int p4), .val (.int p5), .val (.ref b2), .val (.int (3 : Int32)), .unset] [(.int (2 : Int32)), (.ref b2)])) _
              refine X97.baloadBytes hx (j := (2 : Int32)) (v := (.int ((own_draw p2).toInt8.toInt32))) (by rw [eq97]; exact Ar90.1) (State.isArrayOf_alike hZ.alike Ar90.2.1) Ar90.2.2 (inb_of S90 ⟨by decide, by decide⟩) (Has.at Ha90 (inb_of S90 ⟨by decide, by decide⟩) rfl) (g := (mkF m 97 #[.val (.int p0), .val (.int p1), .val (.int p2), .val (.int p3), .val (.int p4), .val (.int p5), .val (.ref b2), .val (.int (3 : Int32)), .unset] [(.int (2 : Int32)), (.ref b2)])) rfl rfl (hb hby at_97) _ ?_
              exact k)
            obtain ⟨_, _, ⟨T102, L102, k102, n102⟩, -, X102, ⟨Lc102, hQ102, lq102, yq102, zq102⟩, st102⟩ := Jvm.LawKit.callS X97 hx (y := (⟨"com/example/rackline/rackline/protocols/ssc/MessageReaderIsBlankPinLaw", "ws", "(B)Z"⟩ : MethodName)) hown (mvT hZ (hw _ (List.mem_of_getElem? (i := 6) rfl))) (mvT hZ (hw _ (List.mem_of_getElem? (i := 7) rfl))) (mvT hZ (hw _ (List.mem_of_getElem? (i := 3) rfl))) (mvT hZ (hw _ (List.mem_of_getElem? (i := 8) rfl))) (by decide) (backOf (W := 0) (rm2 l Z a0 hw [] ((own_draw p2).toInt8.toInt32) h32 n0 Zn32 ) hZ (hw _ (List.mem_of_getElem? (i := 8) rfl)) (hw _ (List.mem_of_getElem? (i := 3) rfl)) (by decide) (by decide)) (g := (mkF m 98 #[.val (.int p0), .val (.int p1), .val (.int p2), .val (.int p3), .val (.int p4), .val (.int p5), .val (.ref b2), .val (.int (3 : Int32)), .unset] [(.int ((own_draw p2).toInt8.toInt32))])) rfl (by rw [hml]; rfl) (argsL := [(.int ((own_draw p2).toInt8.toInt32))]) (rest := []) (lenOf pd_1 rfl) rfl (by show 2 * 0 + _ ≤ _; exact Nat.le_of_eq rfl) (hb hby at_98) (fun _ _ => ⟨rfl, eq97, (by decide : 1 + 0 ≤ _), (by decide : 5 + 0 ≤ _)⟩)
            dsimp only [Pt.U, Pt.locs, Pt.cells, Pt.slots] at X102 lq102 yq102 zq102 st102 hQ102
            subst lq102 yq102 zq102
            obtain ⟨rfl, Nq102, eq102⟩ := hQ102
            have N102 := Fr.app N97 Nq102
            have ks103 : own_R p e below (s₁.setTop (entryFrame m #[(.int p0), (.int p1), (.int p2), (.int p3), (.int p4), (.int p5)] maxLocals)) (T102.setTop (mkF m 101 #[.val (.int p0), .val (.int p1), .val (.int p2), .val (.int p3), .val (.int p4), .val (.int p5), .val (.ref b2), .val (.int (3 : Int32)), .unset] [(.int (own_ws ((own_draw p2).toInt8.toInt32)))])) := fun t k => ks101 t (st102 t k)
            obtain ⟨v105, hv105⟩ : ∃ z : Int32, z = (if (own_ws ((own_draw p2).toInt8.toInt32)) = (0 : Int32) then (0 : Int32) else (1 : Int32)) := ⟨_, rfl⟩
            have ks106 : own_R p e below (s₁.setTop (entryFrame m #[(.int p0), (.int p1), (.int p2), (.int p3), (.int p4), (.int p5)] maxLocals)) (T102.setTop (mkF m 141 #[.val (.int p0), .val (.int p1), .val (.int p2), .val (.int p3), .val (.int p4), .val (.int p5), .val (.ref b2), .val (.int (3 : Int32)), .unset] [(.int v105)])) := fun t k => ks103 t (by
              by_cases hc104 : (own_ws ((own_draw p2).toInt8.toInt32)) = (0 : Int32)
              · skip
                have qq107 : v105 = (0 : Int32) := by rw [hv105, if_pos hc104]
                rw [qq107] at k
                show Steps p.tables e below (T102.setTop (mkF m 101 #[.val (.int p0), .val (.int p1), .val (.int p2), .val (.int p3), .val (.int p4), .val (.int p5), .val (.ref b2), .val (.int (3 : Int32)), .unset] [(.int (own_ws ((own_draw p2).toInt8.toInt32)))])) _
                refine XS.ifYes X102.here hx rfl (pc0 := 101) (pc' := 140) rfl (hb hby at_101) rfl ((if0 _ _).trans (teq hc104).1) (by decide) (by decide) ?_
                show Steps p.tables e below (T102.setTop (mkF m 140 #[.val (.int p0), .val (.int p1), .val (.int p2), .val (.int p3), .val (.int p4), .val (.int p5), .val (.ref b2), .val (.int (3 : Int32)), .unset] [])) _
                refine XS.iconst X102.here hx rfl (hb hby at_140) ?_
                exact k
              · skip
                have qq108 : v105 = (1 : Int32) := by rw [hv105, if_neg hc104]
                rw [qq108] at k
                show Steps p.tables e below (T102.setTop (mkF m 101 #[.val (.int p0), .val (.int p1), .val (.int p2), .val (.int p3), .val (.int p4), .val (.int p5), .val (.ref b2), .val (.int (3 : Int32)), .unset] [(.int (own_ws ((own_draw p2).toInt8.toInt32)))])) _
                refine XS.ifNo X102.here hx rfl (hb hby at_101) rfl ((if0 _ _).trans (feq hc104).1) ?_
                show Steps p.tables e below (T102.setTop (mkF m 104 #[.val (.int p0), .val (.int p1), .val (.int p2), .val (.int p3), .val (.int p4), .val (.int p5), .val (.ref b2), .val (.int (3 : Int32)), .unset] [])) _
                refine XS.iload X102.here hx rfl (hb hby at_104) rfl ?_
                show Steps p.tables e below (T102.setTop (mkF m 106 #[.val (.int p0), .val (.int p1), .val (.int p2), .val (.int p3), .val (.int p4), .val (.int p5), .val (.ref b2), .val (.int (3 : Int32)), .unset] [(.int (3 : Int32))])) _
                refine XS.iconst X102.here hx rfl (hb hby at_106) ?_
                show Steps p.tables e below (T102.setTop (mkF m 107 #[.val (.int p0), .val (.int p1), .val (.int p2), .val (.int p3), .val (.int p4), .val (.int p5), .val (.ref b2), .val (.int (3 : Int32)), .unset] [(.int (4 : Int32)), (.int (3 : Int32))])) _
                refine XS.icmpYes X102.here hx rfl (pc0 := 107) (pc' := 120) rfl (hb hby at_107) rfl (tlt (by decide)).1 (by decide) (by decide) ?_
                show Steps p.tables e below (T102.setTop (mkF m 120 #[.val (.int p0), .val (.int p1), .val (.int p2), .val (.int p3), .val (.int p4), .val (.int p5), .val (.ref b2), .val (.int (3 : Int32)), .unset] [])) _
                refine XS.iload X102.here hx rfl (hb hby at_120) rfl ?_
                show Steps p.tables e below (T102.setTop (mkF m 122 #[.val (.int p0), .val (.int p1), .val (.int p2), .val (.int p3), .val (.int p4), .val (.int p5), .val (.ref b2), .val (.int (3 : Int32)), .unset] [(.int (3 : Int32))])) _
                refine XS.iconst X102.here hx rfl (hb hby at_122) ?_
                show Steps p.tables e below (T102.setTop (mkF m 123 #[.val (.int p0), .val (.int p1), .val (.int p2), .val (.int p3), .val (.int p4), .val (.int p5), .val (.ref b2), .val (.int (3 : Int32)), .unset] [(.int (5 : Int32)), (.int (3 : Int32))])) _
                refine XS.icmpYes X102.here hx rfl (pc0 := 123) (pc' := 136) rfl (hb hby at_123) rfl (tlt (by decide)).1 (by decide) (by decide) ?_
                show Steps p.tables e below (T102.setTop (mkF m 136 #[.val (.int p0), .val (.int p1), .val (.int p2), .val (.int p3), .val (.int p4), .val (.int p5), .val (.ref b2), .val (.int (3 : Int32)), .unset] [])) _
                refine XS.iconst X102.here hx rfl (hb hby at_136) ?_
                show Steps p.tables e below (T102.setTop (mkF m 137 #[.val (.int p0), .val (.int p1), .val (.int p2), .val (.int p3), .val (.int p4), .val (.int p5), .val (.ref b2), .val (.int (3 : Int32)), .unset] [(.int (1 : Int32))])) _
                refine XS.goto X102.here hx rfl (pc0 := 137) (pc' := 141) rfl (hb hby at_137) (by decide) (by decide) ?_
                exact k)
            have qq113 : v109 = v105 := by
              subst hv105
              rw [hv109, if_neg hc99]
            have ks114 : own_R p e below (s₁.setTop (entryFrame m #[(.int p0), (.int p1), (.int p2), (.int p3), (.int p4), (.int p5)] maxLocals)) (T102.setTop (mkF m 141 #[.val (.int p0), .val (.int p1), .val (.int p2), .val (.int p3), .val (.int p4), .val (.int p5), .val (.ref b2), .val (.int (3 : Int32)), .unset] [(.int v109)])) := fun t k => ks106 t (by
              rw [qq113] at k
              exact k)
            exact ⟨T102, _, X102, N102, eq102, ks114⟩
        have qq119 : v115 = v109 := by
          subst hv109
          rw [hv115, if_neg hc94]
        have ks120 : own_R p e below (s₁.setTop (entryFrame m #[(.int p0), (.int p1), (.int p2), (.int p3), (.int p4), (.int p5)] maxLocals)) (T110.setTop (mkF m 141 #[.val (.int p0), .val (.int p1), .val (.int p2), .val (.int p3), .val (.int p4), .val (.int p5), .val (.ref b2), .val (.int (3 : Int32)), .unset] [(.int v115)])) := fun t k => k110 t (by
          rw [qq119] at k
          exact k)
        exact ⟨T110, _, X110, N110, e110, ks120⟩
    have ks121 : own_R p e below (s₁.setTop (entryFrame m #[(.int p0), (.int p1), (.int p2), (.int p3), (.int p4), (.int p5)] maxLocals)) (T116.setTop (mkF m 147 #[.val (.int p0), .val (.int p1), .val (.int p2), .val (.int p3), .val (.int p4), .val (.int p5), .val (.ref b2), .val (.int (3 : Int32)), .val (.int v115)] [(.int (3 : Int32)), (.ref b2)])) := fun t k => k116 t (by
      show Steps p.tables e below (T116.setTop (mkF m 141 #[.val (.int p0), .val (.int p1), .val (.int p2), .val (.int p3), .val (.int p4), .val (.int p5), .val (.ref b2), .val (.int (3 : Int32)), .unset] [(.int v115)])) _
      refine XS.istore X116.here hx rfl (hb hby at_141) rfl (l' := #[.val (.int p0), .val (.int p1), .val (.int p2), .val (.int p3), .val (.int p4), .val (.int p5), .val (.ref b2), .val (.int (3 : Int32)), .val (.int v115)]) rfl ?_
      show Steps p.tables e below (T116.setTop (mkF m 143 #[.val (.int p0), .val (.int p1), .val (.int p2), .val (.int p3), .val (.int p4), .val (.int p5), .val (.ref b2), .val (.int (3 : Int32)), .val (.int v115)] [])) _
      refine XS.aload X116.here hx rfl (hb hby at_143) rfl rfl ?_
      show Steps p.tables e below (T116.setTop (mkF m 145 #[.val (.int p0), .val (.int p1), .val (.int p2), .val (.int p3), .val (.int p4), .val (.int p5), .val (.ref b2), .val (.int (3 : Int32)), .val (.int v115)] [(.ref b2)])) _
      refine XS.iload X116.here hx rfl (hb hby at_145) rfl ?_
      exact k)
    obtain ⟨_, _, ⟨T122, L122, k122, n122⟩, -, X122, ⟨Lc122, hQ122, lq122, yq122, zq122⟩, st122⟩ := Jvm.LawKit.callS X116 hx (y := (⟨"com/example/rackline/rackline/protocols/ssc/MessageReader", "isBlank", "([BI)Z"⟩ : MethodName)) hown (mvT hZ (hw _ (List.mem_of_getElem? (i := 9) rfl))) (mvT hZ (hw _ (List.mem_of_getElem? (i := 10) rfl))) (mvT hZ (hw _ (List.mem_of_getElem? (i := 11) rfl))) (mvT hZ (hw _ (List.mem_of_getElem? (i := 12) rfl))) (by decide) (backOf (W := 0) (rm3 l Z a0 hw [] b2 (3 : Int32) _ ((own_draw p0).toInt8.toInt32) ((own_draw p1).toInt8.toInt32) ((own_draw p2).toInt8.toInt32) ((own_draw p3).toInt8.toInt32) ((own_draw p4).toInt8.toInt32) h32 n0 Zn32 (by decide) V32) hZ (hw _ (List.mem_of_getElem? (i := 12) rfl)) (hw _ (List.mem_of_getElem? (i := 11) rfl)) (by decide) (by decide)) (g := (mkF m 147 #[.val (.int p0), .val (.int p1), .val (.int p2), .val (.int p3), .val (.int p4), .val (.int p5), .val (.ref b2), .val (.int (3 : Int32)), .val (.int v115)] [(.int (3 : Int32)), (.ref b2)])) rfl (by rw [hml]; rfl) (argsL := [(.ref b2), (.int (3 : Int32))]) (rest := []) (lenOf pd_2 rfl) rfl (by show 2 * 0 + _ ≤ _; exact Nat.le_of_eq rfl) (hb hby at_147) (fun _ _ => ⟨rfl, e116, (by decide : 1 + 0 ≤ _), (by decide : 5 + 0 ≤ _)⟩)
    dsimp only [Pt.U, Pt.locs, Pt.cells, Pt.slots] at X122 lq122 yq122 zq122 st122 hQ122
    subst lq122 yq122 zq122
    obtain ⟨rfl, Nq122, eq122⟩ := hQ122
    have N122 := Fr.app N116 Nq122
    have ks123 : own_R p e below (s₁.setTop (entryFrame m #[(.int p0), (.int p1), (.int p2), (.int p3), (.int p4), (.int p5)] maxLocals)) (T122.setTop (mkF m 150 #[.val (.int p0), .val (.int p1), .val (.int p2), .val (.int p3), .val (.int p4), .val (.int p5), .val (.ref b2), .val (.int (3 : Int32)), .val (.int v115)] [(.int (own_blank ((own_draw p0).toInt8.toInt32) ((own_draw p1).toInt8.toInt32) ((own_draw p2).toInt8.toInt32) ((own_draw p3).toInt8.toInt32) ((own_draw p4).toInt8.toInt32) (3 : Int32)))])) := fun t k => ks121 t (st122 t k)
    have ks124 : own_R p e below (s₁.setTop (entryFrame m #[(.int p0), (.int p1), (.int p2), (.int p3), (.int p4), (.int p5)] maxLocals)) (T122.setTop (mkF m 152 #[.val (.int p0), .val (.int p1), .val (.int p2), .val (.int p3), .val (.int p4), .val (.int p5), .val (.ref b2), .val (.int (3 : Int32)), .val (.int v115)] [(.int v115), (.int (own_blank ((own_draw p0).toInt8.toInt32) ((own_draw p1).toInt8.toInt32) ((own_draw p2).toInt8.toInt32) ((own_draw p3).toInt8.toInt32) ((own_draw p4).toInt8.toInt32) (3 : Int32)))])) := fun t k => ks123 t (by
      show Steps p.tables e below (T122.setTop (mkF m 150 #[.val (.int p0), .val (.int p1), .val (.int p2), .val (.int p3), .val (.int p4), .val (.int p5), .val (.ref b2), .val (.int (3 : Int32)), .val (.int v115)] [(.int (own_blank ((own_draw p0).toInt8.toInt32) ((own_draw p1).toInt8.toInt32) ((own_draw p2).toInt8.toInt32) ((own_draw p3).toInt8.toInt32) ((own_draw p4).toInt8.toInt32) (3 : Int32)))])) _
      refine XS.iload X122.here hx rfl (hb hby at_150) rfl ?_
      exact k)
    by_cases hc125 : (own_blank ((own_draw p0).toInt8.toInt32) ((own_draw p1).toInt8.toInt32) ((own_draw p2).toInt8.toInt32) ((own_draw p3).toInt8.toInt32) ((own_draw p4).toInt8.toInt32) (3 : Int32)) = v115
    · skip
      have ks126 : own_R p e below (s₁.setTop (entryFrame m #[(.int p0), (.int p1), (.int p2), (.int p3), (.int p4), (.int p5)] maxLocals)) (T122.setTop (mkF m 160 #[.val (.int p0), .val (.int p1), .val (.int p2), .val (.int p3), .val (.int p4), .val (.int p5), .val (.ref b2), .val (.int (3 : Int32)), .val (.int v115)] [(.int (1 : Int32))])) := fun t k => ks124 t (by
        show Steps p.tables e below (T122.setTop (mkF m 152 #[.val (.int p0), .val (.int p1), .val (.int p2), .val (.int p3), .val (.int p4), .val (.int p5), .val (.ref b2), .val (.int (3 : Int32)), .val (.int v115)] [(.int v115), (.int (own_blank ((own_draw p0).toInt8.toInt32) ((own_draw p1).toInt8.toInt32) ((own_draw p2).toInt8.toInt32) ((own_draw p3).toInt8.toInt32) ((own_draw p4).toInt8.toInt32) (3 : Int32)))])) _
        refine XS.icmpNo X122.here hx rfl (hb hby at_152) rfl (teq hc125).2 ?_
        show Steps p.tables e below (T122.setTop (mkF m 155 #[.val (.int p0), .val (.int p1), .val (.int p2), .val (.int p3), .val (.int p4), .val (.int p5), .val (.ref b2), .val (.int (3 : Int32)), .val (.int v115)] [])) _
        refine XS.iconst X122.here hx rfl (hb hby at_155) ?_
        show Steps p.tables e below (T122.setTop (mkF m 156 #[.val (.int p0), .val (.int p1), .val (.int p2), .val (.int p3), .val (.int p4), .val (.int p5), .val (.ref b2), .val (.int (3 : Int32)), .val (.int v115)] [(.int (1 : Int32))])) _
        refine XS.goto X122.here hx rfl (pc0 := 156) (pc' := 160) rfl (hb hby at_156) (by decide) (by decide) ?_
        exact k)
      obtain ⟨fs, hr, hrun, hended, hW, hsame⟩ := X122.leave (v := some (.int (1 : Int32))) (fun h => by rw [Bd.returns] at h; cases h)
      refine ⟨_, _, ks126 _ ?_, hrun, hended, _, _, rfl, ?_, ⟨_, rfl⟩, hW, hsame.mono (by decide) (by decide)⟩
      · exact retN X122 hx (t := .boolean) Bd.returns (by simp) (hb hby at_160) hr
      · show Q0 Z p0 p1 p2 p3 p4 p5 h0 n0 _ T122.heap _
        rw [eq122]
        exact ⟨rfl, N122⟩
    · skip
      have ks127 : own_R p e below (s₁.setTop (entryFrame m #[(.int p0), (.int p1), (.int p2), (.int p3), (.int p4), (.int p5)] maxLocals)) (T122.setTop (mkF m 160 #[.val (.int p0), .val (.int p1), .val (.int p2), .val (.int p3), .val (.int p4), .val (.int p5), .val (.ref b2), .val (.int (3 : Int32)), .val (.int v115)] [(.int (0 : Int32))])) := fun t k => ks124 t (by
        show Steps p.tables e below (T122.setTop (mkF m 152 #[.val (.int p0), .val (.int p1), .val (.int p2), .val (.int p3), .val (.int p4), .val (.int p5), .val (.ref b2), .val (.int (3 : Int32)), .val (.int v115)] [(.int v115), (.int (own_blank ((own_draw p0).toInt8.toInt32) ((own_draw p1).toInt8.toInt32) ((own_draw p2).toInt8.toInt32) ((own_draw p3).toInt8.toInt32) ((own_draw p4).toInt8.toInt32) (3 : Int32)))])) _
        refine XS.icmpYes X122.here hx rfl (pc0 := 152) (pc' := 159) rfl (hb hby at_152) rfl (feq hc125).2 (by decide) (by decide) ?_
        show Steps p.tables e below (T122.setTop (mkF m 159 #[.val (.int p0), .val (.int p1), .val (.int p2), .val (.int p3), .val (.int p4), .val (.int p5), .val (.ref b2), .val (.int (3 : Int32)), .val (.int v115)] [])) _
        refine XS.iconst X122.here hx rfl (hb hby at_159) ?_
        exact k)
      obtain ⟨fs, hr, hrun, hended, hW, hsame⟩ := X122.leave (v := some (.int (0 : Int32))) (fun h => by rw [Bd.returns] at h; cases h)
      refine ⟨_, _, ks127 _ ?_, hrun, hended, _, _, rfl, ?_, ⟨_, rfl⟩, hW, hsame.mono (by decide) (by decide)⟩
      · exact retN X122 hx (t := .boolean) Bd.returns (by simp) (hb hby at_160) hr
      · show Q0 Z p0 p1 p2 p3 p4 p5 h0 n0 _ T122.heap _
        rw [eq122]
        exfalso
        apply hc125
        subst hv115
        unfold own_blank
        simp only [own_wi]
        simp
  · have el : v35 = (4 : Int32) := hv35.trans hl
    rw [el] at ks36
    have ks128 : own_R p e below (s₁.setTop (entryFrame m #[(.int p0), (.int p1), (.int p2), (.int p3), (.int p4), (.int p5)] maxLocals)) (T32.setTop (mkF m 65 #[.val (.int p0), .val (.int p1), .val (.int p2), .val (.int p3), .val (.int p4), .val (.int p5), .val (.ref b2), .val (.int (4 : Int32)), .unset] [(.int (0 : Int32)), (.ref b2)])) := fun t k => ks36 t (by
      show Steps p.tables e below (T32.setTop (mkF m 56 #[.val (.int p0), .val (.int p1), .val (.int p2), .val (.int p3), .val (.int p4), .val (.int p5), .val (.ref b2), .val (.int (4 : Int32)), .unset] [])) _
      refine XS.iload X32.here hx rfl (hb hby at_56) rfl ?_
      show Steps p.tables e below (T32.setTop (mkF m 58 #[.val (.int p0), .val (.int p1), .val (.int p2), .val (.int p3), .val (.int p4), .val (.int p5), .val (.ref b2), .val (.int (4 : Int32)), .unset] [(.int (4 : Int32))])) _
      refine XS.iconst X32.here hx rfl (hb hby at_58) ?_
      show Steps p.tables e below (T32.setTop (mkF m 59 #[.val (.int p0), .val (.int p1), .val (.int p2), .val (.int p3), .val (.int p4), .val (.int p5), .val (.ref b2), .val (.int (4 : Int32)), .unset] [(.int (1 : Int32)), (.int (4 : Int32))])) _
      refine XS.icmpNo X32.here hx rfl (hb hby at_59) rfl (flt (by decide)).1 ?_
      show Steps p.tables e below (T32.setTop (mkF m 62 #[.val (.int p0), .val (.int p1), .val (.int p2), .val (.int p3), .val (.int p4), .val (.int p5), .val (.ref b2), .val (.int (4 : Int32)), .unset] [])) _
      refine XS.aload X32.here hx rfl (hb hby at_62) rfl rfl ?_
      show Steps p.tables e below (T32.setTop (mkF m 64 #[.val (.int p0), .val (.int p1), .val (.int p2), .val (.int p3), .val (.int p4), .val (.int p5), .val (.ref b2), .val (.int (4 : Int32)), .unset] [(.ref b2)])) _
      refine XS.iconst X32.here hx rfl (hb hby at_64) ?_
      exact k)
    obtain ⟨cl129, Ar129, qa129, S129, Na129, Ha129, Ga129⟩ := id V32
    have ks130 : own_R p e below (s₁.setTop (entryFrame m #[(.int p0), (.int p1), (.int p2), (.int p3), (.int p4), (.int p5)] maxLocals)) (T32.setTop (mkF m 66 #[.val (.int p0), .val (.int p1), .val (.int p2), .val (.int p3), .val (.int p4), .val (.int p5), .val (.ref b2), .val (.int (4 : Int32)), .unset] [(.int ((own_draw p0).toInt8.toInt32))])) := fun t k => ks128 t (by
      show Steps p.tables e below (T32.setTop (mkF m 65 #[.val (.int p0), .val (.int p1), .val (.int p2), .val (.int p3), .val (.int p4), .val (.int p5), .val (.ref b2), .val (.int (4 : Int32)), .unset] [(.int (0 : Int32)), (.ref b2)])) _
      refine X32.baloadBytes hx (j := (0 : Int32)) (v := (.int ((own_draw p0).toInt8.toInt32))) (by rw [e32]; exact Ar129.1) (State.isArrayOf_alike hZ.alike Ar129.2.1) Ar129.2.2 (inb_of S129 ⟨by decide, by decide⟩) (Has.at Ha129 (inb_of S129 ⟨by decide, by decide⟩) rfl) (g := (mkF m 65 #[.val (.int p0), .val (.int p1), .val (.int p2), .val (.int p3), .val (.int p4), .val (.int p5), .val (.ref b2), .val (.int (4 : Int32)), .unset] [(.int (0 : Int32)), (.ref b2)])) rfl rfl (hb hby at_65) _ ?_
      exact k)
    obtain ⟨_, _, ⟨T131, L131, k131, n131⟩, -, X131, ⟨Lc131, hQ131, lq131, yq131, zq131⟩, st131⟩ := Jvm.LawKit.callS X32 hx (y := (⟨"com/example/rackline/rackline/protocols/ssc/MessageReaderIsBlankPinLaw", "ws", "(B)Z"⟩ : MethodName)) hown (mvT hZ (hw _ (List.mem_of_getElem? (i := 6) rfl))) (mvT hZ (hw _ (List.mem_of_getElem? (i := 7) rfl))) (mvT hZ (hw _ (List.mem_of_getElem? (i := 3) rfl))) (mvT hZ (hw _ (List.mem_of_getElem? (i := 8) rfl))) (by decide) (backOf (W := 0) (rm2 l Z a0 hw [] ((own_draw p0).toInt8.toInt32) h32 n0 Zn32 ) hZ (hw _ (List.mem_of_getElem? (i := 8) rfl)) (hw _ (List.mem_of_getElem? (i := 3) rfl)) (by decide) (by decide)) (g := (mkF m 66 #[.val (.int p0), .val (.int p1), .val (.int p2), .val (.int p3), .val (.int p4), .val (.int p5), .val (.ref b2), .val (.int (4 : Int32)), .unset] [(.int ((own_draw p0).toInt8.toInt32))])) rfl (by rw [hml]; rfl) (argsL := [(.int ((own_draw p0).toInt8.toInt32))]) (rest := []) (lenOf pd_1 rfl) rfl (by show 2 * 0 + _ ≤ _; exact Nat.le_of_eq rfl) (hb hby at_66) (fun _ _ => ⟨rfl, e32, (by decide : 1 + 0 ≤ _), (by decide : 5 + 0 ≤ _)⟩)
    dsimp only [Pt.U, Pt.locs, Pt.cells, Pt.slots] at X131 lq131 yq131 zq131 st131 hQ131
    subst lq131 yq131 zq131
    obtain ⟨rfl, Nq131, eq131⟩ := hQ131
    have N131 := Fr.app N32 Nq131
    have ks132 : own_R p e below (s₁.setTop (entryFrame m #[(.int p0), (.int p1), (.int p2), (.int p3), (.int p4), (.int p5)] maxLocals)) (T131.setTop (mkF m 69 #[.val (.int p0), .val (.int p1), .val (.int p2), .val (.int p3), .val (.int p4), .val (.int p5), .val (.ref b2), .val (.int (4 : Int32)), .unset] [(.int (own_ws ((own_draw p0).toInt8.toInt32)))])) := fun t k => ks130 t (st131 t k)
    obtain ⟨v165, hv165⟩ : ∃ z : Int32, z = (if (own_ws ((own_draw p0).toInt8.toInt32)) = (0 : Int32) then (0 : Int32) else (if (own_ws ((own_draw p1).toInt8.toInt32)) = (0 : Int32) then (0 : Int32) else (if (own_ws ((own_draw p2).toInt8.toInt32)) = (0 : Int32) then (0 : Int32) else (if (own_ws ((own_draw p3).toInt8.toInt32)) = (0 : Int32) then (0 : Int32) else (1 : Int32))))) := ⟨_, rfl⟩
    obtain ⟨T166, L166, X166, N166, e166, k166⟩ : ∃ T' L', Stand p l e room_1 s m #[(.int p0), (.int p1), (.int p2), (.int p3), (.int p4), (.int p5)] below meth c T' L' 1 5 ∧ Fr n0 L' ∧ T'.heap = h32 ∧ own_R p e below (s₁.setTop (entryFrame m #[(.int p0), (.int p1), (.int p2), (.int p3), (.int p4), (.int p5)] maxLocals)) (T'.setTop (mkF m 141 #[.val (.int p0), .val (.int p1), .val (.int p2), .val (.int p3), .val (.int p4), .val (.int p5), .val (.ref b2), .val (.int (4 : Int32)), .unset] [(.int v165)])) := by
      by_cases hc133 : (own_ws ((own_draw p0).toInt8.toInt32)) = (0 : Int32)
      · skip
        have ks134 : own_R p e below (s₁.setTop (entryFrame m #[(.int p0), (.int p1), (.int p2), (.int p3), (.int p4), (.int p5)] maxLocals)) (T131.setTop (mkF m 141 #[.val (.int p0), .val (.int p1), .val (.int p2), .val (.int p3), .val (.int p4), .val (.int p5), .val (.ref b2), .val (.int (4 : Int32)), .unset] [(.int (0 : Int32))])) := fun t k => ks132 t (by
          show Steps p.tables e below (T131.setTop (mkF m 69 #[.val (.int p0), .val (.int p1), .val (.int p2), .val (.int p3), .val (.int p4), .val (.int p5), .val (.ref b2), .val (.int (4 : Int32)), .unset] [(.int (own_ws ((own_draw p0).toInt8.toInt32)))])) _
          refine XS.ifYes X131.here hx rfl (pc0 := 69) (pc' := 140) rfl (hb hby at_69) rfl ((if0 _ _).trans (teq hc133).1) (by decide) (by decide) ?_
          show Steps p.tables e below (T131.setTop (mkF m 140 #[.val (.int p0), .val (.int p1), .val (.int p2), .val (.int p3), .val (.int p4), .val (.int p5), .val (.ref b2), .val (.int (4 : Int32)), .unset] [])) _
          refine XS.iconst X131.here hx rfl (hb hby at_140) ?_
          exact k)
        have qq167 : v165 = (0 : Int32) := by
          rw [hv165, if_pos hc133]
        have ks168 : own_R p e below (s₁.setTop (entryFrame m #[(.int p0), (.int p1), (.int p2), (.int p3), (.int p4), (.int p5)] maxLocals)) (T131.setTop (mkF m 141 #[.val (.int p0), .val (.int p1), .val (.int p2), .val (.int p3), .val (.int p4), .val (.int p5), .val (.ref b2), .val (.int (4 : Int32)), .unset] [(.int v165)])) := fun t k => ks134 t (by
          rw [qq167] at k
          exact k)
        exact ⟨T131, _, X131, N131, eq131, ks168⟩
      · skip
        have ks135 : own_R p e below (s₁.setTop (entryFrame m #[(.int p0), (.int p1), (.int p2), (.int p3), (.int p4), (.int p5)] maxLocals)) (T131.setTop (mkF m 82 #[.val (.int p0), .val (.int p1), .val (.int p2), .val (.int p3), .val (.int p4), .val (.int p5), .val (.ref b2), .val (.int (4 : Int32)), .unset] [(.int ((own_draw p1).toInt8.toInt32))])) := fun t k => ks132 t (by
          show Steps p.tables e below (T131.setTop (mkF m 69 #[.val (.int p0), .val (.int p1), .val (.int p2), .val (.int p3), .val (.int p4), .val (.int p5), .val (.ref b2), .val (.int (4 : Int32)), .unset] [(.int (own_ws ((own_draw p0).toInt8.toInt32)))])) _
          refine XS.ifNo X131.here hx rfl (hb hby at_69) rfl ((if0 _ _).trans (feq hc133).1) ?_
          show Steps p.tables e below (T131.setTop (mkF m 72 #[.val (.int p0), .val (.int p1), .val (.int p2), .val (.int p3), .val (.int p4), .val (.int p5), .val (.ref b2), .val (.int (4 : Int32)), .unset] [])) _
          refine XS.iload X131.here hx rfl (hb hby at_72) rfl ?_
          show Steps p.tables e below (T131.setTop (mkF m 74 #[.val (.int p0), .val (.int p1), .val (.int p2), .val (.int p3), .val (.int p4), .val (.int p5), .val (.ref b2), .val (.int (4 : Int32)), .unset] [(.int (4 : Int32))])) _
          refine XS.iconst X131.here hx rfl (hb hby at_74) ?_
          show Steps p.tables e below (T131.setTop (mkF m 75 #[.val (.int p0), .val (.int p1), .val (.int p2), .val (.int p3), .val (.int p4), .val (.int p5), .val (.ref b2), .val (.int (4 : Int32)), .unset] [(.int (2 : Int32)), (.int (4 : Int32))])) _
          refine XS.icmpNo X131.here hx rfl (hb hby at_75) rfl (flt (by decide)).1 ?_
          show Steps p.tables e below (T131.setTop (mkF m 78 #[.val (.int p0), .val (.int p1), .val (.int p2), .val (.int p3), .val (.int p4), .val (.int p5), .val (.ref b2), .val (.int (4 : Int32)), .unset] [])) _
          refine XS.aload X131.here hx rfl (hb hby at_78) rfl rfl ?_
          show Steps p.tables e below (T131.setTop (mkF m 80 #[.val (.int p0), .val (.int p1), .val (.int p2), .val (.int p3), .val (.int p4), .val (.int p5), .val (.ref b2), .val (.int (4 : Int32)), .unset] [(.ref b2)])) _
          refine XS.iconst X131.here hx rfl (hb hby at_80) ?_
          show Steps p.tables e below (T131.setTop (mkF m 81 #[.val (.int p0), .val (.int p1), .val (.int p2), .val (.int p3), .val (.int p4), .val (.int p5), .val (.ref b2), .val (.int (4 : Int32)), .unset] [(.int (1 : Int32)), (.ref b2)])) _
          refine X131.baloadBytes hx (j := (1 : Int32)) (v := (.int ((own_draw p1).toInt8.toInt32))) (by rw [eq131]; exact Ar129.1) (State.isArrayOf_alike hZ.alike Ar129.2.1) Ar129.2.2 (inb_of S129 ⟨by decide, by decide⟩) (Has.at Ha129 (inb_of S129 ⟨by decide, by decide⟩) rfl) (g := (mkF m 81 #[.val (.int p0), .val (.int p1), .val (.int p2), .val (.int p3), .val (.int p4), .val (.int p5), .val (.ref b2), .val (.int (4 : Int32)), .unset] [(.int (1 : Int32)), (.ref b2)])) rfl rfl (hb hby at_81) _ ?_
          exact k)
        obtain ⟨_, _, ⟨T136, L136, k136, n136⟩, -, X136, ⟨Lc136, hQ136, lq136, yq136, zq136⟩, st136⟩ := Jvm.LawKit.callS X131 hx (y := (⟨"com/example/rackline/rackline/protocols/ssc/MessageReaderIsBlankPinLaw", "ws", "(B)Z"⟩ : MethodName)) hown (mvT hZ (hw _ (List.mem_of_getElem? (i := 6) rfl))) (mvT hZ (hw _ (List.mem_of_getElem? (i := 7) rfl))) (mvT hZ (hw _ (List.mem_of_getElem? (i := 3) rfl))) (mvT hZ (hw _ (List.mem_of_getElem? (i := 8) rfl))) (by decide) (backOf (W := 0) (rm2 l Z a0 hw [] ((own_draw p1).toInt8.toInt32) h32 n0 Zn32 ) hZ (hw _ (List.mem_of_getElem? (i := 8) rfl)) (hw _ (List.mem_of_getElem? (i := 3) rfl)) (by decide) (by decide)) (g := (mkF m 82 #[.val (.int p0), .val (.int p1), .val (.int p2), .val (.int p3), .val (.int p4), .val (.int p5), .val (.ref b2), .val (.int (4 : Int32)), .unset] [(.int ((own_draw p1).toInt8.toInt32))])) rfl (by rw [hml]; rfl) (argsL := [(.int ((own_draw p1).toInt8.toInt32))]) (rest := []) (lenOf pd_1 rfl) rfl (by show 2 * 0 + _ ≤ _; exact Nat.le_of_eq rfl) (hb hby at_82) (fun _ _ => ⟨rfl, eq131, (by decide : 1 + 0 ≤ _), (by decide : 5 + 0 ≤ _)⟩)
        dsimp only [Pt.U, Pt.locs, Pt.cells, Pt.slots] at X136 lq136 yq136 zq136 st136 hQ136
        subst lq136 yq136 zq136
        obtain ⟨rfl, Nq136, eq136⟩ := hQ136
        have N136 := Fr.app N131 Nq136
        have ks137 : own_R p e below (s₁.setTop (entryFrame m #[(.int p0), (.int p1), (.int p2), (.int p3), (.int p4), (.int p5)] maxLocals)) (T136.setTop (mkF m 85 #[.val (.int p0), .val (.int p1), .val (.int p2), .val (.int p3), .val (.int p4), .val (.int p5), .val (.ref b2), .val (.int (4 : Int32)), .unset] [(.int (own_ws ((own_draw p1).toInt8.toInt32)))])) := fun t k => ks135 t (st136 t k)
        obtain ⟨v159, hv159⟩ : ∃ z : Int32, z = (if (own_ws ((own_draw p1).toInt8.toInt32)) = (0 : Int32) then (0 : Int32) else (if (own_ws ((own_draw p2).toInt8.toInt32)) = (0 : Int32) then (0 : Int32) else (if (own_ws ((own_draw p3).toInt8.toInt32)) = (0 : Int32) then (0 : Int32) else (1 : Int32)))) := ⟨_, rfl⟩
        obtain ⟨T160, L160, X160, N160, e160, k160⟩ : ∃ T' L', Stand p l e room_1 s m #[(.int p0), (.int p1), (.int p2), (.int p3), (.int p4), (.int p5)] below meth c T' L' 1 5 ∧ Fr n0 L' ∧ T'.heap = h32 ∧ own_R p e below (s₁.setTop (entryFrame m #[(.int p0), (.int p1), (.int p2), (.int p3), (.int p4), (.int p5)] maxLocals)) (T'.setTop (mkF m 141 #[.val (.int p0), .val (.int p1), .val (.int p2), .val (.int p3), .val (.int p4), .val (.int p5), .val (.ref b2), .val (.int (4 : Int32)), .unset] [(.int v159)])) := by
          by_cases hc138 : (own_ws ((own_draw p1).toInt8.toInt32)) = (0 : Int32)
          · skip
            have ks139 : own_R p e below (s₁.setTop (entryFrame m #[(.int p0), (.int p1), (.int p2), (.int p3), (.int p4), (.int p5)] maxLocals)) (T136.setTop (mkF m 141 #[.val (.int p0), .val (.int p1), .val (.int p2), .val (.int p3), .val (.int p4), .val (.int p5), .val (.ref b2), .val (.int (4 : Int32)), .unset] [(.int (0 : Int32))])) := fun t k => ks137 t (by
              show Steps p.tables e below (T136.setTop (mkF m 85 #[.val (.int p0), .val (.int p1), .val (.int p2), .val (.int p3), .val (.int p4), .val (.int p5), .val (.ref b2), .val (.int (4 : Int32)), .unset] [(.int (own_ws ((own_draw p1).toInt8.toInt32)))])) _
              refine XS.ifYes X136.here hx rfl (pc0 := 85) (pc' := 140) rfl (hb hby at_85) rfl ((if0 _ _).trans (teq hc138).1) (by decide) (by decide) ?_
              show Steps p.tables e below (T136.setTop (mkF m 140 #[.val (.int p0), .val (.int p1), .val (.int p2), .val (.int p3), .val (.int p4), .val (.int p5), .val (.ref b2), .val (.int (4 : Int32)), .unset] [])) _
              refine XS.iconst X136.here hx rfl (hb hby at_140) ?_
              exact k)
            have qq161 : v159 = (0 : Int32) := by
              rw [hv159, if_pos hc138]
            have ks162 : own_R p e below (s₁.setTop (entryFrame m #[(.int p0), (.int p1), (.int p2), (.int p3), (.int p4), (.int p5)] maxLocals)) (T136.setTop (mkF m 141 #[.val (.int p0), .val (.int p1), .val (.int p2), .val (.int p3), .val (.int p4), .val (.int p5), .val (.ref b2), .val (.int (4 : Int32)), .unset] [(.int v159)])) := fun t k => ks139 t (by
              rw [qq161] at k
              exact k)
            exact ⟨T136, _, X136, N136, eq136, ks162⟩
          · skip
            have ks140 : own_R p e below (s₁.setTop (entryFrame m #[(.int p0), (.int p1), (.int p2), (.int p3), (.int p4), (.int p5)] maxLocals)) (T136.setTop (mkF m 98 #[.val (.int p0), .val (.int p1), .val (.int p2), .val (.int p3), .val (.int p4), .val (.int p5), .val (.ref b2), .val (.int (4 : Int32)), .unset] [(.int ((own_draw p2).toInt8.toInt32))])) := fun t k => ks137 t (by
              show Steps p.tables e below (T136.setTop (mkF m 85 #[.val (.int p0), .val (.int p1), .val (.int p2), .val (.int p3), .val (.int p4), .val (.int p5), .val (.ref b2), .val (.int (4 : Int32)), .unset] [(.int (own_ws ((own_draw p1).toInt8.toInt32)))])) _
              refine XS.ifNo X136.here hx rfl (hb hby at_85) rfl ((if0 _ _).trans (feq hc138).1) ?_
              show Steps p.tables e below (T136.setTop (mkF m 88 #[.val (.int p0), .val (.int p1), .val (.int p2), .val (.int p3), .val (.int p4), .val (.int p5), .val (.ref b2), .val (.int (4 : Int32)), .unset] [])) _
              refine XS.iload X136.here hx rfl (hb hby at_88) rfl ?_
              show Steps p.tables e below (T136.setTop (mkF m 90 #[.val (.int p0), .val (.int p1), .val (.int p2), .val (.int p3), .val (.int p4), .val (.int p5), .val (.ref b2), .val (.int (4 : Int32)), .unset] [(.int (4 : Int32))])) _
              refine XS.iconst X136.here hx rfl (hb hby at_90) ?_
              show Steps p.tables e below (T136.setTop (mkF m 91 #[.val (.int p0), .val (.int p1), .val (.int p2), .val (.int p3), .val (.int p4), .val (.int p5), .val (.ref b2), .val (.int (4 : Int32)), .unset] [(.int (3 : Int32)), (.int (4 : Int32))])) _
              refine XS.icmpNo X136.here hx rfl (hb hby at_91) rfl (flt (by decide)).1 ?_
              show Steps p.tables e below (T136.setTop (mkF m 94 #[.val (.int p0), .val (.int p1), .val (.int p2), .val (.int p3), .val (.int p4), .val (.int p5), .val (.ref b2), .val (.int (4 : Int32)), .unset] [])) _
              refine XS.aload X136.here hx rfl (hb hby at_94) rfl rfl ?_
              show Steps p.tables e below (T136.setTop (mkF m 96 #[.val (.int p0), .val (.int p1), .val (.int p2), .val (.int p3), .val (.int p4), .val (.int p5), .val (.ref b2), .val (.int (4 : Int32)), .unset] [(.ref b2)])) _
              refine XS.iconst X136.here hx rfl (hb hby at_96) ?_
              show Steps p.tables e below (T136.setTop (mkF m 97 #[.val (.int p0), .val (.int p1), .val (.int p2), .val (.int p3), .val (.int p4), .val (.int p5), .val (.ref b2), .val (.int (4 : Int32)), .unset] [(.int (2 : Int32)), (.ref b2)])) _
              refine X136.baloadBytes hx (j := (2 : Int32)) (v := (.int ((own_draw p2).toInt8.toInt32))) (by rw [eq136]; exact Ar129.1) (State.isArrayOf_alike hZ.alike Ar129.2.1) Ar129.2.2 (inb_of S129 ⟨by decide, by decide⟩) (Has.at Ha129 (inb_of S129 ⟨by decide, by decide⟩) rfl) (g := (mkF m 97 #[.val (.int p0), .val (.int p1), .val (.int p2), .val (.int p3), .val (.int p4), .val (.int p5), .val (.ref b2), .val (.int (4 : Int32)), .unset] [(.int (2 : Int32)), (.ref b2)])) rfl rfl (hb hby at_97) _ ?_
              exact k)
            obtain ⟨_, _, ⟨T141, L141, k141, n141⟩, -, X141, ⟨Lc141, hQ141, lq141, yq141, zq141⟩, st141⟩ := Jvm.LawKit.callS X136 hx (y := (⟨"com/example/rackline/rackline/protocols/ssc/MessageReaderIsBlankPinLaw", "ws", "(B)Z"⟩ : MethodName)) hown (mvT hZ (hw _ (List.mem_of_getElem? (i := 6) rfl))) (mvT hZ (hw _ (List.mem_of_getElem? (i := 7) rfl))) (mvT hZ (hw _ (List.mem_of_getElem? (i := 3) rfl))) (mvT hZ (hw _ (List.mem_of_getElem? (i := 8) rfl))) (by decide) (backOf (W := 0) (rm2 l Z a0 hw [] ((own_draw p2).toInt8.toInt32) h32 n0 Zn32 ) hZ (hw _ (List.mem_of_getElem? (i := 8) rfl)) (hw _ (List.mem_of_getElem? (i := 3) rfl)) (by decide) (by decide)) (g := (mkF m 98 #[.val (.int p0), .val (.int p1), .val (.int p2), .val (.int p3), .val (.int p4), .val (.int p5), .val (.ref b2), .val (.int (4 : Int32)), .unset] [(.int ((own_draw p2).toInt8.toInt32))])) rfl (by rw [hml]; rfl) (argsL := [(.int ((own_draw p2).toInt8.toInt32))]) (rest := []) (lenOf pd_1 rfl) rfl (by show 2 * 0 + _ ≤ _; exact Nat.le_of_eq rfl) (hb hby at_98) (fun _ _ => ⟨rfl, eq136, (by decide : 1 + 0 ≤ _), (by decide : 5 + 0 ≤ _)⟩)
            dsimp only [Pt.U, Pt.locs, Pt.cells, Pt.slots] at X141 lq141 yq141 zq141 st141 hQ141
            subst lq141 yq141 zq141
            obtain ⟨rfl, Nq141, eq141⟩ := hQ141
            have N141 := Fr.app N136 Nq141
            have ks142 : own_R p e below (s₁.setTop (entryFrame m #[(.int p0), (.int p1), (.int p2), (.int p3), (.int p4), (.int p5)] maxLocals)) (T141.setTop (mkF m 101 #[.val (.int p0), .val (.int p1), .val (.int p2), .val (.int p3), .val (.int p4), .val (.int p5), .val (.ref b2), .val (.int (4 : Int32)), .unset] [(.int (own_ws ((own_draw p2).toInt8.toInt32)))])) := fun t k => ks140 t (st141 t k)
            obtain ⟨v153, hv153⟩ : ∃ z : Int32, z = (if (own_ws ((own_draw p2).toInt8.toInt32)) = (0 : Int32) then (0 : Int32) else (if (own_ws ((own_draw p3).toInt8.toInt32)) = (0 : Int32) then (0 : Int32) else (1 : Int32))) := ⟨_, rfl⟩
            obtain ⟨T154, L154, X154, N154, e154, k154⟩ : ∃ T' L', Stand p l e room_1 s m #[(.int p0), (.int p1), (.int p2), (.int p3), (.int p4), (.int p5)] below meth c T' L' 1 5 ∧ Fr n0 L' ∧ T'.heap = h32 ∧ own_R p e below (s₁.setTop (entryFrame m #[(.int p0), (.int p1), (.int p2), (.int p3), (.int p4), (.int p5)] maxLocals)) (T'.setTop (mkF m 141 #[.val (.int p0), .val (.int p1), .val (.int p2), .val (.int p3), .val (.int p4), .val (.int p5), .val (.ref b2), .val (.int (4 : Int32)), .unset] [(.int v153)])) := by
              by_cases hc143 : (own_ws ((own_draw p2).toInt8.toInt32)) = (0 : Int32)
              · skip
                have ks144 : own_R p e below (s₁.setTop (entryFrame m #[(.int p0), (.int p1), (.int p2), (.int p3), (.int p4), (.int p5)] maxLocals)) (T141.setTop (mkF m 141 #[.val (.int p0), .val (.int p1), .val (.int p2), .val (.int p3), .val (.int p4), .val (.int p5), .val (.ref b2), .val (.int (4 : Int32)), .unset] [(.int (0 : Int32))])) := fun t k => ks142 t (by
                  show Steps p.tables e below (T141.setTop (mkF m 101 #[.val (.int p0), .val (.int p1), .val (.int p2), .val (.int p3), .val (.int p4), .val (.int p5), .val (.ref b2), .val (.int (4 : Int32)), .unset] [(.int (own_ws ((own_draw p2).toInt8.toInt32)))])) _
                  refine XS.ifYes X141.here hx rfl (pc0 := 101) (pc' := 140) rfl (hb hby at_101) rfl ((if0 _ _).trans (teq hc143).1) (by decide) (by decide) ?_
                  show Steps p.tables e below (T141.setTop (mkF m 140 #[.val (.int p0), .val (.int p1), .val (.int p2), .val (.int p3), .val (.int p4), .val (.int p5), .val (.ref b2), .val (.int (4 : Int32)), .unset] [])) _
                  refine XS.iconst X141.here hx rfl (hb hby at_140) ?_
                  exact k)
                have qq155 : v153 = (0 : Int32) := by
                  rw [hv153, if_pos hc143]
                have ks156 : own_R p e below (s₁.setTop (entryFrame m #[(.int p0), (.int p1), (.int p2), (.int p3), (.int p4), (.int p5)] maxLocals)) (T141.setTop (mkF m 141 #[.val (.int p0), .val (.int p1), .val (.int p2), .val (.int p3), .val (.int p4), .val (.int p5), .val (.ref b2), .val (.int (4 : Int32)), .unset] [(.int v153)])) := fun t k => ks144 t (by
                  rw [qq155] at k
                  exact k)
                exact ⟨T141, _, X141, N141, eq141, ks156⟩
              · skip
                have ks145 : own_R p e below (s₁.setTop (entryFrame m #[(.int p0), (.int p1), (.int p2), (.int p3), (.int p4), (.int p5)] maxLocals)) (T141.setTop (mkF m 114 #[.val (.int p0), .val (.int p1), .val (.int p2), .val (.int p3), .val (.int p4), .val (.int p5), .val (.ref b2), .val (.int (4 : Int32)), .unset] [(.int ((own_draw p3).toInt8.toInt32))])) := fun t k => ks142 t (by
                  show Steps p.tables e below (T141.setTop (mkF m 101 #[.val (.int p0), .val (.int p1), .val (.int p2), .val (.int p3), .val (.int p4), .val (.int p5), .val (.ref b2), .val (.int (4 : Int32)), .unset] [(.int (own_ws ((own_draw p2).toInt8.toInt32)))])) _
                  refine XS.ifNo X141.here hx rfl (hb hby at_101) rfl ((if0 _ _).trans (feq hc143).1) ?_
                  show Steps p.tables e below (T141.setTop (mkF m 104 #[.val (.int p0), .val (.int p1), .val (.int p2), .val (.int p3), .val (.int p4), .val (.int p5), .val (.ref b2), .val (.int (4 : Int32)), .unset] [])) _
                  refine XS.iload X141.here hx rfl (hb hby at_104) rfl ?_
                  show Steps p.tables e below (T141.setTop (mkF m 106 #[.val (.int p0), .val (.int p1), .val (.int p2), .val (.int p3), .val (.int p4), .val (.int p5), .val (.ref b2), .val (.int (4 : Int32)), .unset] [(.int (4 : Int32))])) _
                  refine XS.iconst X141.here hx rfl (hb hby at_106) ?_
                  show Steps p.tables e below (T141.setTop (mkF m 107 #[.val (.int p0), .val (.int p1), .val (.int p2), .val (.int p3), .val (.int p4), .val (.int p5), .val (.ref b2), .val (.int (4 : Int32)), .unset] [(.int (4 : Int32)), (.int (4 : Int32))])) _
                  refine XS.icmpNo X141.here hx rfl (hb hby at_107) rfl (flt (by decide)).1 ?_
                  show Steps p.tables e below (T141.setTop (mkF m 110 #[.val (.int p0), .val (.int p1), .val (.int p2), .val (.int p3), .val (.int p4), .val (.int p5), .val (.ref b2), .val (.int (4 : Int32)), .unset] [])) _
                  refine XS.aload X141.here hx rfl (hb hby at_110) rfl rfl ?_
                  show Steps p.tables e below (T141.setTop (mkF m 112 #[.val (.int p0), .val (.int p1), .val (.int p2), .val (.int p3), .val (.int p4), .val (.int p5), .val (.ref b2), .val (.int (4 : Int32)), .unset] [(.ref b2)])) _
                  refine XS.iconst X141.here hx rfl (hb hby at_112) ?_
                  show Steps p.tables e below (T141.setTop (mkF m 113 #[.val (.int p0), .val (.int p1), .val (.int p2), .val (.int p3), .val (.int p4), .val (.int p5), .val (.ref b2), .val (.int (4 : Int32)), .unset] [(.int (3 : Int32)), (.ref b2)])) _
                  refine X141.baloadBytes hx (j := (3 : Int32)) (v := (.int ((own_draw p3).toInt8.toInt32))) (by rw [eq141]; exact Ar129.1) (State.isArrayOf_alike hZ.alike Ar129.2.1) Ar129.2.2 (inb_of S129 ⟨by decide, by decide⟩) (Has.at Ha129 (inb_of S129 ⟨by decide, by decide⟩) rfl) (g := (mkF m 113 #[.val (.int p0), .val (.int p1), .val (.int p2), .val (.int p3), .val (.int p4), .val (.int p5), .val (.ref b2), .val (.int (4 : Int32)), .unset] [(.int (3 : Int32)), (.ref b2)])) rfl rfl (hb hby at_113) _ ?_
                  exact k)
                obtain ⟨_, _, ⟨T146, L146, k146, n146⟩, -, X146, ⟨Lc146, hQ146, lq146, yq146, zq146⟩, st146⟩ := Jvm.LawKit.callS X141 hx (y := (⟨"com/example/rackline/rackline/protocols/ssc/MessageReaderIsBlankPinLaw", "ws", "(B)Z"⟩ : MethodName)) hown (mvT hZ (hw _ (List.mem_of_getElem? (i := 6) rfl))) (mvT hZ (hw _ (List.mem_of_getElem? (i := 7) rfl))) (mvT hZ (hw _ (List.mem_of_getElem? (i := 3) rfl))) (mvT hZ (hw _ (List.mem_of_getElem? (i := 8) rfl))) (by decide) (backOf (W := 0) (rm2 l Z a0 hw [] ((own_draw p3).toInt8.toInt32) h32 n0 Zn32 ) hZ (hw _ (List.mem_of_getElem? (i := 8) rfl)) (hw _ (List.mem_of_getElem? (i := 3) rfl)) (by decide) (by decide)) (g := (mkF m 114 #[.val (.int p0), .val (.int p1), .val (.int p2), .val (.int p3), .val (.int p4), .val (.int p5), .val (.ref b2), .val (.int (4 : Int32)), .unset] [(.int ((own_draw p3).toInt8.toInt32))])) rfl (by rw [hml]; rfl) (argsL := [(.int ((own_draw p3).toInt8.toInt32))]) (rest := []) (lenOf pd_1 rfl) rfl (by show 2 * 0 + _ ≤ _; exact Nat.le_of_eq rfl) (hb hby at_114) (fun _ _ => ⟨rfl, eq141, (by decide : 1 + 0 ≤ _), (by decide : 5 + 0 ≤ _)⟩)
                dsimp only [Pt.U, Pt.locs, Pt.cells, Pt.slots] at X146 lq146 yq146 zq146 st146 hQ146
                subst lq146 yq146 zq146
                obtain ⟨rfl, Nq146, eq146⟩ := hQ146
                have N146 := Fr.app N141 Nq146
                have ks147 : own_R p e below (s₁.setTop (entryFrame m #[(.int p0), (.int p1), (.int p2), (.int p3), (.int p4), (.int p5)] maxLocals)) (T146.setTop (mkF m 117 #[.val (.int p0), .val (.int p1), .val (.int p2), .val (.int p3), .val (.int p4), .val (.int p5), .val (.ref b2), .val (.int (4 : Int32)), .unset] [(.int (own_ws ((own_draw p3).toInt8.toInt32)))])) := fun t k => ks145 t (st146 t k)
                obtain ⟨v149, hv149⟩ : ∃ z : Int32, z = (if (own_ws ((own_draw p3).toInt8.toInt32)) = (0 : Int32) then (0 : Int32) else (1 : Int32)) := ⟨_, rfl⟩
                have ks150 : own_R p e below (s₁.setTop (entryFrame m #[(.int p0), (.int p1), (.int p2), (.int p3), (.int p4), (.int p5)] maxLocals)) (T146.setTop (mkF m 141 #[.val (.int p0), .val (.int p1), .val (.int p2), .val (.int p3), .val (.int p4), .val (.int p5), .val (.ref b2), .val (.int (4 : Int32)), .unset] [(.int v149)])) := fun t k => ks147 t (by
                  by_cases hc148 : (own_ws ((own_draw p3).toInt8.toInt32)) = (0 : Int32)
                  · skip
                    have qq151 : v149 = (0 : Int32) := by rw [hv149, if_pos hc148]
                    rw [qq151] at k
                    show Steps p.tables e below (T146.setTop (mkF m 117 #[.val (.int p0), .val (.int p1), .val (.int p2), .val (.int p3), .val (.int p4), .val (.int p5), .val (.ref b2), .val (.int (4 : Int32)), .unset] [(.int (own_ws ((own_draw p3).toInt8.toInt32)))])) _
                    refine XS.ifYes X146.here hx rfl (pc0 := 117) (pc' := 140) rfl (hb hby at_117) rfl ((if0 _ _).trans (teq hc148).1) (by decide) (by decide) ?_
                    show Steps p.tables e below (T146.setTop (mkF m 140 #[.val (.int p0), .val (.int p1), .val (.int p2), .val (.int p3), .val (.int p4), .val (.int p5), .val (.ref b2), .val (.int (4 : Int32)), .unset] [])) _
                    refine XS.iconst X146.here hx rfl (hb hby at_140) ?_
                    exact k
                  · skip
                    have qq152 : v149 = (1 : Int32) := by rw [hv149, if_neg hc148]
                    rw [qq152] at k
                    show Steps p.tables e below (T146.setTop (mkF m 117 #[.val (.int p0), .val (.int p1), .val (.int p2), .val (.int p3), .val (.int p4), .val (.int p5), .val (.ref b2), .val (.int (4 : Int32)), .unset] [(.int (own_ws ((own_draw p3).toInt8.toInt32)))])) _
                    refine XS.ifNo X146.here hx rfl (hb hby at_117) rfl ((if0 _ _).trans (feq hc148).1) ?_
                    show Steps p.tables e below (T146.setTop (mkF m 120 #[.val (.int p0), .val (.int p1), .val (.int p2), .val (.int p3), .val (.int p4), .val (.int p5), .val (.ref b2), .val (.int (4 : Int32)), .unset] [])) _
                    refine XS.iload X146.here hx rfl (hb hby at_120) rfl ?_
                    show Steps p.tables e below (T146.setTop (mkF m 122 #[.val (.int p0), .val (.int p1), .val (.int p2), .val (.int p3), .val (.int p4), .val (.int p5), .val (.ref b2), .val (.int (4 : Int32)), .unset] [(.int (4 : Int32))])) _
                    refine XS.iconst X146.here hx rfl (hb hby at_122) ?_
                    show Steps p.tables e below (T146.setTop (mkF m 123 #[.val (.int p0), .val (.int p1), .val (.int p2), .val (.int p3), .val (.int p4), .val (.int p5), .val (.ref b2), .val (.int (4 : Int32)), .unset] [(.int (5 : Int32)), (.int (4 : Int32))])) _
                    refine XS.icmpYes X146.here hx rfl (pc0 := 123) (pc' := 136) rfl (hb hby at_123) rfl (tlt (by decide)).1 (by decide) (by decide) ?_
                    show Steps p.tables e below (T146.setTop (mkF m 136 #[.val (.int p0), .val (.int p1), .val (.int p2), .val (.int p3), .val (.int p4), .val (.int p5), .val (.ref b2), .val (.int (4 : Int32)), .unset] [])) _
                    refine XS.iconst X146.here hx rfl (hb hby at_136) ?_
                    show Steps p.tables e below (T146.setTop (mkF m 137 #[.val (.int p0), .val (.int p1), .val (.int p2), .val (.int p3), .val (.int p4), .val (.int p5), .val (.ref b2), .val (.int (4 : Int32)), .unset] [(.int (1 : Int32))])) _
                    refine XS.goto X146.here hx rfl (pc0 := 137) (pc' := 141) rfl (hb hby at_137) (by decide) (by decide) ?_
                    exact k)
                have qq157 : v153 = v149 := by
                  subst hv149
                  rw [hv153, if_neg hc143]
                have ks158 : own_R p e below (s₁.setTop (entryFrame m #[(.int p0), (.int p1), (.int p2), (.int p3), (.int p4), (.int p5)] maxLocals)) (T146.setTop (mkF m 141 #[.val (.int p0), .val (.int p1), .val (.int p2), .val (.int p3), .val (.int p4), .val (.int p5), .val (.ref b2), .val (.int (4 : Int32)), .unset] [(.int v153)])) := fun t k => ks150 t (by
                  rw [qq157] at k
                  exact k)
                exact ⟨T146, _, X146, N146, eq146, ks158⟩
            have qq163 : v159 = v153 := by
              subst hv153
              rw [hv159, if_neg hc138]
            have ks164 : own_R p e below (s₁.setTop (entryFrame m #[(.int p0), (.int p1), (.int p2), (.int p3), (.int p4), (.int p5)] maxLocals)) (T154.setTop (mkF m 141 #[.val (.int p0), .val (.int p1), .val (.int p2), .val (.int p3), .val (.int p4), .val (.int p5), .val (.ref b2), .val (.int (4 : Int32)), .unset] [(.int v159)])) := fun t k => k154 t (by
              rw [qq163] at k
              exact k)
            exact ⟨T154, _, X154, N154, e154, ks164⟩
        have qq169 : v165 = v159 := by
          subst hv159
          rw [hv165, if_neg hc133]
        have ks170 : own_R p e below (s₁.setTop (entryFrame m #[(.int p0), (.int p1), (.int p2), (.int p3), (.int p4), (.int p5)] maxLocals)) (T160.setTop (mkF m 141 #[.val (.int p0), .val (.int p1), .val (.int p2), .val (.int p3), .val (.int p4), .val (.int p5), .val (.ref b2), .val (.int (4 : Int32)), .unset] [(.int v165)])) := fun t k => k160 t (by
          rw [qq169] at k
          exact k)
        exact ⟨T160, _, X160, N160, e160, ks170⟩
    have ks171 : own_R p e below (s₁.setTop (entryFrame m #[(.int p0), (.int p1), (.int p2), (.int p3), (.int p4), (.int p5)] maxLocals)) (T166.setTop (mkF m 147 #[.val (.int p0), .val (.int p1), .val (.int p2), .val (.int p3), .val (.int p4), .val (.int p5), .val (.ref b2), .val (.int (4 : Int32)), .val (.int v165)] [(.int (4 : Int32)), (.ref b2)])) := fun t k => k166 t (by
      show Steps p.tables e below (T166.setTop (mkF m 141 #[.val (.int p0), .val (.int p1), .val (.int p2), .val (.int p3), .val (.int p4), .val (.int p5), .val (.ref b2), .val (.int (4 : Int32)), .unset] [(.int v165)])) _
      refine XS.istore X166.here hx rfl (hb hby at_141) rfl (l' := #[.val (.int p0), .val (.int p1), .val (.int p2), .val (.int p3), .val (.int p4), .val (.int p5), .val (.ref b2), .val (.int (4 : Int32)), .val (.int v165)]) rfl ?_
      show Steps p.tables e below (T166.setTop (mkF m 143 #[.val (.int p0), .val (.int p1), .val (.int p2), .val (.int p3), .val (.int p4), .val (.int p5), .val (.ref b2), .val (.int (4 : Int32)), .val (.int v165)] [])) _
      refine XS.aload X166.here hx rfl (hb hby at_143) rfl rfl ?_
      show Steps p.tables e below (T166.setTop (mkF m 145 #[.val (.int p0), .val (.int p1), .val (.int p2), .val (.int p3), .val (.int p4), .val (.int p5), .val (.ref b2), .val (.int (4 : Int32)), .val (.int v165)] [(.ref b2)])) _
      refine XS.iload X166.here hx rfl (hb hby at_145) rfl ?_
      exact k)
    obtain ⟨_, _, ⟨T172, L172, k172, n172⟩, -, X172, ⟨Lc172, hQ172, lq172, yq172, zq172⟩, st172⟩ := Jvm.LawKit.callS X166 hx (y := (⟨"com/example/rackline/rackline/protocols/ssc/MessageReader", "isBlank", "([BI)Z"⟩ : MethodName)) hown (mvT hZ (hw _ (List.mem_of_getElem? (i := 9) rfl))) (mvT hZ (hw _ (List.mem_of_getElem? (i := 10) rfl))) (mvT hZ (hw _ (List.mem_of_getElem? (i := 11) rfl))) (mvT hZ (hw _ (List.mem_of_getElem? (i := 12) rfl))) (by decide) (backOf (W := 0) (rm3 l Z a0 hw [] b2 (4 : Int32) _ ((own_draw p0).toInt8.toInt32) ((own_draw p1).toInt8.toInt32) ((own_draw p2).toInt8.toInt32) ((own_draw p3).toInt8.toInt32) ((own_draw p4).toInt8.toInt32) h32 n0 Zn32 (by decide) V32) hZ (hw _ (List.mem_of_getElem? (i := 12) rfl)) (hw _ (List.mem_of_getElem? (i := 11) rfl)) (by decide) (by decide)) (g := (mkF m 147 #[.val (.int p0), .val (.int p1), .val (.int p2), .val (.int p3), .val (.int p4), .val (.int p5), .val (.ref b2), .val (.int (4 : Int32)), .val (.int v165)] [(.int (4 : Int32)), (.ref b2)])) rfl (by rw [hml]; rfl) (argsL := [(.ref b2), (.int (4 : Int32))]) (rest := []) (lenOf pd_2 rfl) rfl (by show 2 * 0 + _ ≤ _; exact Nat.le_of_eq rfl) (hb hby at_147) (fun _ _ => ⟨rfl, e166, (by decide : 1 + 0 ≤ _), (by decide : 5 + 0 ≤ _)⟩)
    dsimp only [Pt.U, Pt.locs, Pt.cells, Pt.slots] at X172 lq172 yq172 zq172 st172 hQ172
    subst lq172 yq172 zq172
    obtain ⟨rfl, Nq172, eq172⟩ := hQ172
    have N172 := Fr.app N166 Nq172
    have ks173 : own_R p e below (s₁.setTop (entryFrame m #[(.int p0), (.int p1), (.int p2), (.int p3), (.int p4), (.int p5)] maxLocals)) (T172.setTop (mkF m 150 #[.val (.int p0), .val (.int p1), .val (.int p2), .val (.int p3), .val (.int p4), .val (.int p5), .val (.ref b2), .val (.int (4 : Int32)), .val (.int v165)] [(.int (own_blank ((own_draw p0).toInt8.toInt32) ((own_draw p1).toInt8.toInt32) ((own_draw p2).toInt8.toInt32) ((own_draw p3).toInt8.toInt32) ((own_draw p4).toInt8.toInt32) (4 : Int32)))])) := fun t k => ks171 t (st172 t k)
    have ks174 : own_R p e below (s₁.setTop (entryFrame m #[(.int p0), (.int p1), (.int p2), (.int p3), (.int p4), (.int p5)] maxLocals)) (T172.setTop (mkF m 152 #[.val (.int p0), .val (.int p1), .val (.int p2), .val (.int p3), .val (.int p4), .val (.int p5), .val (.ref b2), .val (.int (4 : Int32)), .val (.int v165)] [(.int v165), (.int (own_blank ((own_draw p0).toInt8.toInt32) ((own_draw p1).toInt8.toInt32) ((own_draw p2).toInt8.toInt32) ((own_draw p3).toInt8.toInt32) ((own_draw p4).toInt8.toInt32) (4 : Int32)))])) := fun t k => ks173 t (by
      show Steps p.tables e below (T172.setTop (mkF m 150 #[.val (.int p0), .val (.int p1), .val (.int p2), .val (.int p3), .val (.int p4), .val (.int p5), .val (.ref b2), .val (.int (4 : Int32)), .val (.int v165)] [(.int (own_blank ((own_draw p0).toInt8.toInt32) ((own_draw p1).toInt8.toInt32) ((own_draw p2).toInt8.toInt32) ((own_draw p3).toInt8.toInt32) ((own_draw p4).toInt8.toInt32) (4 : Int32)))])) _
      refine XS.iload X172.here hx rfl (hb hby at_150) rfl ?_
      exact k)
    by_cases hc175 : (own_blank ((own_draw p0).toInt8.toInt32) ((own_draw p1).toInt8.toInt32) ((own_draw p2).toInt8.toInt32) ((own_draw p3).toInt8.toInt32) ((own_draw p4).toInt8.toInt32) (4 : Int32)) = v165
    · skip
      have ks176 : own_R p e below (s₁.setTop (entryFrame m #[(.int p0), (.int p1), (.int p2), (.int p3), (.int p4), (.int p5)] maxLocals)) (T172.setTop (mkF m 160 #[.val (.int p0), .val (.int p1), .val (.int p2), .val (.int p3), .val (.int p4), .val (.int p5), .val (.ref b2), .val (.int (4 : Int32)), .val (.int v165)] [(.int (1 : Int32))])) := fun t k => ks174 t (by
        show Steps p.tables e below (T172.setTop (mkF m 152 #[.val (.int p0), .val (.int p1), .val (.int p2), .val (.int p3), .val (.int p4), .val (.int p5), .val (.ref b2), .val (.int (4 : Int32)), .val (.int v165)] [(.int v165), (.int (own_blank ((own_draw p0).toInt8.toInt32) ((own_draw p1).toInt8.toInt32) ((own_draw p2).toInt8.toInt32) ((own_draw p3).toInt8.toInt32) ((own_draw p4).toInt8.toInt32) (4 : Int32)))])) _
        refine XS.icmpNo X172.here hx rfl (hb hby at_152) rfl (teq hc175).2 ?_
        show Steps p.tables e below (T172.setTop (mkF m 155 #[.val (.int p0), .val (.int p1), .val (.int p2), .val (.int p3), .val (.int p4), .val (.int p5), .val (.ref b2), .val (.int (4 : Int32)), .val (.int v165)] [])) _
        refine XS.iconst X172.here hx rfl (hb hby at_155) ?_
        show Steps p.tables e below (T172.setTop (mkF m 156 #[.val (.int p0), .val (.int p1), .val (.int p2), .val (.int p3), .val (.int p4), .val (.int p5), .val (.ref b2), .val (.int (4 : Int32)), .val (.int v165)] [(.int (1 : Int32))])) _
        refine XS.goto X172.here hx rfl (pc0 := 156) (pc' := 160) rfl (hb hby at_156) (by decide) (by decide) ?_
        exact k)
      obtain ⟨fs, hr, hrun, hended, hW, hsame⟩ := X172.leave (v := some (.int (1 : Int32))) (fun h => by rw [Bd.returns] at h; cases h)
      refine ⟨_, _, ks176 _ ?_, hrun, hended, _, _, rfl, ?_, ⟨_, rfl⟩, hW, hsame.mono (by decide) (by decide)⟩
      · exact retN X172 hx (t := .boolean) Bd.returns (by simp) (hb hby at_160) hr
      · show Q0 Z p0 p1 p2 p3 p4 p5 h0 n0 _ T172.heap _
        rw [eq172]
        exact ⟨rfl, N172⟩
    · skip
      have ks177 : own_R p e below (s₁.setTop (entryFrame m #[(.int p0), (.int p1), (.int p2), (.int p3), (.int p4), (.int p5)] maxLocals)) (T172.setTop (mkF m 160 #[.val (.int p0), .val (.int p1), .val (.int p2), .val (.int p3), .val (.int p4), .val (.int p5), .val (.ref b2), .val (.int (4 : Int32)), .val (.int v165)] [(.int (0 : Int32))])) := fun t k => ks174 t (by
        show Steps p.tables e below (T172.setTop (mkF m 152 #[.val (.int p0), .val (.int p1), .val (.int p2), .val (.int p3), .val (.int p4), .val (.int p5), .val (.ref b2), .val (.int (4 : Int32)), .val (.int v165)] [(.int v165), (.int (own_blank ((own_draw p0).toInt8.toInt32) ((own_draw p1).toInt8.toInt32) ((own_draw p2).toInt8.toInt32) ((own_draw p3).toInt8.toInt32) ((own_draw p4).toInt8.toInt32) (4 : Int32)))])) _
        refine XS.icmpYes X172.here hx rfl (pc0 := 152) (pc' := 159) rfl (hb hby at_152) rfl (feq hc175).2 (by decide) (by decide) ?_
        show Steps p.tables e below (T172.setTop (mkF m 159 #[.val (.int p0), .val (.int p1), .val (.int p2), .val (.int p3), .val (.int p4), .val (.int p5), .val (.ref b2), .val (.int (4 : Int32)), .val (.int v165)] [])) _
        refine XS.iconst X172.here hx rfl (hb hby at_159) ?_
        exact k)
      obtain ⟨fs, hr, hrun, hended, hW, hsame⟩ := X172.leave (v := some (.int (0 : Int32))) (fun h => by rw [Bd.returns] at h; cases h)
      refine ⟨_, _, ks177 _ ?_, hrun, hended, _, _, rfl, ?_, ⟨_, rfl⟩, hW, hsame.mono (by decide) (by decide)⟩
      · exact retN X172 hx (t := .boolean) Bd.returns (by simp) (hb hby at_160) hr
      · show Q0 Z p0 p1 p2 p3 p4 p5 h0 n0 _ T172.heap _
        rw [eq172]
        exfalso
        apply hc175
        subst hv165
        unfold own_blank
        simp only [own_wi]
        simp
  · have el : v35 = (5 : Int32) := hv35.trans hl
    rw [el] at ks36
    have ks178 : own_R p e below (s₁.setTop (entryFrame m #[(.int p0), (.int p1), (.int p2), (.int p3), (.int p4), (.int p5)] maxLocals)) (T32.setTop (mkF m 65 #[.val (.int p0), .val (.int p1), .val (.int p2), .val (.int p3), .val (.int p4), .val (.int p5), .val (.ref b2), .val (.int (5 : Int32)), .unset] [(.int (0 : Int32)), (.ref b2)])) := fun t k => ks36 t (by
      show Steps p.tables e below (T32.setTop (mkF m 56 #[.val (.int p0), .val (.int p1), .val (.int p2), .val (.int p3), .val (.int p4), .val (.int p5), .val (.ref b2), .val (.int (5 : Int32)), .unset] [])) _
      refine XS.iload X32.here hx rfl (hb hby at_56) rfl ?_
      show Steps p.tables e below (T32.setTop (mkF m 58 #[.val (.int p0), .val (.int p1), .val (.int p2), .val (.int p3), .val (.int p4), .val (.int p5), .val (.ref b2), .val (.int (5 : Int32)), .unset] [(.int (5 : Int32))])) _
      refine XS.iconst X32.here hx rfl (hb hby at_58) ?_
      show Steps p.tables e below (T32.setTop (mkF m 59 #[.val (.int p0), .val (.int p1), .val (.int p2), .val (.int p3), .val (.int p4), .val (.int p5), .val (.ref b2), .val (.int (5 : Int32)), .unset] [(.int (1 : Int32)), (.int (5 : Int32))])) _
      refine XS.icmpNo X32.here hx rfl (hb hby at_59) rfl (flt (by decide)).1 ?_
      show Steps p.tables e below (T32.setTop (mkF m 62 #[.val (.int p0), .val (.int p1), .val (.int p2), .val (.int p3), .val (.int p4), .val (.int p5), .val (.ref b2), .val (.int (5 : Int32)), .unset] [])) _
      refine XS.aload X32.here hx rfl (hb hby at_62) rfl rfl ?_
      show Steps p.tables e below (T32.setTop (mkF m 64 #[.val (.int p0), .val (.int p1), .val (.int p2), .val (.int p3), .val (.int p4), .val (.int p5), .val (.ref b2), .val (.int (5 : Int32)), .unset] [(.ref b2)])) _
      refine XS.iconst X32.here hx rfl (hb hby at_64) ?_
      exact k)
    obtain ⟨cl179, Ar179, qa179, S179, Na179, Ha179, Ga179⟩ := id V32
    have ks180 : own_R p e below (s₁.setTop (entryFrame m #[(.int p0), (.int p1), (.int p2), (.int p3), (.int p4), (.int p5)] maxLocals)) (T32.setTop (mkF m 66 #[.val (.int p0), .val (.int p1), .val (.int p2), .val (.int p3), .val (.int p4), .val (.int p5), .val (.ref b2), .val (.int (5 : Int32)), .unset] [(.int ((own_draw p0).toInt8.toInt32))])) := fun t k => ks178 t (by
      show Steps p.tables e below (T32.setTop (mkF m 65 #[.val (.int p0), .val (.int p1), .val (.int p2), .val (.int p3), .val (.int p4), .val (.int p5), .val (.ref b2), .val (.int (5 : Int32)), .unset] [(.int (0 : Int32)), (.ref b2)])) _
      refine X32.baloadBytes hx (j := (0 : Int32)) (v := (.int ((own_draw p0).toInt8.toInt32))) (by rw [e32]; exact Ar179.1) (State.isArrayOf_alike hZ.alike Ar179.2.1) Ar179.2.2 (inb_of S179 ⟨by decide, by decide⟩) (Has.at Ha179 (inb_of S179 ⟨by decide, by decide⟩) rfl) (g := (mkF m 65 #[.val (.int p0), .val (.int p1), .val (.int p2), .val (.int p3), .val (.int p4), .val (.int p5), .val (.ref b2), .val (.int (5 : Int32)), .unset] [(.int (0 : Int32)), (.ref b2)])) rfl rfl (hb hby at_65) _ ?_
      exact k)
    obtain ⟨_, _, ⟨T181, L181, k181, n181⟩, -, X181, ⟨Lc181, hQ181, lq181, yq181, zq181⟩, st181⟩ := Jvm.LawKit.callS X32 hx (y := (⟨"com/example/rackline/rackline/protocols/ssc/MessageReaderIsBlankPinLaw", "ws", "(B)Z"⟩ : MethodName)) hown (mvT hZ (hw _ (List.mem_of_getElem? (i := 6) rfl))) (mvT hZ (hw _ (List.mem_of_getElem? (i := 7) rfl))) (mvT hZ (hw _ (List.mem_of_getElem? (i := 3) rfl))) (mvT hZ (hw _ (List.mem_of_getElem? (i := 8) rfl))) (by decide) (backOf (W := 0) (rm2 l Z a0 hw [] ((own_draw p0).toInt8.toInt32) h32 n0 Zn32 ) hZ (hw _ (List.mem_of_getElem? (i := 8) rfl)) (hw _ (List.mem_of_getElem? (i := 3) rfl)) (by decide) (by decide)) (g := (mkF m 66 #[.val (.int p0), .val (.int p1), .val (.int p2), .val (.int p3), .val (.int p4), .val (.int p5), .val (.ref b2), .val (.int (5 : Int32)), .unset] [(.int ((own_draw p0).toInt8.toInt32))])) rfl (by rw [hml]; rfl) (argsL := [(.int ((own_draw p0).toInt8.toInt32))]) (rest := []) (lenOf pd_1 rfl) rfl (by show 2 * 0 + _ ≤ _; exact Nat.le_of_eq rfl) (hb hby at_66) (fun _ _ => ⟨rfl, e32, (by decide : 1 + 0 ≤ _), (by decide : 5 + 0 ≤ _)⟩)
    dsimp only [Pt.U, Pt.locs, Pt.cells, Pt.slots] at X181 lq181 yq181 zq181 st181 hQ181
    subst lq181 yq181 zq181
    obtain ⟨rfl, Nq181, eq181⟩ := hQ181
    have N181 := Fr.app N32 Nq181
    have ks182 : own_R p e below (s₁.setTop (entryFrame m #[(.int p0), (.int p1), (.int p2), (.int p3), (.int p4), (.int p5)] maxLocals)) (T181.setTop (mkF m 69 #[.val (.int p0), .val (.int p1), .val (.int p2), .val (.int p3), .val (.int p4), .val (.int p5), .val (.ref b2), .val (.int (5 : Int32)), .unset] [(.int (own_ws ((own_draw p0).toInt8.toInt32)))])) := fun t k => ks180 t (st181 t k)
    obtain ⟨v226, hv226⟩ : ∃ z : Int32, z = (if (own_ws ((own_draw p0).toInt8.toInt32)) = (0 : Int32) then (0 : Int32) else (if (own_ws ((own_draw p1).toInt8.toInt32)) = (0 : Int32) then (0 : Int32) else (if (own_ws ((own_draw p2).toInt8.toInt32)) = (0 : Int32) then (0 : Int32) else (if (own_ws ((own_draw p3).toInt8.toInt32)) = (0 : Int32) then (0 : Int32) else (if (own_ws ((own_draw p4).toInt8.toInt32)) = (0 : Int32) then (0 : Int32) else (1 : Int32)))))) := ⟨_, rfl⟩
    obtain ⟨T227, L227, X227, N227, e227, k227⟩ : ∃ T' L', Stand p l e room_1 s m #[(.int p0), (.int p1), (.int p2), (.int p3), (.int p4), (.int p5)] below meth c T' L' 1 5 ∧ Fr n0 L' ∧ T'.heap = h32 ∧ own_R p e below (s₁.setTop (entryFrame m #[(.int p0), (.int p1), (.int p2), (.int p3), (.int p4), (.int p5)] maxLocals)) (T'.setTop (mkF m 141 #[.val (.int p0), .val (.int p1), .val (.int p2), .val (.int p3), .val (.int p4), .val (.int p5), .val (.ref b2), .val (.int (5 : Int32)), .unset] [(.int v226)])) := by
      by_cases hc183 : (own_ws ((own_draw p0).toInt8.toInt32)) = (0 : Int32)
      · skip
        have ks184 : own_R p e below (s₁.setTop (entryFrame m #[(.int p0), (.int p1), (.int p2), (.int p3), (.int p4), (.int p5)] maxLocals)) (T181.setTop (mkF m 141 #[.val (.int p0), .val (.int p1), .val (.int p2), .val (.int p3), .val (.int p4), .val (.int p5), .val (.ref b2), .val (.int (5 : Int32)), .unset] [(.int (0 : Int32))])) := fun t k => ks182 t (by
          show Steps p.tables e below (T181.setTop (mkF m 69 #[.val (.int p0), .val (.int p1), .val (.int p2), .val (.int p3), .val (.int p4), .val (.int p5), .val (.ref b2), .val (.int (5 : Int32)), .unset] [(.int (own_ws ((own_draw p0).toInt8.toInt32)))])) _
          refine XS.ifYes X181.here hx rfl (pc0 := 69) (pc' := 140) rfl (hb hby at_69) rfl ((if0 _ _).trans (teq hc183).1) (by decide) (by decide) ?_
          show Steps p.tables e below (T181.setTop (mkF m 140 #[.val (.int p0), .val (.int p1), .val (.int p2), .val (.int p3), .val (.int p4), .val (.int p5), .val (.ref b2), .val (.int (5 : Int32)), .unset] [])) _
          refine XS.iconst X181.here hx rfl (hb hby at_140) ?_
          exact k)
        have qq228 : v226 = (0 : Int32) := by
          rw [hv226, if_pos hc183]
        have ks229 : own_R p e below (s₁.setTop (entryFrame m #[(.int p0), (.int p1), (.int p2), (.int p3), (.int p4), (.int p5)] maxLocals)) (T181.setTop (mkF m 141 #[.val (.int p0), .val (.int p1), .val (.int p2), .val (.int p3), .val (.int p4), .val (.int p5), .val (.ref b2), .val (.int (5 : Int32)), .unset] [(.int v226)])) := fun t k => ks184 t (by
          rw [qq228] at k
          exact k)
        exact ⟨T181, _, X181, N181, eq181, ks229⟩
      · skip
        have ks185 : own_R p e below (s₁.setTop (entryFrame m #[(.int p0), (.int p1), (.int p2), (.int p3), (.int p4), (.int p5)] maxLocals)) (T181.setTop (mkF m 82 #[.val (.int p0), .val (.int p1), .val (.int p2), .val (.int p3), .val (.int p4), .val (.int p5), .val (.ref b2), .val (.int (5 : Int32)), .unset] [(.int ((own_draw p1).toInt8.toInt32))])) := fun t k => ks182 t (by
          show Steps p.tables e below (T181.setTop (mkF m 69 #[.val (.int p0), .val (.int p1), .val (.int p2), .val (.int p3), .val (.int p4), .val (.int p5), .val (.ref b2), .val (.int (5 : Int32)), .unset] [(.int (own_ws ((own_draw p0).toInt8.toInt32)))])) _
          refine XS.ifNo X181.here hx rfl (hb hby at_69) rfl ((if0 _ _).trans (feq hc183).1) ?_
          show Steps p.tables e below (T181.setTop (mkF m 72 #[.val (.int p0), .val (.int p1), .val (.int p2), .val (.int p3), .val (.int p4), .val (.int p5), .val (.ref b2), .val (.int (5 : Int32)), .unset] [])) _
          refine XS.iload X181.here hx rfl (hb hby at_72) rfl ?_
          show Steps p.tables e below (T181.setTop (mkF m 74 #[.val (.int p0), .val (.int p1), .val (.int p2), .val (.int p3), .val (.int p4), .val (.int p5), .val (.ref b2), .val (.int (5 : Int32)), .unset] [(.int (5 : Int32))])) _
          refine XS.iconst X181.here hx rfl (hb hby at_74) ?_
          show Steps p.tables e below (T181.setTop (mkF m 75 #[.val (.int p0), .val (.int p1), .val (.int p2), .val (.int p3), .val (.int p4), .val (.int p5), .val (.ref b2), .val (.int (5 : Int32)), .unset] [(.int (2 : Int32)), (.int (5 : Int32))])) _
          refine XS.icmpNo X181.here hx rfl (hb hby at_75) rfl (flt (by decide)).1 ?_
          show Steps p.tables e below (T181.setTop (mkF m 78 #[.val (.int p0), .val (.int p1), .val (.int p2), .val (.int p3), .val (.int p4), .val (.int p5), .val (.ref b2), .val (.int (5 : Int32)), .unset] [])) _
          refine XS.aload X181.here hx rfl (hb hby at_78) rfl rfl ?_
          show Steps p.tables e below (T181.setTop (mkF m 80 #[.val (.int p0), .val (.int p1), .val (.int p2), .val (.int p3), .val (.int p4), .val (.int p5), .val (.ref b2), .val (.int (5 : Int32)), .unset] [(.ref b2)])) _
          refine XS.iconst X181.here hx rfl (hb hby at_80) ?_
          show Steps p.tables e below (T181.setTop (mkF m 81 #[.val (.int p0), .val (.int p1), .val (.int p2), .val (.int p3), .val (.int p4), .val (.int p5), .val (.ref b2), .val (.int (5 : Int32)), .unset] [(.int (1 : Int32)), (.ref b2)])) _
          refine X181.baloadBytes hx (j := (1 : Int32)) (v := (.int ((own_draw p1).toInt8.toInt32))) (by rw [eq181]; exact Ar179.1) (State.isArrayOf_alike hZ.alike Ar179.2.1) Ar179.2.2 (inb_of S179 ⟨by decide, by decide⟩) (Has.at Ha179 (inb_of S179 ⟨by decide, by decide⟩) rfl) (g := (mkF m 81 #[.val (.int p0), .val (.int p1), .val (.int p2), .val (.int p3), .val (.int p4), .val (.int p5), .val (.ref b2), .val (.int (5 : Int32)), .unset] [(.int (1 : Int32)), (.ref b2)])) rfl rfl (hb hby at_81) _ ?_
          exact k)
        obtain ⟨_, _, ⟨T186, L186, k186, n186⟩, -, X186, ⟨Lc186, hQ186, lq186, yq186, zq186⟩, st186⟩ := Jvm.LawKit.callS X181 hx (y := (⟨"com/example/rackline/rackline/protocols/ssc/MessageReaderIsBlankPinLaw", "ws", "(B)Z"⟩ : MethodName)) hown (mvT hZ (hw _ (List.mem_of_getElem? (i := 6) rfl))) (mvT hZ (hw _ (List.mem_of_getElem? (i := 7) rfl))) (mvT hZ (hw _ (List.mem_of_getElem? (i := 3) rfl))) (mvT hZ (hw _ (List.mem_of_getElem? (i := 8) rfl))) (by decide) (backOf (W := 0) (rm2 l Z a0 hw [] ((own_draw p1).toInt8.toInt32) h32 n0 Zn32 ) hZ (hw _ (List.mem_of_getElem? (i := 8) rfl)) (hw _ (List.mem_of_getElem? (i := 3) rfl)) (by decide) (by decide)) (g := (mkF m 82 #[.val (.int p0), .val (.int p1), .val (.int p2), .val (.int p3), .val (.int p4), .val (.int p5), .val (.ref b2), .val (.int (5 : Int32)), .unset] [(.int ((own_draw p1).toInt8.toInt32))])) rfl (by rw [hml]; rfl) (argsL := [(.int ((own_draw p1).toInt8.toInt32))]) (rest := []) (lenOf pd_1 rfl) rfl (by show 2 * 0 + _ ≤ _; exact Nat.le_of_eq rfl) (hb hby at_82) (fun _ _ => ⟨rfl, eq181, (by decide : 1 + 0 ≤ _), (by decide : 5 + 0 ≤ _)⟩)
        dsimp only [Pt.U, Pt.locs, Pt.cells, Pt.slots] at X186 lq186 yq186 zq186 st186 hQ186
        subst lq186 yq186 zq186
        obtain ⟨rfl, Nq186, eq186⟩ := hQ186
        have N186 := Fr.app N181 Nq186
        have ks187 : own_R p e below (s₁.setTop (entryFrame m #[(.int p0), (.int p1), (.int p2), (.int p3), (.int p4), (.int p5)] maxLocals)) (T186.setTop (mkF m 85 #[.val (.int p0), .val (.int p1), .val (.int p2), .val (.int p3), .val (.int p4), .val (.int p5), .val (.ref b2), .val (.int (5 : Int32)), .unset] [(.int (own_ws ((own_draw p1).toInt8.toInt32)))])) := fun t k => ks185 t (st186 t k)
        obtain ⟨v220, hv220⟩ : ∃ z : Int32, z = (if (own_ws ((own_draw p1).toInt8.toInt32)) = (0 : Int32) then (0 : Int32) else (if (own_ws ((own_draw p2).toInt8.toInt32)) = (0 : Int32) then (0 : Int32) else (if (own_ws ((own_draw p3).toInt8.toInt32)) = (0 : Int32) then (0 : Int32) else (if (own_ws ((own_draw p4).toInt8.toInt32)) = (0 : Int32) then (0 : Int32) else (1 : Int32))))) := ⟨_, rfl⟩
        obtain ⟨T221, L221, X221, N221, e221, k221⟩ : ∃ T' L', Stand p l e room_1 s m #[(.int p0), (.int p1), (.int p2), (.int p3), (.int p4), (.int p5)] below meth c T' L' 1 5 ∧ Fr n0 L' ∧ T'.heap = h32 ∧ own_R p e below (s₁.setTop (entryFrame m #[(.int p0), (.int p1), (.int p2), (.int p3), (.int p4), (.int p5)] maxLocals)) (T'.setTop (mkF m 141 #[.val (.int p0), .val (.int p1), .val (.int p2), .val (.int p3), .val (.int p4), .val (.int p5), .val (.ref b2), .val (.int (5 : Int32)), .unset] [(.int v220)])) := by
          by_cases hc188 : (own_ws ((own_draw p1).toInt8.toInt32)) = (0 : Int32)
          · skip
            have ks189 : own_R p e below (s₁.setTop (entryFrame m #[(.int p0), (.int p1), (.int p2), (.int p3), (.int p4), (.int p5)] maxLocals)) (T186.setTop (mkF m 141 #[.val (.int p0), .val (.int p1), .val (.int p2), .val (.int p3), .val (.int p4), .val (.int p5), .val (.ref b2), .val (.int (5 : Int32)), .unset] [(.int (0 : Int32))])) := fun t k => ks187 t (by
              show Steps p.tables e below (T186.setTop (mkF m 85 #[.val (.int p0), .val (.int p1), .val (.int p2), .val (.int p3), .val (.int p4), .val (.int p5), .val (.ref b2), .val (.int (5 : Int32)), .unset] [(.int (own_ws ((own_draw p1).toInt8.toInt32)))])) _
              refine XS.ifYes X186.here hx rfl (pc0 := 85) (pc' := 140) rfl (hb hby at_85) rfl ((if0 _ _).trans (teq hc188).1) (by decide) (by decide) ?_
              show Steps p.tables e below (T186.setTop (mkF m 140 #[.val (.int p0), .val (.int p1), .val (.int p2), .val (.int p3), .val (.int p4), .val (.int p5), .val (.ref b2), .val (.int (5 : Int32)), .unset] [])) _
              refine XS.iconst X186.here hx rfl (hb hby at_140) ?_
              exact k)
            have qq222 : v220 = (0 : Int32) := by
              rw [hv220, if_pos hc188]
            have ks223 : own_R p e below (s₁.setTop (entryFrame m #[(.int p0), (.int p1), (.int p2), (.int p3), (.int p4), (.int p5)] maxLocals)) (T186.setTop (mkF m 141 #[.val (.int p0), .val (.int p1), .val (.int p2), .val (.int p3), .val (.int p4), .val (.int p5), .val (.ref b2), .val (.int (5 : Int32)), .unset] [(.int v220)])) := fun t k => ks189 t (by
              rw [qq222] at k
              exact k)
            exact ⟨T186, _, X186, N186, eq186, ks223⟩
          · skip
            have ks190 : own_R p e below (s₁.setTop (entryFrame m #[(.int p0), (.int p1), (.int p2), (.int p3), (.int p4), (.int p5)] maxLocals)) (T186.setTop (mkF m 98 #[.val (.int p0), .val (.int p1), .val (.int p2), .val (.int p3), .val (.int p4), .val (.int p5), .val (.ref b2), .val (.int (5 : Int32)), .unset] [(.int ((own_draw p2).toInt8.toInt32))])) := fun t k => ks187 t (by
              show Steps p.tables e below (T186.setTop (mkF m 85 #[.val (.int p0), .val (.int p1), .val (.int p2), .val (.int p3), .val (.int p4), .val (.int p5), .val (.ref b2), .val (.int (5 : Int32)), .unset] [(.int (own_ws ((own_draw p1).toInt8.toInt32)))])) _
              refine XS.ifNo X186.here hx rfl (hb hby at_85) rfl ((if0 _ _).trans (feq hc188).1) ?_
              show Steps p.tables e below (T186.setTop (mkF m 88 #[.val (.int p0), .val (.int p1), .val (.int p2), .val (.int p3), .val (.int p4), .val (.int p5), .val (.ref b2), .val (.int (5 : Int32)), .unset] [])) _
              refine XS.iload X186.here hx rfl (hb hby at_88) rfl ?_
              show Steps p.tables e below (T186.setTop (mkF m 90 #[.val (.int p0), .val (.int p1), .val (.int p2), .val (.int p3), .val (.int p4), .val (.int p5), .val (.ref b2), .val (.int (5 : Int32)), .unset] [(.int (5 : Int32))])) _
              refine XS.iconst X186.here hx rfl (hb hby at_90) ?_
              show Steps p.tables e below (T186.setTop (mkF m 91 #[.val (.int p0), .val (.int p1), .val (.int p2), .val (.int p3), .val (.int p4), .val (.int p5), .val (.ref b2), .val (.int (5 : Int32)), .unset] [(.int (3 : Int32)), (.int (5 : Int32))])) _
              refine XS.icmpNo X186.here hx rfl (hb hby at_91) rfl (flt (by decide)).1 ?_
              show Steps p.tables e below (T186.setTop (mkF m 94 #[.val (.int p0), .val (.int p1), .val (.int p2), .val (.int p3), .val (.int p4), .val (.int p5), .val (.ref b2), .val (.int (5 : Int32)), .unset] [])) _
              refine XS.aload X186.here hx rfl (hb hby at_94) rfl rfl ?_
              show Steps p.tables e below (T186.setTop (mkF m 96 #[.val (.int p0), .val (.int p1), .val (.int p2), .val (.int p3), .val (.int p4), .val (.int p5), .val (.ref b2), .val (.int (5 : Int32)), .unset] [(.ref b2)])) _
              refine XS.iconst X186.here hx rfl (hb hby at_96) ?_
              show Steps p.tables e below (T186.setTop (mkF m 97 #[.val (.int p0), .val (.int p1), .val (.int p2), .val (.int p3), .val (.int p4), .val (.int p5), .val (.ref b2), .val (.int (5 : Int32)), .unset] [(.int (2 : Int32)), (.ref b2)])) _
              refine X186.baloadBytes hx (j := (2 : Int32)) (v := (.int ((own_draw p2).toInt8.toInt32))) (by rw [eq186]; exact Ar179.1) (State.isArrayOf_alike hZ.alike Ar179.2.1) Ar179.2.2 (inb_of S179 ⟨by decide, by decide⟩) (Has.at Ha179 (inb_of S179 ⟨by decide, by decide⟩) rfl) (g := (mkF m 97 #[.val (.int p0), .val (.int p1), .val (.int p2), .val (.int p3), .val (.int p4), .val (.int p5), .val (.ref b2), .val (.int (5 : Int32)), .unset] [(.int (2 : Int32)), (.ref b2)])) rfl rfl (hb hby at_97) _ ?_
              exact k)
            obtain ⟨_, _, ⟨T191, L191, k191, n191⟩, -, X191, ⟨Lc191, hQ191, lq191, yq191, zq191⟩, st191⟩ := Jvm.LawKit.callS X186 hx (y := (⟨"com/example/rackline/rackline/protocols/ssc/MessageReaderIsBlankPinLaw", "ws", "(B)Z"⟩ : MethodName)) hown (mvT hZ (hw _ (List.mem_of_getElem? (i := 6) rfl))) (mvT hZ (hw _ (List.mem_of_getElem? (i := 7) rfl))) (mvT hZ (hw _ (List.mem_of_getElem? (i := 3) rfl))) (mvT hZ (hw _ (List.mem_of_getElem? (i := 8) rfl))) (by decide) (backOf (W := 0) (rm2 l Z a0 hw [] ((own_draw p2).toInt8.toInt32) h32 n0 Zn32 ) hZ (hw _ (List.mem_of_getElem? (i := 8) rfl)) (hw _ (List.mem_of_getElem? (i := 3) rfl)) (by decide) (by decide)) (g := (mkF m 98 #[.val (.int p0), .val (.int p1), .val (.int p2), .val (.int p3), .val (.int p4), .val (.int p5), .val (.ref b2), .val (.int (5 : Int32)), .unset] [(.int ((own_draw p2).toInt8.toInt32))])) rfl (by rw [hml]; rfl) (argsL := [(.int ((own_draw p2).toInt8.toInt32))]) (rest := []) (lenOf pd_1 rfl) rfl (by show 2 * 0 + _ ≤ _; exact Nat.le_of_eq rfl) (hb hby at_98) (fun _ _ => ⟨rfl, eq186, (by decide : 1 + 0 ≤ _), (by decide : 5 + 0 ≤ _)⟩)
            dsimp only [Pt.U, Pt.locs, Pt.cells, Pt.slots] at X191 lq191 yq191 zq191 st191 hQ191
            subst lq191 yq191 zq191
            obtain ⟨rfl, Nq191, eq191⟩ := hQ191
            have N191 := Fr.app N186 Nq191
            have ks192 : own_R p e below (s₁.setTop (entryFrame m #[(.int p0), (.int p1), (.int p2), (.int p3), (.int p4), (.int p5)] maxLocals)) (T191.setTop (mkF m 101 #[.val (.int p0), .val (.int p1), .val (.int p2), .val (.int p3), .val (.int p4), .val (.int p5), .val (.ref b2), .val (.int (5 : Int32)), .unset] [(.int (own_ws ((own_draw p2).toInt8.toInt32)))])) := fun t k => ks190 t (st191 t k)
            obtain ⟨v214, hv214⟩ : ∃ z : Int32, z = (if (own_ws ((own_draw p2).toInt8.toInt32)) = (0 : Int32) then (0 : Int32) else (if (own_ws ((own_draw p3).toInt8.toInt32)) = (0 : Int32) then (0 : Int32) else (if (own_ws ((own_draw p4).toInt8.toInt32)) = (0 : Int32) then (0 : Int32) else (1 : Int32)))) := ⟨_, rfl⟩
            obtain ⟨T215, L215, X215, N215, e215, k215⟩ : ∃ T' L', Stand p l e room_1 s m #[(.int p0), (.int p1), (.int p2), (.int p3), (.int p4), (.int p5)] below meth c T' L' 1 5 ∧ Fr n0 L' ∧ T'.heap = h32 ∧ own_R p e below (s₁.setTop (entryFrame m #[(.int p0), (.int p1), (.int p2), (.int p3), (.int p4), (.int p5)] maxLocals)) (T'.setTop (mkF m 141 #[.val (.int p0), .val (.int p1), .val (.int p2), .val (.int p3), .val (.int p4), .val (.int p5), .val (.ref b2), .val (.int (5 : Int32)), .unset] [(.int v214)])) := by
              by_cases hc193 : (own_ws ((own_draw p2).toInt8.toInt32)) = (0 : Int32)
              · skip
                have ks194 : own_R p e below (s₁.setTop (entryFrame m #[(.int p0), (.int p1), (.int p2), (.int p3), (.int p4), (.int p5)] maxLocals)) (T191.setTop (mkF m 141 #[.val (.int p0), .val (.int p1), .val (.int p2), .val (.int p3), .val (.int p4), .val (.int p5), .val (.ref b2), .val (.int (5 : Int32)), .unset] [(.int (0 : Int32))])) := fun t k => ks192 t (by
                  show Steps p.tables e below (T191.setTop (mkF m 101 #[.val (.int p0), .val (.int p1), .val (.int p2), .val (.int p3), .val (.int p4), .val (.int p5), .val (.ref b2), .val (.int (5 : Int32)), .unset] [(.int (own_ws ((own_draw p2).toInt8.toInt32)))])) _
                  refine XS.ifYes X191.here hx rfl (pc0 := 101) (pc' := 140) rfl (hb hby at_101) rfl ((if0 _ _).trans (teq hc193).1) (by decide) (by decide) ?_
                  show Steps p.tables e below (T191.setTop (mkF m 140 #[.val (.int p0), .val (.int p1), .val (.int p2), .val (.int p3), .val (.int p4), .val (.int p5), .val (.ref b2), .val (.int (5 : Int32)), .unset] [])) _
                  refine XS.iconst X191.here hx rfl (hb hby at_140) ?_
                  exact k)
                have qq216 : v214 = (0 : Int32) := by
                  rw [hv214, if_pos hc193]
                have ks217 : own_R p e below (s₁.setTop (entryFrame m #[(.int p0), (.int p1), (.int p2), (.int p3), (.int p4), (.int p5)] maxLocals)) (T191.setTop (mkF m 141 #[.val (.int p0), .val (.int p1), .val (.int p2), .val (.int p3), .val (.int p4), .val (.int p5), .val (.ref b2), .val (.int (5 : Int32)), .unset] [(.int v214)])) := fun t k => ks194 t (by
                  rw [qq216] at k
                  exact k)
                exact ⟨T191, _, X191, N191, eq191, ks217⟩
              · skip
                have ks195 : own_R p e below (s₁.setTop (entryFrame m #[(.int p0), (.int p1), (.int p2), (.int p3), (.int p4), (.int p5)] maxLocals)) (T191.setTop (mkF m 114 #[.val (.int p0), .val (.int p1), .val (.int p2), .val (.int p3), .val (.int p4), .val (.int p5), .val (.ref b2), .val (.int (5 : Int32)), .unset] [(.int ((own_draw p3).toInt8.toInt32))])) := fun t k => ks192 t (by
                  show Steps p.tables e below (T191.setTop (mkF m 101 #[.val (.int p0), .val (.int p1), .val (.int p2), .val (.int p3), .val (.int p4), .val (.int p5), .val (.ref b2), .val (.int (5 : Int32)), .unset] [(.int (own_ws ((own_draw p2).toInt8.toInt32)))])) _
                  refine XS.ifNo X191.here hx rfl (hb hby at_101) rfl ((if0 _ _).trans (feq hc193).1) ?_
                  show Steps p.tables e below (T191.setTop (mkF m 104 #[.val (.int p0), .val (.int p1), .val (.int p2), .val (.int p3), .val (.int p4), .val (.int p5), .val (.ref b2), .val (.int (5 : Int32)), .unset] [])) _
                  refine XS.iload X191.here hx rfl (hb hby at_104) rfl ?_
                  show Steps p.tables e below (T191.setTop (mkF m 106 #[.val (.int p0), .val (.int p1), .val (.int p2), .val (.int p3), .val (.int p4), .val (.int p5), .val (.ref b2), .val (.int (5 : Int32)), .unset] [(.int (5 : Int32))])) _
                  refine XS.iconst X191.here hx rfl (hb hby at_106) ?_
                  show Steps p.tables e below (T191.setTop (mkF m 107 #[.val (.int p0), .val (.int p1), .val (.int p2), .val (.int p3), .val (.int p4), .val (.int p5), .val (.ref b2), .val (.int (5 : Int32)), .unset] [(.int (4 : Int32)), (.int (5 : Int32))])) _
                  refine XS.icmpNo X191.here hx rfl (hb hby at_107) rfl (flt (by decide)).1 ?_
                  show Steps p.tables e below (T191.setTop (mkF m 110 #[.val (.int p0), .val (.int p1), .val (.int p2), .val (.int p3), .val (.int p4), .val (.int p5), .val (.ref b2), .val (.int (5 : Int32)), .unset] [])) _
                  refine XS.aload X191.here hx rfl (hb hby at_110) rfl rfl ?_
                  show Steps p.tables e below (T191.setTop (mkF m 112 #[.val (.int p0), .val (.int p1), .val (.int p2), .val (.int p3), .val (.int p4), .val (.int p5), .val (.ref b2), .val (.int (5 : Int32)), .unset] [(.ref b2)])) _
                  refine XS.iconst X191.here hx rfl (hb hby at_112) ?_
                  show Steps p.tables e below (T191.setTop (mkF m 113 #[.val (.int p0), .val (.int p1), .val (.int p2), .val (.int p3), .val (.int p4), .val (.int p5), .val (.ref b2), .val (.int (5 : Int32)), .unset] [(.int (3 : Int32)), (.ref b2)])) _
                  refine X191.baloadBytes hx (j := (3 : Int32)) (v := (.int ((own_draw p3).toInt8.toInt32))) (by rw [eq191]; exact Ar179.1) (State.isArrayOf_alike hZ.alike Ar179.2.1) Ar179.2.2 (inb_of S179 ⟨by decide, by decide⟩) (Has.at Ha179 (inb_of S179 ⟨by decide, by decide⟩) rfl) (g := (mkF m 113 #[.val (.int p0), .val (.int p1), .val (.int p2), .val (.int p3), .val (.int p4), .val (.int p5), .val (.ref b2), .val (.int (5 : Int32)), .unset] [(.int (3 : Int32)), (.ref b2)])) rfl rfl (hb hby at_113) _ ?_
                  exact k)
                obtain ⟨_, _, ⟨T196, L196, k196, n196⟩, -, X196, ⟨Lc196, hQ196, lq196, yq196, zq196⟩, st196⟩ := Jvm.LawKit.callS X191 hx (y := (⟨"com/example/rackline/rackline/protocols/ssc/MessageReaderIsBlankPinLaw", "ws", "(B)Z"⟩ : MethodName)) hown (mvT hZ (hw _ (List.mem_of_getElem? (i := 6) rfl))) (mvT hZ (hw _ (List.mem_of_getElem? (i := 7) rfl))) (mvT hZ (hw _ (List.mem_of_getElem? (i := 3) rfl))) (mvT hZ (hw _ (List.mem_of_getElem? (i := 8) rfl))) (by decide) (backOf (W := 0) (rm2 l Z a0 hw [] ((own_draw p3).toInt8.toInt32) h32 n0 Zn32 ) hZ (hw _ (List.mem_of_getElem? (i := 8) rfl)) (hw _ (List.mem_of_getElem? (i := 3) rfl)) (by decide) (by decide)) (g := (mkF m 114 #[.val (.int p0), .val (.int p1), .val (.int p2), .val (.int p3), .val (.int p4), .val (.int p5), .val (.ref b2), .val (.int (5 : Int32)), .unset] [(.int ((own_draw p3).toInt8.toInt32))])) rfl (by rw [hml]; rfl) (argsL := [(.int ((own_draw p3).toInt8.toInt32))]) (rest := []) (lenOf pd_1 rfl) rfl (by show 2 * 0 + _ ≤ _; exact Nat.le_of_eq rfl) (hb hby at_114) (fun _ _ => ⟨rfl, eq191, (by decide : 1 + 0 ≤ _), (by decide : 5 + 0 ≤ _)⟩)
                dsimp only [Pt.U, Pt.locs, Pt.cells, Pt.slots] at X196 lq196 yq196 zq196 st196 hQ196
                subst lq196 yq196 zq196
                obtain ⟨rfl, Nq196, eq196⟩ := hQ196
                have N196 := Fr.app N191 Nq196
                have ks197 : own_R p e below (s₁.setTop (entryFrame m #[(.int p0), (.int p1), (.int p2), (.int p3), (.int p4), (.int p5)] maxLocals)) (T196.setTop (mkF m 117 #[.val (.int p0), .val (.int p1), .val (.int p2), .val (.int p3), .val (.int p4), .val (.int p5), .val (.ref b2), .val (.int (5 : Int32)), .unset] [(.int (own_ws ((own_draw p3).toInt8.toInt32)))])) := fun t k => ks195 t (st196 t k)
                obtain ⟨v208, hv208⟩ : ∃ z : Int32, z = (if (own_ws ((own_draw p3).toInt8.toInt32)) = (0 : Int32) then (0 : Int32) else (if (own_ws ((own_draw p4).toInt8.toInt32)) = (0 : Int32) then (0 : Int32) else (1 : Int32))) := ⟨_, rfl⟩
                obtain ⟨T209, L209, X209, N209, e209, k209⟩ : ∃ T' L', Stand p l e room_1 s m #[(.int p0), (.int p1), (.int p2), (.int p3), (.int p4), (.int p5)] below meth c T' L' 1 5 ∧ Fr n0 L' ∧ T'.heap = h32 ∧ own_R p e below (s₁.setTop (entryFrame m #[(.int p0), (.int p1), (.int p2), (.int p3), (.int p4), (.int p5)] maxLocals)) (T'.setTop (mkF m 141 #[.val (.int p0), .val (.int p1), .val (.int p2), .val (.int p3), .val (.int p4), .val (.int p5), .val (.ref b2), .val (.int (5 : Int32)), .unset] [(.int v208)])) := by
                  by_cases hc198 : (own_ws ((own_draw p3).toInt8.toInt32)) = (0 : Int32)
                  · skip
                    have ks199 : own_R p e below (s₁.setTop (entryFrame m #[(.int p0), (.int p1), (.int p2), (.int p3), (.int p4), (.int p5)] maxLocals)) (T196.setTop (mkF m 141 #[.val (.int p0), .val (.int p1), .val (.int p2), .val (.int p3), .val (.int p4), .val (.int p5), .val (.ref b2), .val (.int (5 : Int32)), .unset] [(.int (0 : Int32))])) := fun t k => ks197 t (by
                      show Steps p.tables e below (T196.setTop (mkF m 117 #[.val (.int p0), .val (.int p1), .val (.int p2), .val (.int p3), .val (.int p4), .val (.int p5), .val (.ref b2), .val (.int (5 : Int32)), .unset] [(.int (own_ws ((own_draw p3).toInt8.toInt32)))])) _
                      refine XS.ifYes X196.here hx rfl (pc0 := 117) (pc' := 140) rfl (hb hby at_117) rfl ((if0 _ _).trans (teq hc198).1) (by decide) (by decide) ?_
                      show Steps p.tables e below (T196.setTop (mkF m 140 #[.val (.int p0), .val (.int p1), .val (.int p2), .val (.int p3), .val (.int p4), .val (.int p5), .val (.ref b2), .val (.int (5 : Int32)), .unset] [])) _
                      refine XS.iconst X196.here hx rfl (hb hby at_140) ?_
                      exact k)
                    have qq210 : v208 = (0 : Int32) := by
                      rw [hv208, if_pos hc198]
                    have ks211 : own_R p e below (s₁.setTop (entryFrame m #[(.int p0), (.int p1), (.int p2), (.int p3), (.int p4), (.int p5)] maxLocals)) (T196.setTop (mkF m 141 #[.val (.int p0), .val (.int p1), .val (.int p2), .val (.int p3), .val (.int p4), .val (.int p5), .val (.ref b2), .val (.int (5 : Int32)), .unset] [(.int v208)])) := fun t k => ks199 t (by
                      rw [qq210] at k
                      exact k)
                    exact ⟨T196, _, X196, N196, eq196, ks211⟩
                  · skip
                    have ks200 : own_R p e below (s₁.setTop (entryFrame m #[(.int p0), (.int p1), (.int p2), (.int p3), (.int p4), (.int p5)] maxLocals)) (T196.setTop (mkF m 130 #[.val (.int p0), .val (.int p1), .val (.int p2), .val (.int p3), .val (.int p4), .val (.int p5), .val (.ref b2), .val (.int (5 : Int32)), .unset] [(.int ((own_draw p4).toInt8.toInt32))])) := fun t k => ks197 t (by
                      show Steps p.tables e below (T196.setTop (mkF m 117 #[.val (.int p0), .val (.int p1), .val (.int p2), .val (.int p3), .val (.int p4), .val (.int p5), .val (.ref b2), .val (.int (5 : Int32)), .unset] [(.int (own_ws ((own_draw p3).toInt8.toInt32)))])) _
                      refine XS.ifNo X196.here hx rfl (hb hby at_117) rfl ((if0 _ _).trans (feq hc198).1) ?_
                      show Steps p.tables e below (T196.setTop (mkF m 120 #[.val (.int p0), .val (.int p1), .val (.int p2), .val (.int p3), .val (.int p4), .val (.int p5), .val (.ref b2), .val (.int (5 : Int32)), .unset] [])) _
                      refine XS.iload X196.here hx rfl (hb hby at_120) rfl ?_
                      show Steps p.tables e below (T196.setTop (mkF m 122 #[.val (.int p0), .val (.int p1), .val (.int p2), .val (.int p3), .val (.int p4), .val (.int p5), .val (.ref b2), .val (.int (5 : Int32)), .unset] [(.int (5 : Int32))])) _
                      refine XS.iconst X196.here hx rfl (hb hby at_122) ?_
                      show Steps p.tables e below (T196.setTop (mkF m 123 #[.val (.int p0), .val (.int p1), .val (.int p2), .val (.int p3), .val (.int p4), .val (.int p5), .val (.ref b2), .val (.int (5 : Int32)), .unset] [(.int (5 : Int32)), (.int (5 : Int32))])) _
                      refine XS.icmpNo X196.here hx rfl (hb hby at_123) rfl (flt (by decide)).1 ?_
                      show Steps p.tables e below (T196.setTop (mkF m 126 #[.val (.int p0), .val (.int p1), .val (.int p2), .val (.int p3), .val (.int p4), .val (.int p5), .val (.ref b2), .val (.int (5 : Int32)), .unset] [])) _
                      refine XS.aload X196.here hx rfl (hb hby at_126) rfl rfl ?_
                      show Steps p.tables e below (T196.setTop (mkF m 128 #[.val (.int p0), .val (.int p1), .val (.int p2), .val (.int p3), .val (.int p4), .val (.int p5), .val (.ref b2), .val (.int (5 : Int32)), .unset] [(.ref b2)])) _
                      refine XS.iconst X196.here hx rfl (hb hby at_128) ?_
                      show Steps p.tables e below (T196.setTop (mkF m 129 #[.val (.int p0), .val (.int p1), .val (.int p2), .val (.int p3), .val (.int p4), .val (.int p5), .val (.ref b2), .val (.int (5 : Int32)), .unset] [(.int (4 : Int32)), (.ref b2)])) _
                      refine X196.baloadBytes hx (j := (4 : Int32)) (v := (.int ((own_draw p4).toInt8.toInt32))) (by rw [eq196]; exact Ar179.1) (State.isArrayOf_alike hZ.alike Ar179.2.1) Ar179.2.2 (inb_of S179 ⟨by decide, by decide⟩) (Has.at Ha179 (inb_of S179 ⟨by decide, by decide⟩) rfl) (g := (mkF m 129 #[.val (.int p0), .val (.int p1), .val (.int p2), .val (.int p3), .val (.int p4), .val (.int p5), .val (.ref b2), .val (.int (5 : Int32)), .unset] [(.int (4 : Int32)), (.ref b2)])) rfl rfl (hb hby at_129) _ ?_
                      exact k)
                    obtain ⟨_, _, ⟨T201, L201, k201, n201⟩, -, X201, ⟨Lc201, hQ201, lq201, yq201, zq201⟩, st201⟩ := Jvm.LawKit.callS X196 hx (y := (⟨"com/example/rackline/rackline/protocols/ssc/MessageReaderIsBlankPinLaw", "ws", "(B)Z"⟩ : MethodName)) hown (mvT hZ (hw _ (List.mem_of_getElem? (i := 6) rfl))) (mvT hZ (hw _ (List.mem_of_getElem? (i := 7) rfl))) (mvT hZ (hw _ (List.mem_of_getElem? (i := 3) rfl))) (mvT hZ (hw _ (List.mem_of_getElem? (i := 8) rfl))) (by decide) (backOf (W := 0) (rm2 l Z a0 hw [] ((own_draw p4).toInt8.toInt32) h32 n0 Zn32 ) hZ (hw _ (List.mem_of_getElem? (i := 8) rfl)) (hw _ (List.mem_of_getElem? (i := 3) rfl)) (by decide) (by decide)) (g := (mkF m 130 #[.val (.int p0), .val (.int p1), .val (.int p2), .val (.int p3), .val (.int p4), .val (.int p5), .val (.ref b2), .val (.int (5 : Int32)), .unset] [(.int ((own_draw p4).toInt8.toInt32))])) rfl (by rw [hml]; rfl) (argsL := [(.int ((own_draw p4).toInt8.toInt32))]) (rest := []) (lenOf pd_1 rfl) rfl (by show 2 * 0 + _ ≤ _; exact Nat.le_of_eq rfl) (hb hby at_130) (fun _ _ => ⟨rfl, eq196, (by decide : 1 + 0 ≤ _), (by decide : 5 + 0 ≤ _)⟩)
                    dsimp only [Pt.U, Pt.locs, Pt.cells, Pt.slots] at X201 lq201 yq201 zq201 st201 hQ201
                    subst lq201 yq201 zq201
                    obtain ⟨rfl, Nq201, eq201⟩ := hQ201
                    have N201 := Fr.app N196 Nq201
                    have ks202 : own_R p e below (s₁.setTop (entryFrame m #[(.int p0), (.int p1), (.int p2), (.int p3), (.int p4), (.int p5)] maxLocals)) (T201.setTop (mkF m 133 #[.val (.int p0), .val (.int p1), .val (.int p2), .val (.int p3), .val (.int p4), .val (.int p5), .val (.ref b2), .val (.int (5 : Int32)), .unset] [(.int (own_ws ((own_draw p4).toInt8.toInt32)))])) := fun t k => ks200 t (st201 t k)
                    obtain ⟨v204, hv204⟩ : ∃ z : Int32, z = (if (own_ws ((own_draw p4).toInt8.toInt32)) = (0 : Int32) then (0 : Int32) else (1 : Int32)) := ⟨_, rfl⟩
                    have ks205 : own_R p e below (s₁.setTop (entryFrame m #[(.int p0), (.int p1), (.int p2), (.int p3), (.int p4), (.int p5)] maxLocals)) (T201.setTop (mkF m 141 #[.val (.int p0), .val (.int p1), .val (.int p2), .val (.int p3), .val (.int p4), .val (.int p5), .val (.ref b2), .val (.int (5 : Int32)), .unset] [(.int v204)])) := fun t k => ks202 t (by
                      by_cases hc203 : (own_ws ((own_draw p4).toInt8.toInt32)) = (0 : Int32)
                      · skip
                        have qq206 : v204 = (0 : Int32) := by rw [hv204, if_pos hc203]
                        rw [qq206] at k
                        show Steps p.tables e below (T201.setTop (mkF m 133 #[.val (.int p0), .val (.int p1), .val (.int p2), .val (.int p3), .val (.int p4), .val (.int p5), .val (.ref b2), .val (.int (5 : Int32)), .unset] [(.int (own_ws ((own_draw p4).toInt8.toInt32)))])) _
                        refine XS.ifYes X201.here hx rfl (pc0 := 133) (pc' := 140) rfl (hb hby at_133) rfl ((if0 _ _).trans (teq hc203).1) (by decide) (by decide) ?_
                        show Steps p.tables e below (T201.setTop (mkF m 140 #[.val (.int p0), .val (.int p1), .val (.int p2), .val (.int p3), .val (.int p4), .val (.int p5), .val (.ref b2), .val (.int (5 : Int32)), .unset] [])) _
                        refine XS.iconst X201.here hx rfl (hb hby at_140) ?_
                        exact k
                      · skip
                        have qq207 : v204 = (1 : Int32) := by rw [hv204, if_neg hc203]
                        rw [qq207] at k
                        show Steps p.tables e below (T201.setTop (mkF m 133 #[.val (.int p0), .val (.int p1), .val (.int p2), .val (.int p3), .val (.int p4), .val (.int p5), .val (.ref b2), .val (.int (5 : Int32)), .unset] [(.int (own_ws ((own_draw p4).toInt8.toInt32)))])) _
                        refine XS.ifNo X201.here hx rfl (hb hby at_133) rfl ((if0 _ _).trans (feq hc203).1) ?_
                        show Steps p.tables e below (T201.setTop (mkF m 136 #[.val (.int p0), .val (.int p1), .val (.int p2), .val (.int p3), .val (.int p4), .val (.int p5), .val (.ref b2), .val (.int (5 : Int32)), .unset] [])) _
                        refine XS.iconst X201.here hx rfl (hb hby at_136) ?_
                        show Steps p.tables e below (T201.setTop (mkF m 137 #[.val (.int p0), .val (.int p1), .val (.int p2), .val (.int p3), .val (.int p4), .val (.int p5), .val (.ref b2), .val (.int (5 : Int32)), .unset] [(.int (1 : Int32))])) _
                        refine XS.goto X201.here hx rfl (pc0 := 137) (pc' := 141) rfl (hb hby at_137) (by decide) (by decide) ?_
                        exact k)
                    have qq212 : v208 = v204 := by
                      subst hv204
                      rw [hv208, if_neg hc198]
                    have ks213 : own_R p e below (s₁.setTop (entryFrame m #[(.int p0), (.int p1), (.int p2), (.int p3), (.int p4), (.int p5)] maxLocals)) (T201.setTop (mkF m 141 #[.val (.int p0), .val (.int p1), .val (.int p2), .val (.int p3), .val (.int p4), .val (.int p5), .val (.ref b2), .val (.int (5 : Int32)), .unset] [(.int v208)])) := fun t k => ks205 t (by
                      rw [qq212] at k
                      exact k)
                    exact ⟨T201, _, X201, N201, eq201, ks213⟩
                have qq218 : v214 = v208 := by
                  subst hv208
                  rw [hv214, if_neg hc193]
                have ks219 : own_R p e below (s₁.setTop (entryFrame m #[(.int p0), (.int p1), (.int p2), (.int p3), (.int p4), (.int p5)] maxLocals)) (T209.setTop (mkF m 141 #[.val (.int p0), .val (.int p1), .val (.int p2), .val (.int p3), .val (.int p4), .val (.int p5), .val (.ref b2), .val (.int (5 : Int32)), .unset] [(.int v214)])) := fun t k => k209 t (by
                  rw [qq218] at k
                  exact k)
                exact ⟨T209, _, X209, N209, e209, ks219⟩
            have qq224 : v220 = v214 := by
              subst hv214
              rw [hv220, if_neg hc188]
            have ks225 : own_R p e below (s₁.setTop (entryFrame m #[(.int p0), (.int p1), (.int p2), (.int p3), (.int p4), (.int p5)] maxLocals)) (T215.setTop (mkF m 141 #[.val (.int p0), .val (.int p1), .val (.int p2), .val (.int p3), .val (.int p4), .val (.int p5), .val (.ref b2), .val (.int (5 : Int32)), .unset] [(.int v220)])) := fun t k => k215 t (by
              rw [qq224] at k
              exact k)
            exact ⟨T215, _, X215, N215, e215, ks225⟩
        have qq230 : v226 = v220 := by
          subst hv220
          rw [hv226, if_neg hc183]
        have ks231 : own_R p e below (s₁.setTop (entryFrame m #[(.int p0), (.int p1), (.int p2), (.int p3), (.int p4), (.int p5)] maxLocals)) (T221.setTop (mkF m 141 #[.val (.int p0), .val (.int p1), .val (.int p2), .val (.int p3), .val (.int p4), .val (.int p5), .val (.ref b2), .val (.int (5 : Int32)), .unset] [(.int v226)])) := fun t k => k221 t (by
          rw [qq230] at k
          exact k)
        exact ⟨T221, _, X221, N221, e221, ks231⟩
    have ks232 : own_R p e below (s₁.setTop (entryFrame m #[(.int p0), (.int p1), (.int p2), (.int p3), (.int p4), (.int p5)] maxLocals)) (T227.setTop (mkF m 147 #[.val (.int p0), .val (.int p1), .val (.int p2), .val (.int p3), .val (.int p4), .val (.int p5), .val (.ref b2), .val (.int (5 : Int32)), .val (.int v226)] [(.int (5 : Int32)), (.ref b2)])) := fun t k => k227 t (by
      show Steps p.tables e below (T227.setTop (mkF m 141 #[.val (.int p0), .val (.int p1), .val (.int p2), .val (.int p3), .val (.int p4), .val (.int p5), .val (.ref b2), .val (.int (5 : Int32)), .unset] [(.int v226)])) _
      refine XS.istore X227.here hx rfl (hb hby at_141) rfl (l' := #[.val (.int p0), .val (.int p1), .val (.int p2), .val (.int p3), .val (.int p4), .val (.int p5), .val (.ref b2), .val (.int (5 : Int32)), .val (.int v226)]) rfl ?_
      show Steps p.tables e below (T227.setTop (mkF m 143 #[.val (.int p0), .val (.int p1), .val (.int p2), .val (.int p3), .val (.int p4), .val (.int p5), .val (.ref b2), .val (.int (5 : Int32)), .val (.int v226)] [])) _
      refine XS.aload X227.here hx rfl (hb hby at_143) rfl rfl ?_
      show Steps p.tables e below (T227.setTop (mkF m 145 #[.val (.int p0), .val (.int p1), .val (.int p2), .val (.int p3), .val (.int p4), .val (.int p5), .val (.ref b2), .val (.int (5 : Int32)), .val (.int v226)] [(.ref b2)])) _
      refine XS.iload X227.here hx rfl (hb hby at_145) rfl ?_
      exact k)
    obtain ⟨_, _, ⟨T233, L233, k233, n233⟩, -, X233, ⟨Lc233, hQ233, lq233, yq233, zq233⟩, st233⟩ := Jvm.LawKit.callS X227 hx (y := (⟨"com/example/rackline/rackline/protocols/ssc/MessageReader", "isBlank", "([BI)Z"⟩ : MethodName)) hown (mvT hZ (hw _ (List.mem_of_getElem? (i := 9) rfl))) (mvT hZ (hw _ (List.mem_of_getElem? (i := 10) rfl))) (mvT hZ (hw _ (List.mem_of_getElem? (i := 11) rfl))) (mvT hZ (hw _ (List.mem_of_getElem? (i := 12) rfl))) (by decide) (backOf (W := 0) (rm3 l Z a0 hw [] b2 (5 : Int32) _ ((own_draw p0).toInt8.toInt32) ((own_draw p1).toInt8.toInt32) ((own_draw p2).toInt8.toInt32) ((own_draw p3).toInt8.toInt32) ((own_draw p4).toInt8.toInt32) h32 n0 Zn32 (by decide) V32) hZ (hw _ (List.mem_of_getElem? (i := 12) rfl)) (hw _ (List.mem_of_getElem? (i := 11) rfl)) (by decide) (by decide)) (g := (mkF m 147 #[.val (.int p0), .val (.int p1), .val (.int p2), .val (.int p3), .val (.int p4), .val (.int p5), .val (.ref b2), .val (.int (5 : Int32)), .val (.int v226)] [(.int (5 : Int32)), (.ref b2)])) rfl (by rw [hml]; rfl) (argsL := [(.ref b2), (.int (5 : Int32))]) (rest := []) (lenOf pd_2 rfl) rfl (by show 2 * 0 + _ ≤ _; exact Nat.le_of_eq rfl) (hb hby at_147) (fun _ _ => ⟨rfl, e227, (by decide : 1 + 0 ≤ _), (by decide : 5 + 0 ≤ _)⟩)
    dsimp only [Pt.U, Pt.locs, Pt.cells, Pt.slots] at X233 lq233 yq233 zq233 st233 hQ233
    subst lq233 yq233 zq233
    obtain ⟨rfl, Nq233, eq233⟩ := hQ233
    have N233 := Fr.app N227 Nq233
    have ks234 : own_R p e below (s₁.setTop (entryFrame m #[(.int p0), (.int p1), (.int p2), (.int p3), (.int p4), (.int p5)] maxLocals)) (T233.setTop (mkF m 150 #[.val (.int p0), .val (.int p1), .val (.int p2), .val (.int p3), .val (.int p4), .val (.int p5), .val (.ref b2), .val (.int (5 : Int32)), .val (.int v226)] [(.int (own_blank ((own_draw p0).toInt8.toInt32) ((own_draw p1).toInt8.toInt32) ((own_draw p2).toInt8.toInt32) ((own_draw p3).toInt8.toInt32) ((own_draw p4).toInt8.toInt32) (5 : Int32)))])) := fun t k => ks232 t (st233 t k)
    have ks235 : own_R p e below (s₁.setTop (entryFrame m #[(.int p0), (.int p1), (.int p2), (.int p3), (.int p4), (.int p5)] maxLocals)) (T233.setTop (mkF m 152 #[.val (.int p0), .val (.int p1), .val (.int p2), .val (.int p3), .val (.int p4), .val (.int p5), .val (.ref b2), .val (.int (5 : Int32)), .val (.int v226)] [(.int v226), (.int (own_blank ((own_draw p0).toInt8.toInt32) ((own_draw p1).toInt8.toInt32) ((own_draw p2).toInt8.toInt32) ((own_draw p3).toInt8.toInt32) ((own_draw p4).toInt8.toInt32) (5 : Int32)))])) := fun t k => ks234 t (by
      show Steps p.tables e below (T233.setTop (mkF m 150 #[.val (.int p0), .val (.int p1), .val (.int p2), .val (.int p3), .val (.int p4), .val (.int p5), .val (.ref b2), .val (.int (5 : Int32)), .val (.int v226)] [(.int (own_blank ((own_draw p0).toInt8.toInt32) ((own_draw p1).toInt8.toInt32) ((own_draw p2).toInt8.toInt32) ((own_draw p3).toInt8.toInt32) ((own_draw p4).toInt8.toInt32) (5 : Int32)))])) _
      refine XS.iload X233.here hx rfl (hb hby at_150) rfl ?_
      exact k)
    by_cases hc236 : (own_blank ((own_draw p0).toInt8.toInt32) ((own_draw p1).toInt8.toInt32) ((own_draw p2).toInt8.toInt32) ((own_draw p3).toInt8.toInt32) ((own_draw p4).toInt8.toInt32) (5 : Int32)) = v226
    · skip
      have ks237 : own_R p e below (s₁.setTop (entryFrame m #[(.int p0), (.int p1), (.int p2), (.int p3), (.int p4), (.int p5)] maxLocals)) (T233.setTop (mkF m 160 #[.val (.int p0), .val (.int p1), .val (.int p2), .val (.int p3), .val (.int p4), .val (.int p5), .val (.ref b2), .val (.int (5 : Int32)), .val (.int v226)] [(.int (1 : Int32))])) := fun t k => ks235 t (by
        show Steps p.tables e below (T233.setTop (mkF m 152 #[.val (.int p0), .val (.int p1), .val (.int p2), .val (.int p3), .val (.int p4), .val (.int p5), .val (.ref b2), .val (.int (5 : Int32)), .val (.int v226)] [(.int v226), (.int (own_blank ((own_draw p0).toInt8.toInt32) ((own_draw p1).toInt8.toInt32) ((own_draw p2).toInt8.toInt32) ((own_draw p3).toInt8.toInt32) ((own_draw p4).toInt8.toInt32) (5 : Int32)))])) _
        refine XS.icmpNo X233.here hx rfl (hb hby at_152) rfl (teq hc236).2 ?_
        show Steps p.tables e below (T233.setTop (mkF m 155 #[.val (.int p0), .val (.int p1), .val (.int p2), .val (.int p3), .val (.int p4), .val (.int p5), .val (.ref b2), .val (.int (5 : Int32)), .val (.int v226)] [])) _
        refine XS.iconst X233.here hx rfl (hb hby at_155) ?_
        show Steps p.tables e below (T233.setTop (mkF m 156 #[.val (.int p0), .val (.int p1), .val (.int p2), .val (.int p3), .val (.int p4), .val (.int p5), .val (.ref b2), .val (.int (5 : Int32)), .val (.int v226)] [(.int (1 : Int32))])) _
        refine XS.goto X233.here hx rfl (pc0 := 156) (pc' := 160) rfl (hb hby at_156) (by decide) (by decide) ?_
        exact k)
      obtain ⟨fs, hr, hrun, hended, hW, hsame⟩ := X233.leave (v := some (.int (1 : Int32))) (fun h => by rw [Bd.returns] at h; cases h)
      refine ⟨_, _, ks237 _ ?_, hrun, hended, _, _, rfl, ?_, ⟨_, rfl⟩, hW, hsame.mono (by decide) (by decide)⟩
      · exact retN X233 hx (t := .boolean) Bd.returns (by simp) (hb hby at_160) hr
      · show Q0 Z p0 p1 p2 p3 p4 p5 h0 n0 _ T233.heap _
        rw [eq233]
        exact ⟨rfl, N233⟩
    · skip
      have ks238 : own_R p e below (s₁.setTop (entryFrame m #[(.int p0), (.int p1), (.int p2), (.int p3), (.int p4), (.int p5)] maxLocals)) (T233.setTop (mkF m 160 #[.val (.int p0), .val (.int p1), .val (.int p2), .val (.int p3), .val (.int p4), .val (.int p5), .val (.ref b2), .val (.int (5 : Int32)), .val (.int v226)] [(.int (0 : Int32))])) := fun t k => ks235 t (by
        show Steps p.tables e below (T233.setTop (mkF m 152 #[.val (.int p0), .val (.int p1), .val (.int p2), .val (.int p3), .val (.int p4), .val (.int p5), .val (.ref b2), .val (.int (5 : Int32)), .val (.int v226)] [(.int v226), (.int (own_blank ((own_draw p0).toInt8.toInt32) ((own_draw p1).toInt8.toInt32) ((own_draw p2).toInt8.toInt32) ((own_draw p3).toInt8.toInt32) ((own_draw p4).toInt8.toInt32) (5 : Int32)))])) _
        refine XS.icmpYes X233.here hx rfl (pc0 := 152) (pc' := 159) rfl (hb hby at_152) rfl (feq hc236).2 (by decide) (by decide) ?_
        show Steps p.tables e below (T233.setTop (mkF m 159 #[.val (.int p0), .val (.int p1), .val (.int p2), .val (.int p3), .val (.int p4), .val (.int p5), .val (.ref b2), .val (.int (5 : Int32)), .val (.int v226)] [])) _
        refine XS.iconst X233.here hx rfl (hb hby at_159) ?_
        exact k)
      obtain ⟨fs, hr, hrun, hended, hW, hsame⟩ := X233.leave (v := some (.int (0 : Int32))) (fun h => by rw [Bd.returns] at h; cases h)
      refine ⟨_, _, ks238 _ ?_, hrun, hended, _, _, rfl, ?_, ⟨_, rfl⟩, hW, hsame.mono (by decide) (by decide)⟩
      · exact retN X233 hx (t := .boolean) Bd.returns (by simp) (hb hby at_160) hr
      · show Q0 Z p0 p1 p2 p3 p4 p5 h0 n0 _ T233.heap _
        rw [eq233]
        exfalso
        apply hc236
        subst hv226
        unfold own_blank
        simp only [own_wi]
        simp
set_option maxRecDepth 65536 in
set_option maxHeartbeats 40000000 in
theorem comes_1 {Post : Tables → Env → Array Value → State → Outcome → State → Prop} (hpost : ∀ tb e args s v u, (limb_1_1.after args s (.returned v) u = true ∧ limb_1_2.after args s (.returned v) u = true ∧ True) → FrameEnd s (.returned v) u (Jvm.fieldLocs frame_1_writes args s ++ Jvm.arrayLocs frame_1_arrays args s ++ Jvm.staticLocs frame_1_statics s) 16 128 → Post tb e args s (.returned v) u) :
    ArmFor flags0 classFile x code maxLocals ret World_1 tables_1 room_1 Calls_1 rest_1 Pre_1 Post := by
  intro l hfl _ _ p e ha hc hk s m args below hf hA hF happ hP
  obtain ⟨hcalls, hrest, hpre⟩ := hP
  obtain ⟨-, -, -, hnamed, -, -, -, hat⟩ := (Spec.applies_iff hf).mp happ
  obtain ⟨hg, hn⟩ := and_e (Cond.before_iff.mp (show (Jvm.Cond.and given_1 narrow_1).before args s = true from hpre))
  obtain ⟨g1, g2⟩ := and_e hg
  obtain ⟨g3, g4⟩ := and_e g2
  obtain ⟨g5, g6⟩ := and_e g4
  obtain ⟨g7, g8⟩ := and_e g6
  obtain ⟨g9, g10⟩ := and_e g8
  obtain ⟨g11, g12⟩ := and_e g10
  obtain ⟨w0, w1, w2, w3, w4, w5, rfl⟩ : ∃ w0 w1 w2 w3 w4 w5 : Value, args = #[w0, w1, w2, w3, w4, w5] := by
    have hs : args.size = 6 := by simpa [Cond.value, given_1] using g1
    obtain ⟨L⟩ := args
    match L, hs with
    | [w0, w1, w2, w3, w4, w5], _ => exact ⟨w0, w1, w2, w3, w4, w5, rfl⟩
  have hw := fun d (hd : d ∈ tables_1) => atoms_spec (ws := Jvm.Cond.code x code maxLocals ret :: tables_1) hat d (List.mem_cons_of_mem _ hd)
  have hfit : Fit s := fun {y c} hc i hi => by
    obtain ⟨ha, rfl⟩ := Array.getElem?_eq_some_iff.mp hc
    have q := List.all_eq_true.mp ((Array.all_eq_true_iff_forall_mem.mp hF) _ (Array.getElem_mem ha)) i (List.mem_range.mpr hi)
    simpa [Array.getElem?_eq_getElem hi] using q
  obtain ⟨i0, ei0⟩ := is_v g3
  obtain rfl : w0 = (.int i0) := Option.some.inj ei0
  obtain ⟨i1, ei1⟩ := is_v g5
  obtain rfl : w1 = (.int i1) := Option.some.inj ei1
  obtain ⟨i2, ei2⟩ := is_v g7
  obtain rfl : w2 = (.int i2) := Option.some.inj ei2
  obtain ⟨i3, ei3⟩ := is_v g9
  obtain rfl : w3 = (.int i3) := Option.some.inj ei3
  obtain ⟨i4, ei4⟩ := is_v g11
  obtain rfl : w4 = (.int i4) := Option.some.inj ei4
  obtain ⟨i5, ei5⟩ := is_v g12
  obtain rfl : w5 = (.int i5) := Option.some.inj ei5
  obtain ⟨n, o, h1, h2, h3, _, L, rfl, ⟨rfl, N⟩, hq⟩ := rm0 l s _ hw tables_1 i0 i1 i2 i3 i4 i5 s.heap s.heap.size (Nat.le_refl _)  p e ha hc hk s m _ below hf ((Spec.applies_iff_loose hf).mp happ).1 ⟨rfl, State.Warmed39.refl s, rfl⟩ trivial
  refine ⟨n, _, h1, h2, h3, hpost _ _ _ _ _ _ ⟨Cond.after_iff.mpr rfl, Cond.after_iff.mpr (eq_i res_at (Term.int_eval (1)) rfl), trivial⟩ ⟨hq.1, hq.2.1, (hq.2.2.sift fun y hy => Or.inr (N y hy)).mono (by decide) (by decide)⟩⟩
theorem main_1_1 : Claimed_1_1 := comes_1 fun _ _ _ _ _ _ h hF => ⟨h.1, hF⟩
theorem main_1_2 : Claimed_1_2 := comes_1 fun _ _ _ _ _ _ h hF => ⟨h.2.1, hF⟩
end Jvm.Pilot.@@N@@
namespace Jvm.Pilot.@@N@@
open Jvm Jvm.ClassFile Sem Op Lib Jvm.Free Jvm.Stand Jvm.Pilot.@@N@@.Jvm.D
/-! MADE BY PROGRAM (witnessworld.py) out of the Statement's table words and the real class files: 9 classes; the members and pool entries that the words name. The judged class is class 1, her method 3. -/
namespace start1
open Jvm.ClassFile
def u (s : String) : CpInfo := .utf8 (stringToUtf16 s)
/-- a pool by its gaps: so many unusable entries, then the entry; so many at the end -/
def gap : Nat → List CpInfo → List CpInfo
  | 0, r => r
  | n + 1, r => .unusable :: gap n r
def poolList (es : List (Nat × CpInfo)) (last : Nat) : List CpInfo := es.foldr (fun e r => gap e.1 (e.2 :: r)) (gap last [])
def pool (es : List (Nat × CpInfo)) (last : Nat) : Array CpInfo := ⟨poolList es last⟩
def fileOf (pool : Array CpInfo) (this : Nat) (attrs : Array Attribute := #[]) (ms : Array MethodInfo := #[]) (fl : Nat := 33) (sup : Nat := 0) (ifs : Array Nat := #[]) (fds : Array FieldInfo := #[]) : ClassFile where
  minorVersion := 0
  majorVersion := 65
  constantPool := pool
  accessFlags := fl
  thisClass := this
  superClass := sup
  interfaces := ifs
  fields := fds
  methods := ms
  attributes := attrs
def plain (name : String) (sup : Option ClassId) : Class where
  name := name
  kind := .ordinary
  loader := none
  accessFlags := 33
  super := sup
  interfaces := #[]
  cf := none
  fields := #[]
  methods := #[]
  instanceTypes := #[]
  staticTypes := #[]
  resolved := #[]
  callSites := []
  init := .initialized
  statics := none
  mirror := none

def pool0 : Array CpInfo := pool [(5, u "<init>"), (0, u "()V"), (1, .class_ 10), (1, u "java/lang/Object")] 113

def k0m0 : Method := { name := "<init>", desc := "()V", sig := { parameters := [], returnType := none }, accessFlags := 1, code := none }
/-- java/lang/Object -/
def k0 : Class := { plain "java/lang/Object" none with
  accessFlags := 33
  interfaces := #[]
  cf := some (fileOf pool0 8 #[] #[{ accessFlags := 1, nameIndex := 5, descriptorIndex := 6, attributes := #[] }] 33 0 #[] #[])
  fields := #[]
  methods := #[k0m0]
  instanceTypes := #[]
  staticTypes := #[]
  resolved := Array.replicate 124 none
  statics := none }

def pool1 : Array CpInfo := pool [(2, .class_ 4), (1, u "java/lang/Object"), (0, u "<init>"), (0, u "()V"), (0, .methodref 8 9), (0, .class_ 10), (0, .nameAndType 11 12), (0, u "com/example/rackline/rackline/protocols/ssc/MessageReaderIsBlankPinLaw"), (0, u "draw"), (0, u "(I)B"), (0, .integer 2147483647), (0, .methodref 8 15), (0, .nameAndType 16 17), (0, u "ws"), (0, u "(B)Z"), (0, .methodref 19 20), (0, .class_ 21), (0, .nameAndType 22 23), (0, u "com/example/rackline/rackline/protocols/ssc/MessageReader"), (0, u "isBlank"), (0, u "([BI)Z"), (3, u "law"), (0, u "(IIIIII)Z")] 4

def k1m0 : Method := { name := "<init>", desc := "()V", sig := { parameters := [], returnType := none }, accessFlags := 1, code := none }
def k1c1 : Code := { maxStack := 2, maxLocals := 2, code := method_2_code, exceptionTable := #[], attributes := #[] }
def k1m1 : Method := { name := "draw", desc := "(I)B", sig := { parameters := [.int], returnType := some .byte }, accessFlags := 10, code := some k1c1 }
def k1c2 : Code := { maxStack := 2, maxLocals := 1, code := method_3_code, exceptionTable := #[], attributes := #[] }
def k1m2 : Method := { name := "ws", desc := "(B)Z", sig := { parameters := [.byte], returnType := some .boolean }, accessFlags := 10, code := some k1c2 }
def k1c3 : Code := { maxStack := 3, maxLocals := 9, code := code, exceptionTable := #[], attributes := #[] }
def k1m3 : Method := { name := "law", desc := "(IIIIII)Z", sig := { parameters := [.int, .int, .int, .int, .int, .int], returnType := some .boolean }, accessFlags := 9, code := some k1c3 }
/-- com/example/rackline/rackline/protocols/ssc/MessageReaderIsBlankPinLaw -/
def k1 : Class := { plain "com/example/rackline/rackline/protocols/ssc/MessageReaderIsBlankPinLaw" (some 0) with
  accessFlags := 49
  interfaces := #[]
  cf := some (fileOf pool1 8 #[] #[{ accessFlags := 1, nameIndex := 5, descriptorIndex := 6, attributes := #[] }, { accessFlags := 10, nameIndex := 11, descriptorIndex := 12, attributes := #[] }, { accessFlags := 10, nameIndex := 16, descriptorIndex := 17, attributes := #[] }, { accessFlags := 9, nameIndex := 27, descriptorIndex := 28, attributes := #[] }] 49 2 #[] #[])
  fields := #[]
  methods := #[k1m0, k1m1, k1m2, k1m3]
  instanceTypes := #[]
  staticTypes := #[]
  resolved := Array.replicate 33 none
  statics := none }

def pool2 : Array CpInfo := pool [(2, .class_ 4), (1, u "java/lang/Object"), (3, .class_ 10), (1, u "com/example/rackline/rackline/protocols/ssc/MessageReader"), (0, u "buffer"), (0, u "[B"), (2, u "in"), (0, u "Ljava/io/InputStream;"), (2, u "maxLength"), (0, u "I"), (5, u "start"), (2, u "end"), (23, .class_ 54), (0, u "com/example/rackline/rackline/protocols/ssc/MessageReader$MessageTooLongException"), (4, u "isBlank"), (0, u "([BI)Z"), (12, u "CR"), (2, u "LF")] 15

def k2c0 : Code := { maxStack := 2, maxLocals := 3, code := prog_24_method_4_code, exceptionTable := #[], attributes := #[] }
def k2m0 : Method := { name := "isBlank", desc := "([BI)Z", sig := { parameters := [(.array .byte), .int], returnType := some .boolean }, accessFlags := 8, code := some k2c0 }
/-- com/example/rackline/rackline/protocols/ssc/MessageReader -/
def k2 : Class := { plain "com/example/rackline/rackline/protocols/ssc/MessageReader" (some 0) with
  accessFlags := 49
  interfaces := #[]
  cf := some (fileOf pool2 8 #[.nestMembers #[53]] #[{ accessFlags := 8, nameIndex := 59, descriptorIndex := 60, attributes := #[] }] 49 2 #[] #[{ accessFlags := 26, nameIndex := 73, descriptorIndex := 20, attributes := #[] }, { accessFlags := 26, nameIndex := 76, descriptorIndex := 20, attributes := #[] }, { accessFlags := 18, nameIndex := 15, descriptorIndex := 16, attributes := #[] }, { accessFlags := 18, nameIndex := 19, descriptorIndex := 20, attributes := #[] }, { accessFlags := 18, nameIndex := 11, descriptorIndex := 12, attributes := #[] }, { accessFlags := 2, nameIndex := 26, descriptorIndex := 20, attributes := #[] }, { accessFlags := 2, nameIndex := 29, descriptorIndex := 20, attributes := #[] }])
  fields := #[{ name := "CR", type := .int, accessFlags := 26, slot := 0, constantValue := 0 }, { name := "LF", type := .int, accessFlags := 26, slot := 1, constantValue := 0 }, { name := "in", type := (.object "java/io/InputStream"), accessFlags := 18, slot := 0, constantValue := 0 }, { name := "maxLength", type := .int, accessFlags := 18, slot := 1, constantValue := 0 }, { name := "buffer", type := (.array .byte), accessFlags := 18, slot := 2, constantValue := 0 }, { name := "start", type := .int, accessFlags := 2, slot := 3, constantValue := 0 }, { name := "end", type := .int, accessFlags := 2, slot := 4, constantValue := 0 }]
  methods := #[k2m0]
  instanceTypes := #[(.object "java/io/InputStream"), .int, (.array .byte), .int, .int]
  staticTypes := #[.int, .int]
  resolved := Array.replicate 92 none
  statics := none }

def pool3 : Array CpInfo := pool [(1, u "java/lang/Cloneable"), (0, .class_ 1), (0, u "java/lang/Object"), (0, .class_ 3)] 3

/-- java/lang/Cloneable -/
def k3 : Class := { plain "java/lang/Cloneable" (some 0) with
  accessFlags := 1537
  interfaces := #[]
  cf := some (fileOf pool3 2 #[] #[] 1537 4 #[] #[])
  fields := #[]
  methods := #[]
  instanceTypes := #[]
  staticTypes := #[]
  resolved := Array.replicate 8 none
  statics := none }

def pool4 : Array CpInfo := pool [(1, u "java/io/Serializable"), (0, .class_ 1), (0, u "java/lang/Object"), (0, .class_ 3)] 3

/-- java/io/Serializable -/
def k4 : Class := { plain "java/io/Serializable" (some 0) with
  accessFlags := 1537
  interfaces := #[]
  cf := some (fileOf pool4 2 #[] #[] 1537 4 #[] #[])
  fields := #[]
  methods := #[]
  instanceTypes := #[]
  staticTypes := #[]
  resolved := Array.replicate 8 none
  statics := none }

/-- the primitive byte -/
def k5 : Class := { plain "byte" none with kind := .primitive 'B', accessFlags := 0x411 }
/-- [B -/
def k6 : Class := { plain "[B" (some 0) with kind := .array 5 .byte, interfaces := #[3, 4], accessFlags := 1041 }

/-- the primitive int -/
def k7 : Class := { plain "int" none with kind := .primitive 'I', accessFlags := 0x411 }
/-- [I -/
def k8 : Class := { plain "[I" (some 0) with kind := .array 7 .int, interfaces := #[3, 4], accessFlags := 1041 }

def heap : Heap := #[]
def classes : Array Class := #[k0, k1, k2, k3, k4, k5, k6, k7, k8]
def interned : List (Array UInt16 × Addr) := []
def slotsUsed : Nat := 0
def theMethod : MethodId := ⟨1, 3⟩
def args0 : Array Value := #[.int 5, .int 5, .int 5, .int 5, .int 5, .int 5]
def aboutOver (below : List Frame) : State where
  vm := { classes := classes, interned := interned.toArray }
  heap := heap
  slotsUsed := slotsUsed
  threads := #[{ frames := .invoking theMethod args0 :: below }]
def below0 : List Frame := [.native { method := ⟨0, 0⟩, args := #[] }]
def about1 : State := aboutOver below0
def p0 : Program := .bare "" "" ""
def e0 : Env := launch0.env 0 0 0
theorem w_frames : about1.frames = Frame.invoking theMethod args0 :: below0 := rfl
set_option maxRecDepth 65536 in
theorem w_args : argsFit about1.vm theMethod args0 = true := by decide +kernel
set_option maxRecDepth 65536 in
theorem w_heap : heapFits about1 = true := by decide +kernel
set_option maxRecDepth 65536 in
theorem w_runnable : about1.curStatus? = some .runnable := by decide +kernel
set_option maxRecDepth 65536 in
theorem w_alone : about1.alone = true := by decide +kernel
set_option maxRecDepth 65536 in
theorem w_named : about1.methodNamed? x = some theMethod := by decide +kernel
set_option maxRecDepth 65536 in
theorem w_hears : about1.hears theMethod below0 = true := by decide +kernel
set_option maxRecDepth 65536 in
theorem w_ripe : about1.ripe theMethod args0 below0 = true := by decide +kernel
theorem w_running : about1.status = .running := rfl
set_option maxRecDepth 65536 in
theorem w_room : about1.hasRoom e0.platform room_1 = true :=
  launch0.hasRoom_least _ room_1 (by decide +kernel) (by decide +kernel) (by decide +kernel) (by decide +kernel) (by decide +kernel) (by decide +kernel)
theorem allAtoms_all (ts : List Jvm.Cond) (a : Array Jvm.Value) (st : Jvm.State) : (allAtoms ts).before a st = ts.all (fun c => c.before a st) := by
  induction ts with
  | nil => rfl
  | cons c t ih =>
    show (Jvm.Cond.and c (allAtoms t)).before a st = _
    rw [Jvm.Cond.before_and, ih, List.all_cons]
def words1 : List Jvm.Cond := Jvm.Cond.code x code maxLocals ret :: tables_1
/-- a 'code' word, met by the world's own term for the bytes: nothing is compared byte by byte -/
theorem code_word {y : MethodName} {bytes : ByteArray} {mx : Nat} {rt : Option FieldType} {a : Array Value} {s : State} {m : MethodId} {meth : Method} {c : Code} (h1 : s.methodNamed? y = some m) (h2 : s.vm.method? m = some meth) (h3 : meth.code = some c) (h4 : c.code = bytes)
    (h5 : (c.maxLocals == mx && c.exceptionTable.isEmpty && decide (c.maxStack ≤ mostOperands) && decide (meth.sig.returnType = rt) && !meth.locks && decide (parseMethodDescriptor y.desc = some meth.sig)) = true) : (Jvm.Cond.code y bytes mx rt).before a s = true := by
  simp only [Bool.and_eq_true, beq_iff_eq, Bool.not_eq_true', decide_eq_true_eq] at h5
  obtain ⟨⟨⟨⟨⟨g1, g2⟩, g3⟩, g4⟩, g5⟩, g6⟩ := h5
  simp [Cond.before, Cond.holds, Cond.value, h1, h2, h3, h4, g1, g2, g3, g4, g5, g6]
def isCode : Jvm.Cond → Bool
  | .code _ _ _ _ => true
  | _ => false
theorem all_split {L : List Jvm.Cond} {P : Jvm.Cond → Bool} (h1 : L.all (fun c => isCode c || P c) = true) (h2 : ∀ c ∈ L.filter isCode, P c = true) : L.all P = true := by
  refine List.all_eq_true.mpr fun c hc => ?_
  have h := List.all_eq_true.mp h1 c hc
  rcases Bool.eq_false_or_eq_true (isCode c) with hi | hi
  · exact h2 c (List.mem_filter.mpr ⟨hc, hi⟩)
  · simpa [hi] using h
set_option maxRecDepth 65536 in
theorem w_c0 : (Jvm.Cond.code x code maxLocals ret).before args0 about1 = true := code_word (m := ⟨1, 3⟩) (meth := k1m3) (c := k1c3) (by decide +kernel) rfl rfl rfl (by decide +kernel)
set_option maxRecDepth 65536 in
theorem w_c1 : (Jvm.Cond.code ({ cls := "com/example/rackline/rackline/protocols/ssc/MessageReaderIsBlankPinLaw", name := "draw", desc := "(I)B" } : Jvm.MethodName) method_2_code (2 : Nat) (Option.some Jvm.ClassFile.FieldType.byte)).before args0 about1 = true := code_word (m := ⟨1, 1⟩) (meth := k1m1) (c := k1c1) (by decide +kernel) rfl rfl rfl (by decide +kernel)
set_option maxRecDepth 65536 in
theorem w_c2 : (Jvm.Cond.code ({ cls := "com/example/rackline/rackline/protocols/ssc/MessageReaderIsBlankPinLaw", name := "ws", desc := "(B)Z" } : Jvm.MethodName) method_3_code (1 : Nat) (Option.some Jvm.ClassFile.FieldType.boolean)).before args0 about1 = true := code_word (m := ⟨1, 2⟩) (meth := k1m2) (c := k1c2) (by decide +kernel) rfl rfl rfl (by decide +kernel)
set_option maxRecDepth 65536 in
theorem w_c3 : (Jvm.Cond.code ({ cls := "com/example/rackline/rackline/protocols/ssc/MessageReader", name := "isBlank", desc := "([BI)Z" } : Jvm.MethodName) prog_24_method_4_code (3 : Nat) (Option.some Jvm.ClassFile.FieldType.boolean)).before args0 about1 = true := code_word (m := ⟨2, 0⟩) (meth := k2m0) (c := k2c0) (by decide +kernel) rfl rfl rfl (by decide +kernel)
def codes1 : List Jvm.Cond := [Jvm.Cond.code x code maxLocals ret, Jvm.Cond.code ({ cls := "com/example/rackline/rackline/protocols/ssc/MessageReaderIsBlankPinLaw", name := "draw", desc := "(I)B" } : Jvm.MethodName) method_2_code (2 : Nat) (Option.some Jvm.ClassFile.FieldType.byte), Jvm.Cond.code ({ cls := "com/example/rackline/rackline/protocols/ssc/MessageReaderIsBlankPinLaw", name := "ws", desc := "(B)Z" } : Jvm.MethodName) method_3_code (1 : Nat) (Option.some Jvm.ClassFile.FieldType.boolean), Jvm.Cond.code ({ cls := "com/example/rackline/rackline/protocols/ssc/MessageReader", name := "isBlank", desc := "([BI)Z" } : Jvm.MethodName) prog_24_method_4_code (3 : Nat) (Option.some Jvm.ClassFile.FieldType.boolean)]
set_option maxRecDepth 65536 in
theorem codes_eq : words1.filter isCode = codes1 := rfl
theorem w_codes : ∀ c ∈ words1.filter isCode, c.before args0 about1 = true := by
  rw [codes_eq]
  intro c hc
  simp only [codes1, List.mem_cons, List.not_mem_nil, or_false] at hc
  rcases hc with rfl | rfl | rfl | rfl
  · exact w_c0
  · exact w_c1
  · exact w_c2
  · exact w_c3
set_option maxRecDepth 65536 in
theorem w_t1 : words1.all (fun c => isCode c || c.before args0 about1) = true := by decide +kernel
theorem w_tables : (allAtoms (Jvm.Cond.code x code maxLocals ret :: tables_1)).before args0 about1 = true := by
  rw [allAtoms_all]
  show words1.all (fun c => c.before args0 about1) = true
  refine all_split ?_ w_codes
  rw [w_t1]
set_option maxRecDepth 65536 in
theorem w_case : (Jvm.Cond.and given_1 narrow_1).before args0 about1 = true := by decide +kernel
theorem w_applies : (headSpec (Jvm.Cond.code x code maxLocals ret :: tables_1) room_1).applies x e0.platform about1 = true :=
  (Spec.applies_iff w_frames).mpr ⟨w_running, w_runnable, w_alone, w_named, w_hears, w_ripe, w_room, w_tables⟩
theorem atStart : AtStart classFile x code maxLocals ret World_1 tables_1 room_1 Calls_1 rest_1 Pre_1 launch0 p0 e0 about1 theMethod args0 below0 :=
  ⟨lists_1, trivial, launch0.admits_env _ _ _, launch0.least_env, fairChoices_fair.cas, fairChoices_fair.clock, w_frames, w_args, w_heap, w_applies, trivial, trivial, w_case⟩
end start1
theorem witness_1 : WitnessClaimed_1 := ⟨start1.p0, start1.e0, start1.about1, start1.theMethod, start1.args0, start1.below0, start1.atStart⟩
end Jvm.Pilot.@@N@@

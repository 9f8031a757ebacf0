import JvmDerived
import JvmDerived.Pilot.@@N@@Statement
import JvmDerived.Pilot.@@N@@Code
set_option linter.unusedVariables false
set_option linter.unusedSimpArgs false
namespace Jvm.RoadKit
open Sem ClassFile Op Lib Jvm.Stand Jvm.Free Jvm.LawKit
section New
variable {p : Program} {l : Launch} {e : Env} {R : Room} {s : State} {m : MethodId} {args : Array Value} {below : List Frame} {meth : Method} {c : Code} {T : State} {locs : List Loc} {cells slots : Nat}
theorem retI (X : Stand p l e R s m args below meth c T locs cells slots) (hx : p.tables.exec = Jvm.exec) {pc : Nat} {Ls : Array Slot} {z : Int32} {rest : List Value} (hret : meth.sig.returnType = some .int) (hd : decode c.code pc = .ok (.ireturn, 1)) {fs : List Frame}
    (hl : ∀ (f : JFrame) (acts : List Action), f.method = m → f.locked = none → f.entered = [] → (doReturn e (T.setTop f) acts (some (.int z))).1 = T.setFrames fs) : Steps p.tables e below (T.setTop (mkF m pc Ls (.int z :: rest))) (T.setFrames fs) := by
  have hm' : T.vm.method? m = some meth := X.method'
  have hn : narrow .int (.int z) = .int z := rfl
  show Steps p.tables e below (T.setTop { method := m, pc := pc, locals := Ls, stack := _ :: rest, locked := none }) _
  jvm_step X.here [X.here.top, hx, hd, hm', hret, hn]
  first | (intro acts; rw [hl _ acts rfl rfl rfl]) | rw [hl _ _ rfl rfl rfl]
  exact Steps.refl _
end New
end Jvm.RoadKit
namespace Jvm.Pilot.@@N@@
open Jvm Jvm.ClassFile Sem Op Lib Jvm.Free Jvm.Stand Jvm.LawKit Jvm.RoadKit Bundle Jvm.Pilot.@@N@@.Jvm.D
theorem own_sta_keep {Z : State} {h h' : Heap} {C n d : String} {v : Value} (F : Sta Z h C n d v) (K : Keep h h' []) : Sta Z h' C n d v := by
  obtain ⟨cf, i, k, f, st, cell, h1, h2, h3, h4, h5, r⟩ := F
  exact ⟨cf, i, k, f, st, cell, h1, h2, h3, h4, K.2.1 _ _ h5 nin0, r⟩
/-- whoever comes from B to t comes from A to t -/
abbrev own_R (p : Program) (e : Env) (below : List Frame) (A B : State) : Prop := ∀ t, Steps p.tables e below B t → Steps p.tables e below A t
def own_max (q0 : Int64) (q1 : Int64) : Int64 := (if q0 < q1 then q1 else q0)
theorem d1_0 : decode jdk_29_method_66_code 0 = .ok (.lload_n 0, 1) := by decide +kernel
theorem d1_1 : decode jdk_29_method_66_code 1 = .ok (.lload_n 2, 1) := by decide +kernel
theorem d1_2 : decode jdk_29_method_66_code 2 = .ok (.lcmp, 1) := by decide +kernel
theorem d1_3 : decode jdk_29_method_66_code 3 = .ok (.ifCond .lt 7, 3) := by decide +kernel
theorem d1_6 : decode jdk_29_method_66_code 6 = .ok (.lload_n 0, 1) := by decide +kernel
theorem d1_7 : decode jdk_29_method_66_code 7 = .ok (.goto 4, 3) := by decide +kernel
theorem d1_10 : decode jdk_29_method_66_code 10 = .ok (.lload_n 2, 1) := by decide +kernel
theorem d1_11 : decode jdk_29_method_66_code 11 = .ok (.lreturn, 1) := by decide +kernel
theorem ef_1 (m : MethodId) (x0 : Int64) (x1 : Int64) : entryFrame m #[(.long x0), (.long x1)] 4 = mkF m 0 #[.val (.long x0), .second, .val (.long x1), .second] [] := by first | (simp [entryFrame, mkF, argsToLocals, Value.category]; done) | rfl
def Q1 (Z : State) (q0 : Int64) (q1 : Int64) (h0 : Heap) (n0 : Nat) (v : Option Value) (h : Heap) (L : List Loc) : Prop := v = some (.long (own_max q0 q1)) ∧ Fr n0 L ∧ h = h0
set_option maxRecDepth 65536 in
set_option maxHeartbeats 40000000 in
theorem rm1 (l : Launch) (Z : State) (a0 : Array Value) (hw : ∀ d ∈ tables_1, d.before a0 Z = true) (ws : List Jvm.Cond) (q0 : Int64) (q1 : Int64) (h0 : Heap) (n0 : Nat) (Z0 : n0 ≤ h0.size) :
    MetFree l (⟨"java/lang/Math", "max", "(JJ)J"⟩ : MethodName) (head1 (Jvm.Cond.code (⟨"java/lang/Math", "max", "(JJ)J"⟩ : MethodName) jdk_29_method_66_code 4 (some .long) :: ws) ({ frames := 0, cells := 0, slots := 0, locals := 0 } : Room)) (fun a U => a = #[(.long q0), (.long q1)] ∧ Z.Warmed39 U.vm ∧ U.heap = h0) (fun _ _ _ _ _ => True) (fun _ U o U' => ∃ v L, o = .returned v ∧ Q1 Z q0 q1 h0 n0 v U'.heap L ∧ FrameEnd U o U' L ({ frames := 0, cells := 0, slots := 0, locals := 0 } : Room).cells ({ frames := 0, cells := 0, slots := 0, locals := 0 } : Room).slots) := by
  refine MetFree.of_bodySF (Jvm.Free.JP.mathPlain rfl (by decide +kernel)) hisR ?_
  intro p e s m args below meth c s₁ Bd hml0 hP hK
  obtain ⟨rfl, hZ, hh⟩ := hP
  have hx := Bd.exec
  have hby := Bd.bytes
  have hml : c.maxLocals = 4 := hml0
  have hown : s.vm.findClass "java/lang/Math" = some m.cls := findClass_of_methodNamed Bd.named
  have hnm := (name_of_methodNamed Bd.named Bd.method).1
  have X0 : Stand p l e ({ frames := 0, cells := 0, slots := 0, locals := 0 } : Room) s m #[(.long q0), (.long q1)] below meth c s₁ [] 0 0 := Stand.of_body Bd
  have e0 : s₁.heap = h0 := by rw [← hh, Bd.state]; rfl
  have N0 := Fr.nil n0
  have k0 : own_R p e below (s₁.setTop (entryFrame m #[(.long q0), (.long q1)] 4)) (s₁.setTop (mkF m 0 #[.val (.long q0), .second, .val (.long q1), .second] [])) := fun t k => castTop (ef_1 m q0 q1) k
  have ks1 : own_R p e below (s₁.setTop (entryFrame m #[(.long q0), (.long q1)] 4)) (s₁.setTop (mkF m 3 #[.val (.long q0), .second, .val (.long q1), .second] [(.int (lcmpW q0 q1))])) := fun t k => k0 t (by
    show Steps p.tables e below (s₁.setTop (mkF m 0 #[.val (.long q0), .second, .val (.long q1), .second] [])) _
    refine XS.lloadN X0.here hx rfl (hb hby d1_0) rfl ?_
    show Steps p.tables e below (s₁.setTop (mkF m 1 #[.val (.long q0), .second, .val (.long q1), .second] [(.long q0)])) _
    refine XS.lloadN X0.here hx rfl (hb hby d1_1) rfl ?_
    show Steps p.tables e below (s₁.setTop (mkF m 2 #[.val (.long q0), .second, .val (.long q1), .second] [(.long q1), (.long q0)])) _
    refine XS.lcmp X0.here hx rfl (hb hby d1_2) rfl ?_
    exact k)
  by_cases hc2 : q0 < q1
  · skip
    have ks3 : own_R p e below (s₁.setTop (entryFrame m #[(.long q0), (.long q1)] 4)) (s₁.setTop (mkF m 11 #[.val (.long q0), .second, .val (.long q1), .second] [(.long q1)])) := fun t k => ks1 t (by
      show Steps p.tables e below (s₁.setTop (mkF m 3 #[.val (.long q0), .second, .val (.long q1), .second] [(.int (lcmpW q0 q1))])) _
      refine XS.ifYes X0.here hx rfl (pc0 := 3) (pc' := 10) rfl (hb hby d1_3) rfl ((if0 _ _).trans (tlt ((lw_lt _ _).mpr hc2)).1) (by decide) (by decide) ?_
      show Steps p.tables e below (s₁.setTop (mkF m 10 #[.val (.long q0), .second, .val (.long q1), .second] [])) _
      refine XS.lloadN X0.here hx rfl (hb hby d1_10) rfl ?_
      exact k)
    obtain ⟨fs, hr, hrun, hended, hW, hsame⟩ := X0.leave (v := some (.long q1)) (fun h => by rw [Bd.returns] at h; cases h)
    refine ⟨_, _, ks3 _ ?_, hrun, hended, _, _, rfl, ?_, ⟨_, rfl⟩, hW, hsame.mono (by decide) (by decide)⟩
    · exact retOut X0 hx Bd.returns rfl (Or.inr (Or.inl ⟨rfl, rfl, _, rfl⟩)) (hb hby d1_11) hr
    · show Q1 Z q0 q1 h0 n0 _ s₁.heap _
      rw [e0]
      refine ⟨?_, N0, rfl⟩
      rw [own_max, if_pos hc2]
  · skip
    have ks4 : own_R p e below (s₁.setTop (entryFrame m #[(.long q0), (.long q1)] 4)) (s₁.setTop (mkF m 11 #[.val (.long q0), .second, .val (.long q1), .second] [(.long q0)])) := fun t k => ks1 t (by
      show Steps p.tables e below (s₁.setTop (mkF m 3 #[.val (.long q0), .second, .val (.long q1), .second] [(.int (lcmpW q0 q1))])) _
      refine XS.ifNo X0.here hx rfl (hb hby d1_3) rfl ((if0 _ _).trans (flt (fun q => hc2 ((lw_lt _ _).mp q))).1) ?_
      show Steps p.tables e below (s₁.setTop (mkF m 6 #[.val (.long q0), .second, .val (.long q1), .second] [])) _
      refine XS.lloadN X0.here hx rfl (hb hby d1_6) rfl ?_
      show Steps p.tables e below (s₁.setTop (mkF m 7 #[.val (.long q0), .second, .val (.long q1), .second] [(.long q0)])) _
      refine XS.goto X0.here hx rfl (pc0 := 7) (pc' := 11) rfl (hb hby d1_7) (by decide) (by decide) ?_
      exact k)
    obtain ⟨fs, hr, hrun, hended, hW, hsame⟩ := X0.leave (v := some (.long q0)) (fun h => by rw [Bd.returns] at h; cases h)
    refine ⟨_, _, ks4 _ ?_, hrun, hended, _, _, rfl, ?_, ⟨_, rfl⟩, hW, hsame.mono (by decide) (by decide)⟩
    · exact retOut X0 hx Bd.returns rfl (Or.inr (Or.inl ⟨rfl, rfl, _, rfl⟩)) (hb hby d1_11) hr
    · show Q1 Z q0 q1 h0 n0 _ s₁.heap _
      rw [e0]
      refine ⟨?_, N0, rfl⟩
      rw [own_max, if_neg hc2]
theorem d2_0 : decode prog_8_method_1_code 0 = .ok (.aload_n 0, 1) := by decide +kernel
theorem d2_1 : decode prog_8_method_1_code 1 = .ok (.invokespecial 1, 3) := by decide +kernel
theorem d2_4 : decode prog_8_method_1_code 4 = .ok (.aload_n 0, 1) := by decide +kernel
theorem d2_5 : decode prog_8_method_1_code 5 = .ok (.lload_n 1, 1) := by decide +kernel
theorem d2_6 : decode prog_8_method_1_code 6 = .ok (.putfield 7, 3) := by decide +kernel
theorem d2_9 : decode prog_8_method_1_code 9 = .ok (.aload_n 0, 1) := by decide +kernel
theorem d2_10 : decode prog_8_method_1_code 10 = .ok (.lload_n 3, 1) := by decide +kernel
theorem d2_11 : decode prog_8_method_1_code 11 = .ok (.putfield 13, 3) := by decide +kernel
theorem d2_14 : decode prog_8_method_1_code 14 = .ok (.aload_n 0, 1) := by decide +kernel
theorem d2_15 : decode prog_8_method_1_code 15 = .ok (.lload 5, 2) := by decide +kernel
theorem d2_17 : decode prog_8_method_1_code 17 = .ok (.putfield 16, 3) := by decide +kernel
theorem d2_20 : decode prog_8_method_1_code 20 = .ok (.return_, 1) := by decide +kernel
theorem pn_2 : plainName "com/example/thin_feed/thinfeed/model/Post" = true := by first | (simp [plainName, overriddenIn]; done) | decide +kernel
theorem ef_2 (m : MethodId) (x0 : Addr) (x1 : Int64) (x2 : Int64) (x3 : Int64) : entryFrame m #[(.ref x0), (.long x1), (.long x2), (.long x3)] 7 = mkF m 0 #[.val (.ref x0), .val (.long x1), .second, .val (.long x2), .second, .val (.long x3), .second] [] := by first | (simp [entryFrame, mkF, argsToLocals, Value.category]; done) | rfl
def Q2 (Z : State) (r0 : Addr) (q1 : Int64) (q2 : Int64) (q3 : Int64) (h0 : Heap) (n0 : Nat) (v : Option Value) (h : Heap) (L : List Loc) : Prop := v = none ∧ Fr n0 L ∧ Keep h0 h [r0] ∧ Exa Z h r0 "com/example/thin_feed/thinfeed/model/Post" ∧ Fld Z h r0 "com/example/thin_feed/thinfeed/model/Post" "id" "J" (.long q1) ∧ Fld Z h r0 "com/example/thin_feed/thinfeed/model/Post" "author" "J" (.long q2) ∧ Fld Z h r0 "com/example/thin_feed/thinfeed/model/Post" "createdAt" "J" (.long q3)
set_option maxRecDepth 65536 in
set_option maxHeartbeats 40000000 in
theorem rm2 (l : Launch) (Z : State) (a0 : Array Value) (hw : ∀ d ∈ tables_1, d.before a0 Z = true) (ws : List Jvm.Cond) (r0 : Addr) (q1 : Int64) (q2 : Int64) (q3 : Int64) (h0 : Heap) (n0 : Nat) (Z0 : n0 ≤ h0.size) (g_r0 : n0 ≤ r0) (E0 : Exa Z h0 r0 "com/example/thin_feed/thinfeed/model/Post") (F0 : Fld Z h0 r0 "com/example/thin_feed/thinfeed/model/Post" "id" "J" (.long (0 : Int64))) (F1 : Fld Z h0 r0 "com/example/thin_feed/thinfeed/model/Post" "author" "J" (.long (0 : Int64))) (F2 : Fld Z h0 r0 "com/example/thin_feed/thinfeed/model/Post" "createdAt" "J" (.long (0 : Int64))) :
    MetFree l (⟨"com/example/thin_feed/thinfeed/model/Post", "<init>", "(JJJ)V"⟩ : MethodName) (head1 (Jvm.Cond.code (⟨"com/example/thin_feed/thinfeed/model/Post", "<init>", "(JJJ)V"⟩ : MethodName) prog_8_method_1_code 7 none :: ws) ({ frames := 1, cells := 0, slots := 0, locals := 12 } : Room)) (fun a U => a = #[(.ref r0), (.long q1), (.long q2), (.long q3)] ∧ Z.Warmed39 U.vm ∧ U.heap = h0) (fun _ _ _ _ _ => True) (fun _ U o U' => ∃ v L, o = .returned v ∧ Q2 Z r0 q1 q2 q3 h0 n0 v U'.heap L ∧ FrameEnd U o U' L ({ frames := 1, cells := 0, slots := 0, locals := 12 } : Room).cells ({ frames := 1, cells := 0, slots := 0, locals := 12 } : Room).slots) := by
  refine MetFree.of_bodySF (plainFor_of_name pn_2) hisR ?_
  intro p e s m args below meth c s₁ Bd hml0 hP hK
  obtain ⟨rfl, hZ, hh⟩ := hP
  have hx := Bd.exec
  have hby := Bd.bytes
  have hml : c.maxLocals = 7 := hml0
  have hown : s.vm.findClass "com/example/thin_feed/thinfeed/model/Post" = some m.cls := findClass_of_methodNamed Bd.named
  have hnm := (name_of_methodNamed Bd.named Bd.method).1
  have X0 : Stand p l e ({ frames := 1, cells := 0, slots := 0, locals := 12 } : Room) s m #[(.ref r0), (.long q1), (.long q2), (.long q3)] below meth c s₁ [] 0 0 := Stand.of_body Bd
  have e0 : s₁.heap = h0 := by rw [← hh, Bd.state]; rfl
  have N0 := Fr.nil n0
  have k0 : own_R p e below (s₁.setTop (entryFrame m #[(.ref r0), (.long q1), (.long q2), (.long q3)] 7)) (s₁.setTop (mkF m 0 #[.val (.ref r0), .val (.long q1), .second, .val (.long q2), .second, .val (.long q3), .second] [])) := fun t k => castTop (ef_2 m r0 q1 q2 q3) k
  have ks1 : own_R p e below (s₁.setTop (entryFrame m #[(.ref r0), (.long q1), (.long q2), (.long q3)] 7)) (s₁.setTop (mkF m 1 #[.val (.ref r0), .val (.long q1), .second, .val (.long q2), .second, .val (.long q3), .second] [(.ref r0)])) := fun t k => k0 t (by
    show Steps p.tables e below (s₁.setTop (mkF m 0 #[.val (.ref r0), .val (.long q1), .second, .val (.long q2), .second, .val (.long q3), .second] [])) _
    refine XS.aloadN X0.here hx rfl (hb hby d2_0) rfl rfl ?_
    exact k)
  obtain ⟨T2, X2, e2, st2⟩ := initO X0 hx hZ hown (hw _ (List.mem_of_getElem? (i := 11) rfl)) (hw _ (List.mem_of_getElem? (i := 12) rfl)) (hw _ (List.mem_of_getElem? (i := 13) rfl)) e0 (g := (mkF m 1 #[.val (.ref r0), .val (.long q1), .second, .val (.long q2), .second, .val (.long q3), .second] [(.ref r0)])) rfl (by rw [hml]; rfl) rfl (hb hby d2_1) (by decide) (W := 0) (by show 2 * 0 + _ ≤ _; exact Nat.le_of_eq rfl) (by decide)
  have ks3 : own_R p e below (s₁.setTop (entryFrame m #[(.ref r0), (.long q1), (.long q2), (.long q3)] 7)) (T2.setTop (mkF m 4 #[.val (.ref r0), .val (.long q1), .second, .val (.long q2), .second, .val (.long q3), .second] [])) := fun t k => ks1 t (st2 t k)
  have ks4 : own_R p e below (s₁.setTop (entryFrame m #[(.ref r0), (.long q1), (.long q2), (.long q3)] 7)) (T2.setTop (mkF m 6 #[.val (.ref r0), .val (.long q1), .second, .val (.long q2), .second, .val (.long q3), .second] [(.long q1), (.ref r0)])) := fun t k => ks3 t (by
    show Steps p.tables e below (T2.setTop (mkF m 4 #[.val (.ref r0), .val (.long q1), .second, .val (.long q2), .second, .val (.long q3), .second] [])) _
    refine XS.aloadN X2.here hx rfl (hb hby d2_4) rfl rfl ?_
    show Steps p.tables e below (T2.setTop (mkF m 5 #[.val (.ref r0), .val (.long q1), .second, .val (.long q2), .second, .val (.long q3), .second] [(.ref r0)])) _
    refine XS.lloadN X2.here hx rfl (hb hby d2_5) rfl ?_
    exact k)
  obtain ⟨T5, h5, X5, e5, W5, st5⟩ := putF X2 hx hZ hown (host := "") (Or.inl (hw _ (List.mem_of_getElem? (i := 14) rfl))) Via.refl e2 F0 E0 (Or.inr ⟨(hw _ (List.mem_of_getElem? (i := 15) rfl)), rfl, hnm⟩) (hw _ (List.mem_of_getElem? (i := 6) rfl)) (ty := .long) (by decide) rfl rfl (g := (mkF m 6 #[.val (.ref r0), .val (.long q1), .second, .val (.long q2), .second, .val (.long q3), .second] [(.long q1), (.ref r0)])) rfl rfl (hb hby d2_6)
  have Fw5 := F0.same W5
  have KH5 : Keep h0 h5 [r0] := (Keep.refl h0 [r0]).wr W5 (Or.inl (List.mem_of_getElem? (i := 0) rfl))
  have Zn5 : n0 ≤ h5.size := Nat.le_trans Z0 (Keep.of_wr W5).1
  have N5 := Fr.snoc X5 N0 g_r0
  have ks6 : own_R p e below (s₁.setTop (entryFrame m #[(.ref r0), (.long q1), (.long q2), (.long q3)] 7)) (T5.setTop (mkF m 9 #[.val (.ref r0), .val (.long q1), .second, .val (.long q2), .second, .val (.long q3), .second] [])) := fun t k => ks4 t (st5 t k)
  have ks7 : own_R p e below (s₁.setTop (entryFrame m #[(.ref r0), (.long q1), (.long q2), (.long q3)] 7)) (T5.setTop (mkF m 11 #[.val (.ref r0), .val (.long q1), .second, .val (.long q2), .second, .val (.long q3), .second] [(.long q2), (.ref r0)])) := fun t k => ks6 t (by
    show Steps p.tables e below (T5.setTop (mkF m 9 #[.val (.ref r0), .val (.long q1), .second, .val (.long q2), .second, .val (.long q3), .second] [])) _
    refine XS.aloadN X5.here hx rfl (hb hby d2_9) rfl rfl ?_
    show Steps p.tables e below (T5.setTop (mkF m 10 #[.val (.ref r0), .val (.long q1), .second, .val (.long q2), .second, .val (.long q3), .second] [(.ref r0)])) _
    refine XS.lloadN X5.here hx rfl (hb hby d2_10) rfl ?_
    exact k)
  have f8 := E0.keep KH5
  have f9 := (F1.other W5 (Or.inr (slot_ne (Or.inr (hw _ (List.mem_of_getElem? (i := 17) rfl))) (Or.inr (hw _ (List.mem_of_getElem? (i := 15) rfl))) (by decide) (t := .long) (t' := .long) (by decide) (by decide))))
  obtain ⟨T10, h10, X10, e10, W10, st10⟩ := putF X5 hx hZ hown (host := "") (Or.inl (hw _ (List.mem_of_getElem? (i := 16) rfl))) Via.refl e5 f9 f8 (Or.inr ⟨(hw _ (List.mem_of_getElem? (i := 17) rfl)), rfl, hnm⟩) (hw _ (List.mem_of_getElem? (i := 6) rfl)) (ty := .long) (by decide) rfl rfl (g := (mkF m 11 #[.val (.ref r0), .val (.long q1), .second, .val (.long q2), .second, .val (.long q3), .second] [(.long q2), (.ref r0)])) rfl rfl (hb hby d2_11)
  have Fw10 := f9.same W10
  have KH10 : Keep h0 h10 [r0] := KH5.wr W10 (Or.inl (List.mem_of_getElem? (i := 0) rfl))
  have Zn10 : n0 ≤ h10.size := Nat.le_trans Zn5 (Keep.of_wr W10).1
  have N10 := Fr.snoc X10 N5 g_r0
  have ks11 : own_R p e below (s₁.setTop (entryFrame m #[(.ref r0), (.long q1), (.long q2), (.long q3)] 7)) (T10.setTop (mkF m 14 #[.val (.ref r0), .val (.long q1), .second, .val (.long q2), .second, .val (.long q3), .second] [])) := fun t k => ks7 t (st10 t k)
  have ks12 : own_R p e below (s₁.setTop (entryFrame m #[(.ref r0), (.long q1), (.long q2), (.long q3)] 7)) (T10.setTop (mkF m 17 #[.val (.ref r0), .val (.long q1), .second, .val (.long q2), .second, .val (.long q3), .second] [(.long q3), (.ref r0)])) := fun t k => ks11 t (by
    show Steps p.tables e below (T10.setTop (mkF m 14 #[.val (.ref r0), .val (.long q1), .second, .val (.long q2), .second, .val (.long q3), .second] [])) _
    refine XS.aloadN X10.here hx rfl (hb hby d2_14) rfl rfl ?_
    show Steps p.tables e below (T10.setTop (mkF m 15 #[.val (.ref r0), .val (.long q1), .second, .val (.long q2), .second, .val (.long q3), .second] [(.ref r0)])) _
    refine XS.lload X10.here hx rfl (hb hby d2_15) rfl ?_
    exact k)
  have f13 := E0.keep KH10
  have f14 := ((F2.other W5 (Or.inr (slot_ne (Or.inr (hw _ (List.mem_of_getElem? (i := 19) rfl))) (Or.inr (hw _ (List.mem_of_getElem? (i := 15) rfl))) (by decide) (t := .long) (t' := .long) (by decide) (by decide)))).other W10 (Or.inr (slot_ne (Or.inr (hw _ (List.mem_of_getElem? (i := 19) rfl))) (Or.inr (hw _ (List.mem_of_getElem? (i := 17) rfl))) (by decide) (t := .long) (t' := .long) (by decide) (by decide))))
  obtain ⟨T15, h15, X15, e15, W15, st15⟩ := putF X10 hx hZ hown (host := "") (Or.inl (hw _ (List.mem_of_getElem? (i := 18) rfl))) Via.refl e10 f14 f13 (Or.inr ⟨(hw _ (List.mem_of_getElem? (i := 19) rfl)), rfl, hnm⟩) (hw _ (List.mem_of_getElem? (i := 6) rfl)) (ty := .long) (by decide) rfl rfl (g := (mkF m 17 #[.val (.ref r0), .val (.long q1), .second, .val (.long q2), .second, .val (.long q3), .second] [(.long q3), (.ref r0)])) rfl rfl (hb hby d2_17)
  have Fw15 := f14.same W15
  have KH15 : Keep h0 h15 [r0] := KH10.wr W15 (Or.inl (List.mem_of_getElem? (i := 0) rfl))
  have Zn15 : n0 ≤ h15.size := Nat.le_trans Zn10 (Keep.of_wr W15).1
  have N15 := Fr.snoc X15 N10 g_r0
  have ks16 : own_R p e below (s₁.setTop (entryFrame m #[(.ref r0), (.long q1), (.long q2), (.long q3)] 7)) (T15.setTop (mkF m 20 #[.val (.ref r0), .val (.long q1), .second, .val (.long q2), .second, .val (.long q3), .second] [])) := fun t k => ks12 t (st15 t k)
  obtain ⟨fs, hr, hrun, hended, hW, hsame⟩ := X15.leave (v := none) (fun _ => rfl)
  refine ⟨_, _, ks16 _ ?_, hrun, hended, _, _, rfl, ?_, ⟨_, rfl⟩, hW, hsame.mono (by decide) (by decide)⟩
  · exact X15.returnOut hx Bd.returns (hb hby d2_20) hr
  · show Q2 Z r0 q1 q2 q3 h0 n0 _ T15.heap _
    rw [e15]
    have f17 := E0.keep KH15
    have f18 := ((Fw5.other W10 (Or.inr (slot_ne (Or.inr (hw _ (List.mem_of_getElem? (i := 15) rfl))) (Or.inr (hw _ (List.mem_of_getElem? (i := 17) rfl))) (by decide) (t := .long) (t' := .long) (by decide) (by decide)))).other W15 (Or.inr (slot_ne (Or.inr (hw _ (List.mem_of_getElem? (i := 15) rfl))) (Or.inr (hw _ (List.mem_of_getElem? (i := 19) rfl))) (by decide) (t := .long) (t' := .long) (by decide) (by decide))))
    have f19 := (Fw10.other W15 (Or.inr (slot_ne (Or.inr (hw _ (List.mem_of_getElem? (i := 17) rfl))) (Or.inr (hw _ (List.mem_of_getElem? (i := 19) rfl))) (by decide) (t := .long) (t' := .long) (by decide) (by decide))))
    exact ⟨rfl, N15, KH15, f17, f18, f19, Fw15⟩
theorem d7_0 : decode jdk_18_method_1_code 0 = .ok (.aload_n 0, 1) := by decide +kernel
theorem d7_1 : decode jdk_18_method_1_code 1 = .ok (.invokespecial 1, 3) := by decide +kernel
theorem d7_4 : decode jdk_18_method_1_code 4 = .ok (.return_, 1) := by decide +kernel
theorem pn_7 : plainName "java/lang/Number" = true := by first | (simp [plainName, overriddenIn]; done) | decide +kernel
theorem ef_7 (m : MethodId) (x0 : Addr) : entryFrame m #[(.ref x0)] 1 = mkF m 0 #[.val (.ref x0)] [] := by first | (simp [entryFrame, mkF, argsToLocals, Value.category]; done) | rfl
def Q7 (Z : State) (r0 : Addr) (h0 : Heap) (n0 : Nat) (v : Option Value) (h : Heap) (L : List Loc) : Prop := v = none ∧ Fr n0 L ∧ h = h0
set_option maxRecDepth 65536 in
set_option maxHeartbeats 40000000 in
theorem rm7 (l : Launch) (Z : State) (a0 : Array Value) (hw : ∀ d ∈ tables_1, d.before a0 Z = true) (ws : List Jvm.Cond) (r0 : Addr) (h0 : Heap) (n0 : Nat) (Z0 : n0 ≤ h0.size) :
    MetFree l (⟨"java/lang/Number", "<init>", "()V"⟩ : MethodName) (head1 (Jvm.Cond.code (⟨"java/lang/Number", "<init>", "()V"⟩ : MethodName) jdk_18_method_1_code 1 none :: ws) ({ frames := 1, cells := 0, slots := 0, locals := 12 } : Room)) (fun a U => a = #[(.ref r0)] ∧ Z.Warmed39 U.vm ∧ U.heap = h0) (fun _ _ _ _ _ => True) (fun _ U o U' => ∃ v L, o = .returned v ∧ Q7 Z r0 h0 n0 v U'.heap L ∧ FrameEnd U o U' L ({ frames := 1, cells := 0, slots := 0, locals := 12 } : Room).cells ({ frames := 1, cells := 0, slots := 0, locals := 12 } : Room).slots) := by
  refine MetFree.of_bodySF (plainFor_of_name pn_7) hisR ?_
  intro p e s m args below meth c s₁ Bd hml0 hP hK
  obtain ⟨rfl, hZ, hh⟩ := hP
  have hx := Bd.exec
  have hby := Bd.bytes
  have hml : c.maxLocals = 1 := hml0
  have hown : s.vm.findClass "java/lang/Number" = some m.cls := findClass_of_methodNamed Bd.named
  have hnm := (name_of_methodNamed Bd.named Bd.method).1
  have X0 : Stand p l e ({ frames := 1, cells := 0, slots := 0, locals := 12 } : Room) s m #[(.ref r0)] below meth c s₁ [] 0 0 := Stand.of_body Bd
  have e0 : s₁.heap = h0 := by rw [← hh, Bd.state]; rfl
  have N0 := Fr.nil n0
  have k0 : own_R p e below (s₁.setTop (entryFrame m #[(.ref r0)] 1)) (s₁.setTop (mkF m 0 #[.val (.ref r0)] [])) := fun t k => castTop (ef_7 m r0) k
  have ks1 : own_R p e below (s₁.setTop (entryFrame m #[(.ref r0)] 1)) (s₁.setTop (mkF m 1 #[.val (.ref r0)] [(.ref r0)])) := fun t k => k0 t (by
    show Steps p.tables e below (s₁.setTop (mkF m 0 #[.val (.ref r0)] [])) _
    refine XS.aloadN X0.here hx rfl (hb hby d7_0) rfl rfl ?_
    exact k)
  obtain ⟨T2, X2, e2, st2⟩ := initO X0 hx hZ hown (hw _ (List.mem_of_getElem? (i := 50) rfl)) (hw _ (List.mem_of_getElem? (i := 12) rfl)) (hw _ (List.mem_of_getElem? (i := 13) rfl)) e0 (g := (mkF m 1 #[.val (.ref r0)] [(.ref r0)])) rfl (by rw [hml]; rfl) rfl (hb hby d7_1) (by decide) (W := 0) (by show 2 * 0 + _ ≤ _; exact Nat.le_of_eq rfl) (by decide)
  have ks3 : own_R p e below (s₁.setTop (entryFrame m #[(.ref r0)] 1)) (T2.setTop (mkF m 4 #[.val (.ref r0)] [])) := fun t k => ks1 t (st2 t k)
  obtain ⟨fs, hr, hrun, hended, hW, hsame⟩ := X2.leave (v := none) (fun _ => rfl)
  refine ⟨_, _, ks3 _ ?_, hrun, hended, _, _, rfl, ?_, ⟨_, rfl⟩, hW, hsame.mono (by decide) (by decide)⟩
  · exact X2.returnOut hx Bd.returns (hb hby d7_4) hr
  · show Q7 Z r0 h0 n0 _ T2.heap _
    rw [e2]
    exact ⟨rfl, N0, rfl⟩
theorem d6_0 : decode jdk_35_method_26_code 0 = .ok (.aload_n 0, 1) := by decide +kernel
theorem d6_1 : decode jdk_35_method_26_code 1 = .ok (.invokespecial 270, 3) := by decide +kernel
theorem d6_4 : decode jdk_35_method_26_code 4 = .ok (.aload_n 0, 1) := by decide +kernel
theorem d6_5 : decode jdk_35_method_26_code 5 = .ok (.lload_n 1, 1) := by decide +kernel
theorem d6_6 : decode jdk_35_method_26_code 6 = .ok (.putfield 273, 3) := by decide +kernel
theorem d6_9 : decode jdk_35_method_26_code 9 = .ok (.return_, 1) := by decide +kernel
theorem pn_6 : plainName "java/lang/Long" = true := by first | (simp [plainName, overriddenIn]; done) | decide +kernel
theorem pd_2 : parseMethodDescriptor "()V" = some ⟨[], none⟩ := by decide +kernel
theorem ef_6 (m : MethodId) (x0 : Addr) (x1 : Int64) : entryFrame m #[(.ref x0), (.long x1)] 3 = mkF m 0 #[.val (.ref x0), .val (.long x1), .second] [] := by first | (simp [entryFrame, mkF, argsToLocals, Value.category]; done) | rfl
def Q6 (Z : State) (r0 : Addr) (q1 : Int64) (h0 : Heap) (n0 : Nat) (v : Option Value) (h : Heap) (L : List Loc) : Prop := v = none ∧ Fr n0 L ∧ Keep h0 h [r0] ∧ Exa Z h r0 "java/lang/Long"
set_option maxRecDepth 65536 in
set_option maxHeartbeats 40000000 in
theorem rm6 (l : Launch) (Z : State) (a0 : Array Value) (hw : ∀ d ∈ tables_1, d.before a0 Z = true) (ws : List Jvm.Cond) (r0 : Addr) (q1 : Int64) (h0 : Heap) (n0 : Nat) (Z0 : n0 ≤ h0.size) (g_r0 : n0 ≤ r0) (E0 : Exa Z h0 r0 "java/lang/Long") (F0 : Fld Z h0 r0 "java/lang/Long" "value" "J" (.long (0 : Int64))) :
    MetFree l (⟨"java/lang/Long", "<init>", "(J)V"⟩ : MethodName) (head1 (Jvm.Cond.code (⟨"java/lang/Long", "<init>", "(J)V"⟩ : MethodName) jdk_35_method_26_code 3 none :: ws) ({ frames := 2, cells := 0, slots := 0, locals := 24 } : Room)) (fun a U => a = #[(.ref r0), (.long q1)] ∧ Z.Warmed39 U.vm ∧ U.heap = h0) (fun _ _ _ _ _ => True) (fun _ U o U' => ∃ v L, o = .returned v ∧ Q6 Z r0 q1 h0 n0 v U'.heap L ∧ FrameEnd U o U' L ({ frames := 2, cells := 0, slots := 0, locals := 24 } : Room).cells ({ frames := 2, cells := 0, slots := 0, locals := 24 } : Room).slots) := by
  refine MetFree.of_bodySF (plainFor_of_name pn_6) hisR ?_
  intro p e s m args below meth c s₁ Bd hml0 hP hK
  obtain ⟨rfl, hZ, hh⟩ := hP
  have hx := Bd.exec
  have hby := Bd.bytes
  have hml : c.maxLocals = 3 := hml0
  have hown : s.vm.findClass "java/lang/Long" = some m.cls := findClass_of_methodNamed Bd.named
  have hnm := (name_of_methodNamed Bd.named Bd.method).1
  have X0 : Stand p l e ({ frames := 2, cells := 0, slots := 0, locals := 24 } : Room) s m #[(.ref r0), (.long q1)] below meth c s₁ [] 0 0 := Stand.of_body Bd
  have e0 : s₁.heap = h0 := by rw [← hh, Bd.state]; rfl
  have N0 := Fr.nil n0
  have k0 : own_R p e below (s₁.setTop (entryFrame m #[(.ref r0), (.long q1)] 3)) (s₁.setTop (mkF m 0 #[.val (.ref r0), .val (.long q1), .second] [])) := fun t k => castTop (ef_6 m r0 q1) k
  have ks1 : own_R p e below (s₁.setTop (entryFrame m #[(.ref r0), (.long q1)] 3)) (s₁.setTop (mkF m 1 #[.val (.ref r0), .val (.long q1), .second] [(.ref r0)])) := fun t k => k0 t (by
    show Steps p.tables e below (s₁.setTop (mkF m 0 #[.val (.ref r0), .val (.long q1), .second] [])) _
    refine XS.aloadN X0.here hx rfl (hb hby d6_0) rfl rfl ?_
    exact k)
  obtain ⟨_, _, ⟨T2, L2, k2, n2⟩, -, X2, ⟨Lc2, hQ2, lq2, yq2, zq2⟩, st2⟩ := X0.specialBack hx (y := (⟨"java/lang/Number", "<init>", "()V"⟩ : MethodName)) rfl hown (mvT hZ (hw _ (List.mem_of_getElem? (i := 44) rfl))) (mvT hZ (hw _ (List.mem_of_getElem? (i := 45) rfl))) (mvT hZ (hw _ (List.mem_of_getElem? (i := 49) rfl))) (by decide) (backOf (W := 0) (rm7 l Z a0 hw [] r0 h0 n0 Z0 ) hZ (hw _ (List.mem_of_getElem? (i := 49) rfl)) (hw _ (List.mem_of_getElem? (i := 48) rfl)) (by decide) (by decide)) (g := (mkF m 1 #[.val (.ref r0), .val (.long q1), .second] [(.ref r0)])) rfl (by rw [hml]; rfl) (Steps.refl _) (a := r0) (argsL := []) (rest := []) (lenOf pd_2 rfl) rfl (by show 2 * 0 + _ ≤ _; exact Nat.le_of_eq rfl) (hb hby d6_1) (fun _ _ => ⟨rfl, e0, (by decide : 0 + 0 ≤ _), (by decide : 0 + 0 ≤ _)⟩)
  dsimp only [Pt.U, Pt.locs, Pt.cells, Pt.slots] at X2 lq2 yq2 zq2 st2 hQ2
  subst lq2 yq2 zq2
  obtain ⟨rfl, Nq2, eq2⟩ := hQ2
  have N2 := Fr.app N0 Nq2
  have ks3 : own_R p e below (s₁.setTop (entryFrame m #[(.ref r0), (.long q1)] 3)) (T2.setTop (mkF m 4 #[.val (.ref r0), .val (.long q1), .second] [])) := fun t k => ks1 t (st2.trans k)
  have ks4 : own_R p e below (s₁.setTop (entryFrame m #[(.ref r0), (.long q1)] 3)) (T2.setTop (mkF m 6 #[.val (.ref r0), .val (.long q1), .second] [(.long q1), (.ref r0)])) := fun t k => ks3 t (by
    show Steps p.tables e below (T2.setTop (mkF m 4 #[.val (.ref r0), .val (.long q1), .second] [])) _
    refine XS.aloadN X2.here hx rfl (hb hby d6_4) rfl rfl ?_
    show Steps p.tables e below (T2.setTop (mkF m 5 #[.val (.ref r0), .val (.long q1), .second] [(.ref r0)])) _
    refine XS.lloadN X2.here hx rfl (hb hby d6_5) rfl ?_
    exact k)
  obtain ⟨T5, h5, X5, e5, W5, st5⟩ := putF X2 hx hZ hown (host := "") (Or.inl (hw _ (List.mem_of_getElem? (i := 51) rfl))) Via.refl eq2 F0 E0 (Or.inr ⟨(hw _ (List.mem_of_getElem? (i := 52) rfl)), rfl, hnm⟩) (hw _ (List.mem_of_getElem? (i := 39) rfl)) (ty := .long) (by decide) rfl rfl (g := (mkF m 6 #[.val (.ref r0), .val (.long q1), .second] [(.long q1), (.ref r0)])) rfl rfl (hb hby d6_6)
  have Fw5 := F0.same W5
  have KH5 : Keep h0 h5 [r0] := (Keep.refl h0 [r0]).wr W5 (Or.inl (List.mem_of_getElem? (i := 0) rfl))
  have Zn5 : n0 ≤ h5.size := Nat.le_trans Z0 (Keep.of_wr W5).1
  have N5 := Fr.snoc X5 N2 g_r0
  have ks6 : own_R p e below (s₁.setTop (entryFrame m #[(.ref r0), (.long q1)] 3)) (T5.setTop (mkF m 9 #[.val (.ref r0), .val (.long q1), .second] [])) := fun t k => ks4 t (st5 t k)
  obtain ⟨fs, hr, hrun, hended, hW, hsame⟩ := X5.leave (v := none) (fun _ => rfl)
  refine ⟨_, _, ks6 _ ?_, hrun, hended, _, _, rfl, ?_, ⟨_, rfl⟩, hW, hsame.mono (by decide) (by decide)⟩
  · exact X5.returnOut hx Bd.returns (hb hby d6_9) hr
  · show Q6 Z r0 q1 h0 n0 _ T5.heap _
    rw [e5]
    have f7 := E0.keep KH5
    exact ⟨rfl, N5, KH5, f7⟩

section OwnWords
variable {args : Array Value} {s : State} {t : Term}
theorem own_eqi {k : Int32} (h : (Jvm.Cond.eq t (.int k)).value args s none s [] = some true) : t.eval args s none [] s = some (.int k) := by
  simp only [Cond.value, Term.eval] at h
  cases ht : t.eval args s none [] s with
  | none => simp [ht] at h
  | some x => cases x <;> simp [ht] at h ⊢ <;> exact h
theorem own_eql {k : Int64} (h : (Jvm.Cond.eq t (.long k)).value args s none s [] = some true) : t.eval args s none [] s = some (.long k) := by
  simp only [Cond.value, Term.eval] at h
  cases ht : t.eval args s none [] s with
  | none => simp [ht] at h
  | some x => cases x <;> simp [ht] at h ⊢ <;> exact h
theorem own_eqr {u : Term} {x : Addr} (h : (Jvm.Cond.eq t u).value args s none s [] = some true) (hu : u.eval args s none [] s = some (.ref x)) : t.eval args s none [] s = some (.ref x) := by
  simp only [Cond.value, hu] at h
  cases ht : t.eval args s none [] s with
  | none => simp [ht] at h
  | some y => cases y <;> simp [ht] at h ⊢ <;> exact h
theorem own_len {x : Addr} {cl : Cell} {ty : FieldType} {k : Int32} (h : (Jvm.Cond.eq (.length t) (.int k)).value args s none s [] = some true) (ev : t.eval args s none [] s = some (.ref x)) (A : Arr s s.heap x cl ty) : cl.slots.size < 2 ^ 31 ∧ cl.slots.size.toInt32 = k := by
  have h1 := own_eqi h
  have h2 := A.fin (Vm.Alike.refl _)
  simp only [Term.eval, ev, Option.bind_eq_bind, Option.bind_some, h2] at h1
  split at h1
  · rename_i q; exact ⟨q, by simpa using h1⟩
  · cases h1
theorem own_elem {x : Addr} {cl : Cell} {ty : FieldType} {j : Int32} {v : Value} (h : (Term.elem t (.int j)).eval args s none [] s = some v) (ev : t.eval args s none [] s = some (.ref x)) (A : Arr s s.heap x cl ty) : cl.slots[j.toNatClampNeg]? = some v :=
  (elem_in h ev (Term.int_eval j) A.1).2
end OwnWords
theorem own_arr_keep {Z : State} {h h' : Heap} {a : Addr} {c : Cell} {ty : FieldType} (A : Arr Z h a c ty) (K : Keep h h' []) : Arr Z h' a c ty := ⟨K.2.1 _ _ A.1 nin0, A.2⟩
/-- C is no subclass of K: K is made by 'new' (its word: instantiable), C's fathers are told -/
theorem own_ns_root {Z : State} {a0 : Array Value} {O K : String} {n : Nat} (w : (Jvm.Cond.noSuperclass O).before a0 Z = true) (wk : (Jvm.Cond.instantiable K n).before a0 Z = true) (hn : O ≠ K) : NS Z O K := by
  obtain ⟨c, k, h1, h2, h3, -, -⟩ := Cond.noSuperclass_spec w
  obtain ⟨t, k2, g1, -⟩ := Cond.instantiable_spec wk
  refine ⟨c, t, h1, g1, fun fuel => ?_⟩
  cases fuel with
  | zero => rfl
  | succ f => simp [Vm.isSubclassAux, ids_ne h1 g1 hn, h2, h3]
theorem own_ns_no {Z : State} {a0 : Array Value} {C S K : String} {n : Nat} (w : (Jvm.Cond.superclass C S).before a0 Z = true) (wk : (Jvm.Cond.instantiable K n).before a0 Z = true) (ns : NS Z C K) (hn : C ≠ K) : ∃ c t, Z.vm.findClass C = some c ∧ Z.vm.findClass K = some t ∧ Z.vm.assignable c t = false := by
  obtain ⟨c, t, h0, g0, n3⟩ := ns
  obtain ⟨p, k, kp, h1, h2, h3, h4, h5, -, h7⟩ := Cond.superclass_spec h0 w
  obtain ⟨t', k', g1, g2, g3, g4, -⟩ := Cond.instantiable_spec wk
  cases g0.symm.trans g1
  have hi : k'.isInterface = false := by cases q : k'.isInterface <;> simp [q] at g4 ⊢
  refine ⟨c, t, h0, g0, ?_⟩
  show Z.vm.assignableAux (255 + 1) c t = false
  simp [Vm.assignableAux, ids_ne h0 g0 hn, h2, g2, h5, g3, hi, Vm.isSubclass, n3]
theorem own_ns {Z : State} {a0 : Array Value} (hw : ∀ d ∈ tables_1, d.before a0 Z = true) : ∃ c t, Z.vm.findClass "java/lang/Long" = some c ∧ Z.vm.findClass "com/example/thin_feed/thinfeed/model/Post" = some t ∧ Z.vm.assignable c t = false :=
  own_ns_no (hw _ (List.mem_of_getElem? (i := 35) rfl)) (hw _ (List.mem_of_getElem? (i := 6) rfl)) (NS.step (hw _ (List.mem_of_getElem? (i := 35) rfl)) (NS.step (hw _ (List.mem_of_getElem? (i := 36) rfl)) (own_ns_root (hw _ (List.mem_of_getElem? (i := 37) rfl)) (hw _ (List.mem_of_getElem? (i := 6) rfl)) (by decide)) (by decide)) (by decide)) (by decide)
def own_box (Z : State) (c : Cell) (K : String) : Prop := ∀ j : Int32, ¬ (j < 0 ∨ 256 ≤ j.toNatClampNeg) → ∃ b : Addr, c.slots[j.toNatClampNeg]? = some (.ref b) ∧ Exa Z Z.heap b K
theorem own_box_start {Z : State} {args : Array Value} {t : Term} {D : Jvm.Cond} {a : Addr} {c : Cell} {K : String} (et : ∀ idx, t.eval args Z none idx Z = some (.ref a)) (A : Arr Z Z.heap a c (.object K)) (hs : c.slots.size = 256)
    (h : (Jvm.Cond.all t (.and (.exactly (.elem t (.index 0)) K) D)).value args Z none Z [] = some true) : own_box Z c K := fun j hj => by
  have nn : ¬ j < 0 := fun x => hj (Or.inl x)
  obtain ⟨u1, u2⟩ := and_e (Cond.all_elim (et []) (A.fin (Vm.Alike.refl _)) h j.toNatClampNeg (by rw [hs]; exact Nat.lt_of_not_le fun x => hj (Or.inr x)))
  obtain ⟨box, eb⟩ := exa_v u1
  exact ⟨box, (elem_f (et _) (idx_at nn) (A.fin (Vm.Alike.refl _)) nn).symm.trans eb, exa_at eb u1⟩
theorem d5_0 : decode jdk_35_method_24_code 0 = .ok (.sipush 128, 3) := by decide +kernel
theorem d5_3 : decode jdk_35_method_24_code 3 = .ok (.istore_n 2, 1) := by decide +kernel
theorem d5_4 : decode jdk_35_method_24_code 4 = .ok (.lload_n 0, 1) := by decide +kernel
theorem d5_5 : decode jdk_35_method_24_code 5 = .ok (.ldc2_w 230, 3) := by decide +kernel
theorem d5_8 : decode jdk_35_method_24_code 8 = .ok (.lcmp, 1) := by decide +kernel
theorem d5_9 : decode jdk_35_method_24_code 9 = .ok (.ifCond .lt 22, 3) := by decide +kernel
theorem d5_12 : decode jdk_35_method_24_code 12 = .ok (.lload_n 0, 1) := by decide +kernel
theorem d5_13 : decode jdk_35_method_24_code 13 = .ok (.ldc2_w 232, 3) := by decide +kernel
theorem d5_16 : decode jdk_35_method_24_code 16 = .ok (.lcmp, 1) := by decide +kernel
theorem d5_17 : decode jdk_35_method_24_code 17 = .ok (.ifCond .gt 14, 3) := by decide +kernel
theorem d5_20 : decode jdk_35_method_24_code 20 = .ok (.getstatic 234, 3) := by decide +kernel
theorem d5_23 : decode jdk_35_method_24_code 23 = .ok (.lload_n 0, 1) := by decide +kernel
theorem d5_24 : decode jdk_35_method_24_code 24 = .ok (.l2i, 1) := by decide +kernel
theorem d5_25 : decode jdk_35_method_24_code 25 = .ok (.sipush 128, 3) := by decide +kernel
theorem d5_28 : decode jdk_35_method_24_code 28 = .ok (.iadd, 1) := by decide +kernel
theorem d5_29 : decode jdk_35_method_24_code 29 = .ok (.aaload, 1) := by decide +kernel
theorem d5_30 : decode jdk_35_method_24_code 30 = .ok (.areturn, 1) := by decide +kernel
theorem d5_31 : decode jdk_35_method_24_code 31 = .ok (.new 1, 3) := by decide +kernel
theorem d5_34 : decode jdk_35_method_24_code 34 = .ok (.dup, 1) := by decide +kernel
theorem d5_35 : decode jdk_35_method_24_code 35 = .ok (.lload_n 0, 1) := by decide +kernel
theorem d5_36 : decode jdk_35_method_24_code 36 = .ok (.invokespecial 240, 3) := by decide +kernel
theorem d5_39 : decode jdk_35_method_24_code 39 = .ok (.areturn, 1) := by decide +kernel
theorem pn_5 : plainName "java/lang/Long" = true := by first | (simp [plainName, overriddenIn]; done) | decide +kernel
theorem pd_5 : parseMethodDescriptor "(J)V" = some ⟨[.long], none⟩ := by decide +kernel
theorem ef_5 (m : MethodId) (x0 : Int64) : entryFrame m #[(.long x0)] 3 = mkF m 0 #[.val (.long x0), .second, .unset] [] := by first | (simp [entryFrame, mkF, argsToLocals, Value.category]; done) | rfl
def Q5 (Z : State) (q0 : Int64) (u1 : Addr) (cl1 : Cell) (h0 : Heap) (n0 : Nat) (v : Option Value) (h : Heap) (L : List Loc) : Prop := ∃ b : Addr, v = some (.ref b) ∧ Fr n0 L ∧ Keep h0 h [] ∧ Exa Z h b "java/lang/Long"
set_option maxRecDepth 65536 in
set_option maxHeartbeats 40000000 in
theorem rm5 (l : Launch) (Z : State) (a0 : Array Value) (hw : ∀ d ∈ tables_1, d.before a0 Z = true) (ws : List Jvm.Cond) (q0 : Int64) (u1 : Addr) (cl1 : Cell) (h0 : Heap) (n0 : Nat) (Z0 : n0 ≤ h0.size) (O0 : Old Z n0 h0) (S1 : Sta Z h0 "java/lang/Long$LongCache" "cache" "[Ljava/lang/Long;" (.ref u1)) (A1 : Arr Z h0 u1 cl1 (.object "java/lang/Long")) (hs1 : cl1.slots.size = 256) (B1 : own_box Z cl1 "java/lang/Long") :
    MetFree l (⟨"java/lang/Long", "valueOf", "(J)Ljava/lang/Long;"⟩ : MethodName) (head1 (Jvm.Cond.code (⟨"java/lang/Long", "valueOf", "(J)Ljava/lang/Long;"⟩ : MethodName) jdk_35_method_24_code 3 (some (.object "java/lang/Long")) :: ws) ({ frames := 3, cells := 1, slots := 1, locals := 39 } : Room)) (fun a U => a = #[(.long q0)] ∧ Z.Warmed39 U.vm ∧ U.heap = h0) (fun _ _ _ _ _ => True) (fun _ U o U' => ∃ v L, o = .returned v ∧ Q5 Z q0 u1 cl1 h0 n0 v U'.heap L ∧ FrameEnd U o U' L ({ frames := 3, cells := 1, slots := 1, locals := 39 } : Room).cells ({ frames := 3, cells := 1, slots := 1, locals := 39 } : Room).slots) := by
  refine MetFree.of_bodySF (plainFor_of_name pn_5) hisR ?_
  intro p e s m args below meth c s₁ Bd hml0 hP hK
  obtain ⟨rfl, hZ, hh⟩ := hP
  have hx := Bd.exec
  have hby := Bd.bytes
  have hml : c.maxLocals = 3 := hml0
  have hown : s.vm.findClass "java/lang/Long" = some m.cls := findClass_of_methodNamed Bd.named
  have hnm := (name_of_methodNamed Bd.named Bd.method).1
  have X0 : Stand p l e ({ frames := 3, cells := 1, slots := 1, locals := 39 } : Room) s m #[(.long q0)] below meth c s₁ [] 0 0 := Stand.of_body Bd
  have e0 : s₁.heap = h0 := by rw [← hh, Bd.state]; rfl
  have N0 := Fr.nil n0
  have k0 : own_R p e below (s₁.setTop (entryFrame m #[(.long q0)] 3)) (s₁.setTop (mkF m 0 #[.val (.long q0), .second, .unset] [])) := fun t k => castTop (ef_5 m q0) k
  have ks1 : own_R p e below (s₁.setTop (entryFrame m #[(.long q0)] 3)) (s₁.setTop (mkF m 9 #[.val (.long q0), .second, .val (.int (128 : Int32))] [(.int (lcmpW q0 (-128 : Int64)))])) := fun t k => k0 t (by
    show Steps p.tables e below (s₁.setTop (mkF m 0 #[.val (.long q0), .second, .unset] [])) _
    refine XS.sipush X0.here hx rfl (hb hby d5_0) ?_
    show Steps p.tables e below (s₁.setTop (mkF m 3 #[.val (.long q0), .second, .unset] [(.int (128 : Int32))])) _
    refine XS.istoreN X0.here hx rfl (hb hby d5_3) rfl (l' := #[.val (.long q0), .second, .val (.int (128 : Int32))]) rfl ?_
    show Steps p.tables e below (s₁.setTop (mkF m 4 #[.val (.long q0), .second, .val (.int (128 : Int32))] [])) _
    refine XS.lloadN X0.here hx rfl (hb hby d5_4) rfl ?_
    show Steps p.tables e below (s₁.setTop (mkF m 5 #[.val (.long q0), .second, .val (.int (128 : Int32))] [(.long q0)])) _
    refine X0.ldc2Long hx hown (mvT hZ (hw _ (List.mem_of_getElem? (i := 31) rfl))) (g := (mkF m 5 #[.val (.long q0), .second, .val (.int (128 : Int32))] [(.long q0)])) rfl (hb hby d5_5) _ ?_
    show Steps p.tables e below (s₁.setTop (mkF m 8 #[.val (.long q0), .second, .val (.int (128 : Int32))] [(.long (-128 : Int64)), (.long q0)])) _
    refine XS.lcmp X0.here hx rfl (hb hby d5_8) rfl ?_
    exact k)
  by_cases hc2 : q0 < (-128 : Int64)
  · skip
    have ks3 : own_R p e below (s₁.setTop (entryFrame m #[(.long q0)] 3)) (s₁.setTop (mkF m 31 #[.val (.long q0), .second, .val (.int (128 : Int32))] [])) := fun t k => ks1 t (by
      show Steps p.tables e below (s₁.setTop (mkF m 9 #[.val (.long q0), .second, .val (.int (128 : Int32))] [(.int (lcmpW q0 (-128 : Int64)))])) _
      refine XS.ifYes X0.here hx rfl (pc0 := 9) (pc' := 31) rfl (hb hby d5_9) rfl ((if0 _ _).trans (tlt ((lw_lt _ _).mpr hc2)).1) (by decide) (by decide) ?_
      exact k)
    obtain ⟨T4, h4, X4, e4, E4, A4, D4, -, st4⟩ := newO X0 hx hZ hown (hw _ (List.mem_of_getElem? (i := 38) rfl)) (hw _ (List.mem_of_getElem? (i := 39) rfl)) (hw _ (List.mem_of_getElem? (i := 29) rfl)) e0 (g := (mkF m 31 #[.val (.long q0), .second, .val (.int (128 : Int32))] [])) rfl (hb hby d5_31) (by decide) (by decide)
    obtain ⟨b4, g4⟩ : ∃ z, z = h0.size := ⟨_, rfl⟩
    rw [← g4] at A4 D4 st4
    have g_b4 : n0 ≤ b4 := Nat.le_trans Z0 (Nat.le_of_eq g4.symm)
    have sz_b4 : h0.size ≤ b4 := Nat.le_trans (Keep.refl h0 []).1 (Nat.le_of_eq g4.symm)
    have KH4 : Keep h0 h4 [] := (Keep.refl h0 []).ext E4
    have Zn4 : n0 ≤ h4.size := Nat.le_trans Z0 E4.1
    have F_value_b4 : Fld Z h4 b4 "java/lang/Long" "value" "J" (.long (0 : Int64)) := D4 (Or.inr (hw _ (List.mem_of_getElem? (i := 52) rfl))) (ty := .long) (by decide)
    have ks5 : own_R p e below (s₁.setTop (entryFrame m #[(.long q0)] 3)) (T4.setTop (mkF m 34 #[.val (.long q0), .second, .val (.int (128 : Int32))] [(.ref b4)])) := fun t k => ks3 t (st4 t k)
    have ks6 : own_R p e below (s₁.setTop (entryFrame m #[(.long q0)] 3)) (T4.setTop (mkF m 36 #[.val (.long q0), .second, .val (.int (128 : Int32))] [(.long q0), (.ref b4), (.ref b4)])) := fun t k => ks5 t (by
      show Steps p.tables e below (T4.setTop (mkF m 34 #[.val (.long q0), .second, .val (.int (128 : Int32))] [(.ref b4)])) _
      refine XS.dup X4.here hx rfl (hb hby d5_34) rfl rfl ?_
      show Steps p.tables e below (T4.setTop (mkF m 35 #[.val (.long q0), .second, .val (.int (128 : Int32))] [(.ref b4), (.ref b4)])) _
      refine XS.lloadN X4.here hx rfl (hb hby d5_35) rfl ?_
      exact k)
    obtain ⟨_, _, ⟨T7, L7, k7, n7⟩, -, X7, ⟨Lc7, hQ7, lq7, yq7, zq7⟩, st7⟩ := X4.specialBack hx (y := (⟨"java/lang/Long", "<init>", "(J)V"⟩ : MethodName)) rfl hown (mvT hZ (hw _ (List.mem_of_getElem? (i := 40) rfl))) (mvT hZ (hw _ (List.mem_of_getElem? (i := 41) rfl))) (mvT hZ (hw _ (List.mem_of_getElem? (i := 43) rfl))) (by decide) (backOf (W := 1) (rm6 l Z a0 hw [] b4 q0 h4 n0 Zn4 g_b4 A4 F_value_b4) hZ (hw _ (List.mem_of_getElem? (i := 43) rfl)) (hw _ (List.mem_of_getElem? (i := 29) rfl)) (by decide) (by decide)) (g := (mkF m 36 #[.val (.long q0), .second, .val (.int (128 : Int32))] [(.long q0), (.ref b4), (.ref b4)])) rfl (by rw [hml]; rfl) (Steps.refl _) (a := b4) (argsL := [(.long q0)]) (rest := [(.ref b4)]) (lenOf pd_5 rfl) rfl (by show 2 * 0 + _ ≤ _; exact Nat.le_of_eq rfl) (hb hby d5_36) (fun _ _ => ⟨rfl, e4, (by decide : 1 + 0 ≤ _), (by decide : 1 + 0 ≤ _)⟩)
    dsimp only [Pt.U, Pt.locs, Pt.cells, Pt.slots] at X7 lq7 yq7 zq7 st7 hQ7
    subst lq7 yq7 zq7
    obtain ⟨rfl, Nq7, Kq7, Ex7⟩ := hQ7
    have N7 := Fr.app N0 Nq7
    have KH7 : Keep h0 T7.heap [] := KH4.trans Kq7 (allS (Or.inr sz_b4) all0)
    have Zn7 : n0 ≤ T7.heap.size := Nat.le_trans Zn4 Kq7.1
    have ks8 : own_R p e below (s₁.setTop (entryFrame m #[(.long q0)] 3)) (T7.setTop (mkF m 39 #[.val (.long q0), .second, .val (.int (128 : Int32))] [(.ref b4)])) := fun t k => ks6 t (st7.trans k)
    obtain ⟨fs, hr, hrun, hended, hW, hsame⟩ := X7.leave (v := some (.ref b4)) (fun h => by rw [Bd.returns] at h; cases h)
    refine ⟨_, _, ks8 _ ?_, hrun, hended, _, _, rfl, ?_, ⟨_, rfl⟩, hW, hsame.mono (by decide) (by decide)⟩
    · exact retOut X7 hx Bd.returns rfl (Or.inr (Or.inr (Or.inr (Or.inr ⟨rfl, rfl, rfl⟩)))) (hb hby d5_39) hr
    · show Q5 Z q0 u1 cl1 h0 n0 _ T7.heap _
      exact ⟨b4, rfl, N7, KH7, Ex7⟩
  · skip
    have ks9 : own_R p e below (s₁.setTop (entryFrame m #[(.long q0)] 3)) (s₁.setTop (mkF m 17 #[.val (.long q0), .second, .val (.int (128 : Int32))] [(.int (lcmpW q0 (127 : Int64)))])) := fun t k => ks1 t (by
      show Steps p.tables e below (s₁.setTop (mkF m 9 #[.val (.long q0), .second, .val (.int (128 : Int32))] [(.int (lcmpW q0 (-128 : Int64)))])) _
      refine XS.ifNo X0.here hx rfl (hb hby d5_9) rfl ((if0 _ _).trans (flt (fun q => hc2 ((lw_lt _ _).mp q))).1) ?_
      show Steps p.tables e below (s₁.setTop (mkF m 12 #[.val (.long q0), .second, .val (.int (128 : Int32))] [])) _
      refine XS.lloadN X0.here hx rfl (hb hby d5_12) rfl ?_
      show Steps p.tables e below (s₁.setTop (mkF m 13 #[.val (.long q0), .second, .val (.int (128 : Int32))] [(.long q0)])) _
      refine X0.ldc2Long hx hown (mvT hZ (hw _ (List.mem_of_getElem? (i := 32) rfl))) (g := (mkF m 13 #[.val (.long q0), .second, .val (.int (128 : Int32))] [(.long q0)])) rfl (hb hby d5_13) _ ?_
      show Steps p.tables e below (s₁.setTop (mkF m 16 #[.val (.long q0), .second, .val (.int (128 : Int32))] [(.long (127 : Int64)), (.long q0)])) _
      refine XS.lcmp X0.here hx rfl (hb hby d5_16) rfl ?_
      exact k)
    by_cases hc10 : (127 : Int64) < q0
    · skip
      have ks11 : own_R p e below (s₁.setTop (entryFrame m #[(.long q0)] 3)) (s₁.setTop (mkF m 31 #[.val (.long q0), .second, .val (.int (128 : Int32))] [])) := fun t k => ks9 t (by
        show Steps p.tables e below (s₁.setTop (mkF m 17 #[.val (.long q0), .second, .val (.int (128 : Int32))] [(.int (lcmpW q0 (127 : Int64)))])) _
        refine XS.ifYes X0.here hx rfl (pc0 := 17) (pc' := 31) rfl (hb hby d5_17) rfl ((if0 _ _).trans (tlt ((lw_gt _ _).mpr hc10)).2.2.1) (by decide) (by decide) ?_
        exact k)
      obtain ⟨T12, h12, X12, e12, E12, A12, D12, -, st12⟩ := newO X0 hx hZ hown (hw _ (List.mem_of_getElem? (i := 38) rfl)) (hw _ (List.mem_of_getElem? (i := 39) rfl)) (hw _ (List.mem_of_getElem? (i := 29) rfl)) e0 (g := (mkF m 31 #[.val (.long q0), .second, .val (.int (128 : Int32))] [])) rfl (hb hby d5_31) (by decide) (by decide)
      obtain ⟨b12, g12⟩ : ∃ z, z = h0.size := ⟨_, rfl⟩
      rw [← g12] at A12 D12 st12
      have g_b12 : n0 ≤ b12 := Nat.le_trans Z0 (Nat.le_of_eq g12.symm)
      have sz_b12 : h0.size ≤ b12 := Nat.le_trans (Keep.refl h0 []).1 (Nat.le_of_eq g12.symm)
      have KH12 : Keep h0 h12 [] := (Keep.refl h0 []).ext E12
      have Zn12 : n0 ≤ h12.size := Nat.le_trans Z0 E12.1
      have F_value_b12 : Fld Z h12 b12 "java/lang/Long" "value" "J" (.long (0 : Int64)) := D12 (Or.inr (hw _ (List.mem_of_getElem? (i := 52) rfl))) (ty := .long) (by decide)
      have ks13 : own_R p e below (s₁.setTop (entryFrame m #[(.long q0)] 3)) (T12.setTop (mkF m 34 #[.val (.long q0), .second, .val (.int (128 : Int32))] [(.ref b12)])) := fun t k => ks11 t (st12 t k)
      have ks14 : own_R p e below (s₁.setTop (entryFrame m #[(.long q0)] 3)) (T12.setTop (mkF m 36 #[.val (.long q0), .second, .val (.int (128 : Int32))] [(.long q0), (.ref b12), (.ref b12)])) := fun t k => ks13 t (by
        show Steps p.tables e below (T12.setTop (mkF m 34 #[.val (.long q0), .second, .val (.int (128 : Int32))] [(.ref b12)])) _
        refine XS.dup X12.here hx rfl (hb hby d5_34) rfl rfl ?_
        show Steps p.tables e below (T12.setTop (mkF m 35 #[.val (.long q0), .second, .val (.int (128 : Int32))] [(.ref b12), (.ref b12)])) _
        refine XS.lloadN X12.here hx rfl (hb hby d5_35) rfl ?_
        exact k)
      obtain ⟨_, _, ⟨T15, L15, k15, n15⟩, -, X15, ⟨Lc15, hQ15, lq15, yq15, zq15⟩, st15⟩ := X12.specialBack hx (y := (⟨"java/lang/Long", "<init>", "(J)V"⟩ : MethodName)) rfl hown (mvT hZ (hw _ (List.mem_of_getElem? (i := 40) rfl))) (mvT hZ (hw _ (List.mem_of_getElem? (i := 41) rfl))) (mvT hZ (hw _ (List.mem_of_getElem? (i := 43) rfl))) (by decide) (backOf (W := 1) (rm6 l Z a0 hw [] b12 q0 h12 n0 Zn12 g_b12 A12 F_value_b12) hZ (hw _ (List.mem_of_getElem? (i := 43) rfl)) (hw _ (List.mem_of_getElem? (i := 29) rfl)) (by decide) (by decide)) (g := (mkF m 36 #[.val (.long q0), .second, .val (.int (128 : Int32))] [(.long q0), (.ref b12), (.ref b12)])) rfl (by rw [hml]; rfl) (Steps.refl _) (a := b12) (argsL := [(.long q0)]) (rest := [(.ref b12)]) (lenOf pd_5 rfl) rfl (by show 2 * 0 + _ ≤ _; exact Nat.le_of_eq rfl) (hb hby d5_36) (fun _ _ => ⟨rfl, e12, (by decide : 1 + 0 ≤ _), (by decide : 1 + 0 ≤ _)⟩)
      dsimp only [Pt.U, Pt.locs, Pt.cells, Pt.slots] at X15 lq15 yq15 zq15 st15 hQ15
      subst lq15 yq15 zq15
      obtain ⟨rfl, Nq15, Kq15, Ex15⟩ := hQ15
      have N15 := Fr.app N0 Nq15
      have KH15 : Keep h0 T15.heap [] := KH12.trans Kq15 (allS (Or.inr sz_b12) all0)
      have Zn15 : n0 ≤ T15.heap.size := Nat.le_trans Zn12 Kq15.1
      have ks16 : own_R p e below (s₁.setTop (entryFrame m #[(.long q0)] 3)) (T15.setTop (mkF m 39 #[.val (.long q0), .second, .val (.int (128 : Int32))] [(.ref b12)])) := fun t k => ks14 t (st15.trans k)
      obtain ⟨fs, hr, hrun, hended, hW, hsame⟩ := X15.leave (v := some (.ref b12)) (fun h => by rw [Bd.returns] at h; cases h)
      refine ⟨_, _, ks16 _ ?_, hrun, hended, _, _, rfl, ?_, ⟨_, rfl⟩, hW, hsame.mono (by decide) (by decide)⟩
      · exact retOut X15 hx Bd.returns rfl (Or.inr (Or.inr (Or.inr (Or.inr ⟨rfl, rfl, rfl⟩)))) (hb hby d5_39) hr
      · show Q5 Z q0 u1 cl1 h0 n0 _ T15.heap _
        exact ⟨b12, rfl, N15, KH15, Ex15⟩
    · skip
      have ks17 : own_R p e below (s₁.setTop (entryFrame m #[(.long q0)] 3)) (s₁.setTop (mkF m 20 #[.val (.long q0), .second, .val (.int (128 : Int32))] [])) := fun t k => ks9 t (by
        show Steps p.tables e below (s₁.setTop (mkF m 17 #[.val (.long q0), .second, .val (.int (128 : Int32))] [(.int (lcmpW q0 (127 : Int64)))])) _
        refine XS.ifNo X0.here hx rfl (hb hby d5_17) rfl ((if0 _ _).trans (flt (fun q => hc10 ((lw_gt _ _).mp q))).2.2.1) ?_
        exact k)
      obtain ⟨T18, X18, e18, st18⟩ := getS2 X0 hx hZ hown (host := "") (Or.inl (hw _ (List.mem_of_getElem? (i := 33) rfl))) Via.refl e0 S1 (g := (mkF m 20 #[.val (.long q0), .second, .val (.int (128 : Int32))] [])) rfl (hb hby d5_20)
      have ks19 : own_R p e below (s₁.setTop (entryFrame m #[(.long q0)] 3)) (T18.setTop (mkF m 23 #[.val (.long q0), .second, .val (.int (128 : Int32))] [(.ref u1)])) := fun t k => ks17 t (st18 t k)
      have ks20 : own_R p e below (s₁.setTop (entryFrame m #[(.long q0)] 3)) (T18.setTop (mkF m 29 #[.val (.long q0), .second, .val (.int (128 : Int32))] [(.int ((q0.toInt32) + (128 : Int32))), (.ref u1)])) := fun t k => ks19 t (by
        show Steps p.tables e below (T18.setTop (mkF m 23 #[.val (.long q0), .second, .val (.int (128 : Int32))] [(.ref u1)])) _
        refine XS.lloadN X18.here hx rfl (hb hby d5_23) rfl ?_
        show Steps p.tables e below (T18.setTop (mkF m 24 #[.val (.long q0), .second, .val (.int (128 : Int32))] [(.long q0), (.ref u1)])) _
        refine XS.l2i X18.here hx rfl (hb hby d5_24) rfl ?_
        show Steps p.tables e below (T18.setTop (mkF m 25 #[.val (.long q0), .second, .val (.int (128 : Int32))] [(.int (q0.toInt32)), (.ref u1)])) _
        refine XS.sipush X18.here hx rfl (hb hby d5_25) ?_
        show Steps p.tables e below (T18.setTop (mkF m 28 #[.val (.long q0), .second, .val (.int (128 : Int32))] [(.int (128 : Int32)), (.int (q0.toInt32)), (.ref u1)])) _
        refine XS.iadd X18.here hx rfl (hb hby d5_28) rfl ?_
        exact k)
      have hin21 := (Jvm.Free.LongBox.place_okL q0 hc2 hc10).1
      obtain ⟨b21, hat21, Eb21⟩ := B1 _ hin21
      have Ec21 := Eb21.ext O0.2
      have hin21' : ¬ ((((q0.toInt32) + (128 : Int32))) < 0 ∨ cl1.slots.size ≤ (((q0.toInt32) + (128 : Int32))).toNatClampNeg) := by rw [hs1]; exact hin21
      have ks22 : own_R p e below (s₁.setTop (entryFrame m #[(.long q0)] 3)) (T18.setTop (mkF m 30 #[.val (.long q0), .second, .val (.int (128 : Int32))] [(.ref b21)])) := fun t k => ks20 t (by
        show Steps p.tables e below (T18.setTop (mkF m 29 #[.val (.long q0), .second, .val (.int (128 : Int32))] [(.int ((q0.toInt32) + (128 : Int32))), (.ref u1)])) _
        refine X18.aaload hx (j := ((q0.toInt32) + (128 : Int32))) (v := (.ref b21)) (by rw [e18]; exact A1.1) (State.isArrayOf_alike hZ.alike A1.2.1) rfl A1.2.2 hin21' hat21 (g := (mkF m 29 #[.val (.long q0), .second, .val (.int (128 : Int32))] [(.int ((q0.toInt32) + (128 : Int32))), (.ref u1)])) rfl rfl (hb hby d5_29) _ ?_
        exact k)
      obtain ⟨fs, hr, hrun, hended, hW, hsame⟩ := X18.leave (v := some (.ref b21)) (fun h => by rw [Bd.returns] at h; cases h)
      refine ⟨_, _, ks22 _ ?_, hrun, hended, _, _, rfl, ?_, ⟨_, rfl⟩, hW, hsame.mono (by decide) (by decide)⟩
      · exact retOut X18 hx Bd.returns rfl (Or.inr (Or.inr (Or.inr (Or.inr ⟨rfl, rfl, rfl⟩)))) (hb hby d5_30) hr
      · show Q5 Z q0 u1 cl1 h0 n0 _ T18.heap _
        rw [e18]
        exact ⟨b21, rfl, N0, (Keep.refl h0 []), Ec21⟩
theorem d4_0 : decode prog_8_method_5_code 0 = .ok (.aload_n 1, 1) := by decide +kernel
theorem d4_1 : decode prog_8_method_5_code 1 = .ok (.instanceof 8, 3) := by decide +kernel
theorem d4_4 : decode prog_8_method_5_code 4 = .ok (.ifCond .ne 5, 3) := by decide +kernel
theorem d4_7 : decode prog_8_method_5_code 7 = .ok (.iconst 0, 1) := by decide +kernel
theorem d4_8 : decode prog_8_method_5_code 8 = .ok (.ireturn, 1) := by decide +kernel
theorem pn_4 : plainName "com/example/thin_feed/thinfeed/model/Post" = true := by first | (simp [plainName, overriddenIn]; done) | decide +kernel
theorem ef_4n (m : MethodId) (x0 : Addr) : entryFrame m #[(.ref x0), .null] 3 = mkF m 0 #[.val (.ref x0), .val .null, .unset] [] := by first | (simp [entryFrame, mkF, argsToLocals, Value.category]; done) | rfl
def Q4n (Z : State) (r0 : Addr) (h0 : Heap) (n0 : Nat) (v : Option Value) (h : Heap) (L : List Loc) : Prop := v = some (.int (0 : Int32)) ∧ Fr n0 L ∧ h = h0
set_option maxRecDepth 65536 in
set_option maxHeartbeats 40000000 in
theorem rm4n (l : Launch) (Z : State) (a0 : Array Value) (hw : ∀ d ∈ tables_1, d.before a0 Z = true) (ws : List Jvm.Cond) (r0 : Addr) (h0 : Heap) (n0 : Nat) (Z0 : n0 ≤ h0.size) :
    MetFree l (⟨"com/example/thin_feed/thinfeed/model/Post", "equals", "(Ljava/lang/Object;)Z"⟩ : MethodName) (head1 (Jvm.Cond.code (⟨"com/example/thin_feed/thinfeed/model/Post", "equals", "(Ljava/lang/Object;)Z"⟩ : MethodName) prog_8_method_5_code 3 (some .boolean) :: ws) ({ frames := 0, cells := 0, slots := 0, locals := 0 } : Room)) (fun a U => a = #[(.ref r0), .null] ∧ Z.Warmed39 U.vm ∧ U.heap = h0) (fun _ _ _ _ _ => True) (fun _ U o U' => ∃ v L, o = .returned v ∧ Q4n Z r0 h0 n0 v U'.heap L ∧ FrameEnd U o U' L ({ frames := 0, cells := 0, slots := 0, locals := 0 } : Room).cells ({ frames := 0, cells := 0, slots := 0, locals := 0 } : Room).slots) := by
  refine MetFree.of_bodySF (plainFor_of_name pn_4) hisR ?_
  intro p e s m args below meth c s₁ Bd hml0 hP hK
  obtain ⟨rfl, hZ, hh⟩ := hP
  have hx := Bd.exec
  have hby := Bd.bytes
  have hml : c.maxLocals = 3 := hml0
  have hown : s.vm.findClass "com/example/thin_feed/thinfeed/model/Post" = some m.cls := findClass_of_methodNamed Bd.named
  have hnm := (name_of_methodNamed Bd.named Bd.method).1
  have X0 : Stand p l e ({ frames := 0, cells := 0, slots := 0, locals := 0 } : Room) s m #[(.ref r0), .null] below meth c s₁ [] 0 0 := Stand.of_body Bd
  have e0 : s₁.heap = h0 := by rw [← hh, Bd.state]; rfl
  have N0 := Fr.nil n0
  have k0 : own_R p e below (s₁.setTop (entryFrame m #[(.ref r0), .null] 3)) (s₁.setTop (mkF m 0 #[.val (.ref r0), .val .null, .unset] [])) := fun t k => castTop (ef_4n m r0) k
  have ks1 : own_R p e below (s₁.setTop (entryFrame m #[(.ref r0), .null] 3)) (s₁.setTop (mkF m 1 #[.val (.ref r0), .val .null, .unset] [.null])) := fun t k => k0 t (by
    show Steps p.tables e below (s₁.setTop (mkF m 0 #[.val (.ref r0), .val .null, .unset] [])) _
    refine XS.aloadN X0.here hx rfl (hb hby d4_0) rfl rfl ?_
    exact k)
  have ks2 : own_R p e below (s₁.setTop (entryFrame m #[(.ref r0), .null] 3)) (s₁.setTop (mkF m 8 #[.val (.ref r0), .val .null, .unset] [(.int (0 : Int32))])) := fun t k => ks1 t (by
    show Steps p.tables e below (s₁.setTop (mkF m 1 #[.val (.ref r0), .val .null, .unset] [.null])) _
    refine X0.instanceofNull hx (g := (mkF m 1 #[.val (.ref r0), .val .null, .unset] [.null])) rfl rfl (hb hby d4_1) _ ?_
    show Steps p.tables e below (s₁.setTop (mkF m 4 #[.val (.ref r0), .val .null, .unset] [(.int (0 : Int32))])) _
    refine XS.ifNo X0.here hx rfl (hb hby d4_4) rfl ((if0 _ _).trans (teq (by decide)).2) ?_
    show Steps p.tables e below (s₁.setTop (mkF m 7 #[.val (.ref r0), .val .null, .unset] [])) _
    refine XS.iconst X0.here hx rfl (hb hby d4_7) ?_
    exact k)
  obtain ⟨fs, hr, hrun, hended, hW, hsame⟩ := X0.leave (v := some (.int (0 : Int32))) (fun h => by rw [Bd.returns] at h; cases h)
  refine ⟨_, _, ks2 _ ?_, hrun, hended, _, _, rfl, ?_, ⟨_, rfl⟩, hW, hsame.mono (by decide) (by decide)⟩
  · exact retN X0 hx (t := .boolean) Bd.returns (by simp) (hb hby d4_8) hr
  · show Q4n Z r0 h0 n0 _ s₁.heap _
    rw [e0]
    exact ⟨rfl, N0, rfl⟩
theorem ef_4l (m : MethodId) (x0 : Addr) (x1 : Addr) : entryFrame m #[(.ref x0), (.ref x1)] 3 = mkF m 0 #[.val (.ref x0), .val (.ref x1), .unset] [] := by first | (simp [entryFrame, mkF, argsToLocals, Value.category]; done) | rfl
def Q4l (Z : State) (r0 : Addr) (r1 : Addr) (h0 : Heap) (n0 : Nat) (v : Option Value) (h : Heap) (L : List Loc) : Prop := v = some (.int (0 : Int32)) ∧ Fr n0 L ∧ h = h0
set_option maxRecDepth 65536 in
set_option maxHeartbeats 40000000 in
theorem rm4l (l : Launch) (Z : State) (a0 : Array Value) (hw : ∀ d ∈ tables_1, d.before a0 Z = true) (ws : List Jvm.Cond) (r0 : Addr) (r1 : Addr) (h0 : Heap) (n0 : Nat) (Z0 : n0 ≤ h0.size) (E1 : Exa Z h0 r1 "java/lang/Long") (NL : ∃ c t, Z.vm.findClass "java/lang/Long" = some c ∧ Z.vm.findClass "com/example/thin_feed/thinfeed/model/Post" = some t ∧ Z.vm.assignable c t = false) :
    MetFree l (⟨"com/example/thin_feed/thinfeed/model/Post", "equals", "(Ljava/lang/Object;)Z"⟩ : MethodName) (head1 (Jvm.Cond.code (⟨"com/example/thin_feed/thinfeed/model/Post", "equals", "(Ljava/lang/Object;)Z"⟩ : MethodName) prog_8_method_5_code 3 (some .boolean) :: ws) ({ frames := 0, cells := 0, slots := 0, locals := 0 } : Room)) (fun a U => a = #[(.ref r0), (.ref r1)] ∧ Z.Warmed39 U.vm ∧ U.heap = h0) (fun _ _ _ _ _ => True) (fun _ U o U' => ∃ v L, o = .returned v ∧ Q4l Z r0 r1 h0 n0 v U'.heap L ∧ FrameEnd U o U' L ({ frames := 0, cells := 0, slots := 0, locals := 0 } : Room).cells ({ frames := 0, cells := 0, slots := 0, locals := 0 } : Room).slots) := by
  refine MetFree.of_bodySF (plainFor_of_name pn_4) hisR ?_
  intro p e s m args below meth c s₁ Bd hml0 hP hK
  obtain ⟨rfl, hZ, hh⟩ := hP
  have hx := Bd.exec
  have hby := Bd.bytes
  have hml : c.maxLocals = 3 := hml0
  have hown : s.vm.findClass "com/example/thin_feed/thinfeed/model/Post" = some m.cls := findClass_of_methodNamed Bd.named
  have hnm := (name_of_methodNamed Bd.named Bd.method).1
  have X0 : Stand p l e ({ frames := 0, cells := 0, slots := 0, locals := 0 } : Room) s m #[(.ref r0), (.ref r1)] below meth c s₁ [] 0 0 := Stand.of_body Bd
  have e0 : s₁.heap = h0 := by rw [← hh, Bd.state]; rfl
  have N0 := Fr.nil n0
  have k0 : own_R p e below (s₁.setTop (entryFrame m #[(.ref r0), (.ref r1)] 3)) (s₁.setTop (mkF m 0 #[.val (.ref r0), .val (.ref r1), .unset] [])) := fun t k => castTop (ef_4l m r0 r1) k
  have ks1 : own_R p e below (s₁.setTop (entryFrame m #[(.ref r0), (.ref r1)] 3)) (s₁.setTop (mkF m 1 #[.val (.ref r0), .val (.ref r1), .unset] [(.ref r1)])) := fun t k => k0 t (by
    show Steps p.tables e below (s₁.setTop (mkF m 0 #[.val (.ref r0), .val (.ref r1), .unset] [])) _
    refine XS.aloadN X0.here hx rfl (hb hby d4_0) rfl rfl ?_
    exact k)
  obtain ⟨T2, X2, e2, st2⟩ := instNo X0 hx hZ hown (hw _ (List.mem_of_getElem? (i := 25) rfl)) e0 E1 NL (g := (mkF m 1 #[.val (.ref r0), .val (.ref r1), .unset] [(.ref r1)])) rfl rfl (hb hby d4_1)
  have ks3 : own_R p e below (s₁.setTop (entryFrame m #[(.ref r0), (.ref r1)] 3)) (T2.setTop (mkF m 4 #[.val (.ref r0), .val (.ref r1), .unset] [(.int (0 : Int32))])) := fun t k => ks1 t (st2 t k)
  have ks4 : own_R p e below (s₁.setTop (entryFrame m #[(.ref r0), (.ref r1)] 3)) (T2.setTop (mkF m 8 #[.val (.ref r0), .val (.ref r1), .unset] [(.int (0 : Int32))])) := fun t k => ks3 t (by
    show Steps p.tables e below (T2.setTop (mkF m 4 #[.val (.ref r0), .val (.ref r1), .unset] [(.int (0 : Int32))])) _
    refine XS.ifNo X2.here hx rfl (hb hby d4_4) rfl ((if0 _ _).trans (teq (by decide)).2) ?_
    show Steps p.tables e below (T2.setTop (mkF m 7 #[.val (.ref r0), .val (.ref r1), .unset] [])) _
    refine XS.iconst X2.here hx rfl (hb hby d4_7) ?_
    exact k)
  obtain ⟨fs, hr, hrun, hended, hW, hsame⟩ := X2.leave (v := some (.int (0 : Int32))) (fun h => by rw [Bd.returns] at h; cases h)
  refine ⟨_, _, ks4 _ ?_, hrun, hended, _, _, rfl, ?_, ⟨_, rfl⟩, hW, hsame.mono (by decide) (by decide)⟩
  · exact retN X2 hx (t := .boolean) Bd.returns (by simp) (hb hby d4_8) hr
  · show Q4l Z r0 r1 h0 n0 _ T2.heap _
    rw [e2]
    exact ⟨rfl, N0, rfl⟩
theorem d4_9 : decode prog_8_method_5_code 9 = .ok (.aload_n 1, 1) := by decide +kernel
theorem d4_10 : decode prog_8_method_5_code 10 = .ok (.checkcast 8, 3) := by decide +kernel
theorem d4_13 : decode prog_8_method_5_code 13 = .ok (.astore_n 2, 1) := by decide +kernel
theorem d4_14 : decode prog_8_method_5_code 14 = .ok (.aload_n 0, 1) := by decide +kernel
theorem d4_15 : decode prog_8_method_5_code 15 = .ok (.getfield 7, 3) := by decide +kernel
theorem d4_18 : decode prog_8_method_5_code 18 = .ok (.aload_n 2, 1) := by decide +kernel
theorem d4_19 : decode prog_8_method_5_code 19 = .ok (.getfield 7, 3) := by decide +kernel
theorem d4_22 : decode prog_8_method_5_code 22 = .ok (.lcmp, 1) := by decide +kernel
theorem d4_23 : decode prog_8_method_5_code 23 = .ok (.ifCond .ne 31, 3) := by decide +kernel
theorem d4_26 : decode prog_8_method_5_code 26 = .ok (.aload_n 0, 1) := by decide +kernel
theorem d4_27 : decode prog_8_method_5_code 27 = .ok (.getfield 13, 3) := by decide +kernel
theorem d4_30 : decode prog_8_method_5_code 30 = .ok (.aload_n 2, 1) := by decide +kernel
theorem d4_31 : decode prog_8_method_5_code 31 = .ok (.getfield 13, 3) := by decide +kernel
theorem d4_34 : decode prog_8_method_5_code 34 = .ok (.lcmp, 1) := by decide +kernel
theorem d4_35 : decode prog_8_method_5_code 35 = .ok (.ifCond .ne 19, 3) := by decide +kernel
theorem d4_38 : decode prog_8_method_5_code 38 = .ok (.aload_n 0, 1) := by decide +kernel
theorem d4_39 : decode prog_8_method_5_code 39 = .ok (.getfield 16, 3) := by decide +kernel
theorem d4_42 : decode prog_8_method_5_code 42 = .ok (.aload_n 2, 1) := by decide +kernel
theorem d4_43 : decode prog_8_method_5_code 43 = .ok (.getfield 16, 3) := by decide +kernel
theorem d4_46 : decode prog_8_method_5_code 46 = .ok (.lcmp, 1) := by decide +kernel
theorem d4_47 : decode prog_8_method_5_code 47 = .ok (.ifCond .ne 7, 3) := by decide +kernel
theorem d4_50 : decode prog_8_method_5_code 50 = .ok (.iconst 1, 1) := by decide +kernel
theorem d4_51 : decode prog_8_method_5_code 51 = .ok (.goto 4, 3) := by decide +kernel
theorem d4_55 : decode prog_8_method_5_code 55 = .ok (.ireturn, 1) := by decide +kernel
theorem ef_4s (m : MethodId) (x0 : Addr) (x1 : Addr) : entryFrame m #[(.ref x0), (.ref x1)] 3 = mkF m 0 #[.val (.ref x0), .val (.ref x1), .unset] [] := by first | (simp [entryFrame, mkF, argsToLocals, Value.category]; done) | rfl
def Q4s (Z : State) (r0 : Addr) (x0 : Int64) (x1 : Int64) (x2 : Int64) (h0 : Heap) (n0 : Nat) (v : Option Value) (h : Heap) (L : List Loc) : Prop := v = some (.int (1 : Int32)) ∧ Fr n0 L ∧ h = h0
set_option maxRecDepth 65536 in
set_option maxHeartbeats 40000000 in
theorem rm4s (l : Launch) (Z : State) (a0 : Array Value) (hw : ∀ d ∈ tables_1, d.before a0 Z = true) (ws : List Jvm.Cond) (r0 : Addr) (x0 : Int64) (x1 : Int64) (x2 : Int64) (h0 : Heap) (n0 : Nat) (Z0 : n0 ≤ h0.size) (E_r0 : Exa Z h0 r0 "com/example/thin_feed/thinfeed/model/Post") (F_r0_0 : Fld Z h0 r0 "com/example/thin_feed/thinfeed/model/Post" "id" "J" (.long x0)) (F_r0_1 : Fld Z h0 r0 "com/example/thin_feed/thinfeed/model/Post" "author" "J" (.long x1)) (F_r0_2 : Fld Z h0 r0 "com/example/thin_feed/thinfeed/model/Post" "createdAt" "J" (.long x2)) :
    MetFree l (⟨"com/example/thin_feed/thinfeed/model/Post", "equals", "(Ljava/lang/Object;)Z"⟩ : MethodName) (head1 (Jvm.Cond.code (⟨"com/example/thin_feed/thinfeed/model/Post", "equals", "(Ljava/lang/Object;)Z"⟩ : MethodName) prog_8_method_5_code 3 (some .boolean) :: ws) ({ frames := 0, cells := 0, slots := 0, locals := 0 } : Room)) (fun a U => a = #[(.ref r0), (.ref r0)] ∧ Z.Warmed39 U.vm ∧ U.heap = h0) (fun _ _ _ _ _ => True) (fun _ U o U' => ∃ v L, o = .returned v ∧ Q4s Z r0 x0 x1 x2 h0 n0 v U'.heap L ∧ FrameEnd U o U' L ({ frames := 0, cells := 0, slots := 0, locals := 0 } : Room).cells ({ frames := 0, cells := 0, slots := 0, locals := 0 } : Room).slots) := by
  refine MetFree.of_bodySF (plainFor_of_name pn_4) hisR ?_
  intro p e s m args below meth c s₁ Bd hml0 hP hK
  obtain ⟨rfl, hZ, hh⟩ := hP
  have hx := Bd.exec
  have hby := Bd.bytes
  have hml : c.maxLocals = 3 := hml0
  have hown : s.vm.findClass "com/example/thin_feed/thinfeed/model/Post" = some m.cls := findClass_of_methodNamed Bd.named
  have hnm := (name_of_methodNamed Bd.named Bd.method).1
  have X0 : Stand p l e ({ frames := 0, cells := 0, slots := 0, locals := 0 } : Room) s m #[(.ref r0), (.ref r0)] below meth c s₁ [] 0 0 := Stand.of_body Bd
  have e0 : s₁.heap = h0 := by rw [← hh, Bd.state]; rfl
  have N0 := Fr.nil n0
  have k0 : own_R p e below (s₁.setTop (entryFrame m #[(.ref r0), (.ref r0)] 3)) (s₁.setTop (mkF m 0 #[.val (.ref r0), .val (.ref r0), .unset] [])) := fun t k => castTop (ef_4s m r0 r0) k
  have ks1 : own_R p e below (s₁.setTop (entryFrame m #[(.ref r0), (.ref r0)] 3)) (s₁.setTop (mkF m 1 #[.val (.ref r0), .val (.ref r0), .unset] [(.ref r0)])) := fun t k => k0 t (by
    show Steps p.tables e below (s₁.setTop (mkF m 0 #[.val (.ref r0), .val (.ref r0), .unset] [])) _
    refine XS.aloadN X0.here hx rfl (hb hby d4_0) rfl rfl ?_
    exact k)
  obtain ⟨T2, X2, e2, st2⟩ := instY X0 hx hZ hown (hw _ (List.mem_of_getElem? (i := 25) rfl)) e0 (Ins.self E_r0) (g := (mkF m 1 #[.val (.ref r0), .val (.ref r0), .unset] [(.ref r0)])) rfl rfl (hb hby d4_1)
  have ks3 : own_R p e below (s₁.setTop (entryFrame m #[(.ref r0), (.ref r0)] 3)) (T2.setTop (mkF m 4 #[.val (.ref r0), .val (.ref r0), .unset] [(.int (1 : Int32))])) := fun t k => ks1 t (st2 t k)
  have ks4 : own_R p e below (s₁.setTop (entryFrame m #[(.ref r0), (.ref r0)] 3)) (T2.setTop (mkF m 10 #[.val (.ref r0), .val (.ref r0), .unset] [(.ref r0)])) := fun t k => ks3 t (by
    show Steps p.tables e below (T2.setTop (mkF m 4 #[.val (.ref r0), .val (.ref r0), .unset] [(.int (1 : Int32))])) _
    refine XS.ifYes X2.here hx rfl (pc0 := 4) (pc' := 9) rfl (hb hby d4_4) rfl ((if0 _ _).trans (feq (by decide)).2) (by decide) (by decide) ?_
    show Steps p.tables e below (T2.setTop (mkF m 9 #[.val (.ref r0), .val (.ref r0), .unset] [])) _
    refine XS.aloadN X2.here hx rfl (hb hby d4_9) rfl rfl ?_
    exact k)
  obtain ⟨T5, X5, e5, st5⟩ := castY X2 hx hZ hown (hw _ (List.mem_of_getElem? (i := 25) rfl)) e2 (Ins.self E_r0) (g := (mkF m 10 #[.val (.ref r0), .val (.ref r0), .unset] [(.ref r0)])) rfl rfl (hb hby d4_10)
  have ks6 : own_R p e below (s₁.setTop (entryFrame m #[(.ref r0), (.ref r0)] 3)) (T5.setTop (mkF m 13 #[.val (.ref r0), .val (.ref r0), .unset] [(.ref r0)])) := fun t k => ks4 t (st5 t k)
  have ks7 : own_R p e below (s₁.setTop (entryFrame m #[(.ref r0), (.ref r0)] 3)) (T5.setTop (mkF m 15 #[.val (.ref r0), .val (.ref r0), .val (.ref r0)] [(.ref r0)])) := fun t k => ks6 t (by
    show Steps p.tables e below (T5.setTop (mkF m 13 #[.val (.ref r0), .val (.ref r0), .unset] [(.ref r0)])) _
    refine XS.astoreN X5.here hx rfl (hb hby d4_13) rfl rfl (l' := #[.val (.ref r0), .val (.ref r0), .val (.ref r0)]) rfl ?_
    show Steps p.tables e below (T5.setTop (mkF m 14 #[.val (.ref r0), .val (.ref r0), .val (.ref r0)] [])) _
    refine XS.aloadN X5.here hx rfl (hb hby d4_14) rfl rfl ?_
    exact k)
  obtain ⟨T8, X8, e8, st8⟩ := getF X5 hx hZ hown (host := "") (Or.inl (hw _ (List.mem_of_getElem? (i := 14) rfl))) Via.refl e5 F_r0_0 (g := (mkF m 15 #[.val (.ref r0), .val (.ref r0), .val (.ref r0)] [(.ref r0)])) rfl rfl (hb hby d4_15)
  have ks9 : own_R p e below (s₁.setTop (entryFrame m #[(.ref r0), (.ref r0)] 3)) (T8.setTop (mkF m 18 #[.val (.ref r0), .val (.ref r0), .val (.ref r0)] [(.long x0)])) := fun t k => ks7 t (st8 t k)
  have ks10 : own_R p e below (s₁.setTop (entryFrame m #[(.ref r0), (.ref r0)] 3)) (T8.setTop (mkF m 19 #[.val (.ref r0), .val (.ref r0), .val (.ref r0)] [(.ref r0), (.long x0)])) := fun t k => ks9 t (by
    show Steps p.tables e below (T8.setTop (mkF m 18 #[.val (.ref r0), .val (.ref r0), .val (.ref r0)] [(.long x0)])) _
    refine XS.aloadN X8.here hx rfl (hb hby d4_18) rfl rfl ?_
    exact k)
  obtain ⟨T11, X11, e11, st11⟩ := getF X8 hx hZ hown (host := "") (Or.inl (hw _ (List.mem_of_getElem? (i := 14) rfl))) Via.refl e8 F_r0_0 (g := (mkF m 19 #[.val (.ref r0), .val (.ref r0), .val (.ref r0)] [(.ref r0), (.long x0)])) rfl rfl (hb hby d4_19)
  have ks12 : own_R p e below (s₁.setTop (entryFrame m #[(.ref r0), (.ref r0)] 3)) (T11.setTop (mkF m 22 #[.val (.ref r0), .val (.ref r0), .val (.ref r0)] [(.long x0), (.long x0)])) := fun t k => ks10 t (st11 t k)
  have ks13 : own_R p e below (s₁.setTop (entryFrame m #[(.ref r0), (.ref r0)] 3)) (T11.setTop (mkF m 27 #[.val (.ref r0), .val (.ref r0), .val (.ref r0)] [(.ref r0)])) := fun t k => ks12 t (by
    show Steps p.tables e below (T11.setTop (mkF m 22 #[.val (.ref r0), .val (.ref r0), .val (.ref r0)] [(.long x0), (.long x0)])) _
    refine XS.lcmp X11.here hx rfl (hb hby d4_22) rfl ?_
    show Steps p.tables e below (T11.setTop (mkF m 23 #[.val (.ref r0), .val (.ref r0), .val (.ref r0)] [(.int (lcmpW x0 x0))])) _
    refine XS.ifNo X11.here hx rfl (hb hby d4_23) rfl ((if0 _ _).trans (teq ((lw_eq _ _).mpr rfl)).2) ?_
    show Steps p.tables e below (T11.setTop (mkF m 26 #[.val (.ref r0), .val (.ref r0), .val (.ref r0)] [])) _
    refine XS.aloadN X11.here hx rfl (hb hby d4_26) rfl rfl ?_
    exact k)
  obtain ⟨T14, X14, e14, st14⟩ := getF X11 hx hZ hown (host := "") (Or.inl (hw _ (List.mem_of_getElem? (i := 16) rfl))) Via.refl e11 F_r0_1 (g := (mkF m 27 #[.val (.ref r0), .val (.ref r0), .val (.ref r0)] [(.ref r0)])) rfl rfl (hb hby d4_27)
  have ks15 : own_R p e below (s₁.setTop (entryFrame m #[(.ref r0), (.ref r0)] 3)) (T14.setTop (mkF m 30 #[.val (.ref r0), .val (.ref r0), .val (.ref r0)] [(.long x1)])) := fun t k => ks13 t (st14 t k)
  have ks16 : own_R p e below (s₁.setTop (entryFrame m #[(.ref r0), (.ref r0)] 3)) (T14.setTop (mkF m 31 #[.val (.ref r0), .val (.ref r0), .val (.ref r0)] [(.ref r0), (.long x1)])) := fun t k => ks15 t (by
    show Steps p.tables e below (T14.setTop (mkF m 30 #[.val (.ref r0), .val (.ref r0), .val (.ref r0)] [(.long x1)])) _
    refine XS.aloadN X14.here hx rfl (hb hby d4_30) rfl rfl ?_
    exact k)
  obtain ⟨T17, X17, e17, st17⟩ := getF X14 hx hZ hown (host := "") (Or.inl (hw _ (List.mem_of_getElem? (i := 16) rfl))) Via.refl e14 F_r0_1 (g := (mkF m 31 #[.val (.ref r0), .val (.ref r0), .val (.ref r0)] [(.ref r0), (.long x1)])) rfl rfl (hb hby d4_31)
  have ks18 : own_R p e below (s₁.setTop (entryFrame m #[(.ref r0), (.ref r0)] 3)) (T17.setTop (mkF m 34 #[.val (.ref r0), .val (.ref r0), .val (.ref r0)] [(.long x1), (.long x1)])) := fun t k => ks16 t (st17 t k)
  have ks19 : own_R p e below (s₁.setTop (entryFrame m #[(.ref r0), (.ref r0)] 3)) (T17.setTop (mkF m 39 #[.val (.ref r0), .val (.ref r0), .val (.ref r0)] [(.ref r0)])) := fun t k => ks18 t (by
    show Steps p.tables e below (T17.setTop (mkF m 34 #[.val (.ref r0), .val (.ref r0), .val (.ref r0)] [(.long x1), (.long x1)])) _
    refine XS.lcmp X17.here hx rfl (hb hby d4_34) rfl ?_
    show Steps p.tables e below (T17.setTop (mkF m 35 #[.val (.ref r0), .val (.ref r0), .val (.ref r0)] [(.int (lcmpW x1 x1))])) _
    refine XS.ifNo X17.here hx rfl (hb hby d4_35) rfl ((if0 _ _).trans (teq ((lw_eq _ _).mpr rfl)).2) ?_
    show Steps p.tables e below (T17.setTop (mkF m 38 #[.val (.ref r0), .val (.ref r0), .val (.ref r0)] [])) _
    refine XS.aloadN X17.here hx rfl (hb hby d4_38) rfl rfl ?_
    exact k)
  obtain ⟨T20, X20, e20, st20⟩ := getF X17 hx hZ hown (host := "") (Or.inl (hw _ (List.mem_of_getElem? (i := 18) rfl))) Via.refl e17 F_r0_2 (g := (mkF m 39 #[.val (.ref r0), .val (.ref r0), .val (.ref r0)] [(.ref r0)])) rfl rfl (hb hby d4_39)
  have ks21 : own_R p e below (s₁.setTop (entryFrame m #[(.ref r0), (.ref r0)] 3)) (T20.setTop (mkF m 42 #[.val (.ref r0), .val (.ref r0), .val (.ref r0)] [(.long x2)])) := fun t k => ks19 t (st20 t k)
  have ks22 : own_R p e below (s₁.setTop (entryFrame m #[(.ref r0), (.ref r0)] 3)) (T20.setTop (mkF m 43 #[.val (.ref r0), .val (.ref r0), .val (.ref r0)] [(.ref r0), (.long x2)])) := fun t k => ks21 t (by
    show Steps p.tables e below (T20.setTop (mkF m 42 #[.val (.ref r0), .val (.ref r0), .val (.ref r0)] [(.long x2)])) _
    refine XS.aloadN X20.here hx rfl (hb hby d4_42) rfl rfl ?_
    exact k)
  obtain ⟨T23, X23, e23, st23⟩ := getF X20 hx hZ hown (host := "") (Or.inl (hw _ (List.mem_of_getElem? (i := 18) rfl))) Via.refl e20 F_r0_2 (g := (mkF m 43 #[.val (.ref r0), .val (.ref r0), .val (.ref r0)] [(.ref r0), (.long x2)])) rfl rfl (hb hby d4_43)
  have ks24 : own_R p e below (s₁.setTop (entryFrame m #[(.ref r0), (.ref r0)] 3)) (T23.setTop (mkF m 46 #[.val (.ref r0), .val (.ref r0), .val (.ref r0)] [(.long x2), (.long x2)])) := fun t k => ks22 t (st23 t k)
  have ks25 : own_R p e below (s₁.setTop (entryFrame m #[(.ref r0), (.ref r0)] 3)) (T23.setTop (mkF m 55 #[.val (.ref r0), .val (.ref r0), .val (.ref r0)] [(.int (1 : Int32))])) := fun t k => ks24 t (by
    show Steps p.tables e below (T23.setTop (mkF m 46 #[.val (.ref r0), .val (.ref r0), .val (.ref r0)] [(.long x2), (.long x2)])) _
    refine XS.lcmp X23.here hx rfl (hb hby d4_46) rfl ?_
    show Steps p.tables e below (T23.setTop (mkF m 47 #[.val (.ref r0), .val (.ref r0), .val (.ref r0)] [(.int (lcmpW x2 x2))])) _
    refine XS.ifNo X23.here hx rfl (hb hby d4_47) rfl ((if0 _ _).trans (teq ((lw_eq _ _).mpr rfl)).2) ?_
    show Steps p.tables e below (T23.setTop (mkF m 50 #[.val (.ref r0), .val (.ref r0), .val (.ref r0)] [])) _
    refine XS.iconst X23.here hx rfl (hb hby d4_50) ?_
    show Steps p.tables e below (T23.setTop (mkF m 51 #[.val (.ref r0), .val (.ref r0), .val (.ref r0)] [(.int (1 : Int32))])) _
    refine XS.goto X23.here hx rfl (pc0 := 51) (pc' := 55) rfl (hb hby d4_51) (by decide) (by decide) ?_
    exact k)
  obtain ⟨fs, hr, hrun, hended, hW, hsame⟩ := X23.leave (v := some (.int (1 : Int32))) (fun h => by rw [Bd.returns] at h; cases h)
  refine ⟨_, _, ks25 _ ?_, hrun, hended, _, _, rfl, ?_, ⟨_, rfl⟩, hW, hsame.mono (by decide) (by decide)⟩
  · exact retN X23 hx (t := .boolean) Bd.returns (by simp) (hb hby d4_55) hr
  · show Q4s Z r0 x0 x1 x2 h0 n0 _ T23.heap _
    rw [e23]
    exact ⟨rfl, N0, rfl⟩
def own_eq (x0 x1 x2 y0 y1 y2 : Int64) : Int32 := if x0 = y0 then (if x1 = y1 then (if x2 = y2 then (1 : Int32) else (0 : Int32)) else (0 : Int32)) else (0 : Int32)
theorem own_sym (x0 x1 x2 y0 y1 y2 : Int64) : own_eq x0 x1 x2 y0 y1 y2 = own_eq y0 y1 y2 x0 x1 x2 := by
  unfold own_eq; simp only [@eq_comm _ y0 x0, @eq_comm _ y1 x1, @eq_comm _ y2 x2]
theorem d4_54 : decode prog_8_method_5_code 54 = .ok (.iconst 0, 1) := by decide +kernel
theorem ef_4p (m : MethodId) (x0 : Addr) (x1 : Addr) : entryFrame m #[(.ref x0), (.ref x1)] 3 = mkF m 0 #[.val (.ref x0), .val (.ref x1), .unset] [] := by first | (simp [entryFrame, mkF, argsToLocals, Value.category]; done) | rfl
def Q4p (Z : State) (r0 : Addr) (r1 : Addr) (x0 : Int64) (x1 : Int64) (x2 : Int64) (y0 : Int64) (y1 : Int64) (y2 : Int64) (h0 : Heap) (n0 : Nat) (v : Option Value) (h : Heap) (L : List Loc) : Prop := v = some (.int (own_eq x0 x1 x2 y0 y1 y2)) ∧ Fr n0 L ∧ h = h0
set_option maxRecDepth 65536 in
set_option maxHeartbeats 40000000 in
theorem rm4p (l : Launch) (Z : State) (a0 : Array Value) (hw : ∀ d ∈ tables_1, d.before a0 Z = true) (ws : List Jvm.Cond) (r0 : Addr) (r1 : Addr) (x0 : Int64) (x1 : Int64) (x2 : Int64) (y0 : Int64) (y1 : Int64) (y2 : Int64) (h0 : Heap) (n0 : Nat) (Z0 : n0 ≤ h0.size) (E_r0 : Exa Z h0 r0 "com/example/thin_feed/thinfeed/model/Post") (F_r0_0 : Fld Z h0 r0 "com/example/thin_feed/thinfeed/model/Post" "id" "J" (.long x0)) (F_r0_1 : Fld Z h0 r0 "com/example/thin_feed/thinfeed/model/Post" "author" "J" (.long x1)) (F_r0_2 : Fld Z h0 r0 "com/example/thin_feed/thinfeed/model/Post" "createdAt" "J" (.long x2)) (E_r1 : Exa Z h0 r1 "com/example/thin_feed/thinfeed/model/Post") (F_r1_0 : Fld Z h0 r1 "com/example/thin_feed/thinfeed/model/Post" "id" "J" (.long y0)) (F_r1_1 : Fld Z h0 r1 "com/example/thin_feed/thinfeed/model/Post" "author" "J" (.long y1)) (F_r1_2 : Fld Z h0 r1 "com/example/thin_feed/thinfeed/model/Post" "createdAt" "J" (.long y2)) :
    MetFree l (⟨"com/example/thin_feed/thinfeed/model/Post", "equals", "(Ljava/lang/Object;)Z"⟩ : MethodName) (head1 (Jvm.Cond.code (⟨"com/example/thin_feed/thinfeed/model/Post", "equals", "(Ljava/lang/Object;)Z"⟩ : MethodName) prog_8_method_5_code 3 (some .boolean) :: ws) ({ frames := 0, cells := 0, slots := 0, locals := 0 } : Room)) (fun a U => a = #[(.ref r0), (.ref r1)] ∧ Z.Warmed39 U.vm ∧ U.heap = h0) (fun _ _ _ _ _ => True) (fun _ U o U' => ∃ v L, o = .returned v ∧ Q4p Z r0 r1 x0 x1 x2 y0 y1 y2 h0 n0 v U'.heap L ∧ FrameEnd U o U' L ({ frames := 0, cells := 0, slots := 0, locals := 0 } : Room).cells ({ frames := 0, cells := 0, slots := 0, locals := 0 } : Room).slots) := by
  refine MetFree.of_bodySF (plainFor_of_name pn_4) hisR ?_
  intro p e s m args below meth c s₁ Bd hml0 hP hK
  obtain ⟨rfl, hZ, hh⟩ := hP
  have hx := Bd.exec
  have hby := Bd.bytes
  have hml : c.maxLocals = 3 := hml0
  have hown : s.vm.findClass "com/example/thin_feed/thinfeed/model/Post" = some m.cls := findClass_of_methodNamed Bd.named
  have hnm := (name_of_methodNamed Bd.named Bd.method).1
  have X0 : Stand p l e ({ frames := 0, cells := 0, slots := 0, locals := 0 } : Room) s m #[(.ref r0), (.ref r1)] below meth c s₁ [] 0 0 := Stand.of_body Bd
  have e0 : s₁.heap = h0 := by rw [← hh, Bd.state]; rfl
  have N0 := Fr.nil n0
  have k0 : own_R p e below (s₁.setTop (entryFrame m #[(.ref r0), (.ref r1)] 3)) (s₁.setTop (mkF m 0 #[.val (.ref r0), .val (.ref r1), .unset] [])) := fun t k => castTop (ef_4p m r0 r1) k
  have ks1 : own_R p e below (s₁.setTop (entryFrame m #[(.ref r0), (.ref r1)] 3)) (s₁.setTop (mkF m 1 #[.val (.ref r0), .val (.ref r1), .unset] [(.ref r1)])) := fun t k => k0 t (by
    show Steps p.tables e below (s₁.setTop (mkF m 0 #[.val (.ref r0), .val (.ref r1), .unset] [])) _
    refine XS.aloadN X0.here hx rfl (hb hby d4_0) rfl rfl ?_
    exact k)
  obtain ⟨T2, X2, e2, st2⟩ := instY X0 hx hZ hown (hw _ (List.mem_of_getElem? (i := 25) rfl)) e0 (Ins.self E_r1) (g := (mkF m 1 #[.val (.ref r0), .val (.ref r1), .unset] [(.ref r1)])) rfl rfl (hb hby d4_1)
  have ks3 : own_R p e below (s₁.setTop (entryFrame m #[(.ref r0), (.ref r1)] 3)) (T2.setTop (mkF m 4 #[.val (.ref r0), .val (.ref r1), .unset] [(.int (1 : Int32))])) := fun t k => ks1 t (st2 t k)
  have ks4 : own_R p e below (s₁.setTop (entryFrame m #[(.ref r0), (.ref r1)] 3)) (T2.setTop (mkF m 10 #[.val (.ref r0), .val (.ref r1), .unset] [(.ref r1)])) := fun t k => ks3 t (by
    show Steps p.tables e below (T2.setTop (mkF m 4 #[.val (.ref r0), .val (.ref r1), .unset] [(.int (1 : Int32))])) _
    refine XS.ifYes X2.here hx rfl (pc0 := 4) (pc' := 9) rfl (hb hby d4_4) rfl ((if0 _ _).trans (feq (by decide)).2) (by decide) (by decide) ?_
    show Steps p.tables e below (T2.setTop (mkF m 9 #[.val (.ref r0), .val (.ref r1), .unset] [])) _
    refine XS.aloadN X2.here hx rfl (hb hby d4_9) rfl rfl ?_
    exact k)
  obtain ⟨T5, X5, e5, st5⟩ := castY X2 hx hZ hown (hw _ (List.mem_of_getElem? (i := 25) rfl)) e2 (Ins.self E_r1) (g := (mkF m 10 #[.val (.ref r0), .val (.ref r1), .unset] [(.ref r1)])) rfl rfl (hb hby d4_10)
  have ks6 : own_R p e below (s₁.setTop (entryFrame m #[(.ref r0), (.ref r1)] 3)) (T5.setTop (mkF m 13 #[.val (.ref r0), .val (.ref r1), .unset] [(.ref r1)])) := fun t k => ks4 t (st5 t k)
  have ks7 : own_R p e below (s₁.setTop (entryFrame m #[(.ref r0), (.ref r1)] 3)) (T5.setTop (mkF m 15 #[.val (.ref r0), .val (.ref r1), .val (.ref r1)] [(.ref r0)])) := fun t k => ks6 t (by
    show Steps p.tables e below (T5.setTop (mkF m 13 #[.val (.ref r0), .val (.ref r1), .unset] [(.ref r1)])) _
    refine XS.astoreN X5.here hx rfl (hb hby d4_13) rfl rfl (l' := #[.val (.ref r0), .val (.ref r1), .val (.ref r1)]) rfl ?_
    show Steps p.tables e below (T5.setTop (mkF m 14 #[.val (.ref r0), .val (.ref r1), .val (.ref r1)] [])) _
    refine XS.aloadN X5.here hx rfl (hb hby d4_14) rfl rfl ?_
    exact k)
  obtain ⟨T8, X8, e8, st8⟩ := getF X5 hx hZ hown (host := "") (Or.inl (hw _ (List.mem_of_getElem? (i := 14) rfl))) Via.refl e5 F_r0_0 (g := (mkF m 15 #[.val (.ref r0), .val (.ref r1), .val (.ref r1)] [(.ref r0)])) rfl rfl (hb hby d4_15)
  have ks9 : own_R p e below (s₁.setTop (entryFrame m #[(.ref r0), (.ref r1)] 3)) (T8.setTop (mkF m 18 #[.val (.ref r0), .val (.ref r1), .val (.ref r1)] [(.long x0)])) := fun t k => ks7 t (st8 t k)
  have ks10 : own_R p e below (s₁.setTop (entryFrame m #[(.ref r0), (.ref r1)] 3)) (T8.setTop (mkF m 19 #[.val (.ref r0), .val (.ref r1), .val (.ref r1)] [(.ref r1), (.long x0)])) := fun t k => ks9 t (by
    show Steps p.tables e below (T8.setTop (mkF m 18 #[.val (.ref r0), .val (.ref r1), .val (.ref r1)] [(.long x0)])) _
    refine XS.aloadN X8.here hx rfl (hb hby d4_18) rfl rfl ?_
    exact k)
  obtain ⟨T11, X11, e11, st11⟩ := getF X8 hx hZ hown (host := "") (Or.inl (hw _ (List.mem_of_getElem? (i := 14) rfl))) Via.refl e8 F_r1_0 (g := (mkF m 19 #[.val (.ref r0), .val (.ref r1), .val (.ref r1)] [(.ref r1), (.long x0)])) rfl rfl (hb hby d4_19)
  have ks12 : own_R p e below (s₁.setTop (entryFrame m #[(.ref r0), (.ref r1)] 3)) (T11.setTop (mkF m 22 #[.val (.ref r0), .val (.ref r1), .val (.ref r1)] [(.long y0), (.long x0)])) := fun t k => ks10 t (st11 t k)
  have ks13 : own_R p e below (s₁.setTop (entryFrame m #[(.ref r0), (.ref r1)] 3)) (T11.setTop (mkF m 23 #[.val (.ref r0), .val (.ref r1), .val (.ref r1)] [(.int (lcmpW x0 y0))])) := fun t k => ks12 t (by
    show Steps p.tables e below (T11.setTop (mkF m 22 #[.val (.ref r0), .val (.ref r1), .val (.ref r1)] [(.long y0), (.long x0)])) _
    refine XS.lcmp X11.here hx rfl (hb hby d4_22) rfl ?_
    exact k)
  by_cases hc14 : x0 = y0
  · skip
    have ks15 : own_R p e below (s₁.setTop (entryFrame m #[(.ref r0), (.ref r1)] 3)) (T11.setTop (mkF m 27 #[.val (.ref r0), .val (.ref r1), .val (.ref r1)] [(.ref r0)])) := fun t k => ks13 t (by
      show Steps p.tables e below (T11.setTop (mkF m 23 #[.val (.ref r0), .val (.ref r1), .val (.ref r1)] [(.int (lcmpW x0 y0))])) _
      refine XS.ifNo X11.here hx rfl (hb hby d4_23) rfl ((if0 _ _).trans (teq ((lw_eq _ _).mpr hc14)).2) ?_
      show Steps p.tables e below (T11.setTop (mkF m 26 #[.val (.ref r0), .val (.ref r1), .val (.ref r1)] [])) _
      refine XS.aloadN X11.here hx rfl (hb hby d4_26) rfl rfl ?_
      exact k)
    obtain ⟨T16, X16, e16, st16⟩ := getF X11 hx hZ hown (host := "") (Or.inl (hw _ (List.mem_of_getElem? (i := 16) rfl))) Via.refl e11 F_r0_1 (g := (mkF m 27 #[.val (.ref r0), .val (.ref r1), .val (.ref r1)] [(.ref r0)])) rfl rfl (hb hby d4_27)
    have ks17 : own_R p e below (s₁.setTop (entryFrame m #[(.ref r0), (.ref r1)] 3)) (T16.setTop (mkF m 30 #[.val (.ref r0), .val (.ref r1), .val (.ref r1)] [(.long x1)])) := fun t k => ks15 t (st16 t k)
    have ks18 : own_R p e below (s₁.setTop (entryFrame m #[(.ref r0), (.ref r1)] 3)) (T16.setTop (mkF m 31 #[.val (.ref r0), .val (.ref r1), .val (.ref r1)] [(.ref r1), (.long x1)])) := fun t k => ks17 t (by
      show Steps p.tables e below (T16.setTop (mkF m 30 #[.val (.ref r0), .val (.ref r1), .val (.ref r1)] [(.long x1)])) _
      refine XS.aloadN X16.here hx rfl (hb hby d4_30) rfl rfl ?_
      exact k)
    obtain ⟨T19, X19, e19, st19⟩ := getF X16 hx hZ hown (host := "") (Or.inl (hw _ (List.mem_of_getElem? (i := 16) rfl))) Via.refl e16 F_r1_1 (g := (mkF m 31 #[.val (.ref r0), .val (.ref r1), .val (.ref r1)] [(.ref r1), (.long x1)])) rfl rfl (hb hby d4_31)
    have ks20 : own_R p e below (s₁.setTop (entryFrame m #[(.ref r0), (.ref r1)] 3)) (T19.setTop (mkF m 34 #[.val (.ref r0), .val (.ref r1), .val (.ref r1)] [(.long y1), (.long x1)])) := fun t k => ks18 t (st19 t k)
    have ks21 : own_R p e below (s₁.setTop (entryFrame m #[(.ref r0), (.ref r1)] 3)) (T19.setTop (mkF m 35 #[.val (.ref r0), .val (.ref r1), .val (.ref r1)] [(.int (lcmpW x1 y1))])) := fun t k => ks20 t (by
      show Steps p.tables e below (T19.setTop (mkF m 34 #[.val (.ref r0), .val (.ref r1), .val (.ref r1)] [(.long y1), (.long x1)])) _
      refine XS.lcmp X19.here hx rfl (hb hby d4_34) rfl ?_
      exact k)
    by_cases hc22 : x1 = y1
    · skip
      have ks23 : own_R p e below (s₁.setTop (entryFrame m #[(.ref r0), (.ref r1)] 3)) (T19.setTop (mkF m 39 #[.val (.ref r0), .val (.ref r1), .val (.ref r1)] [(.ref r0)])) := fun t k => ks21 t (by
        show Steps p.tables e below (T19.setTop (mkF m 35 #[.val (.ref r0), .val (.ref r1), .val (.ref r1)] [(.int (lcmpW x1 y1))])) _
        refine XS.ifNo X19.here hx rfl (hb hby d4_35) rfl ((if0 _ _).trans (teq ((lw_eq _ _).mpr hc22)).2) ?_
        show Steps p.tables e below (T19.setTop (mkF m 38 #[.val (.ref r0), .val (.ref r1), .val (.ref r1)] [])) _
        refine XS.aloadN X19.here hx rfl (hb hby d4_38) rfl rfl ?_
        exact k)
      obtain ⟨T24, X24, e24, st24⟩ := getF X19 hx hZ hown (host := "") (Or.inl (hw _ (List.mem_of_getElem? (i := 18) rfl))) Via.refl e19 F_r0_2 (g := (mkF m 39 #[.val (.ref r0), .val (.ref r1), .val (.ref r1)] [(.ref r0)])) rfl rfl (hb hby d4_39)
      have ks25 : own_R p e below (s₁.setTop (entryFrame m #[(.ref r0), (.ref r1)] 3)) (T24.setTop (mkF m 42 #[.val (.ref r0), .val (.ref r1), .val (.ref r1)] [(.long x2)])) := fun t k => ks23 t (st24 t k)
      have ks26 : own_R p e below (s₁.setTop (entryFrame m #[(.ref r0), (.ref r1)] 3)) (T24.setTop (mkF m 43 #[.val (.ref r0), .val (.ref r1), .val (.ref r1)] [(.ref r1), (.long x2)])) := fun t k => ks25 t (by
        show Steps p.tables e below (T24.setTop (mkF m 42 #[.val (.ref r0), .val (.ref r1), .val (.ref r1)] [(.long x2)])) _
        refine XS.aloadN X24.here hx rfl (hb hby d4_42) rfl rfl ?_
        exact k)
      obtain ⟨T27, X27, e27, st27⟩ := getF X24 hx hZ hown (host := "") (Or.inl (hw _ (List.mem_of_getElem? (i := 18) rfl))) Via.refl e24 F_r1_2 (g := (mkF m 43 #[.val (.ref r0), .val (.ref r1), .val (.ref r1)] [(.ref r1), (.long x2)])) rfl rfl (hb hby d4_43)
      have ks28 : own_R p e below (s₁.setTop (entryFrame m #[(.ref r0), (.ref r1)] 3)) (T27.setTop (mkF m 46 #[.val (.ref r0), .val (.ref r1), .val (.ref r1)] [(.long y2), (.long x2)])) := fun t k => ks26 t (st27 t k)
      have ks29 : own_R p e below (s₁.setTop (entryFrame m #[(.ref r0), (.ref r1)] 3)) (T27.setTop (mkF m 47 #[.val (.ref r0), .val (.ref r1), .val (.ref r1)] [(.int (lcmpW x2 y2))])) := fun t k => ks28 t (by
        show Steps p.tables e below (T27.setTop (mkF m 46 #[.val (.ref r0), .val (.ref r1), .val (.ref r1)] [(.long y2), (.long x2)])) _
        refine XS.lcmp X27.here hx rfl (hb hby d4_46) rfl ?_
        exact k)
      by_cases hc30 : x2 = y2
      · skip
        have ks31 : own_R p e below (s₁.setTop (entryFrame m #[(.ref r0), (.ref r1)] 3)) (T27.setTop (mkF m 55 #[.val (.ref r0), .val (.ref r1), .val (.ref r1)] [(.int (1 : Int32))])) := fun t k => ks29 t (by
          show Steps p.tables e below (T27.setTop (mkF m 47 #[.val (.ref r0), .val (.ref r1), .val (.ref r1)] [(.int (lcmpW x2 y2))])) _
          refine XS.ifNo X27.here hx rfl (hb hby d4_47) rfl ((if0 _ _).trans (teq ((lw_eq _ _).mpr hc30)).2) ?_
          show Steps p.tables e below (T27.setTop (mkF m 50 #[.val (.ref r0), .val (.ref r1), .val (.ref r1)] [])) _
          refine XS.iconst X27.here hx rfl (hb hby d4_50) ?_
          show Steps p.tables e below (T27.setTop (mkF m 51 #[.val (.ref r0), .val (.ref r1), .val (.ref r1)] [(.int (1 : Int32))])) _
          refine XS.goto X27.here hx rfl (pc0 := 51) (pc' := 55) rfl (hb hby d4_51) (by decide) (by decide) ?_
          exact k)
        obtain ⟨fs, hr, hrun, hended, hW, hsame⟩ := X27.leave (v := some (.int (1 : Int32))) (fun h => by rw [Bd.returns] at h; cases h)
        refine ⟨_, _, ks31 _ ?_, hrun, hended, _, _, rfl, ?_, ⟨_, rfl⟩, hW, hsame.mono (by decide) (by decide)⟩
        · exact retN X27 hx (t := .boolean) Bd.returns (by simp) (hb hby d4_55) hr
        · show Q4p Z r0 r1 x0 x1 x2 y0 y1 y2 h0 n0 _ T27.heap _
          rw [e27]
          refine ⟨?_, N0, rfl⟩
          rw [own_eq, if_pos hc14, if_pos hc22, if_pos hc30]
      · skip
        have ks32 : own_R p e below (s₁.setTop (entryFrame m #[(.ref r0), (.ref r1)] 3)) (T27.setTop (mkF m 55 #[.val (.ref r0), .val (.ref r1), .val (.ref r1)] [(.int (0 : Int32))])) := fun t k => ks29 t (by
          show Steps p.tables e below (T27.setTop (mkF m 47 #[.val (.ref r0), .val (.ref r1), .val (.ref r1)] [(.int (lcmpW x2 y2))])) _
          refine XS.ifYes X27.here hx rfl (pc0 := 47) (pc' := 54) rfl (hb hby d4_47) rfl ((if0 _ _).trans (feq (fun q => hc30 ((lw_eq _ _).mp q))).2) (by decide) (by decide) ?_
          show Steps p.tables e below (T27.setTop (mkF m 54 #[.val (.ref r0), .val (.ref r1), .val (.ref r1)] [])) _
          refine XS.iconst X27.here hx rfl (hb hby d4_54) ?_
          exact k)
        obtain ⟨fs, hr, hrun, hended, hW, hsame⟩ := X27.leave (v := some (.int (0 : Int32))) (fun h => by rw [Bd.returns] at h; cases h)
        refine ⟨_, _, ks32 _ ?_, hrun, hended, _, _, rfl, ?_, ⟨_, rfl⟩, hW, hsame.mono (by decide) (by decide)⟩
        · exact retN X27 hx (t := .boolean) Bd.returns (by simp) (hb hby d4_55) hr
        · show Q4p Z r0 r1 x0 x1 x2 y0 y1 y2 h0 n0 _ T27.heap _
          rw [e27]
          refine ⟨?_, N0, rfl⟩
          rw [own_eq, if_pos hc14, if_pos hc22, if_neg hc30]
    · skip
      have ks33 : own_R p e below (s₁.setTop (entryFrame m #[(.ref r0), (.ref r1)] 3)) (T19.setTop (mkF m 55 #[.val (.ref r0), .val (.ref r1), .val (.ref r1)] [(.int (0 : Int32))])) := fun t k => ks21 t (by
        show Steps p.tables e below (T19.setTop (mkF m 35 #[.val (.ref r0), .val (.ref r1), .val (.ref r1)] [(.int (lcmpW x1 y1))])) _
        refine XS.ifYes X19.here hx rfl (pc0 := 35) (pc' := 54) rfl (hb hby d4_35) rfl ((if0 _ _).trans (feq (fun q => hc22 ((lw_eq _ _).mp q))).2) (by decide) (by decide) ?_
        show Steps p.tables e below (T19.setTop (mkF m 54 #[.val (.ref r0), .val (.ref r1), .val (.ref r1)] [])) _
        refine XS.iconst X19.here hx rfl (hb hby d4_54) ?_
        exact k)
      obtain ⟨fs, hr, hrun, hended, hW, hsame⟩ := X19.leave (v := some (.int (0 : Int32))) (fun h => by rw [Bd.returns] at h; cases h)
      refine ⟨_, _, ks33 _ ?_, hrun, hended, _, _, rfl, ?_, ⟨_, rfl⟩, hW, hsame.mono (by decide) (by decide)⟩
      · exact retN X19 hx (t := .boolean) Bd.returns (by simp) (hb hby d4_55) hr
      · show Q4p Z r0 r1 x0 x1 x2 y0 y1 y2 h0 n0 _ T19.heap _
        rw [e19]
        refine ⟨?_, N0, rfl⟩
        rw [own_eq, if_pos hc14, if_neg hc22]
  · skip
    have ks34 : own_R p e below (s₁.setTop (entryFrame m #[(.ref r0), (.ref r1)] 3)) (T11.setTop (mkF m 55 #[.val (.ref r0), .val (.ref r1), .val (.ref r1)] [(.int (0 : Int32))])) := fun t k => ks13 t (by
      show Steps p.tables e below (T11.setTop (mkF m 23 #[.val (.ref r0), .val (.ref r1), .val (.ref r1)] [(.int (lcmpW x0 y0))])) _
      refine XS.ifYes X11.here hx rfl (pc0 := 23) (pc' := 54) rfl (hb hby d4_23) rfl ((if0 _ _).trans (feq (fun q => hc14 ((lw_eq _ _).mp q))).2) (by decide) (by decide) ?_
      show Steps p.tables e below (T11.setTop (mkF m 54 #[.val (.ref r0), .val (.ref r1), .val (.ref r1)] [])) _
      refine XS.iconst X11.here hx rfl (hb hby d4_54) ?_
      exact k)
    obtain ⟨fs, hr, hrun, hended, hW, hsame⟩ := X11.leave (v := some (.int (0 : Int32))) (fun h => by rw [Bd.returns] at h; cases h)
    refine ⟨_, _, ks34 _ ?_, hrun, hended, _, _, rfl, ?_, ⟨_, rfl⟩, hW, hsame.mono (by decide) (by decide)⟩
    · exact retN X11 hx (t := .boolean) Bd.returns (by simp) (hb hby d4_55) hr
    · show Q4p Z r0 r1 x0 x1 x2 y0 y1 y2 h0 n0 _ T11.heap _
      rw [e11]
      refine ⟨?_, N0, rfl⟩
      rw [own_eq, if_neg hc14]
theorem pn_0 : plainName "com/example/thin_feed/thinfeed/model/PostEqualsPinLaw" = true := by first | (simp [plainName, overriddenIn]; done) | decide +kernel
theorem pd_0 : parseMethodDescriptor "(JJ)J" = some ⟨[.long, .long], some .long⟩ := by decide +kernel
theorem pd_1 : parseMethodDescriptor "(JJJ)V" = some ⟨[.long, .long, .long], none⟩ := by decide +kernel
theorem pd_3 : parseMethodDescriptor "(Ljava/lang/Object;)Z" = some ⟨[(.object "java/lang/Object")], some .boolean⟩ := by decide +kernel
theorem pd_4 : parseMethodDescriptor "(J)Ljava/lang/Long;" = some ⟨[.long], some (.object "java/lang/Long")⟩ := by decide +kernel
theorem ef_0 (m : MethodId) (x0 : Int64) (x1 : Int64) (x2 : Int64) (x3 : Int64) (x4 : Int32) : entryFrame m #[(.long x0), (.long x1), (.long x2), (.long x3), (.int x4)] maxLocals = mkF m 0 #[.val (.long x0), .second, .val (.long x1), .second, .val (.long x2), .second, .val (.long x3), .second, .val (.int x4), .unset, .unset, .unset, .unset, .unset, .unset, .unset, .unset, .unset, .unset, .unset, .unset, .unset, .unset, .unset, .unset, .unset] [] := by first | (simp [entryFrame, mkF, argsToLocals, Value.category, maxLocals]; done) | rfl
def Q0 (Z : State) (q0 : Int64) (q1 : Int64) (q2 : Int64) (q3 : Int64) (p4 : Int32) (u1 : Addr) (cl1 : Cell) (h0 : Heap) (n0 : Nat) (v : Option Value) (h : Heap) (L : List Loc) : Prop := v = some (.int (1 : Int32)) ∧ Fr n0 L
set_option maxRecDepth 65536 in
set_option maxHeartbeats 40000000 in
theorem rm0 (l : Launch) (Z : State) (a0 : Array Value) (hw : ∀ d ∈ tables_1, d.before a0 Z = true) (ws : List Jvm.Cond) (q0 : Int64) (q1 : Int64) (q2 : Int64) (q3 : Int64) (p4 : Int32) (u1 : Addr) (cl1 : Cell) (h0 : Heap) (n0 : Nat) (Z0 : n0 ≤ h0.size) (O0 : Old Z n0 h0) (S1 : Sta Z h0 "java/lang/Long$LongCache" "cache" "[Ljava/lang/Long;" (.ref u1)) (A1 : Arr Z h0 u1 cl1 (.object "java/lang/Long")) (hs1 : cl1.slots.size = 256) (B1 : own_box Z cl1 "java/lang/Long") :
    MetFree l x (head1 (Jvm.Cond.code x code maxLocals ret :: ws) room_1) (fun a U => a = #[(.long q0), (.long q1), (.long q2), (.long q3), (.int p4)] ∧ Z.Warmed39 U.vm ∧ U.heap = h0) (fun _ _ _ _ _ => True) (fun _ U o U' => ∃ v L, o = .returned v ∧ Q0 Z q0 q1 q2 q3 p4 u1 cl1 h0 n0 v U'.heap L ∧ FrameEnd U o U' L 16 128) := by
  refine MetFree.of_bodySF (plainFor_of_name pn_0) hisR ?_
  intro p e s m args below meth c s₁ Bd hml0 hP hK
  obtain ⟨rfl, hZ, hh⟩ := hP
  have hx := Bd.exec
  have hby := Bd.bytes
  have hml : c.maxLocals = 26 := hml0
  have hown : s.vm.findClass "com/example/thin_feed/thinfeed/model/PostEqualsPinLaw" = some m.cls := findClass_of_methodNamed Bd.named
  have hnm := (name_of_methodNamed Bd.named Bd.method).1
  have X0 : Stand p l e room_1 s m #[(.long q0), (.long q1), (.long q2), (.long q3), (.int p4)] below meth c s₁ [] 0 0 := Stand.of_body Bd
  have e0 : s₁.heap = h0 := by rw [← hh, Bd.state]; rfl
  have N0 := Fr.nil n0
  have k0 : own_R p e below (s₁.setTop (entryFrame m #[(.long q0), (.long q1), (.long q2), (.long q3), (.int p4)] maxLocals)) (s₁.setTop (mkF m 0 #[.val (.long q0), .second, .val (.long q1), .second, .val (.long q2), .second, .val (.long q3), .second, .val (.int p4), .unset, .unset, .unset, .unset, .unset, .unset, .unset, .unset, .unset, .unset, .unset, .unset, .unset, .unset, .unset, .unset, .unset] [])) := fun t k => castTop (ef_0 m q0 q1 q2 q3 p4) k
  have ks1 : own_R p e below (s₁.setTop (entryFrame m #[(.long q0), (.long q1), (.long q2), (.long q3), (.int p4)] maxLocals)) (s₁.setTop (mkF m 6 #[.val (.long q0), .second, .val (.long q1), .second, .val (.long q2), .second, .val (.long q3), .second, .val (.int p4), .unset, .unset, .unset, .unset, .unset, .unset, .unset, .unset, .unset, .unset, .unset, .unset, .unset, .unset, .unset, .unset, .unset] [(.long (q0 &&& (9223372036854775807 : Int64))), (.long (1 : Int64))])) := fun t k => k0 t (by
    show Steps p.tables e below (s₁.setTop (mkF m 0 #[.val (.long q0), .second, .val (.long q1), .second, .val (.long q2), .second, .val (.long q3), .second, .val (.int p4), .unset, .unset, .unset, .unset, .unset, .unset, .unset, .unset, .unset, .unset, .unset, .unset, .unset, .unset, .unset, .unset, .unset] [])) _
    refine XS.lconst X0.here hx rfl (hb hby at_0) ?_
    show Steps p.tables e below (s₁.setTop (mkF m 1 #[.val (.long q0), .second, .val (.long q1), .second, .val (.long q2), .second, .val (.long q3), .second, .val (.int p4), .unset, .unset, .unset, .unset, .unset, .unset, .unset, .unset, .unset, .unset, .unset, .unset, .unset, .unset, .unset, .unset, .unset] [(.long (1 : Int64))])) _
    refine XS.lloadN X0.here hx rfl (hb hby at_1) rfl ?_
    show Steps p.tables e below (s₁.setTop (mkF m 2 #[.val (.long q0), .second, .val (.long q1), .second, .val (.long q2), .second, .val (.long q3), .second, .val (.int p4), .unset, .unset, .unset, .unset, .unset, .unset, .unset, .unset, .unset, .unset, .unset, .unset, .unset, .unset, .unset, .unset, .unset] [(.long q0), (.long (1 : Int64))])) _
    refine X0.ldc2Long hx hown (mvT hZ (hw _ (List.mem_of_getElem? (i := 0) rfl))) (g := (mkF m 2 #[.val (.long q0), .second, .val (.long q1), .second, .val (.long q2), .second, .val (.long q3), .second, .val (.int p4), .unset, .unset, .unset, .unset, .unset, .unset, .unset, .unset, .unset, .unset, .unset, .unset, .unset, .unset, .unset, .unset, .unset] [(.long q0), (.long (1 : Int64))])) rfl (hb hby at_2) _ ?_
    show Steps p.tables e below (s₁.setTop (mkF m 5 #[.val (.long q0), .second, .val (.long q1), .second, .val (.long q2), .second, .val (.long q3), .second, .val (.int p4), .unset, .unset, .unset, .unset, .unset, .unset, .unset, .unset, .unset, .unset, .unset, .unset, .unset, .unset, .unset, .unset, .unset] [(.long (9223372036854775807 : Int64)), (.long q0), (.long (1 : Int64))])) _
    refine XS.land X0.here hx rfl (hb hby at_5) rfl ?_
    exact k)
  obtain ⟨_, _, ⟨T2, L2, k2, n2⟩, -, X2, ⟨Lc2, hQ2, lq2, yq2, zq2⟩, st2⟩ := Jvm.LawKit.callS X0 hx (y := (⟨"java/lang/Math", "max", "(JJ)J"⟩ : MethodName)) hown (mvT hZ (hw _ (List.mem_of_getElem? (i := 1) rfl))) (mvT hZ (hw _ (List.mem_of_getElem? (i := 2) rfl))) (mvT hZ (hw _ (List.mem_of_getElem? (i := 3) rfl))) (mvT hZ (hw _ (List.mem_of_getElem? (i := 4) rfl))) (by decide) (backOf (W := 0) (rm1 l Z a0 hw [] (1 : Int64) (q0 &&& (9223372036854775807 : Int64)) h0 n0 Z0 ) hZ (hw _ (List.mem_of_getElem? (i := 4) rfl)) (hw _ (List.mem_of_getElem? (i := 3) rfl)) (by decide) (by decide)) (g := (mkF m 6 #[.val (.long q0), .second, .val (.long q1), .second, .val (.long q2), .second, .val (.long q3), .second, .val (.int p4), .unset, .unset, .unset, .unset, .unset, .unset, .unset, .unset, .unset, .unset, .unset, .unset, .unset, .unset, .unset, .unset, .unset] [(.long (q0 &&& (9223372036854775807 : Int64))), (.long (1 : Int64))])) rfl (by rw [hml]; rfl) (argsL := [(.long (1 : Int64)), (.long (q0 &&& (9223372036854775807 : Int64)))]) (rest := []) (lenOf pd_0 rfl) rfl (by show 2 * 0 + _ ≤ _; exact Nat.le_of_eq rfl) (hb hby at_6) (fun _ _ => ⟨rfl, e0, (by decide : 0 + 0 ≤ _), (by decide : 0 + 0 ≤ _)⟩)
  dsimp only [Pt.U, Pt.locs, Pt.cells, Pt.slots] at X2 lq2 yq2 zq2 st2 hQ2
  subst lq2 yq2 zq2
  obtain ⟨rfl, Nq2, eq2⟩ := hQ2
  have N2 := Fr.app N0 Nq2
  have ks3 : own_R p e below (s₁.setTop (entryFrame m #[(.long q0), (.long q1), (.long q2), (.long q3), (.int p4)] maxLocals)) (T2.setTop (mkF m 9 #[.val (.long q0), .second, .val (.long q1), .second, .val (.long q2), .second, .val (.long q3), .second, .val (.int p4), .unset, .unset, .unset, .unset, .unset, .unset, .unset, .unset, .unset, .unset, .unset, .unset, .unset, .unset, .unset, .unset, .unset] [(.long (own_max (1 : Int64) (q0 &&& (9223372036854775807 : Int64))))])) := fun t k => ks1 t (st2 t k)
  obtain ⟨v4, hv4⟩ : ∃ z : Int64, z = (own_max (1 : Int64) (q0 &&& (9223372036854775807 : Int64))) := ⟨_, rfl⟩
  rw [← hv4] at ks3
  have ks5 : own_R p e below (s₁.setTop (entryFrame m #[(.long q0), (.long q1), (.long q2), (.long q3), (.int p4)] maxLocals)) (T2.setTop (mkF m 18 #[.val (.long q0), .second, .val (.long q1), .second, .val (.long q2), .second, .val (.long q3), .second, .val (.int p4), .val (.long v4), .second, .unset, .unset, .unset, .unset, .unset, .unset, .unset, .unset, .unset, .unset, .unset, .unset, .unset, .unset, .unset] [(.long (q3 &&& (9223372036854775807 : Int64))), (.long (1 : Int64))])) := fun t k => ks3 t (by
    show Steps p.tables e below (T2.setTop (mkF m 9 #[.val (.long q0), .second, .val (.long q1), .second, .val (.long q2), .second, .val (.long q3), .second, .val (.int p4), .unset, .unset, .unset, .unset, .unset, .unset, .unset, .unset, .unset, .unset, .unset, .unset, .unset, .unset, .unset, .unset, .unset] [(.long v4)])) _
    refine XS.lstore X2.here hx rfl (hb hby at_9) rfl (l' := #[.val (.long q0), .second, .val (.long q1), .second, .val (.long q2), .second, .val (.long q3), .second, .val (.int p4), .val (.long v4), .second, .unset, .unset, .unset, .unset, .unset, .unset, .unset, .unset, .unset, .unset, .unset, .unset, .unset, .unset, .unset]) rfl ?_
    show Steps p.tables e below (T2.setTop (mkF m 11 #[.val (.long q0), .second, .val (.long q1), .second, .val (.long q2), .second, .val (.long q3), .second, .val (.int p4), .val (.long v4), .second, .unset, .unset, .unset, .unset, .unset, .unset, .unset, .unset, .unset, .unset, .unset, .unset, .unset, .unset, .unset] [])) _
    refine XS.lconst X2.here hx rfl (hb hby at_11) ?_
    show Steps p.tables e below (T2.setTop (mkF m 12 #[.val (.long q0), .second, .val (.long q1), .second, .val (.long q2), .second, .val (.long q3), .second, .val (.int p4), .val (.long v4), .second, .unset, .unset, .unset, .unset, .unset, .unset, .unset, .unset, .unset, .unset, .unset, .unset, .unset, .unset, .unset] [(.long (1 : Int64))])) _
    refine XS.lload X2.here hx rfl (hb hby at_12) rfl ?_
    show Steps p.tables e below (T2.setTop (mkF m 14 #[.val (.long q0), .second, .val (.long q1), .second, .val (.long q2), .second, .val (.long q3), .second, .val (.int p4), .val (.long v4), .second, .unset, .unset, .unset, .unset, .unset, .unset, .unset, .unset, .unset, .unset, .unset, .unset, .unset, .unset, .unset] [(.long q3), (.long (1 : Int64))])) _
    refine X2.ldc2Long hx hown (mvT hZ (hw _ (List.mem_of_getElem? (i := 0) rfl))) (g := (mkF m 14 #[.val (.long q0), .second, .val (.long q1), .second, .val (.long q2), .second, .val (.long q3), .second, .val (.int p4), .val (.long v4), .second, .unset, .unset, .unset, .unset, .unset, .unset, .unset, .unset, .unset, .unset, .unset, .unset, .unset, .unset, .unset] [(.long q3), (.long (1 : Int64))])) rfl (hb hby at_14) _ ?_
    show Steps p.tables e below (T2.setTop (mkF m 17 #[.val (.long q0), .second, .val (.long q1), .second, .val (.long q2), .second, .val (.long q3), .second, .val (.int p4), .val (.long v4), .second, .unset, .unset, .unset, .unset, .unset, .unset, .unset, .unset, .unset, .unset, .unset, .unset, .unset, .unset, .unset] [(.long (9223372036854775807 : Int64)), (.long q3), (.long (1 : Int64))])) _
    refine XS.land X2.here hx rfl (hb hby at_17) rfl ?_
    exact k)
  obtain ⟨_, _, ⟨T6, L6, k6, n6⟩, -, X6, ⟨Lc6, hQ6, lq6, yq6, zq6⟩, st6⟩ := Jvm.LawKit.callS X2 hx (y := (⟨"java/lang/Math", "max", "(JJ)J"⟩ : MethodName)) hown (mvT hZ (hw _ (List.mem_of_getElem? (i := 1) rfl))) (mvT hZ (hw _ (List.mem_of_getElem? (i := 2) rfl))) (mvT hZ (hw _ (List.mem_of_getElem? (i := 3) rfl))) (mvT hZ (hw _ (List.mem_of_getElem? (i := 4) rfl))) (by decide) (backOf (W := 0) (rm1 l Z a0 hw [] (1 : Int64) (q3 &&& (9223372036854775807 : Int64)) h0 n0 Z0 ) hZ (hw _ (List.mem_of_getElem? (i := 4) rfl)) (hw _ (List.mem_of_getElem? (i := 3) rfl)) (by decide) (by decide)) (g := (mkF m 18 #[.val (.long q0), .second, .val (.long q1), .second, .val (.long q2), .second, .val (.long q3), .second, .val (.int p4), .val (.long v4), .second, .unset, .unset, .unset, .unset, .unset, .unset, .unset, .unset, .unset, .unset, .unset, .unset, .unset, .unset, .unset] [(.long (q3 &&& (9223372036854775807 : Int64))), (.long (1 : Int64))])) rfl (by rw [hml]; rfl) (argsL := [(.long (1 : Int64)), (.long (q3 &&& (9223372036854775807 : Int64)))]) (rest := []) (lenOf pd_0 rfl) rfl (by show 2 * 0 + _ ≤ _; exact Nat.le_of_eq rfl) (hb hby at_18) (fun _ _ => ⟨rfl, eq2, (by decide : 0 + 0 ≤ _), (by decide : 0 + 0 ≤ _)⟩)
  dsimp only [Pt.U, Pt.locs, Pt.cells, Pt.slots] at X6 lq6 yq6 zq6 st6 hQ6
  subst lq6 yq6 zq6
  obtain ⟨rfl, Nq6, eq6⟩ := hQ6
  have N6 := Fr.app N2 Nq6
  have ks7 : own_R p e below (s₁.setTop (entryFrame m #[(.long q0), (.long q1), (.long q2), (.long q3), (.int p4)] maxLocals)) (T6.setTop (mkF m 21 #[.val (.long q0), .second, .val (.long q1), .second, .val (.long q2), .second, .val (.long q3), .second, .val (.int p4), .val (.long v4), .second, .unset, .unset, .unset, .unset, .unset, .unset, .unset, .unset, .unset, .unset, .unset, .unset, .unset, .unset, .unset] [(.long (own_max (1 : Int64) (q3 &&& (9223372036854775807 : Int64))))])) := fun t k => ks5 t (st6 t k)
  obtain ⟨v8, hv8⟩ : ∃ z : Int64, z = (own_max (1 : Int64) (q3 &&& (9223372036854775807 : Int64))) := ⟨_, rfl⟩
  rw [← hv8] at ks7
  have ks11 : own_R p e below (s₁.setTop (entryFrame m #[(.long q0), (.long q1), (.long q2), (.long q3), (.int p4)] maxLocals)) (T6.setTop (mkF m 27 #[.val (.long q0), .second, .val (.long q1), .second, .val (.long q2), .second, .val (.long q3), .second, .val (.int p4), .val (.long v4), .second, .val (.long v8), .second, .unset, .unset, .unset, .unset, .unset, .unset, .unset, .unset, .unset, .unset, .unset, .unset, .unset] [(.int (p4 &&& (1 : Int32)))])) := fun t k => ks7 t (by
    show Steps p.tables e below (T6.setTop (mkF m 21 #[.val (.long q0), .second, .val (.long q1), .second, .val (.long q2), .second, .val (.long q3), .second, .val (.int p4), .val (.long v4), .second, .unset, .unset, .unset, .unset, .unset, .unset, .unset, .unset, .unset, .unset, .unset, .unset, .unset, .unset, .unset] [(.long v8)])) _
    refine XS.lstore X6.here hx rfl (hb hby at_21) rfl (l' := #[.val (.long q0), .second, .val (.long q1), .second, .val (.long q2), .second, .val (.long q3), .second, .val (.int p4), .val (.long v4), .second, .val (.long v8), .second, .unset, .unset, .unset, .unset, .unset, .unset, .unset, .unset, .unset, .unset, .unset, .unset, .unset]) rfl ?_
    show Steps p.tables e below (T6.setTop (mkF m 23 #[.val (.long q0), .second, .val (.long q1), .second, .val (.long q2), .second, .val (.long q3), .second, .val (.int p4), .val (.long v4), .second, .val (.long v8), .second, .unset, .unset, .unset, .unset, .unset, .unset, .unset, .unset, .unset, .unset, .unset, .unset, .unset] [])) _
    refine XS.iload X6.here hx rfl (hb hby at_23) rfl ?_
    show Steps p.tables e below (T6.setTop (mkF m 25 #[.val (.long q0), .second, .val (.long q1), .second, .val (.long q2), .second, .val (.long q3), .second, .val (.int p4), .val (.long v4), .second, .val (.long v8), .second, .unset, .unset, .unset, .unset, .unset, .unset, .unset, .unset, .unset, .unset, .unset, .unset, .unset] [(.int p4)])) _
    refine XS.iconst X6.here hx rfl (hb hby at_25) ?_
    show Steps p.tables e below (T6.setTop (mkF m 26 #[.val (.long q0), .second, .val (.long q1), .second, .val (.long q2), .second, .val (.long q3), .second, .val (.int p4), .val (.long v4), .second, .val (.long v8), .second, .unset, .unset, .unset, .unset, .unset, .unset, .unset, .unset, .unset, .unset, .unset, .unset, .unset] [(.int (1 : Int32)), (.int p4)])) _
    refine XS.iand X6.here hx rfl (hb hby at_26) rfl ?_
    exact k)
  obtain ⟨v10, hv10⟩ : ∃ z : Int32, z = (if (p4 &&& (1 : Int32)) = (0 : Int32) then (0 : Int32) else (1 : Int32)) := ⟨_, rfl⟩
  have ks12 : own_R p e below (s₁.setTop (entryFrame m #[(.long q0), (.long q1), (.long q2), (.long q3), (.int p4)] maxLocals)) (T6.setTop (mkF m 35 #[.val (.long q0), .second, .val (.long q1), .second, .val (.long q2), .second, .val (.long q3), .second, .val (.int p4), .val (.long v4), .second, .val (.long v8), .second, .unset, .unset, .unset, .unset, .unset, .unset, .unset, .unset, .unset, .unset, .unset, .unset, .unset] [(.int v10)])) := fun t k => ks11 t (by
    by_cases hc9 : (p4 &&& (1 : Int32)) = (0 : Int32)
    · skip
      have qq13 : v10 = (0 : Int32) := by rw [hv10, if_pos hc9]
      rw [qq13] at k
      show Steps p.tables e below (T6.setTop (mkF m 27 #[.val (.long q0), .second, .val (.long q1), .second, .val (.long q2), .second, .val (.long q3), .second, .val (.int p4), .val (.long v4), .second, .val (.long v8), .second, .unset, .unset, .unset, .unset, .unset, .unset, .unset, .unset, .unset, .unset, .unset, .unset, .unset] [(.int (p4 &&& (1 : Int32)))])) _
      refine XS.ifYes X6.here hx rfl (pc0 := 27) (pc' := 34) rfl (hb hby at_27) rfl ((if0 _ _).trans (teq hc9).1) (by decide) (by decide) ?_
      show Steps p.tables e below (T6.setTop (mkF m 34 #[.val (.long q0), .second, .val (.long q1), .second, .val (.long q2), .second, .val (.long q3), .second, .val (.int p4), .val (.long v4), .second, .val (.long v8), .second, .unset, .unset, .unset, .unset, .unset, .unset, .unset, .unset, .unset, .unset, .unset, .unset, .unset] [])) _
      refine XS.iconst X6.here hx rfl (hb hby at_34) ?_
      exact k
    · skip
      have qq14 : v10 = (1 : Int32) := by rw [hv10, if_neg hc9]
      rw [qq14] at k
      show Steps p.tables e below (T6.setTop (mkF m 27 #[.val (.long q0), .second, .val (.long q1), .second, .val (.long q2), .second, .val (.long q3), .second, .val (.int p4), .val (.long v4), .second, .val (.long v8), .second, .unset, .unset, .unset, .unset, .unset, .unset, .unset, .unset, .unset, .unset, .unset, .unset, .unset] [(.int (p4 &&& (1 : Int32)))])) _
      refine XS.ifNo X6.here hx rfl (hb hby at_27) rfl ((if0 _ _).trans (feq hc9).1) ?_
      show Steps p.tables e below (T6.setTop (mkF m 30 #[.val (.long q0), .second, .val (.long q1), .second, .val (.long q2), .second, .val (.long q3), .second, .val (.int p4), .val (.long v4), .second, .val (.long v8), .second, .unset, .unset, .unset, .unset, .unset, .unset, .unset, .unset, .unset, .unset, .unset, .unset, .unset] [])) _
      refine XS.iconst X6.here hx rfl (hb hby at_30) ?_
      show Steps p.tables e below (T6.setTop (mkF m 31 #[.val (.long q0), .second, .val (.long q1), .second, .val (.long q2), .second, .val (.long q3), .second, .val (.int p4), .val (.long v4), .second, .val (.long v8), .second, .unset, .unset, .unset, .unset, .unset, .unset, .unset, .unset, .unset, .unset, .unset, .unset, .unset] [(.int (1 : Int32))])) _
      refine XS.goto X6.here hx rfl (pc0 := 31) (pc' := 35) rfl (hb hby at_31) (by decide) (by decide) ?_
      exact k)
  have ks17 : own_R p e below (s₁.setTop (entryFrame m #[(.long q0), (.long q1), (.long q2), (.long q3), (.int p4)] maxLocals)) (T6.setTop (mkF m 41 #[.val (.long q0), .second, .val (.long q1), .second, .val (.long q2), .second, .val (.long q3), .second, .val (.int p4), .val (.long v4), .second, .val (.long v8), .second, .val (.int v10), .unset, .unset, .unset, .unset, .unset, .unset, .unset, .unset, .unset, .unset, .unset, .unset] [(.int (p4 &&& (2 : Int32)))])) := fun t k => ks12 t (by
    show Steps p.tables e below (T6.setTop (mkF m 35 #[.val (.long q0), .second, .val (.long q1), .second, .val (.long q2), .second, .val (.long q3), .second, .val (.int p4), .val (.long v4), .second, .val (.long v8), .second, .unset, .unset, .unset, .unset, .unset, .unset, .unset, .unset, .unset, .unset, .unset, .unset, .unset] [(.int v10)])) _
    refine XS.istore X6.here hx rfl (hb hby at_35) rfl (l' := #[.val (.long q0), .second, .val (.long q1), .second, .val (.long q2), .second, .val (.long q3), .second, .val (.int p4), .val (.long v4), .second, .val (.long v8), .second, .val (.int v10), .unset, .unset, .unset, .unset, .unset, .unset, .unset, .unset, .unset, .unset, .unset, .unset]) rfl ?_
    show Steps p.tables e below (T6.setTop (mkF m 37 #[.val (.long q0), .second, .val (.long q1), .second, .val (.long q2), .second, .val (.long q3), .second, .val (.int p4), .val (.long v4), .second, .val (.long v8), .second, .val (.int v10), .unset, .unset, .unset, .unset, .unset, .unset, .unset, .unset, .unset, .unset, .unset, .unset] [])) _
    refine XS.iload X6.here hx rfl (hb hby at_37) rfl ?_
    show Steps p.tables e below (T6.setTop (mkF m 39 #[.val (.long q0), .second, .val (.long q1), .second, .val (.long q2), .second, .val (.long q3), .second, .val (.int p4), .val (.long v4), .second, .val (.long v8), .second, .val (.int v10), .unset, .unset, .unset, .unset, .unset, .unset, .unset, .unset, .unset, .unset, .unset, .unset] [(.int p4)])) _
    refine XS.iconst X6.here hx rfl (hb hby at_39) ?_
    show Steps p.tables e below (T6.setTop (mkF m 40 #[.val (.long q0), .second, .val (.long q1), .second, .val (.long q2), .second, .val (.long q3), .second, .val (.int p4), .val (.long v4), .second, .val (.long v8), .second, .val (.int v10), .unset, .unset, .unset, .unset, .unset, .unset, .unset, .unset, .unset, .unset, .unset, .unset] [(.int (2 : Int32)), (.int p4)])) _
    refine XS.iand X6.here hx rfl (hb hby at_40) rfl ?_
    exact k)
  obtain ⟨v16, hv16⟩ : ∃ z : Int32, z = (if (p4 &&& (2 : Int32)) = (0 : Int32) then (0 : Int32) else (1 : Int32)) := ⟨_, rfl⟩
  have ks18 : own_R p e below (s₁.setTop (entryFrame m #[(.long q0), (.long q1), (.long q2), (.long q3), (.int p4)] maxLocals)) (T6.setTop (mkF m 49 #[.val (.long q0), .second, .val (.long q1), .second, .val (.long q2), .second, .val (.long q3), .second, .val (.int p4), .val (.long v4), .second, .val (.long v8), .second, .val (.int v10), .unset, .unset, .unset, .unset, .unset, .unset, .unset, .unset, .unset, .unset, .unset, .unset] [(.int v16)])) := fun t k => ks17 t (by
    by_cases hc15 : (p4 &&& (2 : Int32)) = (0 : Int32)
    · skip
      have qq19 : v16 = (0 : Int32) := by rw [hv16, if_pos hc15]
      rw [qq19] at k
      show Steps p.tables e below (T6.setTop (mkF m 41 #[.val (.long q0), .second, .val (.long q1), .second, .val (.long q2), .second, .val (.long q3), .second, .val (.int p4), .val (.long v4), .second, .val (.long v8), .second, .val (.int v10), .unset, .unset, .unset, .unset, .unset, .unset, .unset, .unset, .unset, .unset, .unset, .unset] [(.int (p4 &&& (2 : Int32)))])) _
      refine XS.ifYes X6.here hx rfl (pc0 := 41) (pc' := 48) rfl (hb hby at_41) rfl ((if0 _ _).trans (teq hc15).1) (by decide) (by decide) ?_
      show Steps p.tables e below (T6.setTop (mkF m 48 #[.val (.long q0), .second, .val (.long q1), .second, .val (.long q2), .second, .val (.long q3), .second, .val (.int p4), .val (.long v4), .second, .val (.long v8), .second, .val (.int v10), .unset, .unset, .unset, .unset, .unset, .unset, .unset, .unset, .unset, .unset, .unset, .unset] [])) _
      refine XS.iconst X6.here hx rfl (hb hby at_48) ?_
      exact k
    · skip
      have qq20 : v16 = (1 : Int32) := by rw [hv16, if_neg hc15]
      rw [qq20] at k
      show Steps p.tables e below (T6.setTop (mkF m 41 #[.val (.long q0), .second, .val (.long q1), .second, .val (.long q2), .second, .val (.long q3), .second, .val (.int p4), .val (.long v4), .second, .val (.long v8), .second, .val (.int v10), .unset, .unset, .unset, .unset, .unset, .unset, .unset, .unset, .unset, .unset, .unset, .unset] [(.int (p4 &&& (2 : Int32)))])) _
      refine XS.ifNo X6.here hx rfl (hb hby at_41) rfl ((if0 _ _).trans (feq hc15).1) ?_
      show Steps p.tables e below (T6.setTop (mkF m 44 #[.val (.long q0), .second, .val (.long q1), .second, .val (.long q2), .second, .val (.long q3), .second, .val (.int p4), .val (.long v4), .second, .val (.long v8), .second, .val (.int v10), .unset, .unset, .unset, .unset, .unset, .unset, .unset, .unset, .unset, .unset, .unset, .unset] [])) _
      refine XS.iconst X6.here hx rfl (hb hby at_44) ?_
      show Steps p.tables e below (T6.setTop (mkF m 45 #[.val (.long q0), .second, .val (.long q1), .second, .val (.long q2), .second, .val (.long q3), .second, .val (.int p4), .val (.long v4), .second, .val (.long v8), .second, .val (.int v10), .unset, .unset, .unset, .unset, .unset, .unset, .unset, .unset, .unset, .unset, .unset, .unset] [(.int (1 : Int32))])) _
      refine XS.goto X6.here hx rfl (pc0 := 45) (pc' := 49) rfl (hb hby at_45) (by decide) (by decide) ?_
      exact k)
  have ks23 : own_R p e below (s₁.setTop (entryFrame m #[(.long q0), (.long q1), (.long q2), (.long q3), (.int p4)] maxLocals)) (T6.setTop (mkF m 55 #[.val (.long q0), .second, .val (.long q1), .second, .val (.long q2), .second, .val (.long q3), .second, .val (.int p4), .val (.long v4), .second, .val (.long v8), .second, .val (.int v10), .val (.int v16), .unset, .unset, .unset, .unset, .unset, .unset, .unset, .unset, .unset, .unset, .unset] [(.int (p4 &&& (4 : Int32)))])) := fun t k => ks18 t (by
    show Steps p.tables e below (T6.setTop (mkF m 49 #[.val (.long q0), .second, .val (.long q1), .second, .val (.long q2), .second, .val (.long q3), .second, .val (.int p4), .val (.long v4), .second, .val (.long v8), .second, .val (.int v10), .unset, .unset, .unset, .unset, .unset, .unset, .unset, .unset, .unset, .unset, .unset, .unset] [(.int v16)])) _
    refine XS.istore X6.here hx rfl (hb hby at_49) rfl (l' := #[.val (.long q0), .second, .val (.long q1), .second, .val (.long q2), .second, .val (.long q3), .second, .val (.int p4), .val (.long v4), .second, .val (.long v8), .second, .val (.int v10), .val (.int v16), .unset, .unset, .unset, .unset, .unset, .unset, .unset, .unset, .unset, .unset, .unset]) rfl ?_
    show Steps p.tables e below (T6.setTop (mkF m 51 #[.val (.long q0), .second, .val (.long q1), .second, .val (.long q2), .second, .val (.long q3), .second, .val (.int p4), .val (.long v4), .second, .val (.long v8), .second, .val (.int v10), .val (.int v16), .unset, .unset, .unset, .unset, .unset, .unset, .unset, .unset, .unset, .unset, .unset] [])) _
    refine XS.iload X6.here hx rfl (hb hby at_51) rfl ?_
    show Steps p.tables e below (T6.setTop (mkF m 53 #[.val (.long q0), .second, .val (.long q1), .second, .val (.long q2), .second, .val (.long q3), .second, .val (.int p4), .val (.long v4), .second, .val (.long v8), .second, .val (.int v10), .val (.int v16), .unset, .unset, .unset, .unset, .unset, .unset, .unset, .unset, .unset, .unset, .unset] [(.int p4)])) _
    refine XS.iconst X6.here hx rfl (hb hby at_53) ?_
    show Steps p.tables e below (T6.setTop (mkF m 54 #[.val (.long q0), .second, .val (.long q1), .second, .val (.long q2), .second, .val (.long q3), .second, .val (.int p4), .val (.long v4), .second, .val (.long v8), .second, .val (.int v10), .val (.int v16), .unset, .unset, .unset, .unset, .unset, .unset, .unset, .unset, .unset, .unset, .unset] [(.int (4 : Int32)), (.int p4)])) _
    refine XS.iand X6.here hx rfl (hb hby at_54) rfl ?_
    exact k)
  obtain ⟨v22, hv22⟩ : ∃ z : Int32, z = (if (p4 &&& (4 : Int32)) = (0 : Int32) then (0 : Int32) else (1 : Int32)) := ⟨_, rfl⟩
  have ks24 : own_R p e below (s₁.setTop (entryFrame m #[(.long q0), (.long q1), (.long q2), (.long q3), (.int p4)] maxLocals)) (T6.setTop (mkF m 63 #[.val (.long q0), .second, .val (.long q1), .second, .val (.long q2), .second, .val (.long q3), .second, .val (.int p4), .val (.long v4), .second, .val (.long v8), .second, .val (.int v10), .val (.int v16), .unset, .unset, .unset, .unset, .unset, .unset, .unset, .unset, .unset, .unset, .unset] [(.int v22)])) := fun t k => ks23 t (by
    by_cases hc21 : (p4 &&& (4 : Int32)) = (0 : Int32)
    · skip
      have qq25 : v22 = (0 : Int32) := by rw [hv22, if_pos hc21]
      rw [qq25] at k
      show Steps p.tables e below (T6.setTop (mkF m 55 #[.val (.long q0), .second, .val (.long q1), .second, .val (.long q2), .second, .val (.long q3), .second, .val (.int p4), .val (.long v4), .second, .val (.long v8), .second, .val (.int v10), .val (.int v16), .unset, .unset, .unset, .unset, .unset, .unset, .unset, .unset, .unset, .unset, .unset] [(.int (p4 &&& (4 : Int32)))])) _
      refine XS.ifYes X6.here hx rfl (pc0 := 55) (pc' := 62) rfl (hb hby at_55) rfl ((if0 _ _).trans (teq hc21).1) (by decide) (by decide) ?_
      show Steps p.tables e below (T6.setTop (mkF m 62 #[.val (.long q0), .second, .val (.long q1), .second, .val (.long q2), .second, .val (.long q3), .second, .val (.int p4), .val (.long v4), .second, .val (.long v8), .second, .val (.int v10), .val (.int v16), .unset, .unset, .unset, .unset, .unset, .unset, .unset, .unset, .unset, .unset, .unset] [])) _
      refine XS.iconst X6.here hx rfl (hb hby at_62) ?_
      exact k
    · skip
      have qq26 : v22 = (1 : Int32) := by rw [hv22, if_neg hc21]
      rw [qq26] at k
      show Steps p.tables e below (T6.setTop (mkF m 55 #[.val (.long q0), .second, .val (.long q1), .second, .val (.long q2), .second, .val (.long q3), .second, .val (.int p4), .val (.long v4), .second, .val (.long v8), .second, .val (.int v10), .val (.int v16), .unset, .unset, .unset, .unset, .unset, .unset, .unset, .unset, .unset, .unset, .unset] [(.int (p4 &&& (4 : Int32)))])) _
      refine XS.ifNo X6.here hx rfl (hb hby at_55) rfl ((if0 _ _).trans (feq hc21).1) ?_
      show Steps p.tables e below (T6.setTop (mkF m 58 #[.val (.long q0), .second, .val (.long q1), .second, .val (.long q2), .second, .val (.long q3), .second, .val (.int p4), .val (.long v4), .second, .val (.long v8), .second, .val (.int v10), .val (.int v16), .unset, .unset, .unset, .unset, .unset, .unset, .unset, .unset, .unset, .unset, .unset] [])) _
      refine XS.iconst X6.here hx rfl (hb hby at_58) ?_
      show Steps p.tables e below (T6.setTop (mkF m 59 #[.val (.long q0), .second, .val (.long q1), .second, .val (.long q2), .second, .val (.long q3), .second, .val (.int p4), .val (.long v4), .second, .val (.long v8), .second, .val (.int v10), .val (.int v16), .unset, .unset, .unset, .unset, .unset, .unset, .unset, .unset, .unset, .unset, .unset] [(.int (1 : Int32))])) _
      refine XS.goto X6.here hx rfl (pc0 := 59) (pc' := 63) rfl (hb hby at_59) (by decide) (by decide) ?_
      exact k)
  have ks27 : own_R p e below (s₁.setTop (entryFrame m #[(.long q0), (.long q1), (.long q2), (.long q3), (.int p4)] maxLocals)) (T6.setTop (mkF m 72 #[.val (.long q0), .second, .val (.long q1), .second, .val (.long q2), .second, .val (.long q3), .second, .val (.int p4), .val (.long v4), .second, .val (.long v8), .second, .val (.int v10), .val (.int v16), .val (.int v22), .unset, .unset, .unset, .unset, .unset, .unset, .unset, .unset, .unset, .unset] [(.int (((p4.toUInt32 >>> ((3 : Int32) &&& 31).toUInt32).toInt32) &&& (7 : Int32)))])) := fun t k => ks24 t (by
    show Steps p.tables e below (T6.setTop (mkF m 63 #[.val (.long q0), .second, .val (.long q1), .second, .val (.long q2), .second, .val (.long q3), .second, .val (.int p4), .val (.long v4), .second, .val (.long v8), .second, .val (.int v10), .val (.int v16), .unset, .unset, .unset, .unset, .unset, .unset, .unset, .unset, .unset, .unset, .unset] [(.int v22)])) _
    refine XS.istore X6.here hx rfl (hb hby at_63) rfl (l' := #[.val (.long q0), .second, .val (.long q1), .second, .val (.long q2), .second, .val (.long q3), .second, .val (.int p4), .val (.long v4), .second, .val (.long v8), .second, .val (.int v10), .val (.int v16), .val (.int v22), .unset, .unset, .unset, .unset, .unset, .unset, .unset, .unset, .unset, .unset]) rfl ?_
    show Steps p.tables e below (T6.setTop (mkF m 65 #[.val (.long q0), .second, .val (.long q1), .second, .val (.long q2), .second, .val (.long q3), .second, .val (.int p4), .val (.long v4), .second, .val (.long v8), .second, .val (.int v10), .val (.int v16), .val (.int v22), .unset, .unset, .unset, .unset, .unset, .unset, .unset, .unset, .unset, .unset] [])) _
    refine XS.iload X6.here hx rfl (hb hby at_65) rfl ?_
    show Steps p.tables e below (T6.setTop (mkF m 67 #[.val (.long q0), .second, .val (.long q1), .second, .val (.long q2), .second, .val (.long q3), .second, .val (.int p4), .val (.long v4), .second, .val (.long v8), .second, .val (.int v10), .val (.int v16), .val (.int v22), .unset, .unset, .unset, .unset, .unset, .unset, .unset, .unset, .unset, .unset] [(.int p4)])) _
    refine XS.iconst X6.here hx rfl (hb hby at_67) ?_
    show Steps p.tables e below (T6.setTop (mkF m 68 #[.val (.long q0), .second, .val (.long q1), .second, .val (.long q2), .second, .val (.long q3), .second, .val (.int p4), .val (.long v4), .second, .val (.long v8), .second, .val (.int v10), .val (.int v16), .val (.int v22), .unset, .unset, .unset, .unset, .unset, .unset, .unset, .unset, .unset, .unset] [(.int (3 : Int32)), (.int p4)])) _
    refine XS.iushr X6.here hx rfl (hb hby at_68) rfl ?_
    show Steps p.tables e below (T6.setTop (mkF m 69 #[.val (.long q0), .second, .val (.long q1), .second, .val (.long q2), .second, .val (.long q3), .second, .val (.int p4), .val (.long v4), .second, .val (.long v8), .second, .val (.int v10), .val (.int v16), .val (.int v22), .unset, .unset, .unset, .unset, .unset, .unset, .unset, .unset, .unset, .unset] [(.int ((p4.toUInt32 >>> ((3 : Int32) &&& 31).toUInt32).toInt32))])) _
    refine XS.bipush X6.here hx rfl (hb hby at_69) ?_
    show Steps p.tables e below (T6.setTop (mkF m 71 #[.val (.long q0), .second, .val (.long q1), .second, .val (.long q2), .second, .val (.long q3), .second, .val (.int p4), .val (.long v4), .second, .val (.long v8), .second, .val (.int v10), .val (.int v16), .val (.int v22), .unset, .unset, .unset, .unset, .unset, .unset, .unset, .unset, .unset, .unset] [(.int (7 : Int32)), (.int ((p4.toUInt32 >>> ((3 : Int32) &&& 31).toUInt32).toInt32))])) _
    refine XS.iand X6.here hx rfl (hb hby at_71) rfl ?_
    exact k)
  obtain ⟨v28, hv28⟩ : ∃ z : Int32, z = (((p4.toUInt32 >>> ((3 : Int32) &&& 31).toUInt32).toInt32) &&& (7 : Int32)) := ⟨_, rfl⟩
  rw [← hv28] at ks27
  have ks31 : own_R p e below (s₁.setTop (entryFrame m #[(.long q0), (.long q1), (.long q2), (.long q3), (.int p4)] maxLocals)) (T6.setTop (mkF m 76 #[.val (.long q0), .second, .val (.long q1), .second, .val (.long q2), .second, .val (.long q3), .second, .val (.int p4), .val (.long v4), .second, .val (.long v8), .second, .val (.int v10), .val (.int v16), .val (.int v22), .val (.int v28), .unset, .unset, .unset, .unset, .unset, .unset, .unset, .unset, .unset] [(.int v10)])) := fun t k => ks27 t (by
    show Steps p.tables e below (T6.setTop (mkF m 72 #[.val (.long q0), .second, .val (.long q1), .second, .val (.long q2), .second, .val (.long q3), .second, .val (.int p4), .val (.long v4), .second, .val (.long v8), .second, .val (.int v10), .val (.int v16), .val (.int v22), .unset, .unset, .unset, .unset, .unset, .unset, .unset, .unset, .unset, .unset] [(.int v28)])) _
    refine XS.istore X6.here hx rfl (hb hby at_72) rfl (l' := #[.val (.long q0), .second, .val (.long q1), .second, .val (.long q2), .second, .val (.long q3), .second, .val (.int p4), .val (.long v4), .second, .val (.long v8), .second, .val (.int v10), .val (.int v16), .val (.int v22), .val (.int v28), .unset, .unset, .unset, .unset, .unset, .unset, .unset, .unset, .unset]) rfl ?_
    show Steps p.tables e below (T6.setTop (mkF m 74 #[.val (.long q0), .second, .val (.long q1), .second, .val (.long q2), .second, .val (.long q3), .second, .val (.int p4), .val (.long v4), .second, .val (.long v8), .second, .val (.int v10), .val (.int v16), .val (.int v22), .val (.int v28), .unset, .unset, .unset, .unset, .unset, .unset, .unset, .unset, .unset] [])) _
    refine XS.iload X6.here hx rfl (hb hby at_74) rfl ?_
    exact k)
  obtain ⟨v30, hv30⟩ : ∃ z : Int64, z = (if v10 = (0 : Int32) then v4 else v8) := ⟨_, rfl⟩
  have ks32 : own_R p e below (s₁.setTop (entryFrame m #[(.long q0), (.long q1), (.long q2), (.long q3), (.int p4)] maxLocals)) (T6.setTop (mkF m 86 #[.val (.long q0), .second, .val (.long q1), .second, .val (.long q2), .second, .val (.long q3), .second, .val (.int p4), .val (.long v4), .second, .val (.long v8), .second, .val (.int v10), .val (.int v16), .val (.int v22), .val (.int v28), .unset, .unset, .unset, .unset, .unset, .unset, .unset, .unset, .unset] [(.long v30)])) := fun t k => ks31 t (by
    by_cases hc29 : v10 = (0 : Int32)
    · skip
      have qq33 : v30 = v4 := by rw [hv30, if_pos hc29]
      rw [qq33] at k
      show Steps p.tables e below (T6.setTop (mkF m 76 #[.val (.long q0), .second, .val (.long q1), .second, .val (.long q2), .second, .val (.long q3), .second, .val (.int p4), .val (.long v4), .second, .val (.long v8), .second, .val (.int v10), .val (.int v16), .val (.int v22), .val (.int v28), .unset, .unset, .unset, .unset, .unset, .unset, .unset, .unset, .unset] [(.int v10)])) _
      refine XS.ifYes X6.here hx rfl (pc0 := 76) (pc' := 84) rfl (hb hby at_76) rfl ((if0 _ _).trans (teq hc29).1) (by decide) (by decide) ?_
      show Steps p.tables e below (T6.setTop (mkF m 84 #[.val (.long q0), .second, .val (.long q1), .second, .val (.long q2), .second, .val (.long q3), .second, .val (.int p4), .val (.long v4), .second, .val (.long v8), .second, .val (.int v10), .val (.int v16), .val (.int v22), .val (.int v28), .unset, .unset, .unset, .unset, .unset, .unset, .unset, .unset, .unset] [])) _
      refine XS.lload X6.here hx rfl (hb hby at_84) rfl ?_
      exact k
    · skip
      have qq34 : v30 = v8 := by rw [hv30, if_neg hc29]
      rw [qq34] at k
      show Steps p.tables e below (T6.setTop (mkF m 76 #[.val (.long q0), .second, .val (.long q1), .second, .val (.long q2), .second, .val (.long q3), .second, .val (.int p4), .val (.long v4), .second, .val (.long v8), .second, .val (.int v10), .val (.int v16), .val (.int v22), .val (.int v28), .unset, .unset, .unset, .unset, .unset, .unset, .unset, .unset, .unset] [(.int v10)])) _
      refine XS.ifNo X6.here hx rfl (hb hby at_76) rfl ((if0 _ _).trans (feq hc29).1) ?_
      show Steps p.tables e below (T6.setTop (mkF m 79 #[.val (.long q0), .second, .val (.long q1), .second, .val (.long q2), .second, .val (.long q3), .second, .val (.int p4), .val (.long v4), .second, .val (.long v8), .second, .val (.int v10), .val (.int v16), .val (.int v22), .val (.int v28), .unset, .unset, .unset, .unset, .unset, .unset, .unset, .unset, .unset] [])) _
      refine XS.lload X6.here hx rfl (hb hby at_79) rfl ?_
      show Steps p.tables e below (T6.setTop (mkF m 81 #[.val (.long q0), .second, .val (.long q1), .second, .val (.long q2), .second, .val (.long q3), .second, .val (.int p4), .val (.long v4), .second, .val (.long v8), .second, .val (.int v10), .val (.int v16), .val (.int v22), .val (.int v28), .unset, .unset, .unset, .unset, .unset, .unset, .unset, .unset, .unset] [(.long v8)])) _
      refine XS.goto X6.here hx rfl (pc0 := 81) (pc' := 86) rfl (hb hby at_81) (by decide) (by decide) ?_
      exact k)
  have ks37 : own_R p e below (s₁.setTop (entryFrame m #[(.long q0), (.long q1), (.long q2), (.long q3), (.int p4)] maxLocals)) (T6.setTop (mkF m 90 #[.val (.long q0), .second, .val (.long q1), .second, .val (.long q2), .second, .val (.long q3), .second, .val (.int p4), .val (.long v4), .second, .val (.long v8), .second, .val (.int v10), .val (.int v16), .val (.int v22), .val (.int v28), .val (.long v30), .second, .unset, .unset, .unset, .unset, .unset, .unset, .unset] [(.int v16)])) := fun t k => ks32 t (by
    show Steps p.tables e below (T6.setTop (mkF m 86 #[.val (.long q0), .second, .val (.long q1), .second, .val (.long q2), .second, .val (.long q3), .second, .val (.int p4), .val (.long v4), .second, .val (.long v8), .second, .val (.int v10), .val (.int v16), .val (.int v22), .val (.int v28), .unset, .unset, .unset, .unset, .unset, .unset, .unset, .unset, .unset] [(.long v30)])) _
    refine XS.lstore X6.here hx rfl (hb hby at_86) rfl (l' := #[.val (.long q0), .second, .val (.long q1), .second, .val (.long q2), .second, .val (.long q3), .second, .val (.int p4), .val (.long v4), .second, .val (.long v8), .second, .val (.int v10), .val (.int v16), .val (.int v22), .val (.int v28), .val (.long v30), .second, .unset, .unset, .unset, .unset, .unset, .unset, .unset]) rfl ?_
    show Steps p.tables e below (T6.setTop (mkF m 88 #[.val (.long q0), .second, .val (.long q1), .second, .val (.long q2), .second, .val (.long q3), .second, .val (.int p4), .val (.long v4), .second, .val (.long v8), .second, .val (.int v10), .val (.int v16), .val (.int v22), .val (.int v28), .val (.long v30), .second, .unset, .unset, .unset, .unset, .unset, .unset, .unset] [])) _
    refine XS.iload X6.here hx rfl (hb hby at_88) rfl ?_
    exact k)
  obtain ⟨v36, hv36⟩ : ∃ z : Int64, z = (if v16 = (0 : Int32) then q1 else q3) := ⟨_, rfl⟩
  have ks38 : own_R p e below (s₁.setTop (entryFrame m #[(.long q0), (.long q1), (.long q2), (.long q3), (.int p4)] maxLocals)) (T6.setTop (mkF m 99 #[.val (.long q0), .second, .val (.long q1), .second, .val (.long q2), .second, .val (.long q3), .second, .val (.int p4), .val (.long v4), .second, .val (.long v8), .second, .val (.int v10), .val (.int v16), .val (.int v22), .val (.int v28), .val (.long v30), .second, .unset, .unset, .unset, .unset, .unset, .unset, .unset] [(.long v36)])) := fun t k => ks37 t (by
    by_cases hc35 : v16 = (0 : Int32)
    · skip
      have qq39 : v36 = q1 := by rw [hv36, if_pos hc35]
      rw [qq39] at k
      show Steps p.tables e below (T6.setTop (mkF m 90 #[.val (.long q0), .second, .val (.long q1), .second, .val (.long q2), .second, .val (.long q3), .second, .val (.int p4), .val (.long v4), .second, .val (.long v8), .second, .val (.int v10), .val (.int v16), .val (.int v22), .val (.int v28), .val (.long v30), .second, .unset, .unset, .unset, .unset, .unset, .unset, .unset] [(.int v16)])) _
      refine XS.ifYes X6.here hx rfl (pc0 := 90) (pc' := 98) rfl (hb hby at_90) rfl ((if0 _ _).trans (teq hc35).1) (by decide) (by decide) ?_
      show Steps p.tables e below (T6.setTop (mkF m 98 #[.val (.long q0), .second, .val (.long q1), .second, .val (.long q2), .second, .val (.long q3), .second, .val (.int p4), .val (.long v4), .second, .val (.long v8), .second, .val (.int v10), .val (.int v16), .val (.int v22), .val (.int v28), .val (.long v30), .second, .unset, .unset, .unset, .unset, .unset, .unset, .unset] [])) _
      refine XS.lloadN X6.here hx rfl (hb hby at_98) rfl ?_
      exact k
    · skip
      have qq40 : v36 = q3 := by rw [hv36, if_neg hc35]
      rw [qq40] at k
      show Steps p.tables e below (T6.setTop (mkF m 90 #[.val (.long q0), .second, .val (.long q1), .second, .val (.long q2), .second, .val (.long q3), .second, .val (.int p4), .val (.long v4), .second, .val (.long v8), .second, .val (.int v10), .val (.int v16), .val (.int v22), .val (.int v28), .val (.long v30), .second, .unset, .unset, .unset, .unset, .unset, .unset, .unset] [(.int v16)])) _
      refine XS.ifNo X6.here hx rfl (hb hby at_90) rfl ((if0 _ _).trans (feq hc35).1) ?_
      show Steps p.tables e below (T6.setTop (mkF m 93 #[.val (.long q0), .second, .val (.long q1), .second, .val (.long q2), .second, .val (.long q3), .second, .val (.int p4), .val (.long v4), .second, .val (.long v8), .second, .val (.int v10), .val (.int v16), .val (.int v22), .val (.int v28), .val (.long v30), .second, .unset, .unset, .unset, .unset, .unset, .unset, .unset] [])) _
      refine XS.lload X6.here hx rfl (hb hby at_93) rfl ?_
      show Steps p.tables e below (T6.setTop (mkF m 95 #[.val (.long q0), .second, .val (.long q1), .second, .val (.long q2), .second, .val (.long q3), .second, .val (.int p4), .val (.long v4), .second, .val (.long v8), .second, .val (.int v10), .val (.int v16), .val (.int v22), .val (.int v28), .val (.long v30), .second, .unset, .unset, .unset, .unset, .unset, .unset, .unset] [(.long q3)])) _
      refine XS.goto X6.here hx rfl (pc0 := 95) (pc' := 99) rfl (hb hby at_95) (by decide) (by decide) ?_
      exact k)
  have ks43 : own_R p e below (s₁.setTop (entryFrame m #[(.long q0), (.long q1), (.long q2), (.long q3), (.int p4)] maxLocals)) (T6.setTop (mkF m 103 #[.val (.long q0), .second, .val (.long q1), .second, .val (.long q2), .second, .val (.long q3), .second, .val (.int p4), .val (.long v4), .second, .val (.long v8), .second, .val (.int v10), .val (.int v16), .val (.int v22), .val (.int v28), .val (.long v30), .second, .val (.long v36), .second, .unset, .unset, .unset, .unset, .unset] [(.int v22)])) := fun t k => ks38 t (by
    show Steps p.tables e below (T6.setTop (mkF m 99 #[.val (.long q0), .second, .val (.long q1), .second, .val (.long q2), .second, .val (.long q3), .second, .val (.int p4), .val (.long v4), .second, .val (.long v8), .second, .val (.int v10), .val (.int v16), .val (.int v22), .val (.int v28), .val (.long v30), .second, .unset, .unset, .unset, .unset, .unset, .unset, .unset] [(.long v36)])) _
    refine XS.lstore X6.here hx rfl (hb hby at_99) rfl (l' := #[.val (.long q0), .second, .val (.long q1), .second, .val (.long q2), .second, .val (.long q3), .second, .val (.int p4), .val (.long v4), .second, .val (.long v8), .second, .val (.int v10), .val (.int v16), .val (.int v22), .val (.int v28), .val (.long v30), .second, .val (.long v36), .second, .unset, .unset, .unset, .unset, .unset]) rfl ?_
    show Steps p.tables e below (T6.setTop (mkF m 101 #[.val (.long q0), .second, .val (.long q1), .second, .val (.long q2), .second, .val (.long q3), .second, .val (.int p4), .val (.long v4), .second, .val (.long v8), .second, .val (.int v10), .val (.int v16), .val (.int v22), .val (.int v28), .val (.long v30), .second, .val (.long v36), .second, .unset, .unset, .unset, .unset, .unset] [])) _
    refine XS.iload X6.here hx rfl (hb hby at_101) rfl ?_
    exact k)
  obtain ⟨v42, hv42⟩ : ∃ z : Int64, z = (if v22 = (0 : Int32) then q2 else q3) := ⟨_, rfl⟩
  have ks44 : own_R p e below (s₁.setTop (entryFrame m #[(.long q0), (.long q1), (.long q2), (.long q3), (.int p4)] maxLocals)) (T6.setTop (mkF m 113 #[.val (.long q0), .second, .val (.long q1), .second, .val (.long q2), .second, .val (.long q3), .second, .val (.int p4), .val (.long v4), .second, .val (.long v8), .second, .val (.int v10), .val (.int v16), .val (.int v22), .val (.int v28), .val (.long v30), .second, .val (.long v36), .second, .unset, .unset, .unset, .unset, .unset] [(.long v42)])) := fun t k => ks43 t (by
    by_cases hc41 : v22 = (0 : Int32)
    · skip
      have qq45 : v42 = q2 := by rw [hv42, if_pos hc41]
      rw [qq45] at k
      show Steps p.tables e below (T6.setTop (mkF m 103 #[.val (.long q0), .second, .val (.long q1), .second, .val (.long q2), .second, .val (.long q3), .second, .val (.int p4), .val (.long v4), .second, .val (.long v8), .second, .val (.int v10), .val (.int v16), .val (.int v22), .val (.int v28), .val (.long v30), .second, .val (.long v36), .second, .unset, .unset, .unset, .unset, .unset] [(.int v22)])) _
      refine XS.ifYes X6.here hx rfl (pc0 := 103) (pc' := 111) rfl (hb hby at_103) rfl ((if0 _ _).trans (teq hc41).1) (by decide) (by decide) ?_
      show Steps p.tables e below (T6.setTop (mkF m 111 #[.val (.long q0), .second, .val (.long q1), .second, .val (.long q2), .second, .val (.long q3), .second, .val (.int p4), .val (.long v4), .second, .val (.long v8), .second, .val (.int v10), .val (.int v16), .val (.int v22), .val (.int v28), .val (.long v30), .second, .val (.long v36), .second, .unset, .unset, .unset, .unset, .unset] [])) _
      refine XS.lload X6.here hx rfl (hb hby at_111) rfl ?_
      exact k
    · skip
      have qq46 : v42 = q3 := by rw [hv42, if_neg hc41]
      rw [qq46] at k
      show Steps p.tables e below (T6.setTop (mkF m 103 #[.val (.long q0), .second, .val (.long q1), .second, .val (.long q2), .second, .val (.long q3), .second, .val (.int p4), .val (.long v4), .second, .val (.long v8), .second, .val (.int v10), .val (.int v16), .val (.int v22), .val (.int v28), .val (.long v30), .second, .val (.long v36), .second, .unset, .unset, .unset, .unset, .unset] [(.int v22)])) _
      refine XS.ifNo X6.here hx rfl (hb hby at_103) rfl ((if0 _ _).trans (feq hc41).1) ?_
      show Steps p.tables e below (T6.setTop (mkF m 106 #[.val (.long q0), .second, .val (.long q1), .second, .val (.long q2), .second, .val (.long q3), .second, .val (.int p4), .val (.long v4), .second, .val (.long v8), .second, .val (.int v10), .val (.int v16), .val (.int v22), .val (.int v28), .val (.long v30), .second, .val (.long v36), .second, .unset, .unset, .unset, .unset, .unset] [])) _
      refine XS.lload X6.here hx rfl (hb hby at_106) rfl ?_
      show Steps p.tables e below (T6.setTop (mkF m 108 #[.val (.long q0), .second, .val (.long q1), .second, .val (.long q2), .second, .val (.long q3), .second, .val (.int p4), .val (.long v4), .second, .val (.long v8), .second, .val (.int v10), .val (.int v16), .val (.int v22), .val (.int v28), .val (.long v30), .second, .val (.long v36), .second, .unset, .unset, .unset, .unset, .unset] [(.long q3)])) _
      refine XS.goto X6.here hx rfl (pc0 := 108) (pc' := 113) rfl (hb hby at_108) (by decide) (by decide) ?_
      exact k)
  have ks47 : own_R p e below (s₁.setTop (entryFrame m #[(.long q0), (.long q1), (.long q2), (.long q3), (.int p4)] maxLocals)) (T6.setTop (mkF m 115 #[.val (.long q0), .second, .val (.long q1), .second, .val (.long q2), .second, .val (.long q3), .second, .val (.int p4), .val (.long v4), .second, .val (.long v8), .second, .val (.int v10), .val (.int v16), .val (.int v22), .val (.int v28), .val (.long v30), .second, .val (.long v36), .second, .val (.long v42), .second, .unset, .unset, .unset] [])) := fun t k => ks44 t (by
    show Steps p.tables e below (T6.setTop (mkF m 113 #[.val (.long q0), .second, .val (.long q1), .second, .val (.long q2), .second, .val (.long q3), .second, .val (.int p4), .val (.long v4), .second, .val (.long v8), .second, .val (.int v10), .val (.int v16), .val (.int v22), .val (.int v28), .val (.long v30), .second, .val (.long v36), .second, .unset, .unset, .unset, .unset, .unset] [(.long v42)])) _
    refine XS.lstore X6.here hx rfl (hb hby at_113) rfl (l' := #[.val (.long q0), .second, .val (.long q1), .second, .val (.long q2), .second, .val (.long q3), .second, .val (.int p4), .val (.long v4), .second, .val (.long v8), .second, .val (.int v10), .val (.int v16), .val (.int v22), .val (.int v28), .val (.long v30), .second, .val (.long v36), .second, .val (.long v42), .second, .unset, .unset, .unset]) rfl ?_
    exact k)
  obtain ⟨T48, h48, X48, e48, E48, A48, D48, -, st48⟩ := newO X6 hx hZ hown (hw _ (List.mem_of_getElem? (i := 5) rfl)) (hw _ (List.mem_of_getElem? (i := 6) rfl)) (hw _ (List.mem_of_getElem? (i := 7) rfl)) eq6 (g := (mkF m 115 #[.val (.long q0), .second, .val (.long q1), .second, .val (.long q2), .second, .val (.long q3), .second, .val (.int p4), .val (.long v4), .second, .val (.long v8), .second, .val (.int v10), .val (.int v16), .val (.int v22), .val (.int v28), .val (.long v30), .second, .val (.long v36), .second, .val (.long v42), .second, .unset, .unset, .unset] [])) rfl (hb hby at_115) (by decide) (by decide)
  obtain ⟨b48, g48⟩ : ∃ z, z = h0.size := ⟨_, rfl⟩
  rw [← g48] at A48 D48 st48
  have g_b48 : n0 ≤ b48 := Nat.le_trans Z0 (Nat.le_of_eq g48.symm)
  have sz_b48 : h0.size ≤ b48 := Nat.le_trans (Keep.refl h0 []).1 (Nat.le_of_eq g48.symm)
  have KH48 : Keep h0 h48 [] := (Keep.refl h0 []).ext E48
  have Zn48 : n0 ≤ h48.size := Nat.le_trans Z0 E48.1
  have F_id_b48 : Fld Z h48 b48 "com/example/thin_feed/thinfeed/model/Post" "id" "J" (.long (0 : Int64)) := D48 (Or.inr (hw _ (List.mem_of_getElem? (i := 15) rfl))) (ty := .long) (by decide)
  have F_author_b48 : Fld Z h48 b48 "com/example/thin_feed/thinfeed/model/Post" "author" "J" (.long (0 : Int64)) := D48 (Or.inr (hw _ (List.mem_of_getElem? (i := 17) rfl))) (ty := .long) (by decide)
  have F_createdAt_b48 : Fld Z h48 b48 "com/example/thin_feed/thinfeed/model/Post" "createdAt" "J" (.long (0 : Int64)) := D48 (Or.inr (hw _ (List.mem_of_getElem? (i := 19) rfl))) (ty := .long) (by decide)
  have ks49 : own_R p e below (s₁.setTop (entryFrame m #[(.long q0), (.long q1), (.long q2), (.long q3), (.int p4)] maxLocals)) (T48.setTop (mkF m 118 #[.val (.long q0), .second, .val (.long q1), .second, .val (.long q2), .second, .val (.long q3), .second, .val (.int p4), .val (.long v4), .second, .val (.long v8), .second, .val (.int v10), .val (.int v16), .val (.int v22), .val (.int v28), .val (.long v30), .second, .val (.long v36), .second, .val (.long v42), .second, .unset, .unset, .unset] [(.ref b48)])) := fun t k => ks47 t (st48 t k)
  have ks50 : own_R p e below (s₁.setTop (entryFrame m #[(.long q0), (.long q1), (.long q2), (.long q3), (.int p4)] maxLocals)) (T48.setTop (mkF m 124 #[.val (.long q0), .second, .val (.long q1), .second, .val (.long q2), .second, .val (.long q3), .second, .val (.int p4), .val (.long v4), .second, .val (.long v8), .second, .val (.int v10), .val (.int v16), .val (.int v22), .val (.int v28), .val (.long v30), .second, .val (.long v36), .second, .val (.long v42), .second, .unset, .unset, .unset] [(.long q2), (.long q1), (.long v4), (.ref b48), (.ref b48)])) := fun t k => ks49 t (by
    show Steps p.tables e below (T48.setTop (mkF m 118 #[.val (.long q0), .second, .val (.long q1), .second, .val (.long q2), .second, .val (.long q3), .second, .val (.int p4), .val (.long v4), .second, .val (.long v8), .second, .val (.int v10), .val (.int v16), .val (.int v22), .val (.int v28), .val (.long v30), .second, .val (.long v36), .second, .val (.long v42), .second, .unset, .unset, .unset] [(.ref b48)])) _
    refine XS.dup X48.here hx rfl (hb hby at_118) rfl rfl ?_
    show Steps p.tables e below (T48.setTop (mkF m 119 #[.val (.long q0), .second, .val (.long q1), .second, .val (.long q2), .second, .val (.long q3), .second, .val (.int p4), .val (.long v4), .second, .val (.long v8), .second, .val (.int v10), .val (.int v16), .val (.int v22), .val (.int v28), .val (.long v30), .second, .val (.long v36), .second, .val (.long v42), .second, .unset, .unset, .unset] [(.ref b48), (.ref b48)])) _
    refine XS.lload X48.here hx rfl (hb hby at_119) rfl ?_
    show Steps p.tables e below (T48.setTop (mkF m 121 #[.val (.long q0), .second, .val (.long q1), .second, .val (.long q2), .second, .val (.long q3), .second, .val (.int p4), .val (.long v4), .second, .val (.long v8), .second, .val (.int v10), .val (.int v16), .val (.int v22), .val (.int v28), .val (.long v30), .second, .val (.long v36), .second, .val (.long v42), .second, .unset, .unset, .unset] [(.long v4), (.ref b48), (.ref b48)])) _
    refine XS.lloadN X48.here hx rfl (hb hby at_121) rfl ?_
    show Steps p.tables e below (T48.setTop (mkF m 122 #[.val (.long q0), .second, .val (.long q1), .second, .val (.long q2), .second, .val (.long q3), .second, .val (.int p4), .val (.long v4), .second, .val (.long v8), .second, .val (.int v10), .val (.int v16), .val (.int v22), .val (.int v28), .val (.long v30), .second, .val (.long v36), .second, .val (.long v42), .second, .unset, .unset, .unset] [(.long q1), (.long v4), (.ref b48), (.ref b48)])) _
    refine XS.lload X48.here hx rfl (hb hby at_122) rfl ?_
    exact k)
  obtain ⟨_, _, ⟨T51, L51, k51, n51⟩, -, X51, ⟨Lc51, hQ51, lq51, yq51, zq51⟩, st51⟩ := X48.specialBack hx (y := (⟨"com/example/thin_feed/thinfeed/model/Post", "<init>", "(JJJ)V"⟩ : MethodName)) rfl hown (mvT hZ (hw _ (List.mem_of_getElem? (i := 8) rfl))) (mvT hZ (hw _ (List.mem_of_getElem? (i := 9) rfl))) (mvT hZ (hw _ (List.mem_of_getElem? (i := 10) rfl))) (by decide) (backOf (W := 1) (rm2 l Z a0 hw [] b48 v4 q1 q2 h48 n0 Zn48 g_b48 A48 F_id_b48 F_author_b48 F_createdAt_b48) hZ (hw _ (List.mem_of_getElem? (i := 10) rfl)) (hw _ (List.mem_of_getElem? (i := 7) rfl)) (by decide) (by decide)) (g := (mkF m 124 #[.val (.long q0), .second, .val (.long q1), .second, .val (.long q2), .second, .val (.long q3), .second, .val (.int p4), .val (.long v4), .second, .val (.long v8), .second, .val (.int v10), .val (.int v16), .val (.int v22), .val (.int v28), .val (.long v30), .second, .val (.long v36), .second, .val (.long v42), .second, .unset, .unset, .unset] [(.long q2), (.long q1), (.long v4), (.ref b48), (.ref b48)])) rfl (by rw [hml]; rfl) (Steps.refl _) (a := b48) (argsL := [(.long v4), (.long q1), (.long q2)]) (rest := [(.ref b48)]) (lenOf pd_1 rfl) rfl (by show 2 * 0 + _ ≤ _; exact Nat.le_of_eq rfl) (hb hby at_124) (fun _ _ => ⟨rfl, e48, (by decide : 1 + 0 ≤ _), (by decide : 3 + 0 ≤ _)⟩)
  dsimp only [Pt.U, Pt.locs, Pt.cells, Pt.slots] at X51 lq51 yq51 zq51 st51 hQ51
  subst lq51 yq51 zq51
  obtain ⟨rfl, Nq51, Kq51, Ex51, Fx51_0, Fx51_1, Fx51_2⟩ := hQ51
  have N51 := Fr.app N6 Nq51
  have KH51 : Keep h0 T51.heap [] := KH48.trans Kq51 (allS (Or.inr sz_b48) all0)
  have Zn51 : n0 ≤ T51.heap.size := Nat.le_trans Zn48 Kq51.1
  have ks52 : own_R p e below (s₁.setTop (entryFrame m #[(.long q0), (.long q1), (.long q2), (.long q3), (.int p4)] maxLocals)) (T51.setTop (mkF m 127 #[.val (.long q0), .second, .val (.long q1), .second, .val (.long q2), .second, .val (.long q3), .second, .val (.int p4), .val (.long v4), .second, .val (.long v8), .second, .val (.int v10), .val (.int v16), .val (.int v22), .val (.int v28), .val (.long v30), .second, .val (.long v36), .second, .val (.long v42), .second, .unset, .unset, .unset] [(.ref b48)])) := fun t k => ks50 t (st51.trans k)
  have ks53 : own_R p e below (s₁.setTop (entryFrame m #[(.long q0), (.long q1), (.long q2), (.long q3), (.int p4)] maxLocals)) (T51.setTop (mkF m 129 #[.val (.long q0), .second, .val (.long q1), .second, .val (.long q2), .second, .val (.long q3), .second, .val (.int p4), .val (.long v4), .second, .val (.long v8), .second, .val (.int v10), .val (.int v16), .val (.int v22), .val (.int v28), .val (.long v30), .second, .val (.long v36), .second, .val (.long v42), .second, .val (.ref b48), .unset, .unset] [])) := fun t k => ks52 t (by
    show Steps p.tables e below (T51.setTop (mkF m 127 #[.val (.long q0), .second, .val (.long q1), .second, .val (.long q2), .second, .val (.long q3), .second, .val (.int p4), .val (.long v4), .second, .val (.long v8), .second, .val (.int v10), .val (.int v16), .val (.int v22), .val (.int v28), .val (.long v30), .second, .val (.long v36), .second, .val (.long v42), .second, .unset, .unset, .unset] [(.ref b48)])) _
    refine XS.astore X51.here hx rfl (hb hby at_127) rfl rfl (l' := #[.val (.long q0), .second, .val (.long q1), .second, .val (.long q2), .second, .val (.long q3), .second, .val (.int p4), .val (.long v4), .second, .val (.long v8), .second, .val (.int v10), .val (.int v16), .val (.int v22), .val (.int v28), .val (.long v30), .second, .val (.long v36), .second, .val (.long v42), .second, .val (.ref b48), .unset, .unset]) rfl ?_
    exact k)
  obtain ⟨T54, h54, X54, e54, E54, A54, D54, -, st54⟩ := newO X51 hx hZ hown (hw _ (List.mem_of_getElem? (i := 5) rfl)) (hw _ (List.mem_of_getElem? (i := 6) rfl)) (hw _ (List.mem_of_getElem? (i := 7) rfl)) rfl (g := (mkF m 129 #[.val (.long q0), .second, .val (.long q1), .second, .val (.long q2), .second, .val (.long q3), .second, .val (.int p4), .val (.long v4), .second, .val (.long v8), .second, .val (.int v10), .val (.int v16), .val (.int v22), .val (.int v28), .val (.long v30), .second, .val (.long v36), .second, .val (.long v42), .second, .val (.ref b48), .unset, .unset] [])) rfl (hb hby at_129) (by decide) (by decide)
  obtain ⟨b54, g54⟩ : ∃ z, z = T51.heap.size := ⟨_, rfl⟩
  rw [← g54] at A54 D54 st54
  have ne_b48_b54 : b48 ≠ b54 := Nat.ne_of_lt (Nat.lt_of_lt_of_le Ex51.lt (Nat.le_of_eq g54.symm))
  have g_b54 : n0 ≤ b54 := Nat.le_trans Zn51 (Nat.le_of_eq g54.symm)
  have sz_b54 : h0.size ≤ b54 := Nat.le_trans KH51.1 (Nat.le_of_eq g54.symm)
  have KH54 : Keep h0 h54 [] := KH51.ext E54
  have Zn54 : n0 ≤ h54.size := Nat.le_trans Zn51 E54.1
  have F_id_b54 : Fld Z h54 b54 "com/example/thin_feed/thinfeed/model/Post" "id" "J" (.long (0 : Int64)) := D54 (Or.inr (hw _ (List.mem_of_getElem? (i := 15) rfl))) (ty := .long) (by decide)
  have F_author_b54 : Fld Z h54 b54 "com/example/thin_feed/thinfeed/model/Post" "author" "J" (.long (0 : Int64)) := D54 (Or.inr (hw _ (List.mem_of_getElem? (i := 17) rfl))) (ty := .long) (by decide)
  have F_createdAt_b54 : Fld Z h54 b54 "com/example/thin_feed/thinfeed/model/Post" "createdAt" "J" (.long (0 : Int64)) := D54 (Or.inr (hw _ (List.mem_of_getElem? (i := 19) rfl))) (ty := .long) (by decide)
  have ks55 : own_R p e below (s₁.setTop (entryFrame m #[(.long q0), (.long q1), (.long q2), (.long q3), (.int p4)] maxLocals)) (T54.setTop (mkF m 132 #[.val (.long q0), .second, .val (.long q1), .second, .val (.long q2), .second, .val (.long q3), .second, .val (.int p4), .val (.long v4), .second, .val (.long v8), .second, .val (.int v10), .val (.int v16), .val (.int v22), .val (.int v28), .val (.long v30), .second, .val (.long v36), .second, .val (.long v42), .second, .val (.ref b48), .unset, .unset] [(.ref b54)])) := fun t k => ks53 t (st54 t k)
  have ks56 : own_R p e below (s₁.setTop (entryFrame m #[(.long q0), (.long q1), (.long q2), (.long q3), (.int p4)] maxLocals)) (T54.setTop (mkF m 139 #[.val (.long q0), .second, .val (.long q1), .second, .val (.long q2), .second, .val (.long q3), .second, .val (.int p4), .val (.long v4), .second, .val (.long v8), .second, .val (.int v10), .val (.int v16), .val (.int v22), .val (.int v28), .val (.long v30), .second, .val (.long v36), .second, .val (.long v42), .second, .val (.ref b48), .unset, .unset] [(.long v42), (.long v36), (.long v30), (.ref b54), (.ref b54)])) := fun t k => ks55 t (by
    show Steps p.tables e below (T54.setTop (mkF m 132 #[.val (.long q0), .second, .val (.long q1), .second, .val (.long q2), .second, .val (.long q3), .second, .val (.int p4), .val (.long v4), .second, .val (.long v8), .second, .val (.int v10), .val (.int v16), .val (.int v22), .val (.int v28), .val (.long v30), .second, .val (.long v36), .second, .val (.long v42), .second, .val (.ref b48), .unset, .unset] [(.ref b54)])) _
    refine XS.dup X54.here hx rfl (hb hby at_132) rfl rfl ?_
    show Steps p.tables e below (T54.setTop (mkF m 133 #[.val (.long q0), .second, .val (.long q1), .second, .val (.long q2), .second, .val (.long q3), .second, .val (.int p4), .val (.long v4), .second, .val (.long v8), .second, .val (.int v10), .val (.int v16), .val (.int v22), .val (.int v28), .val (.long v30), .second, .val (.long v36), .second, .val (.long v42), .second, .val (.ref b48), .unset, .unset] [(.ref b54), (.ref b54)])) _
    refine XS.lload X54.here hx rfl (hb hby at_133) rfl ?_
    show Steps p.tables e below (T54.setTop (mkF m 135 #[.val (.long q0), .second, .val (.long q1), .second, .val (.long q2), .second, .val (.long q3), .second, .val (.int p4), .val (.long v4), .second, .val (.long v8), .second, .val (.int v10), .val (.int v16), .val (.int v22), .val (.int v28), .val (.long v30), .second, .val (.long v36), .second, .val (.long v42), .second, .val (.ref b48), .unset, .unset] [(.long v30), (.ref b54), (.ref b54)])) _
    refine XS.lload X54.here hx rfl (hb hby at_135) rfl ?_
    show Steps p.tables e below (T54.setTop (mkF m 137 #[.val (.long q0), .second, .val (.long q1), .second, .val (.long q2), .second, .val (.long q3), .second, .val (.int p4), .val (.long v4), .second, .val (.long v8), .second, .val (.int v10), .val (.int v16), .val (.int v22), .val (.int v28), .val (.long v30), .second, .val (.long v36), .second, .val (.long v42), .second, .val (.ref b48), .unset, .unset] [(.long v36), (.long v30), (.ref b54), (.ref b54)])) _
    refine XS.lload X54.here hx rfl (hb hby at_137) rfl ?_
    exact k)
  obtain ⟨_, _, ⟨T57, L57, k57, n57⟩, -, X57, ⟨Lc57, hQ57, lq57, yq57, zq57⟩, st57⟩ := X54.specialBack hx (y := (⟨"com/example/thin_feed/thinfeed/model/Post", "<init>", "(JJJ)V"⟩ : MethodName)) rfl hown (mvT hZ (hw _ (List.mem_of_getElem? (i := 8) rfl))) (mvT hZ (hw _ (List.mem_of_getElem? (i := 9) rfl))) (mvT hZ (hw _ (List.mem_of_getElem? (i := 10) rfl))) (by decide) (backOf (W := 1) (rm2 l Z a0 hw [] b54 v30 v36 v42 h54 n0 Zn54 g_b54 A54 F_id_b54 F_author_b54 F_createdAt_b54) hZ (hw _ (List.mem_of_getElem? (i := 10) rfl)) (hw _ (List.mem_of_getElem? (i := 7) rfl)) (by decide) (by decide)) (g := (mkF m 139 #[.val (.long q0), .second, .val (.long q1), .second, .val (.long q2), .second, .val (.long q3), .second, .val (.int p4), .val (.long v4), .second, .val (.long v8), .second, .val (.int v10), .val (.int v16), .val (.int v22), .val (.int v28), .val (.long v30), .second, .val (.long v36), .second, .val (.long v42), .second, .val (.ref b48), .unset, .unset] [(.long v42), (.long v36), (.long v30), (.ref b54), (.ref b54)])) rfl (by rw [hml]; rfl) (Steps.refl _) (a := b54) (argsL := [(.long v30), (.long v36), (.long v42)]) (rest := [(.ref b54)]) (lenOf pd_1 rfl) rfl (by show 2 * 0 + _ ≤ _; exact Nat.le_of_eq rfl) (hb hby at_139) (fun _ _ => ⟨rfl, e54, (by decide : 2 + 0 ≤ _), (by decide : 6 + 0 ≤ _)⟩)
  dsimp only [Pt.U, Pt.locs, Pt.cells, Pt.slots] at X57 lq57 yq57 zq57 st57 hQ57
  subst lq57 yq57 zq57
  obtain ⟨rfl, Nq57, Kq57, Ex57, Fx57_0, Fx57_1, Fx57_2⟩ := hQ57
  have N57 := Fr.app N51 Nq57
  have KH57 : Keep h0 T57.heap [] := KH54.trans Kq57 (allS (Or.inr sz_b54) all0)
  have Zn57 : n0 ≤ T57.heap.size := Nat.le_trans Zn54 Kq57.1
  have ks58 : own_R p e below (s₁.setTop (entryFrame m #[(.long q0), (.long q1), (.long q2), (.long q3), (.int p4)] maxLocals)) (T57.setTop (mkF m 142 #[.val (.long q0), .second, .val (.long q1), .second, .val (.long q2), .second, .val (.long q3), .second, .val (.int p4), .val (.long v4), .second, .val (.long v8), .second, .val (.int v10), .val (.int v16), .val (.int v22), .val (.int v28), .val (.long v30), .second, .val (.long v36), .second, .val (.long v42), .second, .val (.ref b48), .unset, .unset] [(.ref b54)])) := fun t k => ks56 t (st57.trans k)
  have ks59 : own_R p e below (s₁.setTop (entryFrame m #[(.long q0), (.long q1), (.long q2), (.long q3), (.int p4)] maxLocals)) (T57.setTop (mkF m 147 #[.val (.long q0), .second, .val (.long q1), .second, .val (.long q2), .second, .val (.long q3), .second, .val (.int p4), .val (.long v4), .second, .val (.long v8), .second, .val (.int v10), .val (.int v16), .val (.int v22), .val (.int v28), .val (.long v30), .second, .val (.long v36), .second, .val (.long v42), .second, .val (.ref b48), .val (.ref b54), .unset] [(.int (5 : Int32)), (.int v28)])) := fun t k => ks58 t (by
    show Steps p.tables e below (T57.setTop (mkF m 142 #[.val (.long q0), .second, .val (.long q1), .second, .val (.long q2), .second, .val (.long q3), .second, .val (.int p4), .val (.long v4), .second, .val (.long v8), .second, .val (.int v10), .val (.int v16), .val (.int v22), .val (.int v28), .val (.long v30), .second, .val (.long v36), .second, .val (.long v42), .second, .val (.ref b48), .unset, .unset] [(.ref b54)])) _
    refine XS.astore X57.here hx rfl (hb hby at_142) rfl rfl (l' := #[.val (.long q0), .second, .val (.long q1), .second, .val (.long q2), .second, .val (.long q3), .second, .val (.int p4), .val (.long v4), .second, .val (.long v8), .second, .val (.int v10), .val (.int v16), .val (.int v22), .val (.int v28), .val (.long v30), .second, .val (.long v36), .second, .val (.long v42), .second, .val (.ref b48), .val (.ref b54), .unset]) rfl ?_
    show Steps p.tables e below (T57.setTop (mkF m 144 #[.val (.long q0), .second, .val (.long q1), .second, .val (.long q2), .second, .val (.long q3), .second, .val (.int p4), .val (.long v4), .second, .val (.long v8), .second, .val (.int v10), .val (.int v16), .val (.int v22), .val (.int v28), .val (.long v30), .second, .val (.long v36), .second, .val (.long v42), .second, .val (.ref b48), .val (.ref b54), .unset] [])) _
    refine XS.iload X57.here hx rfl (hb hby at_144) rfl ?_
    show Steps p.tables e below (T57.setTop (mkF m 146 #[.val (.long q0), .second, .val (.long q1), .second, .val (.long q2), .second, .val (.long q3), .second, .val (.int p4), .val (.long v4), .second, .val (.long v8), .second, .val (.int v10), .val (.int v16), .val (.int v22), .val (.int v28), .val (.long v30), .second, .val (.long v36), .second, .val (.long v42), .second, .val (.ref b48), .val (.ref b54), .unset] [(.int v28)])) _
    refine XS.iconst X57.here hx rfl (hb hby at_146) ?_
    exact k)
  by_cases hc60 : v28 = (5 : Int32)
  · skip
    have ks61 : own_R p e below (s₁.setTop (entryFrame m #[(.long q0), (.long q1), (.long q2), (.long q3), (.int p4)] maxLocals)) (T57.setTop (mkF m 153 #[.val (.long q0), .second, .val (.long q1), .second, .val (.long q2), .second, .val (.long q3), .second, .val (.int p4), .val (.long v4), .second, .val (.long v8), .second, .val (.int v10), .val (.int v16), .val (.int v22), .val (.int v28), .val (.long v30), .second, .val (.long v36), .second, .val (.long v42), .second, .val (.ref b48), .val (.ref b54), .unset] [.null, (.ref b48)])) := fun t k => ks59 t (by
      show Steps p.tables e below (T57.setTop (mkF m 147 #[.val (.long q0), .second, .val (.long q1), .second, .val (.long q2), .second, .val (.long q3), .second, .val (.int p4), .val (.long v4), .second, .val (.long v8), .second, .val (.int v10), .val (.int v16), .val (.int v22), .val (.int v28), .val (.long v30), .second, .val (.long v36), .second, .val (.long v42), .second, .val (.ref b48), .val (.ref b54), .unset] [(.int (5 : Int32)), (.int v28)])) _
      refine XS.icmpNo X57.here hx rfl (hb hby at_147) rfl (teq hc60).2 ?_
      show Steps p.tables e below (T57.setTop (mkF m 150 #[.val (.long q0), .second, .val (.long q1), .second, .val (.long q2), .second, .val (.long q3), .second, .val (.int p4), .val (.long v4), .second, .val (.long v8), .second, .val (.int v10), .val (.int v16), .val (.int v22), .val (.int v28), .val (.long v30), .second, .val (.long v36), .second, .val (.long v42), .second, .val (.ref b48), .val (.ref b54), .unset] [])) _
      refine XS.aload X57.here hx rfl (hb hby at_150) rfl rfl ?_
      show Steps p.tables e below (T57.setTop (mkF m 152 #[.val (.long q0), .second, .val (.long q1), .second, .val (.long q2), .second, .val (.long q3), .second, .val (.int p4), .val (.long v4), .second, .val (.long v8), .second, .val (.int v10), .val (.int v16), .val (.int v22), .val (.int v28), .val (.long v30), .second, .val (.long v36), .second, .val (.long v42), .second, .val (.ref b48), .val (.ref b54), .unset] [(.ref b48)])) _
      refine XS.aconstNull X57.here hx rfl (hb hby at_152) ?_
      exact k)
    have f63 := ((Ex51.ext E54).keep Kq57)
    obtain ⟨cq62, kq62, q62a, q62b, q62c⟩ := isOf hZ rfl f63
    obtain ⟨_, _, ⟨T62, L62, k62, n62⟩, -, X62, ⟨Lc62, hQ62, lq62, yq62, zq62⟩, st62⟩ := X57.virtualBack hx (y := (⟨"com/example/thin_feed/thinfeed/model/Post", "equals", "(Ljava/lang/Object;)Z"⟩ : MethodName)) (z := (⟨"com/example/thin_feed/thinfeed/model/Post", "equals", "(Ljava/lang/Object;)Z"⟩ : MethodName)) hown (mvT hZ (hw _ (List.mem_of_getElem? (i := 20) rfl))) (mvT hZ (hw _ (List.mem_of_getElem? (i := 21) rfl))) (notFace_of_selects (args := #[]) (mvT hZ (hw _ (List.mem_of_getElem? (i := 23) rfl)))) (mvT hZ (hw _ (List.mem_of_getElem? (i := 23) rfl))) (mvT hZ (hw _ (List.mem_of_getElem? (i := 22) rfl))) (by decide) (backOf (W := 0) (rm4n l Z a0 hw [] b48 T57.heap n0 Zn57 ) hZ (hw _ (List.mem_of_getElem? (i := 24) rfl)) (hw _ (List.mem_of_getElem? (i := 7) rfl)) (by decide) (by decide)) q62a q62c (g := (mkF m 153 #[.val (.long q0), .second, .val (.long q1), .second, .val (.long q2), .second, .val (.long q3), .second, .val (.int p4), .val (.long v4), .second, .val (.long v8), .second, .val (.int v10), .val (.int v16), .val (.int v22), .val (.int v28), .val (.long v30), .second, .val (.long v36), .second, .val (.long v42), .second, .val (.ref b48), .val (.ref b54), .unset] [.null, (.ref b48)])) rfl (by rw [hml]; rfl) (Steps.refl _) (argsL := [.null]) (rest := []) (lenOf pd_3 rfl) rfl (by show 2 * 0 + _ ≤ _; exact Nat.le_of_eq rfl) (hb hby at_153) (fun _ _ => ⟨rfl, rfl, (by decide : 2 + 0 ≤ _), (by decide : 6 + 0 ≤ _)⟩)
    dsimp only [Pt.U, Pt.locs, Pt.cells, Pt.slots] at X62 lq62 yq62 zq62 st62 hQ62
    subst lq62 yq62 zq62
    obtain ⟨rfl, Nq62, eq62⟩ := hQ62
    have N62 := Fr.app N57 Nq62
    have ks64 : own_R p e below (s₁.setTop (entryFrame m #[(.long q0), (.long q1), (.long q2), (.long q3), (.int p4)] maxLocals)) (T62.setTop (mkF m 156 #[.val (.long q0), .second, .val (.long q1), .second, .val (.long q2), .second, .val (.long q3), .second, .val (.int p4), .val (.long v4), .second, .val (.long v8), .second, .val (.int v10), .val (.int v16), .val (.int v22), .val (.int v28), .val (.long v30), .second, .val (.long v36), .second, .val (.long v42), .second, .val (.ref b48), .val (.ref b54), .unset] [(.int (0 : Int32))])) := fun t k => ks61 t (st62.trans k)
    have ks65 : own_R p e below (s₁.setTop (entryFrame m #[(.long q0), (.long q1), (.long q2), (.long q3), (.int p4)] maxLocals)) (T62.setTop (mkF m 164 #[.val (.long q0), .second, .val (.long q1), .second, .val (.long q2), .second, .val (.long q3), .second, .val (.int p4), .val (.long v4), .second, .val (.long v8), .second, .val (.int v10), .val (.int v16), .val (.int v22), .val (.int v28), .val (.long v30), .second, .val (.long v36), .second, .val (.long v42), .second, .val (.ref b48), .val (.ref b54), .unset] [(.int (1 : Int32))])) := fun t k => ks64 t (by
      show Steps p.tables e below (T62.setTop (mkF m 156 #[.val (.long q0), .second, .val (.long q1), .second, .val (.long q2), .second, .val (.long q3), .second, .val (.int p4), .val (.long v4), .second, .val (.long v8), .second, .val (.int v10), .val (.int v16), .val (.int v22), .val (.int v28), .val (.long v30), .second, .val (.long v36), .second, .val (.long v42), .second, .val (.ref b48), .val (.ref b54), .unset] [(.int (0 : Int32))])) _
      refine XS.ifNo X62.here hx rfl (hb hby at_156) rfl ((if0 _ _).trans (teq (by decide)).2) ?_
      show Steps p.tables e below (T62.setTop (mkF m 159 #[.val (.long q0), .second, .val (.long q1), .second, .val (.long q2), .second, .val (.long q3), .second, .val (.int p4), .val (.long v4), .second, .val (.long v8), .second, .val (.int v10), .val (.int v16), .val (.int v22), .val (.int v28), .val (.long v30), .second, .val (.long v36), .second, .val (.long v42), .second, .val (.ref b48), .val (.ref b54), .unset] [])) _
      refine XS.iconst X62.here hx rfl (hb hby at_159) ?_
      show Steps p.tables e below (T62.setTop (mkF m 160 #[.val (.long q0), .second, .val (.long q1), .second, .val (.long q2), .second, .val (.long q3), .second, .val (.int p4), .val (.long v4), .second, .val (.long v8), .second, .val (.int v10), .val (.int v16), .val (.int v22), .val (.int v28), .val (.long v30), .second, .val (.long v36), .second, .val (.long v42), .second, .val (.ref b48), .val (.ref b54), .unset] [(.int (1 : Int32))])) _
      refine XS.goto X62.here hx rfl (pc0 := 160) (pc' := 164) rfl (hb hby at_160) (by decide) (by decide) ?_
      exact k)
    obtain ⟨fs, hr, hrun, hended, hW, hsame⟩ := X62.leave (v := some (.int (1 : Int32))) (fun h => by rw [Bd.returns] at h; cases h)
    refine ⟨_, _, ks65 _ ?_, hrun, hended, _, _, rfl, ?_, ⟨_, rfl⟩, hW, hsame.mono (by decide) (by decide)⟩
    · exact retN X62 hx (t := .boolean) Bd.returns (by simp) (hb hby at_164) hr
    · show Q0 Z q0 q1 q2 q3 p4 u1 cl1 h0 n0 _ T62.heap _
      rw [eq62]
      exact ⟨rfl, N62⟩
  · skip
    have ks66 : own_R p e below (s₁.setTop (entryFrame m #[(.long q0), (.long q1), (.long q2), (.long q3), (.int p4)] maxLocals)) (T57.setTop (mkF m 169 #[.val (.long q0), .second, .val (.long q1), .second, .val (.long q2), .second, .val (.long q3), .second, .val (.int p4), .val (.long v4), .second, .val (.long v8), .second, .val (.int v10), .val (.int v16), .val (.int v22), .val (.int v28), .val (.long v30), .second, .val (.long v36), .second, .val (.long v42), .second, .val (.ref b48), .val (.ref b54), .unset] [(.int (6 : Int32)), (.int v28)])) := fun t k => ks59 t (by
      show Steps p.tables e below (T57.setTop (mkF m 147 #[.val (.long q0), .second, .val (.long q1), .second, .val (.long q2), .second, .val (.long q3), .second, .val (.int p4), .val (.long v4), .second, .val (.long v8), .second, .val (.int v10), .val (.int v16), .val (.int v22), .val (.int v28), .val (.long v30), .second, .val (.long v36), .second, .val (.long v42), .second, .val (.ref b48), .val (.ref b54), .unset] [(.int (5 : Int32)), (.int v28)])) _
      refine XS.icmpYes X57.here hx rfl (pc0 := 147) (pc' := 165) rfl (hb hby at_147) rfl (feq hc60).2 (by decide) (by decide) ?_
      show Steps p.tables e below (T57.setTop (mkF m 165 #[.val (.long q0), .second, .val (.long q1), .second, .val (.long q2), .second, .val (.long q3), .second, .val (.int p4), .val (.long v4), .second, .val (.long v8), .second, .val (.int v10), .val (.int v16), .val (.int v22), .val (.int v28), .val (.long v30), .second, .val (.long v36), .second, .val (.long v42), .second, .val (.ref b48), .val (.ref b54), .unset] [])) _
      refine XS.iload X57.here hx rfl (hb hby at_165) rfl ?_
      show Steps p.tables e below (T57.setTop (mkF m 167 #[.val (.long q0), .second, .val (.long q1), .second, .val (.long q2), .second, .val (.long q3), .second, .val (.int p4), .val (.long v4), .second, .val (.long v8), .second, .val (.int v10), .val (.int v16), .val (.int v22), .val (.int v28), .val (.long v30), .second, .val (.long v36), .second, .val (.long v42), .second, .val (.ref b48), .val (.ref b54), .unset] [(.int v28)])) _
      refine XS.bipush X57.here hx rfl (hb hby at_167) ?_
      exact k)
    by_cases hc67 : v28 = (6 : Int32)
    · skip
      have ks68 : own_R p e below (s₁.setTop (entryFrame m #[(.long q0), (.long q1), (.long q2), (.long q3), (.int p4)] maxLocals)) (T57.setTop (mkF m 176 #[.val (.long q0), .second, .val (.long q1), .second, .val (.long q2), .second, .val (.long q3), .second, .val (.int p4), .val (.long v4), .second, .val (.long v8), .second, .val (.int v10), .val (.int v16), .val (.int v22), .val (.int v28), .val (.long v30), .second, .val (.long v36), .second, .val (.long v42), .second, .val (.ref b48), .val (.ref b54), .unset] [(.long v4), (.ref b48)])) := fun t k => ks66 t (by
        show Steps p.tables e below (T57.setTop (mkF m 169 #[.val (.long q0), .second, .val (.long q1), .second, .val (.long q2), .second, .val (.long q3), .second, .val (.int p4), .val (.long v4), .second, .val (.long v8), .second, .val (.int v10), .val (.int v16), .val (.int v22), .val (.int v28), .val (.long v30), .second, .val (.long v36), .second, .val (.long v42), .second, .val (.ref b48), .val (.ref b54), .unset] [(.int (6 : Int32)), (.int v28)])) _
        refine XS.icmpNo X57.here hx rfl (hb hby at_169) rfl (teq hc67).2 ?_
        show Steps p.tables e below (T57.setTop (mkF m 172 #[.val (.long q0), .second, .val (.long q1), .second, .val (.long q2), .second, .val (.long q3), .second, .val (.int p4), .val (.long v4), .second, .val (.long v8), .second, .val (.int v10), .val (.int v16), .val (.int v22), .val (.int v28), .val (.long v30), .second, .val (.long v36), .second, .val (.long v42), .second, .val (.ref b48), .val (.ref b54), .unset] [])) _
        refine XS.aload X57.here hx rfl (hb hby at_172) rfl rfl ?_
        show Steps p.tables e below (T57.setTop (mkF m 174 #[.val (.long q0), .second, .val (.long q1), .second, .val (.long q2), .second, .val (.long q3), .second, .val (.int p4), .val (.long v4), .second, .val (.long v8), .second, .val (.int v10), .val (.int v16), .val (.int v22), .val (.int v28), .val (.long v30), .second, .val (.long v36), .second, .val (.long v42), .second, .val (.ref b48), .val (.ref b54), .unset] [(.ref b48)])) _
        refine XS.lload X57.here hx rfl (hb hby at_174) rfl ?_
        exact k)
      have f70 := own_sta_keep S1 KH57
      obtain ⟨_, _, ⟨T69, L69, k69, n69⟩, -, X69, ⟨Lc69, hQ69, lq69, yq69, zq69⟩, st69⟩ := Jvm.LawKit.callS X57 hx (y := (⟨"java/lang/Long", "valueOf", "(J)Ljava/lang/Long;"⟩ : MethodName)) hown (mvT hZ (hw _ (List.mem_of_getElem? (i := 27) rfl))) (mvT hZ (hw _ (List.mem_of_getElem? (i := 28) rfl))) (mvT hZ (hw _ (List.mem_of_getElem? (i := 29) rfl))) (mvT hZ (hw _ (List.mem_of_getElem? (i := 30) rfl))) (by decide) (backOf (W := 1) (rm5 l Z a0 hw [] v4 u1 cl1 T57.heap n0 Zn57 (O0.keep KH57 all0) f70 (own_arr_keep A1 KH57) hs1 B1) hZ (hw _ (List.mem_of_getElem? (i := 30) rfl)) (hw _ (List.mem_of_getElem? (i := 29) rfl)) (by decide) (by decide)) (g := (mkF m 176 #[.val (.long q0), .second, .val (.long q1), .second, .val (.long q2), .second, .val (.long q3), .second, .val (.int p4), .val (.long v4), .second, .val (.long v8), .second, .val (.int v10), .val (.int v16), .val (.int v22), .val (.int v28), .val (.long v30), .second, .val (.long v36), .second, .val (.long v42), .second, .val (.ref b48), .val (.ref b54), .unset] [(.long v4), (.ref b48)])) rfl (by rw [hml]; rfl) (argsL := [(.long v4)]) (rest := [(.ref b48)]) (lenOf pd_4 rfl) rfl (by show 2 * 0 + _ ≤ _; exact Nat.le_of_eq rfl) (hb hby at_176) (fun _ _ => ⟨rfl, rfl, (by decide : 2 + 1 ≤ _), (by decide : 6 + 1 ≤ _)⟩)
      dsimp only [Pt.U, Pt.locs, Pt.cells, Pt.slots] at X69 lq69 yq69 zq69 st69 hQ69
      subst lq69 yq69 zq69
      have f71 := ((Ex51.ext E54).keep Kq57)
      obtain ⟨bb69, rfl, Nq69, Kq69, Ex69⟩ := hQ69
      have N69 := Fr.app N57 Nq69
      have KH69 : Keep h0 T69.heap [] := KH57.trans Kq69 all0
      have Zn69 : n0 ≤ T69.heap.size := Nat.le_trans Zn57 Kq69.1
      have ks72 : own_R p e below (s₁.setTop (entryFrame m #[(.long q0), (.long q1), (.long q2), (.long q3), (.int p4)] maxLocals)) (T69.setTop (mkF m 179 #[.val (.long q0), .second, .val (.long q1), .second, .val (.long q2), .second, .val (.long q3), .second, .val (.int p4), .val (.long v4), .second, .val (.long v8), .second, .val (.int v10), .val (.int v16), .val (.int v22), .val (.int v28), .val (.long v30), .second, .val (.long v36), .second, .val (.long v42), .second, .val (.ref b48), .val (.ref b54), .unset] [(.ref bb69), (.ref b48)])) := fun t k => ks68 t (st69 t k)
      have f74 := (f71.keep Kq69)
      obtain ⟨cq73, kq73, q73a, q73b, q73c⟩ := isOf hZ rfl f74
      obtain ⟨_, _, ⟨T73, L73, k73, n73⟩, -, X73, ⟨Lc73, hQ73, lq73, yq73, zq73⟩, st73⟩ := X69.virtualBack hx (y := (⟨"com/example/thin_feed/thinfeed/model/Post", "equals", "(Ljava/lang/Object;)Z"⟩ : MethodName)) (z := (⟨"com/example/thin_feed/thinfeed/model/Post", "equals", "(Ljava/lang/Object;)Z"⟩ : MethodName)) hown (mvT hZ (hw _ (List.mem_of_getElem? (i := 20) rfl))) (mvT hZ (hw _ (List.mem_of_getElem? (i := 21) rfl))) (notFace_of_selects (args := #[]) (mvT hZ (hw _ (List.mem_of_getElem? (i := 23) rfl)))) (mvT hZ (hw _ (List.mem_of_getElem? (i := 23) rfl))) (mvT hZ (hw _ (List.mem_of_getElem? (i := 22) rfl))) (by decide) (backOf (W := 0) (rm4l l Z a0 hw [] b48 bb69 T69.heap n0 Zn69 Ex69 (own_ns hw)) hZ (hw _ (List.mem_of_getElem? (i := 24) rfl)) (hw _ (List.mem_of_getElem? (i := 7) rfl)) (by decide) (by decide)) q73a q73c (g := (mkF m 179 #[.val (.long q0), .second, .val (.long q1), .second, .val (.long q2), .second, .val (.long q3), .second, .val (.int p4), .val (.long v4), .second, .val (.long v8), .second, .val (.int v10), .val (.int v16), .val (.int v22), .val (.int v28), .val (.long v30), .second, .val (.long v36), .second, .val (.long v42), .second, .val (.ref b48), .val (.ref b54), .unset] [(.ref bb69), (.ref b48)])) rfl (by rw [hml]; rfl) (Steps.refl _) (argsL := [(.ref bb69)]) (rest := []) (lenOf pd_3 rfl) rfl (by show 2 * 0 + _ ≤ _; exact Nat.le_of_eq rfl) (hb hby at_179) (fun _ _ => ⟨rfl, rfl, (by decide : 3 + 0 ≤ _), (by decide : 7 + 0 ≤ _)⟩)
      dsimp only [Pt.U, Pt.locs, Pt.cells, Pt.slots] at X73 lq73 yq73 zq73 st73 hQ73
      subst lq73 yq73 zq73
      obtain ⟨rfl, Nq73, eq73⟩ := hQ73
      have N73 := Fr.app N69 Nq73
      have ks75 : own_R p e below (s₁.setTop (entryFrame m #[(.long q0), (.long q1), (.long q2), (.long q3), (.int p4)] maxLocals)) (T73.setTop (mkF m 182 #[.val (.long q0), .second, .val (.long q1), .second, .val (.long q2), .second, .val (.long q3), .second, .val (.int p4), .val (.long v4), .second, .val (.long v8), .second, .val (.int v10), .val (.int v16), .val (.int v22), .val (.int v28), .val (.long v30), .second, .val (.long v36), .second, .val (.long v42), .second, .val (.ref b48), .val (.ref b54), .unset] [(.int (0 : Int32))])) := fun t k => ks72 t (st73.trans k)
      have ks76 : own_R p e below (s₁.setTop (entryFrame m #[(.long q0), (.long q1), (.long q2), (.long q3), (.int p4)] maxLocals)) (T73.setTop (mkF m 190 #[.val (.long q0), .second, .val (.long q1), .second, .val (.long q2), .second, .val (.long q3), .second, .val (.int p4), .val (.long v4), .second, .val (.long v8), .second, .val (.int v10), .val (.int v16), .val (.int v22), .val (.int v28), .val (.long v30), .second, .val (.long v36), .second, .val (.long v42), .second, .val (.ref b48), .val (.ref b54), .unset] [(.int (1 : Int32))])) := fun t k => ks75 t (by
        show Steps p.tables e below (T73.setTop (mkF m 182 #[.val (.long q0), .second, .val (.long q1), .second, .val (.long q2), .second, .val (.long q3), .second, .val (.int p4), .val (.long v4), .second, .val (.long v8), .second, .val (.int v10), .val (.int v16), .val (.int v22), .val (.int v28), .val (.long v30), .second, .val (.long v36), .second, .val (.long v42), .second, .val (.ref b48), .val (.ref b54), .unset] [(.int (0 : Int32))])) _
        refine XS.ifNo X73.here hx rfl (hb hby at_182) rfl ((if0 _ _).trans (teq (by decide)).2) ?_
        show Steps p.tables e below (T73.setTop (mkF m 185 #[.val (.long q0), .second, .val (.long q1), .second, .val (.long q2), .second, .val (.long q3), .second, .val (.int p4), .val (.long v4), .second, .val (.long v8), .second, .val (.int v10), .val (.int v16), .val (.int v22), .val (.int v28), .val (.long v30), .second, .val (.long v36), .second, .val (.long v42), .second, .val (.ref b48), .val (.ref b54), .unset] [])) _
        refine XS.iconst X73.here hx rfl (hb hby at_185) ?_
        show Steps p.tables e below (T73.setTop (mkF m 186 #[.val (.long q0), .second, .val (.long q1), .second, .val (.long q2), .second, .val (.long q3), .second, .val (.int p4), .val (.long v4), .second, .val (.long v8), .second, .val (.int v10), .val (.int v16), .val (.int v22), .val (.int v28), .val (.long v30), .second, .val (.long v36), .second, .val (.long v42), .second, .val (.ref b48), .val (.ref b54), .unset] [(.int (1 : Int32))])) _
        refine XS.goto X73.here hx rfl (pc0 := 186) (pc' := 190) rfl (hb hby at_186) (by decide) (by decide) ?_
        exact k)
      obtain ⟨fs, hr, hrun, hended, hW, hsame⟩ := X73.leave (v := some (.int (1 : Int32))) (fun h => by rw [Bd.returns] at h; cases h)
      refine ⟨_, _, ks76 _ ?_, hrun, hended, _, _, rfl, ?_, ⟨_, rfl⟩, hW, hsame.mono (by decide) (by decide)⟩
      · exact retN X73 hx (t := .boolean) Bd.returns (by simp) (hb hby at_190) hr
      · show Q0 Z q0 q1 q2 q3 p4 u1 cl1 h0 n0 _ T73.heap _
        rw [eq73]
        exact ⟨rfl, N73⟩
    · skip
      have ks77 : own_R p e below (s₁.setTop (entryFrame m #[(.long q0), (.long q1), (.long q2), (.long q3), (.int p4)] maxLocals)) (T57.setTop (mkF m 195 #[.val (.long q0), .second, .val (.long q1), .second, .val (.long q2), .second, .val (.long q3), .second, .val (.int p4), .val (.long v4), .second, .val (.long v8), .second, .val (.int v10), .val (.int v16), .val (.int v22), .val (.int v28), .val (.long v30), .second, .val (.long v36), .second, .val (.long v42), .second, .val (.ref b48), .val (.ref b54), .unset] [(.int (7 : Int32)), (.int v28)])) := fun t k => ks66 t (by
        show Steps p.tables e below (T57.setTop (mkF m 169 #[.val (.long q0), .second, .val (.long q1), .second, .val (.long q2), .second, .val (.long q3), .second, .val (.int p4), .val (.long v4), .second, .val (.long v8), .second, .val (.int v10), .val (.int v16), .val (.int v22), .val (.int v28), .val (.long v30), .second, .val (.long v36), .second, .val (.long v42), .second, .val (.ref b48), .val (.ref b54), .unset] [(.int (6 : Int32)), (.int v28)])) _
        refine XS.icmpYes X57.here hx rfl (pc0 := 169) (pc' := 191) rfl (hb hby at_169) rfl (feq hc67).2 (by decide) (by decide) ?_
        show Steps p.tables e below (T57.setTop (mkF m 191 #[.val (.long q0), .second, .val (.long q1), .second, .val (.long q2), .second, .val (.long q3), .second, .val (.int p4), .val (.long v4), .second, .val (.long v8), .second, .val (.int v10), .val (.int v16), .val (.int v22), .val (.int v28), .val (.long v30), .second, .val (.long v36), .second, .val (.long v42), .second, .val (.ref b48), .val (.ref b54), .unset] [])) _
        refine XS.iload X57.here hx rfl (hb hby at_191) rfl ?_
        show Steps p.tables e below (T57.setTop (mkF m 193 #[.val (.long q0), .second, .val (.long q1), .second, .val (.long q2), .second, .val (.long q3), .second, .val (.int p4), .val (.long v4), .second, .val (.long v8), .second, .val (.int v10), .val (.int v16), .val (.int v22), .val (.int v28), .val (.long v30), .second, .val (.long v36), .second, .val (.long v42), .second, .val (.ref b48), .val (.ref b54), .unset] [(.int v28)])) _
        refine XS.bipush X57.here hx rfl (hb hby at_193) ?_
        exact k)
      by_cases hc78 : v28 = (7 : Int32)
      · skip
        have ks79 : own_R p e below (s₁.setTop (entryFrame m #[(.long q0), (.long q1), (.long q2), (.long q3), (.int p4)] maxLocals)) (T57.setTop (mkF m 202 #[.val (.long q0), .second, .val (.long q1), .second, .val (.long q2), .second, .val (.long q3), .second, .val (.int p4), .val (.long v4), .second, .val (.long v8), .second, .val (.int v10), .val (.int v16), .val (.int v22), .val (.int v28), .val (.long v30), .second, .val (.long v36), .second, .val (.long v42), .second, .val (.ref b48), .val (.ref b54), .unset] [(.ref b48), (.ref b48)])) := fun t k => ks77 t (by
          show Steps p.tables e below (T57.setTop (mkF m 195 #[.val (.long q0), .second, .val (.long q1), .second, .val (.long q2), .second, .val (.long q3), .second, .val (.int p4), .val (.long v4), .second, .val (.long v8), .second, .val (.int v10), .val (.int v16), .val (.int v22), .val (.int v28), .val (.long v30), .second, .val (.long v36), .second, .val (.long v42), .second, .val (.ref b48), .val (.ref b54), .unset] [(.int (7 : Int32)), (.int v28)])) _
          refine XS.icmpNo X57.here hx rfl (hb hby at_195) rfl (teq hc78).2 ?_
          show Steps p.tables e below (T57.setTop (mkF m 198 #[.val (.long q0), .second, .val (.long q1), .second, .val (.long q2), .second, .val (.long q3), .second, .val (.int p4), .val (.long v4), .second, .val (.long v8), .second, .val (.int v10), .val (.int v16), .val (.int v22), .val (.int v28), .val (.long v30), .second, .val (.long v36), .second, .val (.long v42), .second, .val (.ref b48), .val (.ref b54), .unset] [])) _
          refine XS.aload X57.here hx rfl (hb hby at_198) rfl rfl ?_
          show Steps p.tables e below (T57.setTop (mkF m 200 #[.val (.long q0), .second, .val (.long q1), .second, .val (.long q2), .second, .val (.long q3), .second, .val (.int p4), .val (.long v4), .second, .val (.long v8), .second, .val (.int v10), .val (.int v16), .val (.int v22), .val (.int v28), .val (.long v30), .second, .val (.long v36), .second, .val (.long v42), .second, .val (.ref b48), .val (.ref b54), .unset] [(.ref b48)])) _
          refine XS.aload X57.here hx rfl (hb hby at_200) rfl rfl ?_
          exact k)
        have f81 := ((Ex51.ext E54).keep Kq57)
        have f82 := ((Fx51_0.ext E54).keep Kq57 (ninS ne_b48_b54 nin0))
        have f83 := ((Fx51_1.ext E54).keep Kq57 (ninS ne_b48_b54 nin0))
        have f84 := ((Fx51_2.ext E54).keep Kq57 (ninS ne_b48_b54 nin0))
        obtain ⟨cq80, kq80, q80a, q80b, q80c⟩ := isOf hZ rfl f81
        obtain ⟨_, _, ⟨T80, L80, k80, n80⟩, -, X80, ⟨Lc80, hQ80, lq80, yq80, zq80⟩, st80⟩ := X57.virtualBack hx (y := (⟨"com/example/thin_feed/thinfeed/model/Post", "equals", "(Ljava/lang/Object;)Z"⟩ : MethodName)) (z := (⟨"com/example/thin_feed/thinfeed/model/Post", "equals", "(Ljava/lang/Object;)Z"⟩ : MethodName)) hown (mvT hZ (hw _ (List.mem_of_getElem? (i := 20) rfl))) (mvT hZ (hw _ (List.mem_of_getElem? (i := 21) rfl))) (notFace_of_selects (args := #[]) (mvT hZ (hw _ (List.mem_of_getElem? (i := 23) rfl)))) (mvT hZ (hw _ (List.mem_of_getElem? (i := 23) rfl))) (mvT hZ (hw _ (List.mem_of_getElem? (i := 22) rfl))) (by decide) (backOf (W := 0) (rm4s l Z a0 hw [] b48 _ _ _ T57.heap n0 Zn57 f81 f82 f83 f84) hZ (hw _ (List.mem_of_getElem? (i := 24) rfl)) (hw _ (List.mem_of_getElem? (i := 7) rfl)) (by decide) (by decide)) q80a q80c (g := (mkF m 202 #[.val (.long q0), .second, .val (.long q1), .second, .val (.long q2), .second, .val (.long q3), .second, .val (.int p4), .val (.long v4), .second, .val (.long v8), .second, .val (.int v10), .val (.int v16), .val (.int v22), .val (.int v28), .val (.long v30), .second, .val (.long v36), .second, .val (.long v42), .second, .val (.ref b48), .val (.ref b54), .unset] [(.ref b48), (.ref b48)])) rfl (by rw [hml]; rfl) (Steps.refl _) (argsL := [(.ref b48)]) (rest := []) (lenOf pd_3 rfl) rfl (by show 2 * 0 + _ ≤ _; exact Nat.le_of_eq rfl) (hb hby at_202) (fun _ _ => ⟨rfl, rfl, (by decide : 2 + 0 ≤ _), (by decide : 6 + 0 ≤ _)⟩)
        dsimp only [Pt.U, Pt.locs, Pt.cells, Pt.slots] at X80 lq80 yq80 zq80 st80 hQ80
        subst lq80 yq80 zq80
        obtain ⟨rfl, Nq80, eq80⟩ := hQ80
        have N80 := Fr.app N57 Nq80
        have ks85 : own_R p e below (s₁.setTop (entryFrame m #[(.long q0), (.long q1), (.long q2), (.long q3), (.int p4)] maxLocals)) (T80.setTop (mkF m 205 #[.val (.long q0), .second, .val (.long q1), .second, .val (.long q2), .second, .val (.long q3), .second, .val (.int p4), .val (.long v4), .second, .val (.long v8), .second, .val (.int v10), .val (.int v16), .val (.int v22), .val (.int v28), .val (.long v30), .second, .val (.long v36), .second, .val (.long v42), .second, .val (.ref b48), .val (.ref b54), .unset] [(.int (1 : Int32))])) := fun t k => ks79 t (st80.trans k)
        obtain ⟨fs, hr, hrun, hended, hW, hsame⟩ := X80.leave (v := some (.int (1 : Int32))) (fun h => by rw [Bd.returns] at h; cases h)
        refine ⟨_, _, ks85 _ ?_, hrun, hended, _, _, rfl, ?_, ⟨_, rfl⟩, hW, hsame.mono (by decide) (by decide)⟩
        · exact retN X80 hx (t := .boolean) Bd.returns (by simp) (hb hby at_205) hr
        · show Q0 Z q0 q1 q2 q3 p4 u1 cl1 h0 n0 _ T80.heap _
          rw [eq80]
          exact ⟨rfl, N80⟩
      · skip
        have ks90 : own_R p e below (s₁.setTop (entryFrame m #[(.long q0), (.long q1), (.long q2), (.long q3), (.int p4)] maxLocals)) (T57.setTop (mkF m 211 #[.val (.long q0), .second, .val (.long q1), .second, .val (.long q2), .second, .val (.long q3), .second, .val (.int p4), .val (.long v4), .second, .val (.long v8), .second, .val (.int v10), .val (.int v16), .val (.int v22), .val (.int v28), .val (.long v30), .second, .val (.long v36), .second, .val (.long v42), .second, .val (.ref b48), .val (.ref b54), .unset] [(.int (lcmpW v30 v4))])) := fun t k => ks77 t (by
          show Steps p.tables e below (T57.setTop (mkF m 195 #[.val (.long q0), .second, .val (.long q1), .second, .val (.long q2), .second, .val (.long q3), .second, .val (.int p4), .val (.long v4), .second, .val (.long v8), .second, .val (.int v10), .val (.int v16), .val (.int v22), .val (.int v28), .val (.long v30), .second, .val (.long v36), .second, .val (.long v42), .second, .val (.ref b48), .val (.ref b54), .unset] [(.int (7 : Int32)), (.int v28)])) _
          refine XS.icmpYes X57.here hx rfl (pc0 := 195) (pc' := 206) rfl (hb hby at_195) rfl (feq hc78).2 (by decide) (by decide) ?_
          show Steps p.tables e below (T57.setTop (mkF m 206 #[.val (.long q0), .second, .val (.long q1), .second, .val (.long q2), .second, .val (.long q3), .second, .val (.int p4), .val (.long v4), .second, .val (.long v8), .second, .val (.int v10), .val (.int v16), .val (.int v22), .val (.int v28), .val (.long v30), .second, .val (.long v36), .second, .val (.long v42), .second, .val (.ref b48), .val (.ref b54), .unset] [])) _
          refine XS.lload X57.here hx rfl (hb hby at_206) rfl ?_
          show Steps p.tables e below (T57.setTop (mkF m 208 #[.val (.long q0), .second, .val (.long q1), .second, .val (.long q2), .second, .val (.long q3), .second, .val (.int p4), .val (.long v4), .second, .val (.long v8), .second, .val (.int v10), .val (.int v16), .val (.int v22), .val (.int v28), .val (.long v30), .second, .val (.long v36), .second, .val (.long v42), .second, .val (.ref b48), .val (.ref b54), .unset] [(.long v30)])) _
          refine XS.lload X57.here hx rfl (hb hby at_208) rfl ?_
          show Steps p.tables e below (T57.setTop (mkF m 210 #[.val (.long q0), .second, .val (.long q1), .second, .val (.long q2), .second, .val (.long q3), .second, .val (.int p4), .val (.long v4), .second, .val (.long v8), .second, .val (.int v10), .val (.int v16), .val (.int v22), .val (.int v28), .val (.long v30), .second, .val (.long v36), .second, .val (.long v42), .second, .val (.ref b48), .val (.ref b54), .unset] [(.long v4), (.long v30)])) _
          refine XS.lcmp X57.here hx rfl (hb hby at_210) rfl ?_
          exact k)
        obtain ⟨v89, hv89⟩ : ∃ z : Int32, z = (if v30 = v4 then (if v36 = q1 then (if v42 = q2 then (1 : Int32) else (0 : Int32)) else (0 : Int32)) else (0 : Int32)) := ⟨_, rfl⟩
        have ks91 : own_R p e below (s₁.setTop (entryFrame m #[(.long q0), (.long q1), (.long q2), (.long q3), (.int p4)] maxLocals)) (T57.setTop (mkF m 234 #[.val (.long q0), .second, .val (.long q1), .second, .val (.long q2), .second, .val (.long q3), .second, .val (.int p4), .val (.long v4), .second, .val (.long v8), .second, .val (.int v10), .val (.int v16), .val (.int v22), .val (.int v28), .val (.long v30), .second, .val (.long v36), .second, .val (.long v42), .second, .val (.ref b48), .val (.ref b54), .unset] [(.int v89)])) := fun t k => ks90 t (by
          by_cases hc86 : v30 = v4
          · skip
            show Steps p.tables e below (T57.setTop (mkF m 211 #[.val (.long q0), .second, .val (.long q1), .second, .val (.long q2), .second, .val (.long q3), .second, .val (.int p4), .val (.long v4), .second, .val (.long v8), .second, .val (.int v10), .val (.int v16), .val (.int v22), .val (.int v28), .val (.long v30), .second, .val (.long v36), .second, .val (.long v42), .second, .val (.ref b48), .val (.ref b54), .unset] [(.int (lcmpW v30 v4))])) _
            refine XS.ifNo X57.here hx rfl (hb hby at_211) rfl ((if0 _ _).trans (teq ((lw_eq _ _).mpr hc86)).2) ?_
            show Steps p.tables e below (T57.setTop (mkF m 214 #[.val (.long q0), .second, .val (.long q1), .second, .val (.long q2), .second, .val (.long q3), .second, .val (.int p4), .val (.long v4), .second, .val (.long v8), .second, .val (.int v10), .val (.int v16), .val (.int v22), .val (.int v28), .val (.long v30), .second, .val (.long v36), .second, .val (.long v42), .second, .val (.ref b48), .val (.ref b54), .unset] [])) _
            refine XS.lload X57.here hx rfl (hb hby at_214) rfl ?_
            show Steps p.tables e below (T57.setTop (mkF m 216 #[.val (.long q0), .second, .val (.long q1), .second, .val (.long q2), .second, .val (.long q3), .second, .val (.int p4), .val (.long v4), .second, .val (.long v8), .second, .val (.int v10), .val (.int v16), .val (.int v22), .val (.int v28), .val (.long v30), .second, .val (.long v36), .second, .val (.long v42), .second, .val (.ref b48), .val (.ref b54), .unset] [(.long v36)])) _
            refine XS.lloadN X57.here hx rfl (hb hby at_216) rfl ?_
            show Steps p.tables e below (T57.setTop (mkF m 217 #[.val (.long q0), .second, .val (.long q1), .second, .val (.long q2), .second, .val (.long q3), .second, .val (.int p4), .val (.long v4), .second, .val (.long v8), .second, .val (.int v10), .val (.int v16), .val (.int v22), .val (.int v28), .val (.long v30), .second, .val (.long v36), .second, .val (.long v42), .second, .val (.ref b48), .val (.ref b54), .unset] [(.long q1), (.long v36)])) _
            refine XS.lcmp X57.here hx rfl (hb hby at_217) rfl ?_
            by_cases hc87 : v36 = q1
            · skip
              show Steps p.tables e below (T57.setTop (mkF m 218 #[.val (.long q0), .second, .val (.long q1), .second, .val (.long q2), .second, .val (.long q3), .second, .val (.int p4), .val (.long v4), .second, .val (.long v8), .second, .val (.int v10), .val (.int v16), .val (.int v22), .val (.int v28), .val (.long v30), .second, .val (.long v36), .second, .val (.long v42), .second, .val (.ref b48), .val (.ref b54), .unset] [(.int (lcmpW v36 q1))])) _
              refine XS.ifNo X57.here hx rfl (hb hby at_218) rfl ((if0 _ _).trans (teq ((lw_eq _ _).mpr hc87)).2) ?_
              show Steps p.tables e below (T57.setTop (mkF m 221 #[.val (.long q0), .second, .val (.long q1), .second, .val (.long q2), .second, .val (.long q3), .second, .val (.int p4), .val (.long v4), .second, .val (.long v8), .second, .val (.int v10), .val (.int v16), .val (.int v22), .val (.int v28), .val (.long v30), .second, .val (.long v36), .second, .val (.long v42), .second, .val (.ref b48), .val (.ref b54), .unset] [])) _
              refine XS.lload X57.here hx rfl (hb hby at_221) rfl ?_
              show Steps p.tables e below (T57.setTop (mkF m 223 #[.val (.long q0), .second, .val (.long q1), .second, .val (.long q2), .second, .val (.long q3), .second, .val (.int p4), .val (.long v4), .second, .val (.long v8), .second, .val (.int v10), .val (.int v16), .val (.int v22), .val (.int v28), .val (.long v30), .second, .val (.long v36), .second, .val (.long v42), .second, .val (.ref b48), .val (.ref b54), .unset] [(.long v42)])) _
              refine XS.lload X57.here hx rfl (hb hby at_223) rfl ?_
              show Steps p.tables e below (T57.setTop (mkF m 225 #[.val (.long q0), .second, .val (.long q1), .second, .val (.long q2), .second, .val (.long q3), .second, .val (.int p4), .val (.long v4), .second, .val (.long v8), .second, .val (.int v10), .val (.int v16), .val (.int v22), .val (.int v28), .val (.long v30), .second, .val (.long v36), .second, .val (.long v42), .second, .val (.ref b48), .val (.ref b54), .unset] [(.long q2), (.long v42)])) _
              refine XS.lcmp X57.here hx rfl (hb hby at_225) rfl ?_
              by_cases hc88 : v42 = q2
              · skip
                have qq92 : v89 = (1 : Int32) := by rw [hv89, if_pos hc86, if_pos hc87, if_pos hc88]
                rw [qq92] at k
                show Steps p.tables e below (T57.setTop (mkF m 226 #[.val (.long q0), .second, .val (.long q1), .second, .val (.long q2), .second, .val (.long q3), .second, .val (.int p4), .val (.long v4), .second, .val (.long v8), .second, .val (.int v10), .val (.int v16), .val (.int v22), .val (.int v28), .val (.long v30), .second, .val (.long v36), .second, .val (.long v42), .second, .val (.ref b48), .val (.ref b54), .unset] [(.int (lcmpW v42 q2))])) _
                refine XS.ifNo X57.here hx rfl (hb hby at_226) rfl ((if0 _ _).trans (teq ((lw_eq _ _).mpr hc88)).2) ?_
                show Steps p.tables e below (T57.setTop (mkF m 229 #[.val (.long q0), .second, .val (.long q1), .second, .val (.long q2), .second, .val (.long q3), .second, .val (.int p4), .val (.long v4), .second, .val (.long v8), .second, .val (.int v10), .val (.int v16), .val (.int v22), .val (.int v28), .val (.long v30), .second, .val (.long v36), .second, .val (.long v42), .second, .val (.ref b48), .val (.ref b54), .unset] [])) _
                refine XS.iconst X57.here hx rfl (hb hby at_229) ?_
                show Steps p.tables e below (T57.setTop (mkF m 230 #[.val (.long q0), .second, .val (.long q1), .second, .val (.long q2), .second, .val (.long q3), .second, .val (.int p4), .val (.long v4), .second, .val (.long v8), .second, .val (.int v10), .val (.int v16), .val (.int v22), .val (.int v28), .val (.long v30), .second, .val (.long v36), .second, .val (.long v42), .second, .val (.ref b48), .val (.ref b54), .unset] [(.int (1 : Int32))])) _
                refine XS.goto X57.here hx rfl (pc0 := 230) (pc' := 234) rfl (hb hby at_230) (by decide) (by decide) ?_
                exact k
              · skip
                have qq93 : v89 = (0 : Int32) := by rw [hv89, if_pos hc86, if_pos hc87, if_neg hc88]
                rw [qq93] at k
                show Steps p.tables e below (T57.setTop (mkF m 226 #[.val (.long q0), .second, .val (.long q1), .second, .val (.long q2), .second, .val (.long q3), .second, .val (.int p4), .val (.long v4), .second, .val (.long v8), .second, .val (.int v10), .val (.int v16), .val (.int v22), .val (.int v28), .val (.long v30), .second, .val (.long v36), .second, .val (.long v42), .second, .val (.ref b48), .val (.ref b54), .unset] [(.int (lcmpW v42 q2))])) _
                refine XS.ifYes X57.here hx rfl (pc0 := 226) (pc' := 233) rfl (hb hby at_226) rfl ((if0 _ _).trans (feq (fun q => hc88 ((lw_eq _ _).mp q))).2) (by decide) (by decide) ?_
                show Steps p.tables e below (T57.setTop (mkF m 233 #[.val (.long q0), .second, .val (.long q1), .second, .val (.long q2), .second, .val (.long q3), .second, .val (.int p4), .val (.long v4), .second, .val (.long v8), .second, .val (.int v10), .val (.int v16), .val (.int v22), .val (.int v28), .val (.long v30), .second, .val (.long v36), .second, .val (.long v42), .second, .val (.ref b48), .val (.ref b54), .unset] [])) _
                refine XS.iconst X57.here hx rfl (hb hby at_233) ?_
                exact k
            · skip
              have qq94 : v89 = (0 : Int32) := by rw [hv89, if_pos hc86, if_neg hc87]
              rw [qq94] at k
              show Steps p.tables e below (T57.setTop (mkF m 218 #[.val (.long q0), .second, .val (.long q1), .second, .val (.long q2), .second, .val (.long q3), .second, .val (.int p4), .val (.long v4), .second, .val (.long v8), .second, .val (.int v10), .val (.int v16), .val (.int v22), .val (.int v28), .val (.long v30), .second, .val (.long v36), .second, .val (.long v42), .second, .val (.ref b48), .val (.ref b54), .unset] [(.int (lcmpW v36 q1))])) _
              refine XS.ifYes X57.here hx rfl (pc0 := 218) (pc' := 233) rfl (hb hby at_218) rfl ((if0 _ _).trans (feq (fun q => hc87 ((lw_eq _ _).mp q))).2) (by decide) (by decide) ?_
              show Steps p.tables e below (T57.setTop (mkF m 233 #[.val (.long q0), .second, .val (.long q1), .second, .val (.long q2), .second, .val (.long q3), .second, .val (.int p4), .val (.long v4), .second, .val (.long v8), .second, .val (.int v10), .val (.int v16), .val (.int v22), .val (.int v28), .val (.long v30), .second, .val (.long v36), .second, .val (.long v42), .second, .val (.ref b48), .val (.ref b54), .unset] [])) _
              refine XS.iconst X57.here hx rfl (hb hby at_233) ?_
              exact k
          · skip
            have qq95 : v89 = (0 : Int32) := by rw [hv89, if_neg hc86]
            rw [qq95] at k
            show Steps p.tables e below (T57.setTop (mkF m 211 #[.val (.long q0), .second, .val (.long q1), .second, .val (.long q2), .second, .val (.long q3), .second, .val (.int p4), .val (.long v4), .second, .val (.long v8), .second, .val (.int v10), .val (.int v16), .val (.int v22), .val (.int v28), .val (.long v30), .second, .val (.long v36), .second, .val (.long v42), .second, .val (.ref b48), .val (.ref b54), .unset] [(.int (lcmpW v30 v4))])) _
            refine XS.ifYes X57.here hx rfl (pc0 := 211) (pc' := 233) rfl (hb hby at_211) rfl ((if0 _ _).trans (feq (fun q => hc86 ((lw_eq _ _).mp q))).2) (by decide) (by decide) ?_
            show Steps p.tables e below (T57.setTop (mkF m 233 #[.val (.long q0), .second, .val (.long q1), .second, .val (.long q2), .second, .val (.long q3), .second, .val (.int p4), .val (.long v4), .second, .val (.long v8), .second, .val (.int v10), .val (.int v16), .val (.int v22), .val (.int v28), .val (.long v30), .second, .val (.long v36), .second, .val (.long v42), .second, .val (.ref b48), .val (.ref b54), .unset] [])) _
            refine XS.iconst X57.here hx rfl (hb hby at_233) ?_
            exact k)
        have ks96 : own_R p e below (s₁.setTop (entryFrame m #[(.long q0), (.long q1), (.long q2), (.long q3), (.int p4)] maxLocals)) (T57.setTop (mkF m 240 #[.val (.long q0), .second, .val (.long q1), .second, .val (.long q2), .second, .val (.long q3), .second, .val (.int p4), .val (.long v4), .second, .val (.long v8), .second, .val (.int v10), .val (.int v16), .val (.int v22), .val (.int v28), .val (.long v30), .second, .val (.long v36), .second, .val (.long v42), .second, .val (.ref b48), .val (.ref b54), .val (.int v89)] [(.ref b54), (.ref b48)])) := fun t k => ks91 t (by
          show Steps p.tables e below (T57.setTop (mkF m 234 #[.val (.long q0), .second, .val (.long q1), .second, .val (.long q2), .second, .val (.long q3), .second, .val (.int p4), .val (.long v4), .second, .val (.long v8), .second, .val (.int v10), .val (.int v16), .val (.int v22), .val (.int v28), .val (.long v30), .second, .val (.long v36), .second, .val (.long v42), .second, .val (.ref b48), .val (.ref b54), .unset] [(.int v89)])) _
          refine XS.istore X57.here hx rfl (hb hby at_234) rfl (l' := #[.val (.long q0), .second, .val (.long q1), .second, .val (.long q2), .second, .val (.long q3), .second, .val (.int p4), .val (.long v4), .second, .val (.long v8), .second, .val (.int v10), .val (.int v16), .val (.int v22), .val (.int v28), .val (.long v30), .second, .val (.long v36), .second, .val (.long v42), .second, .val (.ref b48), .val (.ref b54), .val (.int v89)]) rfl ?_
          show Steps p.tables e below (T57.setTop (mkF m 236 #[.val (.long q0), .second, .val (.long q1), .second, .val (.long q2), .second, .val (.long q3), .second, .val (.int p4), .val (.long v4), .second, .val (.long v8), .second, .val (.int v10), .val (.int v16), .val (.int v22), .val (.int v28), .val (.long v30), .second, .val (.long v36), .second, .val (.long v42), .second, .val (.ref b48), .val (.ref b54), .val (.int v89)] [])) _
          refine XS.aload X57.here hx rfl (hb hby at_236) rfl rfl ?_
          show Steps p.tables e below (T57.setTop (mkF m 238 #[.val (.long q0), .second, .val (.long q1), .second, .val (.long q2), .second, .val (.long q3), .second, .val (.int p4), .val (.long v4), .second, .val (.long v8), .second, .val (.int v10), .val (.int v16), .val (.int v22), .val (.int v28), .val (.long v30), .second, .val (.long v36), .second, .val (.long v42), .second, .val (.ref b48), .val (.ref b54), .val (.int v89)] [(.ref b48)])) _
          refine XS.aload X57.here hx rfl (hb hby at_238) rfl rfl ?_
          exact k)
        have f98 := ((Ex51.ext E54).keep Kq57)
        have f99 := ((Fx51_0.ext E54).keep Kq57 (ninS ne_b48_b54 nin0))
        have f100 := ((Fx51_1.ext E54).keep Kq57 (ninS ne_b48_b54 nin0))
        have f101 := ((Fx51_2.ext E54).keep Kq57 (ninS ne_b48_b54 nin0))
        obtain ⟨cq97, kq97, q97a, q97b, q97c⟩ := isOf hZ rfl f98
        obtain ⟨_, _, ⟨T97, L97, k97, n97⟩, -, X97, ⟨Lc97, hQ97, lq97, yq97, zq97⟩, st97⟩ := X57.virtualBack hx (y := (⟨"com/example/thin_feed/thinfeed/model/Post", "equals", "(Ljava/lang/Object;)Z"⟩ : MethodName)) (z := (⟨"com/example/thin_feed/thinfeed/model/Post", "equals", "(Ljava/lang/Object;)Z"⟩ : MethodName)) hown (mvT hZ (hw _ (List.mem_of_getElem? (i := 20) rfl))) (mvT hZ (hw _ (List.mem_of_getElem? (i := 21) rfl))) (notFace_of_selects (args := #[]) (mvT hZ (hw _ (List.mem_of_getElem? (i := 23) rfl)))) (mvT hZ (hw _ (List.mem_of_getElem? (i := 23) rfl))) (mvT hZ (hw _ (List.mem_of_getElem? (i := 22) rfl))) (by decide) (backOf (W := 0) (rm4p l Z a0 hw [] b48 b54 v4 q1 q2 v30 v36 v42 T57.heap n0 Zn57 f98 f99 f100 f101 Ex57 Fx57_0 Fx57_1 Fx57_2) hZ (hw _ (List.mem_of_getElem? (i := 24) rfl)) (hw _ (List.mem_of_getElem? (i := 7) rfl)) (by decide) (by decide)) q97a q97c (g := (mkF m 240 #[.val (.long q0), .second, .val (.long q1), .second, .val (.long q2), .second, .val (.long q3), .second, .val (.int p4), .val (.long v4), .second, .val (.long v8), .second, .val (.int v10), .val (.int v16), .val (.int v22), .val (.int v28), .val (.long v30), .second, .val (.long v36), .second, .val (.long v42), .second, .val (.ref b48), .val (.ref b54), .val (.int v89)] [(.ref b54), (.ref b48)])) rfl (by rw [hml]; rfl) (Steps.refl _) (argsL := [(.ref b54)]) (rest := []) (lenOf pd_3 rfl) rfl (by show 2 * 0 + _ ≤ _; exact Nat.le_of_eq rfl) (hb hby at_240) (fun _ _ => ⟨rfl, rfl, (by decide : 2 + 0 ≤ _), (by decide : 6 + 0 ≤ _)⟩)
        dsimp only [Pt.U, Pt.locs, Pt.cells, Pt.slots] at X97 lq97 yq97 zq97 st97 hQ97
        subst lq97 yq97 zq97
        obtain ⟨rfl, Nq97, eq97⟩ := hQ97
        have N97 := Fr.app N57 Nq97
        have ks102 : own_R p e below (s₁.setTop (entryFrame m #[(.long q0), (.long q1), (.long q2), (.long q3), (.int p4)] maxLocals)) (T97.setTop (mkF m 243 #[.val (.long q0), .second, .val (.long q1), .second, .val (.long q2), .second, .val (.long q3), .second, .val (.int p4), .val (.long v4), .second, .val (.long v8), .second, .val (.int v10), .val (.int v16), .val (.int v22), .val (.int v28), .val (.long v30), .second, .val (.long v36), .second, .val (.long v42), .second, .val (.ref b48), .val (.ref b54), .val (.int v89)] [(.int (own_eq v4 q1 q2 v30 v36 v42))])) := fun t k => ks96 t (st97.trans k)
        have ks103 : own_R p e below (s₁.setTop (entryFrame m #[(.long q0), (.long q1), (.long q2), (.long q3), (.int p4)] maxLocals)) (T97.setTop (mkF m 245 #[.val (.long q0), .second, .val (.long q1), .second, .val (.long q2), .second, .val (.long q3), .second, .val (.int p4), .val (.long v4), .second, .val (.long v8), .second, .val (.int v10), .val (.int v16), .val (.int v22), .val (.int v28), .val (.long v30), .second, .val (.long v36), .second, .val (.long v42), .second, .val (.ref b48), .val (.ref b54), .val (.int v89)] [(.int v89), (.int (own_eq v4 q1 q2 v30 v36 v42))])) := fun t k => ks102 t (by
          show Steps p.tables e below (T97.setTop (mkF m 243 #[.val (.long q0), .second, .val (.long q1), .second, .val (.long q2), .second, .val (.long q3), .second, .val (.int p4), .val (.long v4), .second, .val (.long v8), .second, .val (.int v10), .val (.int v16), .val (.int v22), .val (.int v28), .val (.long v30), .second, .val (.long v36), .second, .val (.long v42), .second, .val (.ref b48), .val (.ref b54), .val (.int v89)] [(.int (own_eq v4 q1 q2 v30 v36 v42))])) _
          refine XS.iload X97.here hx rfl (hb hby at_243) rfl ?_
          exact k)
        by_cases hc104 : (own_eq v4 q1 q2 v30 v36 v42) = v89
        · skip
          have ks105 : own_R p e below (s₁.setTop (entryFrame m #[(.long q0), (.long q1), (.long q2), (.long q3), (.int p4)] maxLocals)) (T97.setTop (mkF m 252 #[.val (.long q0), .second, .val (.long q1), .second, .val (.long q2), .second, .val (.long q3), .second, .val (.int p4), .val (.long v4), .second, .val (.long v8), .second, .val (.int v10), .val (.int v16), .val (.int v22), .val (.int v28), .val (.long v30), .second, .val (.long v36), .second, .val (.long v42), .second, .val (.ref b48), .val (.ref b54), .val (.int v89)] [(.ref b48), (.ref b54)])) := fun t k => ks103 t (by
            show Steps p.tables e below (T97.setTop (mkF m 245 #[.val (.long q0), .second, .val (.long q1), .second, .val (.long q2), .second, .val (.long q3), .second, .val (.int p4), .val (.long v4), .second, .val (.long v8), .second, .val (.int v10), .val (.int v16), .val (.int v22), .val (.int v28), .val (.long v30), .second, .val (.long v36), .second, .val (.long v42), .second, .val (.ref b48), .val (.ref b54), .val (.int v89)] [(.int v89), (.int (own_eq v4 q1 q2 v30 v36 v42))])) _
            refine XS.icmpNo X97.here hx rfl (hb hby at_245) rfl (teq hc104).2 ?_
            show Steps p.tables e below (T97.setTop (mkF m 248 #[.val (.long q0), .second, .val (.long q1), .second, .val (.long q2), .second, .val (.long q3), .second, .val (.int p4), .val (.long v4), .second, .val (.long v8), .second, .val (.int v10), .val (.int v16), .val (.int v22), .val (.int v28), .val (.long v30), .second, .val (.long v36), .second, .val (.long v42), .second, .val (.ref b48), .val (.ref b54), .val (.int v89)] [])) _
            refine XS.aload X97.here hx rfl (hb hby at_248) rfl rfl ?_
            show Steps p.tables e below (T97.setTop (mkF m 250 #[.val (.long q0), .second, .val (.long q1), .second, .val (.long q2), .second, .val (.long q3), .second, .val (.int p4), .val (.long v4), .second, .val (.long v8), .second, .val (.int v10), .val (.int v16), .val (.int v22), .val (.int v28), .val (.long v30), .second, .val (.long v36), .second, .val (.long v42), .second, .val (.ref b48), .val (.ref b54), .val (.int v89)] [(.ref b54)])) _
            refine XS.aload X97.here hx rfl (hb hby at_250) rfl rfl ?_
            exact k)
          obtain ⟨cq106, kq106, q106a, q106b, q106c⟩ := isOf hZ eq97 Ex57
          obtain ⟨_, _, ⟨T106, L106, k106, n106⟩, -, X106, ⟨Lc106, hQ106, lq106, yq106, zq106⟩, st106⟩ := X97.virtualBack hx (y := (⟨"com/example/thin_feed/thinfeed/model/Post", "equals", "(Ljava/lang/Object;)Z"⟩ : MethodName)) (z := (⟨"com/example/thin_feed/thinfeed/model/Post", "equals", "(Ljava/lang/Object;)Z"⟩ : MethodName)) hown (mvT hZ (hw _ (List.mem_of_getElem? (i := 20) rfl))) (mvT hZ (hw _ (List.mem_of_getElem? (i := 21) rfl))) (notFace_of_selects (args := #[]) (mvT hZ (hw _ (List.mem_of_getElem? (i := 23) rfl)))) (mvT hZ (hw _ (List.mem_of_getElem? (i := 23) rfl))) (mvT hZ (hw _ (List.mem_of_getElem? (i := 22) rfl))) (by decide) (backOf (W := 0) (rm4p l Z a0 hw [] b54 b48 v30 v36 v42 v4 q1 q2 T57.heap n0 Zn57 Ex57 Fx57_0 Fx57_1 Fx57_2 f98 f99 f100 f101) hZ (hw _ (List.mem_of_getElem? (i := 24) rfl)) (hw _ (List.mem_of_getElem? (i := 7) rfl)) (by decide) (by decide)) q106a q106c (g := (mkF m 252 #[.val (.long q0), .second, .val (.long q1), .second, .val (.long q2), .second, .val (.long q3), .second, .val (.int p4), .val (.long v4), .second, .val (.long v8), .second, .val (.int v10), .val (.int v16), .val (.int v22), .val (.int v28), .val (.long v30), .second, .val (.long v36), .second, .val (.long v42), .second, .val (.ref b48), .val (.ref b54), .val (.int v89)] [(.ref b48), (.ref b54)])) rfl (by rw [hml]; rfl) (Steps.refl _) (argsL := [(.ref b48)]) (rest := []) (lenOf pd_3 rfl) rfl (by show 2 * 0 + _ ≤ _; exact Nat.le_of_eq rfl) (hb hby at_252) (fun _ _ => ⟨rfl, eq97, (by decide : 2 + 0 ≤ _), (by decide : 6 + 0 ≤ _)⟩)
          dsimp only [Pt.U, Pt.locs, Pt.cells, Pt.slots] at X106 lq106 yq106 zq106 st106 hQ106
          subst lq106 yq106 zq106
          obtain ⟨rfl, Nq106, eq106⟩ := hQ106
          have N106 := Fr.app N97 Nq106
          have ks107 : own_R p e below (s₁.setTop (entryFrame m #[(.long q0), (.long q1), (.long q2), (.long q3), (.int p4)] maxLocals)) (T106.setTop (mkF m 255 #[.val (.long q0), .second, .val (.long q1), .second, .val (.long q2), .second, .val (.long q3), .second, .val (.int p4), .val (.long v4), .second, .val (.long v8), .second, .val (.int v10), .val (.int v16), .val (.int v22), .val (.int v28), .val (.long v30), .second, .val (.long v36), .second, .val (.long v42), .second, .val (.ref b48), .val (.ref b54), .val (.int v89)] [(.int (own_eq v30 v36 v42 v4 q1 q2))])) := fun t k => ks105 t (st106.trans k)
          have ks108 : own_R p e below (s₁.setTop (entryFrame m #[(.long q0), (.long q1), (.long q2), (.long q3), (.int p4)] maxLocals)) (T106.setTop (mkF m 257 #[.val (.long q0), .second, .val (.long q1), .second, .val (.long q2), .second, .val (.long q3), .second, .val (.int p4), .val (.long v4), .second, .val (.long v8), .second, .val (.int v10), .val (.int v16), .val (.int v22), .val (.int v28), .val (.long v30), .second, .val (.long v36), .second, .val (.long v42), .second, .val (.ref b48), .val (.ref b54), .val (.int v89)] [(.int v89), (.int (own_eq v30 v36 v42 v4 q1 q2))])) := fun t k => ks107 t (by
            show Steps p.tables e below (T106.setTop (mkF m 255 #[.val (.long q0), .second, .val (.long q1), .second, .val (.long q2), .second, .val (.long q3), .second, .val (.int p4), .val (.long v4), .second, .val (.long v8), .second, .val (.int v10), .val (.int v16), .val (.int v22), .val (.int v28), .val (.long v30), .second, .val (.long v36), .second, .val (.long v42), .second, .val (.ref b48), .val (.ref b54), .val (.int v89)] [(.int (own_eq v30 v36 v42 v4 q1 q2))])) _
            refine XS.iload X106.here hx rfl (hb hby at_255) rfl ?_
            exact k)
          by_cases hc109 : (own_eq v30 v36 v42 v4 q1 q2) = v89
          · skip
            have ks110 : own_R p e below (s₁.setTop (entryFrame m #[(.long q0), (.long q1), (.long q2), (.long q3), (.int p4)] maxLocals)) (T106.setTop (mkF m 265 #[.val (.long q0), .second, .val (.long q1), .second, .val (.long q2), .second, .val (.long q3), .second, .val (.int p4), .val (.long v4), .second, .val (.long v8), .second, .val (.int v10), .val (.int v16), .val (.int v22), .val (.int v28), .val (.long v30), .second, .val (.long v36), .second, .val (.long v42), .second, .val (.ref b48), .val (.ref b54), .val (.int v89)] [(.int (1 : Int32))])) := fun t k => ks108 t (by
              show Steps p.tables e below (T106.setTop (mkF m 257 #[.val (.long q0), .second, .val (.long q1), .second, .val (.long q2), .second, .val (.long q3), .second, .val (.int p4), .val (.long v4), .second, .val (.long v8), .second, .val (.int v10), .val (.int v16), .val (.int v22), .val (.int v28), .val (.long v30), .second, .val (.long v36), .second, .val (.long v42), .second, .val (.ref b48), .val (.ref b54), .val (.int v89)] [(.int v89), (.int (own_eq v30 v36 v42 v4 q1 q2))])) _
              refine XS.icmpNo X106.here hx rfl (hb hby at_257) rfl (teq hc109).2 ?_
              show Steps p.tables e below (T106.setTop (mkF m 260 #[.val (.long q0), .second, .val (.long q1), .second, .val (.long q2), .second, .val (.long q3), .second, .val (.int p4), .val (.long v4), .second, .val (.long v8), .second, .val (.int v10), .val (.int v16), .val (.int v22), .val (.int v28), .val (.long v30), .second, .val (.long v36), .second, .val (.long v42), .second, .val (.ref b48), .val (.ref b54), .val (.int v89)] [])) _
              refine XS.iconst X106.here hx rfl (hb hby at_260) ?_
              show Steps p.tables e below (T106.setTop (mkF m 261 #[.val (.long q0), .second, .val (.long q1), .second, .val (.long q2), .second, .val (.long q3), .second, .val (.int p4), .val (.long v4), .second, .val (.long v8), .second, .val (.int v10), .val (.int v16), .val (.int v22), .val (.int v28), .val (.long v30), .second, .val (.long v36), .second, .val (.long v42), .second, .val (.ref b48), .val (.ref b54), .val (.int v89)] [(.int (1 : Int32))])) _
              refine XS.goto X106.here hx rfl (pc0 := 261) (pc' := 265) rfl (hb hby at_261) (by decide) (by decide) ?_
              exact k)
            obtain ⟨fs, hr, hrun, hended, hW, hsame⟩ := X106.leave (v := some (.int (1 : Int32))) (fun h => by rw [Bd.returns] at h; cases h)
            refine ⟨_, _, ks110 _ ?_, hrun, hended, _, _, rfl, ?_, ⟨_, rfl⟩, hW, hsame.mono (by decide) (by decide)⟩
            · exact retN X106 hx (t := .boolean) Bd.returns (by simp) (hb hby at_265) hr
            · show Q0 Z q0 q1 q2 q3 p4 u1 cl1 h0 n0 _ T106.heap _
              rw [eq106]
              exact ⟨rfl, N106⟩
          · skip
            have ks111 : own_R p e below (s₁.setTop (entryFrame m #[(.long q0), (.long q1), (.long q2), (.long q3), (.int p4)] maxLocals)) (T106.setTop (mkF m 265 #[.val (.long q0), .second, .val (.long q1), .second, .val (.long q2), .second, .val (.long q3), .second, .val (.int p4), .val (.long v4), .second, .val (.long v8), .second, .val (.int v10), .val (.int v16), .val (.int v22), .val (.int v28), .val (.long v30), .second, .val (.long v36), .second, .val (.long v42), .second, .val (.ref b48), .val (.ref b54), .val (.int v89)] [(.int (0 : Int32))])) := fun t k => ks108 t (by
              show Steps p.tables e below (T106.setTop (mkF m 257 #[.val (.long q0), .second, .val (.long q1), .second, .val (.long q2), .second, .val (.long q3), .second, .val (.int p4), .val (.long v4), .second, .val (.long v8), .second, .val (.int v10), .val (.int v16), .val (.int v22), .val (.int v28), .val (.long v30), .second, .val (.long v36), .second, .val (.long v42), .second, .val (.ref b48), .val (.ref b54), .val (.int v89)] [(.int v89), (.int (own_eq v30 v36 v42 v4 q1 q2))])) _
              refine XS.icmpYes X106.here hx rfl (pc0 := 257) (pc' := 264) rfl (hb hby at_257) rfl (feq hc109).2 (by decide) (by decide) ?_
              show Steps p.tables e below (T106.setTop (mkF m 264 #[.val (.long q0), .second, .val (.long q1), .second, .val (.long q2), .second, .val (.long q3), .second, .val (.int p4), .val (.long v4), .second, .val (.long v8), .second, .val (.int v10), .val (.int v16), .val (.int v22), .val (.int v28), .val (.long v30), .second, .val (.long v36), .second, .val (.long v42), .second, .val (.ref b48), .val (.ref b54), .val (.int v89)] [])) _
              refine XS.iconst X106.here hx rfl (hb hby at_264) ?_
              exact k)
            obtain ⟨fs, hr, hrun, hended, hW, hsame⟩ := X106.leave (v := some (.int (0 : Int32))) (fun h => by rw [Bd.returns] at h; cases h)
            refine ⟨_, _, ks111 _ ?_, hrun, hended, _, _, rfl, ?_, ⟨_, rfl⟩, hW, hsame.mono (by decide) (by decide)⟩
            · exact retN X106 hx (t := .boolean) Bd.returns (by simp) (hb hby at_265) hr
            · show Q0 Z q0 q1 q2 q3 p4 u1 cl1 h0 n0 _ T106.heap _
              rw [eq106]
              exfalso
              apply hc109
              rw [hv89]
              rfl
        · skip
          have ks112 : own_R p e below (s₁.setTop (entryFrame m #[(.long q0), (.long q1), (.long q2), (.long q3), (.int p4)] maxLocals)) (T97.setTop (mkF m 265 #[.val (.long q0), .second, .val (.long q1), .second, .val (.long q2), .second, .val (.long q3), .second, .val (.int p4), .val (.long v4), .second, .val (.long v8), .second, .val (.int v10), .val (.int v16), .val (.int v22), .val (.int v28), .val (.long v30), .second, .val (.long v36), .second, .val (.long v42), .second, .val (.ref b48), .val (.ref b54), .val (.int v89)] [(.int (0 : Int32))])) := fun t k => ks103 t (by
            show Steps p.tables e below (T97.setTop (mkF m 245 #[.val (.long q0), .second, .val (.long q1), .second, .val (.long q2), .second, .val (.long q3), .second, .val (.int p4), .val (.long v4), .second, .val (.long v8), .second, .val (.int v10), .val (.int v16), .val (.int v22), .val (.int v28), .val (.long v30), .second, .val (.long v36), .second, .val (.long v42), .second, .val (.ref b48), .val (.ref b54), .val (.int v89)] [(.int v89), (.int (own_eq v4 q1 q2 v30 v36 v42))])) _
            refine XS.icmpYes X97.here hx rfl (pc0 := 245) (pc' := 264) rfl (hb hby at_245) rfl (feq hc104).2 (by decide) (by decide) ?_
            show Steps p.tables e below (T97.setTop (mkF m 264 #[.val (.long q0), .second, .val (.long q1), .second, .val (.long q2), .second, .val (.long q3), .second, .val (.int p4), .val (.long v4), .second, .val (.long v8), .second, .val (.int v10), .val (.int v16), .val (.int v22), .val (.int v28), .val (.long v30), .second, .val (.long v36), .second, .val (.long v42), .second, .val (.ref b48), .val (.ref b54), .val (.int v89)] [])) _
            refine XS.iconst X97.here hx rfl (hb hby at_264) ?_
            exact k)
          obtain ⟨fs, hr, hrun, hended, hW, hsame⟩ := X97.leave (v := some (.int (0 : Int32))) (fun h => by rw [Bd.returns] at h; cases h)
          refine ⟨_, _, ks112 _ ?_, hrun, hended, _, _, rfl, ?_, ⟨_, rfl⟩, hW, hsame.mono (by decide) (by decide)⟩
          · exact retN X97 hx (t := .boolean) Bd.returns (by simp) (hb hby at_265) hr
          · show Q0 Z q0 q1 q2 q3 p4 u1 cl1 h0 n0 _ T97.heap _
            rw [eq97]
            exfalso
            apply hc104
            rw [hv89]
            rw [own_sym]
            rfl
set_option maxRecDepth 65536 in
set_option maxHeartbeats 40000000 in
theorem comes_1 {Post : Tables → Env → Array Value → State → Outcome → State → Prop} (hpost : ∀ tb e args s v u, (limb_1_1.after args s (.returned v) u = true ∧ limb_1_2.after args s (.returned v) u = true ∧ True) → FrameEnd s (.returned v) u (Jvm.fieldLocs frame_1_writes args s ++ Jvm.arrayLocs frame_1_arrays args s ++ Jvm.staticLocs frame_1_statics s) 16 128 → Post tb e args s (.returned v) u) :
    ArmFor flags0 classFile x code maxLocals ret World_1 tables_1 room_1 Calls_1 rest_1 Pre_1 Post := by
  intro l hfl _ _ p e ha hc hk s m args below hf hA hF happ hP
  obtain ⟨hcalls, hrest, hpre⟩ := hP
  obtain ⟨-, -, -, hnamed, -, -, -, hat⟩ := (Spec.applies_iff hf).mp happ
  obtain ⟨hg, hn⟩ := and_e (Cond.before_iff.mp (show (Jvm.Cond.and given_1 narrow_1).before args s = true from hpre))
  obtain ⟨g1, g2⟩ := and_e hg
  obtain ⟨g3, g4⟩ := and_e g2
  obtain ⟨g5, g6⟩ := and_e g4
  obtain ⟨g7, g8⟩ := and_e g6
  obtain ⟨g9, g10⟩ := and_e g8
  obtain ⟨w0, w1, w2, w3, w4, rfl⟩ : ∃ w0 w1 w2 w3 w4 : Value, args = #[w0, w1, w2, w3, w4] := by
    have hs : args.size = 5 := by simpa [Cond.value, given_1] using g1
    obtain ⟨L⟩ := args
    match L, hs with
    | [w0, w1, w2, w3, w4], _ => exact ⟨w0, w1, w2, w3, w4, rfl⟩
  have hw := fun d (hd : d ∈ tables_1) => atoms_spec (ws := Jvm.Cond.code x code maxLocals ret :: tables_1) hat d (List.mem_cons_of_mem _ hd)
  have hfit : Fit s := fun {y c} hc i hi => by
    obtain ⟨ha, rfl⟩ := Array.getElem?_eq_some_iff.mp hc
    have q := List.all_eq_true.mp ((Array.all_eq_true_iff_forall_mem.mp hF) _ (Array.getElem_mem ha)) i (List.mem_range.mpr hi)
    simpa [Array.getElem?_eq_getElem hi] using q
  obtain ⟨hsets, hown0⟩ := atoms_of _ (rest_1_c_eq ▸ (show rest_1_c.before _ s = true from hrest))
  have hr0 := Cond.before_iff.mp hown0
  obtain ⟨i0, ei0⟩ := isL_v g3
  obtain rfl : w0 = (.long i0) := Option.some.inj ei0
  obtain ⟨i1, ei1⟩ := isL_v g5
  obtain rfl : w1 = (.long i1) := Option.some.inj ei1
  obtain ⟨i2, ei2⟩ := isL_v g7
  obtain rfl : w2 = (.long i2) := Option.some.inj ei2
  obtain ⟨i3, ei3⟩ := isL_v g9
  obtain rfl : w3 = (.long i3) := Option.some.inj ei3
  obtain ⟨i4, ei4⟩ := is_v g10
  obtain rfl : w4 = (.int i4) := Option.some.inj ei4
  have j2 := (Cond.before_iff.mp (hsets _ (List.mem_of_getElem? (i := 2) rfl)))
  obtain ⟨u1, ev1⟩ := arr_v j2
  obtain ⟨cl1, A1⟩ := Arr.start ev1 j2
  have S1 := Sta.start ev1 (Or.inl (hsets _ (List.mem_of_getElem? (i := 1) rfl)))
  obtain ⟨ls1, le1⟩ := own_len (Cond.before_iff.mp (hsets _ (List.mem_of_getElem? (i := 4) rfl))) ev1 A1
  have hs1 : cl1.slots.size = 256 := by have := len_toInt ls1; rw [le1] at this; exact Int.ofNat.inj this.symm
  have B1 := own_box_start (fun _ => ev1) A1 hs1 (Cond.before_iff.mp (hsets _ (List.mem_of_getElem? (i := 5) rfl)))
  obtain ⟨n, o, h1, h2, h3, _, L, rfl, ⟨rfl, N⟩, hq⟩ := rm0 l s _ hw tables_1 i0 i1 i2 i3 i4 u1 cl1 s.heap s.heap.size (Nat.le_refl _) (Old.start s) S1 A1 hs1 B1 p e ha hc hk s m _ below hf ((Spec.applies_iff_loose hf).mp happ).1 ⟨rfl, State.Warmed39.refl s, rfl⟩ trivial
  refine ⟨n, _, h1, h2, h3, hpost _ _ _ _ _ _ ⟨Cond.after_iff.mpr rfl, Cond.after_iff.mpr (eq_i res_at (Term.int_eval (1)) rfl), trivial⟩ ⟨hq.1, hq.2.1, (hq.2.2.sift fun y hy => Or.inr (N y hy)).mono (by decide) (by decide)⟩⟩
theorem main_1_1 : Claimed_1_1 := comes_1 fun _ _ _ _ _ _ h hF => ⟨h.1, hF⟩
theorem main_1_2 : Claimed_1_2 := comes_1 fun _ _ _ _ _ _ h hF => ⟨h.2.1, hF⟩
end Jvm.Pilot.@@N@@
namespace Jvm.Pilot.@@N@@
open Jvm Jvm.ClassFile Sem Op Lib Jvm.Free Jvm.Stand Jvm.Pilot.@@N@@.Jvm.D
/-! MADE BY PROGRAM (witnessworld.py) out of the Statement's table words and the real class files: 17 classes; the members and pool entries that the words name. The judged class is class 1, her method 1. -/
namespace start1
open Jvm.ClassFile
def u (s : String) : CpInfo := .utf8 (stringToUtf16 s)
/-- a pool by its gaps: so many unusable entries, then the entry; so many at the end -/
def gap : Nat → List CpInfo → List CpInfo
  | 0, r => r
  | n + 1, r => .unusable :: gap n r
def poolList (es : List (Nat × CpInfo)) (last : Nat) : List CpInfo := es.foldr (fun e r => gap e.1 (e.2 :: r)) (gap last [])
def pool (es : List (Nat × CpInfo)) (last : Nat) : Array CpInfo := ⟨poolList es last⟩
def fileOf (pool : Array CpInfo) (this : Nat) (attrs : Array Attribute := #[]) (ms : Array MethodInfo := #[]) (fl : Nat := 33) (sup : Nat := 0) (ifs : Array Nat := #[]) (fds : Array FieldInfo := #[]) : ClassFile where
  minorVersion := 0
  majorVersion := 65
  constantPool := pool
  accessFlags := fl
  thisClass := this
  superClass := sup
  interfaces := ifs
  fields := fds
  methods := ms
  attributes := attrs
def plain (name : String) (sup : Option ClassId) : Class where
  name := name
  kind := .ordinary
  loader := none
  accessFlags := 33
  super := sup
  interfaces := #[]
  cf := none
  fields := #[]
  methods := #[]
  instanceTypes := #[]
  staticTypes := #[]
  resolved := #[]
  callSites := []
  init := .initialized
  statics := none
  mirror := none

def pool0 : Array CpInfo := pool [(5, u "<init>"), (0, u "()V"), (1, .class_ 10), (1, u "java/lang/Object")] 113

def k0c0 : Code := { maxStack := 0, maxLocals := 1, code := object_method_1_code, exceptionTable := #[], attributes := #[] }
def k0m0 : Method := { name := "<init>", desc := "()V", sig := { parameters := [], returnType := none }, accessFlags := 1, code := some k0c0 }
/-- java/lang/Object -/
def k0 : Class := { plain "java/lang/Object" none with
  accessFlags := 33
  interfaces := #[]
  cf := some (fileOf pool0 8 #[] #[{ accessFlags := 1, nameIndex := 5, descriptorIndex := 6, attributes := #[] }] 33 0 #[] #[])
  fields := #[]
  methods := #[k0m0]
  instanceTypes := #[]
  staticTypes := #[]
  resolved := Array.replicate 124 none
  statics := none }

def pool1 : Array CpInfo := pool [(2, .class_ 4), (1, u "java/lang/Object"), (0, u "<init>"), (0, u "()V"), (0, .class_ 8), (0, u "java/lang/Long"), (0, .long 9223372036854775807), (1, .methodref 12 13), (0, .class_ 14), (0, .nameAndType 15 16), (0, u "java/lang/Math"), (0, u "max"), (0, u "(JJ)J"), (0, .class_ 18), (0, u "com/example/thin_feed/thinfeed/model/Post"), (0, .methodref 17 20), (0, .nameAndType 5 21), (0, u "(JJJ)V"), (0, .methodref 17 23), (0, .nameAndType 24 25), (0, u "equals"), (0, u "(Ljava/lang/Object;)Z"), (0, .methodref 7 27), (0, .nameAndType 28 29), (0, u "valueOf"), (0, u "(J)Ljava/lang/Long;"), (0, .class_ 31), (0, u "com/example/thin_feed/thinfeed/model/PostEqualsPinLaw"), (2, u "law"), (0, u "(JJJJI)Z")] 3

def k1m0 : Method := { name := "<init>", desc := "()V", sig := { parameters := [], returnType := none }, accessFlags := 1, code := none }
def k1c1 : Code := { maxStack := 8, maxLocals := 26, code := code, exceptionTable := #[], attributes := #[] }
def k1m1 : Method := { name := "law", desc := "(JJJJI)Z", sig := { parameters := [.long, .long, .long, .long, .int], returnType := some .boolean }, accessFlags := 9, code := some k1c1 }
/-- com/example/thin_feed/thinfeed/model/PostEqualsPinLaw -/
def k1 : Class := { plain "com/example/thin_feed/thinfeed/model/PostEqualsPinLaw" (some 0) with
  accessFlags := 49
  interfaces := #[]
  cf := some (fileOf pool1 30 #[] #[{ accessFlags := 1, nameIndex := 5, descriptorIndex := 6, attributes := #[] }, { accessFlags := 9, nameIndex := 34, descriptorIndex := 35, attributes := #[] }] 49 2 #[] #[])
  fields := #[]
  methods := #[k1m0, k1m1]
  instanceTypes := #[]
  staticTypes := #[]
  resolved := Array.replicate 39 none
  statics := none }

def pool2 : Array CpInfo := pool [(1, .class_ 2), (0, u "java/lang/Math"), (1, .class_ 6), (1, u "java/lang/Object"), (0, u "<init>"), (0, u "()V"), (89, .class_ 100), (1, u "java/lang/Math$RandomNumberGeneratorHolder"), (20, u "(JJ)J"), (50, u "negativeZeroFloatBits"), (0, u "J"), (2, u "negativeZeroDoubleBits"), (21, u "max"), (46, u "$assertionsDisabled"), (0, u "Z"), (91, u "twoToTheDoubleScaleDown"), (0, u "D"), (4, u "twoToTheDoubleScaleUp"), (9, u "E"), (3, u "PI"), (2, u "TAU"), (2, u "DEGREES_TO_RADIANS"), (0, u "RADIANS_TO_DEGREES")] 94

def k2m0 : Method := { name := "<init>", desc := "()V", sig := { parameters := [], returnType := none }, accessFlags := 2, code := none }
def k2c1 : Code := { maxStack := 4, maxLocals := 4, code := jdk_29_method_66_code, exceptionTable := #[], attributes := #[] }
def k2m1 : Method := { name := "max", desc := "(JJ)J", sig := { parameters := [.long, .long], returnType := some .long }, accessFlags := 9, code := some k2c1 }
/-- java/lang/Math -/
def k2 : Class := { plain "java/lang/Math" (some 0) with
  accessFlags := 49
  interfaces := #[]
  cf := some (fileOf pool2 1 #[.nestMembers #[98]] #[{ accessFlags := 2, nameIndex := 7, descriptorIndex := 8, attributes := #[] }, { accessFlags := 9, nameIndex := 198, descriptorIndex := 121, attributes := #[] }] 49 4 #[] #[{ accessFlags := 25, nameIndex := 354, descriptorIndex := 339, attributes := #[] }, { accessFlags := 25, nameIndex := 358, descriptorIndex := 339, attributes := #[] }, { accessFlags := 25, nameIndex := 361, descriptorIndex := 339, attributes := #[] }, { accessFlags := 26, nameIndex := 364, descriptorIndex := 339, attributes := #[] }, { accessFlags := 26, nameIndex := 365, descriptorIndex := 339, attributes := #[] }, { accessFlags := 26, nameIndex := 172, descriptorIndex := 173, attributes := #[] }, { accessFlags := 26, nameIndex := 176, descriptorIndex := 173, attributes := #[] }, { accessFlags := 8, nameIndex := 344, descriptorIndex := 339, attributes := #[] }, { accessFlags := 8, nameIndex := 338, descriptorIndex := 339, attributes := #[] }, { accessFlags := 4120, nameIndex := 245, descriptorIndex := 246, attributes := #[] }])
  fields := #[{ name := "E", type := .double, accessFlags := 25, slot := 0, constantValue := 0 }, { name := "PI", type := .double, accessFlags := 25, slot := 1, constantValue := 0 }, { name := "TAU", type := .double, accessFlags := 25, slot := 2, constantValue := 0 }, { name := "DEGREES_TO_RADIANS", type := .double, accessFlags := 26, slot := 3, constantValue := 0 }, { name := "RADIANS_TO_DEGREES", type := .double, accessFlags := 26, slot := 4, constantValue := 0 }, { name := "negativeZeroFloatBits", type := .long, accessFlags := 26, slot := 5, constantValue := 0 }, { name := "negativeZeroDoubleBits", type := .long, accessFlags := 26, slot := 6, constantValue := 0 }, { name := "twoToTheDoubleScaleUp", type := .double, accessFlags := 8, slot := 7, constantValue := 0 }, { name := "twoToTheDoubleScaleDown", type := .double, accessFlags := 8, slot := 8, constantValue := 0 }, { name := "$assertionsDisabled", type := .boolean, accessFlags := 4120, slot := 9, constantValue := 0 }]
  methods := #[k2m0, k2m1]
  instanceTypes := #[]
  staticTypes := #[.double, .double, .double, .double, .double, .long, .long, .double, .double, .boolean]
  resolved := Array.replicate 460 none
  statics := none }

def pool3 : Array CpInfo := pool [(1, .methodref 2 3), (0, .class_ 4), (0, .nameAndType 5 6), (0, u "java/lang/Object"), (0, u "<init>"), (0, u "()V"), (0, .fieldref 8 9), (0, .class_ 10), (0, .nameAndType 11 12), (0, u "com/example/thin_feed/thinfeed/model/Post"), (0, u "id"), (0, u "J"), (0, .fieldref 8 14), (0, .nameAndType 15 12), (0, u "author"), (0, .fieldref 8 17), (0, .nameAndType 18 12), (0, u "createdAt"), (10, u "(JJJ)V"), (6, u "equals"), (0, u "(Ljava/lang/Object;)Z")] 21

def k3c0 : Code := { maxStack := 3, maxLocals := 7, code := prog_8_method_1_code, exceptionTable := #[], attributes := #[] }
def k3m0 : Method := { name := "<init>", desc := "(JJJ)V", sig := { parameters := [.long, .long, .long], returnType := none }, accessFlags := 1, code := some k3c0 }
def k3c1 : Code := { maxStack := 4, maxLocals := 3, code := prog_8_method_5_code, exceptionTable := #[], attributes := #[] }
def k3m1 : Method := { name := "equals", desc := "(Ljava/lang/Object;)Z", sig := { parameters := [(.object "java/lang/Object")], returnType := some .boolean }, accessFlags := 1, code := some k3c1 }
/-- com/example/thin_feed/thinfeed/model/Post -/
def k3 : Class := { plain "com/example/thin_feed/thinfeed/model/Post" (some 0) with
  accessFlags := 49
  interfaces := #[]
  cf := some (fileOf pool3 8 #[] #[{ accessFlags := 1, nameIndex := 5, descriptorIndex := 29, attributes := #[] }, { accessFlags := 1, nameIndex := 36, descriptorIndex := 37, attributes := #[] }] 49 2 #[] #[{ accessFlags := 18, nameIndex := 11, descriptorIndex := 12, attributes := #[] }, { accessFlags := 18, nameIndex := 15, descriptorIndex := 12, attributes := #[] }, { accessFlags := 18, nameIndex := 18, descriptorIndex := 12, attributes := #[] }])
  fields := #[{ name := "id", type := .long, accessFlags := 18, slot := 0, constantValue := 0 }, { name := "author", type := .long, accessFlags := 18, slot := 1, constantValue := 0 }, { name := "createdAt", type := .long, accessFlags := 18, slot := 2, constantValue := 0 }]
  methods := #[k3m0, k3m1]
  instanceTypes := #[.long, .long, .long]
  staticTypes := #[]
  resolved := Array.replicate 59 none
  statics := none }

def pool4 : Array CpInfo := pool [(1, .class_ 2), (0, u "java/io/Serializable"), (0, .class_ 4), (0, u "java/lang/Object")] 2

/-- java/io/Serializable -/
def k4 : Class := { plain "java/io/Serializable" (some 0) with
  accessFlags := 1537
  interfaces := #[]
  cf := some (fileOf pool4 1 #[] #[] 1537 3 #[] #[])
  fields := #[]
  methods := #[]
  instanceTypes := #[]
  staticTypes := #[]
  resolved := Array.replicate 7 none
  statics := none }

def pool5 : Array CpInfo := pool [(1, .methodref 2 3), (0, .class_ 4), (0, .nameAndType 5 6), (0, u "java/lang/Object"), (0, u "<init>"), (0, u "()V"), (1, .class_ 10), (1, u "java/lang/Number"), (2, .class_ 14), (0, u "java/io/Serializable"), (0, u "serialVersionUID"), (0, u "J")] 20

def k5c0 : Code := { maxStack := 1, maxLocals := 1, code := jdk_18_method_1_code, exceptionTable := #[], attributes := #[] }
def k5m0 : Method := { name := "<init>", desc := "()V", sig := { parameters := [], returnType := none }, accessFlags := 1, code := some k5c0 }
/-- java/lang/Number -/
def k5 : Class := { plain "java/lang/Number" (some 0) with
  accessFlags := 1057
  interfaces := #[4]
  cf := some (fileOf pool5 8 #[] #[{ accessFlags := 1, nameIndex := 5, descriptorIndex := 6, attributes := #[] }] 1057 2 #[13] #[{ accessFlags := 26, nameIndex := 15, descriptorIndex := 16, attributes := #[] }])
  fields := #[{ name := "serialVersionUID", type := .long, accessFlags := 26, slot := 0, constantValue := 0 }]
  methods := #[k5m0]
  instanceTypes := #[]
  staticTypes := #[.long]
  resolved := Array.replicate 37 none
  statics := none }

def pool6 : Array CpInfo := pool [(1, .class_ 2), (0, u "java/lang/Comparable"), (0, .class_ 4), (0, u "java/lang/Object")] 7

/-- java/lang/Comparable -/
def k6 : Class := { plain "java/lang/Comparable" (some 0) with
  accessFlags := 1537
  interfaces := #[]
  cf := some (fileOf pool6 1 #[] #[] 1537 3 #[] #[])
  fields := #[]
  methods := #[]
  instanceTypes := #[]
  staticTypes := #[]
  resolved := Array.replicate 12 none
  statics := none }

def pool7 : Array CpInfo := pool [(1, .class_ 2), (0, u "java/lang/constant/Constable"), (0, .class_ 4), (0, u "java/lang/Object")] 6

/-- java/lang/constant/Constable -/
def k7 : Class := { plain "java/lang/constant/Constable" (some 0) with
  accessFlags := 1537
  interfaces := #[]
  cf := some (fileOf pool7 1 #[] #[] 1537 3 #[] #[])
  fields := #[]
  methods := #[]
  instanceTypes := #[]
  staticTypes := #[]
  resolved := Array.replicate 11 none
  statics := none }

def pool8 : Array CpInfo := pool [(1, .class_ 2), (0, u "java/lang/constant/ConstantDesc"), (0, .class_ 4), (0, u "java/lang/Object")] 32

/-- java/lang/constant/ConstantDesc -/
def k8 : Class := { plain "java/lang/constant/ConstantDesc" (some 0) with
  accessFlags := 1537
  interfaces := #[]
  cf := some (fileOf pool8 1 #[] #[] 1537 3 #[] #[])
  fields := #[]
  methods := #[]
  instanceTypes := #[]
  staticTypes := #[]
  resolved := Array.replicate 37 none
  statics := none }

def pool9 : Array CpInfo := pool [(1, .class_ 2), (0, u "java/lang/Long"), (55, .nameAndType 59 60), (0, u "<init>"), (0, u "()V"), (24, u "valueOf"), (143, u "(J)Ljava/lang/Long;"), (0, .long 18446744073709551488), (1, .long 127), (1, .fieldref 235 236), (0, .class_ 237), (0, .nameAndType 238 239), (0, u "java/lang/Long$LongCache"), (0, u "cache"), (0, u "[Ljava/lang/Long;"), (0, .methodref 1 241), (0, .nameAndType 59 242), (0, u "(J)V"), (27, .methodref 271 58), (0, .class_ 272), (0, u "java/lang/Number"), (0, .fieldref 1 274), (0, .nameAndType 275 276), (0, u "value"), (0, u "J"), (84, u "TYPE"), (0, u "Ljava/lang/Class;"), (0, .class_ 364), (0, u "java/lang/Comparable"), (0, .class_ 366), (0, u "java/lang/constant/Constable"), (0, .class_ 368), (0, u "java/lang/constant/ConstantDesc"), (0, u "MIN_VALUE"), (1, u "MAX_VALUE"), (4, u "SIZE"), (0, u "I"), (1, u "BYTES"), (1, u "serialVersionUID")] 142

def k9c0 : Code := { maxStack := 4, maxLocals := 3, code := jdk_35_method_24_code, exceptionTable := #[], attributes := #[] }
def k9m0 : Method := { name := "valueOf", desc := "(J)Ljava/lang/Long;", sig := { parameters := [.long], returnType := some (.object "java/lang/Long") }, accessFlags := 9, code := some k9c0 }
def k9c1 : Code := { maxStack := 3, maxLocals := 3, code := jdk_35_method_26_code, exceptionTable := #[], attributes := #[] }
def k9m1 : Method := { name := "<init>", desc := "(J)V", sig := { parameters := [.long], returnType := none }, accessFlags := 1, code := some k9c1 }
/-- java/lang/Long -/
def k9 : Class := { plain "java/lang/Long" (some 5) with
  accessFlags := 49
  interfaces := #[6, 7, 8]
  cf := some (fileOf pool9 1 #[.nestMembers #[235]] #[{ accessFlags := 9, nameIndex := 85, descriptorIndex := 229, attributes := #[] }, { accessFlags := 1, nameIndex := 59, descriptorIndex := 242, attributes := #[] }] 49 271 #[363, 365, 367] #[{ accessFlags := 25, nameIndex := 369, descriptorIndex := 276, attributes := #[] }, { accessFlags := 25, nameIndex := 371, descriptorIndex := 276, attributes := #[] }, { accessFlags := 25, nameIndex := 361, descriptorIndex := 362, attributes := #[] }, { accessFlags := 18, nameIndex := 275, descriptorIndex := 276, attributes := #[] }, { accessFlags := 25, nameIndex := 376, descriptorIndex := 377, attributes := #[] }, { accessFlags := 25, nameIndex := 379, descriptorIndex := 377, attributes := #[] }, { accessFlags := 26, nameIndex := 381, descriptorIndex := 276, attributes := #[] }])
  fields := #[{ name := "MIN_VALUE", type := .long, accessFlags := 25, slot := 0, constantValue := 0 }, { name := "MAX_VALUE", type := .long, accessFlags := 25, slot := 1, constantValue := 0 }, { name := "TYPE", type := (.object "java/lang/Class"), accessFlags := 25, slot := 2, constantValue := 0 }, { name := "value", type := .long, accessFlags := 18, slot := 0, constantValue := 0 }, { name := "SIZE", type := .int, accessFlags := 25, slot := 3, constantValue := 0 }, { name := "BYTES", type := .int, accessFlags := 25, slot := 4, constantValue := 0 }, { name := "serialVersionUID", type := .long, accessFlags := 26, slot := 5, constantValue := 0 }]
  methods := #[k9m0, k9m1]
  instanceTypes := #[.long]
  staticTypes := #[.long, .long, (.object "java/lang/Class"), .int, .int, .long]
  resolved := Array.replicate 524 none
  statics := none }

def pool10 : Array CpInfo := pool [(2, .class_ 4), (1, u "java/lang/Object"), (0, u "<init>"), (0, u "()V"), (0, .class_ 8), (0, u "java/lang/Long"), (7, .class_ 18), (1, u "java/lang/Long$LongCache"), (0, u "$assertionsDisabled"), (0, u "Z"), (8, u "archivedCache"), (0, u "[Ljava/lang/Long;"), (7, u "cache")] 24

def k10m0 : Method := { name := "<init>", desc := "()V", sig := { parameters := [], returnType := none }, accessFlags := 2, code := none }
/-- java/lang/Long$LongCache -/
def k10 : Class := { plain "java/lang/Long$LongCache" (some 0) with
  accessFlags := 48
  interfaces := #[]
  cf := some (fileOf pool10 16 #[.nestHost 7] #[{ accessFlags := 2, nameIndex := 5, descriptorIndex := 6, attributes := #[] }] 48 2 #[] #[{ accessFlags := 24, nameIndex := 38, descriptorIndex := 30, attributes := #[] }, { accessFlags := 8, nameIndex := 29, descriptorIndex := 30, attributes := #[] }, { accessFlags := 4120, nameIndex := 19, descriptorIndex := 20, attributes := #[] }])
  fields := #[{ name := "cache", type := (.array (.object "java/lang/Long")), accessFlags := 24, slot := 0, constantValue := 0 }, { name := "archivedCache", type := (.array (.object "java/lang/Long")), accessFlags := 8, slot := 1, constantValue := 0 }, { name := "$assertionsDisabled", type := .boolean, accessFlags := 4120, slot := 2, constantValue := 0 }]
  methods := #[k10m0]
  instanceTypes := #[]
  staticTypes := #[(.array (.object "java/lang/Long")), (.array (.object "java/lang/Long")), .boolean]
  resolved := Array.replicate 63 none
  statics := some 0 }

def pool11 : Array CpInfo := pool [(1, u "java/lang/Cloneable"), (0, .class_ 1), (0, u "java/lang/Object"), (0, .class_ 3)] 3

/-- java/lang/Cloneable -/
def k11 : Class := { plain "java/lang/Cloneable" (some 0) with
  accessFlags := 1537
  interfaces := #[]
  cf := some (fileOf pool11 2 #[] #[] 1537 4 #[] #[])
  fields := #[]
  methods := #[]
  instanceTypes := #[]
  staticTypes := #[]
  resolved := Array.replicate 8 none
  statics := none }

/-- the primitive byte -/
def k12 : Class := { plain "byte" none with kind := .primitive 'B', accessFlags := 0x411 }
/-- [B -/
def k13 : Class := { plain "[B" (some 0) with kind := .array 12 .byte, interfaces := #[11, 4], accessFlags := 1041 }

/-- the primitive int -/
def k14 : Class := { plain "int" none with kind := .primitive 'I', accessFlags := 0x411 }
/-- [I -/
def k15 : Class := { plain "[I" (some 0) with kind := .array 14 .int, interfaces := #[11, 4], accessFlags := 1041 }

/-- [Ljava/lang/Long; -/
def k16 : Class := { plain "[Ljava/lang/Long;" (some 0) with kind := .array 9 (.object "java/lang/Long"), interfaces := #[11, 4], accessFlags := 1041 }

def heap : Heap := #[{ cls := 10, slots := #[.ref 1, .null, .int 0], vm := .statics 10 },
  { cls := 16, slots := #[.ref 2, .ref 3, .ref 4, .ref 5, .ref 6, .ref 7, .ref 8, .ref 9, .ref 10, .ref 11, .ref 12, .ref 13, .ref 14, .ref 15, .ref 16, .ref 17, .ref 18, .ref 19, .ref 20, .ref 21, .ref 22, .ref 23, .ref 24, .ref 25, .ref 26, .ref 27, .ref 28, .ref 29, .ref 30, .ref 31, .ref 32, .ref 33, .ref 34, .ref 35, .ref 36, .ref 37, .ref 38, .ref 39, .ref 40, .ref 41, .ref 42, .ref 43, .ref 44, .ref 45, .ref 46, .ref 47, .ref 48, .ref 49, .ref 50, .ref 51, .ref 52, .ref 53, .ref 54, .ref 55, .ref 56, .ref 57, .ref 58, .ref 59, .ref 60, .ref 61, .ref 62, .ref 63, .ref 64, .ref 65, .ref 66, .ref 67, .ref 68, .ref 69, .ref 70, .ref 71, .ref 72, .ref 73, .ref 74, .ref 75, .ref 76, .ref 77, .ref 78, .ref 79, .ref 80, .ref 81, .ref 82, .ref 83, .ref 84, .ref 85, .ref 86, .ref 87, .ref 88, .ref 89, .ref 90, .ref 91, .ref 92, .ref 93, .ref 94, .ref 95, .ref 96, .ref 97, .ref 98, .ref 99, .ref 100, .ref 101, .ref 102, .ref 103, .ref 104, .ref 105, .ref 106, .ref 107, .ref 108, .ref 109, .ref 110, .ref 111, .ref 112, .ref 113, .ref 114, .ref 115, .ref 116, .ref 117, .ref 118, .ref 119, .ref 120, .ref 121, .ref 122, .ref 123, .ref 124, .ref 125, .ref 126, .ref 127, .ref 128, .ref 129, .ref 130, .ref 131, .ref 132, .ref 133, .ref 134, .ref 135, .ref 136, .ref 137, .ref 138, .ref 139, .ref 140, .ref 141, .ref 142, .ref 143, .ref 144, .ref 145, .ref 146, .ref 147, .ref 148, .ref 149, .ref 150, .ref 151, .ref 152, .ref 153, .ref 154, .ref 155, .ref 156, .ref 157, .ref 158, .ref 159, .ref 160, .ref 161, .ref 162, .ref 163, .ref 164, .ref 165, .ref 166, .ref 167, .ref 168, .ref 169, .ref 170, .ref 171, .ref 172, .ref 173, .ref 174, .ref 175, .ref 176, .ref 177, .ref 178, .ref 179, .ref 180, .ref 181, .ref 182, .ref 183, .ref 184, .ref 185, .ref 186, .ref 187, .ref 188, .ref 189, .ref 190, .ref 191, .ref 192, .ref 193, .ref 194, .ref 195, .ref 196, .ref 197, .ref 198, .ref 199, .ref 200, .ref 201, .ref 202, .ref 203, .ref 204, .ref 205, .ref 206, .ref 207, .ref 208, .ref 209, .ref 210, .ref 211, .ref 212, .ref 213, .ref 214, .ref 215, .ref 216, .ref 217, .ref 218, .ref 219, .ref 220, .ref 221, .ref 222, .ref 223, .ref 224, .ref 225, .ref 226, .ref 227, .ref 228, .ref 229, .ref 230, .ref 231, .ref 232, .ref 233, .ref 234, .ref 235, .ref 236, .ref 237, .ref 238, .ref 239, .ref 240, .ref 241, .ref 242, .ref 243, .ref 244, .ref 245, .ref 246, .ref 247, .ref 248, .ref 249, .ref 250, .ref 251, .ref 252, .ref 253, .ref 254, .ref 255, .ref 256, .ref 257], vm := .none },
  { cls := 9, slots := #[.long (-128)], vm := .none },
  { cls := 9, slots := #[.long (-127)], vm := .none },
  { cls := 9, slots := #[.long (-126)], vm := .none },
  { cls := 9, slots := #[.long (-125)], vm := .none },
  { cls := 9, slots := #[.long (-124)], vm := .none },
  { cls := 9, slots := #[.long (-123)], vm := .none },
  { cls := 9, slots := #[.long (-122)], vm := .none },
  { cls := 9, slots := #[.long (-121)], vm := .none },
  { cls := 9, slots := #[.long (-120)], vm := .none },
  { cls := 9, slots := #[.long (-119)], vm := .none },
  { cls := 9, slots := #[.long (-118)], vm := .none },
  { cls := 9, slots := #[.long (-117)], vm := .none },
  { cls := 9, slots := #[.long (-116)], vm := .none },
  { cls := 9, slots := #[.long (-115)], vm := .none },
  { cls := 9, slots := #[.long (-114)], vm := .none },
  { cls := 9, slots := #[.long (-113)], vm := .none },
  { cls := 9, slots := #[.long (-112)], vm := .none },
  { cls := 9, slots := #[.long (-111)], vm := .none },
  { cls := 9, slots := #[.long (-110)], vm := .none },
  { cls := 9, slots := #[.long (-109)], vm := .none },
  { cls := 9, slots := #[.long (-108)], vm := .none },
  { cls := 9, slots := #[.long (-107)], vm := .none },
  { cls := 9, slots := #[.long (-106)], vm := .none },
  { cls := 9, slots := #[.long (-105)], vm := .none },
  { cls := 9, slots := #[.long (-104)], vm := .none },
  { cls := 9, slots := #[.long (-103)], vm := .none },
  { cls := 9, slots := #[.long (-102)], vm := .none },
  { cls := 9, slots := #[.long (-101)], vm := .none },
  { cls := 9, slots := #[.long (-100)], vm := .none },
  { cls := 9, slots := #[.long (-99)], vm := .none },
  { cls := 9, slots := #[.long (-98)], vm := .none },
  { cls := 9, slots := #[.long (-97)], vm := .none },
  { cls := 9, slots := #[.long (-96)], vm := .none },
  { cls := 9, slots := #[.long (-95)], vm := .none },
  { cls := 9, slots := #[.long (-94)], vm := .none },
  { cls := 9, slots := #[.long (-93)], vm := .none },
  { cls := 9, slots := #[.long (-92)], vm := .none },
  { cls := 9, slots := #[.long (-91)], vm := .none },
  { cls := 9, slots := #[.long (-90)], vm := .none },
  { cls := 9, slots := #[.long (-89)], vm := .none },
  { cls := 9, slots := #[.long (-88)], vm := .none },
  { cls := 9, slots := #[.long (-87)], vm := .none },
  { cls := 9, slots := #[.long (-86)], vm := .none },
  { cls := 9, slots := #[.long (-85)], vm := .none },
  { cls := 9, slots := #[.long (-84)], vm := .none },
  { cls := 9, slots := #[.long (-83)], vm := .none },
  { cls := 9, slots := #[.long (-82)], vm := .none },
  { cls := 9, slots := #[.long (-81)], vm := .none },
  { cls := 9, slots := #[.long (-80)], vm := .none },
  { cls := 9, slots := #[.long (-79)], vm := .none },
  { cls := 9, slots := #[.long (-78)], vm := .none },
  { cls := 9, slots := #[.long (-77)], vm := .none },
  { cls := 9, slots := #[.long (-76)], vm := .none },
  { cls := 9, slots := #[.long (-75)], vm := .none },
  { cls := 9, slots := #[.long (-74)], vm := .none },
  { cls := 9, slots := #[.long (-73)], vm := .none },
  { cls := 9, slots := #[.long (-72)], vm := .none },
  { cls := 9, slots := #[.long (-71)], vm := .none },
  { cls := 9, slots := #[.long (-70)], vm := .none },
  { cls := 9, slots := #[.long (-69)], vm := .none },
  { cls := 9, slots := #[.long (-68)], vm := .none },
  { cls := 9, slots := #[.long (-67)], vm := .none },
  { cls := 9, slots := #[.long (-66)], vm := .none },
  { cls := 9, slots := #[.long (-65)], vm := .none },
  { cls := 9, slots := #[.long (-64)], vm := .none },
  { cls := 9, slots := #[.long (-63)], vm := .none },
  { cls := 9, slots := #[.long (-62)], vm := .none },
  { cls := 9, slots := #[.long (-61)], vm := .none },
  { cls := 9, slots := #[.long (-60)], vm := .none },
  { cls := 9, slots := #[.long (-59)], vm := .none },
  { cls := 9, slots := #[.long (-58)], vm := .none },
  { cls := 9, slots := #[.long (-57)], vm := .none },
  { cls := 9, slots := #[.long (-56)], vm := .none },
  { cls := 9, slots := #[.long (-55)], vm := .none },
  { cls := 9, slots := #[.long (-54)], vm := .none },
  { cls := 9, slots := #[.long (-53)], vm := .none },
  { cls := 9, slots := #[.long (-52)], vm := .none },
  { cls := 9, slots := #[.long (-51)], vm := .none },
  { cls := 9, slots := #[.long (-50)], vm := .none },
  { cls := 9, slots := #[.long (-49)], vm := .none },
  { cls := 9, slots := #[.long (-48)], vm := .none },
  { cls := 9, slots := #[.long (-47)], vm := .none },
  { cls := 9, slots := #[.long (-46)], vm := .none },
  { cls := 9, slots := #[.long (-45)], vm := .none },
  { cls := 9, slots := #[.long (-44)], vm := .none },
  { cls := 9, slots := #[.long (-43)], vm := .none },
  { cls := 9, slots := #[.long (-42)], vm := .none },
  { cls := 9, slots := #[.long (-41)], vm := .none },
  { cls := 9, slots := #[.long (-40)], vm := .none },
  { cls := 9, slots := #[.long (-39)], vm := .none },
  { cls := 9, slots := #[.long (-38)], vm := .none },
  { cls := 9, slots := #[.long (-37)], vm := .none },
  { cls := 9, slots := #[.long (-36)], vm := .none },
  { cls := 9, slots := #[.long (-35)], vm := .none },
  { cls := 9, slots := #[.long (-34)], vm := .none },
  { cls := 9, slots := #[.long (-33)], vm := .none },
  { cls := 9, slots := #[.long (-32)], vm := .none },
  { cls := 9, slots := #[.long (-31)], vm := .none },
  { cls := 9, slots := #[.long (-30)], vm := .none },
  { cls := 9, slots := #[.long (-29)], vm := .none },
  { cls := 9, slots := #[.long (-28)], vm := .none },
  { cls := 9, slots := #[.long (-27)], vm := .none },
  { cls := 9, slots := #[.long (-26)], vm := .none },
  { cls := 9, slots := #[.long (-25)], vm := .none },
  { cls := 9, slots := #[.long (-24)], vm := .none },
  { cls := 9, slots := #[.long (-23)], vm := .none },
  { cls := 9, slots := #[.long (-22)], vm := .none },
  { cls := 9, slots := #[.long (-21)], vm := .none },
  { cls := 9, slots := #[.long (-20)], vm := .none },
  { cls := 9, slots := #[.long (-19)], vm := .none },
  { cls := 9, slots := #[.long (-18)], vm := .none },
  { cls := 9, slots := #[.long (-17)], vm := .none },
  { cls := 9, slots := #[.long (-16)], vm := .none },
  { cls := 9, slots := #[.long (-15)], vm := .none },
  { cls := 9, slots := #[.long (-14)], vm := .none },
  { cls := 9, slots := #[.long (-13)], vm := .none },
  { cls := 9, slots := #[.long (-12)], vm := .none },
  { cls := 9, slots := #[.long (-11)], vm := .none },
  { cls := 9, slots := #[.long (-10)], vm := .none },
  { cls := 9, slots := #[.long (-9)], vm := .none },
  { cls := 9, slots := #[.long (-8)], vm := .none },
  { cls := 9, slots := #[.long (-7)], vm := .none },
  { cls := 9, slots := #[.long (-6)], vm := .none },
  { cls := 9, slots := #[.long (-5)], vm := .none },
  { cls := 9, slots := #[.long (-4)], vm := .none },
  { cls := 9, slots := #[.long (-3)], vm := .none },
  { cls := 9, slots := #[.long (-2)], vm := .none },
  { cls := 9, slots := #[.long (-1)], vm := .none },
  { cls := 9, slots := #[.long 0], vm := .none },
  { cls := 9, slots := #[.long 1], vm := .none },
  { cls := 9, slots := #[.long 2], vm := .none },
  { cls := 9, slots := #[.long 3], vm := .none },
  { cls := 9, slots := #[.long 4], vm := .none },
  { cls := 9, slots := #[.long 5], vm := .none },
  { cls := 9, slots := #[.long 6], vm := .none },
  { cls := 9, slots := #[.long 7], vm := .none },
  { cls := 9, slots := #[.long 8], vm := .none },
  { cls := 9, slots := #[.long 9], vm := .none },
  { cls := 9, slots := #[.long 10], vm := .none },
  { cls := 9, slots := #[.long 11], vm := .none },
  { cls := 9, slots := #[.long 12], vm := .none },
  { cls := 9, slots := #[.long 13], vm := .none },
  { cls := 9, slots := #[.long 14], vm := .none },
  { cls := 9, slots := #[.long 15], vm := .none },
  { cls := 9, slots := #[.long 16], vm := .none },
  { cls := 9, slots := #[.long 17], vm := .none },
  { cls := 9, slots := #[.long 18], vm := .none },
  { cls := 9, slots := #[.long 19], vm := .none },
  { cls := 9, slots := #[.long 20], vm := .none },
  { cls := 9, slots := #[.long 21], vm := .none },
  { cls := 9, slots := #[.long 22], vm := .none },
  { cls := 9, slots := #[.long 23], vm := .none },
  { cls := 9, slots := #[.long 24], vm := .none },
  { cls := 9, slots := #[.long 25], vm := .none },
  { cls := 9, slots := #[.long 26], vm := .none },
  { cls := 9, slots := #[.long 27], vm := .none },
  { cls := 9, slots := #[.long 28], vm := .none },
  { cls := 9, slots := #[.long 29], vm := .none },
  { cls := 9, slots := #[.long 30], vm := .none },
  { cls := 9, slots := #[.long 31], vm := .none },
  { cls := 9, slots := #[.long 32], vm := .none },
  { cls := 9, slots := #[.long 33], vm := .none },
  { cls := 9, slots := #[.long 34], vm := .none },
  { cls := 9, slots := #[.long 35], vm := .none },
  { cls := 9, slots := #[.long 36], vm := .none },
  { cls := 9, slots := #[.long 37], vm := .none },
  { cls := 9, slots := #[.long 38], vm := .none },
  { cls := 9, slots := #[.long 39], vm := .none },
  { cls := 9, slots := #[.long 40], vm := .none },
  { cls := 9, slots := #[.long 41], vm := .none },
  { cls := 9, slots := #[.long 42], vm := .none },
  { cls := 9, slots := #[.long 43], vm := .none },
  { cls := 9, slots := #[.long 44], vm := .none },
  { cls := 9, slots := #[.long 45], vm := .none },
  { cls := 9, slots := #[.long 46], vm := .none },
  { cls := 9, slots := #[.long 47], vm := .none },
  { cls := 9, slots := #[.long 48], vm := .none },
  { cls := 9, slots := #[.long 49], vm := .none },
  { cls := 9, slots := #[.long 50], vm := .none },
  { cls := 9, slots := #[.long 51], vm := .none },
  { cls := 9, slots := #[.long 52], vm := .none },
  { cls := 9, slots := #[.long 53], vm := .none },
  { cls := 9, slots := #[.long 54], vm := .none },
  { cls := 9, slots := #[.long 55], vm := .none },
  { cls := 9, slots := #[.long 56], vm := .none },
  { cls := 9, slots := #[.long 57], vm := .none },
  { cls := 9, slots := #[.long 58], vm := .none },
  { cls := 9, slots := #[.long 59], vm := .none },
  { cls := 9, slots := #[.long 60], vm := .none },
  { cls := 9, slots := #[.long 61], vm := .none },
  { cls := 9, slots := #[.long 62], vm := .none },
  { cls := 9, slots := #[.long 63], vm := .none },
  { cls := 9, slots := #[.long 64], vm := .none },
  { cls := 9, slots := #[.long 65], vm := .none },
  { cls := 9, slots := #[.long 66], vm := .none },
  { cls := 9, slots := #[.long 67], vm := .none },
  { cls := 9, slots := #[.long 68], vm := .none },
  { cls := 9, slots := #[.long 69], vm := .none },
  { cls := 9, slots := #[.long 70], vm := .none },
  { cls := 9, slots := #[.long 71], vm := .none },
  { cls := 9, slots := #[.long 72], vm := .none },
  { cls := 9, slots := #[.long 73], vm := .none },
  { cls := 9, slots := #[.long 74], vm := .none },
  { cls := 9, slots := #[.long 75], vm := .none },
  { cls := 9, slots := #[.long 76], vm := .none },
  { cls := 9, slots := #[.long 77], vm := .none },
  { cls := 9, slots := #[.long 78], vm := .none },
  { cls := 9, slots := #[.long 79], vm := .none },
  { cls := 9, slots := #[.long 80], vm := .none },
  { cls := 9, slots := #[.long 81], vm := .none },
  { cls := 9, slots := #[.long 82], vm := .none },
  { cls := 9, slots := #[.long 83], vm := .none },
  { cls := 9, slots := #[.long 84], vm := .none },
  { cls := 9, slots := #[.long 85], vm := .none },
  { cls := 9, slots := #[.long 86], vm := .none },
  { cls := 9, slots := #[.long 87], vm := .none },
  { cls := 9, slots := #[.long 88], vm := .none },
  { cls := 9, slots := #[.long 89], vm := .none },
  { cls := 9, slots := #[.long 90], vm := .none },
  { cls := 9, slots := #[.long 91], vm := .none },
  { cls := 9, slots := #[.long 92], vm := .none },
  { cls := 9, slots := #[.long 93], vm := .none },
  { cls := 9, slots := #[.long 94], vm := .none },
  { cls := 9, slots := #[.long 95], vm := .none },
  { cls := 9, slots := #[.long 96], vm := .none },
  { cls := 9, slots := #[.long 97], vm := .none },
  { cls := 9, slots := #[.long 98], vm := .none },
  { cls := 9, slots := #[.long 99], vm := .none },
  { cls := 9, slots := #[.long 100], vm := .none },
  { cls := 9, slots := #[.long 101], vm := .none },
  { cls := 9, slots := #[.long 102], vm := .none },
  { cls := 9, slots := #[.long 103], vm := .none },
  { cls := 9, slots := #[.long 104], vm := .none },
  { cls := 9, slots := #[.long 105], vm := .none },
  { cls := 9, slots := #[.long 106], vm := .none },
  { cls := 9, slots := #[.long 107], vm := .none },
  { cls := 9, slots := #[.long 108], vm := .none },
  { cls := 9, slots := #[.long 109], vm := .none },
  { cls := 9, slots := #[.long 110], vm := .none },
  { cls := 9, slots := #[.long 111], vm := .none },
  { cls := 9, slots := #[.long 112], vm := .none },
  { cls := 9, slots := #[.long 113], vm := .none },
  { cls := 9, slots := #[.long 114], vm := .none },
  { cls := 9, slots := #[.long 115], vm := .none },
  { cls := 9, slots := #[.long 116], vm := .none },
  { cls := 9, slots := #[.long 117], vm := .none },
  { cls := 9, slots := #[.long 118], vm := .none },
  { cls := 9, slots := #[.long 119], vm := .none },
  { cls := 9, slots := #[.long 120], vm := .none },
  { cls := 9, slots := #[.long 121], vm := .none },
  { cls := 9, slots := #[.long 122], vm := .none },
  { cls := 9, slots := #[.long 123], vm := .none },
  { cls := 9, slots := #[.long 124], vm := .none },
  { cls := 9, slots := #[.long 125], vm := .none },
  { cls := 9, slots := #[.long 126], vm := .none },
  { cls := 9, slots := #[.long 127], vm := .none }]
def classes : Array Class := #[k0, k1, k2, k3, k4, k5, k6, k7, k8, k9, k10, k11, k12, k13, k14, k15, k16]
def interned : List (Array UInt16 × Addr) := []
def slotsUsed : Nat := 515
def theMethod : MethodId := ⟨1, 1⟩
def args0 : Array Value := #[.long 5, .long 6, .long 7, .long 8, .int 3]
def aboutOver (below : List Frame) : State where
  vm := { classes := classes, interned := interned.toArray }
  heap := heap
  slotsUsed := slotsUsed
  threads := #[{ frames := .invoking theMethod args0 :: below }]
def below0 : List Frame := [.native { method := ⟨0, 0⟩, args := #[] }]
def about1 : State := aboutOver below0
def p0 : Program := .bare "" "" ""
def e0 : Env := launch0.env 0 0 0
theorem w_frames : about1.frames = Frame.invoking theMethod args0 :: below0 := rfl
set_option maxRecDepth 65536 in
theorem w_args : argsFit about1.vm theMethod args0 = true := by decide +kernel
set_option maxRecDepth 65536 in
theorem w_heap : heapFits about1 = true := by decide +kernel
set_option maxRecDepth 65536 in
theorem w_runnable : about1.curStatus? = some .runnable := by decide +kernel
set_option maxRecDepth 65536 in
theorem w_alone : about1.alone = true := by decide +kernel
set_option maxRecDepth 65536 in
theorem w_named : about1.methodNamed? x = some theMethod := by decide +kernel
set_option maxRecDepth 65536 in
theorem w_hears : about1.hears theMethod below0 = true := by decide +kernel
set_option maxRecDepth 65536 in
theorem w_ripe : about1.ripe theMethod args0 below0 = true := by decide +kernel
theorem w_running : about1.status = .running := rfl
set_option maxRecDepth 65536 in
theorem w_room : about1.hasRoom e0.platform room_1 = true :=
  launch0.hasRoom_least _ room_1 (by decide +kernel) (by decide +kernel) (by decide +kernel) (by decide +kernel) (by decide +kernel) (by decide +kernel)
theorem allAtoms_all (ts : List Jvm.Cond) (a : Array Jvm.Value) (st : Jvm.State) : (allAtoms ts).before a st = ts.all (fun c => c.before a st) := by
  induction ts with
  | nil => rfl
  | cons c t ih =>
    show (Jvm.Cond.and c (allAtoms t)).before a st = _
    rw [Jvm.Cond.before_and, ih, List.all_cons]
def words1 : List Jvm.Cond := Jvm.Cond.code x code maxLocals ret :: tables_1
/-- a 'code' word, met by the world's own term for the bytes: nothing is compared byte by byte -/
theorem code_word {y : MethodName} {bytes : ByteArray} {mx : Nat} {rt : Option FieldType} {a : Array Value} {s : State} {m : MethodId} {meth : Method} {c : Code} (h1 : s.methodNamed? y = some m) (h2 : s.vm.method? m = some meth) (h3 : meth.code = some c) (h4 : c.code = bytes)
    (h5 : (c.maxLocals == mx && c.exceptionTable.isEmpty && decide (c.maxStack ≤ mostOperands) && decide (meth.sig.returnType = rt) && !meth.locks && decide (parseMethodDescriptor y.desc = some meth.sig)) = true) : (Jvm.Cond.code y bytes mx rt).before a s = true := by
  simp only [Bool.and_eq_true, beq_iff_eq, Bool.not_eq_true', decide_eq_true_eq] at h5
  obtain ⟨⟨⟨⟨⟨g1, g2⟩, g3⟩, g4⟩, g5⟩, g6⟩ := h5
  simp [Cond.before, Cond.holds, Cond.value, h1, h2, h3, h4, g1, g2, g3, g4, g5, g6]
def isCode : Jvm.Cond → Bool
  | .code _ _ _ _ => true
  | _ => false
theorem all_split {L : List Jvm.Cond} {P : Jvm.Cond → Bool} (h1 : L.all (fun c => isCode c || P c) = true) (h2 : ∀ c ∈ L.filter isCode, P c = true) : L.all P = true := by
  refine List.all_eq_true.mpr fun c hc => ?_
  have h := List.all_eq_true.mp h1 c hc
  rcases Bool.eq_false_or_eq_true (isCode c) with hi | hi
  · exact h2 c (List.mem_filter.mpr ⟨hc, hi⟩)
  · simpa [hi] using h
set_option maxRecDepth 65536 in
theorem w_c0 : (Jvm.Cond.code x code maxLocals ret).before args0 about1 = true := code_word (m := ⟨1, 1⟩) (meth := k1m1) (c := k1c1) (by decide +kernel) rfl rfl rfl (by decide +kernel)
set_option maxRecDepth 65536 in
theorem w_c1 : (Jvm.Cond.code ({ cls := "java/lang/Math", name := "max", desc := "(JJ)J" } : Jvm.MethodName) jdk_29_method_66_code (4 : Nat) (Option.some Jvm.ClassFile.FieldType.long)).before args0 about1 = true := code_word (m := ⟨2, 1⟩) (meth := k2m1) (c := k2c1) (by decide +kernel) rfl rfl rfl (by decide +kernel)
set_option maxRecDepth 65536 in
theorem w_c2 : (Jvm.Cond.code ({ cls := "com/example/thin_feed/thinfeed/model/Post", name := "<init>", desc := "(JJJ)V" } : Jvm.MethodName) prog_8_method_1_code (7 : Nat) (Option.none : Option Jvm.ClassFile.FieldType)).before args0 about1 = true := code_word (m := ⟨3, 0⟩) (meth := k3m0) (c := k3c0) (by decide +kernel) rfl rfl rfl (by decide +kernel)
set_option maxRecDepth 65536 in
theorem w_c3 : (Jvm.Cond.code ({ cls := "java/lang/Object", name := "<init>", desc := "()V" } : Jvm.MethodName) object_method_1_code (1 : Nat) (Option.none : Option Jvm.ClassFile.FieldType)).before args0 about1 = true := code_word (m := ⟨0, 0⟩) (meth := k0m0) (c := k0c0) (by decide +kernel) rfl rfl rfl (by decide +kernel)
set_option maxRecDepth 65536 in
theorem w_c4 : (Jvm.Cond.code ({ cls := "com/example/thin_feed/thinfeed/model/Post", name := "equals", desc := "(Ljava/lang/Object;)Z" } : Jvm.MethodName) prog_8_method_5_code (3 : Nat) (Option.some Jvm.ClassFile.FieldType.boolean)).before args0 about1 = true := code_word (m := ⟨3, 1⟩) (meth := k3m1) (c := k3c1) (by decide +kernel) rfl rfl rfl (by decide +kernel)
set_option maxRecDepth 65536 in
theorem w_c5 : (Jvm.Cond.code ({ cls := "java/lang/Long", name := "valueOf", desc := "(J)Ljava/lang/Long;" } : Jvm.MethodName) jdk_35_method_24_code (3 : Nat) (Option.some (Jvm.ClassFile.FieldType.object "java/lang/Long"))).before args0 about1 = true := code_word (m := ⟨9, 0⟩) (meth := k9m0) (c := k9c0) (by decide +kernel) rfl rfl rfl (by decide +kernel)
set_option maxRecDepth 65536 in
theorem w_c6 : (Jvm.Cond.code ({ cls := "java/lang/Long", name := "<init>", desc := "(J)V" } : Jvm.MethodName) jdk_35_method_26_code (3 : Nat) (Option.none : Option Jvm.ClassFile.FieldType)).before args0 about1 = true := code_word (m := ⟨9, 1⟩) (meth := k9m1) (c := k9c1) (by decide +kernel) rfl rfl rfl (by decide +kernel)
set_option maxRecDepth 65536 in
theorem w_c7 : (Jvm.Cond.code ({ cls := "java/lang/Number", name := "<init>", desc := "()V" } : Jvm.MethodName) jdk_18_method_1_code (1 : Nat) (Option.none : Option Jvm.ClassFile.FieldType)).before args0 about1 = true := code_word (m := ⟨5, 0⟩) (meth := k5m0) (c := k5c0) (by decide +kernel) rfl rfl rfl (by decide +kernel)
def codes1 : List Jvm.Cond := [Jvm.Cond.code x code maxLocals ret, Jvm.Cond.code ({ cls := "java/lang/Math", name := "max", desc := "(JJ)J" } : Jvm.MethodName) jdk_29_method_66_code (4 : Nat) (Option.some Jvm.ClassFile.FieldType.long), Jvm.Cond.code ({ cls := "com/example/thin_feed/thinfeed/model/Post", name := "<init>", desc := "(JJJ)V" } : Jvm.MethodName) prog_8_method_1_code (7 : Nat) (Option.none : Option Jvm.ClassFile.FieldType), Jvm.Cond.code ({ cls := "java/lang/Object", name := "<init>", desc := "()V" } : Jvm.MethodName) object_method_1_code (1 : Nat) (Option.none : Option Jvm.ClassFile.FieldType), Jvm.Cond.code ({ cls := "com/example/thin_feed/thinfeed/model/Post", name := "equals", desc := "(Ljava/lang/Object;)Z" } : Jvm.MethodName) prog_8_method_5_code (3 : Nat) (Option.some Jvm.ClassFile.FieldType.boolean), Jvm.Cond.code ({ cls := "java/lang/Long", name := "valueOf", desc := "(J)Ljava/lang/Long;" } : Jvm.MethodName) jdk_35_method_24_code (3 : Nat) (Option.some (Jvm.ClassFile.FieldType.object "java/lang/Long")), Jvm.Cond.code ({ cls := "java/lang/Long", name := "<init>", desc := "(J)V" } : Jvm.MethodName) jdk_35_method_26_code (3 : Nat) (Option.none : Option Jvm.ClassFile.FieldType), Jvm.Cond.code ({ cls := "java/lang/Number", name := "<init>", desc := "()V" } : Jvm.MethodName) jdk_18_method_1_code (1 : Nat) (Option.none : Option Jvm.ClassFile.FieldType)]
set_option maxRecDepth 65536 in
theorem codes_eq : words1.filter isCode = codes1 := rfl
theorem w_codes : ∀ c ∈ words1.filter isCode, c.before args0 about1 = true := by
  rw [codes_eq]
  intro c hc
  simp only [codes1, List.mem_cons, List.not_mem_nil, or_false] at hc
  rcases hc with rfl | rfl | rfl | rfl | rfl | rfl | rfl | rfl
  · exact w_c0
  · exact w_c1
  · exact w_c2
  · exact w_c3
  · exact w_c4
  · exact w_c5
  · exact w_c6
  · exact w_c7
set_option maxRecDepth 65536 in
theorem w_t1 : (words1.take 24).all (fun c => isCode c || c.before args0 about1) = true := by decide +kernel
set_option maxRecDepth 65536 in
theorem w_t2 : ((words1.drop 24).take 24).all (fun c => isCode c || c.before args0 about1) = true := by decide +kernel
set_option maxRecDepth 65536 in
theorem w_t3 : ((words1.drop 24).drop 24).all (fun c => isCode c || c.before args0 about1) = true := by decide +kernel
theorem w_tables : (allAtoms (Jvm.Cond.code x code maxLocals ret :: tables_1)).before args0 about1 = true := by
  rw [allAtoms_all]
  show words1.all (fun c => c.before args0 about1) = true
  refine all_split ?_ w_codes
  rw [← List.take_append_drop 24 words1, List.all_append, w_t1, ← List.take_append_drop 24 (words1.drop 24), List.all_append, w_t2, w_t3]
  rfl
set_option maxRecDepth 65536 in
theorem w_rest : rest_1_c.before args0 about1 = true := by decide +kernel
set_option maxRecDepth 65536 in
theorem w_case : (Jvm.Cond.and given_1 narrow_1).before args0 about1 = true := by decide +kernel
theorem w_applies : (headSpec (Jvm.Cond.code x code maxLocals ret :: tables_1) room_1).applies x e0.platform about1 = true :=
  (Spec.applies_iff w_frames).mpr ⟨w_running, w_runnable, w_alone, w_named, w_hears, w_ripe, w_room, w_tables⟩
theorem atStart : AtStart classFile x code maxLocals ret World_1 tables_1 room_1 Calls_1 rest_1 Pre_1 launch0 p0 e0 about1 theMethod args0 below0 :=
  ⟨lists_1, trivial, launch0.admits_env _ _ _, launch0.least_env, fairChoices_fair.cas, fairChoices_fair.clock, w_frames, w_args, w_heap, w_applies, trivial, w_rest, w_case⟩
end start1
theorem witness_1 : WitnessClaimed_1 := ⟨start1.p0, start1.e0, start1.about1, start1.theMethod, start1.args0, start1.below0, start1.atStart⟩
end Jvm.Pilot.@@N@@

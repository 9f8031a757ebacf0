import JvmDerived
import JvmDerived.Pilot.@@N@@Statement
import JvmDerived.Pilot.@@N@@Code
set_option linter.unusedVariables false
set_option linter.unusedSimpArgs false
namespace Jvm.RoadKit
open Sem ClassFile Op Lib Jvm.Stand Jvm.Free Jvm.LawKit
section New
variable {p : Program} {l : Launch} {e : Env} {R : Room} {s : State} {m : MethodId} {args : Array Value} {below : List Frame} {meth : Method} {c : Code} {T : State} {locs : List Loc} {cells slots : Nat}
theorem retI (X : Stand p l e R s m args below meth c T locs cells slots) (hx : p.tables.exec = Jvm.exec) {pc : Nat} {Ls : Array Slot} {z : Int32} {rest : List Value} (hret : meth.sig.returnType = some .int) (hd : decode c.code pc = .ok (.ireturn, 1)) {fs : List Frame}
    (hl : ∀ (f : JFrame) (acts : List Action), f.method = m → f.locked = none → f.entered = [] → (doReturn e (T.setTop f) acts (some (.int z))).1 = T.setFrames fs) : Steps p.tables e below (T.setTop (mkF m pc Ls (.int z :: rest))) (T.setFrames fs) := by
  have hm' : T.vm.method? m = some meth := X.method'
  have hn : narrow .int (.int z) = .int z := rfl
  show Steps p.tables e below (T.setTop { method := m, pc := pc, locals := Ls, stack := _ :: rest, locked := none }) _
  jvm_step X.here [X.here.top, hx, hd, hm', hret, hn]
  first | (intro acts; rw [hl _ acts rfl rfl rfl]) | rw [hl _ _ rfl rfl rfl]
  exact Steps.refl _
end New
end Jvm.RoadKit
namespace Jvm.Pilot.@@N@@
open Jvm Jvm.ClassFile Sem Op Lib Jvm.Free Jvm.Stand Jvm.LawKit Jvm.RoadKit Bundle Jvm.Pilot.@@N@@.Jvm.D
theorem own_sta_keep {Z : State} {h h' : Heap} {C n d : String} {v : Value} (F : Sta Z h C n d v) (K : Keep h h' []) : Sta Z h' C n d v := by
  obtain ⟨cf, i, k, f, st, cell, h1, h2, h3, h4, h5, r⟩ := F
  exact ⟨cf, i, k, f, st, cell, h1, h2, h3, h4, K.2.1 _ _ h5 nin0, r⟩
/-- whoever comes from B to t comes from A to t -/
abbrev own_R (p : Program) (e : Env) (below : List Frame) (A B : State) : Prop := ∀ t, Steps p.tables e below B t → Steps p.tables e below A t

section OwnWords
variable {args : Array Value} {s : State} {t : Term}
theorem own_eqi {k : Int32} (h : (Jvm.Cond.eq t (.int k)).value args s none s [] = some true) : t.eval args s none [] s = some (.int k) := by
  simp only [Cond.value, Term.eval] at h
  cases ht : t.eval args s none [] s with
  | none => simp [ht] at h
  | some x => cases x <;> simp [ht] at h ⊢ <;> exact h
theorem own_eql {k : Int64} (h : (Jvm.Cond.eq t (.long k)).value args s none s [] = some true) : t.eval args s none [] s = some (.long k) := by
  simp only [Cond.value, Term.eval] at h
  cases ht : t.eval args s none [] s with
  | none => simp [ht] at h
  | some x => cases x <;> simp [ht] at h ⊢ <;> exact h
theorem own_eqr {u : Term} {x : Addr} (h : (Jvm.Cond.eq t u).value args s none s [] = some true) (hu : u.eval args s none [] s = some (.ref x)) : t.eval args s none [] s = some (.ref x) := by
  simp only [Cond.value, hu] at h
  cases ht : t.eval args s none [] s with
  | none => simp [ht] at h
  | some y => cases y <;> simp [ht] at h ⊢ <;> exact h
theorem own_len {x : Addr} {cl : Cell} {ty : FieldType} {k : Int32} (h : (Jvm.Cond.eq (.length t) (.int k)).value args s none s [] = some true) (ev : t.eval args s none [] s = some (.ref x)) (A : Arr s s.heap x cl ty) : cl.slots.size < 2 ^ 31 ∧ cl.slots.size.toInt32 = k := by
  have h1 := own_eqi h
  have h2 := A.fin (Vm.Alike.refl _)
  simp only [Term.eval, ev, Option.bind_eq_bind, Option.bind_some, h2] at h1
  split at h1
  · rename_i q; exact ⟨q, by simpa using h1⟩
  · cases h1
theorem own_elem {x : Addr} {cl : Cell} {ty : FieldType} {j : Int32} {v : Value} (h : (Term.elem t (.int j)).eval args s none [] s = some v) (ev : t.eval args s none [] s = some (.ref x)) (A : Arr s s.heap x cl ty) : cl.slots[j.toNatClampNeg]? = some v :=
  (elem_in h ev (Term.int_eval j) A.1).2
end OwnWords
def own_max (q0 : Int64) (q1 : Int64) : Int64 := (if q0 < q1 then q1 else q0)
theorem d2_0 : decode jdk_29_method_66_code 0 = .ok (.lload_n 0, 1) := by decide +kernel
theorem d2_1 : decode jdk_29_method_66_code 1 = .ok (.lload_n 2, 1) := by decide +kernel
theorem d2_2 : decode jdk_29_method_66_code 2 = .ok (.lcmp, 1) := by decide +kernel
theorem d2_3 : decode jdk_29_method_66_code 3 = .ok (.ifCond .lt 7, 3) := by decide +kernel
theorem d2_6 : decode jdk_29_method_66_code 6 = .ok (.lload_n 0, 1) := by decide +kernel
theorem d2_7 : decode jdk_29_method_66_code 7 = .ok (.goto 4, 3) := by decide +kernel
theorem d2_10 : decode jdk_29_method_66_code 10 = .ok (.lload_n 2, 1) := by decide +kernel
theorem d2_11 : decode jdk_29_method_66_code 11 = .ok (.lreturn, 1) := by decide +kernel
theorem ef_2 (m : MethodId) (x0 : Int64) (x1 : Int64) : entryFrame m #[(.long x0), (.long x1)] 4 = mkF m 0 #[.val (.long x0), .second, .val (.long x1), .second] [] := by first | (simp [entryFrame, mkF, argsToLocals, Value.category]; done) | rfl
def Q2 (Z : State) (q0 : Int64) (q1 : Int64) (h0 : Heap) (n0 : Nat) (v : Option Value) (h : Heap) (L : List Loc) : Prop := v = some (.long (own_max q0 q1)) ∧ Fr n0 L ∧ h = h0
set_option maxRecDepth 65536 in
set_option maxHeartbeats 40000000 in
theorem rm2 (l : Launch) (Z : State) (a0 : Array Value) (hw : ∀ d ∈ tables_1, d.before a0 Z = true) (ws : List Jvm.Cond) (q0 : Int64) (q1 : Int64) (h0 : Heap) (n0 : Nat) (Z0 : n0 ≤ h0.size) :
    MetFree l (⟨"java/lang/Math", "max", "(JJ)J"⟩ : MethodName) (head1 (Jvm.Cond.code (⟨"java/lang/Math", "max", "(JJ)J"⟩ : MethodName) jdk_29_method_66_code 4 (some .long) :: ws) ({ frames := 0, cells := 0, slots := 0, locals := 0 } : Room)) (fun a U => a = #[(.long q0), (.long q1)] ∧ Z.Warmed39 U.vm ∧ U.heap = h0) (fun _ _ _ _ _ => True) (fun _ U o U' => ∃ v L, o = .returned v ∧ Q2 Z q0 q1 h0 n0 v U'.heap L ∧ FrameEnd U o U' L ({ frames := 0, cells := 0, slots := 0, locals := 0 } : Room).cells ({ frames := 0, cells := 0, slots := 0, locals := 0 } : Room).slots) := by
  refine MetFree.of_bodySF (Jvm.Free.JP.mathPlain rfl (by decide +kernel)) hisR ?_
  intro p e s m args below meth c s₁ Bd hml0 hP hK
  obtain ⟨rfl, hZ, hh⟩ := hP
  have hx := Bd.exec
  have hby := Bd.bytes
  have hml : c.maxLocals = 4 := hml0
  have hown : s.vm.findClass "java/lang/Math" = some m.cls := findClass_of_methodNamed Bd.named
  have hnm := (name_of_methodNamed Bd.named Bd.method).1
  have X0 : Stand p l e ({ frames := 0, cells := 0, slots := 0, locals := 0 } : Room) s m #[(.long q0), (.long q1)] below meth c s₁ [] 0 0 := Stand.of_body Bd
  have e0 : s₁.heap = h0 := by rw [← hh, Bd.state]; rfl
  have N0 := Fr.nil n0
  have k0 : own_R p e below (s₁.setTop (entryFrame m #[(.long q0), (.long q1)] 4)) (s₁.setTop (mkF m 0 #[.val (.long q0), .second, .val (.long q1), .second] [])) := fun t k => castTop (ef_2 m q0 q1) k
  have ks1 : own_R p e below (s₁.setTop (entryFrame m #[(.long q0), (.long q1)] 4)) (s₁.setTop (mkF m 3 #[.val (.long q0), .second, .val (.long q1), .second] [(.int (lcmpW q0 q1))])) := fun t k => k0 t (by
    show Steps p.tables e below (s₁.setTop (mkF m 0 #[.val (.long q0), .second, .val (.long q1), .second] [])) _
    refine XS.lloadN X0.here hx rfl (hb hby d2_0) rfl ?_
    show Steps p.tables e below (s₁.setTop (mkF m 1 #[.val (.long q0), .second, .val (.long q1), .second] [(.long q0)])) _
    refine XS.lloadN X0.here hx rfl (hb hby d2_1) rfl ?_
    show Steps p.tables e below (s₁.setTop (mkF m 2 #[.val (.long q0), .second, .val (.long q1), .second] [(.long q1), (.long q0)])) _
    refine XS.lcmp X0.here hx rfl (hb hby d2_2) rfl ?_
    exact k)
  by_cases hc2 : q0 < q1
  · skip
    have ks3 : own_R p e below (s₁.setTop (entryFrame m #[(.long q0), (.long q1)] 4)) (s₁.setTop (mkF m 11 #[.val (.long q0), .second, .val (.long q1), .second] [(.long q1)])) := fun t k => ks1 t (by
      show Steps p.tables e below (s₁.setTop (mkF m 3 #[.val (.long q0), .second, .val (.long q1), .second] [(.int (lcmpW q0 q1))])) _
      refine XS.ifYes X0.here hx rfl (pc0 := 3) (pc' := 10) rfl (hb hby d2_3) rfl ((if0 _ _).trans (tlt ((lw_lt _ _).mpr hc2)).1) (by decide) (by decide) ?_
      show Steps p.tables e below (s₁.setTop (mkF m 10 #[.val (.long q0), .second, .val (.long q1), .second] [])) _
      refine XS.lloadN X0.here hx rfl (hb hby d2_10) rfl ?_
      exact k)
    obtain ⟨fs, hr, hrun, hended, hW, hsame⟩ := X0.leave (v := some (.long q1)) (fun h => by rw [Bd.returns] at h; cases h)
    refine ⟨_, _, ks3 _ ?_, hrun, hended, _, _, rfl, ?_, ⟨_, rfl⟩, hW, hsame.mono (by decide) (by decide)⟩
    · exact retOut X0 hx Bd.returns rfl (Or.inr (Or.inl ⟨rfl, rfl, _, rfl⟩)) (hb hby d2_11) hr
    · show Q2 Z q0 q1 h0 n0 _ s₁.heap _
      rw [e0]
      refine ⟨?_, N0, rfl⟩
      rw [own_max, if_pos hc2]
  · skip
    have ks4 : own_R p e below (s₁.setTop (entryFrame m #[(.long q0), (.long q1)] 4)) (s₁.setTop (mkF m 11 #[.val (.long q0), .second, .val (.long q1), .second] [(.long q0)])) := fun t k => ks1 t (by
      show Steps p.tables e below (s₁.setTop (mkF m 3 #[.val (.long q0), .second, .val (.long q1), .second] [(.int (lcmpW q0 q1))])) _
      refine XS.ifNo X0.here hx rfl (hb hby d2_3) rfl ((if0 _ _).trans (flt (fun q => hc2 ((lw_lt _ _).mp q))).1) ?_
      show Steps p.tables e below (s₁.setTop (mkF m 6 #[.val (.long q0), .second, .val (.long q1), .second] [])) _
      refine XS.lloadN X0.here hx rfl (hb hby d2_6) rfl ?_
      show Steps p.tables e below (s₁.setTop (mkF m 7 #[.val (.long q0), .second, .val (.long q1), .second] [(.long q0)])) _
      refine XS.goto X0.here hx rfl (pc0 := 7) (pc' := 11) rfl (hb hby d2_7) (by decide) (by decide) ?_
      exact k)
    obtain ⟨fs, hr, hrun, hended, hW, hsame⟩ := X0.leave (v := some (.long q0)) (fun h => by rw [Bd.returns] at h; cases h)
    refine ⟨_, _, ks4 _ ?_, hrun, hended, _, _, rfl, ?_, ⟨_, rfl⟩, hW, hsame.mono (by decide) (by decide)⟩
    · exact retOut X0 hx Bd.returns rfl (Or.inr (Or.inl ⟨rfl, rfl, _, rfl⟩)) (hb hby d2_11) hr
    · show Q2 Z q0 q1 h0 n0 _ s₁.heap _
      rw [e0]
      refine ⟨?_, N0, rfl⟩
      rw [own_max, if_neg hc2]
def own_holds (r0 : Addr) (q1 q2 : Int64) (u1 : Addr) : Int32 := if r0 = u1 then (if (100 : Int64) * q1 < q2 then (0 : Int32) else (if q2 < (2 : Int64) * q1 then (0 : Int32) else (1 : Int32))) else (if (100 : Int64) * q1 < q2 then (if (1000 : Int64) * q1 < q2 then (0 : Int32) else (1 : Int32)) else (0 : Int32))
theorem d1_0 : decode prog_13_method_5_code 0 = .ok (.aload_n 0, 1) := by decide +kernel
theorem d1_1 : decode prog_13_method_5_code 1 = .ok (.getstatic 3, 3) := by decide +kernel
theorem d1_4 : decode prog_13_method_5_code 4 = .ok (.if_acmp .ne 33, 3) := by decide +kernel
theorem d1_7 : decode prog_13_method_5_code 7 = .ok (.ldc2_w 33, 3) := by decide +kernel
theorem d1_10 : decode prog_13_method_5_code 10 = .ok (.lload_n 1, 1) := by decide +kernel
theorem d1_11 : decode prog_13_method_5_code 11 = .ok (.lmul, 1) := by decide +kernel
theorem d1_12 : decode prog_13_method_5_code 12 = .ok (.lload_n 3, 1) := by decide +kernel
theorem d1_13 : decode prog_13_method_5_code 13 = .ok (.lcmp, 1) := by decide +kernel
theorem d1_14 : decode prog_13_method_5_code 14 = .ok (.ifCond .lt 17, 3) := by decide +kernel
theorem d1_17 : decode prog_13_method_5_code 17 = .ok (.ldc2_w 35, 3) := by decide +kernel
theorem d1_20 : decode prog_13_method_5_code 20 = .ok (.lload_n 1, 1) := by decide +kernel
theorem d1_21 : decode prog_13_method_5_code 21 = .ok (.lmul, 1) := by decide +kernel
theorem d1_22 : decode prog_13_method_5_code 22 = .ok (.lload_n 3, 1) := by decide +kernel
theorem d1_23 : decode prog_13_method_5_code 23 = .ok (.lcmp, 1) := by decide +kernel
theorem d1_24 : decode prog_13_method_5_code 24 = .ok (.ifCond .gt 7, 3) := by decide +kernel
theorem d1_27 : decode prog_13_method_5_code 27 = .ok (.iconst 1, 1) := by decide +kernel
theorem d1_28 : decode prog_13_method_5_code 28 = .ok (.goto 4, 3) := by decide +kernel
theorem d1_31 : decode prog_13_method_5_code 31 = .ok (.iconst 0, 1) := by decide +kernel
theorem d1_32 : decode prog_13_method_5_code 32 = .ok (.istore 5, 2) := by decide +kernel
theorem d1_34 : decode prog_13_method_5_code 34 = .ok (.goto 30, 3) := by decide +kernel
theorem d1_37 : decode prog_13_method_5_code 37 = .ok (.ldc2_w 33, 3) := by decide +kernel
theorem d1_40 : decode prog_13_method_5_code 40 = .ok (.lload_n 1, 1) := by decide +kernel
theorem d1_41 : decode prog_13_method_5_code 41 = .ok (.lmul, 1) := by decide +kernel
theorem d1_42 : decode prog_13_method_5_code 42 = .ok (.lload_n 3, 1) := by decide +kernel
theorem d1_43 : decode prog_13_method_5_code 43 = .ok (.lcmp, 1) := by decide +kernel
theorem d1_44 : decode prog_13_method_5_code 44 = .ok (.ifCond .ge 17, 3) := by decide +kernel
theorem d1_47 : decode prog_13_method_5_code 47 = .ok (.ldc2_w 37, 3) := by decide +kernel
theorem d1_50 : decode prog_13_method_5_code 50 = .ok (.lload_n 1, 1) := by decide +kernel
theorem d1_51 : decode prog_13_method_5_code 51 = .ok (.lmul, 1) := by decide +kernel
theorem d1_52 : decode prog_13_method_5_code 52 = .ok (.lload_n 3, 1) := by decide +kernel
theorem d1_53 : decode prog_13_method_5_code 53 = .ok (.lcmp, 1) := by decide +kernel
theorem d1_54 : decode prog_13_method_5_code 54 = .ok (.ifCond .lt 7, 3) := by decide +kernel
theorem d1_57 : decode prog_13_method_5_code 57 = .ok (.iconst 1, 1) := by decide +kernel
theorem d1_58 : decode prog_13_method_5_code 58 = .ok (.goto 4, 3) := by decide +kernel
theorem d1_61 : decode prog_13_method_5_code 61 = .ok (.iconst 0, 1) := by decide +kernel
theorem d1_62 : decode prog_13_method_5_code 62 = .ok (.istore 5, 2) := by decide +kernel
theorem d1_64 : decode prog_13_method_5_code 64 = .ok (.iload 5, 2) := by decide +kernel
theorem d1_66 : decode prog_13_method_5_code 66 = .ok (.ireturn, 1) := by decide +kernel
theorem pn_1 : plainName "com/example/carved_corpus/carvedcorpus/cli/QuestionPicker$Size" = true := by first | (simp [plainName, overriddenIn]; done) | decide +kernel
theorem ef_1 (m : MethodId) (x0 : Addr) (x1 : Int64) (x2 : Int64) : entryFrame m #[(.ref x0), (.long x1), (.long x2)] 6 = mkF m 0 #[.val (.ref x0), .val (.long x1), .second, .val (.long x2), .second, .unset] [] := by first | (simp [entryFrame, mkF, argsToLocals, Value.category]; done) | rfl
def Q1 (Z : State) (r0 : Addr) (q1 : Int64) (q2 : Int64) (u1 : Addr) (h0 : Heap) (n0 : Nat) (v : Option Value) (h : Heap) (L : List Loc) : Prop := v = some (.int (own_holds r0 q1 q2 u1)) ∧ Fr n0 L ∧ h = h0
set_option maxRecDepth 65536 in
set_option maxHeartbeats 40000000 in
theorem rm1 (l : Launch) (Z : State) (a0 : Array Value) (hw : ∀ d ∈ tables_1, d.before a0 Z = true) (ws : List Jvm.Cond) (r0 : Addr) (q1 : Int64) (q2 : Int64) (u1 : Addr) (h0 : Heap) (n0 : Nat) (Z0 : n0 ≤ h0.size) (S1 : Sta Z h0 "com/example/carved_corpus/carvedcorpus/cli/QuestionPicker$Size" "LARGE" "Lcom/example/carved_corpus/carvedcorpus/cli/QuestionPicker$Size;" (.ref u1)) :
    MetFree l (⟨"com/example/carved_corpus/carvedcorpus/cli/QuestionPicker$Size", "holds", "(JJ)Z"⟩ : MethodName) (head1 (Jvm.Cond.code (⟨"com/example/carved_corpus/carvedcorpus/cli/QuestionPicker$Size", "holds", "(JJ)Z"⟩ : MethodName) prog_13_method_5_code 6 (some .boolean) :: ws) ({ frames := 0, cells := 0, slots := 0, locals := 0 } : Room)) (fun a U => a = #[(.ref r0), (.long q1), (.long q2)] ∧ Z.Warmed39 U.vm ∧ U.heap = h0) (fun _ _ _ _ _ => True) (fun _ U o U' => ∃ v L, o = .returned v ∧ Q1 Z r0 q1 q2 u1 h0 n0 v U'.heap L ∧ FrameEnd U o U' L ({ frames := 0, cells := 0, slots := 0, locals := 0 } : Room).cells ({ frames := 0, cells := 0, slots := 0, locals := 0 } : Room).slots) := by
  refine MetFree.of_bodySF (plainFor_of_name pn_1) hisR ?_
  intro p e s m args below meth c s₁ Bd hml0 hP hK
  obtain ⟨rfl, hZ, hh⟩ := hP
  have hx := Bd.exec
  have hby := Bd.bytes
  have hml : c.maxLocals = 6 := hml0
  have hown : s.vm.findClass "com/example/carved_corpus/carvedcorpus/cli/QuestionPicker$Size" = some m.cls := findClass_of_methodNamed Bd.named
  have hnm := (name_of_methodNamed Bd.named Bd.method).1
  have X0 : Stand p l e ({ frames := 0, cells := 0, slots := 0, locals := 0 } : Room) s m #[(.ref r0), (.long q1), (.long q2)] below meth c s₁ [] 0 0 := Stand.of_body Bd
  have e0 : s₁.heap = h0 := by rw [← hh, Bd.state]; rfl
  have N0 := Fr.nil n0
  have k0 : own_R p e below (s₁.setTop (entryFrame m #[(.ref r0), (.long q1), (.long q2)] 6)) (s₁.setTop (mkF m 0 #[.val (.ref r0), .val (.long q1), .second, .val (.long q2), .second, .unset] [])) := fun t k => castTop (ef_1 m r0 q1 q2) k
  have ks1 : own_R p e below (s₁.setTop (entryFrame m #[(.ref r0), (.long q1), (.long q2)] 6)) (s₁.setTop (mkF m 1 #[.val (.ref r0), .val (.long q1), .second, .val (.long q2), .second, .unset] [(.ref r0)])) := fun t k => k0 t (by
    show Steps p.tables e below (s₁.setTop (mkF m 0 #[.val (.ref r0), .val (.long q1), .second, .val (.long q2), .second, .unset] [])) _
    refine XS.aloadN X0.here hx rfl (hb hby d1_0) rfl rfl ?_
    exact k)
  obtain ⟨T2, X2, e2, st2⟩ := getS2 X0 hx hZ hown (host := "") (Or.inl (hw _ (List.mem_of_getElem? (i := 9) rfl))) Via.refl e0 S1 (g := (mkF m 1 #[.val (.ref r0), .val (.long q1), .second, .val (.long q2), .second, .unset] [(.ref r0)])) rfl (hb hby d1_1)
  have ks3 : own_R p e below (s₁.setTop (entryFrame m #[(.ref r0), (.long q1), (.long q2)] 6)) (T2.setTop (mkF m 4 #[.val (.ref r0), .val (.long q1), .second, .val (.long q2), .second, .unset] [(.ref u1), (.ref r0)])) := fun t k => ks1 t (st2 t k)
  by_cases hc4 : r0 = u1
  · skip
    have ks5 : own_R p e below (s₁.setTop (entryFrame m #[(.ref r0), (.long q1), (.long q2)] 6)) (T2.setTop (mkF m 14 #[.val (.ref r0), .val (.long q1), .second, .val (.long q2), .second, .unset] [(.int (lcmpW ((100 : Int64) * q1) q2))])) := fun t k => ks3 t (by
      show Steps p.tables e below (T2.setTop (mkF m 4 #[.val (.ref r0), .val (.long q1), .second, .val (.long q2), .second, .unset] [(.ref u1), (.ref r0)])) _
      refine Jvm.RoadKit.acmp (g := (mkF m 4 #[.val (.ref r0), .val (.long q1), .second, .val (.long q2), .second, .unset] [(.ref u1), (.ref r0)])) X2 hx rfl rfl rfl (pc0 := 4) (pc' := 7) (same := true) rfl (hb hby d1_4) rfl (decide_eq_true (congrArg Value.ref hc4)) (by decide) (by decide) ?_
      show Steps p.tables e below (T2.setTop (mkF m 7 #[.val (.ref r0), .val (.long q1), .second, .val (.long q2), .second, .unset] [])) _
      refine X2.ldc2Long hx hown (mvT hZ (hw _ (List.mem_of_getElem? (i := 11) rfl))) (g := (mkF m 7 #[.val (.ref r0), .val (.long q1), .second, .val (.long q2), .second, .unset] [])) rfl (hb hby d1_7) _ ?_
      show Steps p.tables e below (T2.setTop (mkF m 10 #[.val (.ref r0), .val (.long q1), .second, .val (.long q2), .second, .unset] [(.long (100 : Int64))])) _
      refine XS.lloadN X2.here hx rfl (hb hby d1_10) rfl ?_
      show Steps p.tables e below (T2.setTop (mkF m 11 #[.val (.ref r0), .val (.long q1), .second, .val (.long q2), .second, .unset] [(.long q1), (.long (100 : Int64))])) _
      refine XS.lmul X2.here hx rfl (hb hby d1_11) rfl ?_
      show Steps p.tables e below (T2.setTop (mkF m 12 #[.val (.ref r0), .val (.long q1), .second, .val (.long q2), .second, .unset] [(.long ((100 : Int64) * q1))])) _
      refine XS.lloadN X2.here hx rfl (hb hby d1_12) rfl ?_
      show Steps p.tables e below (T2.setTop (mkF m 13 #[.val (.ref r0), .val (.long q1), .second, .val (.long q2), .second, .unset] [(.long q2), (.long ((100 : Int64) * q1))])) _
      refine XS.lcmp X2.here hx rfl (hb hby d1_13) rfl ?_
      exact k)
    by_cases hc6 : ((100 : Int64) * q1) < q2
    · skip
      have ks7 : own_R p e below (s₁.setTop (entryFrame m #[(.ref r0), (.long q1), (.long q2)] 6)) (T2.setTop (mkF m 66 #[.val (.ref r0), .val (.long q1), .second, .val (.long q2), .second, .val (.int (0 : Int32))] [(.int (0 : Int32))])) := fun t k => ks5 t (by
        show Steps p.tables e below (T2.setTop (mkF m 14 #[.val (.ref r0), .val (.long q1), .second, .val (.long q2), .second, .unset] [(.int (lcmpW ((100 : Int64) * q1) q2))])) _
        refine XS.ifYes X2.here hx rfl (pc0 := 14) (pc' := 31) rfl (hb hby d1_14) rfl ((if0 _ _).trans (tlt ((lw_lt _ _).mpr hc6)).1) (by decide) (by decide) ?_
        show Steps p.tables e below (T2.setTop (mkF m 31 #[.val (.ref r0), .val (.long q1), .second, .val (.long q2), .second, .unset] [])) _
        refine XS.iconst X2.here hx rfl (hb hby d1_31) ?_
        show Steps p.tables e below (T2.setTop (mkF m 32 #[.val (.ref r0), .val (.long q1), .second, .val (.long q2), .second, .unset] [(.int (0 : Int32))])) _
        refine XS.istore X2.here hx rfl (hb hby d1_32) rfl (l' := #[.val (.ref r0), .val (.long q1), .second, .val (.long q2), .second, .val (.int (0 : Int32))]) rfl ?_
        show Steps p.tables e below (T2.setTop (mkF m 34 #[.val (.ref r0), .val (.long q1), .second, .val (.long q2), .second, .val (.int (0 : Int32))] [])) _
        refine XS.goto X2.here hx rfl (pc0 := 34) (pc' := 64) rfl (hb hby d1_34) (by decide) (by decide) ?_
        show Steps p.tables e below (T2.setTop (mkF m 64 #[.val (.ref r0), .val (.long q1), .second, .val (.long q2), .second, .val (.int (0 : Int32))] [])) _
        refine XS.iload X2.here hx rfl (hb hby d1_64) rfl ?_
        exact k)
      obtain ⟨fs, hr, hrun, hended, hW, hsame⟩ := X2.leave (v := some (.int (0 : Int32))) (fun h => by rw [Bd.returns] at h; cases h)
      refine ⟨_, _, ks7 _ ?_, hrun, hended, _, _, rfl, ?_, ⟨_, rfl⟩, hW, hsame.mono (by decide) (by decide)⟩
      · exact retN X2 hx (t := .boolean) Bd.returns (by simp) (hb hby d1_66) hr
      · show Q1 Z r0 q1 q2 u1 h0 n0 _ T2.heap _
        rw [e2]
        refine ⟨?_, N0, rfl⟩
        rw [own_holds, if_pos hc4, if_pos hc6]
    · skip
      have ks8 : own_R p e below (s₁.setTop (entryFrame m #[(.ref r0), (.long q1), (.long q2)] 6)) (T2.setTop (mkF m 24 #[.val (.ref r0), .val (.long q1), .second, .val (.long q2), .second, .unset] [(.int (lcmpW ((2 : Int64) * q1) q2))])) := fun t k => ks5 t (by
        show Steps p.tables e below (T2.setTop (mkF m 14 #[.val (.ref r0), .val (.long q1), .second, .val (.long q2), .second, .unset] [(.int (lcmpW ((100 : Int64) * q1) q2))])) _
        refine XS.ifNo X2.here hx rfl (hb hby d1_14) rfl ((if0 _ _).trans (flt (fun q => hc6 ((lw_lt _ _).mp q))).1) ?_
        show Steps p.tables e below (T2.setTop (mkF m 17 #[.val (.ref r0), .val (.long q1), .second, .val (.long q2), .second, .unset] [])) _
        refine X2.ldc2Long hx hown (mvT hZ (hw _ (List.mem_of_getElem? (i := 23) rfl))) (g := (mkF m 17 #[.val (.ref r0), .val (.long q1), .second, .val (.long q2), .second, .unset] [])) rfl (hb hby d1_17) _ ?_
        show Steps p.tables e below (T2.setTop (mkF m 20 #[.val (.ref r0), .val (.long q1), .second, .val (.long q2), .second, .unset] [(.long (2 : Int64))])) _
        refine XS.lloadN X2.here hx rfl (hb hby d1_20) rfl ?_
        show Steps p.tables e below (T2.setTop (mkF m 21 #[.val (.ref r0), .val (.long q1), .second, .val (.long q2), .second, .unset] [(.long q1), (.long (2 : Int64))])) _
        refine XS.lmul X2.here hx rfl (hb hby d1_21) rfl ?_
        show Steps p.tables e below (T2.setTop (mkF m 22 #[.val (.ref r0), .val (.long q1), .second, .val (.long q2), .second, .unset] [(.long ((2 : Int64) * q1))])) _
        refine XS.lloadN X2.here hx rfl (hb hby d1_22) rfl ?_
        show Steps p.tables e below (T2.setTop (mkF m 23 #[.val (.ref r0), .val (.long q1), .second, .val (.long q2), .second, .unset] [(.long q2), (.long ((2 : Int64) * q1))])) _
        refine XS.lcmp X2.here hx rfl (hb hby d1_23) rfl ?_
        exact k)
      by_cases hc9 : q2 < ((2 : Int64) * q1)
      · skip
        have ks10 : own_R p e below (s₁.setTop (entryFrame m #[(.ref r0), (.long q1), (.long q2)] 6)) (T2.setTop (mkF m 66 #[.val (.ref r0), .val (.long q1), .second, .val (.long q2), .second, .val (.int (0 : Int32))] [(.int (0 : Int32))])) := fun t k => ks8 t (by
          show Steps p.tables e below (T2.setTop (mkF m 24 #[.val (.ref r0), .val (.long q1), .second, .val (.long q2), .second, .unset] [(.int (lcmpW ((2 : Int64) * q1) q2))])) _
          refine XS.ifYes X2.here hx rfl (pc0 := 24) (pc' := 31) rfl (hb hby d1_24) rfl ((if0 _ _).trans (tlt ((lw_gt _ _).mpr hc9)).2.2.1) (by decide) (by decide) ?_
          show Steps p.tables e below (T2.setTop (mkF m 31 #[.val (.ref r0), .val (.long q1), .second, .val (.long q2), .second, .unset] [])) _
          refine XS.iconst X2.here hx rfl (hb hby d1_31) ?_
          show Steps p.tables e below (T2.setTop (mkF m 32 #[.val (.ref r0), .val (.long q1), .second, .val (.long q2), .second, .unset] [(.int (0 : Int32))])) _
          refine XS.istore X2.here hx rfl (hb hby d1_32) rfl (l' := #[.val (.ref r0), .val (.long q1), .second, .val (.long q2), .second, .val (.int (0 : Int32))]) rfl ?_
          show Steps p.tables e below (T2.setTop (mkF m 34 #[.val (.ref r0), .val (.long q1), .second, .val (.long q2), .second, .val (.int (0 : Int32))] [])) _
          refine XS.goto X2.here hx rfl (pc0 := 34) (pc' := 64) rfl (hb hby d1_34) (by decide) (by decide) ?_
          show Steps p.tables e below (T2.setTop (mkF m 64 #[.val (.ref r0), .val (.long q1), .second, .val (.long q2), .second, .val (.int (0 : Int32))] [])) _
          refine XS.iload X2.here hx rfl (hb hby d1_64) rfl ?_
          exact k)
        obtain ⟨fs, hr, hrun, hended, hW, hsame⟩ := X2.leave (v := some (.int (0 : Int32))) (fun h => by rw [Bd.returns] at h; cases h)
        refine ⟨_, _, ks10 _ ?_, hrun, hended, _, _, rfl, ?_, ⟨_, rfl⟩, hW, hsame.mono (by decide) (by decide)⟩
        · exact retN X2 hx (t := .boolean) Bd.returns (by simp) (hb hby d1_66) hr
        · show Q1 Z r0 q1 q2 u1 h0 n0 _ T2.heap _
          rw [e2]
          refine ⟨?_, N0, rfl⟩
          rw [own_holds, if_pos hc4, if_neg hc6, if_pos hc9]
      · skip
        have ks11 : own_R p e below (s₁.setTop (entryFrame m #[(.ref r0), (.long q1), (.long q2)] 6)) (T2.setTop (mkF m 66 #[.val (.ref r0), .val (.long q1), .second, .val (.long q2), .second, .val (.int (1 : Int32))] [(.int (1 : Int32))])) := fun t k => ks8 t (by
          show Steps p.tables e below (T2.setTop (mkF m 24 #[.val (.ref r0), .val (.long q1), .second, .val (.long q2), .second, .unset] [(.int (lcmpW ((2 : Int64) * q1) q2))])) _
          refine XS.ifNo X2.here hx rfl (hb hby d1_24) rfl ((if0 _ _).trans (flt (fun q => hc9 ((lw_gt _ _).mp q))).2.2.1) ?_
          show Steps p.tables e below (T2.setTop (mkF m 27 #[.val (.ref r0), .val (.long q1), .second, .val (.long q2), .second, .unset] [])) _
          refine XS.iconst X2.here hx rfl (hb hby d1_27) ?_
          show Steps p.tables e below (T2.setTop (mkF m 28 #[.val (.ref r0), .val (.long q1), .second, .val (.long q2), .second, .unset] [(.int (1 : Int32))])) _
          refine XS.goto X2.here hx rfl (pc0 := 28) (pc' := 32) rfl (hb hby d1_28) (by decide) (by decide) ?_
          show Steps p.tables e below (T2.setTop (mkF m 32 #[.val (.ref r0), .val (.long q1), .second, .val (.long q2), .second, .unset] [(.int (1 : Int32))])) _
          refine XS.istore X2.here hx rfl (hb hby d1_32) rfl (l' := #[.val (.ref r0), .val (.long q1), .second, .val (.long q2), .second, .val (.int (1 : Int32))]) rfl ?_
          show Steps p.tables e below (T2.setTop (mkF m 34 #[.val (.ref r0), .val (.long q1), .second, .val (.long q2), .second, .val (.int (1 : Int32))] [])) _
          refine XS.goto X2.here hx rfl (pc0 := 34) (pc' := 64) rfl (hb hby d1_34) (by decide) (by decide) ?_
          show Steps p.tables e below (T2.setTop (mkF m 64 #[.val (.ref r0), .val (.long q1), .second, .val (.long q2), .second, .val (.int (1 : Int32))] [])) _
          refine XS.iload X2.here hx rfl (hb hby d1_64) rfl ?_
          exact k)
        obtain ⟨fs, hr, hrun, hended, hW, hsame⟩ := X2.leave (v := some (.int (1 : Int32))) (fun h => by rw [Bd.returns] at h; cases h)
        refine ⟨_, _, ks11 _ ?_, hrun, hended, _, _, rfl, ?_, ⟨_, rfl⟩, hW, hsame.mono (by decide) (by decide)⟩
        · exact retN X2 hx (t := .boolean) Bd.returns (by simp) (hb hby d1_66) hr
        · show Q1 Z r0 q1 q2 u1 h0 n0 _ T2.heap _
          rw [e2]
          refine ⟨?_, N0, rfl⟩
          rw [own_holds, if_pos hc4, if_neg hc6, if_neg hc9]
  · skip
    have ks12 : own_R p e below (s₁.setTop (entryFrame m #[(.ref r0), (.long q1), (.long q2)] 6)) (T2.setTop (mkF m 44 #[.val (.ref r0), .val (.long q1), .second, .val (.long q2), .second, .unset] [(.int (lcmpW ((100 : Int64) * q1) q2))])) := fun t k => ks3 t (by
      show Steps p.tables e below (T2.setTop (mkF m 4 #[.val (.ref r0), .val (.long q1), .second, .val (.long q2), .second, .unset] [(.ref u1), (.ref r0)])) _
      refine Jvm.RoadKit.acmp (g := (mkF m 4 #[.val (.ref r0), .val (.long q1), .second, .val (.long q2), .second, .unset] [(.ref u1), (.ref r0)])) X2 hx rfl rfl rfl (pc0 := 4) (pc' := 37) (same := false) rfl (hb hby d1_4) rfl (decide_eq_false fun q => hc4 (Value.ref.inj q)) (by decide) (by decide) ?_
      show Steps p.tables e below (T2.setTop (mkF m 37 #[.val (.ref r0), .val (.long q1), .second, .val (.long q2), .second, .unset] [])) _
      refine X2.ldc2Long hx hown (mvT hZ (hw _ (List.mem_of_getElem? (i := 11) rfl))) (g := (mkF m 37 #[.val (.ref r0), .val (.long q1), .second, .val (.long q2), .second, .unset] [])) rfl (hb hby d1_37) _ ?_
      show Steps p.tables e below (T2.setTop (mkF m 40 #[.val (.ref r0), .val (.long q1), .second, .val (.long q2), .second, .unset] [(.long (100 : Int64))])) _
      refine XS.lloadN X2.here hx rfl (hb hby d1_40) rfl ?_
      show Steps p.tables e below (T2.setTop (mkF m 41 #[.val (.ref r0), .val (.long q1), .second, .val (.long q2), .second, .unset] [(.long q1), (.long (100 : Int64))])) _
      refine XS.lmul X2.here hx rfl (hb hby d1_41) rfl ?_
      show Steps p.tables e below (T2.setTop (mkF m 42 #[.val (.ref r0), .val (.long q1), .second, .val (.long q2), .second, .unset] [(.long ((100 : Int64) * q1))])) _
      refine XS.lloadN X2.here hx rfl (hb hby d1_42) rfl ?_
      show Steps p.tables e below (T2.setTop (mkF m 43 #[.val (.ref r0), .val (.long q1), .second, .val (.long q2), .second, .unset] [(.long q2), (.long ((100 : Int64) * q1))])) _
      refine XS.lcmp X2.here hx rfl (hb hby d1_43) rfl ?_
      exact k)
    by_cases hc13 : ((100 : Int64) * q1) < q2
    · skip
      have ks14 : own_R p e below (s₁.setTop (entryFrame m #[(.ref r0), (.long q1), (.long q2)] 6)) (T2.setTop (mkF m 54 #[.val (.ref r0), .val (.long q1), .second, .val (.long q2), .second, .unset] [(.int (lcmpW ((1000 : Int64) * q1) q2))])) := fun t k => ks12 t (by
        show Steps p.tables e below (T2.setTop (mkF m 44 #[.val (.ref r0), .val (.long q1), .second, .val (.long q2), .second, .unset] [(.int (lcmpW ((100 : Int64) * q1) q2))])) _
        refine XS.ifNo X2.here hx rfl (hb hby d1_44) rfl ((if0 _ _).trans (tlt ((lw_lt _ _).mpr hc13)).2.1) ?_
        show Steps p.tables e below (T2.setTop (mkF m 47 #[.val (.ref r0), .val (.long q1), .second, .val (.long q2), .second, .unset] [])) _
        refine X2.ldc2Long hx hown (mvT hZ (hw _ (List.mem_of_getElem? (i := 24) rfl))) (g := (mkF m 47 #[.val (.ref r0), .val (.long q1), .second, .val (.long q2), .second, .unset] [])) rfl (hb hby d1_47) _ ?_
        show Steps p.tables e below (T2.setTop (mkF m 50 #[.val (.ref r0), .val (.long q1), .second, .val (.long q2), .second, .unset] [(.long (1000 : Int64))])) _
        refine XS.lloadN X2.here hx rfl (hb hby d1_50) rfl ?_
        show Steps p.tables e below (T2.setTop (mkF m 51 #[.val (.ref r0), .val (.long q1), .second, .val (.long q2), .second, .unset] [(.long q1), (.long (1000 : Int64))])) _
        refine XS.lmul X2.here hx rfl (hb hby d1_51) rfl ?_
        show Steps p.tables e below (T2.setTop (mkF m 52 #[.val (.ref r0), .val (.long q1), .second, .val (.long q2), .second, .unset] [(.long ((1000 : Int64) * q1))])) _
        refine XS.lloadN X2.here hx rfl (hb hby d1_52) rfl ?_
        show Steps p.tables e below (T2.setTop (mkF m 53 #[.val (.ref r0), .val (.long q1), .second, .val (.long q2), .second, .unset] [(.long q2), (.long ((1000 : Int64) * q1))])) _
        refine XS.lcmp X2.here hx rfl (hb hby d1_53) rfl ?_
        exact k)
      by_cases hc15 : ((1000 : Int64) * q1) < q2
      · skip
        have ks16 : own_R p e below (s₁.setTop (entryFrame m #[(.ref r0), (.long q1), (.long q2)] 6)) (T2.setTop (mkF m 66 #[.val (.ref r0), .val (.long q1), .second, .val (.long q2), .second, .val (.int (0 : Int32))] [(.int (0 : Int32))])) := fun t k => ks14 t (by
          show Steps p.tables e below (T2.setTop (mkF m 54 #[.val (.ref r0), .val (.long q1), .second, .val (.long q2), .second, .unset] [(.int (lcmpW ((1000 : Int64) * q1) q2))])) _
          refine XS.ifYes X2.here hx rfl (pc0 := 54) (pc' := 61) rfl (hb hby d1_54) rfl ((if0 _ _).trans (tlt ((lw_lt _ _).mpr hc15)).1) (by decide) (by decide) ?_
          show Steps p.tables e below (T2.setTop (mkF m 61 #[.val (.ref r0), .val (.long q1), .second, .val (.long q2), .second, .unset] [])) _
          refine XS.iconst X2.here hx rfl (hb hby d1_61) ?_
          show Steps p.tables e below (T2.setTop (mkF m 62 #[.val (.ref r0), .val (.long q1), .second, .val (.long q2), .second, .unset] [(.int (0 : Int32))])) _
          refine XS.istore X2.here hx rfl (hb hby d1_62) rfl (l' := #[.val (.ref r0), .val (.long q1), .second, .val (.long q2), .second, .val (.int (0 : Int32))]) rfl ?_
          show Steps p.tables e below (T2.setTop (mkF m 64 #[.val (.ref r0), .val (.long q1), .second, .val (.long q2), .second, .val (.int (0 : Int32))] [])) _
          refine XS.iload X2.here hx rfl (hb hby d1_64) rfl ?_
          exact k)
        obtain ⟨fs, hr, hrun, hended, hW, hsame⟩ := X2.leave (v := some (.int (0 : Int32))) (fun h => by rw [Bd.returns] at h; cases h)
        refine ⟨_, _, ks16 _ ?_, hrun, hended, _, _, rfl, ?_, ⟨_, rfl⟩, hW, hsame.mono (by decide) (by decide)⟩
        · exact retN X2 hx (t := .boolean) Bd.returns (by simp) (hb hby d1_66) hr
        · show Q1 Z r0 q1 q2 u1 h0 n0 _ T2.heap _
          rw [e2]
          refine ⟨?_, N0, rfl⟩
          rw [own_holds, if_neg hc4, if_pos hc13, if_pos hc15]
      · skip
        have ks17 : own_R p e below (s₁.setTop (entryFrame m #[(.ref r0), (.long q1), (.long q2)] 6)) (T2.setTop (mkF m 66 #[.val (.ref r0), .val (.long q1), .second, .val (.long q2), .second, .val (.int (1 : Int32))] [(.int (1 : Int32))])) := fun t k => ks14 t (by
          show Steps p.tables e below (T2.setTop (mkF m 54 #[.val (.ref r0), .val (.long q1), .second, .val (.long q2), .second, .unset] [(.int (lcmpW ((1000 : Int64) * q1) q2))])) _
          refine XS.ifNo X2.here hx rfl (hb hby d1_54) rfl ((if0 _ _).trans (flt (fun q => hc15 ((lw_lt _ _).mp q))).1) ?_
          show Steps p.tables e below (T2.setTop (mkF m 57 #[.val (.ref r0), .val (.long q1), .second, .val (.long q2), .second, .unset] [])) _
          refine XS.iconst X2.here hx rfl (hb hby d1_57) ?_
          show Steps p.tables e below (T2.setTop (mkF m 58 #[.val (.ref r0), .val (.long q1), .second, .val (.long q2), .second, .unset] [(.int (1 : Int32))])) _
          refine XS.goto X2.here hx rfl (pc0 := 58) (pc' := 62) rfl (hb hby d1_58) (by decide) (by decide) ?_
          show Steps p.tables e below (T2.setTop (mkF m 62 #[.val (.ref r0), .val (.long q1), .second, .val (.long q2), .second, .unset] [(.int (1 : Int32))])) _
          refine XS.istore X2.here hx rfl (hb hby d1_62) rfl (l' := #[.val (.ref r0), .val (.long q1), .second, .val (.long q2), .second, .val (.int (1 : Int32))]) rfl ?_
          show Steps p.tables e below (T2.setTop (mkF m 64 #[.val (.ref r0), .val (.long q1), .second, .val (.long q2), .second, .val (.int (1 : Int32))] [])) _
          refine XS.iload X2.here hx rfl (hb hby d1_64) rfl ?_
          exact k)
        obtain ⟨fs, hr, hrun, hended, hW, hsame⟩ := X2.leave (v := some (.int (1 : Int32))) (fun h => by rw [Bd.returns] at h; cases h)
        refine ⟨_, _, ks17 _ ?_, hrun, hended, _, _, rfl, ?_, ⟨_, rfl⟩, hW, hsame.mono (by decide) (by decide)⟩
        · exact retN X2 hx (t := .boolean) Bd.returns (by simp) (hb hby d1_66) hr
        · show Q1 Z r0 q1 q2 u1 h0 n0 _ T2.heap _
          rw [e2]
          refine ⟨?_, N0, rfl⟩
          rw [own_holds, if_neg hc4, if_pos hc13, if_neg hc15]
    · skip
      have ks18 : own_R p e below (s₁.setTop (entryFrame m #[(.ref r0), (.long q1), (.long q2)] 6)) (T2.setTop (mkF m 66 #[.val (.ref r0), .val (.long q1), .second, .val (.long q2), .second, .val (.int (0 : Int32))] [(.int (0 : Int32))])) := fun t k => ks12 t (by
        show Steps p.tables e below (T2.setTop (mkF m 44 #[.val (.ref r0), .val (.long q1), .second, .val (.long q2), .second, .unset] [(.int (lcmpW ((100 : Int64) * q1) q2))])) _
        refine XS.ifYes X2.here hx rfl (pc0 := 44) (pc' := 61) rfl (hb hby d1_44) rfl ((if0 _ _).trans (flt (fun q => hc13 ((lw_lt _ _).mp q))).2.1) (by decide) (by decide) ?_
        show Steps p.tables e below (T2.setTop (mkF m 61 #[.val (.ref r0), .val (.long q1), .second, .val (.long q2), .second, .unset] [])) _
        refine XS.iconst X2.here hx rfl (hb hby d1_61) ?_
        show Steps p.tables e below (T2.setTop (mkF m 62 #[.val (.ref r0), .val (.long q1), .second, .val (.long q2), .second, .unset] [(.int (0 : Int32))])) _
        refine XS.istore X2.here hx rfl (hb hby d1_62) rfl (l' := #[.val (.ref r0), .val (.long q1), .second, .val (.long q2), .second, .val (.int (0 : Int32))]) rfl ?_
        show Steps p.tables e below (T2.setTop (mkF m 64 #[.val (.ref r0), .val (.long q1), .second, .val (.long q2), .second, .val (.int (0 : Int32))] [])) _
        refine XS.iload X2.here hx rfl (hb hby d1_64) rfl ?_
        exact k)
      obtain ⟨fs, hr, hrun, hended, hW, hsame⟩ := X2.leave (v := some (.int (0 : Int32))) (fun h => by rw [Bd.returns] at h; cases h)
      refine ⟨_, _, ks18 _ ?_, hrun, hended, _, _, rfl, ?_, ⟨_, rfl⟩, hW, hsame.mono (by decide) (by decide)⟩
      · exact retN X2 hx (t := .boolean) Bd.returns (by simp) (hb hby d1_66) hr
      · show Q1 Z r0 q1 q2 u1 h0 n0 _ T2.heap _
        rw [e2]
        refine ⟨?_, N0, rfl⟩
        rw [own_holds, if_neg hc4, if_neg hc13]

/-- the law's numbers: c and d within bounds -/
theorem own_law (c d : Int64) (hc0 : 0 ≤ c.toInt) (hc1 : c.toInt ≤ 9007199254740991) (hd0 : 0 ≤ d.toInt) (hd1 : d.toInt ≤ 9007199254740991000) :
    ((100 : Int64) * c < d ↔ c < (d + (99 : Int64)) / (100 : Int64)) ∧ (d < (2 : Int64) * c ↔ d / (2 : Int64) < c) ∧ ((1000 : Int64) * c < d ↔ c < (d + (999 : Int64)) / (1000 : Int64)) := by
  have a1 := c_lmul 100 c; have a2 := c_lmul 2 c; have a3 := c_lmul 1000 c
  rw [show (100 : Int64).toInt = 100 from rfl] at a1
  rw [show (2 : Int64).toInt = 2 from rfl] at a2
  rw [show (1000 : Int64).toInt = 1000 from rfl] at a3
  have r1 := rng64 (100 * c); have r2 := rng64 (2 * c); have r3 := rng64 (1000 * c)
  have b1 := c_ladd d 99; have b2 := c_ladd d 999
  rw [show (99 : Int64).toInt = 99 from rfl] at b1
  rw [show (999 : Int64).toInt = 999 from rfl] at b2
  have s1 := rng64 (d + 99); have s2 := rng64 (d + 999)
  have d1 := (c_ldiv (d + 99) 100 100 rfl (by decide)).1 (by omega)
  have d2 := (c_ldiv d 2 2 rfl (by decide)).1 (by omega)
  have d3 := (c_ldiv (d + 999) 1000 1000 rfl (by decide)).1 (by omega)
  simp only [Int64.lt_iff_toInt_lt]
  refine ⟨?_, ?_, ?_⟩
  · rw [d1]; omega
  · rw [d2]; omega
  · rw [d3]; omega
theorem own_m53 (x : Int64) : 0 ≤ (x &&& (9007199254740991 : Int64)).toInt ∧ (x &&& (9007199254740991 : Int64)).toInt ≤ 9007199254740991 := by
  have := c_maskL x 9007199254740991 53 (by decide) (by decide); omega
theorem own_m40 (x : Int64) : 0 ≤ (x &&& (1099511627775 : Int64)).toInt ∧ (x &&& (1099511627775 : Int64)).toInt ≤ 1099511627775 := by
  have := c_maskL x 1099511627775 40 (by decide) (by decide); omega
theorem own_mode (k c : Int64) (y : Int64) (hk0 : 0 ≤ k.toInt) (hk : k.toInt ≤ 1000) (h0 : 0 ≤ c.toInt) (h1 : c.toInt ≤ 1099511627775) : 0 ≤ (own_max (0 : Int64) ((k * c) + ((y &&& (3 : Int64)) - (1 : Int64)))).toInt ∧ (own_max (0 : Int64) ((k * c) + ((y &&& (3 : Int64)) - (1 : Int64)))).toInt ≤ 9007199254740991000 := by
  have m3 : (y &&& (3 : Int64)).toInt = y.toInt % 4 := c_maskL y 3 2 (by decide) (by decide)
  have e1 := c_lmul k c
  have b0 : 0 ≤ k.toInt * c.toInt := Int.mul_nonneg hk0 h0
  have b1 : k.toInt * c.toInt ≤ 1000 * 1099511627775 := Int.le_trans (Int.mul_le_mul_of_nonneg_left h1 hk0) (Int.mul_le_mul_of_nonneg_right hk (by omega))
  have r1 := rng64 (k * c)
  have e2 := c_lsub (y &&& (3 : Int64)) 1
  rw [show (1 : Int64).toInt = 1 from rfl] at e2
  have r2 := rng64 ((y &&& (3 : Int64)) - 1)
  have e3 := c_ladd (k * c) ((y &&& (3 : Int64)) - 1)
  have r3 := rng64 ((k * c) + ((y &&& (3 : Int64)) - 1))
  generalize ((k * c) + ((y &&& (3 : Int64)) - 1)) = z at *
  unfold own_max
  have z0 : (0 : Int64).toInt = 0 := rfl
  split
  · rename_i h; rw [Int64.lt_iff_toInt_lt] at h; omega
  · rename_i h; rw [Int64.lt_iff_toInt_lt] at h; omega
theorem pn_0 : plainName "com/example/carved_corpus/carvedcorpus/cli/SizeHoldsPinLaw" = true := by first | (simp [plainName, overriddenIn]; done) | decide +kernel
theorem pd_0 : parseMethodDescriptor "(JJ)Z" = some ⟨[.long, .long], some .boolean⟩ := by decide +kernel
theorem pd_1 : parseMethodDescriptor "(JJ)J" = some ⟨[.long, .long], some .long⟩ := by decide +kernel
theorem ef_0 (m : MethodId) (x0 : Int64) (x1 : Int64) (x2 : Int32) : entryFrame m #[(.long x0), (.long x1), (.int x2)] maxLocals = mkF m 0 #[.val (.long x0), .second, .val (.long x1), .second, .val (.int x2), .unset, .unset, .unset, .unset, .unset, .unset, .unset, .unset, .unset, .unset] [] := by first | (simp [entryFrame, mkF, argsToLocals, Value.category, maxLocals]; done) | rfl
def Q0 (Z : State) (q0 : Int64) (q1 : Int64) (p2 : Int32) (s_SMALL : Addr) (s_LARGE : Addr) (h0 : Heap) (n0 : Nat) (v : Option Value) (h : Heap) (L : List Loc) : Prop := v = some (.int (1 : Int32)) ∧ Fr n0 L
set_option maxRecDepth 65536 in
set_option maxHeartbeats 40000000 in
theorem rm0 (l : Launch) (Z : State) (a0 : Array Value) (hw : ∀ d ∈ tables_1, d.before a0 Z = true) (ws : List Jvm.Cond) (q0 : Int64) (q1 : Int64) (p2 : Int32) (s_SMALL : Addr) (s_LARGE : Addr) (h0 : Heap) (n0 : Nat) (Z0 : n0 ≤ h0.size) (E_s_SMALL : Exa Z h0 s_SMALL "com/example/carved_corpus/carvedcorpus/cli/QuestionPicker$Size") (S_s_SMALL : Sta Z h0 "com/example/carved_corpus/carvedcorpus/cli/QuestionPicker$Size" "SMALL" "Lcom/example/carved_corpus/carvedcorpus/cli/QuestionPicker$Size;" (.ref s_SMALL)) (E_s_LARGE : Exa Z h0 s_LARGE "com/example/carved_corpus/carvedcorpus/cli/QuestionPicker$Size") (S_s_LARGE : Sta Z h0 "com/example/carved_corpus/carvedcorpus/cli/QuestionPicker$Size" "LARGE" "Lcom/example/carved_corpus/carvedcorpus/cli/QuestionPicker$Size;" (.ref s_LARGE)) (F_s_SMALL_ordinal : Fld Z h0 s_SMALL "java/lang/Enum" "ordinal" "I" (.int (1 : Int32))) (F_s_LARGE_ordinal : Fld Z h0 s_LARGE "java/lang/Enum" "ordinal" "I" (.int (0 : Int32))) :
    MetFree l x (head1 (Jvm.Cond.code x code maxLocals ret :: ws) room_1) (fun a U => a = #[(.long q0), (.long q1), (.int p2)] ∧ Z.Warmed39 U.vm ∧ U.heap = h0) (fun _ _ _ _ _ => True) (fun _ U o U' => ∃ v L, o = .returned v ∧ Q0 Z q0 q1 p2 s_SMALL s_LARGE h0 n0 v U'.heap L ∧ FrameEnd U o U' L 0 0) := by
  refine MetFree.of_bodySF (plainFor_of_name pn_0) hisR ?_
  intro p e s m args below meth c s₁ Bd hml0 hP hK
  obtain ⟨rfl, hZ, hh⟩ := hP
  have hx := Bd.exec
  have hby := Bd.bytes
  have hml : c.maxLocals = 15 := hml0
  have hown : s.vm.findClass "com/example/carved_corpus/carvedcorpus/cli/SizeHoldsPinLaw" = some m.cls := findClass_of_methodNamed Bd.named
  have hnm := (name_of_methodNamed Bd.named Bd.method).1
  have X0 : Stand p l e room_1 s m #[(.long q0), (.long q1), (.int p2)] below meth c s₁ [] 0 0 := Stand.of_body Bd
  have e0 : s₁.heap = h0 := by rw [← hh, Bd.state]; rfl
  have N0 := Fr.nil n0
  have k0 : own_R p e below (s₁.setTop (entryFrame m #[(.long q0), (.long q1), (.int p2)] maxLocals)) (s₁.setTop (mkF m 0 #[.val (.long q0), .second, .val (.long q1), .second, .val (.int p2), .unset, .unset, .unset, .unset, .unset, .unset, .unset, .unset, .unset, .unset] [])) := fun t k => castTop (ef_0 m q0 q1 p2) k
  have ks3 : own_R p e below (s₁.setTop (entryFrame m #[(.long q0), (.long q1), (.int p2)] maxLocals)) (s₁.setTop (mkF m 4 #[.val (.long q0), .second, .val (.long q1), .second, .val (.int p2), .unset, .unset, .unset, .unset, .unset, .unset, .unset, .unset, .unset, .unset] [(.int (p2 &&& (1 : Int32)))])) := fun t k => k0 t (by
    show Steps p.tables e below (s₁.setTop (mkF m 0 #[.val (.long q0), .second, .val (.long q1), .second, .val (.int p2), .unset, .unset, .unset, .unset, .unset, .unset, .unset, .unset, .unset, .unset] [])) _
    refine XS.iload X0.here hx rfl (hb hby at_0) rfl ?_
    show Steps p.tables e below (s₁.setTop (mkF m 2 #[.val (.long q0), .second, .val (.long q1), .second, .val (.int p2), .unset, .unset, .unset, .unset, .unset, .unset, .unset, .unset, .unset, .unset] [(.int p2)])) _
    refine XS.iconst X0.here hx rfl (hb hby at_2) ?_
    show Steps p.tables e below (s₁.setTop (mkF m 3 #[.val (.long q0), .second, .val (.long q1), .second, .val (.int p2), .unset, .unset, .unset, .unset, .unset, .unset, .unset, .unset, .unset, .unset] [(.int (1 : Int32)), (.int p2)])) _
    refine XS.iand X0.here hx rfl (hb hby at_3) rfl ?_
    exact k)
  obtain ⟨v2, hv2⟩ : ∃ z : Int32, z = (if (p2 &&& (1 : Int32)) = (0 : Int32) then (0 : Int32) else (1 : Int32)) := ⟨_, rfl⟩
  have ks4 : own_R p e below (s₁.setTop (entryFrame m #[(.long q0), (.long q1), (.int p2)] maxLocals)) (s₁.setTop (mkF m 12 #[.val (.long q0), .second, .val (.long q1), .second, .val (.int p2), .unset, .unset, .unset, .unset, .unset, .unset, .unset, .unset, .unset, .unset] [(.int v2)])) := fun t k => ks3 t (by
    by_cases hc1 : (p2 &&& (1 : Int32)) = (0 : Int32)
    · skip
      have qq5 : v2 = (0 : Int32) := by rw [hv2, if_pos hc1]
      rw [qq5] at k
      show Steps p.tables e below (s₁.setTop (mkF m 4 #[.val (.long q0), .second, .val (.long q1), .second, .val (.int p2), .unset, .unset, .unset, .unset, .unset, .unset, .unset, .unset, .unset, .unset] [(.int (p2 &&& (1 : Int32)))])) _
      refine XS.ifYes X0.here hx rfl (pc0 := 4) (pc' := 11) rfl (hb hby at_4) rfl ((if0 _ _).trans (teq hc1).1) (by decide) (by decide) ?_
      show Steps p.tables e below (s₁.setTop (mkF m 11 #[.val (.long q0), .second, .val (.long q1), .second, .val (.int p2), .unset, .unset, .unset, .unset, .unset, .unset, .unset, .unset, .unset, .unset] [])) _
      refine XS.iconst X0.here hx rfl (hb hby at_11) ?_
      exact k
    · skip
      have qq6 : v2 = (1 : Int32) := by rw [hv2, if_neg hc1]
      rw [qq6] at k
      show Steps p.tables e below (s₁.setTop (mkF m 4 #[.val (.long q0), .second, .val (.long q1), .second, .val (.int p2), .unset, .unset, .unset, .unset, .unset, .unset, .unset, .unset, .unset, .unset] [(.int (p2 &&& (1 : Int32)))])) _
      refine XS.ifNo X0.here hx rfl (hb hby at_4) rfl ((if0 _ _).trans (feq hc1).1) ?_
      show Steps p.tables e below (s₁.setTop (mkF m 7 #[.val (.long q0), .second, .val (.long q1), .second, .val (.int p2), .unset, .unset, .unset, .unset, .unset, .unset, .unset, .unset, .unset, .unset] [])) _
      refine XS.iconst X0.here hx rfl (hb hby at_7) ?_
      show Steps p.tables e below (s₁.setTop (mkF m 8 #[.val (.long q0), .second, .val (.long q1), .second, .val (.int p2), .unset, .unset, .unset, .unset, .unset, .unset, .unset, .unset, .unset, .unset] [(.int (1 : Int32))])) _
      refine XS.goto X0.here hx rfl (pc0 := 8) (pc' := 12) rfl (hb hby at_8) (by decide) (by decide) ?_
      exact k)
  have ks7 : own_R p e below (s₁.setTop (entryFrame m #[(.long q0), (.long q1), (.int p2)] maxLocals)) (s₁.setTop (mkF m 20 #[.val (.long q0), .second, .val (.long q1), .second, .val (.int p2), .val (.int v2), .unset, .unset, .unset, .unset, .unset, .unset, .unset, .unset, .unset] [(.int (((p2.toUInt32 >>> ((1 : Int32) &&& 31).toUInt32).toInt32) &&& (3 : Int32)))])) := fun t k => ks4 t (by
    show Steps p.tables e below (s₁.setTop (mkF m 12 #[.val (.long q0), .second, .val (.long q1), .second, .val (.int p2), .unset, .unset, .unset, .unset, .unset, .unset, .unset, .unset, .unset, .unset] [(.int v2)])) _
    refine XS.istore X0.here hx rfl (hb hby at_12) rfl (l' := #[.val (.long q0), .second, .val (.long q1), .second, .val (.int p2), .val (.int v2), .unset, .unset, .unset, .unset, .unset, .unset, .unset, .unset, .unset]) rfl ?_
    show Steps p.tables e below (s₁.setTop (mkF m 14 #[.val (.long q0), .second, .val (.long q1), .second, .val (.int p2), .val (.int v2), .unset, .unset, .unset, .unset, .unset, .unset, .unset, .unset, .unset] [])) _
    refine XS.iload X0.here hx rfl (hb hby at_14) rfl ?_
    show Steps p.tables e below (s₁.setTop (mkF m 16 #[.val (.long q0), .second, .val (.long q1), .second, .val (.int p2), .val (.int v2), .unset, .unset, .unset, .unset, .unset, .unset, .unset, .unset, .unset] [(.int p2)])) _
    refine XS.iconst X0.here hx rfl (hb hby at_16) ?_
    show Steps p.tables e below (s₁.setTop (mkF m 17 #[.val (.long q0), .second, .val (.long q1), .second, .val (.int p2), .val (.int v2), .unset, .unset, .unset, .unset, .unset, .unset, .unset, .unset, .unset] [(.int (1 : Int32)), (.int p2)])) _
    refine XS.iushr X0.here hx rfl (hb hby at_17) rfl ?_
    show Steps p.tables e below (s₁.setTop (mkF m 18 #[.val (.long q0), .second, .val (.long q1), .second, .val (.int p2), .val (.int v2), .unset, .unset, .unset, .unset, .unset, .unset, .unset, .unset, .unset] [(.int ((p2.toUInt32 >>> ((1 : Int32) &&& 31).toUInt32).toInt32))])) _
    refine XS.iconst X0.here hx rfl (hb hby at_18) ?_
    show Steps p.tables e below (s₁.setTop (mkF m 19 #[.val (.long q0), .second, .val (.long q1), .second, .val (.int p2), .val (.int v2), .unset, .unset, .unset, .unset, .unset, .unset, .unset, .unset, .unset] [(.int (3 : Int32)), (.int ((p2.toUInt32 >>> ((1 : Int32) &&& 31).toUInt32).toInt32))])) _
    refine XS.iand X0.here hx rfl (hb hby at_19) rfl ?_
    exact k)
  obtain ⟨v8, hv8⟩ : ∃ z : Int32, z = (((p2.toUInt32 >>> ((1 : Int32) &&& 31).toUInt32).toInt32) &&& (3 : Int32)) := ⟨_, rfl⟩
  rw [← hv8] at ks7
  have ks9 : own_R p e below (s₁.setTop (entryFrame m #[(.long q0), (.long q1), (.int p2)] maxLocals)) (s₁.setTop (mkF m 24 #[.val (.long q0), .second, .val (.long q1), .second, .val (.int p2), .val (.int v2), .val (.int v8), .unset, .unset, .unset, .unset, .unset, .unset, .unset, .unset] [(.int v8)])) := fun t k => ks7 t (by
    show Steps p.tables e below (s₁.setTop (mkF m 20 #[.val (.long q0), .second, .val (.long q1), .second, .val (.int p2), .val (.int v2), .unset, .unset, .unset, .unset, .unset, .unset, .unset, .unset, .unset] [(.int v8)])) _
    refine XS.istore X0.here hx rfl (hb hby at_20) rfl (l' := #[.val (.long q0), .second, .val (.long q1), .second, .val (.int p2), .val (.int v2), .val (.int v8), .unset, .unset, .unset, .unset, .unset, .unset, .unset, .unset]) rfl ?_
    show Steps p.tables e below (s₁.setTop (mkF m 22 #[.val (.long q0), .second, .val (.long q1), .second, .val (.int p2), .val (.int v2), .val (.int v8), .unset, .unset, .unset, .unset, .unset, .unset, .unset, .unset] [])) _
    refine XS.iload X0.here hx rfl (hb hby at_22) rfl ?_
    exact k)
  by_cases hc10 : v8 = (0 : Int32)
  · skip
    have ks11 : own_R p e below (s₁.setTop (entryFrame m #[(.long q0), (.long q1), (.int p2)] maxLocals)) (s₁.setTop (mkF m 32 #[.val (.long q0), .second, .val (.long q1), .second, .val (.int p2), .val (.int v2), .val (.int v8), .unset, .unset, .unset, .unset, .unset, .unset, .unset, .unset] [(.long (q0 &&& (9007199254740991 : Int64)))])) := fun t k => ks9 t (by
      show Steps p.tables e below (s₁.setTop (mkF m 24 #[.val (.long q0), .second, .val (.long q1), .second, .val (.int p2), .val (.int v2), .val (.int v8), .unset, .unset, .unset, .unset, .unset, .unset, .unset, .unset] [(.int v8)])) _
      refine XS.ifNo X0.here hx rfl (hb hby at_24) rfl ((if0 _ _).trans (teq hc10).2) ?_
      show Steps p.tables e below (s₁.setTop (mkF m 27 #[.val (.long q0), .second, .val (.long q1), .second, .val (.int p2), .val (.int v2), .val (.int v8), .unset, .unset, .unset, .unset, .unset, .unset, .unset, .unset] [])) _
      refine XS.lloadN X0.here hx rfl (hb hby at_27) rfl ?_
      show Steps p.tables e below (s₁.setTop (mkF m 28 #[.val (.long q0), .second, .val (.long q1), .second, .val (.int p2), .val (.int v2), .val (.int v8), .unset, .unset, .unset, .unset, .unset, .unset, .unset, .unset] [(.long q0)])) _
      refine X0.ldc2Long hx hown (mvT hZ (hw _ (List.mem_of_getElem? (i := 0) rfl))) (g := (mkF m 28 #[.val (.long q0), .second, .val (.long q1), .second, .val (.int p2), .val (.int v2), .val (.int v8), .unset, .unset, .unset, .unset, .unset, .unset, .unset, .unset] [(.long q0)])) rfl (hb hby at_28) _ ?_
      show Steps p.tables e below (s₁.setTop (mkF m 31 #[.val (.long q0), .second, .val (.long q1), .second, .val (.int p2), .val (.int v2), .val (.int v8), .unset, .unset, .unset, .unset, .unset, .unset, .unset, .unset] [(.long (9007199254740991 : Int64)), (.long q0)])) _
      refine XS.land X0.here hx rfl (hb hby at_31) rfl ?_
      exact k)
    obtain ⟨v12, hv12⟩ : ∃ z : Int64, z = (q0 &&& (9007199254740991 : Int64)) := ⟨_, rfl⟩
    rw [← hv12] at ks11
    have ks13 : own_R p e below (s₁.setTop (entryFrame m #[(.long q0), (.long q1), (.int p2)] maxLocals)) (s₁.setTop (mkF m 39 #[.val (.long q0), .second, .val (.long q1), .second, .val (.int p2), .val (.int v2), .val (.int v8), .val (.long v12), .second, .unset, .unset, .unset, .unset, .unset, .unset] [(.long (q1 &&& (9007199254740991 : Int64)))])) := fun t k => ks11 t (by
      show Steps p.tables e below (s₁.setTop (mkF m 32 #[.val (.long q0), .second, .val (.long q1), .second, .val (.int p2), .val (.int v2), .val (.int v8), .unset, .unset, .unset, .unset, .unset, .unset, .unset, .unset] [(.long v12)])) _
      refine XS.lstore X0.here hx rfl (hb hby at_32) rfl (l' := #[.val (.long q0), .second, .val (.long q1), .second, .val (.int p2), .val (.int v2), .val (.int v8), .val (.long v12), .second, .unset, .unset, .unset, .unset, .unset, .unset]) rfl ?_
      show Steps p.tables e below (s₁.setTop (mkF m 34 #[.val (.long q0), .second, .val (.long q1), .second, .val (.int p2), .val (.int v2), .val (.int v8), .val (.long v12), .second, .unset, .unset, .unset, .unset, .unset, .unset] [])) _
      refine XS.lloadN X0.here hx rfl (hb hby at_34) rfl ?_
      show Steps p.tables e below (s₁.setTop (mkF m 35 #[.val (.long q0), .second, .val (.long q1), .second, .val (.int p2), .val (.int v2), .val (.int v8), .val (.long v12), .second, .unset, .unset, .unset, .unset, .unset, .unset] [(.long q1)])) _
      refine X0.ldc2Long hx hown (mvT hZ (hw _ (List.mem_of_getElem? (i := 0) rfl))) (g := (mkF m 35 #[.val (.long q0), .second, .val (.long q1), .second, .val (.int p2), .val (.int v2), .val (.int v8), .val (.long v12), .second, .unset, .unset, .unset, .unset, .unset, .unset] [(.long q1)])) rfl (hb hby at_35) _ ?_
      show Steps p.tables e below (s₁.setTop (mkF m 38 #[.val (.long q0), .second, .val (.long q1), .second, .val (.int p2), .val (.int v2), .val (.int v8), .val (.long v12), .second, .unset, .unset, .unset, .unset, .unset, .unset] [(.long (9007199254740991 : Int64)), (.long q1)])) _
      refine XS.land X0.here hx rfl (hb hby at_38) rfl ?_
      exact k)
    obtain ⟨v14, hv14⟩ : ∃ z : Int64, z = (q1 &&& (9007199254740991 : Int64)) := ⟨_, rfl⟩
    rw [← hv14] at ks13
    have ks15 : own_R p e below (s₁.setTop (entryFrame m #[(.long q0), (.long q1), (.int p2)] maxLocals)) (s₁.setTop (mkF m 105 #[.val (.long q0), .second, .val (.long q1), .second, .val (.int p2), .val (.int v2), .val (.int v8), .val (.long v12), .second, .val (.long v14), .second, .unset, .unset, .unset, .unset] [(.int v2)])) := fun t k => ks13 t (by
      show Steps p.tables e below (s₁.setTop (mkF m 39 #[.val (.long q0), .second, .val (.long q1), .second, .val (.int p2), .val (.int v2), .val (.int v8), .val (.long v12), .second, .unset, .unset, .unset, .unset, .unset, .unset] [(.long v14)])) _
      refine XS.lstore X0.here hx rfl (hb hby at_39) rfl (l' := #[.val (.long q0), .second, .val (.long q1), .second, .val (.int p2), .val (.int v2), .val (.int v8), .val (.long v12), .second, .val (.long v14), .second, .unset, .unset, .unset, .unset]) rfl ?_
      show Steps p.tables e below (s₁.setTop (mkF m 41 #[.val (.long q0), .second, .val (.long q1), .second, .val (.int p2), .val (.int v2), .val (.int v8), .val (.long v12), .second, .val (.long v14), .second, .unset, .unset, .unset, .unset] [])) _
      refine XS.goto X0.here hx rfl (pc0 := 41) (pc' := 103) rfl (hb hby at_41) (by decide) (by decide) ?_
      show Steps p.tables e below (s₁.setTop (mkF m 103 #[.val (.long q0), .second, .val (.long q1), .second, .val (.int p2), .val (.int v2), .val (.int v8), .val (.long v12), .second, .val (.long v14), .second, .unset, .unset, .unset, .unset] [])) _
      refine XS.iload X0.here hx rfl (hb hby at_103) rfl ?_
      exact k)
    by_cases hc16 : v2 = (0 : Int32)
    · skip
      have ks17 : own_R p e below (s₁.setTop (entryFrame m #[(.long q0), (.long q1), (.int p2)] maxLocals)) (s₁.setTop (mkF m 114 #[.val (.long q0), .second, .val (.long q1), .second, .val (.int p2), .val (.int v2), .val (.int v8), .val (.long v12), .second, .val (.long v14), .second, .unset, .unset, .unset, .unset] [])) := fun t k => ks15 t (by
        show Steps p.tables e below (s₁.setTop (mkF m 105 #[.val (.long q0), .second, .val (.long q1), .second, .val (.int p2), .val (.int v2), .val (.int v8), .val (.long v12), .second, .val (.long v14), .second, .unset, .unset, .unset, .unset] [(.int v2)])) _
        refine XS.ifYes X0.here hx rfl (pc0 := 105) (pc' := 114) rfl (hb hby at_105) rfl ((if0 _ _).trans (teq hc16).1) (by decide) (by decide) ?_
        exact k)
      obtain ⟨T18, X18, e18, st18⟩ := getS2 X0 hx hZ hown (host := "") (Or.inl (hw _ (List.mem_of_getElem? (i := 1) rfl))) Via.refl e0 S_s_SMALL (g := (mkF m 114 #[.val (.long q0), .second, .val (.long q1), .second, .val (.int p2), .val (.int v2), .val (.int v8), .val (.long v12), .second, .val (.long v14), .second, .unset, .unset, .unset, .unset] [])) rfl (hb hby at_114)
      have ks19 : own_R p e below (s₁.setTop (entryFrame m #[(.long q0), (.long q1), (.int p2)] maxLocals)) (T18.setTop (mkF m 117 #[.val (.long q0), .second, .val (.long q1), .second, .val (.int p2), .val (.int v2), .val (.int v8), .val (.long v12), .second, .val (.long v14), .second, .unset, .unset, .unset, .unset] [(.ref s_SMALL)])) := fun t k => ks17 t (st18 t k)
      have ks20 : own_R p e below (s₁.setTop (entryFrame m #[(.long q0), (.long q1), (.int p2)] maxLocals)) (T18.setTop (mkF m 125 #[.val (.long q0), .second, .val (.long q1), .second, .val (.int p2), .val (.int v2), .val (.int v8), .val (.long v12), .second, .val (.long v14), .second, .val (.ref s_SMALL), .unset, .unset, .unset] [(.long v14), (.long v12), (.ref s_SMALL)])) := fun t k => ks19 t (by
        show Steps p.tables e below (T18.setTop (mkF m 117 #[.val (.long q0), .second, .val (.long q1), .second, .val (.int p2), .val (.int v2), .val (.int v8), .val (.long v12), .second, .val (.long v14), .second, .unset, .unset, .unset, .unset] [(.ref s_SMALL)])) _
        refine XS.astore X18.here hx rfl (hb hby at_117) rfl rfl (l' := #[.val (.long q0), .second, .val (.long q1), .second, .val (.int p2), .val (.int v2), .val (.int v8), .val (.long v12), .second, .val (.long v14), .second, .val (.ref s_SMALL), .unset, .unset, .unset]) rfl ?_
        show Steps p.tables e below (T18.setTop (mkF m 119 #[.val (.long q0), .second, .val (.long q1), .second, .val (.int p2), .val (.int v2), .val (.int v8), .val (.long v12), .second, .val (.long v14), .second, .val (.ref s_SMALL), .unset, .unset, .unset] [])) _
        refine XS.aload X18.here hx rfl (hb hby at_119) rfl rfl ?_
        show Steps p.tables e below (T18.setTop (mkF m 121 #[.val (.long q0), .second, .val (.long q1), .second, .val (.int p2), .val (.int v2), .val (.int v8), .val (.long v12), .second, .val (.long v14), .second, .val (.ref s_SMALL), .unset, .unset, .unset] [(.ref s_SMALL)])) _
        refine XS.lload X18.here hx rfl (hb hby at_121) rfl ?_
        show Steps p.tables e below (T18.setTop (mkF m 123 #[.val (.long q0), .second, .val (.long q1), .second, .val (.int p2), .val (.int v2), .val (.int v8), .val (.long v12), .second, .val (.long v14), .second, .val (.ref s_SMALL), .unset, .unset, .unset] [(.long v12), (.ref s_SMALL)])) _
        refine XS.lload X18.here hx rfl (hb hby at_123) rfl ?_
        exact k)
      obtain ⟨cq21, kq21, q21a, q21b, q21c⟩ := isOf hZ e18 E_s_SMALL
      obtain ⟨_, _, ⟨T21, L21, k21, n21⟩, -, X21, ⟨Lc21, hQ21, lq21, yq21, zq21⟩, st21⟩ := X18.virtualBack hx (y := (⟨"com/example/carved_corpus/carvedcorpus/cli/QuestionPicker$Size", "holds", "(JJ)Z"⟩ : MethodName)) (z := (⟨"com/example/carved_corpus/carvedcorpus/cli/QuestionPicker$Size", "holds", "(JJ)Z"⟩ : MethodName)) hown (mvT hZ (hw _ (List.mem_of_getElem? (i := 4) rfl))) (mvT hZ (hw _ (List.mem_of_getElem? (i := 5) rfl))) (notFace_of_selects (args := #[]) (mvT hZ (hw _ (List.mem_of_getElem? (i := 7) rfl)))) (mvT hZ (hw _ (List.mem_of_getElem? (i := 7) rfl))) (mvT hZ (hw _ (List.mem_of_getElem? (i := 6) rfl))) (by decide) (backOf (W := 0) (rm1 l Z a0 hw [] s_SMALL v12 v14 s_LARGE h0 n0 Z0 S_s_LARGE) hZ (hw _ (List.mem_of_getElem? (i := 8) rfl)) (hw _ (List.mem_of_getElem? (i := 2) rfl)) (by decide) (by decide)) q21a q21c (g := (mkF m 125 #[.val (.long q0), .second, .val (.long q1), .second, .val (.int p2), .val (.int v2), .val (.int v8), .val (.long v12), .second, .val (.long v14), .second, .val (.ref s_SMALL), .unset, .unset, .unset] [(.long v14), (.long v12), (.ref s_SMALL)])) rfl (by rw [hml]; rfl) (Steps.refl _) (argsL := [(.long v12), (.long v14)]) (rest := []) (lenOf pd_0 rfl) rfl (by show 2 * 0 + _ ≤ _; exact Nat.le_of_eq rfl) (hb hby at_125) (fun _ _ => ⟨rfl, e18, (by decide : 0 + 0 ≤ _), (by decide : 0 + 0 ≤ _)⟩)
      dsimp only [Pt.U, Pt.locs, Pt.cells, Pt.slots] at X21 lq21 yq21 zq21 st21 hQ21
      subst lq21 yq21 zq21
      obtain ⟨rfl, Nq21, eq21⟩ := hQ21
      have N21 := Fr.app N0 Nq21
      have ks22 : own_R p e below (s₁.setTop (entryFrame m #[(.long q0), (.long q1), (.int p2)] maxLocals)) (T21.setTop (mkF m 128 #[.val (.long q0), .second, .val (.long q1), .second, .val (.int p2), .val (.int v2), .val (.int v8), .val (.long v12), .second, .val (.long v14), .second, .val (.ref s_SMALL), .unset, .unset, .unset] [(.int (own_holds s_SMALL v12 v14 s_LARGE))])) := fun t k => ks20 t (st21.trans k)
      obtain ⟨v23, hv23⟩ : ∃ z : Int32, z = (own_holds s_SMALL v12 v14 s_LARGE) := ⟨_, rfl⟩
      rw [← hv23] at ks22
      have ks27 : own_R p e below (s₁.setTop (entryFrame m #[(.long q0), (.long q1), (.int p2)] maxLocals)) (T21.setTop (mkF m 186 #[.val (.long q0), .second, .val (.long q1), .second, .val (.int p2), .val (.int v2), .val (.int v8), .val (.long v12), .second, .val (.long v14), .second, .val (.ref s_SMALL), .val (.int v23), .unset, .unset] [(.int (lcmpW v12 ((v14 + (99 : Int64)) / (100 : Int64))))])) := fun t k => ks22 t (by
        show Steps p.tables e below (T21.setTop (mkF m 128 #[.val (.long q0), .second, .val (.long q1), .second, .val (.int p2), .val (.int v2), .val (.int v8), .val (.long v12), .second, .val (.long v14), .second, .val (.ref s_SMALL), .unset, .unset, .unset] [(.int v23)])) _
        refine XS.istore X21.here hx rfl (hb hby at_128) rfl (l' := #[.val (.long q0), .second, .val (.long q1), .second, .val (.int p2), .val (.int v2), .val (.int v8), .val (.long v12), .second, .val (.long v14), .second, .val (.ref s_SMALL), .val (.int v23), .unset, .unset]) rfl ?_
        show Steps p.tables e below (T21.setTop (mkF m 130 #[.val (.long q0), .second, .val (.long q1), .second, .val (.int p2), .val (.int v2), .val (.int v8), .val (.long v12), .second, .val (.long v14), .second, .val (.ref s_SMALL), .val (.int v23), .unset, .unset] [])) _
        refine XS.iload X21.here hx rfl (hb hby at_130) rfl ?_
        show Steps p.tables e below (T21.setTop (mkF m 132 #[.val (.long q0), .second, .val (.long q1), .second, .val (.int p2), .val (.int v2), .val (.int v8), .val (.long v12), .second, .val (.long v14), .second, .val (.ref s_SMALL), .val (.int v23), .unset, .unset] [(.int v2)])) _
        refine XS.ifYes X21.here hx rfl (pc0 := 132) (pc' := 173) rfl (hb hby at_132) rfl ((if0 _ _).trans (teq hc16).1) (by decide) (by decide) ?_
        show Steps p.tables e below (T21.setTop (mkF m 173 #[.val (.long q0), .second, .val (.long q1), .second, .val (.int p2), .val (.int v2), .val (.int v8), .val (.long v12), .second, .val (.long v14), .second, .val (.ref s_SMALL), .val (.int v23), .unset, .unset] [])) _
        refine XS.lload X21.here hx rfl (hb hby at_173) rfl ?_
        show Steps p.tables e below (T21.setTop (mkF m 175 #[.val (.long q0), .second, .val (.long q1), .second, .val (.int p2), .val (.int v2), .val (.int v8), .val (.long v12), .second, .val (.long v14), .second, .val (.ref s_SMALL), .val (.int v23), .unset, .unset] [(.long v12)])) _
        refine XS.lload X21.here hx rfl (hb hby at_175) rfl ?_
        show Steps p.tables e below (T21.setTop (mkF m 177 #[.val (.long q0), .second, .val (.long q1), .second, .val (.int p2), .val (.int v2), .val (.int v8), .val (.long v12), .second, .val (.long v14), .second, .val (.ref s_SMALL), .val (.int v23), .unset, .unset] [(.long v14), (.long v12)])) _
        refine X21.ldc2Long hx hown (mvT hZ (hw _ (List.mem_of_getElem? (i := 12) rfl))) (g := (mkF m 177 #[.val (.long q0), .second, .val (.long q1), .second, .val (.int p2), .val (.int v2), .val (.int v8), .val (.long v12), .second, .val (.long v14), .second, .val (.ref s_SMALL), .val (.int v23), .unset, .unset] [(.long v14), (.long v12)])) rfl (hb hby at_177) _ ?_
        show Steps p.tables e below (T21.setTop (mkF m 180 #[.val (.long q0), .second, .val (.long q1), .second, .val (.int p2), .val (.int v2), .val (.int v8), .val (.long v12), .second, .val (.long v14), .second, .val (.ref s_SMALL), .val (.int v23), .unset, .unset] [(.long (99 : Int64)), (.long v14), (.long v12)])) _
        refine XS.ladd X21.here hx rfl (hb hby at_180) rfl ?_
        show Steps p.tables e below (T21.setTop (mkF m 181 #[.val (.long q0), .second, .val (.long q1), .second, .val (.int p2), .val (.int v2), .val (.int v8), .val (.long v12), .second, .val (.long v14), .second, .val (.ref s_SMALL), .val (.int v23), .unset, .unset] [(.long (v14 + (99 : Int64))), (.long v12)])) _
        refine X21.ldc2Long hx hown (mvT hZ (hw _ (List.mem_of_getElem? (i := 13) rfl))) (g := (mkF m 181 #[.val (.long q0), .second, .val (.long q1), .second, .val (.int p2), .val (.int v2), .val (.int v8), .val (.long v12), .second, .val (.long v14), .second, .val (.ref s_SMALL), .val (.int v23), .unset, .unset] [(.long (v14 + (99 : Int64))), (.long v12)])) rfl (hb hby at_181) _ ?_
        show Steps p.tables e below (T21.setTop (mkF m 184 #[.val (.long q0), .second, .val (.long q1), .second, .val (.int p2), .val (.int v2), .val (.int v8), .val (.long v12), .second, .val (.long v14), .second, .val (.ref s_SMALL), .val (.int v23), .unset, .unset] [(.long (100 : Int64)), (.long (v14 + (99 : Int64))), (.long v12)])) _
        refine XS.ldiv X21.here hx rfl (hb hby at_184) rfl (by decide) ?_
        show Steps p.tables e below (T21.setTop (mkF m 185 #[.val (.long q0), .second, .val (.long q1), .second, .val (.int p2), .val (.int v2), .val (.int v8), .val (.long v12), .second, .val (.long v14), .second, .val (.ref s_SMALL), .val (.int v23), .unset, .unset] [(.long ((v14 + (99 : Int64)) / (100 : Int64))), (.long v12)])) _
        refine XS.lcmp X21.here hx rfl (hb hby at_185) rfl ?_
        exact k)
      obtain ⟨v26, hv26⟩ : ∃ z : Int32, z = (if v12 < ((v14 + (99 : Int64)) / (100 : Int64)) then (if v12 < ((v14 + (999 : Int64)) / (1000 : Int64)) then (0 : Int32) else (1 : Int32)) else (0 : Int32)) := ⟨_, rfl⟩
      have ks28 : own_R p e below (s₁.setTop (entryFrame m #[(.long q0), (.long q1), (.int p2)] maxLocals)) (T21.setTop (mkF m 210 #[.val (.long q0), .second, .val (.long q1), .second, .val (.int p2), .val (.int v2), .val (.int v8), .val (.long v12), .second, .val (.long v14), .second, .val (.ref s_SMALL), .val (.int v23), .unset, .unset] [(.int v26)])) := fun t k => ks27 t (by
        by_cases hc24 : v12 < ((v14 + (99 : Int64)) / (100 : Int64))
        · skip
          show Steps p.tables e below (T21.setTop (mkF m 186 #[.val (.long q0), .second, .val (.long q1), .second, .val (.int p2), .val (.int v2), .val (.int v8), .val (.long v12), .second, .val (.long v14), .second, .val (.ref s_SMALL), .val (.int v23), .unset, .unset] [(.int (lcmpW v12 ((v14 + (99 : Int64)) / (100 : Int64))))])) _
          refine XS.ifNo X21.here hx rfl (hb hby at_186) rfl ((if0 _ _).trans (tlt ((lw_lt _ _).mpr hc24)).2.1) ?_
          show Steps p.tables e below (T21.setTop (mkF m 189 #[.val (.long q0), .second, .val (.long q1), .second, .val (.int p2), .val (.int v2), .val (.int v8), .val (.long v12), .second, .val (.long v14), .second, .val (.ref s_SMALL), .val (.int v23), .unset, .unset] [])) _
          refine XS.lload X21.here hx rfl (hb hby at_189) rfl ?_
          show Steps p.tables e below (T21.setTop (mkF m 191 #[.val (.long q0), .second, .val (.long q1), .second, .val (.int p2), .val (.int v2), .val (.int v8), .val (.long v12), .second, .val (.long v14), .second, .val (.ref s_SMALL), .val (.int v23), .unset, .unset] [(.long v12)])) _
          refine XS.lload X21.here hx rfl (hb hby at_191) rfl ?_
          show Steps p.tables e below (T21.setTop (mkF m 193 #[.val (.long q0), .second, .val (.long q1), .second, .val (.int p2), .val (.int v2), .val (.int v8), .val (.long v12), .second, .val (.long v14), .second, .val (.ref s_SMALL), .val (.int v23), .unset, .unset] [(.long v14), (.long v12)])) _
          refine X21.ldc2Long hx hown (mvT hZ (hw _ (List.mem_of_getElem? (i := 25) rfl))) (g := (mkF m 193 #[.val (.long q0), .second, .val (.long q1), .second, .val (.int p2), .val (.int v2), .val (.int v8), .val (.long v12), .second, .val (.long v14), .second, .val (.ref s_SMALL), .val (.int v23), .unset, .unset] [(.long v14), (.long v12)])) rfl (hb hby at_193) _ ?_
          show Steps p.tables e below (T21.setTop (mkF m 196 #[.val (.long q0), .second, .val (.long q1), .second, .val (.int p2), .val (.int v2), .val (.int v8), .val (.long v12), .second, .val (.long v14), .second, .val (.ref s_SMALL), .val (.int v23), .unset, .unset] [(.long (999 : Int64)), (.long v14), (.long v12)])) _
          refine XS.ladd X21.here hx rfl (hb hby at_196) rfl ?_
          show Steps p.tables e below (T21.setTop (mkF m 197 #[.val (.long q0), .second, .val (.long q1), .second, .val (.int p2), .val (.int v2), .val (.int v8), .val (.long v12), .second, .val (.long v14), .second, .val (.ref s_SMALL), .val (.int v23), .unset, .unset] [(.long (v14 + (999 : Int64))), (.long v12)])) _
          refine X21.ldc2Long hx hown (mvT hZ (hw _ (List.mem_of_getElem? (i := 15) rfl))) (g := (mkF m 197 #[.val (.long q0), .second, .val (.long q1), .second, .val (.int p2), .val (.int v2), .val (.int v8), .val (.long v12), .second, .val (.long v14), .second, .val (.ref s_SMALL), .val (.int v23), .unset, .unset] [(.long (v14 + (999 : Int64))), (.long v12)])) rfl (hb hby at_197) _ ?_
          show Steps p.tables e below (T21.setTop (mkF m 200 #[.val (.long q0), .second, .val (.long q1), .second, .val (.int p2), .val (.int v2), .val (.int v8), .val (.long v12), .second, .val (.long v14), .second, .val (.ref s_SMALL), .val (.int v23), .unset, .unset] [(.long (1000 : Int64)), (.long (v14 + (999 : Int64))), (.long v12)])) _
          refine XS.ldiv X21.here hx rfl (hb hby at_200) rfl (by decide) ?_
          show Steps p.tables e below (T21.setTop (mkF m 201 #[.val (.long q0), .second, .val (.long q1), .second, .val (.int p2), .val (.int v2), .val (.int v8), .val (.long v12), .second, .val (.long v14), .second, .val (.ref s_SMALL), .val (.int v23), .unset, .unset] [(.long ((v14 + (999 : Int64)) / (1000 : Int64))), (.long v12)])) _
          refine XS.lcmp X21.here hx rfl (hb hby at_201) rfl ?_
          by_cases hc25 : v12 < ((v14 + (999 : Int64)) / (1000 : Int64))
          · skip
            have qq29 : v26 = (0 : Int32) := by rw [hv26, if_pos hc24, if_pos hc25]
            rw [qq29] at k
            show Steps p.tables e below (T21.setTop (mkF m 202 #[.val (.long q0), .second, .val (.long q1), .second, .val (.int p2), .val (.int v2), .val (.int v8), .val (.long v12), .second, .val (.long v14), .second, .val (.ref s_SMALL), .val (.int v23), .unset, .unset] [(.int (lcmpW v12 ((v14 + (999 : Int64)) / (1000 : Int64))))])) _
            refine XS.ifYes X21.here hx rfl (pc0 := 202) (pc' := 209) rfl (hb hby at_202) rfl ((if0 _ _).trans (tlt ((lw_lt _ _).mpr hc25)).1) (by decide) (by decide) ?_
            show Steps p.tables e below (T21.setTop (mkF m 209 #[.val (.long q0), .second, .val (.long q1), .second, .val (.int p2), .val (.int v2), .val (.int v8), .val (.long v12), .second, .val (.long v14), .second, .val (.ref s_SMALL), .val (.int v23), .unset, .unset] [])) _
            refine XS.iconst X21.here hx rfl (hb hby at_209) ?_
            exact k
          · skip
            have qq30 : v26 = (1 : Int32) := by rw [hv26, if_pos hc24, if_neg hc25]
            rw [qq30] at k
            show Steps p.tables e below (T21.setTop (mkF m 202 #[.val (.long q0), .second, .val (.long q1), .second, .val (.int p2), .val (.int v2), .val (.int v8), .val (.long v12), .second, .val (.long v14), .second, .val (.ref s_SMALL), .val (.int v23), .unset, .unset] [(.int (lcmpW v12 ((v14 + (999 : Int64)) / (1000 : Int64))))])) _
            refine XS.ifNo X21.here hx rfl (hb hby at_202) rfl ((if0 _ _).trans (flt (fun q => hc25 ((lw_lt _ _).mp q))).1) ?_
            show Steps p.tables e below (T21.setTop (mkF m 205 #[.val (.long q0), .second, .val (.long q1), .second, .val (.int p2), .val (.int v2), .val (.int v8), .val (.long v12), .second, .val (.long v14), .second, .val (.ref s_SMALL), .val (.int v23), .unset, .unset] [])) _
            refine XS.iconst X21.here hx rfl (hb hby at_205) ?_
            show Steps p.tables e below (T21.setTop (mkF m 206 #[.val (.long q0), .second, .val (.long q1), .second, .val (.int p2), .val (.int v2), .val (.int v8), .val (.long v12), .second, .val (.long v14), .second, .val (.ref s_SMALL), .val (.int v23), .unset, .unset] [(.int (1 : Int32))])) _
            refine XS.goto X21.here hx rfl (pc0 := 206) (pc' := 210) rfl (hb hby at_206) (by decide) (by decide) ?_
            exact k
        · skip
          have qq31 : v26 = (0 : Int32) := by rw [hv26, if_neg hc24]
          rw [qq31] at k
          show Steps p.tables e below (T21.setTop (mkF m 186 #[.val (.long q0), .second, .val (.long q1), .second, .val (.int p2), .val (.int v2), .val (.int v8), .val (.long v12), .second, .val (.long v14), .second, .val (.ref s_SMALL), .val (.int v23), .unset, .unset] [(.int (lcmpW v12 ((v14 + (99 : Int64)) / (100 : Int64))))])) _
          refine XS.ifYes X21.here hx rfl (pc0 := 186) (pc' := 209) rfl (hb hby at_186) rfl ((if0 _ _).trans (flt (fun q => hc24 ((lw_lt _ _).mp q))).2.1) (by decide) (by decide) ?_
          show Steps p.tables e below (T21.setTop (mkF m 209 #[.val (.long q0), .second, .val (.long q1), .second, .val (.int p2), .val (.int v2), .val (.int v8), .val (.long v12), .second, .val (.long v14), .second, .val (.ref s_SMALL), .val (.int v23), .unset, .unset] [])) _
          refine XS.iconst X21.here hx rfl (hb hby at_209) ?_
          exact k)
      have ks32 : own_R p e below (s₁.setTop (entryFrame m #[(.long q0), (.long q1), (.int p2)] maxLocals)) (T21.setTop (mkF m 216 #[.val (.long q0), .second, .val (.long q1), .second, .val (.int p2), .val (.int v2), .val (.int v8), .val (.long v12), .second, .val (.long v14), .second, .val (.ref s_SMALL), .val (.int v23), .val (.int v26), .unset] [(.int v26), (.int v23)])) := fun t k => ks28 t (by
        show Steps p.tables e below (T21.setTop (mkF m 210 #[.val (.long q0), .second, .val (.long q1), .second, .val (.int p2), .val (.int v2), .val (.int v8), .val (.long v12), .second, .val (.long v14), .second, .val (.ref s_SMALL), .val (.int v23), .unset, .unset] [(.int v26)])) _
        refine XS.istore X21.here hx rfl (hb hby at_210) rfl (l' := #[.val (.long q0), .second, .val (.long q1), .second, .val (.int p2), .val (.int v2), .val (.int v8), .val (.long v12), .second, .val (.long v14), .second, .val (.ref s_SMALL), .val (.int v23), .val (.int v26), .unset]) rfl ?_
        show Steps p.tables e below (T21.setTop (mkF m 212 #[.val (.long q0), .second, .val (.long q1), .second, .val (.int p2), .val (.int v2), .val (.int v8), .val (.long v12), .second, .val (.long v14), .second, .val (.ref s_SMALL), .val (.int v23), .val (.int v26), .unset] [])) _
        refine XS.iload X21.here hx rfl (hb hby at_212) rfl ?_
        show Steps p.tables e below (T21.setTop (mkF m 214 #[.val (.long q0), .second, .val (.long q1), .second, .val (.int p2), .val (.int v2), .val (.int v8), .val (.long v12), .second, .val (.long v14), .second, .val (.ref s_SMALL), .val (.int v23), .val (.int v26), .unset] [(.int v23)])) _
        refine XS.iload X21.here hx rfl (hb hby at_214) rfl ?_
        exact k)
      by_cases hc33 : v23 = v26
      · skip
        have ks34 : own_R p e below (s₁.setTop (entryFrame m #[(.long q0), (.long q1), (.int p2)] maxLocals)) (T21.setTop (mkF m 224 #[.val (.long q0), .second, .val (.long q1), .second, .val (.int p2), .val (.int v2), .val (.int v8), .val (.long v12), .second, .val (.long v14), .second, .val (.ref s_SMALL), .val (.int v23), .val (.int v26), .unset] [(.int (1 : Int32))])) := fun t k => ks32 t (by
          show Steps p.tables e below (T21.setTop (mkF m 216 #[.val (.long q0), .second, .val (.long q1), .second, .val (.int p2), .val (.int v2), .val (.int v8), .val (.long v12), .second, .val (.long v14), .second, .val (.ref s_SMALL), .val (.int v23), .val (.int v26), .unset] [(.int v26), (.int v23)])) _
          refine XS.icmpNo X21.here hx rfl (hb hby at_216) rfl (teq hc33).2 ?_
          show Steps p.tables e below (T21.setTop (mkF m 219 #[.val (.long q0), .second, .val (.long q1), .second, .val (.int p2), .val (.int v2), .val (.int v8), .val (.long v12), .second, .val (.long v14), .second, .val (.ref s_SMALL), .val (.int v23), .val (.int v26), .unset] [])) _
          refine XS.iconst X21.here hx rfl (hb hby at_219) ?_
          show Steps p.tables e below (T21.setTop (mkF m 220 #[.val (.long q0), .second, .val (.long q1), .second, .val (.int p2), .val (.int v2), .val (.int v8), .val (.long v12), .second, .val (.long v14), .second, .val (.ref s_SMALL), .val (.int v23), .val (.int v26), .unset] [(.int (1 : Int32))])) _
          refine XS.goto X21.here hx rfl (pc0 := 220) (pc' := 224) rfl (hb hby at_220) (by decide) (by decide) ?_
          exact k)
        obtain ⟨fs, hr, hrun, hended, hW, hsame⟩ := X21.leave (v := some (.int (1 : Int32))) (fun h => by rw [Bd.returns] at h; cases h)
        refine ⟨_, _, ks34 _ ?_, hrun, hended, _, _, rfl, ?_, ⟨_, rfl⟩, hW, hsame.mono (by decide) (by decide)⟩
        · exact retN X21 hx (t := .boolean) Bd.returns (by simp) (hb hby at_224) hr
        · show Q0 Z q0 q1 p2 s_SMALL s_LARGE h0 n0 _ T21.heap _
          rw [eq21]
          exact ⟨rfl, N21⟩
      · skip
        have ks35 : own_R p e below (s₁.setTop (entryFrame m #[(.long q0), (.long q1), (.int p2)] maxLocals)) (T21.setTop (mkF m 224 #[.val (.long q0), .second, .val (.long q1), .second, .val (.int p2), .val (.int v2), .val (.int v8), .val (.long v12), .second, .val (.long v14), .second, .val (.ref s_SMALL), .val (.int v23), .val (.int v26), .unset] [(.int (0 : Int32))])) := fun t k => ks32 t (by
          show Steps p.tables e below (T21.setTop (mkF m 216 #[.val (.long q0), .second, .val (.long q1), .second, .val (.int p2), .val (.int v2), .val (.int v8), .val (.long v12), .second, .val (.long v14), .second, .val (.ref s_SMALL), .val (.int v23), .val (.int v26), .unset] [(.int v26), (.int v23)])) _
          refine XS.icmpYes X21.here hx rfl (pc0 := 216) (pc' := 223) rfl (hb hby at_216) rfl (feq hc33).2 (by decide) (by decide) ?_
          show Steps p.tables e below (T21.setTop (mkF m 223 #[.val (.long q0), .second, .val (.long q1), .second, .val (.int p2), .val (.int v2), .val (.int v8), .val (.long v12), .second, .val (.long v14), .second, .val (.ref s_SMALL), .val (.int v23), .val (.int v26), .unset] [])) _
          refine XS.iconst X21.here hx rfl (hb hby at_223) ?_
          exact k)
        obtain ⟨fs, hr, hrun, hended, hW, hsame⟩ := X21.leave (v := some (.int (0 : Int32))) (fun h => by rw [Bd.returns] at h; cases h)
        refine ⟨_, _, ks35 _ ?_, hrun, hended, _, _, rfl, ?_, ⟨_, rfl⟩, hW, hsame.mono (by decide) (by decide)⟩
        · exact retN X21 hx (t := .boolean) Bd.returns (by simp) (hb hby at_224) hr
        · show Q0 Z q0 q1 p2 s_SMALL s_LARGE h0 n0 _ T21.heap _
          rw [eq21]
          exfalso
          have l := own_law v12 v14 (by rw [hv12]; exact (own_m53 _).1) (by rw [hv12]; exact (own_m53 _).2) (by rw [hv14]; exact (own_m53 _).1) (by rw [hv14]; exact Int.le_trans (own_m53 _).2 (by decide))
          apply hc33
          rw [hv23, hv26]
          unfold own_holds
          rw [if_neg (Fld.ne F_s_SMALL_ordinal F_s_LARGE_ordinal (by decide))]
          simp only [l.1, l.2.2]
    · skip
      have ks36 : own_R p e below (s₁.setTop (entryFrame m #[(.long q0), (.long q1), (.int p2)] maxLocals)) (s₁.setTop (mkF m 108 #[.val (.long q0), .second, .val (.long q1), .second, .val (.int p2), .val (.int v2), .val (.int v8), .val (.long v12), .second, .val (.long v14), .second, .unset, .unset, .unset, .unset] [])) := fun t k => ks15 t (by
        show Steps p.tables e below (s₁.setTop (mkF m 105 #[.val (.long q0), .second, .val (.long q1), .second, .val (.int p2), .val (.int v2), .val (.int v8), .val (.long v12), .second, .val (.long v14), .second, .unset, .unset, .unset, .unset] [(.int v2)])) _
        refine XS.ifNo X0.here hx rfl (hb hby at_105) rfl ((if0 _ _).trans (feq hc16).1) ?_
        exact k)
      obtain ⟨T37, X37, e37, st37⟩ := getS2 X0 hx hZ hown (host := "") (Or.inl (hw _ (List.mem_of_getElem? (i := 21) rfl))) Via.refl e0 S_s_LARGE (g := (mkF m 108 #[.val (.long q0), .second, .val (.long q1), .second, .val (.int p2), .val (.int v2), .val (.int v8), .val (.long v12), .second, .val (.long v14), .second, .unset, .unset, .unset, .unset] [])) rfl (hb hby at_108)
      have ks38 : own_R p e below (s₁.setTop (entryFrame m #[(.long q0), (.long q1), (.int p2)] maxLocals)) (T37.setTop (mkF m 111 #[.val (.long q0), .second, .val (.long q1), .second, .val (.int p2), .val (.int v2), .val (.int v8), .val (.long v12), .second, .val (.long v14), .second, .unset, .unset, .unset, .unset] [(.ref s_LARGE)])) := fun t k => ks36 t (st37 t k)
      have ks39 : own_R p e below (s₁.setTop (entryFrame m #[(.long q0), (.long q1), (.int p2)] maxLocals)) (T37.setTop (mkF m 125 #[.val (.long q0), .second, .val (.long q1), .second, .val (.int p2), .val (.int v2), .val (.int v8), .val (.long v12), .second, .val (.long v14), .second, .val (.ref s_LARGE), .unset, .unset, .unset] [(.long v14), (.long v12), (.ref s_LARGE)])) := fun t k => ks38 t (by
        show Steps p.tables e below (T37.setTop (mkF m 111 #[.val (.long q0), .second, .val (.long q1), .second, .val (.int p2), .val (.int v2), .val (.int v8), .val (.long v12), .second, .val (.long v14), .second, .unset, .unset, .unset, .unset] [(.ref s_LARGE)])) _
        refine XS.goto X37.here hx rfl (pc0 := 111) (pc' := 117) rfl (hb hby at_111) (by decide) (by decide) ?_
        show Steps p.tables e below (T37.setTop (mkF m 117 #[.val (.long q0), .second, .val (.long q1), .second, .val (.int p2), .val (.int v2), .val (.int v8), .val (.long v12), .second, .val (.long v14), .second, .unset, .unset, .unset, .unset] [(.ref s_LARGE)])) _
        refine XS.astore X37.here hx rfl (hb hby at_117) rfl rfl (l' := #[.val (.long q0), .second, .val (.long q1), .second, .val (.int p2), .val (.int v2), .val (.int v8), .val (.long v12), .second, .val (.long v14), .second, .val (.ref s_LARGE), .unset, .unset, .unset]) rfl ?_
        show Steps p.tables e below (T37.setTop (mkF m 119 #[.val (.long q0), .second, .val (.long q1), .second, .val (.int p2), .val (.int v2), .val (.int v8), .val (.long v12), .second, .val (.long v14), .second, .val (.ref s_LARGE), .unset, .unset, .unset] [])) _
        refine XS.aload X37.here hx rfl (hb hby at_119) rfl rfl ?_
        show Steps p.tables e below (T37.setTop (mkF m 121 #[.val (.long q0), .second, .val (.long q1), .second, .val (.int p2), .val (.int v2), .val (.int v8), .val (.long v12), .second, .val (.long v14), .second, .val (.ref s_LARGE), .unset, .unset, .unset] [(.ref s_LARGE)])) _
        refine XS.lload X37.here hx rfl (hb hby at_121) rfl ?_
        show Steps p.tables e below (T37.setTop (mkF m 123 #[.val (.long q0), .second, .val (.long q1), .second, .val (.int p2), .val (.int v2), .val (.int v8), .val (.long v12), .second, .val (.long v14), .second, .val (.ref s_LARGE), .unset, .unset, .unset] [(.long v12), (.ref s_LARGE)])) _
        refine XS.lload X37.here hx rfl (hb hby at_123) rfl ?_
        exact k)
      obtain ⟨cq40, kq40, q40a, q40b, q40c⟩ := isOf hZ e37 E_s_LARGE
      obtain ⟨_, _, ⟨T40, L40, k40, n40⟩, -, X40, ⟨Lc40, hQ40, lq40, yq40, zq40⟩, st40⟩ := X37.virtualBack hx (y := (⟨"com/example/carved_corpus/carvedcorpus/cli/QuestionPicker$Size", "holds", "(JJ)Z"⟩ : MethodName)) (z := (⟨"com/example/carved_corpus/carvedcorpus/cli/QuestionPicker$Size", "holds", "(JJ)Z"⟩ : MethodName)) hown (mvT hZ (hw _ (List.mem_of_getElem? (i := 4) rfl))) (mvT hZ (hw _ (List.mem_of_getElem? (i := 5) rfl))) (notFace_of_selects (args := #[]) (mvT hZ (hw _ (List.mem_of_getElem? (i := 7) rfl)))) (mvT hZ (hw _ (List.mem_of_getElem? (i := 7) rfl))) (mvT hZ (hw _ (List.mem_of_getElem? (i := 6) rfl))) (by decide) (backOf (W := 0) (rm1 l Z a0 hw [] s_LARGE v12 v14 s_LARGE h0 n0 Z0 S_s_LARGE) hZ (hw _ (List.mem_of_getElem? (i := 8) rfl)) (hw _ (List.mem_of_getElem? (i := 2) rfl)) (by decide) (by decide)) q40a q40c (g := (mkF m 125 #[.val (.long q0), .second, .val (.long q1), .second, .val (.int p2), .val (.int v2), .val (.int v8), .val (.long v12), .second, .val (.long v14), .second, .val (.ref s_LARGE), .unset, .unset, .unset] [(.long v14), (.long v12), (.ref s_LARGE)])) rfl (by rw [hml]; rfl) (Steps.refl _) (argsL := [(.long v12), (.long v14)]) (rest := []) (lenOf pd_0 rfl) rfl (by show 2 * 0 + _ ≤ _; exact Nat.le_of_eq rfl) (hb hby at_125) (fun _ _ => ⟨rfl, e37, (by decide : 0 + 0 ≤ _), (by decide : 0 + 0 ≤ _)⟩)
      dsimp only [Pt.U, Pt.locs, Pt.cells, Pt.slots] at X40 lq40 yq40 zq40 st40 hQ40
      subst lq40 yq40 zq40
      obtain ⟨rfl, Nq40, eq40⟩ := hQ40
      have N40 := Fr.app N0 Nq40
      have ks41 : own_R p e below (s₁.setTop (entryFrame m #[(.long q0), (.long q1), (.int p2)] maxLocals)) (T40.setTop (mkF m 128 #[.val (.long q0), .second, .val (.long q1), .second, .val (.int p2), .val (.int v2), .val (.int v8), .val (.long v12), .second, .val (.long v14), .second, .val (.ref s_LARGE), .unset, .unset, .unset] [(.int (own_holds s_LARGE v12 v14 s_LARGE))])) := fun t k => ks39 t (st40.trans k)
      obtain ⟨v42, hv42⟩ : ∃ z : Int32, z = (own_holds s_LARGE v12 v14 s_LARGE) := ⟨_, rfl⟩
      rw [← hv42] at ks41
      have ks46 : own_R p e below (s₁.setTop (entryFrame m #[(.long q0), (.long q1), (.int p2)] maxLocals)) (T40.setTop (mkF m 148 #[.val (.long q0), .second, .val (.long q1), .second, .val (.int p2), .val (.int v2), .val (.int v8), .val (.long v12), .second, .val (.long v14), .second, .val (.ref s_LARGE), .val (.int v42), .unset, .unset] [(.int (lcmpW v12 ((v14 + (99 : Int64)) / (100 : Int64))))])) := fun t k => ks41 t (by
        show Steps p.tables e below (T40.setTop (mkF m 128 #[.val (.long q0), .second, .val (.long q1), .second, .val (.int p2), .val (.int v2), .val (.int v8), .val (.long v12), .second, .val (.long v14), .second, .val (.ref s_LARGE), .unset, .unset, .unset] [(.int v42)])) _
        refine XS.istore X40.here hx rfl (hb hby at_128) rfl (l' := #[.val (.long q0), .second, .val (.long q1), .second, .val (.int p2), .val (.int v2), .val (.int v8), .val (.long v12), .second, .val (.long v14), .second, .val (.ref s_LARGE), .val (.int v42), .unset, .unset]) rfl ?_
        show Steps p.tables e below (T40.setTop (mkF m 130 #[.val (.long q0), .second, .val (.long q1), .second, .val (.int p2), .val (.int v2), .val (.int v8), .val (.long v12), .second, .val (.long v14), .second, .val (.ref s_LARGE), .val (.int v42), .unset, .unset] [])) _
        refine XS.iload X40.here hx rfl (hb hby at_130) rfl ?_
        show Steps p.tables e below (T40.setTop (mkF m 132 #[.val (.long q0), .second, .val (.long q1), .second, .val (.int p2), .val (.int v2), .val (.int v8), .val (.long v12), .second, .val (.long v14), .second, .val (.ref s_LARGE), .val (.int v42), .unset, .unset] [(.int v2)])) _
        refine XS.ifNo X40.here hx rfl (hb hby at_132) rfl ((if0 _ _).trans (feq hc16).1) ?_
        show Steps p.tables e below (T40.setTop (mkF m 135 #[.val (.long q0), .second, .val (.long q1), .second, .val (.int p2), .val (.int v2), .val (.int v8), .val (.long v12), .second, .val (.long v14), .second, .val (.ref s_LARGE), .val (.int v42), .unset, .unset] [])) _
        refine XS.lload X40.here hx rfl (hb hby at_135) rfl ?_
        show Steps p.tables e below (T40.setTop (mkF m 137 #[.val (.long q0), .second, .val (.long q1), .second, .val (.int p2), .val (.int v2), .val (.int v8), .val (.long v12), .second, .val (.long v14), .second, .val (.ref s_LARGE), .val (.int v42), .unset, .unset] [(.long v12)])) _
        refine XS.lload X40.here hx rfl (hb hby at_137) rfl ?_
        show Steps p.tables e below (T40.setTop (mkF m 139 #[.val (.long q0), .second, .val (.long q1), .second, .val (.int p2), .val (.int v2), .val (.int v8), .val (.long v12), .second, .val (.long v14), .second, .val (.ref s_LARGE), .val (.int v42), .unset, .unset] [(.long v14), (.long v12)])) _
        refine X40.ldc2Long hx hown (mvT hZ (hw _ (List.mem_of_getElem? (i := 12) rfl))) (g := (mkF m 139 #[.val (.long q0), .second, .val (.long q1), .second, .val (.int p2), .val (.int v2), .val (.int v8), .val (.long v12), .second, .val (.long v14), .second, .val (.ref s_LARGE), .val (.int v42), .unset, .unset] [(.long v14), (.long v12)])) rfl (hb hby at_139) _ ?_
        show Steps p.tables e below (T40.setTop (mkF m 142 #[.val (.long q0), .second, .val (.long q1), .second, .val (.int p2), .val (.int v2), .val (.int v8), .val (.long v12), .second, .val (.long v14), .second, .val (.ref s_LARGE), .val (.int v42), .unset, .unset] [(.long (99 : Int64)), (.long v14), (.long v12)])) _
        refine XS.ladd X40.here hx rfl (hb hby at_142) rfl ?_
        show Steps p.tables e below (T40.setTop (mkF m 143 #[.val (.long q0), .second, .val (.long q1), .second, .val (.int p2), .val (.int v2), .val (.int v8), .val (.long v12), .second, .val (.long v14), .second, .val (.ref s_LARGE), .val (.int v42), .unset, .unset] [(.long (v14 + (99 : Int64))), (.long v12)])) _
        refine X40.ldc2Long hx hown (mvT hZ (hw _ (List.mem_of_getElem? (i := 13) rfl))) (g := (mkF m 143 #[.val (.long q0), .second, .val (.long q1), .second, .val (.int p2), .val (.int v2), .val (.int v8), .val (.long v12), .second, .val (.long v14), .second, .val (.ref s_LARGE), .val (.int v42), .unset, .unset] [(.long (v14 + (99 : Int64))), (.long v12)])) rfl (hb hby at_143) _ ?_
        show Steps p.tables e below (T40.setTop (mkF m 146 #[.val (.long q0), .second, .val (.long q1), .second, .val (.int p2), .val (.int v2), .val (.int v8), .val (.long v12), .second, .val (.long v14), .second, .val (.ref s_LARGE), .val (.int v42), .unset, .unset] [(.long (100 : Int64)), (.long (v14 + (99 : Int64))), (.long v12)])) _
        refine XS.ldiv X40.here hx rfl (hb hby at_146) rfl (by decide) ?_
        show Steps p.tables e below (T40.setTop (mkF m 147 #[.val (.long q0), .second, .val (.long q1), .second, .val (.int p2), .val (.int v2), .val (.int v8), .val (.long v12), .second, .val (.long v14), .second, .val (.ref s_LARGE), .val (.int v42), .unset, .unset] [(.long ((v14 + (99 : Int64)) / (100 : Int64))), (.long v12)])) _
        refine XS.lcmp X40.here hx rfl (hb hby at_147) rfl ?_
        exact k)
      obtain ⟨v45, hv45⟩ : ∃ z : Int32, z = (if v12 < ((v14 + (99 : Int64)) / (100 : Int64)) then (0 : Int32) else (if (v14 / (2 : Int64)) < v12 then (0 : Int32) else (1 : Int32))) := ⟨_, rfl⟩
      have ks47 : own_R p e below (s₁.setTop (entryFrame m #[(.long q0), (.long q1), (.int p2)] maxLocals)) (T40.setTop (mkF m 168 #[.val (.long q0), .second, .val (.long q1), .second, .val (.int p2), .val (.int v2), .val (.int v8), .val (.long v12), .second, .val (.long v14), .second, .val (.ref s_LARGE), .val (.int v42), .unset, .unset] [(.int v45)])) := fun t k => ks46 t (by
        by_cases hc43 : v12 < ((v14 + (99 : Int64)) / (100 : Int64))
        · skip
          have qq48 : v45 = (0 : Int32) := by rw [hv45, if_pos hc43]
          rw [qq48] at k
          show Steps p.tables e below (T40.setTop (mkF m 148 #[.val (.long q0), .second, .val (.long q1), .second, .val (.int p2), .val (.int v2), .val (.int v8), .val (.long v12), .second, .val (.long v14), .second, .val (.ref s_LARGE), .val (.int v42), .unset, .unset] [(.int (lcmpW v12 ((v14 + (99 : Int64)) / (100 : Int64))))])) _
          refine XS.ifYes X40.here hx rfl (pc0 := 148) (pc' := 167) rfl (hb hby at_148) rfl ((if0 _ _).trans (tlt ((lw_lt _ _).mpr hc43)).1) (by decide) (by decide) ?_
          show Steps p.tables e below (T40.setTop (mkF m 167 #[.val (.long q0), .second, .val (.long q1), .second, .val (.int p2), .val (.int v2), .val (.int v8), .val (.long v12), .second, .val (.long v14), .second, .val (.ref s_LARGE), .val (.int v42), .unset, .unset] [])) _
          refine XS.iconst X40.here hx rfl (hb hby at_167) ?_
          exact k
        · skip
          show Steps p.tables e below (T40.setTop (mkF m 148 #[.val (.long q0), .second, .val (.long q1), .second, .val (.int p2), .val (.int v2), .val (.int v8), .val (.long v12), .second, .val (.long v14), .second, .val (.ref s_LARGE), .val (.int v42), .unset, .unset] [(.int (lcmpW v12 ((v14 + (99 : Int64)) / (100 : Int64))))])) _
          refine XS.ifNo X40.here hx rfl (hb hby at_148) rfl ((if0 _ _).trans (flt (fun q => hc43 ((lw_lt _ _).mp q))).1) ?_
          show Steps p.tables e below (T40.setTop (mkF m 151 #[.val (.long q0), .second, .val (.long q1), .second, .val (.int p2), .val (.int v2), .val (.int v8), .val (.long v12), .second, .val (.long v14), .second, .val (.ref s_LARGE), .val (.int v42), .unset, .unset] [])) _
          refine XS.lload X40.here hx rfl (hb hby at_151) rfl ?_
          show Steps p.tables e below (T40.setTop (mkF m 153 #[.val (.long q0), .second, .val (.long q1), .second, .val (.int p2), .val (.int v2), .val (.int v8), .val (.long v12), .second, .val (.long v14), .second, .val (.ref s_LARGE), .val (.int v42), .unset, .unset] [(.long v12)])) _
          refine XS.lload X40.here hx rfl (hb hby at_153) rfl ?_
          show Steps p.tables e below (T40.setTop (mkF m 155 #[.val (.long q0), .second, .val (.long q1), .second, .val (.int p2), .val (.int v2), .val (.int v8), .val (.long v12), .second, .val (.long v14), .second, .val (.ref s_LARGE), .val (.int v42), .unset, .unset] [(.long v14), (.long v12)])) _
          refine X40.ldc2Long hx hown (mvT hZ (hw _ (List.mem_of_getElem? (i := 22) rfl))) (g := (mkF m 155 #[.val (.long q0), .second, .val (.long q1), .second, .val (.int p2), .val (.int v2), .val (.int v8), .val (.long v12), .second, .val (.long v14), .second, .val (.ref s_LARGE), .val (.int v42), .unset, .unset] [(.long v14), (.long v12)])) rfl (hb hby at_155) _ ?_
          show Steps p.tables e below (T40.setTop (mkF m 158 #[.val (.long q0), .second, .val (.long q1), .second, .val (.int p2), .val (.int v2), .val (.int v8), .val (.long v12), .second, .val (.long v14), .second, .val (.ref s_LARGE), .val (.int v42), .unset, .unset] [(.long (2 : Int64)), (.long v14), (.long v12)])) _
          refine XS.ldiv X40.here hx rfl (hb hby at_158) rfl (by decide) ?_
          show Steps p.tables e below (T40.setTop (mkF m 159 #[.val (.long q0), .second, .val (.long q1), .second, .val (.int p2), .val (.int v2), .val (.int v8), .val (.long v12), .second, .val (.long v14), .second, .val (.ref s_LARGE), .val (.int v42), .unset, .unset] [(.long (v14 / (2 : Int64))), (.long v12)])) _
          refine XS.lcmp X40.here hx rfl (hb hby at_159) rfl ?_
          by_cases hc44 : (v14 / (2 : Int64)) < v12
          · skip
            have qq49 : v45 = (0 : Int32) := by rw [hv45, if_neg hc43, if_pos hc44]
            rw [qq49] at k
            show Steps p.tables e below (T40.setTop (mkF m 160 #[.val (.long q0), .second, .val (.long q1), .second, .val (.int p2), .val (.int v2), .val (.int v8), .val (.long v12), .second, .val (.long v14), .second, .val (.ref s_LARGE), .val (.int v42), .unset, .unset] [(.int (lcmpW v12 (v14 / (2 : Int64))))])) _
            refine XS.ifYes X40.here hx rfl (pc0 := 160) (pc' := 167) rfl (hb hby at_160) rfl ((if0 _ _).trans (tlt ((lw_gt _ _).mpr hc44)).2.2.1) (by decide) (by decide) ?_
            show Steps p.tables e below (T40.setTop (mkF m 167 #[.val (.long q0), .second, .val (.long q1), .second, .val (.int p2), .val (.int v2), .val (.int v8), .val (.long v12), .second, .val (.long v14), .second, .val (.ref s_LARGE), .val (.int v42), .unset, .unset] [])) _
            refine XS.iconst X40.here hx rfl (hb hby at_167) ?_
            exact k
          · skip
            have qq50 : v45 = (1 : Int32) := by rw [hv45, if_neg hc43, if_neg hc44]
            rw [qq50] at k
            show Steps p.tables e below (T40.setTop (mkF m 160 #[.val (.long q0), .second, .val (.long q1), .second, .val (.int p2), .val (.int v2), .val (.int v8), .val (.long v12), .second, .val (.long v14), .second, .val (.ref s_LARGE), .val (.int v42), .unset, .unset] [(.int (lcmpW v12 (v14 / (2 : Int64))))])) _
            refine XS.ifNo X40.here hx rfl (hb hby at_160) rfl ((if0 _ _).trans (flt (fun q => hc44 ((lw_gt _ _).mp q))).2.2.1) ?_
            show Steps p.tables e below (T40.setTop (mkF m 163 #[.val (.long q0), .second, .val (.long q1), .second, .val (.int p2), .val (.int v2), .val (.int v8), .val (.long v12), .second, .val (.long v14), .second, .val (.ref s_LARGE), .val (.int v42), .unset, .unset] [])) _
            refine XS.iconst X40.here hx rfl (hb hby at_163) ?_
            show Steps p.tables e below (T40.setTop (mkF m 164 #[.val (.long q0), .second, .val (.long q1), .second, .val (.int p2), .val (.int v2), .val (.int v8), .val (.long v12), .second, .val (.long v14), .second, .val (.ref s_LARGE), .val (.int v42), .unset, .unset] [(.int (1 : Int32))])) _
            refine XS.goto X40.here hx rfl (pc0 := 164) (pc' := 168) rfl (hb hby at_164) (by decide) (by decide) ?_
            exact k)
      have ks51 : own_R p e below (s₁.setTop (entryFrame m #[(.long q0), (.long q1), (.int p2)] maxLocals)) (T40.setTop (mkF m 216 #[.val (.long q0), .second, .val (.long q1), .second, .val (.int p2), .val (.int v2), .val (.int v8), .val (.long v12), .second, .val (.long v14), .second, .val (.ref s_LARGE), .val (.int v42), .val (.int v45), .unset] [(.int v45), (.int v42)])) := fun t k => ks47 t (by
        show Steps p.tables e below (T40.setTop (mkF m 168 #[.val (.long q0), .second, .val (.long q1), .second, .val (.int p2), .val (.int v2), .val (.int v8), .val (.long v12), .second, .val (.long v14), .second, .val (.ref s_LARGE), .val (.int v42), .unset, .unset] [(.int v45)])) _
        refine XS.istore X40.here hx rfl (hb hby at_168) rfl (l' := #[.val (.long q0), .second, .val (.long q1), .second, .val (.int p2), .val (.int v2), .val (.int v8), .val (.long v12), .second, .val (.long v14), .second, .val (.ref s_LARGE), .val (.int v42), .val (.int v45), .unset]) rfl ?_
        show Steps p.tables e below (T40.setTop (mkF m 170 #[.val (.long q0), .second, .val (.long q1), .second, .val (.int p2), .val (.int v2), .val (.int v8), .val (.long v12), .second, .val (.long v14), .second, .val (.ref s_LARGE), .val (.int v42), .val (.int v45), .unset] [])) _
        refine XS.goto X40.here hx rfl (pc0 := 170) (pc' := 212) rfl (hb hby at_170) (by decide) (by decide) ?_
        show Steps p.tables e below (T40.setTop (mkF m 212 #[.val (.long q0), .second, .val (.long q1), .second, .val (.int p2), .val (.int v2), .val (.int v8), .val (.long v12), .second, .val (.long v14), .second, .val (.ref s_LARGE), .val (.int v42), .val (.int v45), .unset] [])) _
        refine XS.iload X40.here hx rfl (hb hby at_212) rfl ?_
        show Steps p.tables e below (T40.setTop (mkF m 214 #[.val (.long q0), .second, .val (.long q1), .second, .val (.int p2), .val (.int v2), .val (.int v8), .val (.long v12), .second, .val (.long v14), .second, .val (.ref s_LARGE), .val (.int v42), .val (.int v45), .unset] [(.int v42)])) _
        refine XS.iload X40.here hx rfl (hb hby at_214) rfl ?_
        exact k)
      by_cases hc52 : v42 = v45
      · skip
        have ks53 : own_R p e below (s₁.setTop (entryFrame m #[(.long q0), (.long q1), (.int p2)] maxLocals)) (T40.setTop (mkF m 224 #[.val (.long q0), .second, .val (.long q1), .second, .val (.int p2), .val (.int v2), .val (.int v8), .val (.long v12), .second, .val (.long v14), .second, .val (.ref s_LARGE), .val (.int v42), .val (.int v45), .unset] [(.int (1 : Int32))])) := fun t k => ks51 t (by
          show Steps p.tables e below (T40.setTop (mkF m 216 #[.val (.long q0), .second, .val (.long q1), .second, .val (.int p2), .val (.int v2), .val (.int v8), .val (.long v12), .second, .val (.long v14), .second, .val (.ref s_LARGE), .val (.int v42), .val (.int v45), .unset] [(.int v45), (.int v42)])) _
          refine XS.icmpNo X40.here hx rfl (hb hby at_216) rfl (teq hc52).2 ?_
          show Steps p.tables e below (T40.setTop (mkF m 219 #[.val (.long q0), .second, .val (.long q1), .second, .val (.int p2), .val (.int v2), .val (.int v8), .val (.long v12), .second, .val (.long v14), .second, .val (.ref s_LARGE), .val (.int v42), .val (.int v45), .unset] [])) _
          refine XS.iconst X40.here hx rfl (hb hby at_219) ?_
          show Steps p.tables e below (T40.setTop (mkF m 220 #[.val (.long q0), .second, .val (.long q1), .second, .val (.int p2), .val (.int v2), .val (.int v8), .val (.long v12), .second, .val (.long v14), .second, .val (.ref s_LARGE), .val (.int v42), .val (.int v45), .unset] [(.int (1 : Int32))])) _
          refine XS.goto X40.here hx rfl (pc0 := 220) (pc' := 224) rfl (hb hby at_220) (by decide) (by decide) ?_
          exact k)
        obtain ⟨fs, hr, hrun, hended, hW, hsame⟩ := X40.leave (v := some (.int (1 : Int32))) (fun h => by rw [Bd.returns] at h; cases h)
        refine ⟨_, _, ks53 _ ?_, hrun, hended, _, _, rfl, ?_, ⟨_, rfl⟩, hW, hsame.mono (by decide) (by decide)⟩
        · exact retN X40 hx (t := .boolean) Bd.returns (by simp) (hb hby at_224) hr
        · show Q0 Z q0 q1 p2 s_SMALL s_LARGE h0 n0 _ T40.heap _
          rw [eq40]
          exact ⟨rfl, N40⟩
      · skip
        have ks54 : own_R p e below (s₁.setTop (entryFrame m #[(.long q0), (.long q1), (.int p2)] maxLocals)) (T40.setTop (mkF m 224 #[.val (.long q0), .second, .val (.long q1), .second, .val (.int p2), .val (.int v2), .val (.int v8), .val (.long v12), .second, .val (.long v14), .second, .val (.ref s_LARGE), .val (.int v42), .val (.int v45), .unset] [(.int (0 : Int32))])) := fun t k => ks51 t (by
          show Steps p.tables e below (T40.setTop (mkF m 216 #[.val (.long q0), .second, .val (.long q1), .second, .val (.int p2), .val (.int v2), .val (.int v8), .val (.long v12), .second, .val (.long v14), .second, .val (.ref s_LARGE), .val (.int v42), .val (.int v45), .unset] [(.int v45), (.int v42)])) _
          refine XS.icmpYes X40.here hx rfl (pc0 := 216) (pc' := 223) rfl (hb hby at_216) rfl (feq hc52).2 (by decide) (by decide) ?_
          show Steps p.tables e below (T40.setTop (mkF m 223 #[.val (.long q0), .second, .val (.long q1), .second, .val (.int p2), .val (.int v2), .val (.int v8), .val (.long v12), .second, .val (.long v14), .second, .val (.ref s_LARGE), .val (.int v42), .val (.int v45), .unset] [])) _
          refine XS.iconst X40.here hx rfl (hb hby at_223) ?_
          exact k)
        obtain ⟨fs, hr, hrun, hended, hW, hsame⟩ := X40.leave (v := some (.int (0 : Int32))) (fun h => by rw [Bd.returns] at h; cases h)
        refine ⟨_, _, ks54 _ ?_, hrun, hended, _, _, rfl, ?_, ⟨_, rfl⟩, hW, hsame.mono (by decide) (by decide)⟩
        · exact retN X40 hx (t := .boolean) Bd.returns (by simp) (hb hby at_224) hr
        · show Q0 Z q0 q1 p2 s_SMALL s_LARGE h0 n0 _ T40.heap _
          rw [eq40]
          exfalso
          have l := own_law v12 v14 (by rw [hv12]; exact (own_m53 _).1) (by rw [hv12]; exact (own_m53 _).2) (by rw [hv14]; exact (own_m53 _).1) (by rw [hv14]; exact Int.le_trans (own_m53 _).2 (by decide))
          apply hc52
          rw [hv42, hv45]
          unfold own_holds
          rw [if_pos rfl]
          simp only [l.1, l.2.1]
  · skip
    have ks55 : own_R p e below (s₁.setTop (entryFrame m #[(.long q0), (.long q1), (.int p2)] maxLocals)) (s₁.setTop (mkF m 49 #[.val (.long q0), .second, .val (.long q1), .second, .val (.int p2), .val (.int v2), .val (.int v8), .unset, .unset, .unset, .unset, .unset, .unset, .unset, .unset] [(.long (q0 &&& (1099511627775 : Int64)))])) := fun t k => ks9 t (by
      show Steps p.tables e below (s₁.setTop (mkF m 24 #[.val (.long q0), .second, .val (.long q1), .second, .val (.int p2), .val (.int v2), .val (.int v8), .unset, .unset, .unset, .unset, .unset, .unset, .unset, .unset] [(.int v8)])) _
      refine XS.ifYes X0.here hx rfl (pc0 := 24) (pc' := 44) rfl (hb hby at_24) rfl ((if0 _ _).trans (feq hc10).2) (by decide) (by decide) ?_
      show Steps p.tables e below (s₁.setTop (mkF m 44 #[.val (.long q0), .second, .val (.long q1), .second, .val (.int p2), .val (.int v2), .val (.int v8), .unset, .unset, .unset, .unset, .unset, .unset, .unset, .unset] [])) _
      refine XS.lloadN X0.here hx rfl (hb hby at_44) rfl ?_
      show Steps p.tables e below (s₁.setTop (mkF m 45 #[.val (.long q0), .second, .val (.long q1), .second, .val (.int p2), .val (.int v2), .val (.int v8), .unset, .unset, .unset, .unset, .unset, .unset, .unset, .unset] [(.long q0)])) _
      refine X0.ldc2Long hx hown (mvT hZ (hw _ (List.mem_of_getElem? (i := 14) rfl))) (g := (mkF m 45 #[.val (.long q0), .second, .val (.long q1), .second, .val (.int p2), .val (.int v2), .val (.int v8), .unset, .unset, .unset, .unset, .unset, .unset, .unset, .unset] [(.long q0)])) rfl (hb hby at_45) _ ?_
      show Steps p.tables e below (s₁.setTop (mkF m 48 #[.val (.long q0), .second, .val (.long q1), .second, .val (.int p2), .val (.int v2), .val (.int v8), .unset, .unset, .unset, .unset, .unset, .unset, .unset, .unset] [(.long (1099511627775 : Int64)), (.long q0)])) _
      refine XS.land X0.here hx rfl (hb hby at_48) rfl ?_
      exact k)
    obtain ⟨v56, hv56⟩ : ∃ z : Int64, z = (q0 &&& (1099511627775 : Int64)) := ⟨_, rfl⟩
    rw [← hv56] at ks55
    have ks60 : own_R p e below (s₁.setTop (entryFrame m #[(.long q0), (.long q1), (.int p2)] maxLocals)) (s₁.setTop (mkF m 54 #[.val (.long q0), .second, .val (.long q1), .second, .val (.int p2), .val (.int v2), .val (.int v8), .val (.long v56), .second, .unset, .unset, .unset, .unset, .unset, .unset] [(.int (1 : Int32)), (.int v8)])) := fun t k => ks55 t (by
      show Steps p.tables e below (s₁.setTop (mkF m 49 #[.val (.long q0), .second, .val (.long q1), .second, .val (.int p2), .val (.int v2), .val (.int v8), .unset, .unset, .unset, .unset, .unset, .unset, .unset, .unset] [(.long v56)])) _
      refine XS.lstore X0.here hx rfl (hb hby at_49) rfl (l' := #[.val (.long q0), .second, .val (.long q1), .second, .val (.int p2), .val (.int v2), .val (.int v8), .val (.long v56), .second, .unset, .unset, .unset, .unset, .unset, .unset]) rfl ?_
      show Steps p.tables e below (s₁.setTop (mkF m 51 #[.val (.long q0), .second, .val (.long q1), .second, .val (.int p2), .val (.int v2), .val (.int v8), .val (.long v56), .second, .unset, .unset, .unset, .unset, .unset, .unset] [])) _
      refine XS.iload X0.here hx rfl (hb hby at_51) rfl ?_
      show Steps p.tables e below (s₁.setTop (mkF m 53 #[.val (.long q0), .second, .val (.long q1), .second, .val (.int p2), .val (.int v2), .val (.int v8), .val (.long v56), .second, .unset, .unset, .unset, .unset, .unset, .unset] [(.int v8)])) _
      refine XS.iconst X0.here hx rfl (hb hby at_53) ?_
      exact k)
    obtain ⟨v59, hv59⟩ : ∃ z : Int64, z = (if v8 = (1 : Int32) then (2 : Int64) else (if v8 = (2 : Int32) then (100 : Int64) else (1000 : Int64))) := ⟨_, rfl⟩
    have ks61 : own_R p e below (s₁.setTop (entryFrame m #[(.long q0), (.long q1), (.int p2)] maxLocals)) (s₁.setTop (mkF m 78 #[.val (.long q0), .second, .val (.long q1), .second, .val (.int p2), .val (.int v2), .val (.int v8), .val (.long v56), .second, .unset, .unset, .unset, .unset, .unset, .unset] [(.long v59)])) := fun t k => ks60 t (by
      by_cases hc57 : v8 = (1 : Int32)
      · skip
        have qq62 : v59 = (2 : Int64) := by rw [hv59, if_pos hc57]
        rw [qq62] at k
        show Steps p.tables e below (s₁.setTop (mkF m 54 #[.val (.long q0), .second, .val (.long q1), .second, .val (.int p2), .val (.int v2), .val (.int v8), .val (.long v56), .second, .unset, .unset, .unset, .unset, .unset, .unset] [(.int (1 : Int32)), (.int v8)])) _
        refine XS.icmpNo X0.here hx rfl (hb hby at_54) rfl (teq hc57).2 ?_
        show Steps p.tables e below (s₁.setTop (mkF m 57 #[.val (.long q0), .second, .val (.long q1), .second, .val (.int p2), .val (.int v2), .val (.int v8), .val (.long v56), .second, .unset, .unset, .unset, .unset, .unset, .unset] [])) _
        refine X0.ldc2Long hx hown (mvT hZ (hw _ (List.mem_of_getElem? (i := 22) rfl))) (g := (mkF m 57 #[.val (.long q0), .second, .val (.long q1), .second, .val (.int p2), .val (.int v2), .val (.int v8), .val (.long v56), .second, .unset, .unset, .unset, .unset, .unset, .unset] [])) rfl (hb hby at_57) _ ?_
        show Steps p.tables e below (s₁.setTop (mkF m 60 #[.val (.long q0), .second, .val (.long q1), .second, .val (.int p2), .val (.int v2), .val (.int v8), .val (.long v56), .second, .unset, .unset, .unset, .unset, .unset, .unset] [(.long (2 : Int64))])) _
        refine XS.goto X0.here hx rfl (pc0 := 60) (pc' := 78) rfl (hb hby at_60) (by decide) (by decide) ?_
        exact k
      · skip
        show Steps p.tables e below (s₁.setTop (mkF m 54 #[.val (.long q0), .second, .val (.long q1), .second, .val (.int p2), .val (.int v2), .val (.int v8), .val (.long v56), .second, .unset, .unset, .unset, .unset, .unset, .unset] [(.int (1 : Int32)), (.int v8)])) _
        refine XS.icmpYes X0.here hx rfl (pc0 := 54) (pc' := 63) rfl (hb hby at_54) rfl (feq hc57).2 (by decide) (by decide) ?_
        show Steps p.tables e below (s₁.setTop (mkF m 63 #[.val (.long q0), .second, .val (.long q1), .second, .val (.int p2), .val (.int v2), .val (.int v8), .val (.long v56), .second, .unset, .unset, .unset, .unset, .unset, .unset] [])) _
        refine XS.iload X0.here hx rfl (hb hby at_63) rfl ?_
        show Steps p.tables e below (s₁.setTop (mkF m 65 #[.val (.long q0), .second, .val (.long q1), .second, .val (.int p2), .val (.int v2), .val (.int v8), .val (.long v56), .second, .unset, .unset, .unset, .unset, .unset, .unset] [(.int v8)])) _
        refine XS.iconst X0.here hx rfl (hb hby at_65) ?_
        by_cases hc58 : v8 = (2 : Int32)
        · skip
          have qq63 : v59 = (100 : Int64) := by rw [hv59, if_neg hc57, if_pos hc58]
          rw [qq63] at k
          show Steps p.tables e below (s₁.setTop (mkF m 66 #[.val (.long q0), .second, .val (.long q1), .second, .val (.int p2), .val (.int v2), .val (.int v8), .val (.long v56), .second, .unset, .unset, .unset, .unset, .unset, .unset] [(.int (2 : Int32)), (.int v8)])) _
          refine XS.icmpNo X0.here hx rfl (hb hby at_66) rfl (teq hc58).2 ?_
          show Steps p.tables e below (s₁.setTop (mkF m 69 #[.val (.long q0), .second, .val (.long q1), .second, .val (.int p2), .val (.int v2), .val (.int v8), .val (.long v56), .second, .unset, .unset, .unset, .unset, .unset, .unset] [])) _
          refine X0.ldc2Long hx hown (mvT hZ (hw _ (List.mem_of_getElem? (i := 13) rfl))) (g := (mkF m 69 #[.val (.long q0), .second, .val (.long q1), .second, .val (.int p2), .val (.int v2), .val (.int v8), .val (.long v56), .second, .unset, .unset, .unset, .unset, .unset, .unset] [])) rfl (hb hby at_69) _ ?_
          show Steps p.tables e below (s₁.setTop (mkF m 72 #[.val (.long q0), .second, .val (.long q1), .second, .val (.int p2), .val (.int v2), .val (.int v8), .val (.long v56), .second, .unset, .unset, .unset, .unset, .unset, .unset] [(.long (100 : Int64))])) _
          refine XS.goto X0.here hx rfl (pc0 := 72) (pc' := 78) rfl (hb hby at_72) (by decide) (by decide) ?_
          exact k
        · skip
          have qq64 : v59 = (1000 : Int64) := by rw [hv59, if_neg hc57, if_neg hc58]
          rw [qq64] at k
          show Steps p.tables e below (s₁.setTop (mkF m 66 #[.val (.long q0), .second, .val (.long q1), .second, .val (.int p2), .val (.int v2), .val (.int v8), .val (.long v56), .second, .unset, .unset, .unset, .unset, .unset, .unset] [(.int (2 : Int32)), (.int v8)])) _
          refine XS.icmpYes X0.here hx rfl (pc0 := 66) (pc' := 75) rfl (hb hby at_66) rfl (feq hc58).2 (by decide) (by decide) ?_
          show Steps p.tables e below (s₁.setTop (mkF m 75 #[.val (.long q0), .second, .val (.long q1), .second, .val (.int p2), .val (.int v2), .val (.int v8), .val (.long v56), .second, .unset, .unset, .unset, .unset, .unset, .unset] [])) _
          refine X0.ldc2Long hx hown (mvT hZ (hw _ (List.mem_of_getElem? (i := 15) rfl))) (g := (mkF m 75 #[.val (.long q0), .second, .val (.long q1), .second, .val (.int p2), .val (.int v2), .val (.int v8), .val (.long v56), .second, .unset, .unset, .unset, .unset, .unset, .unset] [])) rfl (hb hby at_75) _ ?_
          exact k)
    have ks65 : own_R p e below (s₁.setTop (entryFrame m #[(.long q0), (.long q1), (.int p2)] maxLocals)) (s₁.setTop (mkF m 87 #[.val (.long q0), .second, .val (.long q1), .second, .val (.int p2), .val (.int v2), .val (.int v8), .val (.long v56), .second, .unset, .unset, .val (.long v59), .second, .unset, .unset] [(.long ((q1 &&& (3 : Int64)) - (1 : Int64)))])) := fun t k => ks61 t (by
      show Steps p.tables e below (s₁.setTop (mkF m 78 #[.val (.long q0), .second, .val (.long q1), .second, .val (.int p2), .val (.int v2), .val (.int v8), .val (.long v56), .second, .unset, .unset, .unset, .unset, .unset, .unset] [(.long v59)])) _
      refine XS.lstore X0.here hx rfl (hb hby at_78) rfl (l' := #[.val (.long q0), .second, .val (.long q1), .second, .val (.int p2), .val (.int v2), .val (.int v8), .val (.long v56), .second, .unset, .unset, .val (.long v59), .second, .unset, .unset]) rfl ?_
      show Steps p.tables e below (s₁.setTop (mkF m 80 #[.val (.long q0), .second, .val (.long q1), .second, .val (.int p2), .val (.int v2), .val (.int v8), .val (.long v56), .second, .unset, .unset, .val (.long v59), .second, .unset, .unset] [])) _
      refine XS.lloadN X0.here hx rfl (hb hby at_80) rfl ?_
      show Steps p.tables e below (s₁.setTop (mkF m 81 #[.val (.long q0), .second, .val (.long q1), .second, .val (.int p2), .val (.int v2), .val (.int v8), .val (.long v56), .second, .unset, .unset, .val (.long v59), .second, .unset, .unset] [(.long q1)])) _
      refine X0.ldc2Long hx hown (mvT hZ (hw _ (List.mem_of_getElem? (i := 16) rfl))) (g := (mkF m 81 #[.val (.long q0), .second, .val (.long q1), .second, .val (.int p2), .val (.int v2), .val (.int v8), .val (.long v56), .second, .unset, .unset, .val (.long v59), .second, .unset, .unset] [(.long q1)])) rfl (hb hby at_81) _ ?_
      show Steps p.tables e below (s₁.setTop (mkF m 84 #[.val (.long q0), .second, .val (.long q1), .second, .val (.int p2), .val (.int v2), .val (.int v8), .val (.long v56), .second, .unset, .unset, .val (.long v59), .second, .unset, .unset] [(.long (3 : Int64)), (.long q1)])) _
      refine XS.land X0.here hx rfl (hb hby at_84) rfl ?_
      show Steps p.tables e below (s₁.setTop (mkF m 85 #[.val (.long q0), .second, .val (.long q1), .second, .val (.int p2), .val (.int v2), .val (.int v8), .val (.long v56), .second, .unset, .unset, .val (.long v59), .second, .unset, .unset] [(.long (q1 &&& (3 : Int64)))])) _
      refine XS.lconst X0.here hx rfl (hb hby at_85) ?_
      show Steps p.tables e below (s₁.setTop (mkF m 86 #[.val (.long q0), .second, .val (.long q1), .second, .val (.int p2), .val (.int v2), .val (.int v8), .val (.long v56), .second, .unset, .unset, .val (.long v59), .second, .unset, .unset] [(.long (1 : Int64)), (.long (q1 &&& (3 : Int64)))])) _
      refine XS.lsub X0.here hx rfl (hb hby at_86) rfl ?_
      exact k)
    obtain ⟨v66, hv66⟩ : ∃ z : Int64, z = ((q1 &&& (3 : Int64)) - (1 : Int64)) := ⟨_, rfl⟩
    rw [← hv66] at ks65
    have ks67 : own_R p e below (s₁.setTop (entryFrame m #[(.long q0), (.long q1), (.int p2)] maxLocals)) (s₁.setTop (mkF m 98 #[.val (.long q0), .second, .val (.long q1), .second, .val (.int p2), .val (.int v2), .val (.int v8), .val (.long v56), .second, .unset, .unset, .val (.long v59), .second, .val (.long v66), .second] [(.long ((v59 * v56) + v66)), (.long (0 : Int64))])) := fun t k => ks65 t (by
      show Steps p.tables e below (s₁.setTop (mkF m 87 #[.val (.long q0), .second, .val (.long q1), .second, .val (.int p2), .val (.int v2), .val (.int v8), .val (.long v56), .second, .unset, .unset, .val (.long v59), .second, .unset, .unset] [(.long v66)])) _
      refine XS.lstore X0.here hx rfl (hb hby at_87) rfl (l' := #[.val (.long q0), .second, .val (.long q1), .second, .val (.int p2), .val (.int v2), .val (.int v8), .val (.long v56), .second, .unset, .unset, .val (.long v59), .second, .val (.long v66), .second]) rfl ?_
      show Steps p.tables e below (s₁.setTop (mkF m 89 #[.val (.long q0), .second, .val (.long q1), .second, .val (.int p2), .val (.int v2), .val (.int v8), .val (.long v56), .second, .unset, .unset, .val (.long v59), .second, .val (.long v66), .second] [])) _
      refine XS.lconst X0.here hx rfl (hb hby at_89) ?_
      show Steps p.tables e below (s₁.setTop (mkF m 90 #[.val (.long q0), .second, .val (.long q1), .second, .val (.int p2), .val (.int v2), .val (.int v8), .val (.long v56), .second, .unset, .unset, .val (.long v59), .second, .val (.long v66), .second] [(.long (0 : Int64))])) _
      refine XS.lload X0.here hx rfl (hb hby at_90) rfl ?_
      show Steps p.tables e below (s₁.setTop (mkF m 92 #[.val (.long q0), .second, .val (.long q1), .second, .val (.int p2), .val (.int v2), .val (.int v8), .val (.long v56), .second, .unset, .unset, .val (.long v59), .second, .val (.long v66), .second] [(.long v59), (.long (0 : Int64))])) _
      refine XS.lload X0.here hx rfl (hb hby at_92) rfl ?_
      show Steps p.tables e below (s₁.setTop (mkF m 94 #[.val (.long q0), .second, .val (.long q1), .second, .val (.int p2), .val (.int v2), .val (.int v8), .val (.long v56), .second, .unset, .unset, .val (.long v59), .second, .val (.long v66), .second] [(.long v56), (.long v59), (.long (0 : Int64))])) _
      refine XS.lmul X0.here hx rfl (hb hby at_94) rfl ?_
      show Steps p.tables e below (s₁.setTop (mkF m 95 #[.val (.long q0), .second, .val (.long q1), .second, .val (.int p2), .val (.int v2), .val (.int v8), .val (.long v56), .second, .unset, .unset, .val (.long v59), .second, .val (.long v66), .second] [(.long (v59 * v56)), (.long (0 : Int64))])) _
      refine XS.lload X0.here hx rfl (hb hby at_95) rfl ?_
      show Steps p.tables e below (s₁.setTop (mkF m 97 #[.val (.long q0), .second, .val (.long q1), .second, .val (.int p2), .val (.int v2), .val (.int v8), .val (.long v56), .second, .unset, .unset, .val (.long v59), .second, .val (.long v66), .second] [(.long v66), (.long (v59 * v56)), (.long (0 : Int64))])) _
      refine XS.ladd X0.here hx rfl (hb hby at_97) rfl ?_
      exact k)
    obtain ⟨_, _, ⟨T68, L68, k68, n68⟩, -, X68, ⟨Lc68, hQ68, lq68, yq68, zq68⟩, st68⟩ := Jvm.LawKit.callS X0 hx (y := (⟨"java/lang/Math", "max", "(JJ)J"⟩ : MethodName)) hown (mvT hZ (hw _ (List.mem_of_getElem? (i := 17) rfl))) (mvT hZ (hw _ (List.mem_of_getElem? (i := 18) rfl))) (mvT hZ (hw _ (List.mem_of_getElem? (i := 19) rfl))) (mvT hZ (hw _ (List.mem_of_getElem? (i := 20) rfl))) (by decide) (backOf (W := 0) (rm2 l Z a0 hw [] (0 : Int64) ((v59 * v56) + v66) h0 n0 Z0 ) hZ (hw _ (List.mem_of_getElem? (i := 20) rfl)) (hw _ (List.mem_of_getElem? (i := 19) rfl)) (by decide) (by decide)) (g := (mkF m 98 #[.val (.long q0), .second, .val (.long q1), .second, .val (.int p2), .val (.int v2), .val (.int v8), .val (.long v56), .second, .unset, .unset, .val (.long v59), .second, .val (.long v66), .second] [(.long ((v59 * v56) + v66)), (.long (0 : Int64))])) rfl (by rw [hml]; rfl) (argsL := [(.long (0 : Int64)), (.long ((v59 * v56) + v66))]) (rest := []) (lenOf pd_1 rfl) rfl (by show 2 * 0 + _ ≤ _; exact Nat.le_of_eq rfl) (hb hby at_98) (fun _ _ => ⟨rfl, e0, (by decide : 0 + 0 ≤ _), (by decide : 0 + 0 ≤ _)⟩)
    dsimp only [Pt.U, Pt.locs, Pt.cells, Pt.slots] at X68 lq68 yq68 zq68 st68 hQ68
    subst lq68 yq68 zq68
    obtain ⟨rfl, Nq68, eq68⟩ := hQ68
    have N68 := Fr.app N0 Nq68
    have ks69 : own_R p e below (s₁.setTop (entryFrame m #[(.long q0), (.long q1), (.int p2)] maxLocals)) (T68.setTop (mkF m 101 #[.val (.long q0), .second, .val (.long q1), .second, .val (.int p2), .val (.int v2), .val (.int v8), .val (.long v56), .second, .unset, .unset, .val (.long v59), .second, .val (.long v66), .second] [(.long (own_max (0 : Int64) ((v59 * v56) + v66)))])) := fun t k => ks67 t (st68 t k)
    obtain ⟨v70, hv70⟩ : ∃ z : Int64, z = (own_max (0 : Int64) ((v59 * v56) + v66)) := ⟨_, rfl⟩
    rw [← hv70] at ks69
    have ks71 : own_R p e below (s₁.setTop (entryFrame m #[(.long q0), (.long q1), (.int p2)] maxLocals)) (T68.setTop (mkF m 105 #[.val (.long q0), .second, .val (.long q1), .second, .val (.int p2), .val (.int v2), .val (.int v8), .val (.long v56), .second, .val (.long v70), .second, .val (.long v59), .second, .val (.long v66), .second] [(.int v2)])) := fun t k => ks69 t (by
      show Steps p.tables e below (T68.setTop (mkF m 101 #[.val (.long q0), .second, .val (.long q1), .second, .val (.int p2), .val (.int v2), .val (.int v8), .val (.long v56), .second, .unset, .unset, .val (.long v59), .second, .val (.long v66), .second] [(.long v70)])) _
      refine XS.lstore X68.here hx rfl (hb hby at_101) rfl (l' := #[.val (.long q0), .second, .val (.long q1), .second, .val (.int p2), .val (.int v2), .val (.int v8), .val (.long v56), .second, .val (.long v70), .second, .val (.long v59), .second, .val (.long v66), .second]) rfl ?_
      show Steps p.tables e below (T68.setTop (mkF m 103 #[.val (.long q0), .second, .val (.long q1), .second, .val (.int p2), .val (.int v2), .val (.int v8), .val (.long v56), .second, .val (.long v70), .second, .val (.long v59), .second, .val (.long v66), .second] [])) _
      refine XS.iload X68.here hx rfl (hb hby at_103) rfl ?_
      exact k)
    by_cases hc72 : v2 = (0 : Int32)
    · skip
      have ks73 : own_R p e below (s₁.setTop (entryFrame m #[(.long q0), (.long q1), (.int p2)] maxLocals)) (T68.setTop (mkF m 114 #[.val (.long q0), .second, .val (.long q1), .second, .val (.int p2), .val (.int v2), .val (.int v8), .val (.long v56), .second, .val (.long v70), .second, .val (.long v59), .second, .val (.long v66), .second] [])) := fun t k => ks71 t (by
        show Steps p.tables e below (T68.setTop (mkF m 105 #[.val (.long q0), .second, .val (.long q1), .second, .val (.int p2), .val (.int v2), .val (.int v8), .val (.long v56), .second, .val (.long v70), .second, .val (.long v59), .second, .val (.long v66), .second] [(.int v2)])) _
        refine XS.ifYes X68.here hx rfl (pc0 := 105) (pc' := 114) rfl (hb hby at_105) rfl ((if0 _ _).trans (teq hc72).1) (by decide) (by decide) ?_
        exact k)
      obtain ⟨T74, X74, e74, st74⟩ := getS2 X68 hx hZ hown (host := "") (Or.inl (hw _ (List.mem_of_getElem? (i := 1) rfl))) Via.refl eq68 S_s_SMALL (g := (mkF m 114 #[.val (.long q0), .second, .val (.long q1), .second, .val (.int p2), .val (.int v2), .val (.int v8), .val (.long v56), .second, .val (.long v70), .second, .val (.long v59), .second, .val (.long v66), .second] [])) rfl (hb hby at_114)
      have ks75 : own_R p e below (s₁.setTop (entryFrame m #[(.long q0), (.long q1), (.int p2)] maxLocals)) (T74.setTop (mkF m 117 #[.val (.long q0), .second, .val (.long q1), .second, .val (.int p2), .val (.int v2), .val (.int v8), .val (.long v56), .second, .val (.long v70), .second, .val (.long v59), .second, .val (.long v66), .second] [(.ref s_SMALL)])) := fun t k => ks73 t (st74 t k)
      have ks76 : own_R p e below (s₁.setTop (entryFrame m #[(.long q0), (.long q1), (.int p2)] maxLocals)) (T74.setTop (mkF m 125 #[.val (.long q0), .second, .val (.long q1), .second, .val (.int p2), .val (.int v2), .val (.int v8), .val (.long v56), .second, .val (.long v70), .second, .val (.ref s_SMALL), .unset, .val (.long v66), .second] [(.long v70), (.long v56), (.ref s_SMALL)])) := fun t k => ks75 t (by
        show Steps p.tables e below (T74.setTop (mkF m 117 #[.val (.long q0), .second, .val (.long q1), .second, .val (.int p2), .val (.int v2), .val (.int v8), .val (.long v56), .second, .val (.long v70), .second, .val (.long v59), .second, .val (.long v66), .second] [(.ref s_SMALL)])) _
        refine XS.astore X74.here hx rfl (hb hby at_117) rfl rfl (l' := #[.val (.long q0), .second, .val (.long q1), .second, .val (.int p2), .val (.int v2), .val (.int v8), .val (.long v56), .second, .val (.long v70), .second, .val (.ref s_SMALL), .unset, .val (.long v66), .second]) rfl ?_
        show Steps p.tables e below (T74.setTop (mkF m 119 #[.val (.long q0), .second, .val (.long q1), .second, .val (.int p2), .val (.int v2), .val (.int v8), .val (.long v56), .second, .val (.long v70), .second, .val (.ref s_SMALL), .unset, .val (.long v66), .second] [])) _
        refine XS.aload X74.here hx rfl (hb hby at_119) rfl rfl ?_
        show Steps p.tables e below (T74.setTop (mkF m 121 #[.val (.long q0), .second, .val (.long q1), .second, .val (.int p2), .val (.int v2), .val (.int v8), .val (.long v56), .second, .val (.long v70), .second, .val (.ref s_SMALL), .unset, .val (.long v66), .second] [(.ref s_SMALL)])) _
        refine XS.lload X74.here hx rfl (hb hby at_121) rfl ?_
        show Steps p.tables e below (T74.setTop (mkF m 123 #[.val (.long q0), .second, .val (.long q1), .second, .val (.int p2), .val (.int v2), .val (.int v8), .val (.long v56), .second, .val (.long v70), .second, .val (.ref s_SMALL), .unset, .val (.long v66), .second] [(.long v56), (.ref s_SMALL)])) _
        refine XS.lload X74.here hx rfl (hb hby at_123) rfl ?_
        exact k)
      obtain ⟨cq77, kq77, q77a, q77b, q77c⟩ := isOf hZ e74 E_s_SMALL
      obtain ⟨_, _, ⟨T77, L77, k77, n77⟩, -, X77, ⟨Lc77, hQ77, lq77, yq77, zq77⟩, st77⟩ := X74.virtualBack hx (y := (⟨"com/example/carved_corpus/carvedcorpus/cli/QuestionPicker$Size", "holds", "(JJ)Z"⟩ : MethodName)) (z := (⟨"com/example/carved_corpus/carvedcorpus/cli/QuestionPicker$Size", "holds", "(JJ)Z"⟩ : MethodName)) hown (mvT hZ (hw _ (List.mem_of_getElem? (i := 4) rfl))) (mvT hZ (hw _ (List.mem_of_getElem? (i := 5) rfl))) (notFace_of_selects (args := #[]) (mvT hZ (hw _ (List.mem_of_getElem? (i := 7) rfl)))) (mvT hZ (hw _ (List.mem_of_getElem? (i := 7) rfl))) (mvT hZ (hw _ (List.mem_of_getElem? (i := 6) rfl))) (by decide) (backOf (W := 0) (rm1 l Z a0 hw [] s_SMALL v56 v70 s_LARGE h0 n0 Z0 S_s_LARGE) hZ (hw _ (List.mem_of_getElem? (i := 8) rfl)) (hw _ (List.mem_of_getElem? (i := 2) rfl)) (by decide) (by decide)) q77a q77c (g := (mkF m 125 #[.val (.long q0), .second, .val (.long q1), .second, .val (.int p2), .val (.int v2), .val (.int v8), .val (.long v56), .second, .val (.long v70), .second, .val (.ref s_SMALL), .unset, .val (.long v66), .second] [(.long v70), (.long v56), (.ref s_SMALL)])) rfl (by rw [hml]; rfl) (Steps.refl _) (argsL := [(.long v56), (.long v70)]) (rest := []) (lenOf pd_0 rfl) rfl (by show 2 * 0 + _ ≤ _; exact Nat.le_of_eq rfl) (hb hby at_125) (fun _ _ => ⟨rfl, e74, (by decide : 0 + 0 ≤ _), (by decide : 0 + 0 ≤ _)⟩)
      dsimp only [Pt.U, Pt.locs, Pt.cells, Pt.slots] at X77 lq77 yq77 zq77 st77 hQ77
      subst lq77 yq77 zq77
      obtain ⟨rfl, Nq77, eq77⟩ := hQ77
      have N77 := Fr.app N68 Nq77
      have ks78 : own_R p e below (s₁.setTop (entryFrame m #[(.long q0), (.long q1), (.int p2)] maxLocals)) (T77.setTop (mkF m 128 #[.val (.long q0), .second, .val (.long q1), .second, .val (.int p2), .val (.int v2), .val (.int v8), .val (.long v56), .second, .val (.long v70), .second, .val (.ref s_SMALL), .unset, .val (.long v66), .second] [(.int (own_holds s_SMALL v56 v70 s_LARGE))])) := fun t k => ks76 t (st77.trans k)
      obtain ⟨v79, hv79⟩ : ∃ z : Int32, z = (own_holds s_SMALL v56 v70 s_LARGE) := ⟨_, rfl⟩
      rw [← hv79] at ks78
      have ks83 : own_R p e below (s₁.setTop (entryFrame m #[(.long q0), (.long q1), (.int p2)] maxLocals)) (T77.setTop (mkF m 186 #[.val (.long q0), .second, .val (.long q1), .second, .val (.int p2), .val (.int v2), .val (.int v8), .val (.long v56), .second, .val (.long v70), .second, .val (.ref s_SMALL), .val (.int v79), .val (.long v66), .second] [(.int (lcmpW v56 ((v70 + (99 : Int64)) / (100 : Int64))))])) := fun t k => ks78 t (by
        show Steps p.tables e below (T77.setTop (mkF m 128 #[.val (.long q0), .second, .val (.long q1), .second, .val (.int p2), .val (.int v2), .val (.int v8), .val (.long v56), .second, .val (.long v70), .second, .val (.ref s_SMALL), .unset, .val (.long v66), .second] [(.int v79)])) _
        refine XS.istore X77.here hx rfl (hb hby at_128) rfl (l' := #[.val (.long q0), .second, .val (.long q1), .second, .val (.int p2), .val (.int v2), .val (.int v8), .val (.long v56), .second, .val (.long v70), .second, .val (.ref s_SMALL), .val (.int v79), .val (.long v66), .second]) rfl ?_
        show Steps p.tables e below (T77.setTop (mkF m 130 #[.val (.long q0), .second, .val (.long q1), .second, .val (.int p2), .val (.int v2), .val (.int v8), .val (.long v56), .second, .val (.long v70), .second, .val (.ref s_SMALL), .val (.int v79), .val (.long v66), .second] [])) _
        refine XS.iload X77.here hx rfl (hb hby at_130) rfl ?_
        show Steps p.tables e below (T77.setTop (mkF m 132 #[.val (.long q0), .second, .val (.long q1), .second, .val (.int p2), .val (.int v2), .val (.int v8), .val (.long v56), .second, .val (.long v70), .second, .val (.ref s_SMALL), .val (.int v79), .val (.long v66), .second] [(.int v2)])) _
        refine XS.ifYes X77.here hx rfl (pc0 := 132) (pc' := 173) rfl (hb hby at_132) rfl ((if0 _ _).trans (teq hc72).1) (by decide) (by decide) ?_
        show Steps p.tables e below (T77.setTop (mkF m 173 #[.val (.long q0), .second, .val (.long q1), .second, .val (.int p2), .val (.int v2), .val (.int v8), .val (.long v56), .second, .val (.long v70), .second, .val (.ref s_SMALL), .val (.int v79), .val (.long v66), .second] [])) _
        refine XS.lload X77.here hx rfl (hb hby at_173) rfl ?_
        show Steps p.tables e below (T77.setTop (mkF m 175 #[.val (.long q0), .second, .val (.long q1), .second, .val (.int p2), .val (.int v2), .val (.int v8), .val (.long v56), .second, .val (.long v70), .second, .val (.ref s_SMALL), .val (.int v79), .val (.long v66), .second] [(.long v56)])) _
        refine XS.lload X77.here hx rfl (hb hby at_175) rfl ?_
        show Steps p.tables e below (T77.setTop (mkF m 177 #[.val (.long q0), .second, .val (.long q1), .second, .val (.int p2), .val (.int v2), .val (.int v8), .val (.long v56), .second, .val (.long v70), .second, .val (.ref s_SMALL), .val (.int v79), .val (.long v66), .second] [(.long v70), (.long v56)])) _
        refine X77.ldc2Long hx hown (mvT hZ (hw _ (List.mem_of_getElem? (i := 12) rfl))) (g := (mkF m 177 #[.val (.long q0), .second, .val (.long q1), .second, .val (.int p2), .val (.int v2), .val (.int v8), .val (.long v56), .second, .val (.long v70), .second, .val (.ref s_SMALL), .val (.int v79), .val (.long v66), .second] [(.long v70), (.long v56)])) rfl (hb hby at_177) _ ?_
        show Steps p.tables e below (T77.setTop (mkF m 180 #[.val (.long q0), .second, .val (.long q1), .second, .val (.int p2), .val (.int v2), .val (.int v8), .val (.long v56), .second, .val (.long v70), .second, .val (.ref s_SMALL), .val (.int v79), .val (.long v66), .second] [(.long (99 : Int64)), (.long v70), (.long v56)])) _
        refine XS.ladd X77.here hx rfl (hb hby at_180) rfl ?_
        show Steps p.tables e below (T77.setTop (mkF m 181 #[.val (.long q0), .second, .val (.long q1), .second, .val (.int p2), .val (.int v2), .val (.int v8), .val (.long v56), .second, .val (.long v70), .second, .val (.ref s_SMALL), .val (.int v79), .val (.long v66), .second] [(.long (v70 + (99 : Int64))), (.long v56)])) _
        refine X77.ldc2Long hx hown (mvT hZ (hw _ (List.mem_of_getElem? (i := 13) rfl))) (g := (mkF m 181 #[.val (.long q0), .second, .val (.long q1), .second, .val (.int p2), .val (.int v2), .val (.int v8), .val (.long v56), .second, .val (.long v70), .second, .val (.ref s_SMALL), .val (.int v79), .val (.long v66), .second] [(.long (v70 + (99 : Int64))), (.long v56)])) rfl (hb hby at_181) _ ?_
        show Steps p.tables e below (T77.setTop (mkF m 184 #[.val (.long q0), .second, .val (.long q1), .second, .val (.int p2), .val (.int v2), .val (.int v8), .val (.long v56), .second, .val (.long v70), .second, .val (.ref s_SMALL), .val (.int v79), .val (.long v66), .second] [(.long (100 : Int64)), (.long (v70 + (99 : Int64))), (.long v56)])) _
        refine XS.ldiv X77.here hx rfl (hb hby at_184) rfl (by decide) ?_
        show Steps p.tables e below (T77.setTop (mkF m 185 #[.val (.long q0), .second, .val (.long q1), .second, .val (.int p2), .val (.int v2), .val (.int v8), .val (.long v56), .second, .val (.long v70), .second, .val (.ref s_SMALL), .val (.int v79), .val (.long v66), .second] [(.long ((v70 + (99 : Int64)) / (100 : Int64))), (.long v56)])) _
        refine XS.lcmp X77.here hx rfl (hb hby at_185) rfl ?_
        exact k)
      obtain ⟨v82, hv82⟩ : ∃ z : Int32, z = (if v56 < ((v70 + (99 : Int64)) / (100 : Int64)) then (if v56 < ((v70 + (999 : Int64)) / (1000 : Int64)) then (0 : Int32) else (1 : Int32)) else (0 : Int32)) := ⟨_, rfl⟩
      have ks84 : own_R p e below (s₁.setTop (entryFrame m #[(.long q0), (.long q1), (.int p2)] maxLocals)) (T77.setTop (mkF m 210 #[.val (.long q0), .second, .val (.long q1), .second, .val (.int p2), .val (.int v2), .val (.int v8), .val (.long v56), .second, .val (.long v70), .second, .val (.ref s_SMALL), .val (.int v79), .val (.long v66), .second] [(.int v82)])) := fun t k => ks83 t (by
        by_cases hc80 : v56 < ((v70 + (99 : Int64)) / (100 : Int64))
        · skip
          show Steps p.tables e below (T77.setTop (mkF m 186 #[.val (.long q0), .second, .val (.long q1), .second, .val (.int p2), .val (.int v2), .val (.int v8), .val (.long v56), .second, .val (.long v70), .second, .val (.ref s_SMALL), .val (.int v79), .val (.long v66), .second] [(.int (lcmpW v56 ((v70 + (99 : Int64)) / (100 : Int64))))])) _
          refine XS.ifNo X77.here hx rfl (hb hby at_186) rfl ((if0 _ _).trans (tlt ((lw_lt _ _).mpr hc80)).2.1) ?_
          show Steps p.tables e below (T77.setTop (mkF m 189 #[.val (.long q0), .second, .val (.long q1), .second, .val (.int p2), .val (.int v2), .val (.int v8), .val (.long v56), .second, .val (.long v70), .second, .val (.ref s_SMALL), .val (.int v79), .val (.long v66), .second] [])) _
          refine XS.lload X77.here hx rfl (hb hby at_189) rfl ?_
          show Steps p.tables e below (T77.setTop (mkF m 191 #[.val (.long q0), .second, .val (.long q1), .second, .val (.int p2), .val (.int v2), .val (.int v8), .val (.long v56), .second, .val (.long v70), .second, .val (.ref s_SMALL), .val (.int v79), .val (.long v66), .second] [(.long v56)])) _
          refine XS.lload X77.here hx rfl (hb hby at_191) rfl ?_
          show Steps p.tables e below (T77.setTop (mkF m 193 #[.val (.long q0), .second, .val (.long q1), .second, .val (.int p2), .val (.int v2), .val (.int v8), .val (.long v56), .second, .val (.long v70), .second, .val (.ref s_SMALL), .val (.int v79), .val (.long v66), .second] [(.long v70), (.long v56)])) _
          refine X77.ldc2Long hx hown (mvT hZ (hw _ (List.mem_of_getElem? (i := 25) rfl))) (g := (mkF m 193 #[.val (.long q0), .second, .val (.long q1), .second, .val (.int p2), .val (.int v2), .val (.int v8), .val (.long v56), .second, .val (.long v70), .second, .val (.ref s_SMALL), .val (.int v79), .val (.long v66), .second] [(.long v70), (.long v56)])) rfl (hb hby at_193) _ ?_
          show Steps p.tables e below (T77.setTop (mkF m 196 #[.val (.long q0), .second, .val (.long q1), .second, .val (.int p2), .val (.int v2), .val (.int v8), .val (.long v56), .second, .val (.long v70), .second, .val (.ref s_SMALL), .val (.int v79), .val (.long v66), .second] [(.long (999 : Int64)), (.long v70), (.long v56)])) _
          refine XS.ladd X77.here hx rfl (hb hby at_196) rfl ?_
          show Steps p.tables e below (T77.setTop (mkF m 197 #[.val (.long q0), .second, .val (.long q1), .second, .val (.int p2), .val (.int v2), .val (.int v8), .val (.long v56), .second, .val (.long v70), .second, .val (.ref s_SMALL), .val (.int v79), .val (.long v66), .second] [(.long (v70 + (999 : Int64))), (.long v56)])) _
          refine X77.ldc2Long hx hown (mvT hZ (hw _ (List.mem_of_getElem? (i := 15) rfl))) (g := (mkF m 197 #[.val (.long q0), .second, .val (.long q1), .second, .val (.int p2), .val (.int v2), .val (.int v8), .val (.long v56), .second, .val (.long v70), .second, .val (.ref s_SMALL), .val (.int v79), .val (.long v66), .second] [(.long (v70 + (999 : Int64))), (.long v56)])) rfl (hb hby at_197) _ ?_
          show Steps p.tables e below (T77.setTop (mkF m 200 #[.val (.long q0), .second, .val (.long q1), .second, .val (.int p2), .val (.int v2), .val (.int v8), .val (.long v56), .second, .val (.long v70), .second, .val (.ref s_SMALL), .val (.int v79), .val (.long v66), .second] [(.long (1000 : Int64)), (.long (v70 + (999 : Int64))), (.long v56)])) _
          refine XS.ldiv X77.here hx rfl (hb hby at_200) rfl (by decide) ?_
          show Steps p.tables e below (T77.setTop (mkF m 201 #[.val (.long q0), .second, .val (.long q1), .second, .val (.int p2), .val (.int v2), .val (.int v8), .val (.long v56), .second, .val (.long v70), .second, .val (.ref s_SMALL), .val (.int v79), .val (.long v66), .second] [(.long ((v70 + (999 : Int64)) / (1000 : Int64))), (.long v56)])) _
          refine XS.lcmp X77.here hx rfl (hb hby at_201) rfl ?_
          by_cases hc81 : v56 < ((v70 + (999 : Int64)) / (1000 : Int64))
          · skip
            have qq85 : v82 = (0 : Int32) := by rw [hv82, if_pos hc80, if_pos hc81]
            rw [qq85] at k
            show Steps p.tables e below (T77.setTop (mkF m 202 #[.val (.long q0), .second, .val (.long q1), .second, .val (.int p2), .val (.int v2), .val (.int v8), .val (.long v56), .second, .val (.long v70), .second, .val (.ref s_SMALL), .val (.int v79), .val (.long v66), .second] [(.int (lcmpW v56 ((v70 + (999 : Int64)) / (1000 : Int64))))])) _
            refine XS.ifYes X77.here hx rfl (pc0 := 202) (pc' := 209) rfl (hb hby at_202) rfl ((if0 _ _).trans (tlt ((lw_lt _ _).mpr hc81)).1) (by decide) (by decide) ?_
            show Steps p.tables e below (T77.setTop (mkF m 209 #[.val (.long q0), .second, .val (.long q1), .second, .val (.int p2), .val (.int v2), .val (.int v8), .val (.long v56), .second, .val (.long v70), .second, .val (.ref s_SMALL), .val (.int v79), .val (.long v66), .second] [])) _
            refine XS.iconst X77.here hx rfl (hb hby at_209) ?_
            exact k
          · skip
            have qq86 : v82 = (1 : Int32) := by rw [hv82, if_pos hc80, if_neg hc81]
            rw [qq86] at k
            show Steps p.tables e below (T77.setTop (mkF m 202 #[.val (.long q0), .second, .val (.long q1), .second, .val (.int p2), .val (.int v2), .val (.int v8), .val (.long v56), .second, .val (.long v70), .second, .val (.ref s_SMALL), .val (.int v79), .val (.long v66), .second] [(.int (lcmpW v56 ((v70 + (999 : Int64)) / (1000 : Int64))))])) _
            refine XS.ifNo X77.here hx rfl (hb hby at_202) rfl ((if0 _ _).trans (flt (fun q => hc81 ((lw_lt _ _).mp q))).1) ?_
            show Steps p.tables e below (T77.setTop (mkF m 205 #[.val (.long q0), .second, .val (.long q1), .second, .val (.int p2), .val (.int v2), .val (.int v8), .val (.long v56), .second, .val (.long v70), .second, .val (.ref s_SMALL), .val (.int v79), .val (.long v66), .second] [])) _
            refine XS.iconst X77.here hx rfl (hb hby at_205) ?_
            show Steps p.tables e below (T77.setTop (mkF m 206 #[.val (.long q0), .second, .val (.long q1), .second, .val (.int p2), .val (.int v2), .val (.int v8), .val (.long v56), .second, .val (.long v70), .second, .val (.ref s_SMALL), .val (.int v79), .val (.long v66), .second] [(.int (1 : Int32))])) _
            refine XS.goto X77.here hx rfl (pc0 := 206) (pc' := 210) rfl (hb hby at_206) (by decide) (by decide) ?_
            exact k
        · skip
          have qq87 : v82 = (0 : Int32) := by rw [hv82, if_neg hc80]
          rw [qq87] at k
          show Steps p.tables e below (T77.setTop (mkF m 186 #[.val (.long q0), .second, .val (.long q1), .second, .val (.int p2), .val (.int v2), .val (.int v8), .val (.long v56), .second, .val (.long v70), .second, .val (.ref s_SMALL), .val (.int v79), .val (.long v66), .second] [(.int (lcmpW v56 ((v70 + (99 : Int64)) / (100 : Int64))))])) _
          refine XS.ifYes X77.here hx rfl (pc0 := 186) (pc' := 209) rfl (hb hby at_186) rfl ((if0 _ _).trans (flt (fun q => hc80 ((lw_lt _ _).mp q))).2.1) (by decide) (by decide) ?_
          show Steps p.tables e below (T77.setTop (mkF m 209 #[.val (.long q0), .second, .val (.long q1), .second, .val (.int p2), .val (.int v2), .val (.int v8), .val (.long v56), .second, .val (.long v70), .second, .val (.ref s_SMALL), .val (.int v79), .val (.long v66), .second] [])) _
          refine XS.iconst X77.here hx rfl (hb hby at_209) ?_
          exact k)
      have ks88 : own_R p e below (s₁.setTop (entryFrame m #[(.long q0), (.long q1), (.int p2)] maxLocals)) (T77.setTop (mkF m 216 #[.val (.long q0), .second, .val (.long q1), .second, .val (.int p2), .val (.int v2), .val (.int v8), .val (.long v56), .second, .val (.long v70), .second, .val (.ref s_SMALL), .val (.int v79), .val (.int v82), .unset] [(.int v82), (.int v79)])) := fun t k => ks84 t (by
        show Steps p.tables e below (T77.setTop (mkF m 210 #[.val (.long q0), .second, .val (.long q1), .second, .val (.int p2), .val (.int v2), .val (.int v8), .val (.long v56), .second, .val (.long v70), .second, .val (.ref s_SMALL), .val (.int v79), .val (.long v66), .second] [(.int v82)])) _
        refine XS.istore X77.here hx rfl (hb hby at_210) rfl (l' := #[.val (.long q0), .second, .val (.long q1), .second, .val (.int p2), .val (.int v2), .val (.int v8), .val (.long v56), .second, .val (.long v70), .second, .val (.ref s_SMALL), .val (.int v79), .val (.int v82), .unset]) rfl ?_
        show Steps p.tables e below (T77.setTop (mkF m 212 #[.val (.long q0), .second, .val (.long q1), .second, .val (.int p2), .val (.int v2), .val (.int v8), .val (.long v56), .second, .val (.long v70), .second, .val (.ref s_SMALL), .val (.int v79), .val (.int v82), .unset] [])) _
        refine XS.iload X77.here hx rfl (hb hby at_212) rfl ?_
        show Steps p.tables e below (T77.setTop (mkF m 214 #[.val (.long q0), .second, .val (.long q1), .second, .val (.int p2), .val (.int v2), .val (.int v8), .val (.long v56), .second, .val (.long v70), .second, .val (.ref s_SMALL), .val (.int v79), .val (.int v82), .unset] [(.int v79)])) _
        refine XS.iload X77.here hx rfl (hb hby at_214) rfl ?_
        exact k)
      by_cases hc89 : v79 = v82
      · skip
        have ks90 : own_R p e below (s₁.setTop (entryFrame m #[(.long q0), (.long q1), (.int p2)] maxLocals)) (T77.setTop (mkF m 224 #[.val (.long q0), .second, .val (.long q1), .second, .val (.int p2), .val (.int v2), .val (.int v8), .val (.long v56), .second, .val (.long v70), .second, .val (.ref s_SMALL), .val (.int v79), .val (.int v82), .unset] [(.int (1 : Int32))])) := fun t k => ks88 t (by
          show Steps p.tables e below (T77.setTop (mkF m 216 #[.val (.long q0), .second, .val (.long q1), .second, .val (.int p2), .val (.int v2), .val (.int v8), .val (.long v56), .second, .val (.long v70), .second, .val (.ref s_SMALL), .val (.int v79), .val (.int v82), .unset] [(.int v82), (.int v79)])) _
          refine XS.icmpNo X77.here hx rfl (hb hby at_216) rfl (teq hc89).2 ?_
          show Steps p.tables e below (T77.setTop (mkF m 219 #[.val (.long q0), .second, .val (.long q1), .second, .val (.int p2), .val (.int v2), .val (.int v8), .val (.long v56), .second, .val (.long v70), .second, .val (.ref s_SMALL), .val (.int v79), .val (.int v82), .unset] [])) _
          refine XS.iconst X77.here hx rfl (hb hby at_219) ?_
          show Steps p.tables e below (T77.setTop (mkF m 220 #[.val (.long q0), .second, .val (.long q1), .second, .val (.int p2), .val (.int v2), .val (.int v8), .val (.long v56), .second, .val (.long v70), .second, .val (.ref s_SMALL), .val (.int v79), .val (.int v82), .unset] [(.int (1 : Int32))])) _
          refine XS.goto X77.here hx rfl (pc0 := 220) (pc' := 224) rfl (hb hby at_220) (by decide) (by decide) ?_
          exact k)
        obtain ⟨fs, hr, hrun, hended, hW, hsame⟩ := X77.leave (v := some (.int (1 : Int32))) (fun h => by rw [Bd.returns] at h; cases h)
        refine ⟨_, _, ks90 _ ?_, hrun, hended, _, _, rfl, ?_, ⟨_, rfl⟩, hW, hsame.mono (by decide) (by decide)⟩
        · exact retN X77 hx (t := .boolean) Bd.returns (by simp) (hb hby at_224) hr
        · show Q0 Z q0 q1 p2 s_SMALL s_LARGE h0 n0 _ T77.heap _
          rw [eq77]
          exact ⟨rfl, N77⟩
      · skip
        have ks91 : own_R p e below (s₁.setTop (entryFrame m #[(.long q0), (.long q1), (.int p2)] maxLocals)) (T77.setTop (mkF m 224 #[.val (.long q0), .second, .val (.long q1), .second, .val (.int p2), .val (.int v2), .val (.int v8), .val (.long v56), .second, .val (.long v70), .second, .val (.ref s_SMALL), .val (.int v79), .val (.int v82), .unset] [(.int (0 : Int32))])) := fun t k => ks88 t (by
          show Steps p.tables e below (T77.setTop (mkF m 216 #[.val (.long q0), .second, .val (.long q1), .second, .val (.int p2), .val (.int v2), .val (.int v8), .val (.long v56), .second, .val (.long v70), .second, .val (.ref s_SMALL), .val (.int v79), .val (.int v82), .unset] [(.int v82), (.int v79)])) _
          refine XS.icmpYes X77.here hx rfl (pc0 := 216) (pc' := 223) rfl (hb hby at_216) rfl (feq hc89).2 (by decide) (by decide) ?_
          show Steps p.tables e below (T77.setTop (mkF m 223 #[.val (.long q0), .second, .val (.long q1), .second, .val (.int p2), .val (.int v2), .val (.int v8), .val (.long v56), .second, .val (.long v70), .second, .val (.ref s_SMALL), .val (.int v79), .val (.int v82), .unset] [])) _
          refine XS.iconst X77.here hx rfl (hb hby at_223) ?_
          exact k)
        obtain ⟨fs, hr, hrun, hended, hW, hsame⟩ := X77.leave (v := some (.int (0 : Int32))) (fun h => by rw [Bd.returns] at h; cases h)
        refine ⟨_, _, ks91 _ ?_, hrun, hended, _, _, rfl, ?_, ⟨_, rfl⟩, hW, hsame.mono (by decide) (by decide)⟩
        · exact retN X77 hx (t := .boolean) Bd.returns (by simp) (hb hby at_224) hr
        · show Q0 Z q0 q1 p2 s_SMALL s_LARGE h0 n0 _ T77.heap _
          rw [eq77]
          exfalso
          have bk : 0 ≤ v59.toInt ∧ v59.toInt ≤ 1000 := by rw [hv59]; split; decide; split <;> decide
          have bc : 0 ≤ v56.toInt ∧ v56.toInt ≤ 1099511627775 := by rw [hv56]; exact own_m40 _
          have bm := own_mode v59 v56 q1 bk.1 bk.2 bc.1 bc.2
          rw [← hv66, ← hv70] at bm
          have l := own_law v56 v70 bc.1 (Int.le_trans bc.2 (by decide)) bm.1 bm.2
          apply hc89
          rw [hv79, hv82]
          unfold own_holds
          rw [if_neg (Fld.ne F_s_SMALL_ordinal F_s_LARGE_ordinal (by decide))]
          simp only [l.1, l.2.2]
    · skip
      have ks92 : own_R p e below (s₁.setTop (entryFrame m #[(.long q0), (.long q1), (.int p2)] maxLocals)) (T68.setTop (mkF m 108 #[.val (.long q0), .second, .val (.long q1), .second, .val (.int p2), .val (.int v2), .val (.int v8), .val (.long v56), .second, .val (.long v70), .second, .val (.long v59), .second, .val (.long v66), .second] [])) := fun t k => ks71 t (by
        show Steps p.tables e below (T68.setTop (mkF m 105 #[.val (.long q0), .second, .val (.long q1), .second, .val (.int p2), .val (.int v2), .val (.int v8), .val (.long v56), .second, .val (.long v70), .second, .val (.long v59), .second, .val (.long v66), .second] [(.int v2)])) _
        refine XS.ifNo X68.here hx rfl (hb hby at_105) rfl ((if0 _ _).trans (feq hc72).1) ?_
        exact k)
      obtain ⟨T93, X93, e93, st93⟩ := getS2 X68 hx hZ hown (host := "") (Or.inl (hw _ (List.mem_of_getElem? (i := 21) rfl))) Via.refl eq68 S_s_LARGE (g := (mkF m 108 #[.val (.long q0), .second, .val (.long q1), .second, .val (.int p2), .val (.int v2), .val (.int v8), .val (.long v56), .second, .val (.long v70), .second, .val (.long v59), .second, .val (.long v66), .second] [])) rfl (hb hby at_108)
      have ks94 : own_R p e below (s₁.setTop (entryFrame m #[(.long q0), (.long q1), (.int p2)] maxLocals)) (T93.setTop (mkF m 111 #[.val (.long q0), .second, .val (.long q1), .second, .val (.int p2), .val (.int v2), .val (.int v8), .val (.long v56), .second, .val (.long v70), .second, .val (.long v59), .second, .val (.long v66), .second] [(.ref s_LARGE)])) := fun t k => ks92 t (st93 t k)
      have ks95 : own_R p e below (s₁.setTop (entryFrame m #[(.long q0), (.long q1), (.int p2)] maxLocals)) (T93.setTop (mkF m 125 #[.val (.long q0), .second, .val (.long q1), .second, .val (.int p2), .val (.int v2), .val (.int v8), .val (.long v56), .second, .val (.long v70), .second, .val (.ref s_LARGE), .unset, .val (.long v66), .second] [(.long v70), (.long v56), (.ref s_LARGE)])) := fun t k => ks94 t (by
        show Steps p.tables e below (T93.setTop (mkF m 111 #[.val (.long q0), .second, .val (.long q1), .second, .val (.int p2), .val (.int v2), .val (.int v8), .val (.long v56), .second, .val (.long v70), .second, .val (.long v59), .second, .val (.long v66), .second] [(.ref s_LARGE)])) _
        refine XS.goto X93.here hx rfl (pc0 := 111) (pc' := 117) rfl (hb hby at_111) (by decide) (by decide) ?_
        show Steps p.tables e below (T93.setTop (mkF m 117 #[.val (.long q0), .second, .val (.long q1), .second, .val (.int p2), .val (.int v2), .val (.int v8), .val (.long v56), .second, .val (.long v70), .second, .val (.long v59), .second, .val (.long v66), .second] [(.ref s_LARGE)])) _
        refine XS.astore X93.here hx rfl (hb hby at_117) rfl rfl (l' := #[.val (.long q0), .second, .val (.long q1), .second, .val (.int p2), .val (.int v2), .val (.int v8), .val (.long v56), .second, .val (.long v70), .second, .val (.ref s_LARGE), .unset, .val (.long v66), .second]) rfl ?_
        show Steps p.tables e below (T93.setTop (mkF m 119 #[.val (.long q0), .second, .val (.long q1), .second, .val (.int p2), .val (.int v2), .val (.int v8), .val (.long v56), .second, .val (.long v70), .second, .val (.ref s_LARGE), .unset, .val (.long v66), .second] [])) _
        refine XS.aload X93.here hx rfl (hb hby at_119) rfl rfl ?_
        show Steps p.tables e below (T93.setTop (mkF m 121 #[.val (.long q0), .second, .val (.long q1), .second, .val (.int p2), .val (.int v2), .val (.int v8), .val (.long v56), .second, .val (.long v70), .second, .val (.ref s_LARGE), .unset, .val (.long v66), .second] [(.ref s_LARGE)])) _
        refine XS.lload X93.here hx rfl (hb hby at_121) rfl ?_
        show Steps p.tables e below (T93.setTop (mkF m 123 #[.val (.long q0), .second, .val (.long q1), .second, .val (.int p2), .val (.int v2), .val (.int v8), .val (.long v56), .second, .val (.long v70), .second, .val (.ref s_LARGE), .unset, .val (.long v66), .second] [(.long v56), (.ref s_LARGE)])) _
        refine XS.lload X93.here hx rfl (hb hby at_123) rfl ?_
        exact k)
      obtain ⟨cq96, kq96, q96a, q96b, q96c⟩ := isOf hZ e93 E_s_LARGE
      obtain ⟨_, _, ⟨T96, L96, k96, n96⟩, -, X96, ⟨Lc96, hQ96, lq96, yq96, zq96⟩, st96⟩ := X93.virtualBack hx (y := (⟨"com/example/carved_corpus/carvedcorpus/cli/QuestionPicker$Size", "holds", "(JJ)Z"⟩ : MethodName)) (z := (⟨"com/example/carved_corpus/carvedcorpus/cli/QuestionPicker$Size", "holds", "(JJ)Z"⟩ : MethodName)) hown (mvT hZ (hw _ (List.mem_of_getElem? (i := 4) rfl))) (mvT hZ (hw _ (List.mem_of_getElem? (i := 5) rfl))) (notFace_of_selects (args := #[]) (mvT hZ (hw _ (List.mem_of_getElem? (i := 7) rfl)))) (mvT hZ (hw _ (List.mem_of_getElem? (i := 7) rfl))) (mvT hZ (hw _ (List.mem_of_getElem? (i := 6) rfl))) (by decide) (backOf (W := 0) (rm1 l Z a0 hw [] s_LARGE v56 v70 s_LARGE h0 n0 Z0 S_s_LARGE) hZ (hw _ (List.mem_of_getElem? (i := 8) rfl)) (hw _ (List.mem_of_getElem? (i := 2) rfl)) (by decide) (by decide)) q96a q96c (g := (mkF m 125 #[.val (.long q0), .second, .val (.long q1), .second, .val (.int p2), .val (.int v2), .val (.int v8), .val (.long v56), .second, .val (.long v70), .second, .val (.ref s_LARGE), .unset, .val (.long v66), .second] [(.long v70), (.long v56), (.ref s_LARGE)])) rfl (by rw [hml]; rfl) (Steps.refl _) (argsL := [(.long v56), (.long v70)]) (rest := []) (lenOf pd_0 rfl) rfl (by show 2 * 0 + _ ≤ _; exact Nat.le_of_eq rfl) (hb hby at_125) (fun _ _ => ⟨rfl, e93, (by decide : 0 + 0 ≤ _), (by decide : 0 + 0 ≤ _)⟩)
      dsimp only [Pt.U, Pt.locs, Pt.cells, Pt.slots] at X96 lq96 yq96 zq96 st96 hQ96
      subst lq96 yq96 zq96
      obtain ⟨rfl, Nq96, eq96⟩ := hQ96
      have N96 := Fr.app N68 Nq96
      have ks97 : own_R p e below (s₁.setTop (entryFrame m #[(.long q0), (.long q1), (.int p2)] maxLocals)) (T96.setTop (mkF m 128 #[.val (.long q0), .second, .val (.long q1), .second, .val (.int p2), .val (.int v2), .val (.int v8), .val (.long v56), .second, .val (.long v70), .second, .val (.ref s_LARGE), .unset, .val (.long v66), .second] [(.int (own_holds s_LARGE v56 v70 s_LARGE))])) := fun t k => ks95 t (st96.trans k)
      obtain ⟨v98, hv98⟩ : ∃ z : Int32, z = (own_holds s_LARGE v56 v70 s_LARGE) := ⟨_, rfl⟩
      rw [← hv98] at ks97
      have ks102 : own_R p e below (s₁.setTop (entryFrame m #[(.long q0), (.long q1), (.int p2)] maxLocals)) (T96.setTop (mkF m 148 #[.val (.long q0), .second, .val (.long q1), .second, .val (.int p2), .val (.int v2), .val (.int v8), .val (.long v56), .second, .val (.long v70), .second, .val (.ref s_LARGE), .val (.int v98), .val (.long v66), .second] [(.int (lcmpW v56 ((v70 + (99 : Int64)) / (100 : Int64))))])) := fun t k => ks97 t (by
        show Steps p.tables e below (T96.setTop (mkF m 128 #[.val (.long q0), .second, .val (.long q1), .second, .val (.int p2), .val (.int v2), .val (.int v8), .val (.long v56), .second, .val (.long v70), .second, .val (.ref s_LARGE), .unset, .val (.long v66), .second] [(.int v98)])) _
        refine XS.istore X96.here hx rfl (hb hby at_128) rfl (l' := #[.val (.long q0), .second, .val (.long q1), .second, .val (.int p2), .val (.int v2), .val (.int v8), .val (.long v56), .second, .val (.long v70), .second, .val (.ref s_LARGE), .val (.int v98), .val (.long v66), .second]) rfl ?_
        show Steps p.tables e below (T96.setTop (mkF m 130 #[.val (.long q0), .second, .val (.long q1), .second, .val (.int p2), .val (.int v2), .val (.int v8), .val (.long v56), .second, .val (.long v70), .second, .val (.ref s_LARGE), .val (.int v98), .val (.long v66), .second] [])) _
        refine XS.iload X96.here hx rfl (hb hby at_130) rfl ?_
        show Steps p.tables e below (T96.setTop (mkF m 132 #[.val (.long q0), .second, .val (.long q1), .second, .val (.int p2), .val (.int v2), .val (.int v8), .val (.long v56), .second, .val (.long v70), .second, .val (.ref s_LARGE), .val (.int v98), .val (.long v66), .second] [(.int v2)])) _
        refine XS.ifNo X96.here hx rfl (hb hby at_132) rfl ((if0 _ _).trans (feq hc72).1) ?_
        show Steps p.tables e below (T96.setTop (mkF m 135 #[.val (.long q0), .second, .val (.long q1), .second, .val (.int p2), .val (.int v2), .val (.int v8), .val (.long v56), .second, .val (.long v70), .second, .val (.ref s_LARGE), .val (.int v98), .val (.long v66), .second] [])) _
        refine XS.lload X96.here hx rfl (hb hby at_135) rfl ?_
        show Steps p.tables e below (T96.setTop (mkF m 137 #[.val (.long q0), .second, .val (.long q1), .second, .val (.int p2), .val (.int v2), .val (.int v8), .val (.long v56), .second, .val (.long v70), .second, .val (.ref s_LARGE), .val (.int v98), .val (.long v66), .second] [(.long v56)])) _
        refine XS.lload X96.here hx rfl (hb hby at_137) rfl ?_
        show Steps p.tables e below (T96.setTop (mkF m 139 #[.val (.long q0), .second, .val (.long q1), .second, .val (.int p2), .val (.int v2), .val (.int v8), .val (.long v56), .second, .val (.long v70), .second, .val (.ref s_LARGE), .val (.int v98), .val (.long v66), .second] [(.long v70), (.long v56)])) _
        refine X96.ldc2Long hx hown (mvT hZ (hw _ (List.mem_of_getElem? (i := 12) rfl))) (g := (mkF m 139 #[.val (.long q0), .second, .val (.long q1), .second, .val (.int p2), .val (.int v2), .val (.int v8), .val (.long v56), .second, .val (.long v70), .second, .val (.ref s_LARGE), .val (.int v98), .val (.long v66), .second] [(.long v70), (.long v56)])) rfl (hb hby at_139) _ ?_
        show Steps p.tables e below (T96.setTop (mkF m 142 #[.val (.long q0), .second, .val (.long q1), .second, .val (.int p2), .val (.int v2), .val (.int v8), .val (.long v56), .second, .val (.long v70), .second, .val (.ref s_LARGE), .val (.int v98), .val (.long v66), .second] [(.long (99 : Int64)), (.long v70), (.long v56)])) _
        refine XS.ladd X96.here hx rfl (hb hby at_142) rfl ?_
        show Steps p.tables e below (T96.setTop (mkF m 143 #[.val (.long q0), .second, .val (.long q1), .second, .val (.int p2), .val (.int v2), .val (.int v8), .val (.long v56), .second, .val (.long v70), .second, .val (.ref s_LARGE), .val (.int v98), .val (.long v66), .second] [(.long (v70 + (99 : Int64))), (.long v56)])) _
        refine X96.ldc2Long hx hown (mvT hZ (hw _ (List.mem_of_getElem? (i := 13) rfl))) (g := (mkF m 143 #[.val (.long q0), .second, .val (.long q1), .second, .val (.int p2), .val (.int v2), .val (.int v8), .val (.long v56), .second, .val (.long v70), .second, .val (.ref s_LARGE), .val (.int v98), .val (.long v66), .second] [(.long (v70 + (99 : Int64))), (.long v56)])) rfl (hb hby at_143) _ ?_
        show Steps p.tables e below (T96.setTop (mkF m 146 #[.val (.long q0), .second, .val (.long q1), .second, .val (.int p2), .val (.int v2), .val (.int v8), .val (.long v56), .second, .val (.long v70), .second, .val (.ref s_LARGE), .val (.int v98), .val (.long v66), .second] [(.long (100 : Int64)), (.long (v70 + (99 : Int64))), (.long v56)])) _
        refine XS.ldiv X96.here hx rfl (hb hby at_146) rfl (by decide) ?_
        show Steps p.tables e below (T96.setTop (mkF m 147 #[.val (.long q0), .second, .val (.long q1), .second, .val (.int p2), .val (.int v2), .val (.int v8), .val (.long v56), .second, .val (.long v70), .second, .val (.ref s_LARGE), .val (.int v98), .val (.long v66), .second] [(.long ((v70 + (99 : Int64)) / (100 : Int64))), (.long v56)])) _
        refine XS.lcmp X96.here hx rfl (hb hby at_147) rfl ?_
        exact k)
      obtain ⟨v101, hv101⟩ : ∃ z : Int32, z = (if v56 < ((v70 + (99 : Int64)) / (100 : Int64)) then (0 : Int32) else (if (v70 / (2 : Int64)) < v56 then (0 : Int32) else (1 : Int32))) := ⟨_, rfl⟩
      have ks103 : own_R p e below (s₁.setTop (entryFrame m #[(.long q0), (.long q1), (.int p2)] maxLocals)) (T96.setTop (mkF m 168 #[.val (.long q0), .second, .val (.long q1), .second, .val (.int p2), .val (.int v2), .val (.int v8), .val (.long v56), .second, .val (.long v70), .second, .val (.ref s_LARGE), .val (.int v98), .val (.long v66), .second] [(.int v101)])) := fun t k => ks102 t (by
        by_cases hc99 : v56 < ((v70 + (99 : Int64)) / (100 : Int64))
        · skip
          have qq104 : v101 = (0 : Int32) := by rw [hv101, if_pos hc99]
          rw [qq104] at k
          show Steps p.tables e below (T96.setTop (mkF m 148 #[.val (.long q0), .second, .val (.long q1), .second, .val (.int p2), .val (.int v2), .val (.int v8), .val (.long v56), .second, .val (.long v70), .second, .val (.ref s_LARGE), .val (.int v98), .val (.long v66), .second] [(.int (lcmpW v56 ((v70 + (99 : Int64)) / (100 : Int64))))])) _
          refine XS.ifYes X96.here hx rfl (pc0 := 148) (pc' := 167) rfl (hb hby at_148) rfl ((if0 _ _).trans (tlt ((lw_lt _ _).mpr hc99)).1) (by decide) (by decide) ?_
          show Steps p.tables e below (T96.setTop (mkF m 167 #[.val (.long q0), .second, .val (.long q1), .second, .val (.int p2), .val (.int v2), .val (.int v8), .val (.long v56), .second, .val (.long v70), .second, .val (.ref s_LARGE), .val (.int v98), .val (.long v66), .second] [])) _
          refine XS.iconst X96.here hx rfl (hb hby at_167) ?_
          exact k
        · skip
          show Steps p.tables e below (T96.setTop (mkF m 148 #[.val (.long q0), .second, .val (.long q1), .second, .val (.int p2), .val (.int v2), .val (.int v8), .val (.long v56), .second, .val (.long v70), .second, .val (.ref s_LARGE), .val (.int v98), .val (.long v66), .second] [(.int (lcmpW v56 ((v70 + (99 : Int64)) / (100 : Int64))))])) _
          refine XS.ifNo X96.here hx rfl (hb hby at_148) rfl ((if0 _ _).trans (flt (fun q => hc99 ((lw_lt _ _).mp q))).1) ?_
          show Steps p.tables e below (T96.setTop (mkF m 151 #[.val (.long q0), .second, .val (.long q1), .second, .val (.int p2), .val (.int v2), .val (.int v8), .val (.long v56), .second, .val (.long v70), .second, .val (.ref s_LARGE), .val (.int v98), .val (.long v66), .second] [])) _
          refine XS.lload X96.here hx rfl (hb hby at_151) rfl ?_
          show Steps p.tables e below (T96.setTop (mkF m 153 #[.val (.long q0), .second, .val (.long q1), .second, .val (.int p2), .val (.int v2), .val (.int v8), .val (.long v56), .second, .val (.long v70), .second, .val (.ref s_LARGE), .val (.int v98), .val (.long v66), .second] [(.long v56)])) _
          refine XS.lload X96.here hx rfl (hb hby at_153) rfl ?_
          show Steps p.tables e below (T96.setTop (mkF m 155 #[.val (.long q0), .second, .val (.long q1), .second, .val (.int p2), .val (.int v2), .val (.int v8), .val (.long v56), .second, .val (.long v70), .second, .val (.ref s_LARGE), .val (.int v98), .val (.long v66), .second] [(.long v70), (.long v56)])) _
          refine X96.ldc2Long hx hown (mvT hZ (hw _ (List.mem_of_getElem? (i := 22) rfl))) (g := (mkF m 155 #[.val (.long q0), .second, .val (.long q1), .second, .val (.int p2), .val (.int v2), .val (.int v8), .val (.long v56), .second, .val (.long v70), .second, .val (.ref s_LARGE), .val (.int v98), .val (.long v66), .second] [(.long v70), (.long v56)])) rfl (hb hby at_155) _ ?_
          show Steps p.tables e below (T96.setTop (mkF m 158 #[.val (.long q0), .second, .val (.long q1), .second, .val (.int p2), .val (.int v2), .val (.int v8), .val (.long v56), .second, .val (.long v70), .second, .val (.ref s_LARGE), .val (.int v98), .val (.long v66), .second] [(.long (2 : Int64)), (.long v70), (.long v56)])) _
          refine XS.ldiv X96.here hx rfl (hb hby at_158) rfl (by decide) ?_
          show Steps p.tables e below (T96.setTop (mkF m 159 #[.val (.long q0), .second, .val (.long q1), .second, .val (.int p2), .val (.int v2), .val (.int v8), .val (.long v56), .second, .val (.long v70), .second, .val (.ref s_LARGE), .val (.int v98), .val (.long v66), .second] [(.long (v70 / (2 : Int64))), (.long v56)])) _
          refine XS.lcmp X96.here hx rfl (hb hby at_159) rfl ?_
          by_cases hc100 : (v70 / (2 : Int64)) < v56
          · skip
            have qq105 : v101 = (0 : Int32) := by rw [hv101, if_neg hc99, if_pos hc100]
            rw [qq105] at k
            show Steps p.tables e below (T96.setTop (mkF m 160 #[.val (.long q0), .second, .val (.long q1), .second, .val (.int p2), .val (.int v2), .val (.int v8), .val (.long v56), .second, .val (.long v70), .second, .val (.ref s_LARGE), .val (.int v98), .val (.long v66), .second] [(.int (lcmpW v56 (v70 / (2 : Int64))))])) _
            refine XS.ifYes X96.here hx rfl (pc0 := 160) (pc' := 167) rfl (hb hby at_160) rfl ((if0 _ _).trans (tlt ((lw_gt _ _).mpr hc100)).2.2.1) (by decide) (by decide) ?_
            show Steps p.tables e below (T96.setTop (mkF m 167 #[.val (.long q0), .second, .val (.long q1), .second, .val (.int p2), .val (.int v2), .val (.int v8), .val (.long v56), .second, .val (.long v70), .second, .val (.ref s_LARGE), .val (.int v98), .val (.long v66), .second] [])) _
            refine XS.iconst X96.here hx rfl (hb hby at_167) ?_
            exact k
          · skip
            have qq106 : v101 = (1 : Int32) := by rw [hv101, if_neg hc99, if_neg hc100]
            rw [qq106] at k
            show Steps p.tables e below (T96.setTop (mkF m 160 #[.val (.long q0), .second, .val (.long q1), .second, .val (.int p2), .val (.int v2), .val (.int v8), .val (.long v56), .second, .val (.long v70), .second, .val (.ref s_LARGE), .val (.int v98), .val (.long v66), .second] [(.int (lcmpW v56 (v70 / (2 : Int64))))])) _
            refine XS.ifNo X96.here hx rfl (hb hby at_160) rfl ((if0 _ _).trans (flt (fun q => hc100 ((lw_gt _ _).mp q))).2.2.1) ?_
            show Steps p.tables e below (T96.setTop (mkF m 163 #[.val (.long q0), .second, .val (.long q1), .second, .val (.int p2), .val (.int v2), .val (.int v8), .val (.long v56), .second, .val (.long v70), .second, .val (.ref s_LARGE), .val (.int v98), .val (.long v66), .second] [])) _
            refine XS.iconst X96.here hx rfl (hb hby at_163) ?_
            show Steps p.tables e below (T96.setTop (mkF m 164 #[.val (.long q0), .second, .val (.long q1), .second, .val (.int p2), .val (.int v2), .val (.int v8), .val (.long v56), .second, .val (.long v70), .second, .val (.ref s_LARGE), .val (.int v98), .val (.long v66), .second] [(.int (1 : Int32))])) _
            refine XS.goto X96.here hx rfl (pc0 := 164) (pc' := 168) rfl (hb hby at_164) (by decide) (by decide) ?_
            exact k)
      have ks107 : own_R p e below (s₁.setTop (entryFrame m #[(.long q0), (.long q1), (.int p2)] maxLocals)) (T96.setTop (mkF m 216 #[.val (.long q0), .second, .val (.long q1), .second, .val (.int p2), .val (.int v2), .val (.int v8), .val (.long v56), .second, .val (.long v70), .second, .val (.ref s_LARGE), .val (.int v98), .val (.int v101), .unset] [(.int v101), (.int v98)])) := fun t k => ks103 t (by
        show Steps p.tables e below (T96.setTop (mkF m 168 #[.val (.long q0), .second, .val (.long q1), .second, .val (.int p2), .val (.int v2), .val (.int v8), .val (.long v56), .second, .val (.long v70), .second, .val (.ref s_LARGE), .val (.int v98), .val (.long v66), .second] [(.int v101)])) _
        refine XS.istore X96.here hx rfl (hb hby at_168) rfl (l' := #[.val (.long q0), .second, .val (.long q1), .second, .val (.int p2), .val (.int v2), .val (.int v8), .val (.long v56), .second, .val (.long v70), .second, .val (.ref s_LARGE), .val (.int v98), .val (.int v101), .unset]) rfl ?_
        show Steps p.tables e below (T96.setTop (mkF m 170 #[.val (.long q0), .second, .val (.long q1), .second, .val (.int p2), .val (.int v2), .val (.int v8), .val (.long v56), .second, .val (.long v70), .second, .val (.ref s_LARGE), .val (.int v98), .val (.int v101), .unset] [])) _
        refine XS.goto X96.here hx rfl (pc0 := 170) (pc' := 212) rfl (hb hby at_170) (by decide) (by decide) ?_
        show Steps p.tables e below (T96.setTop (mkF m 212 #[.val (.long q0), .second, .val (.long q1), .second, .val (.int p2), .val (.int v2), .val (.int v8), .val (.long v56), .second, .val (.long v70), .second, .val (.ref s_LARGE), .val (.int v98), .val (.int v101), .unset] [])) _
        refine XS.iload X96.here hx rfl (hb hby at_212) rfl ?_
        show Steps p.tables e below (T96.setTop (mkF m 214 #[.val (.long q0), .second, .val (.long q1), .second, .val (.int p2), .val (.int v2), .val (.int v8), .val (.long v56), .second, .val (.long v70), .second, .val (.ref s_LARGE), .val (.int v98), .val (.int v101), .unset] [(.int v98)])) _
        refine XS.iload X96.here hx rfl (hb hby at_214) rfl ?_
        exact k)
      by_cases hc108 : v98 = v101
      · skip
        have ks109 : own_R p e below (s₁.setTop (entryFrame m #[(.long q0), (.long q1), (.int p2)] maxLocals)) (T96.setTop (mkF m 224 #[.val (.long q0), .second, .val (.long q1), .second, .val (.int p2), .val (.int v2), .val (.int v8), .val (.long v56), .second, .val (.long v70), .second, .val (.ref s_LARGE), .val (.int v98), .val (.int v101), .unset] [(.int (1 : Int32))])) := fun t k => ks107 t (by
          show Steps p.tables e below (T96.setTop (mkF m 216 #[.val (.long q0), .second, .val (.long q1), .second, .val (.int p2), .val (.int v2), .val (.int v8), .val (.long v56), .second, .val (.long v70), .second, .val (.ref s_LARGE), .val (.int v98), .val (.int v101), .unset] [(.int v101), (.int v98)])) _
          refine XS.icmpNo X96.here hx rfl (hb hby at_216) rfl (teq hc108).2 ?_
          show Steps p.tables e below (T96.setTop (mkF m 219 #[.val (.long q0), .second, .val (.long q1), .second, .val (.int p2), .val (.int v2), .val (.int v8), .val (.long v56), .second, .val (.long v70), .second, .val (.ref s_LARGE), .val (.int v98), .val (.int v101), .unset] [])) _
          refine XS.iconst X96.here hx rfl (hb hby at_219) ?_
          show Steps p.tables e below (T96.setTop (mkF m 220 #[.val (.long q0), .second, .val (.long q1), .second, .val (.int p2), .val (.int v2), .val (.int v8), .val (.long v56), .second, .val (.long v70), .second, .val (.ref s_LARGE), .val (.int v98), .val (.int v101), .unset] [(.int (1 : Int32))])) _
          refine XS.goto X96.here hx rfl (pc0 := 220) (pc' := 224) rfl (hb hby at_220) (by decide) (by decide) ?_
          exact k)
        obtain ⟨fs, hr, hrun, hended, hW, hsame⟩ := X96.leave (v := some (.int (1 : Int32))) (fun h => by rw [Bd.returns] at h; cases h)
        refine ⟨_, _, ks109 _ ?_, hrun, hended, _, _, rfl, ?_, ⟨_, rfl⟩, hW, hsame.mono (by decide) (by decide)⟩
        · exact retN X96 hx (t := .boolean) Bd.returns (by simp) (hb hby at_224) hr
        · show Q0 Z q0 q1 p2 s_SMALL s_LARGE h0 n0 _ T96.heap _
          rw [eq96]
          exact ⟨rfl, N96⟩
      · skip
        have ks110 : own_R p e below (s₁.setTop (entryFrame m #[(.long q0), (.long q1), (.int p2)] maxLocals)) (T96.setTop (mkF m 224 #[.val (.long q0), .second, .val (.long q1), .second, .val (.int p2), .val (.int v2), .val (.int v8), .val (.long v56), .second, .val (.long v70), .second, .val (.ref s_LARGE), .val (.int v98), .val (.int v101), .unset] [(.int (0 : Int32))])) := fun t k => ks107 t (by
          show Steps p.tables e below (T96.setTop (mkF m 216 #[.val (.long q0), .second, .val (.long q1), .second, .val (.int p2), .val (.int v2), .val (.int v8), .val (.long v56), .second, .val (.long v70), .second, .val (.ref s_LARGE), .val (.int v98), .val (.int v101), .unset] [(.int v101), (.int v98)])) _
          refine XS.icmpYes X96.here hx rfl (pc0 := 216) (pc' := 223) rfl (hb hby at_216) rfl (feq hc108).2 (by decide) (by decide) ?_
          show Steps p.tables e below (T96.setTop (mkF m 223 #[.val (.long q0), .second, .val (.long q1), .second, .val (.int p2), .val (.int v2), .val (.int v8), .val (.long v56), .second, .val (.long v70), .second, .val (.ref s_LARGE), .val (.int v98), .val (.int v101), .unset] [])) _
          refine XS.iconst X96.here hx rfl (hb hby at_223) ?_
          exact k)
        obtain ⟨fs, hr, hrun, hended, hW, hsame⟩ := X96.leave (v := some (.int (0 : Int32))) (fun h => by rw [Bd.returns] at h; cases h)
        refine ⟨_, _, ks110 _ ?_, hrun, hended, _, _, rfl, ?_, ⟨_, rfl⟩, hW, hsame.mono (by decide) (by decide)⟩
        · exact retN X96 hx (t := .boolean) Bd.returns (by simp) (hb hby at_224) hr
        · show Q0 Z q0 q1 p2 s_SMALL s_LARGE h0 n0 _ T96.heap _
          rw [eq96]
          exfalso
          have bk : 0 ≤ v59.toInt ∧ v59.toInt ≤ 1000 := by rw [hv59]; split; decide; split <;> decide
          have bc : 0 ≤ v56.toInt ∧ v56.toInt ≤ 1099511627775 := by rw [hv56]; exact own_m40 _
          have bm := own_mode v59 v56 q1 bk.1 bk.2 bc.1 bc.2
          rw [← hv66, ← hv70] at bm
          have l := own_law v56 v70 bc.1 (Int.le_trans bc.2 (by decide)) bm.1 bm.2
          apply hc108
          rw [hv98, hv101]
          unfold own_holds
          rw [if_pos rfl]
          simp only [l.1, l.2.1]
set_option maxRecDepth 65536 in
set_option maxHeartbeats 40000000 in
theorem comes_1 {Post : Tables → Env → Array Value → State → Outcome → State → Prop} (hpost : ∀ tb e args s v u, (limb_1_1.after args s (.returned v) u = true ∧ limb_1_2.after args s (.returned v) u = true ∧ True) → FrameEnd s (.returned v) u (Jvm.fieldLocs frame_1_writes args s ++ Jvm.arrayLocs frame_1_arrays args s ++ Jvm.staticLocs frame_1_statics s) 0 0 → Post tb e args s (.returned v) u) :
    ArmFor flags0 classFile x code maxLocals ret World_1 tables_1 room_1 Calls_1 rest_1 Pre_1 Post := by
  intro l hfl _ _ p e ha hc hk s m args below hf hA hF happ hP
  obtain ⟨hcalls, hrest, hpre⟩ := hP
  obtain ⟨-, -, -, hnamed, -, -, -, hat⟩ := (Spec.applies_iff hf).mp happ
  obtain ⟨hg, hn⟩ := and_e (Cond.before_iff.mp (show (Jvm.Cond.and given_1 narrow_1).before args s = true from hpre))
  obtain ⟨g1, g2⟩ := and_e hg
  obtain ⟨g3, g4⟩ := and_e g2
  obtain ⟨g5, g6⟩ := and_e g4
  obtain ⟨g7, g8⟩ := and_e hn
  obtain ⟨g9, g10⟩ := and_e g8
  obtain ⟨g11, g12⟩ := and_e g10
  obtain ⟨w0, w1, w2, rfl⟩ : ∃ w0 w1 w2 : Value, args = #[w0, w1, w2] := by
    have hs : args.size = 3 := by simpa [Cond.value, given_1] using g1
    obtain ⟨L⟩ := args
    match L, hs with
    | [w0, w1, w2], _ => exact ⟨w0, w1, w2, rfl⟩
  have hw := fun d (hd : d ∈ tables_1) => atoms_spec (ws := Jvm.Cond.code x code maxLocals ret :: tables_1) hat d (List.mem_cons_of_mem _ hd)
  have hfit : Fit s := fun {y c} hc i hi => by
    obtain ⟨ha, rfl⟩ := Array.getElem?_eq_some_iff.mp hc
    have q := List.all_eq_true.mp ((Array.all_eq_true_iff_forall_mem.mp hF) _ (Array.getElem_mem ha)) i (List.mem_range.mpr hi)
    simpa [Array.getElem?_eq_getElem hi] using q
  obtain ⟨i0, ei0⟩ := isL_v g3
  obtain rfl : w0 = (.long i0) := Option.some.inj ei0
  obtain ⟨i1, ei1⟩ := isL_v g5
  obtain rfl : w1 = (.long i1) := Option.some.inj ei1
  obtain ⟨i2, ei2⟩ := is_v g6
  obtain rfl : w2 = (.int i2) := Option.some.inj ei2
  obtain ⟨s_SMALL, ev_s_SMALL⟩ := exa_v g7
  have E_s_SMALL := Exa.start ev_s_SMALL g7
  have S_s_SMALL : Sta s s.heap "com/example/carved_corpus/carvedcorpus/cli/QuestionPicker$Size" "SMALL" "Lcom/example/carved_corpus/carvedcorpus/cli/QuestionPicker$Size;" (.ref s_SMALL) := Sta.start ev_s_SMALL (Or.inr ⟨(hw _ (List.mem_of_getElem? (i := 2) rfl)), (hw _ (List.mem_of_getElem? (i := 3) rfl))⟩)
  obtain ⟨s_LARGE, ev_s_LARGE⟩ := exa_v g9
  have E_s_LARGE := Exa.start ev_s_LARGE g9
  have S_s_LARGE : Sta s s.heap "com/example/carved_corpus/carvedcorpus/cli/QuestionPicker$Size" "LARGE" "Lcom/example/carved_corpus/carvedcorpus/cli/QuestionPicker$Size;" (.ref s_LARGE) := Sta.start ev_s_LARGE (Or.inr ⟨(hw _ (List.mem_of_getElem? (i := 2) rfl)), (hw _ (List.mem_of_getElem? (i := 10) rfl))⟩)
  have F_s_SMALL_ordinal : Fld s s.heap s_SMALL "java/lang/Enum" "ordinal" "I" (.int (1 : Int32)) := Fld.start ((fld_at ev_s_SMALL).symm.trans (own_eqi g11))
  have F_s_LARGE_ordinal : Fld s s.heap s_LARGE "java/lang/Enum" "ordinal" "I" (.int (0 : Int32)) := Fld.start ((fld_at ev_s_LARGE).symm.trans (own_eqi g12))
  obtain ⟨n, o, h1, h2, h3, _, L, rfl, ⟨rfl, N⟩, hq⟩ := rm0 l s _ hw tables_1 i0 i1 i2 s_SMALL s_LARGE s.heap s.heap.size (Nat.le_refl _) E_s_SMALL S_s_SMALL E_s_LARGE S_s_LARGE F_s_SMALL_ordinal F_s_LARGE_ordinal p e ha hc hk s m _ below hf ((Spec.applies_iff_loose hf).mp happ).1 ⟨rfl, State.Warmed39.refl s, rfl⟩ trivial
  refine ⟨n, _, h1, h2, h3, hpost _ _ _ _ _ _ ⟨Cond.after_iff.mpr rfl, Cond.after_iff.mpr (eq_i res_at (Term.int_eval (1)) rfl), trivial⟩ ⟨hq.1, hq.2.1, (hq.2.2.sift fun y hy => Or.inr (N y hy)).mono (by decide) (by decide)⟩⟩
theorem main_1_1 : Claimed_1_1 := comes_1 fun _ _ _ _ _ _ h hF => ⟨h.1, hF⟩
theorem main_1_2 : Claimed_1_2 := comes_1 fun _ _ _ _ _ _ h hF => ⟨h.2.1, hF⟩
end Jvm.Pilot.@@N@@
namespace Jvm.Pilot.@@N@@
open Jvm Jvm.ClassFile Sem Op Lib Jvm.Free Jvm.Stand Jvm.Pilot.@@N@@.Jvm.D
/-! MADE BY PROGRAM (witnessworld.py) out of the Statement's table words and the real class files: 13 classes; the members and pool entries that the words name. The judged class is class 1, her method 1. -/
namespace start1
open Jvm.ClassFile
def u (s : String) : CpInfo := .utf8 (stringToUtf16 s)
/-- a pool by its gaps: so many unusable entries, then the entry; so many at the end -/
def gap : Nat → List CpInfo → List CpInfo
  | 0, r => r
  | n + 1, r => .unusable :: gap n r
def poolList (es : List (Nat × CpInfo)) (last : Nat) : List CpInfo := es.foldr (fun e r => gap e.1 (e.2 :: r)) (gap last [])
def pool (es : List (Nat × CpInfo)) (last : Nat) : Array CpInfo := ⟨poolList es last⟩
def fileOf (pool : Array CpInfo) (this : Nat) (attrs : Array Attribute := #[]) (ms : Array MethodInfo := #[]) (fl : Nat := 33) (sup : Nat := 0) (ifs : Array Nat := #[]) (fds : Array FieldInfo := #[]) : ClassFile where
  minorVersion := 0
  majorVersion := 65
  constantPool := pool
  accessFlags := fl
  thisClass := this
  superClass := sup
  interfaces := ifs
  fields := fds
  methods := ms
  attributes := attrs
def plain (name : String) (sup : Option ClassId) : Class where
  name := name
  kind := .ordinary
  loader := none
  accessFlags := 33
  super := sup
  interfaces := #[]
  cf := none
  fields := #[]
  methods := #[]
  instanceTypes := #[]
  staticTypes := #[]
  resolved := #[]
  callSites := []
  init := .initialized
  statics := none
  mirror := none

def pool0 : Array CpInfo := pool [(5, u "<init>"), (0, u "()V"), (1, .class_ 10), (1, u "java/lang/Object")] 113

def k0m0 : Method := { name := "<init>", desc := "()V", sig := { parameters := [], returnType := none }, accessFlags := 1, code := none }
/-- java/lang/Object -/
def k0 : Class := { plain "java/lang/Object" none with
  accessFlags := 33
  interfaces := #[]
  cf := some (fileOf pool0 8 #[] #[{ accessFlags := 1, nameIndex := 5, descriptorIndex := 6, attributes := #[] }] 33 0 #[] #[])
  fields := #[]
  methods := #[k0m0]
  instanceTypes := #[]
  staticTypes := #[]
  resolved := Array.replicate 124 none
  statics := none }

def pool1 : Array CpInfo := pool [(2, .class_ 4), (1, u "java/lang/Object"), (0, u "<init>"), (0, u "()V"), (0, .long 9007199254740991), (1, .long 1099511627775), (1, .long 2), (1, .long 100), (1, .long 1000), (1, .long 3), (1, .methodref 20 21), (0, .class_ 22), (0, .nameAndType 23 24), (0, u "java/lang/Math"), (0, u "max"), (0, u "(JJ)J"), (0, .fieldref 26 27), (0, .class_ 28), (0, .nameAndType 29 30), (0, u "com/example/carved_corpus/carvedcorpus/cli/QuestionPicker$Size"), (0, u "LARGE"), (0, u "Lcom/example/carved_corpus/carvedcorpus/cli/QuestionPicker$Size;"), (0, .fieldref 26 32), (0, .nameAndType 33 30), (0, u "SMALL"), (0, .methodref 26 35), (0, .nameAndType 36 37), (0, u "holds"), (0, u "(JJ)Z"), (0, .long 99), (1, .long 999), (1, .class_ 43), (0, u "com/example/carved_corpus/carvedcorpus/cli/SizeHoldsPinLaw"), (2, u "law"), (0, u "(JJI)Z")] 7

def k1m0 : Method := { name := "<init>", desc := "()V", sig := { parameters := [], returnType := none }, accessFlags := 2, code := none }
def k1c1 : Code := { maxStack := 6, maxLocals := 15, code := code, exceptionTable := #[], attributes := #[] }
def k1m1 : Method := { name := "law", desc := "(JJI)Z", sig := { parameters := [.long, .long, .int], returnType := some .boolean }, accessFlags := 9, code := some k1c1 }
/-- com/example/carved_corpus/carvedcorpus/cli/SizeHoldsPinLaw -/
def k1 : Class := { plain "com/example/carved_corpus/carvedcorpus/cli/SizeHoldsPinLaw" (some 0) with
  accessFlags := 49
  interfaces := #[]
  cf := some (fileOf pool1 42 #[] #[{ accessFlags := 2, nameIndex := 5, descriptorIndex := 6, attributes := #[] }, { accessFlags := 9, nameIndex := 46, descriptorIndex := 47, attributes := #[] }] 49 2 #[] #[])
  fields := #[]
  methods := #[k1m0, k1m1]
  instanceTypes := #[]
  staticTypes := #[]
  resolved := Array.replicate 55 none
  statics := none }

def pool2 : Array CpInfo := pool [(1, .class_ 2), (0, u "java/lang/constant/Constable"), (0, .class_ 4), (0, u "java/lang/Object")] 6

/-- java/lang/constant/Constable -/
def k2 : Class := { plain "java/lang/constant/Constable" (some 0) with
  accessFlags := 1537
  interfaces := #[]
  cf := some (fileOf pool2 1 #[] #[] 1537 3 #[] #[])
  fields := #[]
  methods := #[]
  instanceTypes := #[]
  staticTypes := #[]
  resolved := Array.replicate 11 none
  statics := none }

def pool3 : Array CpInfo := pool [(1, .class_ 2), (0, u "java/lang/Comparable"), (0, .class_ 4), (0, u "java/lang/Object")] 7

/-- java/lang/Comparable -/
def k3 : Class := { plain "java/lang/Comparable" (some 0) with
  accessFlags := 1537
  interfaces := #[]
  cf := some (fileOf pool3 1 #[] #[] 1537 3 #[] #[])
  fields := #[]
  methods := #[]
  instanceTypes := #[]
  staticTypes := #[]
  resolved := Array.replicate 12 none
  statics := none }

def pool4 : Array CpInfo := pool [(1, .class_ 2), (0, u "java/io/Serializable"), (0, .class_ 4), (0, u "java/lang/Object")] 2

/-- java/io/Serializable -/
def k4 : Class := { plain "java/io/Serializable" (some 0) with
  accessFlags := 1537
  interfaces := #[]
  cf := some (fileOf pool4 1 #[] #[] 1537 3 #[] #[])
  fields := #[]
  methods := #[]
  instanceTypes := #[]
  staticTypes := #[]
  resolved := Array.replicate 7 none
  statics := none }

def pool5 : Array CpInfo := pool [(2, .class_ 4), (1, u "java/lang/Enum"), (0, u "name"), (0, u "Ljava/lang/String;"), (2, u "ordinal"), (0, u "I"), (1, .class_ 14), (1, u "java/lang/Object"), (4, u "hash"), (86, .class_ 108), (1, u "java/lang/Enum$EnumDesc"), (2, .class_ 112), (0, u "java/lang/constant/Constable"), (0, .class_ 114), (0, u "java/lang/Comparable"), (0, .class_ 116), (0, u "java/io/Serializable")] 87

/-- java/lang/Enum -/
def k5 : Class := { plain "java/lang/Enum" (some 0) with
  accessFlags := 1057
  interfaces := #[2, 3, 4]
  cf := some (fileOf pool5 2 #[.nestMembers #[106]] #[] 1057 12 #[111, 113, 115] #[{ accessFlags := 18, nameIndex := 5, descriptorIndex := 6, attributes := #[] }, { accessFlags := 18, nameIndex := 9, descriptorIndex := 10, attributes := #[] }, { accessFlags := 2, nameIndex := 19, descriptorIndex := 10, attributes := #[] }])
  fields := #[{ name := "name", type := (.object "java/lang/String"), accessFlags := 18, slot := 0, constantValue := 0 }, { name := "ordinal", type := .int, accessFlags := 18, slot := 1, constantValue := 0 }, { name := "hash", type := .int, accessFlags := 2, slot := 2, constantValue := 0 }]
  methods := #[]
  instanceTypes := #[(.object "java/lang/String"), .int, .int]
  staticTypes := #[]
  resolved := Array.replicate 204 none
  statics := none }

def pool6 : Array CpInfo := pool [(1, .class_ 2), (0, u "com/example/carved_corpus/carvedcorpus/cli/QuestionPicker$Size"), (0, .fieldref 1 4), (0, .nameAndType 5 6), (0, u "LARGE"), (0, u "Lcom/example/carved_corpus/carvedcorpus/cli/QuestionPicker$Size;"), (2, u "SMALL"), (2, u "$VALUES"), (0, u "[Lcom/example/carved_corpus/carvedcorpus/cli/QuestionPicker$Size;"), (6, .class_ 22), (1, u "java/lang/Enum"), (8, u "name"), (0, u "Ljava/lang/String;"), (0, .long 100), (1, .long 2), (1, .long 1000), (23, u "holds"), (0, u "(JJ)Z"), (8, .class_ 72), (0, u "com/example/carved_corpus/carvedcorpus/cli/QuestionPicker")] 2

def k6c0 : Code := { maxStack := 4, maxLocals := 6, code := prog_13_method_5_code, exceptionTable := #[], attributes := #[] }
def k6m0 : Method := { name := "holds", desc := "(JJ)Z", sig := { parameters := [.long, .long], returnType := some .boolean }, accessFlags := 0, code := some k6c0 }
/-- com/example/carved_corpus/carvedcorpus/cli/QuestionPicker$Size -/
def k6 : Class := { plain "com/example/carved_corpus/carvedcorpus/cli/QuestionPicker$Size" (some 5) with
  accessFlags := 16432
  interfaces := #[]
  cf := some (fileOf pool6 1 #[.nestHost 71] #[{ accessFlags := 0, nameIndex := 61, descriptorIndex := 62, attributes := #[] }] 16432 20 #[] #[{ accessFlags := 16409, nameIndex := 5, descriptorIndex := 6, attributes := #[] }, { accessFlags := 16409, nameIndex := 9, descriptorIndex := 6, attributes := #[] }, { accessFlags := 18, nameIndex := 31, descriptorIndex := 32, attributes := #[] }, { accessFlags := 4122, nameIndex := 12, descriptorIndex := 13, attributes := #[] }])
  fields := #[{ name := "LARGE", type := (.object "com/example/carved_corpus/carvedcorpus/cli/QuestionPicker$Size"), accessFlags := 16409, slot := 0, constantValue := 0 }, { name := "SMALL", type := (.object "com/example/carved_corpus/carvedcorpus/cli/QuestionPicker$Size"), accessFlags := 16409, slot := 1, constantValue := 0 }, { name := "name", type := (.object "java/lang/String"), accessFlags := 18, slot := 3, constantValue := 0 }, { name := "$VALUES", type := (.array (.object "com/example/carved_corpus/carvedcorpus/cli/QuestionPicker$Size")), accessFlags := 4122, slot := 2, constantValue := 0 }]
  methods := #[k6m0]
  instanceTypes := #[(.object "java/lang/String"), .int, .int, (.object "java/lang/String")]
  staticTypes := #[(.object "com/example/carved_corpus/carvedcorpus/cli/QuestionPicker$Size"), (.object "com/example/carved_corpus/carvedcorpus/cli/QuestionPicker$Size"), (.array (.object "com/example/carved_corpus/carvedcorpus/cli/QuestionPicker$Size"))]
  resolved := Array.replicate 75 none
  statics := some 0 }

def pool7 : Array CpInfo := pool [(1, .class_ 2), (0, u "java/lang/Math"), (1, .class_ 6), (1, u "java/lang/Object"), (0, u "<init>"), (0, u "()V"), (89, .class_ 100), (1, u "java/lang/Math$RandomNumberGeneratorHolder"), (20, u "(JJ)J"), (50, u "negativeZeroFloatBits"), (0, u "J"), (2, u "negativeZeroDoubleBits"), (21, u "max"), (46, u "$assertionsDisabled"), (0, u "Z"), (91, u "twoToTheDoubleScaleDown"), (0, u "D"), (4, u "twoToTheDoubleScaleUp"), (9, u "E"), (3, u "PI"), (2, u "TAU"), (2, u "DEGREES_TO_RADIANS"), (0, u "RADIANS_TO_DEGREES")] 94

def k7m0 : Method := { name := "<init>", desc := "()V", sig := { parameters := [], returnType := none }, accessFlags := 2, code := none }
def k7c1 : Code := { maxStack := 4, maxLocals := 4, code := jdk_29_method_66_code, exceptionTable := #[], attributes := #[] }
def k7m1 : Method := { name := "max", desc := "(JJ)J", sig := { parameters := [.long, .long], returnType := some .long }, accessFlags := 9, code := some k7c1 }
/-- java/lang/Math -/
def k7 : Class := { plain "java/lang/Math" (some 0) with
  accessFlags := 49
  interfaces := #[]
  cf := some (fileOf pool7 1 #[.nestMembers #[98]] #[{ accessFlags := 2, nameIndex := 7, descriptorIndex := 8, attributes := #[] }, { accessFlags := 9, nameIndex := 198, descriptorIndex := 121, attributes := #[] }] 49 4 #[] #[{ accessFlags := 25, nameIndex := 354, descriptorIndex := 339, attributes := #[] }, { accessFlags := 25, nameIndex := 358, descriptorIndex := 339, attributes := #[] }, { accessFlags := 25, nameIndex := 361, descriptorIndex := 339, attributes := #[] }, { accessFlags := 26, nameIndex := 364, descriptorIndex := 339, attributes := #[] }, { accessFlags := 26, nameIndex := 365, descriptorIndex := 339, attributes := #[] }, { accessFlags := 26, nameIndex := 172, descriptorIndex := 173, attributes := #[] }, { accessFlags := 26, nameIndex := 176, descriptorIndex := 173, attributes := #[] }, { accessFlags := 8, nameIndex := 344, descriptorIndex := 339, attributes := #[] }, { accessFlags := 8, nameIndex := 338, descriptorIndex := 339, attributes := #[] }, { accessFlags := 4120, nameIndex := 245, descriptorIndex := 246, attributes := #[] }])
  fields := #[{ name := "E", type := .double, accessFlags := 25, slot := 0, constantValue := 0 }, { name := "PI", type := .double, accessFlags := 25, slot := 1, constantValue := 0 }, { name := "TAU", type := .double, accessFlags := 25, slot := 2, constantValue := 0 }, { name := "DEGREES_TO_RADIANS", type := .double, accessFlags := 26, slot := 3, constantValue := 0 }, { name := "RADIANS_TO_DEGREES", type := .double, accessFlags := 26, slot := 4, constantValue := 0 }, { name := "negativeZeroFloatBits", type := .long, accessFlags := 26, slot := 5, constantValue := 0 }, { name := "negativeZeroDoubleBits", type := .long, accessFlags := 26, slot := 6, constantValue := 0 }, { name := "twoToTheDoubleScaleUp", type := .double, accessFlags := 8, slot := 7, constantValue := 0 }, { name := "twoToTheDoubleScaleDown", type := .double, accessFlags := 8, slot := 8, constantValue := 0 }, { name := "$assertionsDisabled", type := .boolean, accessFlags := 4120, slot := 9, constantValue := 0 }]
  methods := #[k7m0, k7m1]
  instanceTypes := #[]
  staticTypes := #[.double, .double, .double, .double, .double, .long, .long, .double, .double, .boolean]
  resolved := Array.replicate 460 none
  statics := none }

def pool8 : Array CpInfo := pool [(1, u "java/lang/Cloneable"), (0, .class_ 1), (0, u "java/lang/Object"), (0, .class_ 3)] 3

/-- java/lang/Cloneable -/
def k8 : Class := { plain "java/lang/Cloneable" (some 0) with
  accessFlags := 1537
  interfaces := #[]
  cf := some (fileOf pool8 2 #[] #[] 1537 4 #[] #[])
  fields := #[]
  methods := #[]
  instanceTypes := #[]
  staticTypes := #[]
  resolved := Array.replicate 8 none
  statics := none }

/-- the primitive byte -/
def k9 : Class := { plain "byte" none with kind := .primitive 'B', accessFlags := 0x411 }
/-- [B -/
def k10 : Class := { plain "[B" (some 0) with kind := .array 9 .byte, interfaces := #[8, 4], accessFlags := 1041 }

/-- the primitive int -/
def k11 : Class := { plain "int" none with kind := .primitive 'I', accessFlags := 0x411 }
/-- [I -/
def k12 : Class := { plain "[I" (some 0) with kind := .array 11 .int, interfaces := #[8, 4], accessFlags := 1041 }

def heap : Heap := #[{ cls := 6, slots := #[.ref 2, .ref 1, .null], vm := .statics 6 },
  { cls := 6, slots := #[.null, .int 1, .int 0, .null], vm := .none },
  { cls := 6, slots := #[.null, .int 0, .int 0, .null], vm := .none }]
def classes : Array Class := #[k0, k1, k2, k3, k4, k5, k6, k7, k8, k9, k10, k11, k12]
def interned : List (Array UInt16 × Addr) := []
def slotsUsed : Nat := 11
def theMethod : MethodId := ⟨1, 1⟩
def args0 : Array Value := #[.long 500, .long 7, .int 3]
def aboutOver (below : List Frame) : State where
  vm := { classes := classes, interned := interned.toArray }
  heap := heap
  slotsUsed := slotsUsed
  threads := #[{ frames := .invoking theMethod args0 :: below }]
def below0 : List Frame := [.native { method := ⟨0, 0⟩, args := #[] }]
def about1 : State := aboutOver below0
def p0 : Program := .bare "" "" ""
def e0 : Env := launch0.env 0 0 0
theorem w_frames : about1.frames = Frame.invoking theMethod args0 :: below0 := rfl
set_option maxRecDepth 65536 in
theorem w_args : argsFit about1.vm theMethod args0 = true := by decide +kernel
set_option maxRecDepth 65536 in
theorem w_heap : heapFits about1 = true := by decide +kernel
set_option maxRecDepth 65536 in
theorem w_runnable : about1.curStatus? = some .runnable := by decide +kernel
set_option maxRecDepth 65536 in
theorem w_alone : about1.alone = true := by decide +kernel
set_option maxRecDepth 65536 in
theorem w_named : about1.methodNamed? x = some theMethod := by decide +kernel
set_option maxRecDepth 65536 in
theorem w_hears : about1.hears theMethod below0 = true := by decide +kernel
set_option maxRecDepth 65536 in
theorem w_ripe : about1.ripe theMethod args0 below0 = true := by decide +kernel
theorem w_running : about1.status = .running := rfl
set_option maxRecDepth 65536 in
theorem w_room : about1.hasRoom e0.platform room_1 = true :=
  launch0.hasRoom_least _ room_1 (by decide +kernel) (by decide +kernel) (by decide +kernel) (by decide +kernel) (by decide +kernel) (by decide +kernel)
theorem allAtoms_all (ts : List Jvm.Cond) (a : Array Jvm.Value) (st : Jvm.State) : (allAtoms ts).before a st = ts.all (fun c => c.before a st) := by
  induction ts with
  | nil => rfl
  | cons c t ih =>
    show (Jvm.Cond.and c (allAtoms t)).before a st = _
    rw [Jvm.Cond.before_and, ih, List.all_cons]
def words1 : List Jvm.Cond := Jvm.Cond.code x code maxLocals ret :: tables_1
/-- a 'code' word, met by the world's own term for the bytes: nothing is compared byte by byte -/
theorem code_word {y : MethodName} {bytes : ByteArray} {mx : Nat} {rt : Option FieldType} {a : Array Value} {s : State} {m : MethodId} {meth : Method} {c : Code} (h1 : s.methodNamed? y = some m) (h2 : s.vm.method? m = some meth) (h3 : meth.code = some c) (h4 : c.code = bytes)
    (h5 : (c.maxLocals == mx && c.exceptionTable.isEmpty && decide (c.maxStack ≤ mostOperands) && decide (meth.sig.returnType = rt) && !meth.locks && decide (parseMethodDescriptor y.desc = some meth.sig)) = true) : (Jvm.Cond.code y bytes mx rt).before a s = true := by
  simp only [Bool.and_eq_true, beq_iff_eq, Bool.not_eq_true', decide_eq_true_eq] at h5
  obtain ⟨⟨⟨⟨⟨g1, g2⟩, g3⟩, g4⟩, g5⟩, g6⟩ := h5
  simp [Cond.before, Cond.holds, Cond.value, h1, h2, h3, h4, g1, g2, g3, g4, g5, g6]
def isCode : Jvm.Cond → Bool
  | .code _ _ _ _ => true
  | _ => false
theorem all_split {L : List Jvm.Cond} {P : Jvm.Cond → Bool} (h1 : L.all (fun c => isCode c || P c) = true) (h2 : ∀ c ∈ L.filter isCode, P c = true) : L.all P = true := by
  refine List.all_eq_true.mpr fun c hc => ?_
  have h := List.all_eq_true.mp h1 c hc
  rcases Bool.eq_false_or_eq_true (isCode c) with hi | hi
  · exact h2 c (List.mem_filter.mpr ⟨hc, hi⟩)
  · simpa [hi] using h
set_option maxRecDepth 65536 in
theorem w_c0 : (Jvm.Cond.code x code maxLocals ret).before args0 about1 = true := code_word (m := ⟨1, 1⟩) (meth := k1m1) (c := k1c1) (by decide +kernel) rfl rfl rfl (by decide +kernel)
set_option maxRecDepth 65536 in
theorem w_c1 : (Jvm.Cond.code ({ cls := "com/example/carved_corpus/carvedcorpus/cli/QuestionPicker$Size", name := "holds", desc := "(JJ)Z" } : Jvm.MethodName) prog_13_method_5_code (6 : Nat) (Option.some Jvm.ClassFile.FieldType.boolean)).before args0 about1 = true := code_word (m := ⟨6, 0⟩) (meth := k6m0) (c := k6c0) (by decide +kernel) rfl rfl rfl (by decide +kernel)
set_option maxRecDepth 65536 in
theorem w_c2 : (Jvm.Cond.code ({ cls := "java/lang/Math", name := "max", desc := "(JJ)J" } : Jvm.MethodName) jdk_29_method_66_code (4 : Nat) (Option.some Jvm.ClassFile.FieldType.long)).before args0 about1 = true := code_word (m := ⟨7, 1⟩) (meth := k7m1) (c := k7c1) (by decide +kernel) rfl rfl rfl (by decide +kernel)
def codes1 : List Jvm.Cond := [Jvm.Cond.code x code maxLocals ret, Jvm.Cond.code ({ cls := "com/example/carved_corpus/carvedcorpus/cli/QuestionPicker$Size", name := "holds", desc := "(JJ)Z" } : Jvm.MethodName) prog_13_method_5_code (6 : Nat) (Option.some Jvm.ClassFile.FieldType.boolean), Jvm.Cond.code ({ cls := "java/lang/Math", name := "max", desc := "(JJ)J" } : Jvm.MethodName) jdk_29_method_66_code (4 : Nat) (Option.some Jvm.ClassFile.FieldType.long)]
set_option maxRecDepth 65536 in
theorem codes_eq : words1.filter isCode = codes1 := rfl
theorem w_codes : ∀ c ∈ words1.filter isCode, c.before args0 about1 = true := by
  rw [codes_eq]
  intro c hc
  simp only [codes1, List.mem_cons, List.not_mem_nil, or_false] at hc
  rcases hc with rfl | rfl | rfl
  · exact w_c0
  · exact w_c1
  · exact w_c2
set_option maxRecDepth 65536 in
theorem w_t1 : (words1.take 24).all (fun c => isCode c || c.before args0 about1) = true := by decide +kernel
set_option maxRecDepth 65536 in
theorem w_t2 : (words1.drop 24).all (fun c => isCode c || c.before args0 about1) = true := by decide +kernel
theorem w_tables : (allAtoms (Jvm.Cond.code x code maxLocals ret :: tables_1)).before args0 about1 = true := by
  rw [allAtoms_all]
  show words1.all (fun c => c.before args0 about1) = true
  refine all_split ?_ w_codes
  rw [← List.take_append_drop 24 words1, List.all_append, w_t1, w_t2]
  rfl
set_option maxRecDepth 65536 in
theorem w_case : (Jvm.Cond.and given_1 narrow_1).before args0 about1 = true := by decide +kernel
theorem w_applies : (headSpec (Jvm.Cond.code x code maxLocals ret :: tables_1) room_1).applies x e0.platform about1 = true :=
  (Spec.applies_iff w_frames).mpr ⟨w_running, w_runnable, w_alone, w_named, w_hears, w_ripe, w_room, w_tables⟩
theorem atStart : AtStart classFile x code maxLocals ret World_1 tables_1 room_1 Calls_1 rest_1 Pre_1 launch0 p0 e0 about1 theMethod args0 below0 :=
  ⟨lists_1, trivial, launch0.admits_env _ _ _, launch0.least_env, fairChoices_fair.cas, fairChoices_fair.clock, w_frames, w_args, w_heap, w_applies, trivial, trivial, w_case⟩
end start1
theorem witness_1 : WitnessClaimed_1 := ⟨start1.p0, start1.e0, start1.about1, start1.theMethod, start1.args0, start1.below0, start1.atStart⟩
end Jvm.Pilot.@@N@@

import JvmDerived
import JvmDerived.Pilot.@@N@@Statement
import JvmDerived.Pilot.@@N@@Code
set_option linter.unusedVariables false
set_option linter.unusedSimpArgs false
namespace Jvm.RoadKit
open Sem ClassFile Op Lib Jvm.Stand Jvm.Free Jvm.LawKit
section New
variable {p : Program} {l : Launch} {e : Env} {R : Room} {s : State} {m : MethodId} {args : Array Value} {below : List Frame} {meth : Method} {c : Code} {T : State} {locs : List Loc} {cells slots : Nat}
theorem retI (X : Stand p l e R s m args below meth c T locs cells slots) (hx : p.tables.exec = Jvm.exec) {pc : Nat} {Ls : Array Slot} {z : Int32} {rest : List Value} (hret : meth.sig.returnType = some .int) (hd : decode c.code pc = .ok (.ireturn, 1)) {fs : List Frame}
    (hl : ∀ (f : JFrame) (acts : List Action), f.method = m → f.locked = none → f.entered = [] → (doReturn e (T.setTop f) acts (some (.int z))).1 = T.setFrames fs) : Steps p.tables e below (T.setTop (mkF m pc Ls (.int z :: rest))) (T.setFrames fs) := by
  have hm' : T.vm.method? m = some meth := X.method'
  have hn : narrow .int (.int z) = .int z := rfl
  show Steps p.tables e below (T.setTop { method := m, pc := pc, locals := Ls, stack := _ :: rest, locked := none }) _
  jvm_step X.here [X.here.top, hx, hd, hm', hret, hn]
  first | (intro acts; rw [hl _ acts rfl rfl rfl]) | rw [hl _ _ rfl rfl rfl]
  exact Steps.refl _
end New
end Jvm.RoadKit
namespace Jvm.Pilot.@@N@@
open Jvm Jvm.ClassFile Sem Op Lib Jvm.Free Jvm.Stand Jvm.LawKit Jvm.RoadKit Bundle Jvm.Pilot.@@N@@.Jvm.D
theorem own_sta_keep {Z : State} {h h' : Heap} {C n d : String} {v : Value} (F : Sta Z h C n d v) (K : Keep h h' []) : Sta Z h' C n d v := by
  obtain ⟨cf, i, k, f, st, cell, h1, h2, h3, h4, h5, r⟩ := F
  exact ⟨cf, i, k, f, st, cell, h1, h2, h3, h4, K.2.1 _ _ h5 nin0, r⟩
/-- whoever comes from B to t comes from A to t -/
abbrev own_R (p : Program) (e : Env) (below : List Frame) (A B : State) : Prop := ∀ t, Steps p.tables e below B t → Steps p.tables e below A t

section OwnWords
variable {args : Array Value} {s : State} {t : Term}
theorem own_eqi {k : Int32} (h : (Jvm.Cond.eq t (.int k)).value args s none s [] = some true) : t.eval args s none [] s = some (.int k) := by
  simp only [Cond.value, Term.eval] at h
  cases ht : t.eval args s none [] s with
  | none => simp [ht] at h
  | some x => cases x <;> simp [ht] at h ⊢ <;> exact h
theorem own_eql {k : Int64} (h : (Jvm.Cond.eq t (.long k)).value args s none s [] = some true) : t.eval args s none [] s = some (.long k) := by
  simp only [Cond.value, Term.eval] at h
  cases ht : t.eval args s none [] s with
  | none => simp [ht] at h
  | some x => cases x <;> simp [ht] at h ⊢ <;> exact h
theorem own_eqr {u : Term} {x : Addr} (h : (Jvm.Cond.eq t u).value args s none s [] = some true) (hu : u.eval args s none [] s = some (.ref x)) : t.eval args s none [] s = some (.ref x) := by
  simp only [Cond.value, hu] at h
  cases ht : t.eval args s none [] s with
  | none => simp [ht] at h
  | some y => cases y <;> simp [ht] at h ⊢ <;> exact h
theorem own_len {x : Addr} {cl : Cell} {ty : FieldType} {k : Int32} (h : (Jvm.Cond.eq (.length t) (.int k)).value args s none s [] = some true) (ev : t.eval args s none [] s = some (.ref x)) (A : Arr s s.heap x cl ty) : cl.slots.size < 2 ^ 31 ∧ cl.slots.size.toInt32 = k := by
  have h1 := own_eqi h
  have h2 := A.fin (Vm.Alike.refl _)
  simp only [Term.eval, ev, Option.bind_eq_bind, Option.bind_some, h2] at h1
  split at h1
  · rename_i q; exact ⟨q, by simpa using h1⟩
  · cases h1
theorem own_elem {x : Addr} {cl : Cell} {ty : FieldType} {j : Int32} {v : Value} (h : (Term.elem t (.int j)).eval args s none [] s = some v) (ev : t.eval args s none [] s = some (.ref x)) (A : Arr s s.heap x cl ty) : cl.slots[j.toNatClampNeg]? = some v :=
  (elem_in h ev (Term.int_eval j) A.1).2
end OwnWords
def own_ct (a0 u1 u2 : Addr) : Int32 := if a0 = u1 then 1 else if a0 = u2 then 1 else 0
theorem d1_0 : decode prog_50_method_5_code 0 = .ok (.aload_n 0, 1) := by decide +kernel
theorem d1_1 : decode prog_50_method_5_code 1 = .ok (.getstatic 16, 3) := by decide +kernel
theorem d1_4 : decode prog_50_method_5_code 4 = .ok (.if_acmp .eq 10, 3) := by decide +kernel
theorem d1_7 : decode prog_50_method_5_code 7 = .ok (.aload_n 0, 1) := by decide +kernel
theorem d1_8 : decode prog_50_method_5_code 8 = .ok (.getstatic 19, 3) := by decide +kernel
theorem d1_11 : decode prog_50_method_5_code 11 = .ok (.if_acmp .ne 7, 3) := by decide +kernel
theorem d1_14 : decode prog_50_method_5_code 14 = .ok (.iconst 1, 1) := by decide +kernel
theorem d1_15 : decode prog_50_method_5_code 15 = .ok (.goto 4, 3) := by decide +kernel
theorem d1_18 : decode prog_50_method_5_code 18 = .ok (.iconst 0, 1) := by decide +kernel
theorem d1_19 : decode prog_50_method_5_code 19 = .ok (.ireturn, 1) := by decide +kernel
theorem pn_1 : plainName "com/example/randomized_protocol_models/randomizedprotocolmodels/lang/Property$FilterOperator" = true := by first | (simp [plainName, overriddenIn]; done) | decide +kernel
theorem ef_1 (m : MethodId) (x0 : Addr) : entryFrame m #[(.ref x0)] 1 = mkF m 0 #[.val (.ref x0)] [] := by first | (simp [entryFrame, mkF, argsToLocals, Value.category]; done) | rfl
def Q1 (Z : State) (r0 : Addr) (u1 : Addr) (u2 : Addr) (h0 : Heap) (n0 : Nat) (v : Option Value) (h : Heap) (L : List Loc) : Prop := v = some (.int (own_ct r0 u1 u2)) ∧ Fr n0 L ∧ h = h0
set_option maxRecDepth 65536 in
set_option maxHeartbeats 40000000 in
theorem rm1 (l : Launch) (Z : State) (a0 : Array Value) (hw : ∀ d ∈ tables_1, d.before a0 Z = true) (ws : List Jvm.Cond) (r0 : Addr) (u1 : Addr) (u2 : Addr) (h0 : Heap) (n0 : Nat) (Z0 : n0 ≤ h0.size) (S1 : Sta Z h0 "com/example/randomized_protocol_models/randomizedprotocolmodels/lang/Property$FilterOperator" "FORALL" "Lcom/example/randomized_protocol_models/randomizedprotocolmodels/lang/Property$FilterOperator;" (.ref u1)) (S2 : Sta Z h0 "com/example/randomized_protocol_models/randomizedprotocolmodels/lang/Property$FilterOperator" "EXISTS" "Lcom/example/randomized_protocol_models/randomizedprotocolmodels/lang/Property$FilterOperator;" (.ref u2)) :
    MetFree l (⟨"com/example/randomized_protocol_models/randomizedprotocolmodels/lang/Property$FilterOperator", "combinesTruths", "()Z"⟩ : MethodName) (head1 (Jvm.Cond.code (⟨"com/example/randomized_protocol_models/randomizedprotocolmodels/lang/Property$FilterOperator", "combinesTruths", "()Z"⟩ : MethodName) prog_50_method_5_code 1 (some .boolean) :: ws) ({ frames := 0, cells := 0, slots := 0, locals := 0 } : Room)) (fun a U => a = #[(.ref r0)] ∧ Z.Warmed39 U.vm ∧ U.heap = h0) (fun _ _ _ _ _ => True) (fun _ U o U' => ∃ v L, o = .returned v ∧ Q1 Z r0 u1 u2 h0 n0 v U'.heap L ∧ FrameEnd U o U' L ({ frames := 0, cells := 0, slots := 0, locals := 0 } : Room).cells ({ frames := 0, cells := 0, slots := 0, locals := 0 } : Room).slots) := by
  refine MetFree.of_bodySF (plainFor_of_name pn_1) hisR ?_
  intro p e s m args below meth c s₁ Bd hml0 hP hK
  obtain ⟨rfl, hZ, hh⟩ := hP
  have hx := Bd.exec
  have hby := Bd.bytes
  have hml : c.maxLocals = 1 := hml0
  have hown : s.vm.findClass "com/example/randomized_protocol_models/randomizedprotocolmodels/lang/Property$FilterOperator" = some m.cls := findClass_of_methodNamed Bd.named
  have hnm := (name_of_methodNamed Bd.named Bd.method).1
  have X0 : Stand p l e ({ frames := 0, cells := 0, slots := 0, locals := 0 } : Room) s m #[(.ref r0)] below meth c s₁ [] 0 0 := Stand.of_body Bd
  have e0 : s₁.heap = h0 := by rw [← hh, Bd.state]; rfl
  have N0 := Fr.nil n0
  have k0 : own_R p e below (s₁.setTop (entryFrame m #[(.ref r0)] 1)) (s₁.setTop (mkF m 0 #[.val (.ref r0)] [])) := fun t k => castTop (ef_1 m r0) k
  have ks1 : own_R p e below (s₁.setTop (entryFrame m #[(.ref r0)] 1)) (s₁.setTop (mkF m 1 #[.val (.ref r0)] [(.ref r0)])) := fun t k => k0 t (by
    show Steps p.tables e below (s₁.setTop (mkF m 0 #[.val (.ref r0)] [])) _
    refine XS.aloadN X0.here hx rfl (hb hby d1_0) rfl rfl ?_
    exact k)
  obtain ⟨T2, X2, e2, st2⟩ := getS2 X0 hx hZ hown (host := "") (Or.inl (hw _ (List.mem_of_getElem? (i := 9) rfl))) Via.refl e0 S1 (g := (mkF m 1 #[.val (.ref r0)] [(.ref r0)])) rfl (hb hby d1_1)
  have ks3 : own_R p e below (s₁.setTop (entryFrame m #[(.ref r0)] 1)) (T2.setTop (mkF m 4 #[.val (.ref r0)] [(.ref u1), (.ref r0)])) := fun t k => ks1 t (st2 t k)
  by_cases hc4 : r0 = u1
  · skip
    have ks5 : own_R p e below (s₁.setTop (entryFrame m #[(.ref r0)] 1)) (T2.setTop (mkF m 19 #[.val (.ref r0)] [(.int (1 : Int32))])) := fun t k => ks3 t (by
      show Steps p.tables e below (T2.setTop (mkF m 4 #[.val (.ref r0)] [(.ref u1), (.ref r0)])) _
      refine Jvm.RoadKit.acmp (g := (mkF m 4 #[.val (.ref r0)] [(.ref u1), (.ref r0)])) X2 hx rfl rfl rfl (pc0 := 4) (pc' := 14) (same := true) rfl (hb hby d1_4) rfl (decide_eq_true (congrArg Value.ref hc4)) (by decide) (by decide) ?_
      show Steps p.tables e below (T2.setTop (mkF m 14 #[.val (.ref r0)] [])) _
      refine XS.iconst X2.here hx rfl (hb hby d1_14) ?_
      show Steps p.tables e below (T2.setTop (mkF m 15 #[.val (.ref r0)] [(.int (1 : Int32))])) _
      refine XS.goto X2.here hx rfl (pc0 := 15) (pc' := 19) rfl (hb hby d1_15) (by decide) (by decide) ?_
      exact k)
    obtain ⟨fs, hr, hrun, hended, hW, hsame⟩ := X2.leave (v := some (.int (1 : Int32))) (fun h => by rw [Bd.returns] at h; cases h)
    refine ⟨_, _, ks5 _ ?_, hrun, hended, _, _, rfl, ?_, ⟨_, rfl⟩, hW, hsame.mono (by decide) (by decide)⟩
    · exact retN X2 hx (t := .boolean) Bd.returns (by simp) (hb hby d1_19) hr
    · show Q1 Z r0 u1 u2 h0 n0 _ T2.heap _
      rw [e2]
      refine ⟨?_, N0, rfl⟩
      rw [own_ct, if_pos hc4]
  · skip
    have ks6 : own_R p e below (s₁.setTop (entryFrame m #[(.ref r0)] 1)) (T2.setTop (mkF m 8 #[.val (.ref r0)] [(.ref r0)])) := fun t k => ks3 t (by
      show Steps p.tables e below (T2.setTop (mkF m 4 #[.val (.ref r0)] [(.ref u1), (.ref r0)])) _
      refine Jvm.RoadKit.acmp (g := (mkF m 4 #[.val (.ref r0)] [(.ref u1), (.ref r0)])) X2 hx rfl rfl rfl (pc0 := 4) (pc' := 7) (same := false) rfl (hb hby d1_4) rfl (decide_eq_false fun q => hc4 (Value.ref.inj q)) (by decide) (by decide) ?_
      show Steps p.tables e below (T2.setTop (mkF m 7 #[.val (.ref r0)] [])) _
      refine XS.aloadN X2.here hx rfl (hb hby d1_7) rfl rfl ?_
      exact k)
    obtain ⟨T7, X7, e7, st7⟩ := getS2 X2 hx hZ hown (host := "") (Or.inl (hw _ (List.mem_of_getElem? (i := 11) rfl))) Via.refl e2 S2 (g := (mkF m 8 #[.val (.ref r0)] [(.ref r0)])) rfl (hb hby d1_8)
    have ks8 : own_R p e below (s₁.setTop (entryFrame m #[(.ref r0)] 1)) (T7.setTop (mkF m 11 #[.val (.ref r0)] [(.ref u2), (.ref r0)])) := fun t k => ks6 t (st7 t k)
    by_cases hc9 : r0 = u2
    · skip
      have ks10 : own_R p e below (s₁.setTop (entryFrame m #[(.ref r0)] 1)) (T7.setTop (mkF m 19 #[.val (.ref r0)] [(.int (1 : Int32))])) := fun t k => ks8 t (by
        show Steps p.tables e below (T7.setTop (mkF m 11 #[.val (.ref r0)] [(.ref u2), (.ref r0)])) _
        refine Jvm.RoadKit.acmp (g := (mkF m 11 #[.val (.ref r0)] [(.ref u2), (.ref r0)])) X7 hx rfl rfl rfl (pc0 := 11) (pc' := 14) (same := true) rfl (hb hby d1_11) rfl (decide_eq_true (congrArg Value.ref hc9)) (by decide) (by decide) ?_
        show Steps p.tables e below (T7.setTop (mkF m 14 #[.val (.ref r0)] [])) _
        refine XS.iconst X7.here hx rfl (hb hby d1_14) ?_
        show Steps p.tables e below (T7.setTop (mkF m 15 #[.val (.ref r0)] [(.int (1 : Int32))])) _
        refine XS.goto X7.here hx rfl (pc0 := 15) (pc' := 19) rfl (hb hby d1_15) (by decide) (by decide) ?_
        exact k)
      obtain ⟨fs, hr, hrun, hended, hW, hsame⟩ := X7.leave (v := some (.int (1 : Int32))) (fun h => by rw [Bd.returns] at h; cases h)
      refine ⟨_, _, ks10 _ ?_, hrun, hended, _, _, rfl, ?_, ⟨_, rfl⟩, hW, hsame.mono (by decide) (by decide)⟩
      · exact retN X7 hx (t := .boolean) Bd.returns (by simp) (hb hby d1_19) hr
      · show Q1 Z r0 u1 u2 h0 n0 _ T7.heap _
        rw [e7]
        refine ⟨?_, N0, rfl⟩
        rw [own_ct, if_neg hc4, if_pos hc9]
    · skip
      have ks11 : own_R p e below (s₁.setTop (entryFrame m #[(.ref r0)] 1)) (T7.setTop (mkF m 19 #[.val (.ref r0)] [(.int (0 : Int32))])) := fun t k => ks8 t (by
        show Steps p.tables e below (T7.setTop (mkF m 11 #[.val (.ref r0)] [(.ref u2), (.ref r0)])) _
        refine Jvm.RoadKit.acmp (g := (mkF m 11 #[.val (.ref r0)] [(.ref u2), (.ref r0)])) X7 hx rfl rfl rfl (pc0 := 11) (pc' := 18) (same := false) rfl (hb hby d1_11) rfl (decide_eq_false fun q => hc9 (Value.ref.inj q)) (by decide) (by decide) ?_
        show Steps p.tables e below (T7.setTop (mkF m 18 #[.val (.ref r0)] [])) _
        refine XS.iconst X7.here hx rfl (hb hby d1_18) ?_
        exact k)
      obtain ⟨fs, hr, hrun, hended, hW, hsame⟩ := X7.leave (v := some (.int (0 : Int32))) (fun h => by rw [Bd.returns] at h; cases h)
      refine ⟨_, _, ks11 _ ?_, hrun, hended, _, _, rfl, ?_, ⟨_, rfl⟩, hW, hsame.mono (by decide) (by decide)⟩
      · exact retN X7 hx (t := .boolean) Bd.returns (by simp) (hb hby d1_19) hr
      · show Q1 Z r0 u1 u2 h0 n0 _ T7.heap _
        rw [e7]
        refine ⟨?_, N0, rfl⟩
        rw [own_ct, if_neg hc4, if_neg hc9]
theorem pn_0 : plainName "com/example/randomized_protocol_models/randomizedprotocolmodels/lang/FilterOperatorCombinesTruthsPinLaw" = true := by first | (simp [plainName, overriddenIn]; done) | decide +kernel
theorem pd_0 : parseMethodDescriptor "()Z" = some ⟨[], some .boolean⟩ := by decide +kernel
theorem ef_0 (m : MethodId) (x0 : Int32) : entryFrame m #[(.int x0)] maxLocals = mkF m 0 #[.val (.int x0), .unset, .unset, .unset] [] := by first | (simp [entryFrame, mkF, argsToLocals, Value.category, maxLocals]; done) | rfl
def Q0 (Z : State) (p0 : Int32) (s_MAX : Addr) (s_FORALL : Addr) (s_EXISTS : Addr) (s_SUM : Addr) (s_AVG : Addr) (s_MIN : Addr) (h0 : Heap) (n0 : Nat) (v : Option Value) (h : Heap) (L : List Loc) : Prop := v = some (.int (1 : Int32)) ∧ Fr n0 L
set_option maxRecDepth 65536 in
set_option maxHeartbeats 40000000 in
theorem rm0 (l : Launch) (Z : State) (a0 : Array Value) (hw : ∀ d ∈ tables_1, d.before a0 Z = true) (ws : List Jvm.Cond) (p0 : Int32) (s_MAX : Addr) (s_FORALL : Addr) (s_EXISTS : Addr) (s_SUM : Addr) (s_AVG : Addr) (s_MIN : Addr) (h0 : Heap) (n0 : Nat) (Z0 : n0 ≤ h0.size) (E_s_MAX : Exa Z h0 s_MAX "com/example/randomized_protocol_models/randomizedprotocolmodels/lang/Property$FilterOperator") (S_s_MAX : Sta Z h0 "com/example/randomized_protocol_models/randomizedprotocolmodels/lang/Property$FilterOperator" "MAX" "Lcom/example/randomized_protocol_models/randomizedprotocolmodels/lang/Property$FilterOperator;" (.ref s_MAX)) (E_s_FORALL : Exa Z h0 s_FORALL "com/example/randomized_protocol_models/randomizedprotocolmodels/lang/Property$FilterOperator") (S_s_FORALL : Sta Z h0 "com/example/randomized_protocol_models/randomizedprotocolmodels/lang/Property$FilterOperator" "FORALL" "Lcom/example/randomized_protocol_models/randomizedprotocolmodels/lang/Property$FilterOperator;" (.ref s_FORALL)) (E_s_EXISTS : Exa Z h0 s_EXISTS "com/example/randomized_protocol_models/randomizedprotocolmodels/lang/Property$FilterOperator") (S_s_EXISTS : Sta Z h0 "com/example/randomized_protocol_models/randomizedprotocolmodels/lang/Property$FilterOperator" "EXISTS" "Lcom/example/randomized_protocol_models/randomizedprotocolmodels/lang/Property$FilterOperator;" (.ref s_EXISTS)) (E_s_SUM : Exa Z h0 s_SUM "com/example/randomized_protocol_models/randomizedprotocolmodels/lang/Property$FilterOperator") (S_s_SUM : Sta Z h0 "com/example/randomized_protocol_models/randomizedprotocolmodels/lang/Property$FilterOperator" "SUM" "Lcom/example/randomized_protocol_models/randomizedprotocolmodels/lang/Property$FilterOperator;" (.ref s_SUM)) (E_s_AVG : Exa Z h0 s_AVG "com/example/randomized_protocol_models/randomizedprotocolmodels/lang/Property$FilterOperator") (S_s_AVG : Sta Z h0 "com/example/randomized_protocol_models/randomizedprotocolmodels/lang/Property$FilterOperator" "AVG" "Lcom/example/randomized_protocol_models/randomizedprotocolmodels/lang/Property$FilterOperator;" (.ref s_AVG)) (E_s_MIN : Exa Z h0 s_MIN "com/example/randomized_protocol_models/randomizedprotocolmodels/lang/Property$FilterOperator") (S_s_MIN : Sta Z h0 "com/example/randomized_protocol_models/randomizedprotocolmodels/lang/Property$FilterOperator" "MIN" "Lcom/example/randomized_protocol_models/randomizedprotocolmodels/lang/Property$FilterOperator;" (.ref s_MIN)) (F_s_MAX_ordinal : Fld Z h0 s_MAX "java/lang/Enum" "ordinal" "I" (.int (0 : Int32))) (F_s_FORALL_ordinal : Fld Z h0 s_FORALL "java/lang/Enum" "ordinal" "I" (.int (4 : Int32))) (F_s_EXISTS_ordinal : Fld Z h0 s_EXISTS "java/lang/Enum" "ordinal" "I" (.int (5 : Int32))) (F_s_SUM_ordinal : Fld Z h0 s_SUM "java/lang/Enum" "ordinal" "I" (.int (3 : Int32))) (F_s_AVG_ordinal : Fld Z h0 s_AVG "java/lang/Enum" "ordinal" "I" (.int (2 : Int32))) (F_s_MIN_ordinal : Fld Z h0 s_MIN "java/lang/Enum" "ordinal" "I" (.int (1 : Int32))) :
    MetFree l x (head1 (Jvm.Cond.code x code maxLocals ret :: ws) room_1) (fun a U => a = #[(.int p0)] ∧ Z.Warmed39 U.vm ∧ U.heap = h0) (fun _ _ _ _ _ => True) (fun _ U o U' => ∃ v L, o = .returned v ∧ Q0 Z p0 s_MAX s_FORALL s_EXISTS s_SUM s_AVG s_MIN h0 n0 v U'.heap L ∧ FrameEnd U o U' L 0 0) := by
  refine MetFree.of_bodySF (plainFor_of_name pn_0) hisR ?_
  intro p e s m args below meth c s₁ Bd hml0 hP hK
  obtain ⟨rfl, hZ, hh⟩ := hP
  have hx := Bd.exec
  have hby := Bd.bytes
  have hml : c.maxLocals = 4 := hml0
  have hown : s.vm.findClass "com/example/randomized_protocol_models/randomizedprotocolmodels/lang/FilterOperatorCombinesTruthsPinLaw" = some m.cls := findClass_of_methodNamed Bd.named
  have hnm := (name_of_methodNamed Bd.named Bd.method).1
  have X0 : Stand p l e room_1 s m #[(.int p0)] below meth c s₁ [] 0 0 := Stand.of_body Bd
  have e0 : s₁.heap = h0 := by rw [← hh, Bd.state]; rfl
  have N0 := Fr.nil n0
  have k0 : own_R p e below (s₁.setTop (entryFrame m #[(.int p0)] maxLocals)) (s₁.setTop (mkF m 0 #[.val (.int p0), .unset, .unset, .unset] [])) := fun t k => castTop (ef_0 m p0) k
  have ks1 : own_R p e below (s₁.setTop (entryFrame m #[(.int p0)] maxLocals)) (s₁.setTop (mkF m 7 #[.val (.int p0), .unset, .unset, .unset] [(.int ((p0 &&& (2147483647 : Int32)) % (6 : Int32)))])) := fun t k => k0 t (by
    show Steps p.tables e below (s₁.setTop (mkF m 0 #[.val (.int p0), .unset, .unset, .unset] [])) _
    refine XS.iloadN X0.here hx rfl (hb hby at_0) rfl ?_
    show Steps p.tables e below (s₁.setTop (mkF m 1 #[.val (.int p0), .unset, .unset, .unset] [(.int p0)])) _
    refine X0.ldcInt hx hown (mvT hZ (hw _ (List.mem_of_getElem? (i := 0) rfl))) (g := (mkF m 1 #[.val (.int p0), .unset, .unset, .unset] [(.int p0)])) rfl (hb hby at_1) _ ?_
    show Steps p.tables e below (s₁.setTop (mkF m 3 #[.val (.int p0), .unset, .unset, .unset] [(.int (2147483647 : Int32)), (.int p0)])) _
    refine XS.iand X0.here hx rfl (hb hby at_3) rfl ?_
    show Steps p.tables e below (s₁.setTop (mkF m 4 #[.val (.int p0), .unset, .unset, .unset] [(.int (p0 &&& (2147483647 : Int32)))])) _
    refine XS.bipush X0.here hx rfl (hb hby at_4) ?_
    show Steps p.tables e below (s₁.setTop (mkF m 6 #[.val (.int p0), .unset, .unset, .unset] [(.int (6 : Int32)), (.int (p0 &&& (2147483647 : Int32)))])) _
    refine Jvm.RoadKit.iremM X0 hx rfl (hb hby at_6) rfl (by decide) ?_
    exact k)
  obtain ⟨v2, hv2⟩ : ∃ z : Int32, z = ((p0 &&& (2147483647 : Int32)) % (6 : Int32)) := ⟨_, rfl⟩
  rw [← hv2] at ks1
  have ks3 : own_R p e below (s₁.setTop (entryFrame m #[(.int p0)] maxLocals)) (s₁.setTop (mkF m 9 #[.val (.int p0), .val (.int v2), .unset, .unset] [(.int v2)])) := fun t k => ks1 t (by
    show Steps p.tables e below (s₁.setTop (mkF m 7 #[.val (.int p0), .unset, .unset, .unset] [(.int v2)])) _
    refine XS.istoreN X0.here hx rfl (hb hby at_7) rfl (l' := #[.val (.int p0), .val (.int v2), .unset, .unset]) rfl ?_
    show Steps p.tables e below (s₁.setTop (mkF m 8 #[.val (.int p0), .val (.int v2), .unset, .unset] [])) _
    refine XS.iloadN X0.here hx rfl (hb hby at_8) rfl ?_
    exact k)
  by_cases hc4 : v2 = (0 : Int32)
  · skip
    have ks5 : own_R p e below (s₁.setTop (entryFrame m #[(.int p0)] maxLocals)) (s₁.setTop (mkF m 12 #[.val (.int p0), .val (.int v2), .unset, .unset] [])) := fun t k => ks3 t (by
      show Steps p.tables e below (s₁.setTop (mkF m 9 #[.val (.int p0), .val (.int v2), .unset, .unset] [(.int v2)])) _
      refine XS.ifNo X0.here hx rfl (hb hby at_9) rfl ((if0 _ _).trans (teq hc4).2) ?_
      exact k)
    obtain ⟨T6, X6, e6, st6⟩ := getS2 X0 hx hZ hown (host := "") (Or.inl (hw _ (List.mem_of_getElem? (i := 1) rfl))) Via.refl e0 S_s_MAX (g := (mkF m 12 #[.val (.int p0), .val (.int v2), .unset, .unset] [])) rfl (hb hby at_12)
    have ks7 : own_R p e below (s₁.setTop (entryFrame m #[(.int p0)] maxLocals)) (T6.setTop (mkF m 15 #[.val (.int p0), .val (.int v2), .unset, .unset] [(.ref s_MAX)])) := fun t k => ks5 t (st6 t k)
    have ks8 : own_R p e below (s₁.setTop (entryFrame m #[(.int p0)] maxLocals)) (T6.setTop (mkF m 84 #[.val (.int p0), .val (.int v2), .val (.ref s_MAX), .val (.int (0 : Int32))] [(.ref s_MAX)])) := fun t k => ks7 t (by
      show Steps p.tables e below (T6.setTop (mkF m 15 #[.val (.int p0), .val (.int v2), .unset, .unset] [(.ref s_MAX)])) _
      refine XS.astoreN X6.here hx rfl (hb hby at_15) rfl rfl (l' := #[.val (.int p0), .val (.int v2), .val (.ref s_MAX), .unset]) rfl ?_
      show Steps p.tables e below (T6.setTop (mkF m 16 #[.val (.int p0), .val (.int v2), .val (.ref s_MAX), .unset] [])) _
      refine XS.iconst X6.here hx rfl (hb hby at_16) ?_
      show Steps p.tables e below (T6.setTop (mkF m 17 #[.val (.int p0), .val (.int v2), .val (.ref s_MAX), .unset] [(.int (0 : Int32))])) _
      refine XS.istoreN X6.here hx rfl (hb hby at_17) rfl (l' := #[.val (.int p0), .val (.int v2), .val (.ref s_MAX), .val (.int (0 : Int32))]) rfl ?_
      show Steps p.tables e below (T6.setTop (mkF m 18 #[.val (.int p0), .val (.int v2), .val (.ref s_MAX), .val (.int (0 : Int32))] [])) _
      refine XS.goto X6.here hx rfl (pc0 := 18) (pc' := 83) rfl (hb hby at_18) (by decide) (by decide) ?_
      show Steps p.tables e below (T6.setTop (mkF m 83 #[.val (.int p0), .val (.int v2), .val (.ref s_MAX), .val (.int (0 : Int32))] [])) _
      refine XS.aloadN X6.here hx rfl (hb hby at_83) rfl rfl ?_
      exact k)
    obtain ⟨cq9, kq9, q9a, q9b, q9c⟩ := isOf hZ e6 E_s_MAX
    obtain ⟨_, _, ⟨T9, L9, k9, n9⟩, -, X9, ⟨Lc9, hQ9, lq9, yq9, zq9⟩, st9⟩ := X6.virtualBack hx (y := (⟨"com/example/randomized_protocol_models/randomizedprotocolmodels/lang/Property$FilterOperator", "combinesTruths", "()Z"⟩ : MethodName)) (z := (⟨"com/example/randomized_protocol_models/randomizedprotocolmodels/lang/Property$FilterOperator", "combinesTruths", "()Z"⟩ : MethodName)) hown (mvT hZ (hw _ (List.mem_of_getElem? (i := 4) rfl))) (mvT hZ (hw _ (List.mem_of_getElem? (i := 5) rfl))) (notFace_of_selects (args := #[]) (mvT hZ (hw _ (List.mem_of_getElem? (i := 7) rfl)))) (mvT hZ (hw _ (List.mem_of_getElem? (i := 7) rfl))) (mvT hZ (hw _ (List.mem_of_getElem? (i := 6) rfl))) (by decide) (backOf (W := 0) (rm1 l Z a0 hw [] s_MAX s_FORALL s_EXISTS h0 n0 Z0 S_s_FORALL S_s_EXISTS) hZ (hw _ (List.mem_of_getElem? (i := 8) rfl)) (hw _ (List.mem_of_getElem? (i := 2) rfl)) (by decide) (by decide)) q9a q9c (g := (mkF m 84 #[.val (.int p0), .val (.int v2), .val (.ref s_MAX), .val (.int (0 : Int32))] [(.ref s_MAX)])) rfl (by rw [hml]; rfl) (Steps.refl _) (argsL := []) (rest := []) (lenOf pd_0 rfl) rfl (by show 2 * 0 + _ ≤ _; exact Nat.le_of_eq rfl) (hb hby at_84) (fun _ _ => ⟨rfl, e6, (by decide : 0 + 0 ≤ _), (by decide : 0 + 0 ≤ _)⟩)
    dsimp only [Pt.U, Pt.locs, Pt.cells, Pt.slots] at X9 lq9 yq9 zq9 st9 hQ9
    subst lq9 yq9 zq9
    obtain ⟨rfl, Nq9, eq9⟩ := hQ9
    have N9 := Fr.app N0 Nq9
    have ks10 : own_R p e below (s₁.setTop (entryFrame m #[(.int p0)] maxLocals)) (T9.setTop (mkF m 87 #[.val (.int p0), .val (.int v2), .val (.ref s_MAX), .val (.int (0 : Int32))] [(.int (own_ct s_MAX s_FORALL s_EXISTS))])) := fun t k => ks8 t (st9.trans k)
    have ks11 : own_R p e below (s₁.setTop (entryFrame m #[(.int p0)] maxLocals)) (T9.setTop (mkF m 88 #[.val (.int p0), .val (.int v2), .val (.ref s_MAX), .val (.int (0 : Int32))] [(.int (0 : Int32)), (.int (own_ct s_MAX s_FORALL s_EXISTS))])) := fun t k => ks10 t (by
      show Steps p.tables e below (T9.setTop (mkF m 87 #[.val (.int p0), .val (.int v2), .val (.ref s_MAX), .val (.int (0 : Int32))] [(.int (own_ct s_MAX s_FORALL s_EXISTS))])) _
      refine XS.iloadN X9.here hx rfl (hb hby at_87) rfl ?_
      exact k)
    by_cases hc12 : (own_ct s_MAX s_FORALL s_EXISTS) = (0 : Int32)
    · skip
      have ks13 : own_R p e below (s₁.setTop (entryFrame m #[(.int p0)] maxLocals)) (T9.setTop (mkF m 96 #[.val (.int p0), .val (.int v2), .val (.ref s_MAX), .val (.int (0 : Int32))] [(.int (1 : Int32))])) := fun t k => ks11 t (by
        show Steps p.tables e below (T9.setTop (mkF m 88 #[.val (.int p0), .val (.int v2), .val (.ref s_MAX), .val (.int (0 : Int32))] [(.int (0 : Int32)), (.int (own_ct s_MAX s_FORALL s_EXISTS))])) _
        refine XS.icmpNo X9.here hx rfl (hb hby at_88) rfl (teq hc12).2 ?_
        show Steps p.tables e below (T9.setTop (mkF m 91 #[.val (.int p0), .val (.int v2), .val (.ref s_MAX), .val (.int (0 : Int32))] [])) _
        refine XS.iconst X9.here hx rfl (hb hby at_91) ?_
        show Steps p.tables e below (T9.setTop (mkF m 92 #[.val (.int p0), .val (.int v2), .val (.ref s_MAX), .val (.int (0 : Int32))] [(.int (1 : Int32))])) _
        refine XS.goto X9.here hx rfl (pc0 := 92) (pc' := 96) rfl (hb hby at_92) (by decide) (by decide) ?_
        exact k)
      obtain ⟨fs, hr, hrun, hended, hW, hsame⟩ := X9.leave (v := some (.int (1 : Int32))) (fun h => by rw [Bd.returns] at h; cases h)
      refine ⟨_, _, ks13 _ ?_, hrun, hended, _, _, rfl, ?_, ⟨_, rfl⟩, hW, hsame.mono (by decide) (by decide)⟩
      · exact retN X9 hx (t := .boolean) Bd.returns (by simp) (hb hby at_96) hr
      · show Q0 Z p0 s_MAX s_FORALL s_EXISTS s_SUM s_AVG s_MIN h0 n0 _ T9.heap _
        rw [eq9]
        exact ⟨rfl, N9⟩
    · skip
      have ks14 : own_R p e below (s₁.setTop (entryFrame m #[(.int p0)] maxLocals)) (T9.setTop (mkF m 96 #[.val (.int p0), .val (.int v2), .val (.ref s_MAX), .val (.int (0 : Int32))] [(.int (0 : Int32))])) := fun t k => ks11 t (by
        show Steps p.tables e below (T9.setTop (mkF m 88 #[.val (.int p0), .val (.int v2), .val (.ref s_MAX), .val (.int (0 : Int32))] [(.int (0 : Int32)), (.int (own_ct s_MAX s_FORALL s_EXISTS))])) _
        refine XS.icmpYes X9.here hx rfl (pc0 := 88) (pc' := 95) rfl (hb hby at_88) rfl (feq hc12).2 (by decide) (by decide) ?_
        show Steps p.tables e below (T9.setTop (mkF m 95 #[.val (.int p0), .val (.int v2), .val (.ref s_MAX), .val (.int (0 : Int32))] [])) _
        refine XS.iconst X9.here hx rfl (hb hby at_95) ?_
        exact k)
      obtain ⟨fs, hr, hrun, hended, hW, hsame⟩ := X9.leave (v := some (.int (0 : Int32))) (fun h => by rw [Bd.returns] at h; cases h)
      refine ⟨_, _, ks14 _ ?_, hrun, hended, _, _, rfl, ?_, ⟨_, rfl⟩, hW, hsame.mono (by decide) (by decide)⟩
      · exact retN X9 hx (t := .boolean) Bd.returns (by simp) (hb hby at_96) hr
      · show Q0 Z p0 s_MAX s_FORALL s_EXISTS s_SUM s_AVG s_MIN h0 n0 _ T9.heap _
        rw [eq9]
        exfalso
        apply hc12
        unfold own_ct
        rw [if_neg (Fld.ne F_s_MAX_ordinal F_s_FORALL_ordinal (by decide)), if_neg (Fld.ne F_s_MAX_ordinal F_s_EXISTS_ordinal (by decide))]
  · skip
    have ks15 : own_R p e below (s₁.setTop (entryFrame m #[(.int p0)] maxLocals)) (s₁.setTop (mkF m 23 #[.val (.int p0), .val (.int v2), .unset, .unset] [(.int (1 : Int32)), (.int v2)])) := fun t k => ks3 t (by
      show Steps p.tables e below (s₁.setTop (mkF m 9 #[.val (.int p0), .val (.int v2), .unset, .unset] [(.int v2)])) _
      refine XS.ifYes X0.here hx rfl (pc0 := 9) (pc' := 21) rfl (hb hby at_9) rfl ((if0 _ _).trans (feq hc4).2) (by decide) (by decide) ?_
      show Steps p.tables e below (s₁.setTop (mkF m 21 #[.val (.int p0), .val (.int v2), .unset, .unset] [])) _
      refine XS.iloadN X0.here hx rfl (hb hby at_21) rfl ?_
      show Steps p.tables e below (s₁.setTop (mkF m 22 #[.val (.int p0), .val (.int v2), .unset, .unset] [(.int v2)])) _
      refine XS.iconst X0.here hx rfl (hb hby at_22) ?_
      exact k)
    by_cases hc16 : v2 = (1 : Int32)
    · skip
      have ks17 : own_R p e below (s₁.setTop (entryFrame m #[(.int p0)] maxLocals)) (s₁.setTop (mkF m 26 #[.val (.int p0), .val (.int v2), .unset, .unset] [])) := fun t k => ks15 t (by
        show Steps p.tables e below (s₁.setTop (mkF m 23 #[.val (.int p0), .val (.int v2), .unset, .unset] [(.int (1 : Int32)), (.int v2)])) _
        refine XS.icmpNo X0.here hx rfl (hb hby at_23) rfl (teq hc16).2 ?_
        exact k)
      obtain ⟨T18, X18, e18, st18⟩ := getS2 X0 hx hZ hown (host := "") (Or.inl (hw _ (List.mem_of_getElem? (i := 17) rfl))) Via.refl e0 S_s_MIN (g := (mkF m 26 #[.val (.int p0), .val (.int v2), .unset, .unset] [])) rfl (hb hby at_26)
      have ks19 : own_R p e below (s₁.setTop (entryFrame m #[(.int p0)] maxLocals)) (T18.setTop (mkF m 29 #[.val (.int p0), .val (.int v2), .unset, .unset] [(.ref s_MIN)])) := fun t k => ks17 t (st18 t k)
      have ks20 : own_R p e below (s₁.setTop (entryFrame m #[(.int p0)] maxLocals)) (T18.setTop (mkF m 84 #[.val (.int p0), .val (.int v2), .val (.ref s_MIN), .val (.int (0 : Int32))] [(.ref s_MIN)])) := fun t k => ks19 t (by
        show Steps p.tables e below (T18.setTop (mkF m 29 #[.val (.int p0), .val (.int v2), .unset, .unset] [(.ref s_MIN)])) _
        refine XS.astoreN X18.here hx rfl (hb hby at_29) rfl rfl (l' := #[.val (.int p0), .val (.int v2), .val (.ref s_MIN), .unset]) rfl ?_
        show Steps p.tables e below (T18.setTop (mkF m 30 #[.val (.int p0), .val (.int v2), .val (.ref s_MIN), .unset] [])) _
        refine XS.iconst X18.here hx rfl (hb hby at_30) ?_
        show Steps p.tables e below (T18.setTop (mkF m 31 #[.val (.int p0), .val (.int v2), .val (.ref s_MIN), .unset] [(.int (0 : Int32))])) _
        refine XS.istoreN X18.here hx rfl (hb hby at_31) rfl (l' := #[.val (.int p0), .val (.int v2), .val (.ref s_MIN), .val (.int (0 : Int32))]) rfl ?_
        show Steps p.tables e below (T18.setTop (mkF m 32 #[.val (.int p0), .val (.int v2), .val (.ref s_MIN), .val (.int (0 : Int32))] [])) _
        refine XS.goto X18.here hx rfl (pc0 := 32) (pc' := 83) rfl (hb hby at_32) (by decide) (by decide) ?_
        show Steps p.tables e below (T18.setTop (mkF m 83 #[.val (.int p0), .val (.int v2), .val (.ref s_MIN), .val (.int (0 : Int32))] [])) _
        refine XS.aloadN X18.here hx rfl (hb hby at_83) rfl rfl ?_
        exact k)
      obtain ⟨cq21, kq21, q21a, q21b, q21c⟩ := isOf hZ e18 E_s_MIN
      obtain ⟨_, _, ⟨T21, L21, k21, n21⟩, -, X21, ⟨Lc21, hQ21, lq21, yq21, zq21⟩, st21⟩ := X18.virtualBack hx (y := (⟨"com/example/randomized_protocol_models/randomizedprotocolmodels/lang/Property$FilterOperator", "combinesTruths", "()Z"⟩ : MethodName)) (z := (⟨"com/example/randomized_protocol_models/randomizedprotocolmodels/lang/Property$FilterOperator", "combinesTruths", "()Z"⟩ : MethodName)) hown (mvT hZ (hw _ (List.mem_of_getElem? (i := 4) rfl))) (mvT hZ (hw _ (List.mem_of_getElem? (i := 5) rfl))) (notFace_of_selects (args := #[]) (mvT hZ (hw _ (List.mem_of_getElem? (i := 7) rfl)))) (mvT hZ (hw _ (List.mem_of_getElem? (i := 7) rfl))) (mvT hZ (hw _ (List.mem_of_getElem? (i := 6) rfl))) (by decide) (backOf (W := 0) (rm1 l Z a0 hw [] s_MIN s_FORALL s_EXISTS h0 n0 Z0 S_s_FORALL S_s_EXISTS) hZ (hw _ (List.mem_of_getElem? (i := 8) rfl)) (hw _ (List.mem_of_getElem? (i := 2) rfl)) (by decide) (by decide)) q21a q21c (g := (mkF m 84 #[.val (.int p0), .val (.int v2), .val (.ref s_MIN), .val (.int (0 : Int32))] [(.ref s_MIN)])) rfl (by rw [hml]; rfl) (Steps.refl _) (argsL := []) (rest := []) (lenOf pd_0 rfl) rfl (by show 2 * 0 + _ ≤ _; exact Nat.le_of_eq rfl) (hb hby at_84) (fun _ _ => ⟨rfl, e18, (by decide : 0 + 0 ≤ _), (by decide : 0 + 0 ≤ _)⟩)
      dsimp only [Pt.U, Pt.locs, Pt.cells, Pt.slots] at X21 lq21 yq21 zq21 st21 hQ21
      subst lq21 yq21 zq21
      obtain ⟨rfl, Nq21, eq21⟩ := hQ21
      have N21 := Fr.app N0 Nq21
      have ks22 : own_R p e below (s₁.setTop (entryFrame m #[(.int p0)] maxLocals)) (T21.setTop (mkF m 87 #[.val (.int p0), .val (.int v2), .val (.ref s_MIN), .val (.int (0 : Int32))] [(.int (own_ct s_MIN s_FORALL s_EXISTS))])) := fun t k => ks20 t (st21.trans k)
      have ks23 : own_R p e below (s₁.setTop (entryFrame m #[(.int p0)] maxLocals)) (T21.setTop (mkF m 88 #[.val (.int p0), .val (.int v2), .val (.ref s_MIN), .val (.int (0 : Int32))] [(.int (0 : Int32)), (.int (own_ct s_MIN s_FORALL s_EXISTS))])) := fun t k => ks22 t (by
        show Steps p.tables e below (T21.setTop (mkF m 87 #[.val (.int p0), .val (.int v2), .val (.ref s_MIN), .val (.int (0 : Int32))] [(.int (own_ct s_MIN s_FORALL s_EXISTS))])) _
        refine XS.iloadN X21.here hx rfl (hb hby at_87) rfl ?_
        exact k)
      by_cases hc24 : (own_ct s_MIN s_FORALL s_EXISTS) = (0 : Int32)
      · skip
        have ks25 : own_R p e below (s₁.setTop (entryFrame m #[(.int p0)] maxLocals)) (T21.setTop (mkF m 96 #[.val (.int p0), .val (.int v2), .val (.ref s_MIN), .val (.int (0 : Int32))] [(.int (1 : Int32))])) := fun t k => ks23 t (by
          show Steps p.tables e below (T21.setTop (mkF m 88 #[.val (.int p0), .val (.int v2), .val (.ref s_MIN), .val (.int (0 : Int32))] [(.int (0 : Int32)), (.int (own_ct s_MIN s_FORALL s_EXISTS))])) _
          refine XS.icmpNo X21.here hx rfl (hb hby at_88) rfl (teq hc24).2 ?_
          show Steps p.tables e below (T21.setTop (mkF m 91 #[.val (.int p0), .val (.int v2), .val (.ref s_MIN), .val (.int (0 : Int32))] [])) _
          refine XS.iconst X21.here hx rfl (hb hby at_91) ?_
          show Steps p.tables e below (T21.setTop (mkF m 92 #[.val (.int p0), .val (.int v2), .val (.ref s_MIN), .val (.int (0 : Int32))] [(.int (1 : Int32))])) _
          refine XS.goto X21.here hx rfl (pc0 := 92) (pc' := 96) rfl (hb hby at_92) (by decide) (by decide) ?_
          exact k)
        obtain ⟨fs, hr, hrun, hended, hW, hsame⟩ := X21.leave (v := some (.int (1 : Int32))) (fun h => by rw [Bd.returns] at h; cases h)
        refine ⟨_, _, ks25 _ ?_, hrun, hended, _, _, rfl, ?_, ⟨_, rfl⟩, hW, hsame.mono (by decide) (by decide)⟩
        · exact retN X21 hx (t := .boolean) Bd.returns (by simp) (hb hby at_96) hr
        · show Q0 Z p0 s_MAX s_FORALL s_EXISTS s_SUM s_AVG s_MIN h0 n0 _ T21.heap _
          rw [eq21]
          exact ⟨rfl, N21⟩
      · skip
        have ks26 : own_R p e below (s₁.setTop (entryFrame m #[(.int p0)] maxLocals)) (T21.setTop (mkF m 96 #[.val (.int p0), .val (.int v2), .val (.ref s_MIN), .val (.int (0 : Int32))] [(.int (0 : Int32))])) := fun t k => ks23 t (by
          show Steps p.tables e below (T21.setTop (mkF m 88 #[.val (.int p0), .val (.int v2), .val (.ref s_MIN), .val (.int (0 : Int32))] [(.int (0 : Int32)), (.int (own_ct s_MIN s_FORALL s_EXISTS))])) _
          refine XS.icmpYes X21.here hx rfl (pc0 := 88) (pc' := 95) rfl (hb hby at_88) rfl (feq hc24).2 (by decide) (by decide) ?_
          show Steps p.tables e below (T21.setTop (mkF m 95 #[.val (.int p0), .val (.int v2), .val (.ref s_MIN), .val (.int (0 : Int32))] [])) _
          refine XS.iconst X21.here hx rfl (hb hby at_95) ?_
          exact k)
        obtain ⟨fs, hr, hrun, hended, hW, hsame⟩ := X21.leave (v := some (.int (0 : Int32))) (fun h => by rw [Bd.returns] at h; cases h)
        refine ⟨_, _, ks26 _ ?_, hrun, hended, _, _, rfl, ?_, ⟨_, rfl⟩, hW, hsame.mono (by decide) (by decide)⟩
        · exact retN X21 hx (t := .boolean) Bd.returns (by simp) (hb hby at_96) hr
        · show Q0 Z p0 s_MAX s_FORALL s_EXISTS s_SUM s_AVG s_MIN h0 n0 _ T21.heap _
          rw [eq21]
          exfalso
          apply hc24
          unfold own_ct
          rw [if_neg (Fld.ne F_s_MIN_ordinal F_s_FORALL_ordinal (by decide)), if_neg (Fld.ne F_s_MIN_ordinal F_s_EXISTS_ordinal (by decide))]
    · skip
      have ks27 : own_R p e below (s₁.setTop (entryFrame m #[(.int p0)] maxLocals)) (s₁.setTop (mkF m 37 #[.val (.int p0), .val (.int v2), .unset, .unset] [(.int (2 : Int32)), (.int v2)])) := fun t k => ks15 t (by
        show Steps p.tables e below (s₁.setTop (mkF m 23 #[.val (.int p0), .val (.int v2), .unset, .unset] [(.int (1 : Int32)), (.int v2)])) _
        refine XS.icmpYes X0.here hx rfl (pc0 := 23) (pc' := 35) rfl (hb hby at_23) rfl (feq hc16).2 (by decide) (by decide) ?_
        show Steps p.tables e below (s₁.setTop (mkF m 35 #[.val (.int p0), .val (.int v2), .unset, .unset] [])) _
        refine XS.iloadN X0.here hx rfl (hb hby at_35) rfl ?_
        show Steps p.tables e below (s₁.setTop (mkF m 36 #[.val (.int p0), .val (.int v2), .unset, .unset] [(.int v2)])) _
        refine XS.iconst X0.here hx rfl (hb hby at_36) ?_
        exact k)
      by_cases hc28 : v2 = (2 : Int32)
      · skip
        have ks29 : own_R p e below (s₁.setTop (entryFrame m #[(.int p0)] maxLocals)) (s₁.setTop (mkF m 40 #[.val (.int p0), .val (.int v2), .unset, .unset] [])) := fun t k => ks27 t (by
          show Steps p.tables e below (s₁.setTop (mkF m 37 #[.val (.int p0), .val (.int v2), .unset, .unset] [(.int (2 : Int32)), (.int v2)])) _
          refine XS.icmpNo X0.here hx rfl (hb hby at_37) rfl (teq hc28).2 ?_
          exact k)
        obtain ⟨T30, X30, e30, st30⟩ := getS2 X0 hx hZ hown (host := "") (Or.inl (hw _ (List.mem_of_getElem? (i := 15) rfl))) Via.refl e0 S_s_AVG (g := (mkF m 40 #[.val (.int p0), .val (.int v2), .unset, .unset] [])) rfl (hb hby at_40)
        have ks31 : own_R p e below (s₁.setTop (entryFrame m #[(.int p0)] maxLocals)) (T30.setTop (mkF m 43 #[.val (.int p0), .val (.int v2), .unset, .unset] [(.ref s_AVG)])) := fun t k => ks29 t (st30 t k)
        have ks32 : own_R p e below (s₁.setTop (entryFrame m #[(.int p0)] maxLocals)) (T30.setTop (mkF m 84 #[.val (.int p0), .val (.int v2), .val (.ref s_AVG), .val (.int (0 : Int32))] [(.ref s_AVG)])) := fun t k => ks31 t (by
          show Steps p.tables e below (T30.setTop (mkF m 43 #[.val (.int p0), .val (.int v2), .unset, .unset] [(.ref s_AVG)])) _
          refine XS.astoreN X30.here hx rfl (hb hby at_43) rfl rfl (l' := #[.val (.int p0), .val (.int v2), .val (.ref s_AVG), .unset]) rfl ?_
          show Steps p.tables e below (T30.setTop (mkF m 44 #[.val (.int p0), .val (.int v2), .val (.ref s_AVG), .unset] [])) _
          refine XS.iconst X30.here hx rfl (hb hby at_44) ?_
          show Steps p.tables e below (T30.setTop (mkF m 45 #[.val (.int p0), .val (.int v2), .val (.ref s_AVG), .unset] [(.int (0 : Int32))])) _
          refine XS.istoreN X30.here hx rfl (hb hby at_45) rfl (l' := #[.val (.int p0), .val (.int v2), .val (.ref s_AVG), .val (.int (0 : Int32))]) rfl ?_
          show Steps p.tables e below (T30.setTop (mkF m 46 #[.val (.int p0), .val (.int v2), .val (.ref s_AVG), .val (.int (0 : Int32))] [])) _
          refine XS.goto X30.here hx rfl (pc0 := 46) (pc' := 83) rfl (hb hby at_46) (by decide) (by decide) ?_
          show Steps p.tables e below (T30.setTop (mkF m 83 #[.val (.int p0), .val (.int v2), .val (.ref s_AVG), .val (.int (0 : Int32))] [])) _
          refine XS.aloadN X30.here hx rfl (hb hby at_83) rfl rfl ?_
          exact k)
        obtain ⟨cq33, kq33, q33a, q33b, q33c⟩ := isOf hZ e30 E_s_AVG
        obtain ⟨_, _, ⟨T33, L33, k33, n33⟩, -, X33, ⟨Lc33, hQ33, lq33, yq33, zq33⟩, st33⟩ := X30.virtualBack hx (y := (⟨"com/example/randomized_protocol_models/randomizedprotocolmodels/lang/Property$FilterOperator", "combinesTruths", "()Z"⟩ : MethodName)) (z := (⟨"com/example/randomized_protocol_models/randomizedprotocolmodels/lang/Property$FilterOperator", "combinesTruths", "()Z"⟩ : MethodName)) hown (mvT hZ (hw _ (List.mem_of_getElem? (i := 4) rfl))) (mvT hZ (hw _ (List.mem_of_getElem? (i := 5) rfl))) (notFace_of_selects (args := #[]) (mvT hZ (hw _ (List.mem_of_getElem? (i := 7) rfl)))) (mvT hZ (hw _ (List.mem_of_getElem? (i := 7) rfl))) (mvT hZ (hw _ (List.mem_of_getElem? (i := 6) rfl))) (by decide) (backOf (W := 0) (rm1 l Z a0 hw [] s_AVG s_FORALL s_EXISTS h0 n0 Z0 S_s_FORALL S_s_EXISTS) hZ (hw _ (List.mem_of_getElem? (i := 8) rfl)) (hw _ (List.mem_of_getElem? (i := 2) rfl)) (by decide) (by decide)) q33a q33c (g := (mkF m 84 #[.val (.int p0), .val (.int v2), .val (.ref s_AVG), .val (.int (0 : Int32))] [(.ref s_AVG)])) rfl (by rw [hml]; rfl) (Steps.refl _) (argsL := []) (rest := []) (lenOf pd_0 rfl) rfl (by show 2 * 0 + _ ≤ _; exact Nat.le_of_eq rfl) (hb hby at_84) (fun _ _ => ⟨rfl, e30, (by decide : 0 + 0 ≤ _), (by decide : 0 + 0 ≤ _)⟩)
        dsimp only [Pt.U, Pt.locs, Pt.cells, Pt.slots] at X33 lq33 yq33 zq33 st33 hQ33
        subst lq33 yq33 zq33
        obtain ⟨rfl, Nq33, eq33⟩ := hQ33
        have N33 := Fr.app N0 Nq33
        have ks34 : own_R p e below (s₁.setTop (entryFrame m #[(.int p0)] maxLocals)) (T33.setTop (mkF m 87 #[.val (.int p0), .val (.int v2), .val (.ref s_AVG), .val (.int (0 : Int32))] [(.int (own_ct s_AVG s_FORALL s_EXISTS))])) := fun t k => ks32 t (st33.trans k)
        have ks35 : own_R p e below (s₁.setTop (entryFrame m #[(.int p0)] maxLocals)) (T33.setTop (mkF m 88 #[.val (.int p0), .val (.int v2), .val (.ref s_AVG), .val (.int (0 : Int32))] [(.int (0 : Int32)), (.int (own_ct s_AVG s_FORALL s_EXISTS))])) := fun t k => ks34 t (by
          show Steps p.tables e below (T33.setTop (mkF m 87 #[.val (.int p0), .val (.int v2), .val (.ref s_AVG), .val (.int (0 : Int32))] [(.int (own_ct s_AVG s_FORALL s_EXISTS))])) _
          refine XS.iloadN X33.here hx rfl (hb hby at_87) rfl ?_
          exact k)
        by_cases hc36 : (own_ct s_AVG s_FORALL s_EXISTS) = (0 : Int32)
        · skip
          have ks37 : own_R p e below (s₁.setTop (entryFrame m #[(.int p0)] maxLocals)) (T33.setTop (mkF m 96 #[.val (.int p0), .val (.int v2), .val (.ref s_AVG), .val (.int (0 : Int32))] [(.int (1 : Int32))])) := fun t k => ks35 t (by
            show Steps p.tables e below (T33.setTop (mkF m 88 #[.val (.int p0), .val (.int v2), .val (.ref s_AVG), .val (.int (0 : Int32))] [(.int (0 : Int32)), (.int (own_ct s_AVG s_FORALL s_EXISTS))])) _
            refine XS.icmpNo X33.here hx rfl (hb hby at_88) rfl (teq hc36).2 ?_
            show Steps p.tables e below (T33.setTop (mkF m 91 #[.val (.int p0), .val (.int v2), .val (.ref s_AVG), .val (.int (0 : Int32))] [])) _
            refine XS.iconst X33.here hx rfl (hb hby at_91) ?_
            show Steps p.tables e below (T33.setTop (mkF m 92 #[.val (.int p0), .val (.int v2), .val (.ref s_AVG), .val (.int (0 : Int32))] [(.int (1 : Int32))])) _
            refine XS.goto X33.here hx rfl (pc0 := 92) (pc' := 96) rfl (hb hby at_92) (by decide) (by decide) ?_
            exact k)
          obtain ⟨fs, hr, hrun, hended, hW, hsame⟩ := X33.leave (v := some (.int (1 : Int32))) (fun h => by rw [Bd.returns] at h; cases h)
          refine ⟨_, _, ks37 _ ?_, hrun, hended, _, _, rfl, ?_, ⟨_, rfl⟩, hW, hsame.mono (by decide) (by decide)⟩
          · exact retN X33 hx (t := .boolean) Bd.returns (by simp) (hb hby at_96) hr
          · show Q0 Z p0 s_MAX s_FORALL s_EXISTS s_SUM s_AVG s_MIN h0 n0 _ T33.heap _
            rw [eq33]
            exact ⟨rfl, N33⟩
        · skip
          have ks38 : own_R p e below (s₁.setTop (entryFrame m #[(.int p0)] maxLocals)) (T33.setTop (mkF m 96 #[.val (.int p0), .val (.int v2), .val (.ref s_AVG), .val (.int (0 : Int32))] [(.int (0 : Int32))])) := fun t k => ks35 t (by
            show Steps p.tables e below (T33.setTop (mkF m 88 #[.val (.int p0), .val (.int v2), .val (.ref s_AVG), .val (.int (0 : Int32))] [(.int (0 : Int32)), (.int (own_ct s_AVG s_FORALL s_EXISTS))])) _
            refine XS.icmpYes X33.here hx rfl (pc0 := 88) (pc' := 95) rfl (hb hby at_88) rfl (feq hc36).2 (by decide) (by decide) ?_
            show Steps p.tables e below (T33.setTop (mkF m 95 #[.val (.int p0), .val (.int v2), .val (.ref s_AVG), .val (.int (0 : Int32))] [])) _
            refine XS.iconst X33.here hx rfl (hb hby at_95) ?_
            exact k)
          obtain ⟨fs, hr, hrun, hended, hW, hsame⟩ := X33.leave (v := some (.int (0 : Int32))) (fun h => by rw [Bd.returns] at h; cases h)
          refine ⟨_, _, ks38 _ ?_, hrun, hended, _, _, rfl, ?_, ⟨_, rfl⟩, hW, hsame.mono (by decide) (by decide)⟩
          · exact retN X33 hx (t := .boolean) Bd.returns (by simp) (hb hby at_96) hr
          · show Q0 Z p0 s_MAX s_FORALL s_EXISTS s_SUM s_AVG s_MIN h0 n0 _ T33.heap _
            rw [eq33]
            exfalso
            apply hc36
            unfold own_ct
            rw [if_neg (Fld.ne F_s_AVG_ordinal F_s_FORALL_ordinal (by decide)), if_neg (Fld.ne F_s_AVG_ordinal F_s_EXISTS_ordinal (by decide))]
      · skip
        have ks39 : own_R p e below (s₁.setTop (entryFrame m #[(.int p0)] maxLocals)) (s₁.setTop (mkF m 51 #[.val (.int p0), .val (.int v2), .unset, .unset] [(.int (3 : Int32)), (.int v2)])) := fun t k => ks27 t (by
          show Steps p.tables e below (s₁.setTop (mkF m 37 #[.val (.int p0), .val (.int v2), .unset, .unset] [(.int (2 : Int32)), (.int v2)])) _
          refine XS.icmpYes X0.here hx rfl (pc0 := 37) (pc' := 49) rfl (hb hby at_37) rfl (feq hc28).2 (by decide) (by decide) ?_
          show Steps p.tables e below (s₁.setTop (mkF m 49 #[.val (.int p0), .val (.int v2), .unset, .unset] [])) _
          refine XS.iloadN X0.here hx rfl (hb hby at_49) rfl ?_
          show Steps p.tables e below (s₁.setTop (mkF m 50 #[.val (.int p0), .val (.int v2), .unset, .unset] [(.int v2)])) _
          refine XS.iconst X0.here hx rfl (hb hby at_50) ?_
          exact k)
        by_cases hc40 : v2 = (3 : Int32)
        · skip
          have ks41 : own_R p e below (s₁.setTop (entryFrame m #[(.int p0)] maxLocals)) (s₁.setTop (mkF m 54 #[.val (.int p0), .val (.int v2), .unset, .unset] [])) := fun t k => ks39 t (by
            show Steps p.tables e below (s₁.setTop (mkF m 51 #[.val (.int p0), .val (.int v2), .unset, .unset] [(.int (3 : Int32)), (.int v2)])) _
            refine XS.icmpNo X0.here hx rfl (hb hby at_51) rfl (teq hc40).2 ?_
            exact k)
          obtain ⟨T42, X42, e42, st42⟩ := getS2 X0 hx hZ hown (host := "") (Or.inl (hw _ (List.mem_of_getElem? (i := 13) rfl))) Via.refl e0 S_s_SUM (g := (mkF m 54 #[.val (.int p0), .val (.int v2), .unset, .unset] [])) rfl (hb hby at_54)
          have ks43 : own_R p e below (s₁.setTop (entryFrame m #[(.int p0)] maxLocals)) (T42.setTop (mkF m 57 #[.val (.int p0), .val (.int v2), .unset, .unset] [(.ref s_SUM)])) := fun t k => ks41 t (st42 t k)
          have ks44 : own_R p e below (s₁.setTop (entryFrame m #[(.int p0)] maxLocals)) (T42.setTop (mkF m 84 #[.val (.int p0), .val (.int v2), .val (.ref s_SUM), .val (.int (0 : Int32))] [(.ref s_SUM)])) := fun t k => ks43 t (by
            show Steps p.tables e below (T42.setTop (mkF m 57 #[.val (.int p0), .val (.int v2), .unset, .unset] [(.ref s_SUM)])) _
            refine XS.astoreN X42.here hx rfl (hb hby at_57) rfl rfl (l' := #[.val (.int p0), .val (.int v2), .val (.ref s_SUM), .unset]) rfl ?_
            show Steps p.tables e below (T42.setTop (mkF m 58 #[.val (.int p0), .val (.int v2), .val (.ref s_SUM), .unset] [])) _
            refine XS.iconst X42.here hx rfl (hb hby at_58) ?_
            show Steps p.tables e below (T42.setTop (mkF m 59 #[.val (.int p0), .val (.int v2), .val (.ref s_SUM), .unset] [(.int (0 : Int32))])) _
            refine XS.istoreN X42.here hx rfl (hb hby at_59) rfl (l' := #[.val (.int p0), .val (.int v2), .val (.ref s_SUM), .val (.int (0 : Int32))]) rfl ?_
            show Steps p.tables e below (T42.setTop (mkF m 60 #[.val (.int p0), .val (.int v2), .val (.ref s_SUM), .val (.int (0 : Int32))] [])) _
            refine XS.goto X42.here hx rfl (pc0 := 60) (pc' := 83) rfl (hb hby at_60) (by decide) (by decide) ?_
            show Steps p.tables e below (T42.setTop (mkF m 83 #[.val (.int p0), .val (.int v2), .val (.ref s_SUM), .val (.int (0 : Int32))] [])) _
            refine XS.aloadN X42.here hx rfl (hb hby at_83) rfl rfl ?_
            exact k)
          obtain ⟨cq45, kq45, q45a, q45b, q45c⟩ := isOf hZ e42 E_s_SUM
          obtain ⟨_, _, ⟨T45, L45, k45, n45⟩, -, X45, ⟨Lc45, hQ45, lq45, yq45, zq45⟩, st45⟩ := X42.virtualBack hx (y := (⟨"com/example/randomized_protocol_models/randomizedprotocolmodels/lang/Property$FilterOperator", "combinesTruths", "()Z"⟩ : MethodName)) (z := (⟨"com/example/randomized_protocol_models/randomizedprotocolmodels/lang/Property$FilterOperator", "combinesTruths", "()Z"⟩ : MethodName)) hown (mvT hZ (hw _ (List.mem_of_getElem? (i := 4) rfl))) (mvT hZ (hw _ (List.mem_of_getElem? (i := 5) rfl))) (notFace_of_selects (args := #[]) (mvT hZ (hw _ (List.mem_of_getElem? (i := 7) rfl)))) (mvT hZ (hw _ (List.mem_of_getElem? (i := 7) rfl))) (mvT hZ (hw _ (List.mem_of_getElem? (i := 6) rfl))) (by decide) (backOf (W := 0) (rm1 l Z a0 hw [] s_SUM s_FORALL s_EXISTS h0 n0 Z0 S_s_FORALL S_s_EXISTS) hZ (hw _ (List.mem_of_getElem? (i := 8) rfl)) (hw _ (List.mem_of_getElem? (i := 2) rfl)) (by decide) (by decide)) q45a q45c (g := (mkF m 84 #[.val (.int p0), .val (.int v2), .val (.ref s_SUM), .val (.int (0 : Int32))] [(.ref s_SUM)])) rfl (by rw [hml]; rfl) (Steps.refl _) (argsL := []) (rest := []) (lenOf pd_0 rfl) rfl (by show 2 * 0 + _ ≤ _; exact Nat.le_of_eq rfl) (hb hby at_84) (fun _ _ => ⟨rfl, e42, (by decide : 0 + 0 ≤ _), (by decide : 0 + 0 ≤ _)⟩)
          dsimp only [Pt.U, Pt.locs, Pt.cells, Pt.slots] at X45 lq45 yq45 zq45 st45 hQ45
          subst lq45 yq45 zq45
          obtain ⟨rfl, Nq45, eq45⟩ := hQ45
          have N45 := Fr.app N0 Nq45
          have ks46 : own_R p e below (s₁.setTop (entryFrame m #[(.int p0)] maxLocals)) (T45.setTop (mkF m 87 #[.val (.int p0), .val (.int v2), .val (.ref s_SUM), .val (.int (0 : Int32))] [(.int (own_ct s_SUM s_FORALL s_EXISTS))])) := fun t k => ks44 t (st45.trans k)
          have ks47 : own_R p e below (s₁.setTop (entryFrame m #[(.int p0)] maxLocals)) (T45.setTop (mkF m 88 #[.val (.int p0), .val (.int v2), .val (.ref s_SUM), .val (.int (0 : Int32))] [(.int (0 : Int32)), (.int (own_ct s_SUM s_FORALL s_EXISTS))])) := fun t k => ks46 t (by
            show Steps p.tables e below (T45.setTop (mkF m 87 #[.val (.int p0), .val (.int v2), .val (.ref s_SUM), .val (.int (0 : Int32))] [(.int (own_ct s_SUM s_FORALL s_EXISTS))])) _
            refine XS.iloadN X45.here hx rfl (hb hby at_87) rfl ?_
            exact k)
          by_cases hc48 : (own_ct s_SUM s_FORALL s_EXISTS) = (0 : Int32)
          · skip
            have ks49 : own_R p e below (s₁.setTop (entryFrame m #[(.int p0)] maxLocals)) (T45.setTop (mkF m 96 #[.val (.int p0), .val (.int v2), .val (.ref s_SUM), .val (.int (0 : Int32))] [(.int (1 : Int32))])) := fun t k => ks47 t (by
              show Steps p.tables e below (T45.setTop (mkF m 88 #[.val (.int p0), .val (.int v2), .val (.ref s_SUM), .val (.int (0 : Int32))] [(.int (0 : Int32)), (.int (own_ct s_SUM s_FORALL s_EXISTS))])) _
              refine XS.icmpNo X45.here hx rfl (hb hby at_88) rfl (teq hc48).2 ?_
              show Steps p.tables e below (T45.setTop (mkF m 91 #[.val (.int p0), .val (.int v2), .val (.ref s_SUM), .val (.int (0 : Int32))] [])) _
              refine XS.iconst X45.here hx rfl (hb hby at_91) ?_
              show Steps p.tables e below (T45.setTop (mkF m 92 #[.val (.int p0), .val (.int v2), .val (.ref s_SUM), .val (.int (0 : Int32))] [(.int (1 : Int32))])) _
              refine XS.goto X45.here hx rfl (pc0 := 92) (pc' := 96) rfl (hb hby at_92) (by decide) (by decide) ?_
              exact k)
            obtain ⟨fs, hr, hrun, hended, hW, hsame⟩ := X45.leave (v := some (.int (1 : Int32))) (fun h => by rw [Bd.returns] at h; cases h)
            refine ⟨_, _, ks49 _ ?_, hrun, hended, _, _, rfl, ?_, ⟨_, rfl⟩, hW, hsame.mono (by decide) (by decide)⟩
            · exact retN X45 hx (t := .boolean) Bd.returns (by simp) (hb hby at_96) hr
            · show Q0 Z p0 s_MAX s_FORALL s_EXISTS s_SUM s_AVG s_MIN h0 n0 _ T45.heap _
              rw [eq45]
              exact ⟨rfl, N45⟩
          · skip
            have ks50 : own_R p e below (s₁.setTop (entryFrame m #[(.int p0)] maxLocals)) (T45.setTop (mkF m 96 #[.val (.int p0), .val (.int v2), .val (.ref s_SUM), .val (.int (0 : Int32))] [(.int (0 : Int32))])) := fun t k => ks47 t (by
              show Steps p.tables e below (T45.setTop (mkF m 88 #[.val (.int p0), .val (.int v2), .val (.ref s_SUM), .val (.int (0 : Int32))] [(.int (0 : Int32)), (.int (own_ct s_SUM s_FORALL s_EXISTS))])) _
              refine XS.icmpYes X45.here hx rfl (pc0 := 88) (pc' := 95) rfl (hb hby at_88) rfl (feq hc48).2 (by decide) (by decide) ?_
              show Steps p.tables e below (T45.setTop (mkF m 95 #[.val (.int p0), .val (.int v2), .val (.ref s_SUM), .val (.int (0 : Int32))] [])) _
              refine XS.iconst X45.here hx rfl (hb hby at_95) ?_
              exact k)
            obtain ⟨fs, hr, hrun, hended, hW, hsame⟩ := X45.leave (v := some (.int (0 : Int32))) (fun h => by rw [Bd.returns] at h; cases h)
            refine ⟨_, _, ks50 _ ?_, hrun, hended, _, _, rfl, ?_, ⟨_, rfl⟩, hW, hsame.mono (by decide) (by decide)⟩
            · exact retN X45 hx (t := .boolean) Bd.returns (by simp) (hb hby at_96) hr
            · show Q0 Z p0 s_MAX s_FORALL s_EXISTS s_SUM s_AVG s_MIN h0 n0 _ T45.heap _
              rw [eq45]
              exfalso
              apply hc48
              unfold own_ct
              rw [if_neg (Fld.ne F_s_SUM_ordinal F_s_FORALL_ordinal (by decide)), if_neg (Fld.ne F_s_SUM_ordinal F_s_EXISTS_ordinal (by decide))]
        · skip
          have ks51 : own_R p e below (s₁.setTop (entryFrame m #[(.int p0)] maxLocals)) (s₁.setTop (mkF m 65 #[.val (.int p0), .val (.int v2), .unset, .unset] [(.int (4 : Int32)), (.int v2)])) := fun t k => ks39 t (by
            show Steps p.tables e below (s₁.setTop (mkF m 51 #[.val (.int p0), .val (.int v2), .unset, .unset] [(.int (3 : Int32)), (.int v2)])) _
            refine XS.icmpYes X0.here hx rfl (pc0 := 51) (pc' := 63) rfl (hb hby at_51) rfl (feq hc40).2 (by decide) (by decide) ?_
            show Steps p.tables e below (s₁.setTop (mkF m 63 #[.val (.int p0), .val (.int v2), .unset, .unset] [])) _
            refine XS.iloadN X0.here hx rfl (hb hby at_63) rfl ?_
            show Steps p.tables e below (s₁.setTop (mkF m 64 #[.val (.int p0), .val (.int v2), .unset, .unset] [(.int v2)])) _
            refine XS.iconst X0.here hx rfl (hb hby at_64) ?_
            exact k)
          by_cases hc52 : v2 = (4 : Int32)
          · skip
            have ks53 : own_R p e below (s₁.setTop (entryFrame m #[(.int p0)] maxLocals)) (s₁.setTop (mkF m 68 #[.val (.int p0), .val (.int v2), .unset, .unset] [])) := fun t k => ks51 t (by
              show Steps p.tables e below (s₁.setTop (mkF m 65 #[.val (.int p0), .val (.int v2), .unset, .unset] [(.int (4 : Int32)), (.int v2)])) _
              refine XS.icmpNo X0.here hx rfl (hb hby at_65) rfl (teq hc52).2 ?_
              exact k)
            obtain ⟨T54, X54, e54, st54⟩ := getS2 X0 hx hZ hown (host := "") (Or.inl (hw _ (List.mem_of_getElem? (i := 20) rfl))) Via.refl e0 S_s_FORALL (g := (mkF m 68 #[.val (.int p0), .val (.int v2), .unset, .unset] [])) rfl (hb hby at_68)
            have ks55 : own_R p e below (s₁.setTop (entryFrame m #[(.int p0)] maxLocals)) (T54.setTop (mkF m 71 #[.val (.int p0), .val (.int v2), .unset, .unset] [(.ref s_FORALL)])) := fun t k => ks53 t (st54 t k)
            have ks56 : own_R p e below (s₁.setTop (entryFrame m #[(.int p0)] maxLocals)) (T54.setTop (mkF m 84 #[.val (.int p0), .val (.int v2), .val (.ref s_FORALL), .val (.int (1 : Int32))] [(.ref s_FORALL)])) := fun t k => ks55 t (by
              show Steps p.tables e below (T54.setTop (mkF m 71 #[.val (.int p0), .val (.int v2), .unset, .unset] [(.ref s_FORALL)])) _
              refine XS.astoreN X54.here hx rfl (hb hby at_71) rfl rfl (l' := #[.val (.int p0), .val (.int v2), .val (.ref s_FORALL), .unset]) rfl ?_
              show Steps p.tables e below (T54.setTop (mkF m 72 #[.val (.int p0), .val (.int v2), .val (.ref s_FORALL), .unset] [])) _
              refine XS.iconst X54.here hx rfl (hb hby at_72) ?_
              show Steps p.tables e below (T54.setTop (mkF m 73 #[.val (.int p0), .val (.int v2), .val (.ref s_FORALL), .unset] [(.int (1 : Int32))])) _
              refine XS.istoreN X54.here hx rfl (hb hby at_73) rfl (l' := #[.val (.int p0), .val (.int v2), .val (.ref s_FORALL), .val (.int (1 : Int32))]) rfl ?_
              show Steps p.tables e below (T54.setTop (mkF m 74 #[.val (.int p0), .val (.int v2), .val (.ref s_FORALL), .val (.int (1 : Int32))] [])) _
              refine XS.goto X54.here hx rfl (pc0 := 74) (pc' := 83) rfl (hb hby at_74) (by decide) (by decide) ?_
              show Steps p.tables e below (T54.setTop (mkF m 83 #[.val (.int p0), .val (.int v2), .val (.ref s_FORALL), .val (.int (1 : Int32))] [])) _
              refine XS.aloadN X54.here hx rfl (hb hby at_83) rfl rfl ?_
              exact k)
            obtain ⟨cq57, kq57, q57a, q57b, q57c⟩ := isOf hZ e54 E_s_FORALL
            obtain ⟨_, _, ⟨T57, L57, k57, n57⟩, -, X57, ⟨Lc57, hQ57, lq57, yq57, zq57⟩, st57⟩ := X54.virtualBack hx (y := (⟨"com/example/randomized_protocol_models/randomizedprotocolmodels/lang/Property$FilterOperator", "combinesTruths", "()Z"⟩ : MethodName)) (z := (⟨"com/example/randomized_protocol_models/randomizedprotocolmodels/lang/Property$FilterOperator", "combinesTruths", "()Z"⟩ : MethodName)) hown (mvT hZ (hw _ (List.mem_of_getElem? (i := 4) rfl))) (mvT hZ (hw _ (List.mem_of_getElem? (i := 5) rfl))) (notFace_of_selects (args := #[]) (mvT hZ (hw _ (List.mem_of_getElem? (i := 7) rfl)))) (mvT hZ (hw _ (List.mem_of_getElem? (i := 7) rfl))) (mvT hZ (hw _ (List.mem_of_getElem? (i := 6) rfl))) (by decide) (backOf (W := 0) (rm1 l Z a0 hw [] s_FORALL s_FORALL s_EXISTS h0 n0 Z0 S_s_FORALL S_s_EXISTS) hZ (hw _ (List.mem_of_getElem? (i := 8) rfl)) (hw _ (List.mem_of_getElem? (i := 2) rfl)) (by decide) (by decide)) q57a q57c (g := (mkF m 84 #[.val (.int p0), .val (.int v2), .val (.ref s_FORALL), .val (.int (1 : Int32))] [(.ref s_FORALL)])) rfl (by rw [hml]; rfl) (Steps.refl _) (argsL := []) (rest := []) (lenOf pd_0 rfl) rfl (by show 2 * 0 + _ ≤ _; exact Nat.le_of_eq rfl) (hb hby at_84) (fun _ _ => ⟨rfl, e54, (by decide : 0 + 0 ≤ _), (by decide : 0 + 0 ≤ _)⟩)
            dsimp only [Pt.U, Pt.locs, Pt.cells, Pt.slots] at X57 lq57 yq57 zq57 st57 hQ57
            subst lq57 yq57 zq57
            obtain ⟨rfl, Nq57, eq57⟩ := hQ57
            have N57 := Fr.app N0 Nq57
            have ks58 : own_R p e below (s₁.setTop (entryFrame m #[(.int p0)] maxLocals)) (T57.setTop (mkF m 87 #[.val (.int p0), .val (.int v2), .val (.ref s_FORALL), .val (.int (1 : Int32))] [(.int (own_ct s_FORALL s_FORALL s_EXISTS))])) := fun t k => ks56 t (st57.trans k)
            have ks59 : own_R p e below (s₁.setTop (entryFrame m #[(.int p0)] maxLocals)) (T57.setTop (mkF m 88 #[.val (.int p0), .val (.int v2), .val (.ref s_FORALL), .val (.int (1 : Int32))] [(.int (1 : Int32)), (.int (own_ct s_FORALL s_FORALL s_EXISTS))])) := fun t k => ks58 t (by
              show Steps p.tables e below (T57.setTop (mkF m 87 #[.val (.int p0), .val (.int v2), .val (.ref s_FORALL), .val (.int (1 : Int32))] [(.int (own_ct s_FORALL s_FORALL s_EXISTS))])) _
              refine XS.iloadN X57.here hx rfl (hb hby at_87) rfl ?_
              exact k)
            by_cases hc60 : (own_ct s_FORALL s_FORALL s_EXISTS) = (1 : Int32)
            · skip
              have ks61 : own_R p e below (s₁.setTop (entryFrame m #[(.int p0)] maxLocals)) (T57.setTop (mkF m 96 #[.val (.int p0), .val (.int v2), .val (.ref s_FORALL), .val (.int (1 : Int32))] [(.int (1 : Int32))])) := fun t k => ks59 t (by
                show Steps p.tables e below (T57.setTop (mkF m 88 #[.val (.int p0), .val (.int v2), .val (.ref s_FORALL), .val (.int (1 : Int32))] [(.int (1 : Int32)), (.int (own_ct s_FORALL s_FORALL s_EXISTS))])) _
                refine XS.icmpNo X57.here hx rfl (hb hby at_88) rfl (teq hc60).2 ?_
                show Steps p.tables e below (T57.setTop (mkF m 91 #[.val (.int p0), .val (.int v2), .val (.ref s_FORALL), .val (.int (1 : Int32))] [])) _
                refine XS.iconst X57.here hx rfl (hb hby at_91) ?_
                show Steps p.tables e below (T57.setTop (mkF m 92 #[.val (.int p0), .val (.int v2), .val (.ref s_FORALL), .val (.int (1 : Int32))] [(.int (1 : Int32))])) _
                refine XS.goto X57.here hx rfl (pc0 := 92) (pc' := 96) rfl (hb hby at_92) (by decide) (by decide) ?_
                exact k)
              obtain ⟨fs, hr, hrun, hended, hW, hsame⟩ := X57.leave (v := some (.int (1 : Int32))) (fun h => by rw [Bd.returns] at h; cases h)
              refine ⟨_, _, ks61 _ ?_, hrun, hended, _, _, rfl, ?_, ⟨_, rfl⟩, hW, hsame.mono (by decide) (by decide)⟩
              · exact retN X57 hx (t := .boolean) Bd.returns (by simp) (hb hby at_96) hr
              · show Q0 Z p0 s_MAX s_FORALL s_EXISTS s_SUM s_AVG s_MIN h0 n0 _ T57.heap _
                rw [eq57]
                exact ⟨rfl, N57⟩
            · skip
              have ks62 : own_R p e below (s₁.setTop (entryFrame m #[(.int p0)] maxLocals)) (T57.setTop (mkF m 96 #[.val (.int p0), .val (.int v2), .val (.ref s_FORALL), .val (.int (1 : Int32))] [(.int (0 : Int32))])) := fun t k => ks59 t (by
                show Steps p.tables e below (T57.setTop (mkF m 88 #[.val (.int p0), .val (.int v2), .val (.ref s_FORALL), .val (.int (1 : Int32))] [(.int (1 : Int32)), (.int (own_ct s_FORALL s_FORALL s_EXISTS))])) _
                refine XS.icmpYes X57.here hx rfl (pc0 := 88) (pc' := 95) rfl (hb hby at_88) rfl (feq hc60).2 (by decide) (by decide) ?_
                show Steps p.tables e below (T57.setTop (mkF m 95 #[.val (.int p0), .val (.int v2), .val (.ref s_FORALL), .val (.int (1 : Int32))] [])) _
                refine XS.iconst X57.here hx rfl (hb hby at_95) ?_
                exact k)
              obtain ⟨fs, hr, hrun, hended, hW, hsame⟩ := X57.leave (v := some (.int (0 : Int32))) (fun h => by rw [Bd.returns] at h; cases h)
              refine ⟨_, _, ks62 _ ?_, hrun, hended, _, _, rfl, ?_, ⟨_, rfl⟩, hW, hsame.mono (by decide) (by decide)⟩
              · exact retN X57 hx (t := .boolean) Bd.returns (by simp) (hb hby at_96) hr
              · show Q0 Z p0 s_MAX s_FORALL s_EXISTS s_SUM s_AVG s_MIN h0 n0 _ T57.heap _
                rw [eq57]
                exfalso
                apply hc60
                unfold own_ct
                rw [if_pos rfl]
          · skip
            have ks63 : own_R p e below (s₁.setTop (entryFrame m #[(.int p0)] maxLocals)) (s₁.setTop (mkF m 77 #[.val (.int p0), .val (.int v2), .unset, .unset] [])) := fun t k => ks51 t (by
              show Steps p.tables e below (s₁.setTop (mkF m 65 #[.val (.int p0), .val (.int v2), .unset, .unset] [(.int (4 : Int32)), (.int v2)])) _
              refine XS.icmpYes X0.here hx rfl (pc0 := 65) (pc' := 77) rfl (hb hby at_65) rfl (feq hc52).2 (by decide) (by decide) ?_
              exact k)
            obtain ⟨T64, X64, e64, st64⟩ := getS2 X0 hx hZ hown (host := "") (Or.inl (hw _ (List.mem_of_getElem? (i := 19) rfl))) Via.refl e0 S_s_EXISTS (g := (mkF m 77 #[.val (.int p0), .val (.int v2), .unset, .unset] [])) rfl (hb hby at_77)
            have ks65 : own_R p e below (s₁.setTop (entryFrame m #[(.int p0)] maxLocals)) (T64.setTop (mkF m 80 #[.val (.int p0), .val (.int v2), .unset, .unset] [(.ref s_EXISTS)])) := fun t k => ks63 t (st64 t k)
            have ks66 : own_R p e below (s₁.setTop (entryFrame m #[(.int p0)] maxLocals)) (T64.setTop (mkF m 84 #[.val (.int p0), .val (.int v2), .val (.ref s_EXISTS), .val (.int (1 : Int32))] [(.ref s_EXISTS)])) := fun t k => ks65 t (by
              show Steps p.tables e below (T64.setTop (mkF m 80 #[.val (.int p0), .val (.int v2), .unset, .unset] [(.ref s_EXISTS)])) _
              refine XS.astoreN X64.here hx rfl (hb hby at_80) rfl rfl (l' := #[.val (.int p0), .val (.int v2), .val (.ref s_EXISTS), .unset]) rfl ?_
              show Steps p.tables e below (T64.setTop (mkF m 81 #[.val (.int p0), .val (.int v2), .val (.ref s_EXISTS), .unset] [])) _
              refine XS.iconst X64.here hx rfl (hb hby at_81) ?_
              show Steps p.tables e below (T64.setTop (mkF m 82 #[.val (.int p0), .val (.int v2), .val (.ref s_EXISTS), .unset] [(.int (1 : Int32))])) _
              refine XS.istoreN X64.here hx rfl (hb hby at_82) rfl (l' := #[.val (.int p0), .val (.int v2), .val (.ref s_EXISTS), .val (.int (1 : Int32))]) rfl ?_
              show Steps p.tables e below (T64.setTop (mkF m 83 #[.val (.int p0), .val (.int v2), .val (.ref s_EXISTS), .val (.int (1 : Int32))] [])) _
              refine XS.aloadN X64.here hx rfl (hb hby at_83) rfl rfl ?_
              exact k)
            obtain ⟨cq67, kq67, q67a, q67b, q67c⟩ := isOf hZ e64 E_s_EXISTS
            obtain ⟨_, _, ⟨T67, L67, k67, n67⟩, -, X67, ⟨Lc67, hQ67, lq67, yq67, zq67⟩, st67⟩ := X64.virtualBack hx (y := (⟨"com/example/randomized_protocol_models/randomizedprotocolmodels/lang/Property$FilterOperator", "combinesTruths", "()Z"⟩ : MethodName)) (z := (⟨"com/example/randomized_protocol_models/randomizedprotocolmodels/lang/Property$FilterOperator", "combinesTruths", "()Z"⟩ : MethodName)) hown (mvT hZ (hw _ (List.mem_of_getElem? (i := 4) rfl))) (mvT hZ (hw _ (List.mem_of_getElem? (i := 5) rfl))) (notFace_of_selects (args := #[]) (mvT hZ (hw _ (List.mem_of_getElem? (i := 7) rfl)))) (mvT hZ (hw _ (List.mem_of_getElem? (i := 7) rfl))) (mvT hZ (hw _ (List.mem_of_getElem? (i := 6) rfl))) (by decide) (backOf (W := 0) (rm1 l Z a0 hw [] s_EXISTS s_FORALL s_EXISTS h0 n0 Z0 S_s_FORALL S_s_EXISTS) hZ (hw _ (List.mem_of_getElem? (i := 8) rfl)) (hw _ (List.mem_of_getElem? (i := 2) rfl)) (by decide) (by decide)) q67a q67c (g := (mkF m 84 #[.val (.int p0), .val (.int v2), .val (.ref s_EXISTS), .val (.int (1 : Int32))] [(.ref s_EXISTS)])) rfl (by rw [hml]; rfl) (Steps.refl _) (argsL := []) (rest := []) (lenOf pd_0 rfl) rfl (by show 2 * 0 + _ ≤ _; exact Nat.le_of_eq rfl) (hb hby at_84) (fun _ _ => ⟨rfl, e64, (by decide : 0 + 0 ≤ _), (by decide : 0 + 0 ≤ _)⟩)
            dsimp only [Pt.U, Pt.locs, Pt.cells, Pt.slots] at X67 lq67 yq67 zq67 st67 hQ67
            subst lq67 yq67 zq67
            obtain ⟨rfl, Nq67, eq67⟩ := hQ67
            have N67 := Fr.app N0 Nq67
            have ks68 : own_R p e below (s₁.setTop (entryFrame m #[(.int p0)] maxLocals)) (T67.setTop (mkF m 87 #[.val (.int p0), .val (.int v2), .val (.ref s_EXISTS), .val (.int (1 : Int32))] [(.int (own_ct s_EXISTS s_FORALL s_EXISTS))])) := fun t k => ks66 t (st67.trans k)
            have ks69 : own_R p e below (s₁.setTop (entryFrame m #[(.int p0)] maxLocals)) (T67.setTop (mkF m 88 #[.val (.int p0), .val (.int v2), .val (.ref s_EXISTS), .val (.int (1 : Int32))] [(.int (1 : Int32)), (.int (own_ct s_EXISTS s_FORALL s_EXISTS))])) := fun t k => ks68 t (by
              show Steps p.tables e below (T67.setTop (mkF m 87 #[.val (.int p0), .val (.int v2), .val (.ref s_EXISTS), .val (.int (1 : Int32))] [(.int (own_ct s_EXISTS s_FORALL s_EXISTS))])) _
              refine XS.iloadN X67.here hx rfl (hb hby at_87) rfl ?_
              exact k)
            by_cases hc70 : (own_ct s_EXISTS s_FORALL s_EXISTS) = (1 : Int32)
            · skip
              have ks71 : own_R p e below (s₁.setTop (entryFrame m #[(.int p0)] maxLocals)) (T67.setTop (mkF m 96 #[.val (.int p0), .val (.int v2), .val (.ref s_EXISTS), .val (.int (1 : Int32))] [(.int (1 : Int32))])) := fun t k => ks69 t (by
                show Steps p.tables e below (T67.setTop (mkF m 88 #[.val (.int p0), .val (.int v2), .val (.ref s_EXISTS), .val (.int (1 : Int32))] [(.int (1 : Int32)), (.int (own_ct s_EXISTS s_FORALL s_EXISTS))])) _
                refine XS.icmpNo X67.here hx rfl (hb hby at_88) rfl (teq hc70).2 ?_
                show Steps p.tables e below (T67.setTop (mkF m 91 #[.val (.int p0), .val (.int v2), .val (.ref s_EXISTS), .val (.int (1 : Int32))] [])) _
                refine XS.iconst X67.here hx rfl (hb hby at_91) ?_
                show Steps p.tables e below (T67.setTop (mkF m 92 #[.val (.int p0), .val (.int v2), .val (.ref s_EXISTS), .val (.int (1 : Int32))] [(.int (1 : Int32))])) _
                refine XS.goto X67.here hx rfl (pc0 := 92) (pc' := 96) rfl (hb hby at_92) (by decide) (by decide) ?_
                exact k)
              obtain ⟨fs, hr, hrun, hended, hW, hsame⟩ := X67.leave (v := some (.int (1 : Int32))) (fun h => by rw [Bd.returns] at h; cases h)
              refine ⟨_, _, ks71 _ ?_, hrun, hended, _, _, rfl, ?_, ⟨_, rfl⟩, hW, hsame.mono (by decide) (by decide)⟩
              · exact retN X67 hx (t := .boolean) Bd.returns (by simp) (hb hby at_96) hr
              · show Q0 Z p0 s_MAX s_FORALL s_EXISTS s_SUM s_AVG s_MIN h0 n0 _ T67.heap _
                rw [eq67]
                exact ⟨rfl, N67⟩
            · skip
              have ks72 : own_R p e below (s₁.setTop (entryFrame m #[(.int p0)] maxLocals)) (T67.setTop (mkF m 96 #[.val (.int p0), .val (.int v2), .val (.ref s_EXISTS), .val (.int (1 : Int32))] [(.int (0 : Int32))])) := fun t k => ks69 t (by
                show Steps p.tables e below (T67.setTop (mkF m 88 #[.val (.int p0), .val (.int v2), .val (.ref s_EXISTS), .val (.int (1 : Int32))] [(.int (1 : Int32)), (.int (own_ct s_EXISTS s_FORALL s_EXISTS))])) _
                refine XS.icmpYes X67.here hx rfl (pc0 := 88) (pc' := 95) rfl (hb hby at_88) rfl (feq hc70).2 (by decide) (by decide) ?_
                show Steps p.tables e below (T67.setTop (mkF m 95 #[.val (.int p0), .val (.int v2), .val (.ref s_EXISTS), .val (.int (1 : Int32))] [])) _
                refine XS.iconst X67.here hx rfl (hb hby at_95) ?_
                exact k)
              obtain ⟨fs, hr, hrun, hended, hW, hsame⟩ := X67.leave (v := some (.int (0 : Int32))) (fun h => by rw [Bd.returns] at h; cases h)
              refine ⟨_, _, ks72 _ ?_, hrun, hended, _, _, rfl, ?_, ⟨_, rfl⟩, hW, hsame.mono (by decide) (by decide)⟩
              · exact retN X67 hx (t := .boolean) Bd.returns (by simp) (hb hby at_96) hr
              · show Q0 Z p0 s_MAX s_FORALL s_EXISTS s_SUM s_AVG s_MIN h0 n0 _ T67.heap _
                rw [eq67]
                exfalso
                apply hc70
                unfold own_ct
                rw [if_neg (Fld.ne F_s_EXISTS_ordinal F_s_FORALL_ordinal (by decide)), if_pos rfl]
set_option maxRecDepth 65536 in
set_option maxHeartbeats 40000000 in
theorem comes_1 {Post : Tables → Env → Array Value → State → Outcome → State → Prop} (hpost : ∀ tb e args s v u, (limb_1_1.after args s (.returned v) u = true ∧ limb_1_2.after args s (.returned v) u = true ∧ True) → FrameEnd s (.returned v) u (Jvm.fieldLocs frame_1_writes args s ++ Jvm.arrayLocs frame_1_arrays args s ++ Jvm.staticLocs frame_1_statics s) 0 0 → Post tb e args s (.returned v) u) :
    ArmFor flags0 classFile x code maxLocals ret World_1 tables_1 room_1 Calls_1 rest_1 Pre_1 Post := by
  intro l hfl _ _ p e ha hc hk s m args below hf hA hF happ hP
  obtain ⟨hcalls, hrest, hpre⟩ := hP
  obtain ⟨-, -, -, hnamed, -, -, -, hat⟩ := (Spec.applies_iff hf).mp happ
  obtain ⟨hg, hn⟩ := and_e (Cond.before_iff.mp (show (Jvm.Cond.and given_1 narrow_1).before args s = true from hpre))
  obtain ⟨g1, g2⟩ := and_e hg
  obtain ⟨g3, g4⟩ := and_e hn
  obtain ⟨g5, g6⟩ := and_e g4
  obtain ⟨g7, g8⟩ := and_e g6
  obtain ⟨g9, g10⟩ := and_e g8
  obtain ⟨g11, g12⟩ := and_e g10
  obtain ⟨g13, g14⟩ := and_e g12
  obtain ⟨g15, g16⟩ := and_e g14
  obtain ⟨g17, g18⟩ := and_e g16
  obtain ⟨g19, g20⟩ := and_e g18
  obtain ⟨g21, g22⟩ := and_e g20
  obtain ⟨g23, g24⟩ := and_e g22
  obtain ⟨w0, rfl⟩ : ∃ w0 : Value, args = #[w0] := by
    have hs : args.size = 1 := by simpa [Cond.value, given_1] using g1
    obtain ⟨L⟩ := args
    match L, hs with
    | [w0], _ => exact ⟨w0, rfl⟩
  have hw := fun d (hd : d ∈ tables_1) => atoms_spec (ws := Jvm.Cond.code x code maxLocals ret :: tables_1) hat d (List.mem_cons_of_mem _ hd)
  have hfit : Fit s := fun {y c} hc i hi => by
    obtain ⟨ha, rfl⟩ := Array.getElem?_eq_some_iff.mp hc
    have q := List.all_eq_true.mp ((Array.all_eq_true_iff_forall_mem.mp hF) _ (Array.getElem_mem ha)) i (List.mem_range.mpr hi)
    simpa [Array.getElem?_eq_getElem hi] using q
  obtain ⟨i0, ei0⟩ := is_v g2
  obtain rfl : w0 = (.int i0) := Option.some.inj ei0
  obtain ⟨s_MAX, ev_s_MAX⟩ := exa_v g3
  have E_s_MAX := Exa.start ev_s_MAX g3
  have S_s_MAX : Sta s s.heap "com/example/randomized_protocol_models/randomizedprotocolmodels/lang/Property$FilterOperator" "MAX" "Lcom/example/randomized_protocol_models/randomizedprotocolmodels/lang/Property$FilterOperator;" (.ref s_MAX) := Sta.start ev_s_MAX (Or.inr ⟨(hw _ (List.mem_of_getElem? (i := 2) rfl)), (hw _ (List.mem_of_getElem? (i := 3) rfl))⟩)
  obtain ⟨s_FORALL, ev_s_FORALL⟩ := exa_v g5
  have E_s_FORALL := Exa.start ev_s_FORALL g5
  have S_s_FORALL : Sta s s.heap "com/example/randomized_protocol_models/randomizedprotocolmodels/lang/Property$FilterOperator" "FORALL" "Lcom/example/randomized_protocol_models/randomizedprotocolmodels/lang/Property$FilterOperator;" (.ref s_FORALL) := Sta.start ev_s_FORALL (Or.inr ⟨(hw _ (List.mem_of_getElem? (i := 2) rfl)), (hw _ (List.mem_of_getElem? (i := 10) rfl))⟩)
  obtain ⟨s_EXISTS, ev_s_EXISTS⟩ := exa_v g11
  have E_s_EXISTS := Exa.start ev_s_EXISTS g11
  have S_s_EXISTS : Sta s s.heap "com/example/randomized_protocol_models/randomizedprotocolmodels/lang/Property$FilterOperator" "EXISTS" "Lcom/example/randomized_protocol_models/randomizedprotocolmodels/lang/Property$FilterOperator;" (.ref s_EXISTS) := Sta.start ev_s_EXISTS (Or.inr ⟨(hw _ (List.mem_of_getElem? (i := 2) rfl)), (hw _ (List.mem_of_getElem? (i := 12) rfl))⟩)
  obtain ⟨s_SUM, ev_s_SUM⟩ := exa_v g15
  have E_s_SUM := Exa.start ev_s_SUM g15
  have S_s_SUM : Sta s s.heap "com/example/randomized_protocol_models/randomizedprotocolmodels/lang/Property$FilterOperator" "SUM" "Lcom/example/randomized_protocol_models/randomizedprotocolmodels/lang/Property$FilterOperator;" (.ref s_SUM) := Sta.start ev_s_SUM (Or.inr ⟨(hw _ (List.mem_of_getElem? (i := 2) rfl)), (hw _ (List.mem_of_getElem? (i := 14) rfl))⟩)
  obtain ⟨s_AVG, ev_s_AVG⟩ := exa_v g19
  have E_s_AVG := Exa.start ev_s_AVG g19
  have S_s_AVG : Sta s s.heap "com/example/randomized_protocol_models/randomizedprotocolmodels/lang/Property$FilterOperator" "AVG" "Lcom/example/randomized_protocol_models/randomizedprotocolmodels/lang/Property$FilterOperator;" (.ref s_AVG) := Sta.start ev_s_AVG (Or.inr ⟨(hw _ (List.mem_of_getElem? (i := 2) rfl)), (hw _ (List.mem_of_getElem? (i := 16) rfl))⟩)
  obtain ⟨s_MIN, ev_s_MIN⟩ := exa_v g23
  have E_s_MIN := Exa.start ev_s_MIN g23
  have S_s_MIN : Sta s s.heap "com/example/randomized_protocol_models/randomizedprotocolmodels/lang/Property$FilterOperator" "MIN" "Lcom/example/randomized_protocol_models/randomizedprotocolmodels/lang/Property$FilterOperator;" (.ref s_MIN) := Sta.start ev_s_MIN (Or.inr ⟨(hw _ (List.mem_of_getElem? (i := 2) rfl)), (hw _ (List.mem_of_getElem? (i := 18) rfl))⟩)
  have F_s_MAX_ordinal : Fld s s.heap s_MAX "java/lang/Enum" "ordinal" "I" (.int (0 : Int32)) := Fld.start ((fld_at ev_s_MAX).symm.trans (own_eqi g7))
  have F_s_FORALL_ordinal : Fld s s.heap s_FORALL "java/lang/Enum" "ordinal" "I" (.int (4 : Int32)) := Fld.start ((fld_at ev_s_FORALL).symm.trans (own_eqi g9))
  have F_s_EXISTS_ordinal : Fld s s.heap s_EXISTS "java/lang/Enum" "ordinal" "I" (.int (5 : Int32)) := Fld.start ((fld_at ev_s_EXISTS).symm.trans (own_eqi g13))
  have F_s_SUM_ordinal : Fld s s.heap s_SUM "java/lang/Enum" "ordinal" "I" (.int (3 : Int32)) := Fld.start ((fld_at ev_s_SUM).symm.trans (own_eqi g17))
  have F_s_AVG_ordinal : Fld s s.heap s_AVG "java/lang/Enum" "ordinal" "I" (.int (2 : Int32)) := Fld.start ((fld_at ev_s_AVG).symm.trans (own_eqi g21))
  have F_s_MIN_ordinal : Fld s s.heap s_MIN "java/lang/Enum" "ordinal" "I" (.int (1 : Int32)) := Fld.start ((fld_at ev_s_MIN).symm.trans (own_eqi g24))
  obtain ⟨n, o, h1, h2, h3, _, L, rfl, ⟨rfl, N⟩, hq⟩ := rm0 l s _ hw tables_1 i0 s_MAX s_FORALL s_EXISTS s_SUM s_AVG s_MIN s.heap s.heap.size (Nat.le_refl _) E_s_MAX S_s_MAX E_s_FORALL S_s_FORALL E_s_EXISTS S_s_EXISTS E_s_SUM S_s_SUM E_s_AVG S_s_AVG E_s_MIN S_s_MIN F_s_MAX_ordinal F_s_FORALL_ordinal F_s_EXISTS_ordinal F_s_SUM_ordinal F_s_AVG_ordinal F_s_MIN_ordinal p e ha hc hk s m _ below hf ((Spec.applies_iff_loose hf).mp happ).1 ⟨rfl, State.Warmed39.refl s, rfl⟩ trivial
  refine ⟨n, _, h1, h2, h3, hpost _ _ _ _ _ _ ⟨Cond.after_iff.mpr rfl, Cond.after_iff.mpr (eq_i res_at (Term.int_eval (1)) rfl), trivial⟩ ⟨hq.1, hq.2.1, (hq.2.2.sift fun y hy => Or.inr (N y hy)).mono (by decide) (by decide)⟩⟩
theorem main_1_1 : Claimed_1_1 := comes_1 fun _ _ _ _ _ _ h hF => ⟨h.1, hF⟩
theorem main_1_2 : Claimed_1_2 := comes_1 fun _ _ _ _ _ _ h hF => ⟨h.2.1, hF⟩
end Jvm.Pilot.@@N@@
namespace Jvm.Pilot.@@N@@
open Jvm Jvm.ClassFile Sem Op Lib Jvm.Free Jvm.Stand Jvm.Pilot.@@N@@.Jvm.D
/-! MADE BY PROGRAM (witnessworld.py) out of the Statement's table words and the real class files: 12 classes; the members and pool entries that the words name. The judged class is class 1, her method 1. -/
namespace start1
open Jvm.ClassFile
def u (s : String) : CpInfo := .utf8 (stringToUtf16 s)
/-- a pool by its gaps: so many unusable entries, then the entry; so many at the end -/
def gap : Nat → List CpInfo → List CpInfo
  | 0, r => r
  | n + 1, r => .unusable :: gap n r
def poolList (es : List (Nat × CpInfo)) (last : Nat) : List CpInfo := es.foldr (fun e r => gap e.1 (e.2 :: r)) (gap last [])
def pool (es : List (Nat × CpInfo)) (last : Nat) : Array CpInfo := ⟨poolList es last⟩
def fileOf (pool : Array CpInfo) (this : Nat) (attrs : Array Attribute := #[]) (ms : Array MethodInfo := #[]) (fl : Nat := 33) (sup : Nat := 0) (ifs : Array Nat := #[]) (fds : Array FieldInfo := #[]) : ClassFile where
  minorVersion := 0
  majorVersion := 65
  constantPool := pool
  accessFlags := fl
  thisClass := this
  superClass := sup
  interfaces := ifs
  fields := fds
  methods := ms
  attributes := attrs
def plain (name : String) (sup : Option ClassId) : Class where
  name := name
  kind := .ordinary
  loader := none
  accessFlags := 33
  super := sup
  interfaces := #[]
  cf := none
  fields := #[]
  methods := #[]
  instanceTypes := #[]
  staticTypes := #[]
  resolved := #[]
  callSites := []
  init := .initialized
  statics := none
  mirror := none

def pool0 : Array CpInfo := pool [(5, u "<init>"), (0, u "()V"), (1, .class_ 10), (1, u "java/lang/Object")] 113

def k0m0 : Method := { name := "<init>", desc := "()V", sig := { parameters := [], returnType := none }, accessFlags := 1, code := none }
/-- java/lang/Object -/
def k0 : Class := { plain "java/lang/Object" none with
  accessFlags := 33
  interfaces := #[]
  cf := some (fileOf pool0 8 #[] #[{ accessFlags := 1, nameIndex := 5, descriptorIndex := 6, attributes := #[] }] 33 0 #[] #[])
  fields := #[]
  methods := #[k0m0]
  instanceTypes := #[]
  staticTypes := #[]
  resolved := Array.replicate 124 none
  statics := none }

def pool1 : Array CpInfo := pool [(2, .class_ 4), (1, u "java/lang/Object"), (0, u "<init>"), (0, u "()V"), (0, .integer 2147483647), (0, .fieldref 9 10), (0, .class_ 11), (0, .nameAndType 12 13), (0, u "com/example/randomized_protocol_models/randomizedprotocolmodels/lang/Property$FilterOperator"), (0, u "MAX"), (0, u "Lcom/example/randomized_protocol_models/randomizedprotocolmodels/lang/Property$FilterOperator;"), (0, .fieldref 9 15), (0, .nameAndType 16 13), (0, u "MIN"), (0, .fieldref 9 18), (0, .nameAndType 19 13), (0, u "AVG"), (0, .fieldref 9 21), (0, .nameAndType 22 13), (0, u "SUM"), (0, .fieldref 9 24), (0, .nameAndType 25 13), (0, u "FORALL"), (0, .fieldref 9 27), (0, .nameAndType 28 13), (0, u "EXISTS"), (0, .methodref 9 30), (0, .nameAndType 31 32), (0, u "combinesTruths"), (0, u "()Z"), (0, .class_ 34), (0, u "com/example/randomized_protocol_models/randomizedprotocolmodels/lang/FilterOperatorCombinesTruthsPinLaw"), (2, u "law"), (0, u "(I)Z")] 7

def k1m0 : Method := { name := "<init>", desc := "()V", sig := { parameters := [], returnType := none }, accessFlags := 1, code := none }
def k1c1 : Code := { maxStack := 2, maxLocals := 4, code := code, exceptionTable := #[], attributes := #[] }
def k1m1 : Method := { name := "law", desc := "(I)Z", sig := { parameters := [.int], returnType := some .boolean }, accessFlags := 9, code := some k1c1 }
/-- com/example/randomized_protocol_models/randomizedprotocolmodels/lang/FilterOperatorCombinesTruthsPinLaw -/
def k1 : Class := { plain "com/example/randomized_protocol_models/randomizedprotocolmodels/lang/FilterOperatorCombinesTruthsPinLaw" (some 0) with
  accessFlags := 49
  interfaces := #[]
  cf := some (fileOf pool1 33 #[] #[{ accessFlags := 1, nameIndex := 5, descriptorIndex := 6, attributes := #[] }, { accessFlags := 9, nameIndex := 37, descriptorIndex := 38, attributes := #[] }] 49 2 #[] #[])
  fields := #[]
  methods := #[k1m0, k1m1]
  instanceTypes := #[]
  staticTypes := #[]
  resolved := Array.replicate 46 none
  statics := none }

def pool2 : Array CpInfo := pool [(1, .class_ 2), (0, u "java/lang/constant/Constable"), (0, .class_ 4), (0, u "java/lang/Object")] 6

/-- java/lang/constant/Constable -/
def k2 : Class := { plain "java/lang/constant/Constable" (some 0) with
  accessFlags := 1537
  interfaces := #[]
  cf := some (fileOf pool2 1 #[] #[] 1537 3 #[] #[])
  fields := #[]
  methods := #[]
  instanceTypes := #[]
  staticTypes := #[]
  resolved := Array.replicate 11 none
  statics := none }

def pool3 : Array CpInfo := pool [(1, .class_ 2), (0, u "java/lang/Comparable"), (0, .class_ 4), (0, u "java/lang/Object")] 7

/-- java/lang/Comparable -/
def k3 : Class := { plain "java/lang/Comparable" (some 0) with
  accessFlags := 1537
  interfaces := #[]
  cf := some (fileOf pool3 1 #[] #[] 1537 3 #[] #[])
  fields := #[]
  methods := #[]
  instanceTypes := #[]
  staticTypes := #[]
  resolved := Array.replicate 12 none
  statics := none }

def pool4 : Array CpInfo := pool [(1, .class_ 2), (0, u "java/io/Serializable"), (0, .class_ 4), (0, u "java/lang/Object")] 2

/-- java/io/Serializable -/
def k4 : Class := { plain "java/io/Serializable" (some 0) with
  accessFlags := 1537
  interfaces := #[]
  cf := some (fileOf pool4 1 #[] #[] 1537 3 #[] #[])
  fields := #[]
  methods := #[]
  instanceTypes := #[]
  staticTypes := #[]
  resolved := Array.replicate 7 none
  statics := none }

def pool5 : Array CpInfo := pool [(2, .class_ 4), (1, u "java/lang/Enum"), (0, u "name"), (0, u "Ljava/lang/String;"), (2, u "ordinal"), (0, u "I"), (1, .class_ 14), (1, u "java/lang/Object"), (4, u "hash"), (86, .class_ 108), (1, u "java/lang/Enum$EnumDesc"), (2, .class_ 112), (0, u "java/lang/constant/Constable"), (0, .class_ 114), (0, u "java/lang/Comparable"), (0, .class_ 116), (0, u "java/io/Serializable")] 87

/-- java/lang/Enum -/
def k5 : Class := { plain "java/lang/Enum" (some 0) with
  accessFlags := 1057
  interfaces := #[2, 3, 4]
  cf := some (fileOf pool5 2 #[.nestMembers #[106]] #[] 1057 12 #[111, 113, 115] #[{ accessFlags := 18, nameIndex := 5, descriptorIndex := 6, attributes := #[] }, { accessFlags := 18, nameIndex := 9, descriptorIndex := 10, attributes := #[] }, { accessFlags := 2, nameIndex := 19, descriptorIndex := 10, attributes := #[] }])
  fields := #[{ name := "name", type := (.object "java/lang/String"), accessFlags := 18, slot := 0, constantValue := 0 }, { name := "ordinal", type := .int, accessFlags := 18, slot := 1, constantValue := 0 }, { name := "hash", type := .int, accessFlags := 2, slot := 2, constantValue := 0 }]
  methods := #[]
  instanceTypes := #[(.object "java/lang/String"), .int, .int]
  staticTypes := #[]
  resolved := Array.replicate 204 none
  statics := none }

def pool6 : Array CpInfo := pool [(1, .class_ 2), (0, u "com/example/randomized_protocol_models/randomizedprotocolmodels/lang/Property$FilterOperator"), (2, u "MAX"), (0, u "Lcom/example/randomized_protocol_models/randomizedprotocolmodels/lang/Property$FilterOperator;"), (2, u "MIN"), (2, u "AVG"), (2, u "SUM"), (0, .fieldref 1 17), (0, .nameAndType 18 6), (0, u "FORALL"), (0, .fieldref 1 20), (0, .nameAndType 21 6), (0, u "EXISTS"), (2, u "$VALUES"), (0, u "[Lcom/example/randomized_protocol_models/randomizedprotocolmodels/lang/Property$FilterOperator;"), (6, .class_ 34), (1, u "java/lang/Enum"), (41, u "combinesTruths"), (0, u "()Z"), (6, .class_ 85), (0, u "com/example/randomized_protocol_models/randomizedprotocolmodels/lang/Property")] 2

def k6c0 : Code := { maxStack := 2, maxLocals := 1, code := prog_50_method_5_code, exceptionTable := #[], attributes := #[] }
def k6m0 : Method := { name := "combinesTruths", desc := "()Z", sig := { parameters := [], returnType := some .boolean }, accessFlags := 1, code := some k6c0 }
/-- com/example/randomized_protocol_models/randomizedprotocolmodels/lang/Property$FilterOperator -/
def k6 : Class := { plain "com/example/randomized_protocol_models/randomizedprotocolmodels/lang/Property$FilterOperator" (some 5) with
  accessFlags := 16433
  interfaces := #[]
  cf := some (fileOf pool6 1 #[.nestHost 84] #[{ accessFlags := 1, nameIndex := 76, descriptorIndex := 77, attributes := #[] }] 16433 32 #[] #[{ accessFlags := 16409, nameIndex := 5, descriptorIndex := 6, attributes := #[] }, { accessFlags := 16409, nameIndex := 9, descriptorIndex := 6, attributes := #[] }, { accessFlags := 16409, nameIndex := 12, descriptorIndex := 6, attributes := #[] }, { accessFlags := 16409, nameIndex := 15, descriptorIndex := 6, attributes := #[] }, { accessFlags := 16409, nameIndex := 18, descriptorIndex := 6, attributes := #[] }, { accessFlags := 16409, nameIndex := 21, descriptorIndex := 6, attributes := #[] }, { accessFlags := 4122, nameIndex := 24, descriptorIndex := 25, attributes := #[] }])
  fields := #[{ name := "MAX", type := (.object "com/example/randomized_protocol_models/randomizedprotocolmodels/lang/Property$FilterOperator"), accessFlags := 16409, slot := 0, constantValue := 0 }, { name := "MIN", type := (.object "com/example/randomized_protocol_models/randomizedprotocolmodels/lang/Property$FilterOperator"), accessFlags := 16409, slot := 1, constantValue := 0 }, { name := "AVG", type := (.object "com/example/randomized_protocol_models/randomizedprotocolmodels/lang/Property$FilterOperator"), accessFlags := 16409, slot := 2, constantValue := 0 }, { name := "SUM", type := (.object "com/example/randomized_protocol_models/randomizedprotocolmodels/lang/Property$FilterOperator"), accessFlags := 16409, slot := 3, constantValue := 0 }, { name := "FORALL", type := (.object "com/example/randomized_protocol_models/randomizedprotocolmodels/lang/Property$FilterOperator"), accessFlags := 16409, slot := 4, constantValue := 0 }, { name := "EXISTS", type := (.object "com/example/randomized_protocol_models/randomizedprotocolmodels/lang/Property$FilterOperator"), accessFlags := 16409, slot := 5, constantValue := 0 }, { name := "$VALUES", type := (.array (.object "com/example/randomized_protocol_models/randomizedprotocolmodels/lang/Property$FilterOperator")), accessFlags := 4122, slot := 6, constantValue := 0 }]
  methods := #[k6m0]
  instanceTypes := #[(.object "java/lang/String"), .int, .int]
  staticTypes := #[(.object "com/example/randomized_protocol_models/randomizedprotocolmodels/lang/Property$FilterOperator"), (.object "com/example/randomized_protocol_models/randomizedprotocolmodels/lang/Property$FilterOperator"), (.object "com/example/randomized_protocol_models/randomizedprotocolmodels/lang/Property$FilterOperator"), (.object "com/example/randomized_protocol_models/randomizedprotocolmodels/lang/Property$FilterOperator"), (.object "com/example/randomized_protocol_models/randomizedprotocolmodels/lang/Property$FilterOperator"), (.object "com/example/randomized_protocol_models/randomizedprotocolmodels/lang/Property$FilterOperator"), (.array (.object "com/example/randomized_protocol_models/randomizedprotocolmodels/lang/Property$FilterOperator"))]
  resolved := Array.replicate 88 none
  statics := some 0 }

def pool7 : Array CpInfo := pool [(1, u "java/lang/Cloneable"), (0, .class_ 1), (0, u "java/lang/Object"), (0, .class_ 3)] 3

/-- java/lang/Cloneable -/
def k7 : Class := { plain "java/lang/Cloneable" (some 0) with
  accessFlags := 1537
  interfaces := #[]
  cf := some (fileOf pool7 2 #[] #[] 1537 4 #[] #[])
  fields := #[]
  methods := #[]
  instanceTypes := #[]
  staticTypes := #[]
  resolved := Array.replicate 8 none
  statics := none }

/-- the primitive byte -/
def k8 : Class := { plain "byte" none with kind := .primitive 'B', accessFlags := 0x411 }
/-- [B -/
def k9 : Class := { plain "[B" (some 0) with kind := .array 8 .byte, interfaces := #[7, 4], accessFlags := 1041 }

/-- the primitive int -/
def k10 : Class := { plain "int" none with kind := .primitive 'I', accessFlags := 0x411 }
/-- [I -/
def k11 : Class := { plain "[I" (some 0) with kind := .array 10 .int, interfaces := #[7, 4], accessFlags := 1041 }

def heap : Heap := #[{ cls := 6, slots := #[.ref 1, .ref 6, .ref 5, .ref 4, .ref 2, .ref 3, .null], vm := .statics 6 },
  { cls := 6, slots := #[.null, .int 0, .int 0], vm := .none },
  { cls := 6, slots := #[.null, .int 4, .int 0], vm := .none },
  { cls := 6, slots := #[.null, .int 5, .int 0], vm := .none },
  { cls := 6, slots := #[.null, .int 3, .int 0], vm := .none },
  { cls := 6, slots := #[.null, .int 2, .int 0], vm := .none },
  { cls := 6, slots := #[.null, .int 1, .int 0], vm := .none }]
def classes : Array Class := #[k0, k1, k2, k3, k4, k5, k6, k7, k8, k9, k10, k11]
def interned : List (Array UInt16 × Addr) := []
def slotsUsed : Nat := 25
def theMethod : MethodId := ⟨1, 1⟩
def args0 : Array Value := #[.int 5]
def aboutOver (below : List Frame) : State where
  vm := { classes := classes, interned := interned.toArray }
  heap := heap
  slotsUsed := slotsUsed
  threads := #[{ frames := .invoking theMethod args0 :: below }]
def below0 : List Frame := [.native { method := ⟨0, 0⟩, args := #[] }]
def about1 : State := aboutOver below0
def p0 : Program := .bare "" "" ""
def e0 : Env := launch0.env 0 0 0
theorem w_frames : about1.frames = Frame.invoking theMethod args0 :: below0 := rfl
set_option maxRecDepth 65536 in
theorem w_args : argsFit about1.vm theMethod args0 = true := by decide +kernel
set_option maxRecDepth 65536 in
theorem w_heap : heapFits about1 = true := by decide +kernel
set_option maxRecDepth 65536 in
theorem w_runnable : about1.curStatus? = some .runnable := by decide +kernel
set_option maxRecDepth 65536 in
theorem w_alone : about1.alone = true := by decide +kernel
set_option maxRecDepth 65536 in
theorem w_named : about1.methodNamed? x = some theMethod := by decide +kernel
set_option maxRecDepth 65536 in
theorem w_hears : about1.hears theMethod below0 = true := by decide +kernel
set_option maxRecDepth 65536 in
theorem w_ripe : about1.ripe theMethod args0 below0 = true := by decide +kernel
theorem w_running : about1.status = .running := rfl
set_option maxRecDepth 65536 in
theorem w_room : about1.hasRoom e0.platform room_1 = true :=
  launch0.hasRoom_least _ room_1 (by decide +kernel) (by decide +kernel) (by decide +kernel) (by decide +kernel) (by decide +kernel) (by decide +kernel)
theorem allAtoms_all (ts : List Jvm.Cond) (a : Array Jvm.Value) (st : Jvm.State) : (allAtoms ts).before a st = ts.all (fun c => c.before a st) := by
  induction ts with
  | nil => rfl
  | cons c t ih =>
    show (Jvm.Cond.and c (allAtoms t)).before a st = _
    rw [Jvm.Cond.before_and, ih, List.all_cons]
def words1 : List Jvm.Cond := Jvm.Cond.code x code maxLocals ret :: tables_1
/-- a 'code' word, met by the world's own term for the bytes: nothing is compared byte by byte -/
theorem code_word {y : MethodName} {bytes : ByteArray} {mx : Nat} {rt : Option FieldType} {a : Array Value} {s : State} {m : MethodId} {meth : Method} {c : Code} (h1 : s.methodNamed? y = some m) (h2 : s.vm.method? m = some meth) (h3 : meth.code = some c) (h4 : c.code = bytes)
    (h5 : (c.maxLocals == mx && c.exceptionTable.isEmpty && decide (c.maxStack ≤ mostOperands) && decide (meth.sig.returnType = rt) && !meth.locks && decide (parseMethodDescriptor y.desc = some meth.sig)) = true) : (Jvm.Cond.code y bytes mx rt).before a s = true := by
  simp only [Bool.and_eq_true, beq_iff_eq, Bool.not_eq_true', decide_eq_true_eq] at h5
  obtain ⟨⟨⟨⟨⟨g1, g2⟩, g3⟩, g4⟩, g5⟩, g6⟩ := h5
  simp [Cond.before, Cond.holds, Cond.value, h1, h2, h3, h4, g1, g2, g3, g4, g5, g6]
def isCode : Jvm.Cond → Bool
  | .code _ _ _ _ => true
  | _ => false
theorem all_split {L : List Jvm.Cond} {P : Jvm.Cond → Bool} (h1 : L.all (fun c => isCode c || P c) = true) (h2 : ∀ c ∈ L.filter isCode, P c = true) : L.all P = true := by
  refine List.all_eq_true.mpr fun c hc => ?_
  have h := List.all_eq_true.mp h1 c hc
  rcases Bool.eq_false_or_eq_true (isCode c) with hi | hi
  · exact h2 c (List.mem_filter.mpr ⟨hc, hi⟩)
  · simpa [hi] using h
set_option maxRecDepth 65536 in
theorem w_c0 : (Jvm.Cond.code x code maxLocals ret).before args0 about1 = true := code_word (m := ⟨1, 1⟩) (meth := k1m1) (c := k1c1) (by decide +kernel) rfl rfl rfl (by decide +kernel)
set_option maxRecDepth 65536 in
theorem w_c1 : (Jvm.Cond.code ({ cls := "com/example/randomized_protocol_models/randomizedprotocolmodels/lang/Property$FilterOperator", name := "combinesTruths", desc := "()Z" } : Jvm.MethodName) prog_50_method_5_code (1 : Nat) (Option.some Jvm.ClassFile.FieldType.boolean)).before args0 about1 = true := code_word (m := ⟨6, 0⟩) (meth := k6m0) (c := k6c0) (by decide +kernel) rfl rfl rfl (by decide +kernel)
def codes1 : List Jvm.Cond := [Jvm.Cond.code x code maxLocals ret, Jvm.Cond.code ({ cls := "com/example/randomized_protocol_models/randomizedprotocolmodels/lang/Property$FilterOperator", name := "combinesTruths", desc := "()Z" } : Jvm.MethodName) prog_50_method_5_code (1 : Nat) (Option.some Jvm.ClassFile.FieldType.boolean)]
set_option maxRecDepth 65536 in
theorem codes_eq : words1.filter isCode = codes1 := rfl
theorem w_codes : ∀ c ∈ words1.filter isCode, c.before args0 about1 = true := by
  rw [codes_eq]
  intro c hc
  simp only [codes1, List.mem_cons, List.not_mem_nil, or_false] at hc
  rcases hc with rfl | rfl
  · exact w_c0
  · exact w_c1
set_option maxRecDepth 65536 in
theorem w_t1 : words1.all (fun c => isCode c || c.before args0 about1) = true := by decide +kernel
theorem w_tables : (allAtoms (Jvm.Cond.code x code maxLocals ret :: tables_1)).before args0 about1 = true := by
  rw [allAtoms_all]
  show words1.all (fun c => c.before args0 about1) = true
  refine all_split ?_ w_codes
  rw [w_t1]
set_option maxRecDepth 65536 in
theorem w_case : (Jvm.Cond.and given_1 narrow_1).before args0 about1 = true := by decide +kernel
theorem w_applies : (headSpec (Jvm.Cond.code x code maxLocals ret :: tables_1) room_1).applies x e0.platform about1 = true :=
  (Spec.applies_iff w_frames).mpr ⟨w_running, w_runnable, w_alone, w_named, w_hears, w_ripe, w_room, w_tables⟩
theorem atStart : AtStart classFile x code maxLocals ret World_1 tables_1 room_1 Calls_1 rest_1 Pre_1 launch0 p0 e0 about1 theMethod args0 below0 :=
  ⟨lists_1, trivial, launch0.admits_env _ _ _, launch0.least_env, fairChoices_fair.cas, fairChoices_fair.clock, w_frames, w_args, w_heap, w_applies, trivial, trivial, w_case⟩
end start1
theorem witness_1 : WitnessClaimed_1 := ⟨start1.p0, start1.e0, start1.about1, start1.theMethod, start1.args0, start1.below0, start1.atStart⟩
end Jvm.Pilot.@@N@@

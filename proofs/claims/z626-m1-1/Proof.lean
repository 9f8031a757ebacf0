import JvmDerived
import JvmDerived.Pilot.@@N@@Statement
import JvmDerived.Pilot.@@N@@Code
set_option linter.unusedVariables false
set_option linter.unusedSimpArgs false
namespace Jvm.RoadKit
open Sem ClassFile Op Lib Jvm.Stand Jvm.Free Jvm.LawKit
section New
variable {p : Program} {l : Launch} {e : Env} {R : Room} {s : State} {m : MethodId} {args : Array Value} {below : List Frame} {meth : Method} {c : Code} {T : State} {locs : List Loc} {cells slots : Nat}
theorem retI (X : Stand p l e R s m args below meth c T locs cells slots) (hx : p.tables.exec = Jvm.exec) {pc : Nat} {Ls : Array Slot} {z : Int32} {rest : List Value} (hret : meth.sig.returnType = some .int) (hd : decode c.code pc = .ok (.ireturn, 1)) {fs : List Frame}
    (hl : ∀ (f : JFrame) (acts : List Action), f.method = m → f.locked = none → f.entered = [] → (doReturn e (T.setTop f) acts (some (.int z))).1 = T.setFrames fs) : Steps p.tables e below (T.setTop (mkF m pc Ls (.int z :: rest))) (T.setFrames fs) := by
  have hm' : T.vm.method? m = some meth := X.method'
  have hn : narrow .int (.int z) = .int z := rfl
  show Steps p.tables e below (T.setTop { method := m, pc := pc, locals := Ls, stack := _ :: rest, locked := none }) _
  jvm_step X.here [X.here.top, hx, hd, hm', hret, hn]
  first | (intro acts; rw [hl _ acts rfl rfl rfl]) | rw [hl _ _ rfl rfl rfl]
  exact Steps.refl _
end New
end Jvm.RoadKit
namespace Jvm.Pilot.@@N@@
open Jvm Jvm.ClassFile Sem Op Lib Jvm.Free Jvm.Stand Jvm.LawKit Jvm.RoadKit Bundle Jvm.Pilot.@@N@@.Jvm.D
theorem own_sta_keep {Z : State} {h h' : Heap} {C n d : String} {v : Value} (F : Sta Z h C n d v) (K : Keep h h' []) : Sta Z h' C n d v := by
  obtain ⟨cf, i, k, f, st, cell, h1, h2, h3, h4, h5, r⟩ := F
  exact ⟨cf, i, k, f, st, cell, h1, h2, h3, h4, K.2.1 _ _ h5 nin0, r⟩
/-- whoever comes from B to t comes from A to t -/
abbrev own_R (p : Program) (e : Env) (below : List Frame) (A B : State) : Prop := ∀ t, Steps p.tables e below B t → Steps p.tables e below A t

section OwnWords
variable {args : Array Value} {s : State} {t : Term}
theorem own_eqi {k : Int32} (h : (Jvm.Cond.eq t (.int k)).value args s none s [] = some true) : t.eval args s none [] s = some (.int k) := by
  simp only [Cond.value, Term.eval] at h
  cases ht : t.eval args s none [] s with
  | none => simp [ht] at h
  | some x => cases x <;> simp [ht] at h ⊢ <;> exact h
theorem own_eql {k : Int64} (h : (Jvm.Cond.eq t (.long k)).value args s none s [] = some true) : t.eval args s none [] s = some (.long k) := by
  simp only [Cond.value, Term.eval] at h
  cases ht : t.eval args s none [] s with
  | none => simp [ht] at h
  | some x => cases x <;> simp [ht] at h ⊢ <;> exact h
theorem own_eqr {u : Term} {x : Addr} (h : (Jvm.Cond.eq t u).value args s none s [] = some true) (hu : u.eval args s none [] s = some (.ref x)) : t.eval args s none [] s = some (.ref x) := by
  simp only [Cond.value, hu] at h
  cases ht : t.eval args s none [] s with
  | none => simp [ht] at h
  | some y => cases y <;> simp [ht] at h ⊢ <;> exact h
theorem own_len {x : Addr} {cl : Cell} {ty : FieldType} {k : Int32} (h : (Jvm.Cond.eq (.length t) (.int k)).value args s none s [] = some true) (ev : t.eval args s none [] s = some (.ref x)) (A : Arr s s.heap x cl ty) : cl.slots.size < 2 ^ 31 ∧ cl.slots.size.toInt32 = k := by
  have h1 := own_eqi h
  have h2 := A.fin (Vm.Alike.refl _)
  simp only [Term.eval, ev, Option.bind_eq_bind, Option.bind_some, h2] at h1
  split at h1
  · rename_i q; exact ⟨q, by simpa using h1⟩
  · cases h1
theorem own_elem {x : Addr} {cl : Cell} {ty : FieldType} {j : Int32} {v : Value} (h : (Term.elem t (.int j)).eval args s none [] s = some v) (ev : t.eval args s none [] s = some (.ref x)) (A : Arr s s.heap x cl ty) : cl.slots[j.toNatClampNeg]? = some v :=
  (elem_in h ev (Term.int_eval j) A.1).2
end OwnWords
def own_pick (p0 : Int32) (u0 u1 u2 u3 u4 u5 : Addr) : Addr := if p0 = (0 : Int32) then u0 else if p0 = (1 : Int32) then u1 else if p0 = (2 : Int32) then u2 else if p0 = (3 : Int32) then u3 else if p0 = (4 : Int32) then u4 else u5
theorem d1_0 : decode method_2_code 0 = .ok (.iload_n 0, 1) := by decide +kernel
theorem d1_1 : decode method_2_code 1 = .ok (.ifCond .ne 7, 3) := by decide +kernel
theorem d1_4 : decode method_2_code 4 = .ok (.getstatic 7, 3) := by decide +kernel
theorem d1_7 : decode method_2_code 7 = .ok (.areturn, 1) := by decide +kernel
theorem d1_8 : decode method_2_code 8 = .ok (.iload_n 0, 1) := by decide +kernel
theorem d1_9 : decode method_2_code 9 = .ok (.iconst 1, 1) := by decide +kernel
theorem d1_10 : decode method_2_code 10 = .ok (.if_icmp .ne 7, 3) := by decide +kernel
theorem d1_13 : decode method_2_code 13 = .ok (.getstatic 13, 3) := by decide +kernel
theorem d1_16 : decode method_2_code 16 = .ok (.areturn, 1) := by decide +kernel
theorem d1_17 : decode method_2_code 17 = .ok (.iload_n 0, 1) := by decide +kernel
theorem d1_18 : decode method_2_code 18 = .ok (.iconst 2, 1) := by decide +kernel
theorem d1_19 : decode method_2_code 19 = .ok (.if_icmp .ne 7, 3) := by decide +kernel
theorem d1_22 : decode method_2_code 22 = .ok (.getstatic 16, 3) := by decide +kernel
theorem d1_25 : decode method_2_code 25 = .ok (.areturn, 1) := by decide +kernel
theorem d1_26 : decode method_2_code 26 = .ok (.iload_n 0, 1) := by decide +kernel
theorem d1_27 : decode method_2_code 27 = .ok (.iconst 3, 1) := by decide +kernel
theorem d1_28 : decode method_2_code 28 = .ok (.if_icmp .ne 7, 3) := by decide +kernel
theorem d1_31 : decode method_2_code 31 = .ok (.getstatic 19, 3) := by decide +kernel
theorem d1_34 : decode method_2_code 34 = .ok (.areturn, 1) := by decide +kernel
theorem d1_35 : decode method_2_code 35 = .ok (.iload_n 0, 1) := by decide +kernel
theorem d1_36 : decode method_2_code 36 = .ok (.iconst 4, 1) := by decide +kernel
theorem d1_37 : decode method_2_code 37 = .ok (.if_icmp .ne 7, 3) := by decide +kernel
theorem d1_40 : decode method_2_code 40 = .ok (.getstatic 22, 3) := by decide +kernel
theorem d1_43 : decode method_2_code 43 = .ok (.areturn, 1) := by decide +kernel
theorem d1_44 : decode method_2_code 44 = .ok (.getstatic 25, 3) := by decide +kernel
theorem d1_47 : decode method_2_code 47 = .ok (.areturn, 1) := by decide +kernel
theorem pn_1 : plainName "com/example/nodeward/nodeward/model/ExtendedDecisionDiffersFromPinLaw" = true := by first | (simp [plainName, overriddenIn]; done) | decide +kernel
theorem ef_1 (m : MethodId) (x0 : Int32) : entryFrame m #[(.int x0)] 1 = mkF m 0 #[.val (.int x0)] [] := by first | (simp [entryFrame, mkF, argsToLocals, Value.category]; done) | rfl
def Q1 (Z : State) (p0 : Int32) (u0 : Addr) (u1 : Addr) (u2 : Addr) (u3 : Addr) (u4 : Addr) (u5 : Addr) (h0 : Heap) (n0 : Nat) (v : Option Value) (h : Heap) (L : List Loc) : Prop := v = some (.ref (own_pick p0 u0 u1 u2 u3 u4 u5)) ∧ Fr n0 L ∧ h = h0
set_option maxRecDepth 65536 in
set_option maxHeartbeats 40000000 in
theorem rm1 (l : Launch) (Z : State) (a0 : Array Value) (hw : ∀ d ∈ tables_1, d.before a0 Z = true) (ws : List Jvm.Cond) (p0 : Int32) (u0 : Addr) (u1 : Addr) (u2 : Addr) (u3 : Addr) (u4 : Addr) (u5 : Addr) (h0 : Heap) (n0 : Nat) (Z0 : n0 ≤ h0.size) (S0 : Sta Z h0 "com/example/nodeward/nodeward/model/ExtendedDecision" "PERMIT" "Lcom/example/nodeward/nodeward/model/ExtendedDecision;" (.ref u0)) (S1 : Sta Z h0 "com/example/nodeward/nodeward/model/ExtendedDecision" "DENY" "Lcom/example/nodeward/nodeward/model/ExtendedDecision;" (.ref u1)) (S2 : Sta Z h0 "com/example/nodeward/nodeward/model/ExtendedDecision" "NOT_APPLICABLE" "Lcom/example/nodeward/nodeward/model/ExtendedDecision;" (.ref u2)) (S3 : Sta Z h0 "com/example/nodeward/nodeward/model/ExtendedDecision" "INDETERMINATE_D" "Lcom/example/nodeward/nodeward/model/ExtendedDecision;" (.ref u3)) (S4 : Sta Z h0 "com/example/nodeward/nodeward/model/ExtendedDecision" "INDETERMINATE_P" "Lcom/example/nodeward/nodeward/model/ExtendedDecision;" (.ref u4)) (S5 : Sta Z h0 "com/example/nodeward/nodeward/model/ExtendedDecision" "INDETERMINATE_DP" "Lcom/example/nodeward/nodeward/model/ExtendedDecision;" (.ref u5)) :
    MetFree l (⟨"com/example/nodeward/nodeward/model/ExtendedDecisionDiffersFromPinLaw", "pick", "(I)Lcom/example/nodeward/nodeward/model/ExtendedDecision;"⟩ : MethodName) (head1 (Jvm.Cond.code (⟨"com/example/nodeward/nodeward/model/ExtendedDecisionDiffersFromPinLaw", "pick", "(I)Lcom/example/nodeward/nodeward/model/ExtendedDecision;"⟩ : MethodName) method_2_code 1 (some (.object "com/example/nodeward/nodeward/model/ExtendedDecision")) :: ws) ({ frames := 0, cells := 0, slots := 0, locals := 0 } : Room)) (fun a U => a = #[(.int p0)] ∧ Z.Warmed39 U.vm ∧ U.heap = h0) (fun _ _ _ _ _ => True) (fun _ U o U' => ∃ v L, o = .returned v ∧ Q1 Z p0 u0 u1 u2 u3 u4 u5 h0 n0 v U'.heap L ∧ FrameEnd U o U' L ({ frames := 0, cells := 0, slots := 0, locals := 0 } : Room).cells ({ frames := 0, cells := 0, slots := 0, locals := 0 } : Room).slots) := by
  refine MetFree.of_bodySF (plainFor_of_name pn_1) hisR ?_
  intro p e s m args below meth c s₁ Bd hml0 hP hK
  obtain ⟨rfl, hZ, hh⟩ := hP
  have hx := Bd.exec
  have hby := Bd.bytes
  have hml : c.maxLocals = 1 := hml0
  have hown : s.vm.findClass "com/example/nodeward/nodeward/model/ExtendedDecisionDiffersFromPinLaw" = some m.cls := findClass_of_methodNamed Bd.named
  have hnm := (name_of_methodNamed Bd.named Bd.method).1
  have X0 : Stand p l e ({ frames := 0, cells := 0, slots := 0, locals := 0 } : Room) s m #[(.int p0)] below meth c s₁ [] 0 0 := Stand.of_body Bd
  have e0 : s₁.heap = h0 := by rw [← hh, Bd.state]; rfl
  have N0 := Fr.nil n0
  have k0 : own_R p e below (s₁.setTop (entryFrame m #[(.int p0)] 1)) (s₁.setTop (mkF m 0 #[.val (.int p0)] [])) := fun t k => castTop (ef_1 m p0) k
  have ks1 : own_R p e below (s₁.setTop (entryFrame m #[(.int p0)] 1)) (s₁.setTop (mkF m 1 #[.val (.int p0)] [(.int p0)])) := fun t k => k0 t (by
    show Steps p.tables e below (s₁.setTop (mkF m 0 #[.val (.int p0)] [])) _
    refine XS.iloadN X0.here hx rfl (hb hby d1_0) rfl ?_
    exact k)
  by_cases hc2 : p0 = (0 : Int32)
  · skip
    have ks3 : own_R p e below (s₁.setTop (entryFrame m #[(.int p0)] 1)) (s₁.setTop (mkF m 4 #[.val (.int p0)] [])) := fun t k => ks1 t (by
      show Steps p.tables e below (s₁.setTop (mkF m 1 #[.val (.int p0)] [(.int p0)])) _
      refine XS.ifNo X0.here hx rfl (hb hby d1_1) rfl ((if0 _ _).trans (teq hc2).2) ?_
      exact k)
    obtain ⟨T4, X4, e4, st4⟩ := getS2 X0 hx hZ hown (host := "") (Or.inl (hw _ (List.mem_of_getElem? (i := 5) rfl))) Via.refl e0 S0 (g := (mkF m 4 #[.val (.int p0)] [])) rfl (hb hby d1_4)
    have ks5 : own_R p e below (s₁.setTop (entryFrame m #[(.int p0)] 1)) (T4.setTop (mkF m 7 #[.val (.int p0)] [(.ref u0)])) := fun t k => ks3 t (st4 t k)
    obtain ⟨fs, hr, hrun, hended, hW, hsame⟩ := X4.leave (v := some (.ref u0)) (fun h => by rw [Bd.returns] at h; cases h)
    refine ⟨_, _, ks5 _ ?_, hrun, hended, _, _, rfl, ?_, ⟨_, rfl⟩, hW, hsame.mono (by decide) (by decide)⟩
    · exact retOut X4 hx Bd.returns rfl (Or.inr (Or.inr (Or.inr (Or.inr ⟨rfl, rfl, rfl⟩)))) (hb hby d1_7) hr
    · show Q1 Z p0 u0 u1 u2 u3 u4 u5 h0 n0 _ T4.heap _
      rw [e4]
      refine ⟨?_, N0, rfl⟩
      rw [own_pick, if_pos hc2]
  · skip
    have ks6 : own_R p e below (s₁.setTop (entryFrame m #[(.int p0)] 1)) (s₁.setTop (mkF m 10 #[.val (.int p0)] [(.int (1 : Int32)), (.int p0)])) := fun t k => ks1 t (by
      show Steps p.tables e below (s₁.setTop (mkF m 1 #[.val (.int p0)] [(.int p0)])) _
      refine XS.ifYes X0.here hx rfl (pc0 := 1) (pc' := 8) rfl (hb hby d1_1) rfl ((if0 _ _).trans (feq hc2).2) (by decide) (by decide) ?_
      show Steps p.tables e below (s₁.setTop (mkF m 8 #[.val (.int p0)] [])) _
      refine XS.iloadN X0.here hx rfl (hb hby d1_8) rfl ?_
      show Steps p.tables e below (s₁.setTop (mkF m 9 #[.val (.int p0)] [(.int p0)])) _
      refine XS.iconst X0.here hx rfl (hb hby d1_9) ?_
      exact k)
    by_cases hc7 : p0 = (1 : Int32)
    · skip
      have ks8 : own_R p e below (s₁.setTop (entryFrame m #[(.int p0)] 1)) (s₁.setTop (mkF m 13 #[.val (.int p0)] [])) := fun t k => ks6 t (by
        show Steps p.tables e below (s₁.setTop (mkF m 10 #[.val (.int p0)] [(.int (1 : Int32)), (.int p0)])) _
        refine XS.icmpNo X0.here hx rfl (hb hby d1_10) rfl (teq hc7).2 ?_
        exact k)
      obtain ⟨T9, X9, e9, st9⟩ := getS2 X0 hx hZ hown (host := "") (Or.inl (hw _ (List.mem_of_getElem? (i := 23) rfl))) Via.refl e0 S1 (g := (mkF m 13 #[.val (.int p0)] [])) rfl (hb hby d1_13)
      have ks10 : own_R p e below (s₁.setTop (entryFrame m #[(.int p0)] 1)) (T9.setTop (mkF m 16 #[.val (.int p0)] [(.ref u1)])) := fun t k => ks8 t (st9 t k)
      obtain ⟨fs, hr, hrun, hended, hW, hsame⟩ := X9.leave (v := some (.ref u1)) (fun h => by rw [Bd.returns] at h; cases h)
      refine ⟨_, _, ks10 _ ?_, hrun, hended, _, _, rfl, ?_, ⟨_, rfl⟩, hW, hsame.mono (by decide) (by decide)⟩
      · exact retOut X9 hx Bd.returns rfl (Or.inr (Or.inr (Or.inr (Or.inr ⟨rfl, rfl, rfl⟩)))) (hb hby d1_16) hr
      · show Q1 Z p0 u0 u1 u2 u3 u4 u5 h0 n0 _ T9.heap _
        rw [e9]
        refine ⟨?_, N0, rfl⟩
        rw [own_pick, if_neg hc2, if_pos hc7]
    · skip
      have ks11 : own_R p e below (s₁.setTop (entryFrame m #[(.int p0)] 1)) (s₁.setTop (mkF m 19 #[.val (.int p0)] [(.int (2 : Int32)), (.int p0)])) := fun t k => ks6 t (by
        show Steps p.tables e below (s₁.setTop (mkF m 10 #[.val (.int p0)] [(.int (1 : Int32)), (.int p0)])) _
        refine XS.icmpYes X0.here hx rfl (pc0 := 10) (pc' := 17) rfl (hb hby d1_10) rfl (feq hc7).2 (by decide) (by decide) ?_
        show Steps p.tables e below (s₁.setTop (mkF m 17 #[.val (.int p0)] [])) _
        refine XS.iloadN X0.here hx rfl (hb hby d1_17) rfl ?_
        show Steps p.tables e below (s₁.setTop (mkF m 18 #[.val (.int p0)] [(.int p0)])) _
        refine XS.iconst X0.here hx rfl (hb hby d1_18) ?_
        exact k)
      by_cases hc12 : p0 = (2 : Int32)
      · skip
        have ks13 : own_R p e below (s₁.setTop (entryFrame m #[(.int p0)] 1)) (s₁.setTop (mkF m 22 #[.val (.int p0)] [])) := fun t k => ks11 t (by
          show Steps p.tables e below (s₁.setTop (mkF m 19 #[.val (.int p0)] [(.int (2 : Int32)), (.int p0)])) _
          refine XS.icmpNo X0.here hx rfl (hb hby d1_19) rfl (teq hc12).2 ?_
          exact k)
        obtain ⟨T14, X14, e14, st14⟩ := getS2 X0 hx hZ hown (host := "") (Or.inl (hw _ (List.mem_of_getElem? (i := 25) rfl))) Via.refl e0 S2 (g := (mkF m 22 #[.val (.int p0)] [])) rfl (hb hby d1_22)
        have ks15 : own_R p e below (s₁.setTop (entryFrame m #[(.int p0)] 1)) (T14.setTop (mkF m 25 #[.val (.int p0)] [(.ref u2)])) := fun t k => ks13 t (st14 t k)
        obtain ⟨fs, hr, hrun, hended, hW, hsame⟩ := X14.leave (v := some (.ref u2)) (fun h => by rw [Bd.returns] at h; cases h)
        refine ⟨_, _, ks15 _ ?_, hrun, hended, _, _, rfl, ?_, ⟨_, rfl⟩, hW, hsame.mono (by decide) (by decide)⟩
        · exact retOut X14 hx Bd.returns rfl (Or.inr (Or.inr (Or.inr (Or.inr ⟨rfl, rfl, rfl⟩)))) (hb hby d1_25) hr
        · show Q1 Z p0 u0 u1 u2 u3 u4 u5 h0 n0 _ T14.heap _
          rw [e14]
          refine ⟨?_, N0, rfl⟩
          rw [own_pick, if_neg hc2, if_neg hc7, if_pos hc12]
      · skip
        have ks16 : own_R p e below (s₁.setTop (entryFrame m #[(.int p0)] 1)) (s₁.setTop (mkF m 28 #[.val (.int p0)] [(.int (3 : Int32)), (.int p0)])) := fun t k => ks11 t (by
          show Steps p.tables e below (s₁.setTop (mkF m 19 #[.val (.int p0)] [(.int (2 : Int32)), (.int p0)])) _
          refine XS.icmpYes X0.here hx rfl (pc0 := 19) (pc' := 26) rfl (hb hby d1_19) rfl (feq hc12).2 (by decide) (by decide) ?_
          show Steps p.tables e below (s₁.setTop (mkF m 26 #[.val (.int p0)] [])) _
          refine XS.iloadN X0.here hx rfl (hb hby d1_26) rfl ?_
          show Steps p.tables e below (s₁.setTop (mkF m 27 #[.val (.int p0)] [(.int p0)])) _
          refine XS.iconst X0.here hx rfl (hb hby d1_27) ?_
          exact k)
        by_cases hc17 : p0 = (3 : Int32)
        · skip
          have ks18 : own_R p e below (s₁.setTop (entryFrame m #[(.int p0)] 1)) (s₁.setTop (mkF m 31 #[.val (.int p0)] [])) := fun t k => ks16 t (by
            show Steps p.tables e below (s₁.setTop (mkF m 28 #[.val (.int p0)] [(.int (3 : Int32)), (.int p0)])) _
            refine XS.icmpNo X0.here hx rfl (hb hby d1_28) rfl (teq hc17).2 ?_
            exact k)
          obtain ⟨T19, X19, e19, st19⟩ := getS2 X0 hx hZ hown (host := "") (Or.inl (hw _ (List.mem_of_getElem? (i := 8) rfl))) Via.refl e0 S3 (g := (mkF m 31 #[.val (.int p0)] [])) rfl (hb hby d1_31)
          have ks20 : own_R p e below (s₁.setTop (entryFrame m #[(.int p0)] 1)) (T19.setTop (mkF m 34 #[.val (.int p0)] [(.ref u3)])) := fun t k => ks18 t (st19 t k)
          obtain ⟨fs, hr, hrun, hended, hW, hsame⟩ := X19.leave (v := some (.ref u3)) (fun h => by rw [Bd.returns] at h; cases h)
          refine ⟨_, _, ks20 _ ?_, hrun, hended, _, _, rfl, ?_, ⟨_, rfl⟩, hW, hsame.mono (by decide) (by decide)⟩
          · exact retOut X19 hx Bd.returns rfl (Or.inr (Or.inr (Or.inr (Or.inr ⟨rfl, rfl, rfl⟩)))) (hb hby d1_34) hr
          · show Q1 Z p0 u0 u1 u2 u3 u4 u5 h0 n0 _ T19.heap _
            rw [e19]
            refine ⟨?_, N0, rfl⟩
            rw [own_pick, if_neg hc2, if_neg hc7, if_neg hc12, if_pos hc17]
        · skip
          have ks21 : own_R p e below (s₁.setTop (entryFrame m #[(.int p0)] 1)) (s₁.setTop (mkF m 37 #[.val (.int p0)] [(.int (4 : Int32)), (.int p0)])) := fun t k => ks16 t (by
            show Steps p.tables e below (s₁.setTop (mkF m 28 #[.val (.int p0)] [(.int (3 : Int32)), (.int p0)])) _
            refine XS.icmpYes X0.here hx rfl (pc0 := 28) (pc' := 35) rfl (hb hby d1_28) rfl (feq hc17).2 (by decide) (by decide) ?_
            show Steps p.tables e below (s₁.setTop (mkF m 35 #[.val (.int p0)] [])) _
            refine XS.iloadN X0.here hx rfl (hb hby d1_35) rfl ?_
            show Steps p.tables e below (s₁.setTop (mkF m 36 #[.val (.int p0)] [(.int p0)])) _
            refine XS.iconst X0.here hx rfl (hb hby d1_36) ?_
            exact k)
          by_cases hc22 : p0 = (4 : Int32)
          · skip
            have ks23 : own_R p e below (s₁.setTop (entryFrame m #[(.int p0)] 1)) (s₁.setTop (mkF m 40 #[.val (.int p0)] [])) := fun t k => ks21 t (by
              show Steps p.tables e below (s₁.setTop (mkF m 37 #[.val (.int p0)] [(.int (4 : Int32)), (.int p0)])) _
              refine XS.icmpNo X0.here hx rfl (hb hby d1_37) rfl (teq hc22).2 ?_
              exact k)
            obtain ⟨T24, X24, e24, st24⟩ := getS2 X0 hx hZ hown (host := "") (Or.inl (hw _ (List.mem_of_getElem? (i := 29) rfl))) Via.refl e0 S4 (g := (mkF m 40 #[.val (.int p0)] [])) rfl (hb hby d1_40)
            have ks25 : own_R p e below (s₁.setTop (entryFrame m #[(.int p0)] 1)) (T24.setTop (mkF m 43 #[.val (.int p0)] [(.ref u4)])) := fun t k => ks23 t (st24 t k)
            obtain ⟨fs, hr, hrun, hended, hW, hsame⟩ := X24.leave (v := some (.ref u4)) (fun h => by rw [Bd.returns] at h; cases h)
            refine ⟨_, _, ks25 _ ?_, hrun, hended, _, _, rfl, ?_, ⟨_, rfl⟩, hW, hsame.mono (by decide) (by decide)⟩
            · exact retOut X24 hx Bd.returns rfl (Or.inr (Or.inr (Or.inr (Or.inr ⟨rfl, rfl, rfl⟩)))) (hb hby d1_43) hr
            · show Q1 Z p0 u0 u1 u2 u3 u4 u5 h0 n0 _ T24.heap _
              rw [e24]
              refine ⟨?_, N0, rfl⟩
              rw [own_pick, if_neg hc2, if_neg hc7, if_neg hc12, if_neg hc17, if_pos hc22]
          · skip
            have ks26 : own_R p e below (s₁.setTop (entryFrame m #[(.int p0)] 1)) (s₁.setTop (mkF m 44 #[.val (.int p0)] [])) := fun t k => ks21 t (by
              show Steps p.tables e below (s₁.setTop (mkF m 37 #[.val (.int p0)] [(.int (4 : Int32)), (.int p0)])) _
              refine XS.icmpYes X0.here hx rfl (pc0 := 37) (pc' := 44) rfl (hb hby d1_37) rfl (feq hc22).2 (by decide) (by decide) ?_
              exact k)
            obtain ⟨T27, X27, e27, st27⟩ := getS2 X0 hx hZ hown (host := "") (Or.inl (hw _ (List.mem_of_getElem? (i := 27) rfl))) Via.refl e0 S5 (g := (mkF m 44 #[.val (.int p0)] [])) rfl (hb hby d1_44)
            have ks28 : own_R p e below (s₁.setTop (entryFrame m #[(.int p0)] 1)) (T27.setTop (mkF m 47 #[.val (.int p0)] [(.ref u5)])) := fun t k => ks26 t (st27 t k)
            obtain ⟨fs, hr, hrun, hended, hW, hsame⟩ := X27.leave (v := some (.ref u5)) (fun h => by rw [Bd.returns] at h; cases h)
            refine ⟨_, _, ks28 _ ?_, hrun, hended, _, _, rfl, ?_, ⟨_, rfl⟩, hW, hsame.mono (by decide) (by decide)⟩
            · exact retOut X27 hx Bd.returns rfl (Or.inr (Or.inr (Or.inr (Or.inr ⟨rfl, rfl, rfl⟩)))) (hb hby d1_47) hr
            · show Q1 Z p0 u0 u1 u2 u3 u4 u5 h0 n0 _ T27.heap _
              rw [e27]
              refine ⟨?_, N0, rfl⟩
              rw [own_pick, if_neg hc2, if_neg hc7, if_neg hc12, if_neg hc17, if_neg hc22]
theorem own_exa {Z : State} {h : Heap} {C : String} {u0 u1 u2 u3 u4 u5 : Addr} (p : Int32) (e0 : Exa Z h u0 C) (e1 : Exa Z h u1 C) (e2 : Exa Z h u2 C) (e3 : Exa Z h u3 C) (e4 : Exa Z h u4 C) (e5 : Exa Z h u5 C) : Exa Z h (own_pick p u0 u1 u2 u3 u4 u5) C := by
  unfold own_pick; repeat (first | assumption | split)
theorem own_fld {Z : State} {h : Heap} {C n d : String} {u0 u1 u2 u3 u4 u5 w0 w1 w2 w3 w4 w5 : Addr} (p : Int32) (e0 : Fld Z h u0 C n d (.ref w0)) (e1 : Fld Z h u1 C n d (.ref w1)) (e2 : Fld Z h u2 C n d (.ref w2)) (e3 : Fld Z h u3 C n d (.ref w3)) (e4 : Fld Z h u4 C n d (.ref w4)) (e5 : Fld Z h u5 C n d (.ref w5)) : Fld Z h (own_pick p u0 u1 u2 u3 u4 u5) C n d (.ref (own_pick p w0 w1 w2 w3 w4 w5)) := by
  unfold own_pick; repeat (first | assumption | split)
def own_written (p0 : Int32) : Int32 := (if p0 < (3 : Int32) then p0 else (3 : Int32))
theorem d2_0 : decode method_3_code 0 = .ok (.iload_n 0, 1) := by decide +kernel
theorem d2_1 : decode method_3_code 1 = .ok (.iconst 3, 1) := by decide +kernel
theorem d2_2 : decode method_3_code 2 = .ok (.if_icmp .ge 7, 3) := by decide +kernel
theorem d2_5 : decode method_3_code 5 = .ok (.iload_n 0, 1) := by decide +kernel
theorem d2_6 : decode method_3_code 6 = .ok (.goto 4, 3) := by decide +kernel
theorem d2_9 : decode method_3_code 9 = .ok (.iconst 3, 1) := by decide +kernel
theorem d2_10 : decode method_3_code 10 = .ok (.ireturn, 1) := by decide +kernel
theorem pn_2 : plainName "com/example/nodeward/nodeward/model/ExtendedDecisionDiffersFromPinLaw" = true := by first | (simp [plainName, overriddenIn]; done) | decide +kernel
theorem ef_2 (m : MethodId) (x0 : Int32) : entryFrame m #[(.int x0)] 1 = mkF m 0 #[.val (.int x0)] [] := by first | (simp [entryFrame, mkF, argsToLocals, Value.category]; done) | rfl
def Q2 (Z : State) (p0 : Int32) (h0 : Heap) (n0 : Nat) (v : Option Value) (h : Heap) (L : List Loc) : Prop := v = some (.int (own_written p0)) ∧ Fr n0 L ∧ h = h0
set_option maxRecDepth 65536 in
set_option maxHeartbeats 40000000 in
theorem rm2 (l : Launch) (Z : State) (a0 : Array Value) (hw : ∀ d ∈ tables_1, d.before a0 Z = true) (ws : List Jvm.Cond) (p0 : Int32) (h0 : Heap) (n0 : Nat) (Z0 : n0 ≤ h0.size) :
    MetFree l (⟨"com/example/nodeward/nodeward/model/ExtendedDecisionDiffersFromPinLaw", "written", "(I)I"⟩ : MethodName) (head1 (Jvm.Cond.code (⟨"com/example/nodeward/nodeward/model/ExtendedDecisionDiffersFromPinLaw", "written", "(I)I"⟩ : MethodName) method_3_code 1 (some .int) :: ws) ({ frames := 0, cells := 0, slots := 0, locals := 0 } : Room)) (fun a U => a = #[(.int p0)] ∧ Z.Warmed39 U.vm ∧ U.heap = h0) (fun _ _ _ _ _ => True) (fun _ U o U' => ∃ v L, o = .returned v ∧ Q2 Z p0 h0 n0 v U'.heap L ∧ FrameEnd U o U' L ({ frames := 0, cells := 0, slots := 0, locals := 0 } : Room).cells ({ frames := 0, cells := 0, slots := 0, locals := 0 } : Room).slots) := by
  refine MetFree.of_bodySF (plainFor_of_name pn_2) hisR ?_
  intro p e s m args below meth c s₁ Bd hml0 hP hK
  obtain ⟨rfl, hZ, hh⟩ := hP
  have hx := Bd.exec
  have hby := Bd.bytes
  have hml : c.maxLocals = 1 := hml0
  have hown : s.vm.findClass "com/example/nodeward/nodeward/model/ExtendedDecisionDiffersFromPinLaw" = some m.cls := findClass_of_methodNamed Bd.named
  have hnm := (name_of_methodNamed Bd.named Bd.method).1
  have X0 : Stand p l e ({ frames := 0, cells := 0, slots := 0, locals := 0 } : Room) s m #[(.int p0)] below meth c s₁ [] 0 0 := Stand.of_body Bd
  have e0 : s₁.heap = h0 := by rw [← hh, Bd.state]; rfl
  have N0 := Fr.nil n0
  have k0 : own_R p e below (s₁.setTop (entryFrame m #[(.int p0)] 1)) (s₁.setTop (mkF m 0 #[.val (.int p0)] [])) := fun t k => castTop (ef_2 m p0) k
  have ks1 : own_R p e below (s₁.setTop (entryFrame m #[(.int p0)] 1)) (s₁.setTop (mkF m 2 #[.val (.int p0)] [(.int (3 : Int32)), (.int p0)])) := fun t k => k0 t (by
    show Steps p.tables e below (s₁.setTop (mkF m 0 #[.val (.int p0)] [])) _
    refine XS.iloadN X0.here hx rfl (hb hby d2_0) rfl ?_
    show Steps p.tables e below (s₁.setTop (mkF m 1 #[.val (.int p0)] [(.int p0)])) _
    refine XS.iconst X0.here hx rfl (hb hby d2_1) ?_
    exact k)
  by_cases hc2 : p0 < (3 : Int32)
  · skip
    have ks3 : own_R p e below (s₁.setTop (entryFrame m #[(.int p0)] 1)) (s₁.setTop (mkF m 10 #[.val (.int p0)] [(.int p0)])) := fun t k => ks1 t (by
      show Steps p.tables e below (s₁.setTop (mkF m 2 #[.val (.int p0)] [(.int (3 : Int32)), (.int p0)])) _
      refine XS.icmpNo X0.here hx rfl (hb hby d2_2) rfl (tlt hc2).2.1 ?_
      show Steps p.tables e below (s₁.setTop (mkF m 5 #[.val (.int p0)] [])) _
      refine XS.iloadN X0.here hx rfl (hb hby d2_5) rfl ?_
      show Steps p.tables e below (s₁.setTop (mkF m 6 #[.val (.int p0)] [(.int p0)])) _
      refine XS.goto X0.here hx rfl (pc0 := 6) (pc' := 10) rfl (hb hby d2_6) (by decide) (by decide) ?_
      exact k)
    obtain ⟨fs, hr, hrun, hended, hW, hsame⟩ := X0.leave (v := some (.int p0)) (fun h => by rw [Bd.returns] at h; cases h)
    refine ⟨_, _, ks3 _ ?_, hrun, hended, _, _, rfl, ?_, ⟨_, rfl⟩, hW, hsame.mono (by decide) (by decide)⟩
    · exact retI X0 hx Bd.returns (hb hby d2_10) hr
    · show Q2 Z p0 h0 n0 _ s₁.heap _
      rw [e0]
      refine ⟨?_, N0, rfl⟩
      rw [own_written, if_pos hc2]
  · skip
    have ks4 : own_R p e below (s₁.setTop (entryFrame m #[(.int p0)] 1)) (s₁.setTop (mkF m 10 #[.val (.int p0)] [(.int (3 : Int32))])) := fun t k => ks1 t (by
      show Steps p.tables e below (s₁.setTop (mkF m 2 #[.val (.int p0)] [(.int (3 : Int32)), (.int p0)])) _
      refine XS.icmpYes X0.here hx rfl (pc0 := 2) (pc' := 9) rfl (hb hby d2_2) rfl (flt hc2).2.1 (by decide) (by decide) ?_
      show Steps p.tables e below (s₁.setTop (mkF m 9 #[.val (.int p0)] [])) _
      refine XS.iconst X0.here hx rfl (hb hby d2_9) ?_
      exact k)
    obtain ⟨fs, hr, hrun, hended, hW, hsame⟩ := X0.leave (v := some (.int (3 : Int32))) (fun h => by rw [Bd.returns] at h; cases h)
    refine ⟨_, _, ks4 _ ?_, hrun, hended, _, _, rfl, ?_, ⟨_, rfl⟩, hW, hsame.mono (by decide) (by decide)⟩
    · exact retI X0 hx Bd.returns (hb hby d2_10) hr
    · show Q2 Z p0 h0 n0 _ s₁.heap _
      rw [e0]
      refine ⟨?_, N0, rfl⟩
      rw [own_written, if_neg hc2]
def own_dif (r0 r1 : Addr) (p2 : Int32) (d0 d1 : Addr) : Int32 := if p2 = (0 : Int32) then (if d0 = d1 then (0 : Int32) else (1 : Int32)) else (if r0 = r1 then (0 : Int32) else (1 : Int32))
theorem d3_0 : decode prog_75_method_7_code 0 = .ok (.iload_n 2, 1) := by decide +kernel
theorem d3_1 : decode prog_75_method_7_code 1 = .ok (.ifCond .eq 16, 3) := by decide +kernel
theorem d3_4 : decode prog_75_method_7_code 4 = .ok (.aload_n 0, 1) := by decide +kernel
theorem d3_5 : decode prog_75_method_7_code 5 = .ok (.aload_n 1, 1) := by decide +kernel
theorem d3_6 : decode prog_75_method_7_code 6 = .ok (.if_acmp .eq 7, 3) := by decide +kernel
theorem d3_9 : decode prog_75_method_7_code 9 = .ok (.iconst 1, 1) := by decide +kernel
theorem d3_10 : decode prog_75_method_7_code 10 = .ok (.goto 23, 3) := by decide +kernel
theorem d3_13 : decode prog_75_method_7_code 13 = .ok (.iconst 0, 1) := by decide +kernel
theorem d3_14 : decode prog_75_method_7_code 14 = .ok (.goto 19, 3) := by decide +kernel
theorem d3_17 : decode prog_75_method_7_code 17 = .ok (.aload_n 0, 1) := by decide +kernel
theorem d3_18 : decode prog_75_method_7_code 18 = .ok (.getfield 41, 3) := by decide +kernel
theorem d3_21 : decode prog_75_method_7_code 21 = .ok (.aload_n 1, 1) := by decide +kernel
theorem d3_22 : decode prog_75_method_7_code 22 = .ok (.getfield 41, 3) := by decide +kernel
theorem d3_25 : decode prog_75_method_7_code 25 = .ok (.if_acmp .eq 7, 3) := by decide +kernel
theorem d3_28 : decode prog_75_method_7_code 28 = .ok (.iconst 1, 1) := by decide +kernel
theorem d3_29 : decode prog_75_method_7_code 29 = .ok (.goto 4, 3) := by decide +kernel
theorem d3_32 : decode prog_75_method_7_code 32 = .ok (.iconst 0, 1) := by decide +kernel
theorem d3_33 : decode prog_75_method_7_code 33 = .ok (.ireturn, 1) := by decide +kernel
theorem pn_3 : plainName "com/example/nodeward/nodeward/model/ExtendedDecision" = true := by first | (simp [plainName, overriddenIn]; done) | decide +kernel
theorem ef_3 (m : MethodId) (x0 : Addr) (x1 : Addr) (x2 : Int32) : entryFrame m #[(.ref x0), (.ref x1), (.int x2)] 3 = mkF m 0 #[.val (.ref x0), .val (.ref x1), .val (.int x2)] [] := by first | (simp [entryFrame, mkF, argsToLocals, Value.category]; done) | rfl
def Q3 (Z : State) (r0 : Addr) (r1 : Addr) (p2 : Int32) (d0 : Addr) (d1 : Addr) (h0 : Heap) (n0 : Nat) (v : Option Value) (h : Heap) (L : List Loc) : Prop := v = some (.int (own_dif r0 r1 p2 d0 d1)) ∧ Fr n0 L ∧ h = h0
set_option maxRecDepth 65536 in
set_option maxHeartbeats 40000000 in
theorem rm3 (l : Launch) (Z : State) (a0 : Array Value) (hw : ∀ d ∈ tables_1, d.before a0 Z = true) (ws : List Jvm.Cond) (r0 : Addr) (r1 : Addr) (p2 : Int32) (d0 : Addr) (d1 : Addr) (h0 : Heap) (n0 : Nat) (Z0 : n0 ≤ h0.size) (F0 : Fld Z h0 r0 "com/example/nodeward/nodeward/model/ExtendedDecision" "decision" "Lcom/example/nodeward/nodeward/model/Decision;" (.ref d0)) (F1 : Fld Z h0 r1 "com/example/nodeward/nodeward/model/ExtendedDecision" "decision" "Lcom/example/nodeward/nodeward/model/Decision;" (.ref d1)) :
    MetFree l (⟨"com/example/nodeward/nodeward/model/ExtendedDecision", "differsFrom", "(Lcom/example/nodeward/nodeward/model/ExtendedDecision;Z)Z"⟩ : MethodName) (head1 (Jvm.Cond.code (⟨"com/example/nodeward/nodeward/model/ExtendedDecision", "differsFrom", "(Lcom/example/nodeward/nodeward/model/ExtendedDecision;Z)Z"⟩ : MethodName) prog_75_method_7_code 3 (some .boolean) :: ws) ({ frames := 0, cells := 0, slots := 0, locals := 0 } : Room)) (fun a U => a = #[(.ref r0), (.ref r1), (.int p2)] ∧ Z.Warmed39 U.vm ∧ U.heap = h0) (fun _ _ _ _ _ => True) (fun _ U o U' => ∃ v L, o = .returned v ∧ Q3 Z r0 r1 p2 d0 d1 h0 n0 v U'.heap L ∧ FrameEnd U o U' L ({ frames := 0, cells := 0, slots := 0, locals := 0 } : Room).cells ({ frames := 0, cells := 0, slots := 0, locals := 0 } : Room).slots) := by
  refine MetFree.of_bodySF (plainFor_of_name pn_3) hisR ?_
  intro p e s m args below meth c s₁ Bd hml0 hP hK
  obtain ⟨rfl, hZ, hh⟩ := hP
  have hx := Bd.exec
  have hby := Bd.bytes
  have hml : c.maxLocals = 3 := hml0
  have hown : s.vm.findClass "com/example/nodeward/nodeward/model/ExtendedDecision" = some m.cls := findClass_of_methodNamed Bd.named
  have hnm := (name_of_methodNamed Bd.named Bd.method).1
  have X0 : Stand p l e ({ frames := 0, cells := 0, slots := 0, locals := 0 } : Room) s m #[(.ref r0), (.ref r1), (.int p2)] below meth c s₁ [] 0 0 := Stand.of_body Bd
  have e0 : s₁.heap = h0 := by rw [← hh, Bd.state]; rfl
  have N0 := Fr.nil n0
  have k0 : own_R p e below (s₁.setTop (entryFrame m #[(.ref r0), (.ref r1), (.int p2)] 3)) (s₁.setTop (mkF m 0 #[.val (.ref r0), .val (.ref r1), .val (.int p2)] [])) := fun t k => castTop (ef_3 m r0 r1 p2) k
  have ks1 : own_R p e below (s₁.setTop (entryFrame m #[(.ref r0), (.ref r1), (.int p2)] 3)) (s₁.setTop (mkF m 1 #[.val (.ref r0), .val (.ref r1), .val (.int p2)] [(.int p2)])) := fun t k => k0 t (by
    show Steps p.tables e below (s₁.setTop (mkF m 0 #[.val (.ref r0), .val (.ref r1), .val (.int p2)] [])) _
    refine XS.iloadN X0.here hx rfl (hb hby d3_0) rfl ?_
    exact k)
  by_cases hc2 : p2 = (0 : Int32)
  · skip
    have ks3 : own_R p e below (s₁.setTop (entryFrame m #[(.ref r0), (.ref r1), (.int p2)] 3)) (s₁.setTop (mkF m 18 #[.val (.ref r0), .val (.ref r1), .val (.int p2)] [(.ref r0)])) := fun t k => ks1 t (by
      show Steps p.tables e below (s₁.setTop (mkF m 1 #[.val (.ref r0), .val (.ref r1), .val (.int p2)] [(.int p2)])) _
      refine XS.ifYes X0.here hx rfl (pc0 := 1) (pc' := 17) rfl (hb hby d3_1) rfl ((if0 _ _).trans (teq hc2).1) (by decide) (by decide) ?_
      show Steps p.tables e below (s₁.setTop (mkF m 17 #[.val (.ref r0), .val (.ref r1), .val (.int p2)] [])) _
      refine XS.aloadN X0.here hx rfl (hb hby d3_17) rfl rfl ?_
      exact k)
    obtain ⟨T4, X4, e4, st4⟩ := getF X0 hx hZ hown (host := "") (Or.inl (hw _ (List.mem_of_getElem? (i := 18) rfl))) Via.refl e0 F0 (g := (mkF m 18 #[.val (.ref r0), .val (.ref r1), .val (.int p2)] [(.ref r0)])) rfl rfl (hb hby d3_18)
    have ks5 : own_R p e below (s₁.setTop (entryFrame m #[(.ref r0), (.ref r1), (.int p2)] 3)) (T4.setTop (mkF m 21 #[.val (.ref r0), .val (.ref r1), .val (.int p2)] [(.ref d0)])) := fun t k => ks3 t (st4 t k)
    have ks6 : own_R p e below (s₁.setTop (entryFrame m #[(.ref r0), (.ref r1), (.int p2)] 3)) (T4.setTop (mkF m 22 #[.val (.ref r0), .val (.ref r1), .val (.int p2)] [(.ref r1), (.ref d0)])) := fun t k => ks5 t (by
      show Steps p.tables e below (T4.setTop (mkF m 21 #[.val (.ref r0), .val (.ref r1), .val (.int p2)] [(.ref d0)])) _
      refine XS.aloadN X4.here hx rfl (hb hby d3_21) rfl rfl ?_
      exact k)
    obtain ⟨T7, X7, e7, st7⟩ := getF X4 hx hZ hown (host := "") (Or.inl (hw _ (List.mem_of_getElem? (i := 18) rfl))) Via.refl e4 F1 (g := (mkF m 22 #[.val (.ref r0), .val (.ref r1), .val (.int p2)] [(.ref r1), (.ref d0)])) rfl rfl (hb hby d3_22)
    have ks8 : own_R p e below (s₁.setTop (entryFrame m #[(.ref r0), (.ref r1), (.int p2)] 3)) (T7.setTop (mkF m 25 #[.val (.ref r0), .val (.ref r1), .val (.int p2)] [(.ref d1), (.ref d0)])) := fun t k => ks6 t (st7 t k)
    by_cases hc9 : d0 = d1
    · skip
      have ks10 : own_R p e below (s₁.setTop (entryFrame m #[(.ref r0), (.ref r1), (.int p2)] 3)) (T7.setTop (mkF m 33 #[.val (.ref r0), .val (.ref r1), .val (.int p2)] [(.int (0 : Int32))])) := fun t k => ks8 t (by
        show Steps p.tables e below (T7.setTop (mkF m 25 #[.val (.ref r0), .val (.ref r1), .val (.int p2)] [(.ref d1), (.ref d0)])) _
        refine Jvm.RoadKit.acmp (g := (mkF m 25 #[.val (.ref r0), .val (.ref r1), .val (.int p2)] [(.ref d1), (.ref d0)])) X7 hx rfl rfl rfl (pc0 := 25) (pc' := 32) (same := true) rfl (hb hby d3_25) rfl (decide_eq_true (congrArg Value.ref hc9)) (by decide) (by decide) ?_
        show Steps p.tables e below (T7.setTop (mkF m 32 #[.val (.ref r0), .val (.ref r1), .val (.int p2)] [])) _
        refine XS.iconst X7.here hx rfl (hb hby d3_32) ?_
        exact k)
      obtain ⟨fs, hr, hrun, hended, hW, hsame⟩ := X7.leave (v := some (.int (0 : Int32))) (fun h => by rw [Bd.returns] at h; cases h)
      refine ⟨_, _, ks10 _ ?_, hrun, hended, _, _, rfl, ?_, ⟨_, rfl⟩, hW, hsame.mono (by decide) (by decide)⟩
      · exact retN X7 hx (t := .boolean) Bd.returns (by simp) (hb hby d3_33) hr
      · show Q3 Z r0 r1 p2 d0 d1 h0 n0 _ T7.heap _
        rw [e7]
        refine ⟨?_, N0, rfl⟩
        rw [own_dif, if_pos hc2, if_pos hc9]
    · skip
      have ks11 : own_R p e below (s₁.setTop (entryFrame m #[(.ref r0), (.ref r1), (.int p2)] 3)) (T7.setTop (mkF m 33 #[.val (.ref r0), .val (.ref r1), .val (.int p2)] [(.int (1 : Int32))])) := fun t k => ks8 t (by
        show Steps p.tables e below (T7.setTop (mkF m 25 #[.val (.ref r0), .val (.ref r1), .val (.int p2)] [(.ref d1), (.ref d0)])) _
        refine Jvm.RoadKit.acmp (g := (mkF m 25 #[.val (.ref r0), .val (.ref r1), .val (.int p2)] [(.ref d1), (.ref d0)])) X7 hx rfl rfl rfl (pc0 := 25) (pc' := 28) (same := false) rfl (hb hby d3_25) rfl (decide_eq_false fun q => hc9 (Value.ref.inj q)) (by decide) (by decide) ?_
        show Steps p.tables e below (T7.setTop (mkF m 28 #[.val (.ref r0), .val (.ref r1), .val (.int p2)] [])) _
        refine XS.iconst X7.here hx rfl (hb hby d3_28) ?_
        show Steps p.tables e below (T7.setTop (mkF m 29 #[.val (.ref r0), .val (.ref r1), .val (.int p2)] [(.int (1 : Int32))])) _
        refine XS.goto X7.here hx rfl (pc0 := 29) (pc' := 33) rfl (hb hby d3_29) (by decide) (by decide) ?_
        exact k)
      obtain ⟨fs, hr, hrun, hended, hW, hsame⟩ := X7.leave (v := some (.int (1 : Int32))) (fun h => by rw [Bd.returns] at h; cases h)
      refine ⟨_, _, ks11 _ ?_, hrun, hended, _, _, rfl, ?_, ⟨_, rfl⟩, hW, hsame.mono (by decide) (by decide)⟩
      · exact retN X7 hx (t := .boolean) Bd.returns (by simp) (hb hby d3_33) hr
      · show Q3 Z r0 r1 p2 d0 d1 h0 n0 _ T7.heap _
        rw [e7]
        refine ⟨?_, N0, rfl⟩
        rw [own_dif, if_pos hc2, if_neg hc9]
  · skip
    have ks12 : own_R p e below (s₁.setTop (entryFrame m #[(.ref r0), (.ref r1), (.int p2)] 3)) (s₁.setTop (mkF m 6 #[.val (.ref r0), .val (.ref r1), .val (.int p2)] [(.ref r1), (.ref r0)])) := fun t k => ks1 t (by
      show Steps p.tables e below (s₁.setTop (mkF m 1 #[.val (.ref r0), .val (.ref r1), .val (.int p2)] [(.int p2)])) _
      refine XS.ifNo X0.here hx rfl (hb hby d3_1) rfl ((if0 _ _).trans (feq hc2).1) ?_
      show Steps p.tables e below (s₁.setTop (mkF m 4 #[.val (.ref r0), .val (.ref r1), .val (.int p2)] [])) _
      refine XS.aloadN X0.here hx rfl (hb hby d3_4) rfl rfl ?_
      show Steps p.tables e below (s₁.setTop (mkF m 5 #[.val (.ref r0), .val (.ref r1), .val (.int p2)] [(.ref r0)])) _
      refine XS.aloadN X0.here hx rfl (hb hby d3_5) rfl rfl ?_
      exact k)
    by_cases hc13 : r0 = r1
    · skip
      have ks14 : own_R p e below (s₁.setTop (entryFrame m #[(.ref r0), (.ref r1), (.int p2)] 3)) (s₁.setTop (mkF m 33 #[.val (.ref r0), .val (.ref r1), .val (.int p2)] [(.int (0 : Int32))])) := fun t k => ks12 t (by
        show Steps p.tables e below (s₁.setTop (mkF m 6 #[.val (.ref r0), .val (.ref r1), .val (.int p2)] [(.ref r1), (.ref r0)])) _
        refine Jvm.RoadKit.acmp (g := (mkF m 6 #[.val (.ref r0), .val (.ref r1), .val (.int p2)] [(.ref r1), (.ref r0)])) X0 hx rfl rfl rfl (pc0 := 6) (pc' := 13) (same := true) rfl (hb hby d3_6) rfl (decide_eq_true (congrArg Value.ref hc13)) (by decide) (by decide) ?_
        show Steps p.tables e below (s₁.setTop (mkF m 13 #[.val (.ref r0), .val (.ref r1), .val (.int p2)] [])) _
        refine XS.iconst X0.here hx rfl (hb hby d3_13) ?_
        show Steps p.tables e below (s₁.setTop (mkF m 14 #[.val (.ref r0), .val (.ref r1), .val (.int p2)] [(.int (0 : Int32))])) _
        refine XS.goto X0.here hx rfl (pc0 := 14) (pc' := 33) rfl (hb hby d3_14) (by decide) (by decide) ?_
        exact k)
      obtain ⟨fs, hr, hrun, hended, hW, hsame⟩ := X0.leave (v := some (.int (0 : Int32))) (fun h => by rw [Bd.returns] at h; cases h)
      refine ⟨_, _, ks14 _ ?_, hrun, hended, _, _, rfl, ?_, ⟨_, rfl⟩, hW, hsame.mono (by decide) (by decide)⟩
      · exact retN X0 hx (t := .boolean) Bd.returns (by simp) (hb hby d3_33) hr
      · show Q3 Z r0 r1 p2 d0 d1 h0 n0 _ s₁.heap _
        rw [e0]
        refine ⟨?_, N0, rfl⟩
        rw [own_dif, if_neg hc2, if_pos hc13]
    · skip
      have ks15 : own_R p e below (s₁.setTop (entryFrame m #[(.ref r0), (.ref r1), (.int p2)] 3)) (s₁.setTop (mkF m 33 #[.val (.ref r0), .val (.ref r1), .val (.int p2)] [(.int (1 : Int32))])) := fun t k => ks12 t (by
        show Steps p.tables e below (s₁.setTop (mkF m 6 #[.val (.ref r0), .val (.ref r1), .val (.int p2)] [(.ref r1), (.ref r0)])) _
        refine Jvm.RoadKit.acmp (g := (mkF m 6 #[.val (.ref r0), .val (.ref r1), .val (.int p2)] [(.ref r1), (.ref r0)])) X0 hx rfl rfl rfl (pc0 := 6) (pc' := 9) (same := false) rfl (hb hby d3_6) rfl (decide_eq_false fun q => hc13 (Value.ref.inj q)) (by decide) (by decide) ?_
        show Steps p.tables e below (s₁.setTop (mkF m 9 #[.val (.ref r0), .val (.ref r1), .val (.int p2)] [])) _
        refine XS.iconst X0.here hx rfl (hb hby d3_9) ?_
        show Steps p.tables e below (s₁.setTop (mkF m 10 #[.val (.ref r0), .val (.ref r1), .val (.int p2)] [(.int (1 : Int32))])) _
        refine XS.goto X0.here hx rfl (pc0 := 10) (pc' := 33) rfl (hb hby d3_10) (by decide) (by decide) ?_
        exact k)
      obtain ⟨fs, hr, hrun, hended, hW, hsame⟩ := X0.leave (v := some (.int (1 : Int32))) (fun h => by rw [Bd.returns] at h; cases h)
      refine ⟨_, _, ks15 _ ?_, hrun, hended, _, _, rfl, ?_, ⟨_, rfl⟩, hW, hsame.mono (by decide) (by decide)⟩
      · exact retN X0 hx (t := .boolean) Bd.returns (by simp) (hb hby d3_33) hr
      · show Q3 Z r0 r1 p2 d0 d1 h0 n0 _ s₁.heap _
        rw [e0]
        refine ⟨?_, N0, rfl⟩
        rw [own_dif, if_neg hc2, if_neg hc13]

theorem own_six (b : Int32) : ((b &&& (2147483647 : Int32)) % (6 : Int32)) = 0 ∨ ((b &&& (2147483647 : Int32)) % (6 : Int32)) = 1 ∨ ((b &&& (2147483647 : Int32)) % (6 : Int32)) = 2 ∨ ((b &&& (2147483647 : Int32)) % (6 : Int32)) = 3 ∨ ((b &&& (2147483647 : Int32)) % (6 : Int32)) = 4 ∨ ((b &&& (2147483647 : Int32)) % (6 : Int32)) = 5 := by
  have h1 : (b &&& (2147483647 : Int32)).toInt = b.toInt % 2147483648 := c_mask b 2147483647 31 (by decide) (by decide)
  have h3 := (c_irem (b &&& (2147483647 : Int32)) 6 6 rfl).1 (by omega)
  generalize ((b &&& (2147483647 : Int32)) % (6 : Int32)) = d at *
  simp only [← Int32.toInt_inj]
  show d.toInt = 0 ∨ d.toInt = 1 ∨ d.toInt = 2 ∨ d.toInt = 3 ∨ d.toInt = 4 ∨ d.toInt = 5
  omega
def own_X (x : Int32) : Prop := x = 0 ∨ x = 1 ∨ x = 2 ∨ x = 3 ∨ x = 4 ∨ x = 5
theorem own_inj {x y : Int32} (hx : own_X x) (hy : own_X y) {u0 u1 u2 u3 u4 u5 : Addr} (n01 : u0 ≠ u1) (n02 : u0 ≠ u2) (n03 : u0 ≠ u3) (n04 : u0 ≠ u4) (n05 : u0 ≠ u5) (n12 : u1 ≠ u2) (n13 : u1 ≠ u3) (n14 : u1 ≠ u4) (n15 : u1 ≠ u5) (n23 : u2 ≠ u3) (n24 : u2 ≠ u4) (n25 : u2 ≠ u5) (n34 : u3 ≠ u4) (n35 : u3 ≠ u5) (n45 : u4 ≠ u5) : own_pick x u0 u1 u2 u3 u4 u5 = own_pick y u0 u1 u2 u3 u4 u5 ↔ x = y := by
  rcases hx with rfl | rfl | rfl | rfl | rfl | rfl <;> rcases hy with rfl | rfl | rfl | rfl | rfl | rfl <;> simp [own_pick, n01, n02, n03, n04, n05, n12, n13, n14, n15, n23, n24, n25, n34, n35, n45, n01.symm, n02.symm, n03.symm, n04.symm, n05.symm, n12.symm, n13.symm, n14.symm, n15.symm, n23.symm, n24.symm, n25.symm, n34.symm, n35.symm, n45.symm]
theorem own_dec {x y : Int32} (hx : own_X x) (hy : own_X y) {u0 u1 u2 u3 : Addr} (n01 : u0 ≠ u1) (n02 : u0 ≠ u2) (n03 : u0 ≠ u3) (n12 : u1 ≠ u2) (n13 : u1 ≠ u3) (n23 : u2 ≠ u3) : own_pick x u0 u1 u2 u3 u3 u3 = own_pick y u0 u1 u2 u3 u3 u3 ↔ own_written x = own_written y := by
  rcases hx with rfl | rfl | rfl | rfl | rfl | rfl <;> rcases hy with rfl | rfl | rfl | rfl | rfl | rfl <;> simp [own_pick, own_written, n01, n02, n03, n12, n13, n23, n01.symm, n02.symm, n03.symm, n12.symm, n13.symm, n23.symm] <;> decide
theorem pn_0 : plainName "com/example/nodeward/nodeward/model/ExtendedDecisionDiffersFromPinLaw" = true := by first | (simp [plainName, overriddenIn]; done) | decide +kernel
theorem pd_0 : parseMethodDescriptor "(I)Lcom/example/nodeward/nodeward/model/ExtendedDecision;" = some ⟨[.int], some (.object "com/example/nodeward/nodeward/model/ExtendedDecision")⟩ := by decide +kernel
theorem pd_1 : parseMethodDescriptor "(I)I" = some ⟨[.int], some .int⟩ := by decide +kernel
theorem pd_2 : parseMethodDescriptor "(Lcom/example/nodeward/nodeward/model/ExtendedDecision;Z)Z" = some ⟨[(.object "com/example/nodeward/nodeward/model/ExtendedDecision"), .boolean], some .boolean⟩ := by decide +kernel
theorem ef_0 (m : MethodId) (x0 : Int32) (x1 : Int32) (x2 : Int32) : entryFrame m #[(.int x0), (.int x1), (.int x2)] maxLocals = mkF m 0 #[.val (.int x0), .val (.int x1), .val (.int x2), .unset, .unset, .unset, .unset, .unset, .unset] [] := by first | (simp [entryFrame, mkF, argsToLocals, Value.category, maxLocals]; done) | rfl
def Q0 (Z : State) (p0 : Int32) (p1 : Int32) (p2 : Int32) (s_ExtendedDecision_PERMIT : Addr) (s_INDETERMINATE_D : Addr) (s_Decision_PERMIT : Addr) (s_INDETERMINATE : Addr) (s_ExtendedDecision_DENY : Addr) (s_ExtendedDecision_NOT_APPLICABLE : Addr) (s_INDETERMINATE_DP : Addr) (s_INDETERMINATE_P : Addr) (s_Decision_NOT_APPLICABLE : Addr) (s_Decision_DENY : Addr) (h0 : Heap) (n0 : Nat) (v : Option Value) (h : Heap) (L : List Loc) : Prop := v = some (.int (1 : Int32)) ∧ Fr n0 L
set_option maxRecDepth 65536 in
set_option maxHeartbeats 40000000 in
theorem rm0 (l : Launch) (Z : State) (a0 : Array Value) (hw : ∀ d ∈ tables_1, d.before a0 Z = true) (ws : List Jvm.Cond) (p0 : Int32) (p1 : Int32) (p2 : Int32) (s_ExtendedDecision_PERMIT : Addr) (s_INDETERMINATE_D : Addr) (s_Decision_PERMIT : Addr) (s_INDETERMINATE : Addr) (s_ExtendedDecision_DENY : Addr) (s_ExtendedDecision_NOT_APPLICABLE : Addr) (s_INDETERMINATE_DP : Addr) (s_INDETERMINATE_P : Addr) (s_Decision_NOT_APPLICABLE : Addr) (s_Decision_DENY : Addr) (h0 : Heap) (n0 : Nat) (Z0 : n0 ≤ h0.size) (E_s_ExtendedDecision_PERMIT : Exa Z h0 s_ExtendedDecision_PERMIT "com/example/nodeward/nodeward/model/ExtendedDecision") (S_s_ExtendedDecision_PERMIT : Sta Z h0 "com/example/nodeward/nodeward/model/ExtendedDecision" "PERMIT" "Lcom/example/nodeward/nodeward/model/ExtendedDecision;" (.ref s_ExtendedDecision_PERMIT)) (E_s_INDETERMINATE_D : Exa Z h0 s_INDETERMINATE_D "com/example/nodeward/nodeward/model/ExtendedDecision") (S_s_INDETERMINATE_D : Sta Z h0 "com/example/nodeward/nodeward/model/ExtendedDecision" "INDETERMINATE_D" "Lcom/example/nodeward/nodeward/model/ExtendedDecision;" (.ref s_INDETERMINATE_D)) (E_s_Decision_PERMIT : Exa Z h0 s_Decision_PERMIT "com/example/nodeward/nodeward/model/Decision") (S_s_Decision_PERMIT : Sta Z h0 "com/example/nodeward/nodeward/model/Decision" "PERMIT" "Lcom/example/nodeward/nodeward/model/Decision;" (.ref s_Decision_PERMIT)) (E_s_INDETERMINATE : Exa Z h0 s_INDETERMINATE "com/example/nodeward/nodeward/model/Decision") (S_s_INDETERMINATE : Sta Z h0 "com/example/nodeward/nodeward/model/Decision" "INDETERMINATE" "Lcom/example/nodeward/nodeward/model/Decision;" (.ref s_INDETERMINATE)) (E_s_ExtendedDecision_DENY : Exa Z h0 s_ExtendedDecision_DENY "com/example/nodeward/nodeward/model/ExtendedDecision") (S_s_ExtendedDecision_DENY : Sta Z h0 "com/example/nodeward/nodeward/model/ExtendedDecision" "DENY" "Lcom/example/nodeward/nodeward/model/ExtendedDecision;" (.ref s_ExtendedDecision_DENY)) (E_s_ExtendedDecision_NOT_APPLICABLE : Exa Z h0 s_ExtendedDecision_NOT_APPLICABLE "com/example/nodeward/nodeward/model/ExtendedDecision") (S_s_ExtendedDecision_NOT_APPLICABLE : Sta Z h0 "com/example/nodeward/nodeward/model/ExtendedDecision" "NOT_APPLICABLE" "Lcom/example/nodeward/nodeward/model/ExtendedDecision;" (.ref s_ExtendedDecision_NOT_APPLICABLE)) (E_s_INDETERMINATE_DP : Exa Z h0 s_INDETERMINATE_DP "com/example/nodeward/nodeward/model/ExtendedDecision") (S_s_INDETERMINATE_DP : Sta Z h0 "com/example/nodeward/nodeward/model/ExtendedDecision" "INDETERMINATE_DP" "Lcom/example/nodeward/nodeward/model/ExtendedDecision;" (.ref s_INDETERMINATE_DP)) (E_s_INDETERMINATE_P : Exa Z h0 s_INDETERMINATE_P "com/example/nodeward/nodeward/model/ExtendedDecision") (S_s_INDETERMINATE_P : Sta Z h0 "com/example/nodeward/nodeward/model/ExtendedDecision" "INDETERMINATE_P" "Lcom/example/nodeward/nodeward/model/ExtendedDecision;" (.ref s_INDETERMINATE_P)) (E_s_Decision_NOT_APPLICABLE : Exa Z h0 s_Decision_NOT_APPLICABLE "com/example/nodeward/nodeward/model/Decision") (S_s_Decision_NOT_APPLICABLE : Sta Z h0 "com/example/nodeward/nodeward/model/Decision" "NOT_APPLICABLE" "Lcom/example/nodeward/nodeward/model/Decision;" (.ref s_Decision_NOT_APPLICABLE)) (E_s_Decision_DENY : Exa Z h0 s_Decision_DENY "com/example/nodeward/nodeward/model/Decision") (S_s_Decision_DENY : Sta Z h0 "com/example/nodeward/nodeward/model/Decision" "DENY" "Lcom/example/nodeward/nodeward/model/Decision;" (.ref s_Decision_DENY)) (F_s_ExtendedDecision_PERMIT_decision : Fld Z h0 s_ExtendedDecision_PERMIT "com/example/nodeward/nodeward/model/ExtendedDecision" "decision" "Lcom/example/nodeward/nodeward/model/Decision;" (.ref s_Decision_PERMIT)) (F_s_INDETERMINATE_D_decision : Fld Z h0 s_INDETERMINATE_D "com/example/nodeward/nodeward/model/ExtendedDecision" "decision" "Lcom/example/nodeward/nodeward/model/Decision;" (.ref s_INDETERMINATE)) (F_s_Decision_PERMIT_ordinal : Fld Z h0 s_Decision_PERMIT "java/lang/Enum" "ordinal" "I" (.int (0 : Int32))) (F_s_INDETERMINATE_ordinal : Fld Z h0 s_INDETERMINATE "java/lang/Enum" "ordinal" "I" (.int (3 : Int32))) (F_s_ExtendedDecision_DENY_ordinal : Fld Z h0 s_ExtendedDecision_DENY "java/lang/Enum" "ordinal" "I" (.int (1 : Int32))) (F_s_ExtendedDecision_PERMIT_ordinal : Fld Z h0 s_ExtendedDecision_PERMIT "java/lang/Enum" "ordinal" "I" (.int (0 : Int32))) (F_s_INDETERMINATE_DP_ordinal : Fld Z h0 s_INDETERMINATE_DP "java/lang/Enum" "ordinal" "I" (.int (5 : Int32))) (F_s_INDETERMINATE_P_ordinal : Fld Z h0 s_INDETERMINATE_P "java/lang/Enum" "ordinal" "I" (.int (4 : Int32))) (F_s_ExtendedDecision_NOT_APPLICABLE_ordinal : Fld Z h0 s_ExtendedDecision_NOT_APPLICABLE "java/lang/Enum" "ordinal" "I" (.int (2 : Int32))) (F_s_INDETERMINATE_D_ordinal : Fld Z h0 s_INDETERMINATE_D "java/lang/Enum" "ordinal" "I" (.int (3 : Int32))) (F_s_ExtendedDecision_NOT_APPLICABLE_decision : Fld Z h0 s_ExtendedDecision_NOT_APPLICABLE "com/example/nodeward/nodeward/model/ExtendedDecision" "decision" "Lcom/example/nodeward/nodeward/model/Decision;" (.ref s_Decision_NOT_APPLICABLE)) (F_s_ExtendedDecision_DENY_decision : Fld Z h0 s_ExtendedDecision_DENY "com/example/nodeward/nodeward/model/ExtendedDecision" "decision" "Lcom/example/nodeward/nodeward/model/Decision;" (.ref s_Decision_DENY)) (F_s_Decision_NOT_APPLICABLE_ordinal : Fld Z h0 s_Decision_NOT_APPLICABLE "java/lang/Enum" "ordinal" "I" (.int (2 : Int32))) (F_s_Decision_DENY_ordinal : Fld Z h0 s_Decision_DENY "java/lang/Enum" "ordinal" "I" (.int (1 : Int32))) (F_s_INDETERMINATE_P_decision : Fld Z h0 s_INDETERMINATE_P "com/example/nodeward/nodeward/model/ExtendedDecision" "decision" "Lcom/example/nodeward/nodeward/model/Decision;" (.ref s_INDETERMINATE)) (F_s_INDETERMINATE_DP_decision : Fld Z h0 s_INDETERMINATE_DP "com/example/nodeward/nodeward/model/ExtendedDecision" "decision" "Lcom/example/nodeward/nodeward/model/Decision;" (.ref s_INDETERMINATE)) :
    MetFree l x (head1 (Jvm.Cond.code x code maxLocals ret :: ws) room_1) (fun a U => a = #[(.int p0), (.int p1), (.int p2)] ∧ Z.Warmed39 U.vm ∧ U.heap = h0) (fun _ _ _ _ _ => True) (fun _ U o U' => ∃ v L, o = .returned v ∧ Q0 Z p0 p1 p2 s_ExtendedDecision_PERMIT s_INDETERMINATE_D s_Decision_PERMIT s_INDETERMINATE s_ExtendedDecision_DENY s_ExtendedDecision_NOT_APPLICABLE s_INDETERMINATE_DP s_INDETERMINATE_P s_Decision_NOT_APPLICABLE s_Decision_DENY h0 n0 v U'.heap L ∧ FrameEnd U o U' L 0 0) := by
  refine MetFree.of_bodySF (plainFor_of_name pn_0) hisR ?_
  intro p e s m args below meth c s₁ Bd hml0 hP hK
  obtain ⟨rfl, hZ, hh⟩ := hP
  have hx := Bd.exec
  have hby := Bd.bytes
  have hml : c.maxLocals = 9 := hml0
  have hown : s.vm.findClass "com/example/nodeward/nodeward/model/ExtendedDecisionDiffersFromPinLaw" = some m.cls := findClass_of_methodNamed Bd.named
  have hnm := (name_of_methodNamed Bd.named Bd.method).1
  have X0 : Stand p l e room_1 s m #[(.int p0), (.int p1), (.int p2)] below meth c s₁ [] 0 0 := Stand.of_body Bd
  have e0 : s₁.heap = h0 := by rw [← hh, Bd.state]; rfl
  have N0 := Fr.nil n0
  have k0 : own_R p e below (s₁.setTop (entryFrame m #[(.int p0), (.int p1), (.int p2)] maxLocals)) (s₁.setTop (mkF m 0 #[.val (.int p0), .val (.int p1), .val (.int p2), .unset, .unset, .unset, .unset, .unset, .unset] [])) := fun t k => castTop (ef_0 m p0 p1 p2) k
  have ks1 : own_R p e below (s₁.setTop (entryFrame m #[(.int p0), (.int p1), (.int p2)] maxLocals)) (s₁.setTop (mkF m 7 #[.val (.int p0), .val (.int p1), .val (.int p2), .unset, .unset, .unset, .unset, .unset, .unset] [(.int ((p0 &&& (2147483647 : Int32)) % (6 : Int32)))])) := fun t k => k0 t (by
    show Steps p.tables e below (s₁.setTop (mkF m 0 #[.val (.int p0), .val (.int p1), .val (.int p2), .unset, .unset, .unset, .unset, .unset, .unset] [])) _
    refine XS.iloadN X0.here hx rfl (hb hby at_0) rfl ?_
    show Steps p.tables e below (s₁.setTop (mkF m 1 #[.val (.int p0), .val (.int p1), .val (.int p2), .unset, .unset, .unset, .unset, .unset, .unset] [(.int p0)])) _
    refine X0.ldcInt hx hown (mvT hZ (hw _ (List.mem_of_getElem? (i := 0) rfl))) (g := (mkF m 1 #[.val (.int p0), .val (.int p1), .val (.int p2), .unset, .unset, .unset, .unset, .unset, .unset] [(.int p0)])) rfl (hb hby at_1) _ ?_
    show Steps p.tables e below (s₁.setTop (mkF m 3 #[.val (.int p0), .val (.int p1), .val (.int p2), .unset, .unset, .unset, .unset, .unset, .unset] [(.int (2147483647 : Int32)), (.int p0)])) _
    refine XS.iand X0.here hx rfl (hb hby at_3) rfl ?_
    show Steps p.tables e below (s₁.setTop (mkF m 4 #[.val (.int p0), .val (.int p1), .val (.int p2), .unset, .unset, .unset, .unset, .unset, .unset] [(.int (p0 &&& (2147483647 : Int32)))])) _
    refine XS.bipush X0.here hx rfl (hb hby at_4) ?_
    show Steps p.tables e below (s₁.setTop (mkF m 6 #[.val (.int p0), .val (.int p1), .val (.int p2), .unset, .unset, .unset, .unset, .unset, .unset] [(.int (6 : Int32)), (.int (p0 &&& (2147483647 : Int32)))])) _
    refine Jvm.RoadKit.iremM X0 hx rfl (hb hby at_6) rfl (by decide) ?_
    exact k)
  obtain ⟨v2, hv2⟩ : ∃ z : Int32, z = ((p0 &&& (2147483647 : Int32)) % (6 : Int32)) := ⟨_, rfl⟩
  rw [← hv2] at ks1
  have ks3 : own_R p e below (s₁.setTop (entryFrame m #[(.int p0), (.int p1), (.int p2)] maxLocals)) (s₁.setTop (mkF m 15 #[.val (.int p0), .val (.int p1), .val (.int p2), .val (.int v2), .unset, .unset, .unset, .unset, .unset] [(.int ((p1 &&& (2147483647 : Int32)) % (6 : Int32)))])) := fun t k => ks1 t (by
    show Steps p.tables e below (s₁.setTop (mkF m 7 #[.val (.int p0), .val (.int p1), .val (.int p2), .unset, .unset, .unset, .unset, .unset, .unset] [(.int v2)])) _
    refine XS.istoreN X0.here hx rfl (hb hby at_7) rfl (l' := #[.val (.int p0), .val (.int p1), .val (.int p2), .val (.int v2), .unset, .unset, .unset, .unset, .unset]) rfl ?_
    show Steps p.tables e below (s₁.setTop (mkF m 8 #[.val (.int p0), .val (.int p1), .val (.int p2), .val (.int v2), .unset, .unset, .unset, .unset, .unset] [])) _
    refine XS.iloadN X0.here hx rfl (hb hby at_8) rfl ?_
    show Steps p.tables e below (s₁.setTop (mkF m 9 #[.val (.int p0), .val (.int p1), .val (.int p2), .val (.int v2), .unset, .unset, .unset, .unset, .unset] [(.int p1)])) _
    refine X0.ldcInt hx hown (mvT hZ (hw _ (List.mem_of_getElem? (i := 0) rfl))) (g := (mkF m 9 #[.val (.int p0), .val (.int p1), .val (.int p2), .val (.int v2), .unset, .unset, .unset, .unset, .unset] [(.int p1)])) rfl (hb hby at_9) _ ?_
    show Steps p.tables e below (s₁.setTop (mkF m 11 #[.val (.int p0), .val (.int p1), .val (.int p2), .val (.int v2), .unset, .unset, .unset, .unset, .unset] [(.int (2147483647 : Int32)), (.int p1)])) _
    refine XS.iand X0.here hx rfl (hb hby at_11) rfl ?_
    show Steps p.tables e below (s₁.setTop (mkF m 12 #[.val (.int p0), .val (.int p1), .val (.int p2), .val (.int v2), .unset, .unset, .unset, .unset, .unset] [(.int (p1 &&& (2147483647 : Int32)))])) _
    refine XS.bipush X0.here hx rfl (hb hby at_12) ?_
    show Steps p.tables e below (s₁.setTop (mkF m 14 #[.val (.int p0), .val (.int p1), .val (.int p2), .val (.int v2), .unset, .unset, .unset, .unset, .unset] [(.int (6 : Int32)), (.int (p1 &&& (2147483647 : Int32)))])) _
    refine Jvm.RoadKit.iremM X0 hx rfl (hb hby at_14) rfl (by decide) ?_
    exact k)
  obtain ⟨v4, hv4⟩ : ∃ z : Int32, z = ((p1 &&& (2147483647 : Int32)) % (6 : Int32)) := ⟨_, rfl⟩
  rw [← hv4] at ks3
  have ks7 : own_R p e below (s₁.setTop (entryFrame m #[(.int p0), (.int p1), (.int p2)] maxLocals)) (s₁.setTop (mkF m 20 #[.val (.int p0), .val (.int p1), .val (.int p2), .val (.int v2), .val (.int v4), .unset, .unset, .unset, .unset] [(.int (p2 &&& (1 : Int32)))])) := fun t k => ks3 t (by
    show Steps p.tables e below (s₁.setTop (mkF m 15 #[.val (.int p0), .val (.int p1), .val (.int p2), .val (.int v2), .unset, .unset, .unset, .unset, .unset] [(.int v4)])) _
    refine XS.istore X0.here hx rfl (hb hby at_15) rfl (l' := #[.val (.int p0), .val (.int p1), .val (.int p2), .val (.int v2), .val (.int v4), .unset, .unset, .unset, .unset]) rfl ?_
    show Steps p.tables e below (s₁.setTop (mkF m 17 #[.val (.int p0), .val (.int p1), .val (.int p2), .val (.int v2), .val (.int v4), .unset, .unset, .unset, .unset] [])) _
    refine XS.iloadN X0.here hx rfl (hb hby at_17) rfl ?_
    show Steps p.tables e below (s₁.setTop (mkF m 18 #[.val (.int p0), .val (.int p1), .val (.int p2), .val (.int v2), .val (.int v4), .unset, .unset, .unset, .unset] [(.int p2)])) _
    refine XS.iconst X0.here hx rfl (hb hby at_18) ?_
    show Steps p.tables e below (s₁.setTop (mkF m 19 #[.val (.int p0), .val (.int p1), .val (.int p2), .val (.int v2), .val (.int v4), .unset, .unset, .unset, .unset] [(.int (1 : Int32)), (.int p2)])) _
    refine XS.iand X0.here hx rfl (hb hby at_19) rfl ?_
    exact k)
  obtain ⟨v6, hv6⟩ : ∃ z : Int32, z = (if (p2 &&& (1 : Int32)) = (0 : Int32) then (0 : Int32) else (1 : Int32)) := ⟨_, rfl⟩
  have ks8 : own_R p e below (s₁.setTop (entryFrame m #[(.int p0), (.int p1), (.int p2)] maxLocals)) (s₁.setTop (mkF m 28 #[.val (.int p0), .val (.int p1), .val (.int p2), .val (.int v2), .val (.int v4), .unset, .unset, .unset, .unset] [(.int v6)])) := fun t k => ks7 t (by
    by_cases hc5 : (p2 &&& (1 : Int32)) = (0 : Int32)
    · skip
      have qq9 : v6 = (0 : Int32) := by rw [hv6, if_pos hc5]
      rw [qq9] at k
      show Steps p.tables e below (s₁.setTop (mkF m 20 #[.val (.int p0), .val (.int p1), .val (.int p2), .val (.int v2), .val (.int v4), .unset, .unset, .unset, .unset] [(.int (p2 &&& (1 : Int32)))])) _
      refine XS.ifYes X0.here hx rfl (pc0 := 20) (pc' := 27) rfl (hb hby at_20) rfl ((if0 _ _).trans (teq hc5).1) (by decide) (by decide) ?_
      show Steps p.tables e below (s₁.setTop (mkF m 27 #[.val (.int p0), .val (.int p1), .val (.int p2), .val (.int v2), .val (.int v4), .unset, .unset, .unset, .unset] [])) _
      refine XS.iconst X0.here hx rfl (hb hby at_27) ?_
      exact k
    · skip
      have qq10 : v6 = (1 : Int32) := by rw [hv6, if_neg hc5]
      rw [qq10] at k
      show Steps p.tables e below (s₁.setTop (mkF m 20 #[.val (.int p0), .val (.int p1), .val (.int p2), .val (.int v2), .val (.int v4), .unset, .unset, .unset, .unset] [(.int (p2 &&& (1 : Int32)))])) _
      refine XS.ifNo X0.here hx rfl (hb hby at_20) rfl ((if0 _ _).trans (feq hc5).1) ?_
      show Steps p.tables e below (s₁.setTop (mkF m 23 #[.val (.int p0), .val (.int p1), .val (.int p2), .val (.int v2), .val (.int v4), .unset, .unset, .unset, .unset] [])) _
      refine XS.iconst X0.here hx rfl (hb hby at_23) ?_
      show Steps p.tables e below (s₁.setTop (mkF m 24 #[.val (.int p0), .val (.int p1), .val (.int p2), .val (.int v2), .val (.int v4), .unset, .unset, .unset, .unset] [(.int (1 : Int32))])) _
      refine XS.goto X0.here hx rfl (pc0 := 24) (pc' := 28) rfl (hb hby at_24) (by decide) (by decide) ?_
      exact k)
  have ks11 : own_R p e below (s₁.setTop (entryFrame m #[(.int p0), (.int p1), (.int p2)] maxLocals)) (s₁.setTop (mkF m 31 #[.val (.int p0), .val (.int p1), .val (.int p2), .val (.int v2), .val (.int v4), .val (.int v6), .unset, .unset, .unset] [(.int v2)])) := fun t k => ks8 t (by
    show Steps p.tables e below (s₁.setTop (mkF m 28 #[.val (.int p0), .val (.int p1), .val (.int p2), .val (.int v2), .val (.int v4), .unset, .unset, .unset, .unset] [(.int v6)])) _
    refine XS.istore X0.here hx rfl (hb hby at_28) rfl (l' := #[.val (.int p0), .val (.int p1), .val (.int p2), .val (.int v2), .val (.int v4), .val (.int v6), .unset, .unset, .unset]) rfl ?_
    show Steps p.tables e below (s₁.setTop (mkF m 30 #[.val (.int p0), .val (.int p1), .val (.int p2), .val (.int v2), .val (.int v4), .val (.int v6), .unset, .unset, .unset] [])) _
    refine XS.iloadN X0.here hx rfl (hb hby at_30) rfl ?_
    exact k)
  obtain ⟨_, _, ⟨T12, L12, k12, n12⟩, -, X12, ⟨Lc12, hQ12, lq12, yq12, zq12⟩, st12⟩ := Jvm.LawKit.callS X0 hx (y := (⟨"com/example/nodeward/nodeward/model/ExtendedDecisionDiffersFromPinLaw", "pick", "(I)Lcom/example/nodeward/nodeward/model/ExtendedDecision;"⟩ : MethodName)) hown (mvT hZ (hw _ (List.mem_of_getElem? (i := 1) rfl))) (mvT hZ (hw _ (List.mem_of_getElem? (i := 2) rfl))) (mvT hZ (hw _ (List.mem_of_getElem? (i := 3) rfl))) (mvT hZ (hw _ (List.mem_of_getElem? (i := 4) rfl))) (by decide) (backOf (W := 0) (rm1 l Z a0 hw [] v2 s_ExtendedDecision_PERMIT s_ExtendedDecision_DENY s_ExtendedDecision_NOT_APPLICABLE s_INDETERMINATE_D s_INDETERMINATE_P s_INDETERMINATE_DP h0 n0 Z0 S_s_ExtendedDecision_PERMIT S_s_ExtendedDecision_DENY S_s_ExtendedDecision_NOT_APPLICABLE S_s_INDETERMINATE_D S_s_INDETERMINATE_P S_s_INDETERMINATE_DP) hZ (hw _ (List.mem_of_getElem? (i := 4) rfl)) (hw _ (List.mem_of_getElem? (i := 3) rfl)) (by decide) (by decide)) (g := (mkF m 31 #[.val (.int p0), .val (.int p1), .val (.int p2), .val (.int v2), .val (.int v4), .val (.int v6), .unset, .unset, .unset] [(.int v2)])) rfl (by rw [hml]; rfl) (argsL := [(.int v2)]) (rest := []) (lenOf pd_0 rfl) rfl (by show 2 * 0 + _ ≤ _; exact Nat.le_of_eq rfl) (hb hby at_31) (fun _ _ => ⟨rfl, e0, (by decide : 0 + 0 ≤ _), (by decide : 0 + 0 ≤ _)⟩)
  dsimp only [Pt.U, Pt.locs, Pt.cells, Pt.slots] at X12 lq12 yq12 zq12 st12 hQ12
  subst lq12 yq12 zq12
  obtain ⟨rfl, Nq12, eq12⟩ := hQ12
  have N12 := Fr.app N0 Nq12
  obtain ⟨r12, hr12⟩ : ∃ z : Addr, z = (own_pick v2 s_ExtendedDecision_PERMIT s_ExtendedDecision_DENY s_ExtendedDecision_NOT_APPLICABLE s_INDETERMINATE_D s_INDETERMINATE_P s_INDETERMINATE_DP) := ⟨_, rfl⟩
  obtain ⟨d12, hd12⟩ : ∃ z : Addr, z = (own_pick v2 s_Decision_PERMIT s_Decision_DENY s_Decision_NOT_APPLICABLE s_INDETERMINATE s_INDETERMINATE s_INDETERMINATE) := ⟨_, rfl⟩
  rw [← hr12] at st12
  have EP12 : Exa Z h0 r12 "com/example/nodeward/nodeward/model/ExtendedDecision" := by rw [hr12]; exact own_exa _ E_s_ExtendedDecision_PERMIT E_s_ExtendedDecision_DENY E_s_ExtendedDecision_NOT_APPLICABLE E_s_INDETERMINATE_D E_s_INDETERMINATE_P E_s_INDETERMINATE_DP
  have FP12 : Fld Z h0 r12 "com/example/nodeward/nodeward/model/ExtendedDecision" "decision" "Lcom/example/nodeward/nodeward/model/Decision;" (.ref d12) := by rw [hr12, hd12]; exact own_fld _ F_s_ExtendedDecision_PERMIT_decision F_s_ExtendedDecision_DENY_decision F_s_ExtendedDecision_NOT_APPLICABLE_decision F_s_INDETERMINATE_D_decision F_s_INDETERMINATE_P_decision F_s_INDETERMINATE_DP_decision
  have ks13 : own_R p e below (s₁.setTop (entryFrame m #[(.int p0), (.int p1), (.int p2)] maxLocals)) (T12.setTop (mkF m 34 #[.val (.int p0), .val (.int p1), .val (.int p2), .val (.int v2), .val (.int v4), .val (.int v6), .unset, .unset, .unset] [(.ref r12)])) := fun t k => ks11 t (st12 t k)
  have ks14 : own_R p e below (s₁.setTop (entryFrame m #[(.int p0), (.int p1), (.int p2)] maxLocals)) (T12.setTop (mkF m 38 #[.val (.int p0), .val (.int p1), .val (.int p2), .val (.int v2), .val (.int v4), .val (.int v6), .val (.ref r12), .unset, .unset] [(.int v4)])) := fun t k => ks13 t (by
    show Steps p.tables e below (T12.setTop (mkF m 34 #[.val (.int p0), .val (.int p1), .val (.int p2), .val (.int v2), .val (.int v4), .val (.int v6), .unset, .unset, .unset] [(.ref r12)])) _
    refine XS.astore X12.here hx rfl (hb hby at_34) rfl rfl (l' := #[.val (.int p0), .val (.int p1), .val (.int p2), .val (.int v2), .val (.int v4), .val (.int v6), .val (.ref r12), .unset, .unset]) rfl ?_
    show Steps p.tables e below (T12.setTop (mkF m 36 #[.val (.int p0), .val (.int p1), .val (.int p2), .val (.int v2), .val (.int v4), .val (.int v6), .val (.ref r12), .unset, .unset] [])) _
    refine XS.iload X12.here hx rfl (hb hby at_36) rfl ?_
    exact k)
  obtain ⟨_, _, ⟨T15, L15, k15, n15⟩, -, X15, ⟨Lc15, hQ15, lq15, yq15, zq15⟩, st15⟩ := Jvm.LawKit.callS X12 hx (y := (⟨"com/example/nodeward/nodeward/model/ExtendedDecisionDiffersFromPinLaw", "pick", "(I)Lcom/example/nodeward/nodeward/model/ExtendedDecision;"⟩ : MethodName)) hown (mvT hZ (hw _ (List.mem_of_getElem? (i := 1) rfl))) (mvT hZ (hw _ (List.mem_of_getElem? (i := 2) rfl))) (mvT hZ (hw _ (List.mem_of_getElem? (i := 3) rfl))) (mvT hZ (hw _ (List.mem_of_getElem? (i := 4) rfl))) (by decide) (backOf (W := 0) (rm1 l Z a0 hw [] v4 s_ExtendedDecision_PERMIT s_ExtendedDecision_DENY s_ExtendedDecision_NOT_APPLICABLE s_INDETERMINATE_D s_INDETERMINATE_P s_INDETERMINATE_DP h0 n0 Z0 S_s_ExtendedDecision_PERMIT S_s_ExtendedDecision_DENY S_s_ExtendedDecision_NOT_APPLICABLE S_s_INDETERMINATE_D S_s_INDETERMINATE_P S_s_INDETERMINATE_DP) hZ (hw _ (List.mem_of_getElem? (i := 4) rfl)) (hw _ (List.mem_of_getElem? (i := 3) rfl)) (by decide) (by decide)) (g := (mkF m 38 #[.val (.int p0), .val (.int p1), .val (.int p2), .val (.int v2), .val (.int v4), .val (.int v6), .val (.ref r12), .unset, .unset] [(.int v4)])) rfl (by rw [hml]; rfl) (argsL := [(.int v4)]) (rest := []) (lenOf pd_0 rfl) rfl (by show 2 * 0 + _ ≤ _; exact Nat.le_of_eq rfl) (hb hby at_38) (fun _ _ => ⟨rfl, eq12, (by decide : 0 + 0 ≤ _), (by decide : 0 + 0 ≤ _)⟩)
  dsimp only [Pt.U, Pt.locs, Pt.cells, Pt.slots] at X15 lq15 yq15 zq15 st15 hQ15
  subst lq15 yq15 zq15
  obtain ⟨rfl, Nq15, eq15⟩ := hQ15
  have N15 := Fr.app N12 Nq15
  obtain ⟨r15, hr15⟩ : ∃ z : Addr, z = (own_pick v4 s_ExtendedDecision_PERMIT s_ExtendedDecision_DENY s_ExtendedDecision_NOT_APPLICABLE s_INDETERMINATE_D s_INDETERMINATE_P s_INDETERMINATE_DP) := ⟨_, rfl⟩
  obtain ⟨d15, hd15⟩ : ∃ z : Addr, z = (own_pick v4 s_Decision_PERMIT s_Decision_DENY s_Decision_NOT_APPLICABLE s_INDETERMINATE s_INDETERMINATE s_INDETERMINATE) := ⟨_, rfl⟩
  rw [← hr15] at st15
  have EP15 : Exa Z h0 r15 "com/example/nodeward/nodeward/model/ExtendedDecision" := by rw [hr15]; exact own_exa _ E_s_ExtendedDecision_PERMIT E_s_ExtendedDecision_DENY E_s_ExtendedDecision_NOT_APPLICABLE E_s_INDETERMINATE_D E_s_INDETERMINATE_P E_s_INDETERMINATE_DP
  have FP15 : Fld Z h0 r15 "com/example/nodeward/nodeward/model/ExtendedDecision" "decision" "Lcom/example/nodeward/nodeward/model/Decision;" (.ref d15) := by rw [hr15, hd15]; exact own_fld _ F_s_ExtendedDecision_PERMIT_decision F_s_ExtendedDecision_DENY_decision F_s_ExtendedDecision_NOT_APPLICABLE_decision F_s_INDETERMINATE_D_decision F_s_INDETERMINATE_P_decision F_s_INDETERMINATE_DP_decision
  have ks16 : own_R p e below (s₁.setTop (entryFrame m #[(.int p0), (.int p1), (.int p2)] maxLocals)) (T15.setTop (mkF m 41 #[.val (.int p0), .val (.int p1), .val (.int p2), .val (.int v2), .val (.int v4), .val (.int v6), .val (.ref r12), .unset, .unset] [(.ref r15)])) := fun t k => ks14 t (st15 t k)
  have ks17 : own_R p e below (s₁.setTop (entryFrame m #[(.int p0), (.int p1), (.int p2)] maxLocals)) (T15.setTop (mkF m 45 #[.val (.int p0), .val (.int p1), .val (.int p2), .val (.int v2), .val (.int v4), .val (.int v6), .val (.ref r12), .val (.ref r15), .unset] [(.int v6)])) := fun t k => ks16 t (by
    show Steps p.tables e below (T15.setTop (mkF m 41 #[.val (.int p0), .val (.int p1), .val (.int p2), .val (.int v2), .val (.int v4), .val (.int v6), .val (.ref r12), .unset, .unset] [(.ref r15)])) _
    refine XS.astore X15.here hx rfl (hb hby at_41) rfl rfl (l' := #[.val (.int p0), .val (.int p1), .val (.int p2), .val (.int v2), .val (.int v4), .val (.int v6), .val (.ref r12), .val (.ref r15), .unset]) rfl ?_
    show Steps p.tables e below (T15.setTop (mkF m 43 #[.val (.int p0), .val (.int p1), .val (.int p2), .val (.int v2), .val (.int v4), .val (.int v6), .val (.ref r12), .val (.ref r15), .unset] [])) _
    refine XS.iload X15.here hx rfl (hb hby at_43) rfl ?_
    exact k)
  obtain ⟨v38, hv38⟩ : ∃ z : Int32, z = (if v6 = (0 : Int32) then (if (own_written v2) = (own_written v4) then (0 : Int32) else (1 : Int32)) else (if v2 = v4 then (0 : Int32) else (1 : Int32))) := ⟨_, rfl⟩
  obtain ⟨T39, L39, X39, N39, e39, k39⟩ : ∃ T' L', Stand p l e room_1 s m #[(.int p0), (.int p1), (.int p2)] below meth c T' L' 0 0 ∧ Fr n0 L' ∧ T'.heap = h0 ∧ own_R p e below (s₁.setTop (entryFrame m #[(.int p0), (.int p1), (.int p2)] maxLocals)) (T'.setTop (mkF m 83 #[.val (.int p0), .val (.int p1), .val (.int p2), .val (.int v2), .val (.int v4), .val (.int v6), .val (.ref r12), .val (.ref r15), .val (.int v38)] [])) := by
    by_cases hc18 : v6 = (0 : Int32)
    · skip
      have ks19 : own_R p e below (s₁.setTop (entryFrame m #[(.int p0), (.int p1), (.int p2)] maxLocals)) (T15.setTop (mkF m 65 #[.val (.int p0), .val (.int p1), .val (.int p2), .val (.int v2), .val (.int v4), .val (.int v6), .val (.ref r12), .val (.ref r15), .unset] [(.int v2)])) := fun t k => ks17 t (by
        show Steps p.tables e below (T15.setTop (mkF m 45 #[.val (.int p0), .val (.int p1), .val (.int p2), .val (.int v2), .val (.int v4), .val (.int v6), .val (.ref r12), .val (.ref r15), .unset] [(.int v6)])) _
        refine XS.ifYes X15.here hx rfl (pc0 := 45) (pc' := 64) rfl (hb hby at_45) rfl ((if0 _ _).trans (teq hc18).1) (by decide) (by decide) ?_
        show Steps p.tables e below (T15.setTop (mkF m 64 #[.val (.int p0), .val (.int p1), .val (.int p2), .val (.int v2), .val (.int v4), .val (.int v6), .val (.ref r12), .val (.ref r15), .unset] [])) _
        refine XS.iloadN X15.here hx rfl (hb hby at_64) rfl ?_
        exact k)
      obtain ⟨_, _, ⟨T20, L20, k20, n20⟩, -, X20, ⟨Lc20, hQ20, lq20, yq20, zq20⟩, st20⟩ := Jvm.LawKit.callS X15 hx (y := (⟨"com/example/nodeward/nodeward/model/ExtendedDecisionDiffersFromPinLaw", "written", "(I)I"⟩ : MethodName)) hown (mvT hZ (hw _ (List.mem_of_getElem? (i := 10) rfl))) (mvT hZ (hw _ (List.mem_of_getElem? (i := 11) rfl))) (mvT hZ (hw _ (List.mem_of_getElem? (i := 3) rfl))) (mvT hZ (hw _ (List.mem_of_getElem? (i := 12) rfl))) (by decide) (backOf (W := 0) (rm2 l Z a0 hw [] v2 h0 n0 Z0 ) hZ (hw _ (List.mem_of_getElem? (i := 12) rfl)) (hw _ (List.mem_of_getElem? (i := 3) rfl)) (by decide) (by decide)) (g := (mkF m 65 #[.val (.int p0), .val (.int p1), .val (.int p2), .val (.int v2), .val (.int v4), .val (.int v6), .val (.ref r12), .val (.ref r15), .unset] [(.int v2)])) rfl (by rw [hml]; rfl) (argsL := [(.int v2)]) (rest := []) (lenOf pd_1 rfl) rfl (by show 2 * 0 + _ ≤ _; exact Nat.le_of_eq rfl) (hb hby at_65) (fun _ _ => ⟨rfl, eq15, (by decide : 0 + 0 ≤ _), (by decide : 0 + 0 ≤ _)⟩)
      dsimp only [Pt.U, Pt.locs, Pt.cells, Pt.slots] at X20 lq20 yq20 zq20 st20 hQ20
      subst lq20 yq20 zq20
      obtain ⟨rfl, Nq20, eq20⟩ := hQ20
      have N20 := Fr.app N15 Nq20
      have ks21 : own_R p e below (s₁.setTop (entryFrame m #[(.int p0), (.int p1), (.int p2)] maxLocals)) (T20.setTop (mkF m 68 #[.val (.int p0), .val (.int p1), .val (.int p2), .val (.int v2), .val (.int v4), .val (.int v6), .val (.ref r12), .val (.ref r15), .unset] [(.int (own_written v2))])) := fun t k => ks19 t (st20 t k)
      have ks22 : own_R p e below (s₁.setTop (entryFrame m #[(.int p0), (.int p1), (.int p2)] maxLocals)) (T20.setTop (mkF m 70 #[.val (.int p0), .val (.int p1), .val (.int p2), .val (.int v2), .val (.int v4), .val (.int v6), .val (.ref r12), .val (.ref r15), .unset] [(.int v4), (.int (own_written v2))])) := fun t k => ks21 t (by
        show Steps p.tables e below (T20.setTop (mkF m 68 #[.val (.int p0), .val (.int p1), .val (.int p2), .val (.int v2), .val (.int v4), .val (.int v6), .val (.ref r12), .val (.ref r15), .unset] [(.int (own_written v2))])) _
        refine XS.iload X20.here hx rfl (hb hby at_68) rfl ?_
        exact k)
      obtain ⟨_, _, ⟨T23, L23, k23, n23⟩, -, X23, ⟨Lc23, hQ23, lq23, yq23, zq23⟩, st23⟩ := Jvm.LawKit.callS X20 hx (y := (⟨"com/example/nodeward/nodeward/model/ExtendedDecisionDiffersFromPinLaw", "written", "(I)I"⟩ : MethodName)) hown (mvT hZ (hw _ (List.mem_of_getElem? (i := 10) rfl))) (mvT hZ (hw _ (List.mem_of_getElem? (i := 11) rfl))) (mvT hZ (hw _ (List.mem_of_getElem? (i := 3) rfl))) (mvT hZ (hw _ (List.mem_of_getElem? (i := 12) rfl))) (by decide) (backOf (W := 1) (rm2 l Z a0 hw [] v4 h0 n0 Z0 ) hZ (hw _ (List.mem_of_getElem? (i := 12) rfl)) (hw _ (List.mem_of_getElem? (i := 3) rfl)) (by decide) (by decide)) (g := (mkF m 70 #[.val (.int p0), .val (.int p1), .val (.int p2), .val (.int v2), .val (.int v4), .val (.int v6), .val (.ref r12), .val (.ref r15), .unset] [(.int v4), (.int (own_written v2))])) rfl (by rw [hml]; rfl) (argsL := [(.int v4)]) (rest := [(.int (own_written v2))]) (lenOf pd_1 rfl) rfl (by show 2 * 0 + _ ≤ _; exact Nat.le_of_eq rfl) (hb hby at_70) (fun _ _ => ⟨rfl, eq20, (by decide : 0 + 0 ≤ _), (by decide : 0 + 0 ≤ _)⟩)
      dsimp only [Pt.U, Pt.locs, Pt.cells, Pt.slots] at X23 lq23 yq23 zq23 st23 hQ23
      subst lq23 yq23 zq23
      obtain ⟨rfl, Nq23, eq23⟩ := hQ23
      have N23 := Fr.app N20 Nq23
      have ks24 : own_R p e below (s₁.setTop (entryFrame m #[(.int p0), (.int p1), (.int p2)] maxLocals)) (T23.setTop (mkF m 73 #[.val (.int p0), .val (.int p1), .val (.int p2), .val (.int v2), .val (.int v4), .val (.int v6), .val (.ref r12), .val (.ref r15), .unset] [(.int (own_written v4)), (.int (own_written v2))])) := fun t k => ks22 t (st23 t k)
      obtain ⟨v26, hv26⟩ : ∃ z : Int32, z = (if (own_written v2) = (own_written v4) then (0 : Int32) else (1 : Int32)) := ⟨_, rfl⟩
      have ks27 : own_R p e below (s₁.setTop (entryFrame m #[(.int p0), (.int p1), (.int p2)] maxLocals)) (T23.setTop (mkF m 81 #[.val (.int p0), .val (.int p1), .val (.int p2), .val (.int v2), .val (.int v4), .val (.int v6), .val (.ref r12), .val (.ref r15), .unset] [(.int v26)])) := fun t k => ks24 t (by
        by_cases hc25 : (own_written v2) = (own_written v4)
        · skip
          have qq28 : v26 = (0 : Int32) := by rw [hv26, if_pos hc25]
          rw [qq28] at k
          show Steps p.tables e below (T23.setTop (mkF m 73 #[.val (.int p0), .val (.int p1), .val (.int p2), .val (.int v2), .val (.int v4), .val (.int v6), .val (.ref r12), .val (.ref r15), .unset] [(.int (own_written v4)), (.int (own_written v2))])) _
          refine XS.icmpYes X23.here hx rfl (pc0 := 73) (pc' := 80) rfl (hb hby at_73) rfl (teq hc25).1 (by decide) (by decide) ?_
          show Steps p.tables e below (T23.setTop (mkF m 80 #[.val (.int p0), .val (.int p1), .val (.int p2), .val (.int v2), .val (.int v4), .val (.int v6), .val (.ref r12), .val (.ref r15), .unset] [])) _
          refine XS.iconst X23.here hx rfl (hb hby at_80) ?_
          exact k
        · skip
          have qq29 : v26 = (1 : Int32) := by rw [hv26, if_neg hc25]
          rw [qq29] at k
          show Steps p.tables e below (T23.setTop (mkF m 73 #[.val (.int p0), .val (.int p1), .val (.int p2), .val (.int v2), .val (.int v4), .val (.int v6), .val (.ref r12), .val (.ref r15), .unset] [(.int (own_written v4)), (.int (own_written v2))])) _
          refine XS.icmpNo X23.here hx rfl (hb hby at_73) rfl (feq hc25).1 ?_
          show Steps p.tables e below (T23.setTop (mkF m 76 #[.val (.int p0), .val (.int p1), .val (.int p2), .val (.int v2), .val (.int v4), .val (.int v6), .val (.ref r12), .val (.ref r15), .unset] [])) _
          refine XS.iconst X23.here hx rfl (hb hby at_76) ?_
          show Steps p.tables e below (T23.setTop (mkF m 77 #[.val (.int p0), .val (.int p1), .val (.int p2), .val (.int v2), .val (.int v4), .val (.int v6), .val (.ref r12), .val (.ref r15), .unset] [(.int (1 : Int32))])) _
          refine XS.goto X23.here hx rfl (pc0 := 77) (pc' := 81) rfl (hb hby at_77) (by decide) (by decide) ?_
          exact k)
      have ks30 : own_R p e below (s₁.setTop (entryFrame m #[(.int p0), (.int p1), (.int p2)] maxLocals)) (T23.setTop (mkF m 83 #[.val (.int p0), .val (.int p1), .val (.int p2), .val (.int v2), .val (.int v4), .val (.int v6), .val (.ref r12), .val (.ref r15), .val (.int v26)] [])) := fun t k => ks27 t (by
        show Steps p.tables e below (T23.setTop (mkF m 81 #[.val (.int p0), .val (.int p1), .val (.int p2), .val (.int v2), .val (.int v4), .val (.int v6), .val (.ref r12), .val (.ref r15), .unset] [(.int v26)])) _
        refine XS.istore X23.here hx rfl (hb hby at_81) rfl (l' := #[.val (.int p0), .val (.int p1), .val (.int p2), .val (.int v2), .val (.int v4), .val (.int v6), .val (.ref r12), .val (.ref r15), .val (.int v26)]) rfl ?_
        exact k)
      have qq40 : v38 = v26 := by
        subst hv26
        rw [hv38, if_pos hc18]
      have ks41 : own_R p e below (s₁.setTop (entryFrame m #[(.int p0), (.int p1), (.int p2)] maxLocals)) (T23.setTop (mkF m 83 #[.val (.int p0), .val (.int p1), .val (.int p2), .val (.int v2), .val (.int v4), .val (.int v6), .val (.ref r12), .val (.ref r15), .val (.int v38)] [])) := fun t k => ks30 t (by
        rw [qq40] at k
        exact k)
      exact ⟨T23, _, X23, N23, eq23, ks41⟩
    · skip
      have ks33 : own_R p e below (s₁.setTop (entryFrame m #[(.int p0), (.int p1), (.int p2)] maxLocals)) (T15.setTop (mkF m 51 #[.val (.int p0), .val (.int p1), .val (.int p2), .val (.int v2), .val (.int v4), .val (.int v6), .val (.ref r12), .val (.ref r15), .unset] [(.int v4), (.int v2)])) := fun t k => ks17 t (by
        show Steps p.tables e below (T15.setTop (mkF m 45 #[.val (.int p0), .val (.int p1), .val (.int p2), .val (.int v2), .val (.int v4), .val (.int v6), .val (.ref r12), .val (.ref r15), .unset] [(.int v6)])) _
        refine XS.ifNo X15.here hx rfl (hb hby at_45) rfl ((if0 _ _).trans (feq hc18).1) ?_
        show Steps p.tables e below (T15.setTop (mkF m 48 #[.val (.int p0), .val (.int p1), .val (.int p2), .val (.int v2), .val (.int v4), .val (.int v6), .val (.ref r12), .val (.ref r15), .unset] [])) _
        refine XS.iloadN X15.here hx rfl (hb hby at_48) rfl ?_
        show Steps p.tables e below (T15.setTop (mkF m 49 #[.val (.int p0), .val (.int p1), .val (.int p2), .val (.int v2), .val (.int v4), .val (.int v6), .val (.ref r12), .val (.ref r15), .unset] [(.int v2)])) _
        refine XS.iload X15.here hx rfl (hb hby at_49) rfl ?_
        exact k)
      obtain ⟨v32, hv32⟩ : ∃ z : Int32, z = (if v2 = v4 then (0 : Int32) else (1 : Int32)) := ⟨_, rfl⟩
      have ks34 : own_R p e below (s₁.setTop (entryFrame m #[(.int p0), (.int p1), (.int p2)] maxLocals)) (T15.setTop (mkF m 59 #[.val (.int p0), .val (.int p1), .val (.int p2), .val (.int v2), .val (.int v4), .val (.int v6), .val (.ref r12), .val (.ref r15), .unset] [(.int v32)])) := fun t k => ks33 t (by
        by_cases hc31 : v2 = v4
        · skip
          have qq35 : v32 = (0 : Int32) := by rw [hv32, if_pos hc31]
          rw [qq35] at k
          show Steps p.tables e below (T15.setTop (mkF m 51 #[.val (.int p0), .val (.int p1), .val (.int p2), .val (.int v2), .val (.int v4), .val (.int v6), .val (.ref r12), .val (.ref r15), .unset] [(.int v4), (.int v2)])) _
          refine XS.icmpYes X15.here hx rfl (pc0 := 51) (pc' := 58) rfl (hb hby at_51) rfl (teq hc31).1 (by decide) (by decide) ?_
          show Steps p.tables e below (T15.setTop (mkF m 58 #[.val (.int p0), .val (.int p1), .val (.int p2), .val (.int v2), .val (.int v4), .val (.int v6), .val (.ref r12), .val (.ref r15), .unset] [])) _
          refine XS.iconst X15.here hx rfl (hb hby at_58) ?_
          exact k
        · skip
          have qq36 : v32 = (1 : Int32) := by rw [hv32, if_neg hc31]
          rw [qq36] at k
          show Steps p.tables e below (T15.setTop (mkF m 51 #[.val (.int p0), .val (.int p1), .val (.int p2), .val (.int v2), .val (.int v4), .val (.int v6), .val (.ref r12), .val (.ref r15), .unset] [(.int v4), (.int v2)])) _
          refine XS.icmpNo X15.here hx rfl (hb hby at_51) rfl (feq hc31).1 ?_
          show Steps p.tables e below (T15.setTop (mkF m 54 #[.val (.int p0), .val (.int p1), .val (.int p2), .val (.int v2), .val (.int v4), .val (.int v6), .val (.ref r12), .val (.ref r15), .unset] [])) _
          refine XS.iconst X15.here hx rfl (hb hby at_54) ?_
          show Steps p.tables e below (T15.setTop (mkF m 55 #[.val (.int p0), .val (.int p1), .val (.int p2), .val (.int v2), .val (.int v4), .val (.int v6), .val (.ref r12), .val (.ref r15), .unset] [(.int (1 : Int32))])) _
          refine XS.goto X15.here hx rfl (pc0 := 55) (pc' := 59) rfl (hb hby at_55) (by decide) (by decide) ?_
          exact k)
      have ks37 : own_R p e below (s₁.setTop (entryFrame m #[(.int p0), (.int p1), (.int p2)] maxLocals)) (T15.setTop (mkF m 83 #[.val (.int p0), .val (.int p1), .val (.int p2), .val (.int v2), .val (.int v4), .val (.int v6), .val (.ref r12), .val (.ref r15), .val (.int v32)] [])) := fun t k => ks34 t (by
        show Steps p.tables e below (T15.setTop (mkF m 59 #[.val (.int p0), .val (.int p1), .val (.int p2), .val (.int v2), .val (.int v4), .val (.int v6), .val (.ref r12), .val (.ref r15), .unset] [(.int v32)])) _
        refine XS.istore X15.here hx rfl (hb hby at_59) rfl (l' := #[.val (.int p0), .val (.int p1), .val (.int p2), .val (.int v2), .val (.int v4), .val (.int v6), .val (.ref r12), .val (.ref r15), .val (.int v32)]) rfl ?_
        show Steps p.tables e below (T15.setTop (mkF m 61 #[.val (.int p0), .val (.int p1), .val (.int p2), .val (.int v2), .val (.int v4), .val (.int v6), .val (.ref r12), .val (.ref r15), .val (.int v32)] [])) _
        refine XS.goto X15.here hx rfl (pc0 := 61) (pc' := 83) rfl (hb hby at_61) (by decide) (by decide) ?_
        exact k)
      have qq42 : v38 = v32 := by
        subst hv32
        rw [hv38, if_neg hc18]
      have ks43 : own_R p e below (s₁.setTop (entryFrame m #[(.int p0), (.int p1), (.int p2)] maxLocals)) (T15.setTop (mkF m 83 #[.val (.int p0), .val (.int p1), .val (.int p2), .val (.int v2), .val (.int v4), .val (.int v6), .val (.ref r12), .val (.ref r15), .val (.int v38)] [])) := fun t k => ks37 t (by
        rw [qq42] at k
        exact k)
      exact ⟨T15, _, X15, N15, eq15, ks43⟩
  have ks44 : own_R p e below (s₁.setTop (entryFrame m #[(.int p0), (.int p1), (.int p2)] maxLocals)) (T39.setTop (mkF m 89 #[.val (.int p0), .val (.int p1), .val (.int p2), .val (.int v2), .val (.int v4), .val (.int v6), .val (.ref r12), .val (.ref r15), .val (.int v38)] [(.int v6), (.ref r15), (.ref r12)])) := fun t k => k39 t (by
    show Steps p.tables e below (T39.setTop (mkF m 83 #[.val (.int p0), .val (.int p1), .val (.int p2), .val (.int v2), .val (.int v4), .val (.int v6), .val (.ref r12), .val (.ref r15), .val (.int v38)] [])) _
    refine XS.aload X39.here hx rfl (hb hby at_83) rfl rfl ?_
    show Steps p.tables e below (T39.setTop (mkF m 85 #[.val (.int p0), .val (.int p1), .val (.int p2), .val (.int v2), .val (.int v4), .val (.int v6), .val (.ref r12), .val (.ref r15), .val (.int v38)] [(.ref r12)])) _
    refine XS.aload X39.here hx rfl (hb hby at_85) rfl rfl ?_
    show Steps p.tables e below (T39.setTop (mkF m 87 #[.val (.int p0), .val (.int p1), .val (.int p2), .val (.int v2), .val (.int v4), .val (.int v6), .val (.ref r12), .val (.ref r15), .val (.int v38)] [(.ref r15), (.ref r12)])) _
    refine XS.iload X39.here hx rfl (hb hby at_87) rfl ?_
    exact k)
  obtain ⟨cq45, kq45, q45a, q45b, q45c⟩ := isOf hZ e39 EP12
  obtain ⟨_, _, ⟨T45, L45, k45, n45⟩, -, X45, ⟨Lc45, hQ45, lq45, yq45, zq45⟩, st45⟩ := X39.virtualBack hx (y := (⟨"com/example/nodeward/nodeward/model/ExtendedDecision", "differsFrom", "(Lcom/example/nodeward/nodeward/model/ExtendedDecision;Z)Z"⟩ : MethodName)) (z := (⟨"com/example/nodeward/nodeward/model/ExtendedDecision", "differsFrom", "(Lcom/example/nodeward/nodeward/model/ExtendedDecision;Z)Z"⟩ : MethodName)) hown (mvT hZ (hw _ (List.mem_of_getElem? (i := 13) rfl))) (mvT hZ (hw _ (List.mem_of_getElem? (i := 14) rfl))) (notFace_of_selects (args := #[]) (mvT hZ (hw _ (List.mem_of_getElem? (i := 16) rfl)))) (mvT hZ (hw _ (List.mem_of_getElem? (i := 16) rfl))) (mvT hZ (hw _ (List.mem_of_getElem? (i := 15) rfl))) (by decide) (backOf (W := 0) (rm3 l Z a0 hw [] r12 r15 v6 d12 d15 h0 n0 Z0 FP12 FP15) hZ (hw _ (List.mem_of_getElem? (i := 17) rfl)) (hw _ (List.mem_of_getElem? (i := 6) rfl)) (by decide) (by decide)) q45a q45c (g := (mkF m 89 #[.val (.int p0), .val (.int p1), .val (.int p2), .val (.int v2), .val (.int v4), .val (.int v6), .val (.ref r12), .val (.ref r15), .val (.int v38)] [(.int v6), (.ref r15), (.ref r12)])) rfl (by rw [hml]; rfl) (Steps.refl _) (argsL := [(.ref r15), (.int v6)]) (rest := []) (lenOf pd_2 rfl) rfl (by show 2 * 0 + _ ≤ _; exact Nat.le_of_eq rfl) (hb hby at_89) (fun _ _ => ⟨rfl, e39, (by decide : 0 + 0 ≤ _), (by decide : 0 + 0 ≤ _)⟩)
  dsimp only [Pt.U, Pt.locs, Pt.cells, Pt.slots] at X45 lq45 yq45 zq45 st45 hQ45
  subst lq45 yq45 zq45
  obtain ⟨rfl, Nq45, eq45⟩ := hQ45
  have N45 := Fr.app N39 Nq45
  have ks46 : own_R p e below (s₁.setTop (entryFrame m #[(.int p0), (.int p1), (.int p2)] maxLocals)) (T45.setTop (mkF m 92 #[.val (.int p0), .val (.int p1), .val (.int p2), .val (.int v2), .val (.int v4), .val (.int v6), .val (.ref r12), .val (.ref r15), .val (.int v38)] [(.int (own_dif r12 r15 v6 d12 d15))])) := fun t k => ks44 t (st45.trans k)
  have ks47 : own_R p e below (s₁.setTop (entryFrame m #[(.int p0), (.int p1), (.int p2)] maxLocals)) (T45.setTop (mkF m 94 #[.val (.int p0), .val (.int p1), .val (.int p2), .val (.int v2), .val (.int v4), .val (.int v6), .val (.ref r12), .val (.ref r15), .val (.int v38)] [(.int v38), (.int (own_dif r12 r15 v6 d12 d15))])) := fun t k => ks46 t (by
    show Steps p.tables e below (T45.setTop (mkF m 92 #[.val (.int p0), .val (.int p1), .val (.int p2), .val (.int v2), .val (.int v4), .val (.int v6), .val (.ref r12), .val (.ref r15), .val (.int v38)] [(.int (own_dif r12 r15 v6 d12 d15))])) _
    refine XS.iload X45.here hx rfl (hb hby at_92) rfl ?_
    exact k)
  by_cases hc48 : (own_dif r12 r15 v6 d12 d15) = v38
  · skip
    have ks49 : own_R p e below (s₁.setTop (entryFrame m #[(.int p0), (.int p1), (.int p2)] maxLocals)) (T45.setTop (mkF m 102 #[.val (.int p0), .val (.int p1), .val (.int p2), .val (.int v2), .val (.int v4), .val (.int v6), .val (.ref r12), .val (.ref r15), .val (.int v38)] [(.int (1 : Int32))])) := fun t k => ks47 t (by
      show Steps p.tables e below (T45.setTop (mkF m 94 #[.val (.int p0), .val (.int p1), .val (.int p2), .val (.int v2), .val (.int v4), .val (.int v6), .val (.ref r12), .val (.ref r15), .val (.int v38)] [(.int v38), (.int (own_dif r12 r15 v6 d12 d15))])) _
      refine XS.icmpNo X45.here hx rfl (hb hby at_94) rfl (teq hc48).2 ?_
      show Steps p.tables e below (T45.setTop (mkF m 97 #[.val (.int p0), .val (.int p1), .val (.int p2), .val (.int v2), .val (.int v4), .val (.int v6), .val (.ref r12), .val (.ref r15), .val (.int v38)] [])) _
      refine XS.iconst X45.here hx rfl (hb hby at_97) ?_
      show Steps p.tables e below (T45.setTop (mkF m 98 #[.val (.int p0), .val (.int p1), .val (.int p2), .val (.int v2), .val (.int v4), .val (.int v6), .val (.ref r12), .val (.ref r15), .val (.int v38)] [(.int (1 : Int32))])) _
      refine XS.goto X45.here hx rfl (pc0 := 98) (pc' := 102) rfl (hb hby at_98) (by decide) (by decide) ?_
      exact k)
    obtain ⟨fs, hr, hrun, hended, hW, hsame⟩ := X45.leave (v := some (.int (1 : Int32))) (fun h => by rw [Bd.returns] at h; cases h)
    refine ⟨_, _, ks49 _ ?_, hrun, hended, _, _, rfl, ?_, ⟨_, rfl⟩, hW, hsame.mono (by decide) (by decide)⟩
    · exact retN X45 hx (t := .boolean) Bd.returns (by simp) (hb hby at_102) hr
    · show Q0 Z p0 p1 p2 s_ExtendedDecision_PERMIT s_INDETERMINATE_D s_Decision_PERMIT s_INDETERMINATE s_ExtendedDecision_DENY s_ExtendedDecision_NOT_APPLICABLE s_INDETERMINATE_DP s_INDETERMINATE_P s_Decision_NOT_APPLICABLE s_Decision_DENY h0 n0 _ T45.heap _
      rw [eq45]
      exact ⟨rfl, N45⟩
  · skip
    have ks50 : own_R p e below (s₁.setTop (entryFrame m #[(.int p0), (.int p1), (.int p2)] maxLocals)) (T45.setTop (mkF m 102 #[.val (.int p0), .val (.int p1), .val (.int p2), .val (.int v2), .val (.int v4), .val (.int v6), .val (.ref r12), .val (.ref r15), .val (.int v38)] [(.int (0 : Int32))])) := fun t k => ks47 t (by
      show Steps p.tables e below (T45.setTop (mkF m 94 #[.val (.int p0), .val (.int p1), .val (.int p2), .val (.int v2), .val (.int v4), .val (.int v6), .val (.ref r12), .val (.ref r15), .val (.int v38)] [(.int v38), (.int (own_dif r12 r15 v6 d12 d15))])) _
      refine XS.icmpYes X45.here hx rfl (pc0 := 94) (pc' := 101) rfl (hb hby at_94) rfl (feq hc48).2 (by decide) (by decide) ?_
      show Steps p.tables e below (T45.setTop (mkF m 101 #[.val (.int p0), .val (.int p1), .val (.int p2), .val (.int v2), .val (.int v4), .val (.int v6), .val (.ref r12), .val (.ref r15), .val (.int v38)] [])) _
      refine XS.iconst X45.here hx rfl (hb hby at_101) ?_
      exact k)
    obtain ⟨fs, hr, hrun, hended, hW, hsame⟩ := X45.leave (v := some (.int (0 : Int32))) (fun h => by rw [Bd.returns] at h; cases h)
    refine ⟨_, _, ks50 _ ?_, hrun, hended, _, _, rfl, ?_, ⟨_, rfl⟩, hW, hsame.mono (by decide) (by decide)⟩
    · exact retN X45 hx (t := .boolean) Bd.returns (by simp) (hb hby at_102) hr
    · show Q0 Z p0 p1 p2 s_ExtendedDecision_PERMIT s_INDETERMINATE_D s_Decision_PERMIT s_INDETERMINATE s_ExtendedDecision_DENY s_ExtendedDecision_NOT_APPLICABLE s_INDETERMINATE_DP s_INDETERMINATE_P s_Decision_NOT_APPLICABLE s_Decision_DENY h0 n0 _ T45.heap _
      rw [eq45]
      exfalso
      apply hc48
      have i1 := own_inj (own_six p0) (own_six p1) (Fld.ne F_s_ExtendedDecision_PERMIT_ordinal F_s_ExtendedDecision_DENY_ordinal (by decide)) (Fld.ne F_s_ExtendedDecision_PERMIT_ordinal F_s_ExtendedDecision_NOT_APPLICABLE_ordinal (by decide)) (Fld.ne F_s_ExtendedDecision_PERMIT_ordinal F_s_INDETERMINATE_D_ordinal (by decide)) (Fld.ne F_s_ExtendedDecision_PERMIT_ordinal F_s_INDETERMINATE_P_ordinal (by decide)) (Fld.ne F_s_ExtendedDecision_PERMIT_ordinal F_s_INDETERMINATE_DP_ordinal (by decide)) (Fld.ne F_s_ExtendedDecision_DENY_ordinal F_s_ExtendedDecision_NOT_APPLICABLE_ordinal (by decide)) (Fld.ne F_s_ExtendedDecision_DENY_ordinal F_s_INDETERMINATE_D_ordinal (by decide)) (Fld.ne F_s_ExtendedDecision_DENY_ordinal F_s_INDETERMINATE_P_ordinal (by decide)) (Fld.ne F_s_ExtendedDecision_DENY_ordinal F_s_INDETERMINATE_DP_ordinal (by decide)) (Fld.ne F_s_ExtendedDecision_NOT_APPLICABLE_ordinal F_s_INDETERMINATE_D_ordinal (by decide)) (Fld.ne F_s_ExtendedDecision_NOT_APPLICABLE_ordinal F_s_INDETERMINATE_P_ordinal (by decide)) (Fld.ne F_s_ExtendedDecision_NOT_APPLICABLE_ordinal F_s_INDETERMINATE_DP_ordinal (by decide)) (Fld.ne F_s_INDETERMINATE_D_ordinal F_s_INDETERMINATE_P_ordinal (by decide)) (Fld.ne F_s_INDETERMINATE_D_ordinal F_s_INDETERMINATE_DP_ordinal (by decide)) (Fld.ne F_s_INDETERMINATE_P_ordinal F_s_INDETERMINATE_DP_ordinal (by decide))
      have i2 := own_dec (own_six p0) (own_six p1) (Fld.ne F_s_Decision_PERMIT_ordinal F_s_Decision_DENY_ordinal (by decide)) (Fld.ne F_s_Decision_PERMIT_ordinal F_s_Decision_NOT_APPLICABLE_ordinal (by decide)) (Fld.ne F_s_Decision_PERMIT_ordinal F_s_INDETERMINATE_ordinal (by decide)) (Fld.ne F_s_Decision_DENY_ordinal F_s_Decision_NOT_APPLICABLE_ordinal (by decide)) (Fld.ne F_s_Decision_DENY_ordinal F_s_INDETERMINATE_ordinal (by decide)) (Fld.ne F_s_Decision_NOT_APPLICABLE_ordinal F_s_INDETERMINATE_ordinal (by decide))
      subst hv38 hd15 hr15 hd12 hr12 hv6 hv4 hv2
      unfold own_dif
      simp only [i1, i2]
set_option maxRecDepth 65536 in
set_option maxHeartbeats 40000000 in
theorem comes_1 {Post : Tables → Env → Array Value → State → Outcome → State → Prop} (hpost : ∀ tb e args s v u, (limb_1_1.after args s (.returned v) u = true ∧ limb_1_2.after args s (.returned v) u = true ∧ True) → FrameEnd s (.returned v) u (Jvm.fieldLocs frame_1_writes args s ++ Jvm.arrayLocs frame_1_arrays args s ++ Jvm.staticLocs frame_1_statics s) 0 0 → Post tb e args s (.returned v) u) :
    ArmFor flags0 classFile x code maxLocals ret World_1 tables_1 room_1 Calls_1 rest_1 Pre_1 Post := by
  intro l hfl _ _ p e ha hc hk s m args below hf hA hF happ hP
  obtain ⟨hcalls, hrest, hpre⟩ := hP
  obtain ⟨-, -, -, hnamed, -, -, -, hat⟩ := (Spec.applies_iff hf).mp happ
  obtain ⟨hg, hn⟩ := and_e (Cond.before_iff.mp (show (Jvm.Cond.and given_1 narrow_1).before args s = true from hpre))
  obtain ⟨g1, g2⟩ := and_e hg
  obtain ⟨g3, g4⟩ := and_e g2
  obtain ⟨g5, g6⟩ := and_e g4
  obtain ⟨g7, g8⟩ := and_e hn
  obtain ⟨g9, g10⟩ := and_e g8
  obtain ⟨g11, g12⟩ := and_e g10
  obtain ⟨g13, g14⟩ := and_e g12
  obtain ⟨g15, g16⟩ := and_e g14
  obtain ⟨g17, g18⟩ := and_e g16
  obtain ⟨g19, g20⟩ := and_e g18
  obtain ⟨g21, g22⟩ := and_e g20
  obtain ⟨g23, g24⟩ := and_e g22
  obtain ⟨g25, g26⟩ := and_e g24
  obtain ⟨g27, g28⟩ := and_e g26
  obtain ⟨g29, g30⟩ := and_e g28
  obtain ⟨g31, g32⟩ := and_e g30
  obtain ⟨g33, g34⟩ := and_e g32
  obtain ⟨g35, g36⟩ := and_e g34
  obtain ⟨g37, g38⟩ := and_e g36
  obtain ⟨g39, g40⟩ := and_e g38
  obtain ⟨g41, g42⟩ := and_e g40
  obtain ⟨g43, g44⟩ := and_e g42
  obtain ⟨g45, g46⟩ := and_e g44
  obtain ⟨g47, g48⟩ := and_e g46
  obtain ⟨g49, g50⟩ := and_e g48
  obtain ⟨g51, g52⟩ := and_e g50
  obtain ⟨g53, g54⟩ := and_e g52
  obtain ⟨g55, g56⟩ := and_e g54
  obtain ⟨w0, w1, w2, rfl⟩ : ∃ w0 w1 w2 : Value, args = #[w0, w1, w2] := by
    have hs : args.size = 3 := by simpa [Cond.value, given_1] using g1
    obtain ⟨L⟩ := args
    match L, hs with
    | [w0, w1, w2], _ => exact ⟨w0, w1, w2, rfl⟩
  have hw := fun d (hd : d ∈ tables_1) => atoms_spec (ws := Jvm.Cond.code x code maxLocals ret :: tables_1) hat d (List.mem_cons_of_mem _ hd)
  have hfit : Fit s := fun {y c} hc i hi => by
    obtain ⟨ha, rfl⟩ := Array.getElem?_eq_some_iff.mp hc
    have q := List.all_eq_true.mp ((Array.all_eq_true_iff_forall_mem.mp hF) _ (Array.getElem_mem ha)) i (List.mem_range.mpr hi)
    simpa [Array.getElem?_eq_getElem hi] using q
  obtain ⟨i0, ei0⟩ := is_v g3
  obtain rfl : w0 = (.int i0) := Option.some.inj ei0
  obtain ⟨i1, ei1⟩ := is_v g5
  obtain rfl : w1 = (.int i1) := Option.some.inj ei1
  obtain ⟨i2, ei2⟩ := is_v g6
  obtain rfl : w2 = (.int i2) := Option.some.inj ei2
  obtain ⟨s_ExtendedDecision_PERMIT, ev_s_ExtendedDecision_PERMIT⟩ := exa_v g7
  have E_s_ExtendedDecision_PERMIT := Exa.start ev_s_ExtendedDecision_PERMIT g7
  have S_s_ExtendedDecision_PERMIT : Sta s s.heap "com/example/nodeward/nodeward/model/ExtendedDecision" "PERMIT" "Lcom/example/nodeward/nodeward/model/ExtendedDecision;" (.ref s_ExtendedDecision_PERMIT) := Sta.start ev_s_ExtendedDecision_PERMIT (Or.inr ⟨(hw _ (List.mem_of_getElem? (i := 6) rfl)), (hw _ (List.mem_of_getElem? (i := 7) rfl))⟩)
  obtain ⟨s_INDETERMINATE_D, ev_s_INDETERMINATE_D⟩ := exa_v g9
  have E_s_INDETERMINATE_D := Exa.start ev_s_INDETERMINATE_D g9
  have S_s_INDETERMINATE_D : Sta s s.heap "com/example/nodeward/nodeward/model/ExtendedDecision" "INDETERMINATE_D" "Lcom/example/nodeward/nodeward/model/ExtendedDecision;" (.ref s_INDETERMINATE_D) := Sta.start ev_s_INDETERMINATE_D (Or.inr ⟨(hw _ (List.mem_of_getElem? (i := 6) rfl)), (hw _ (List.mem_of_getElem? (i := 9) rfl))⟩)
  obtain ⟨s_Decision_PERMIT, ev_s_Decision_PERMIT⟩ := exa_v g11
  have E_s_Decision_PERMIT := Exa.start ev_s_Decision_PERMIT g11
  have S_s_Decision_PERMIT : Sta s s.heap "com/example/nodeward/nodeward/model/Decision" "PERMIT" "Lcom/example/nodeward/nodeward/model/Decision;" (.ref s_Decision_PERMIT) := Sta.start ev_s_Decision_PERMIT (Or.inr ⟨(hw _ (List.mem_of_getElem? (i := 20) rfl)), (hw _ (List.mem_of_getElem? (i := 21) rfl))⟩)
  obtain ⟨s_INDETERMINATE, ev_s_INDETERMINATE⟩ := exa_v g15
  have E_s_INDETERMINATE := Exa.start ev_s_INDETERMINATE g15
  have S_s_INDETERMINATE : Sta s s.heap "com/example/nodeward/nodeward/model/Decision" "INDETERMINATE" "Lcom/example/nodeward/nodeward/model/Decision;" (.ref s_INDETERMINATE) := Sta.start ev_s_INDETERMINATE (Or.inr ⟨(hw _ (List.mem_of_getElem? (i := 20) rfl)), (hw _ (List.mem_of_getElem? (i := 22) rfl))⟩)
  obtain ⟨s_ExtendedDecision_DENY, ev_s_ExtendedDecision_DENY⟩ := exa_v g23
  have E_s_ExtendedDecision_DENY := Exa.start ev_s_ExtendedDecision_DENY g23
  have S_s_ExtendedDecision_DENY : Sta s s.heap "com/example/nodeward/nodeward/model/ExtendedDecision" "DENY" "Lcom/example/nodeward/nodeward/model/ExtendedDecision;" (.ref s_ExtendedDecision_DENY) := Sta.start ev_s_ExtendedDecision_DENY (Or.inr ⟨(hw _ (List.mem_of_getElem? (i := 6) rfl)), (hw _ (List.mem_of_getElem? (i := 24) rfl))⟩)
  obtain ⟨s_ExtendedDecision_NOT_APPLICABLE, ev_s_ExtendedDecision_NOT_APPLICABLE⟩ := exa_v g29
  have E_s_ExtendedDecision_NOT_APPLICABLE := Exa.start ev_s_ExtendedDecision_NOT_APPLICABLE g29
  have S_s_ExtendedDecision_NOT_APPLICABLE : Sta s s.heap "com/example/nodeward/nodeward/model/ExtendedDecision" "NOT_APPLICABLE" "Lcom/example/nodeward/nodeward/model/ExtendedDecision;" (.ref s_ExtendedDecision_NOT_APPLICABLE) := Sta.start ev_s_ExtendedDecision_NOT_APPLICABLE (Or.inr ⟨(hw _ (List.mem_of_getElem? (i := 6) rfl)), (hw _ (List.mem_of_getElem? (i := 26) rfl))⟩)
  obtain ⟨s_INDETERMINATE_DP, ev_s_INDETERMINATE_DP⟩ := exa_v g31
  have E_s_INDETERMINATE_DP := Exa.start ev_s_INDETERMINATE_DP g31
  have S_s_INDETERMINATE_DP : Sta s s.heap "com/example/nodeward/nodeward/model/ExtendedDecision" "INDETERMINATE_DP" "Lcom/example/nodeward/nodeward/model/ExtendedDecision;" (.ref s_INDETERMINATE_DP) := Sta.start ev_s_INDETERMINATE_DP (Or.inr ⟨(hw _ (List.mem_of_getElem? (i := 6) rfl)), (hw _ (List.mem_of_getElem? (i := 28) rfl))⟩)
  obtain ⟨s_INDETERMINATE_P, ev_s_INDETERMINATE_P⟩ := exa_v g33
  have E_s_INDETERMINATE_P := Exa.start ev_s_INDETERMINATE_P g33
  have S_s_INDETERMINATE_P : Sta s s.heap "com/example/nodeward/nodeward/model/ExtendedDecision" "INDETERMINATE_P" "Lcom/example/nodeward/nodeward/model/ExtendedDecision;" (.ref s_INDETERMINATE_P) := Sta.start ev_s_INDETERMINATE_P (Or.inr ⟨(hw _ (List.mem_of_getElem? (i := 6) rfl)), (hw _ (List.mem_of_getElem? (i := 30) rfl))⟩)
  obtain ⟨s_Decision_NOT_APPLICABLE, ev_s_Decision_NOT_APPLICABLE⟩ := exa_v g43
  have E_s_Decision_NOT_APPLICABLE := Exa.start ev_s_Decision_NOT_APPLICABLE g43
  have S_s_Decision_NOT_APPLICABLE : Sta s s.heap "com/example/nodeward/nodeward/model/Decision" "NOT_APPLICABLE" "Lcom/example/nodeward/nodeward/model/Decision;" (.ref s_Decision_NOT_APPLICABLE) := Sta.start ev_s_Decision_NOT_APPLICABLE (Or.inr ⟨(hw _ (List.mem_of_getElem? (i := 20) rfl)), (hw _ (List.mem_of_getElem? (i := 31) rfl))⟩)
  obtain ⟨s_Decision_DENY, ev_s_Decision_DENY⟩ := exa_v g47
  have E_s_Decision_DENY := Exa.start ev_s_Decision_DENY g47
  have S_s_Decision_DENY : Sta s s.heap "com/example/nodeward/nodeward/model/Decision" "DENY" "Lcom/example/nodeward/nodeward/model/Decision;" (.ref s_Decision_DENY) := Sta.start ev_s_Decision_DENY (Or.inr ⟨(hw _ (List.mem_of_getElem? (i := 20) rfl)), (hw _ (List.mem_of_getElem? (i := 32) rfl))⟩)
  have F_s_ExtendedDecision_PERMIT_decision : Fld s s.heap s_ExtendedDecision_PERMIT "com/example/nodeward/nodeward/model/ExtendedDecision" "decision" "Lcom/example/nodeward/nodeward/model/Decision;" (.ref s_Decision_PERMIT) := Fld.start ((fld_at ev_s_ExtendedDecision_PERMIT).symm.trans (own_eqr g13 ev_s_Decision_PERMIT))
  have F_s_INDETERMINATE_D_decision : Fld s s.heap s_INDETERMINATE_D "com/example/nodeward/nodeward/model/ExtendedDecision" "decision" "Lcom/example/nodeward/nodeward/model/Decision;" (.ref s_INDETERMINATE) := Fld.start ((fld_at ev_s_INDETERMINATE_D).symm.trans (own_eqr g17 ev_s_INDETERMINATE))
  have F_s_Decision_PERMIT_ordinal : Fld s s.heap s_Decision_PERMIT "java/lang/Enum" "ordinal" "I" (.int (0 : Int32)) := Fld.start ((fld_at ev_s_Decision_PERMIT).symm.trans (own_eqi g19))
  have F_s_INDETERMINATE_ordinal : Fld s s.heap s_INDETERMINATE "java/lang/Enum" "ordinal" "I" (.int (3 : Int32)) := Fld.start ((fld_at ev_s_INDETERMINATE).symm.trans (own_eqi g21))
  have F_s_ExtendedDecision_DENY_ordinal : Fld s s.heap s_ExtendedDecision_DENY "java/lang/Enum" "ordinal" "I" (.int (1 : Int32)) := Fld.start ((fld_at ev_s_ExtendedDecision_DENY).symm.trans (own_eqi g25))
  have F_s_ExtendedDecision_PERMIT_ordinal : Fld s s.heap s_ExtendedDecision_PERMIT "java/lang/Enum" "ordinal" "I" (.int (0 : Int32)) := Fld.start ((fld_at ev_s_ExtendedDecision_PERMIT).symm.trans (own_eqi g27))
  have F_s_INDETERMINATE_DP_ordinal : Fld s s.heap s_INDETERMINATE_DP "java/lang/Enum" "ordinal" "I" (.int (5 : Int32)) := Fld.start ((fld_at ev_s_INDETERMINATE_DP).symm.trans (own_eqi g35))
  have F_s_INDETERMINATE_P_ordinal : Fld s s.heap s_INDETERMINATE_P "java/lang/Enum" "ordinal" "I" (.int (4 : Int32)) := Fld.start ((fld_at ev_s_INDETERMINATE_P).symm.trans (own_eqi g37))
  have F_s_ExtendedDecision_NOT_APPLICABLE_ordinal : Fld s s.heap s_ExtendedDecision_NOT_APPLICABLE "java/lang/Enum" "ordinal" "I" (.int (2 : Int32)) := Fld.start ((fld_at ev_s_ExtendedDecision_NOT_APPLICABLE).symm.trans (own_eqi g39))
  have F_s_INDETERMINATE_D_ordinal : Fld s s.heap s_INDETERMINATE_D "java/lang/Enum" "ordinal" "I" (.int (3 : Int32)) := Fld.start ((fld_at ev_s_INDETERMINATE_D).symm.trans (own_eqi g41))
  have F_s_ExtendedDecision_NOT_APPLICABLE_decision : Fld s s.heap s_ExtendedDecision_NOT_APPLICABLE "com/example/nodeward/nodeward/model/ExtendedDecision" "decision" "Lcom/example/nodeward/nodeward/model/Decision;" (.ref s_Decision_NOT_APPLICABLE) := Fld.start ((fld_at ev_s_ExtendedDecision_NOT_APPLICABLE).symm.trans (own_eqr g45 ev_s_Decision_NOT_APPLICABLE))
  have F_s_ExtendedDecision_DENY_decision : Fld s s.heap s_ExtendedDecision_DENY "com/example/nodeward/nodeward/model/ExtendedDecision" "decision" "Lcom/example/nodeward/nodeward/model/Decision;" (.ref s_Decision_DENY) := Fld.start ((fld_at ev_s_ExtendedDecision_DENY).symm.trans (own_eqr g49 ev_s_Decision_DENY))
  have F_s_Decision_NOT_APPLICABLE_ordinal : Fld s s.heap s_Decision_NOT_APPLICABLE "java/lang/Enum" "ordinal" "I" (.int (2 : Int32)) := Fld.start ((fld_at ev_s_Decision_NOT_APPLICABLE).symm.trans (own_eqi g51))
  have F_s_Decision_DENY_ordinal : Fld s s.heap s_Decision_DENY "java/lang/Enum" "ordinal" "I" (.int (1 : Int32)) := Fld.start ((fld_at ev_s_Decision_DENY).symm.trans (own_eqi g53))
  have F_s_INDETERMINATE_P_decision : Fld s s.heap s_INDETERMINATE_P "com/example/nodeward/nodeward/model/ExtendedDecision" "decision" "Lcom/example/nodeward/nodeward/model/Decision;" (.ref s_INDETERMINATE) := Fld.start ((fld_at ev_s_INDETERMINATE_P).symm.trans (own_eqr g55 ev_s_INDETERMINATE))
  have F_s_INDETERMINATE_DP_decision : Fld s s.heap s_INDETERMINATE_DP "com/example/nodeward/nodeward/model/ExtendedDecision" "decision" "Lcom/example/nodeward/nodeward/model/Decision;" (.ref s_INDETERMINATE) := Fld.start ((fld_at ev_s_INDETERMINATE_DP).symm.trans (own_eqr g56 ev_s_INDETERMINATE))
  obtain ⟨n, o, h1, h2, h3, _, L, rfl, ⟨rfl, N⟩, hq⟩ := rm0 l s _ hw tables_1 i0 i1 i2 s_ExtendedDecision_PERMIT s_INDETERMINATE_D s_Decision_PERMIT s_INDETERMINATE s_ExtendedDecision_DENY s_ExtendedDecision_NOT_APPLICABLE s_INDETERMINATE_DP s_INDETERMINATE_P s_Decision_NOT_APPLICABLE s_Decision_DENY s.heap s.heap.size (Nat.le_refl _) E_s_ExtendedDecision_PERMIT S_s_ExtendedDecision_PERMIT E_s_INDETERMINATE_D S_s_INDETERMINATE_D E_s_Decision_PERMIT S_s_Decision_PERMIT E_s_INDETERMINATE S_s_INDETERMINATE E_s_ExtendedDecision_DENY S_s_ExtendedDecision_DENY E_s_ExtendedDecision_NOT_APPLICABLE S_s_ExtendedDecision_NOT_APPLICABLE E_s_INDETERMINATE_DP S_s_INDETERMINATE_DP E_s_INDETERMINATE_P S_s_INDETERMINATE_P E_s_Decision_NOT_APPLICABLE S_s_Decision_NOT_APPLICABLE E_s_Decision_DENY S_s_Decision_DENY F_s_ExtendedDecision_PERMIT_decision F_s_INDETERMINATE_D_decision F_s_Decision_PERMIT_ordinal F_s_INDETERMINATE_ordinal F_s_ExtendedDecision_DENY_ordinal F_s_ExtendedDecision_PERMIT_ordinal F_s_INDETERMINATE_DP_ordinal F_s_INDETERMINATE_P_ordinal F_s_ExtendedDecision_NOT_APPLICABLE_ordinal F_s_INDETERMINATE_D_ordinal F_s_ExtendedDecision_NOT_APPLICABLE_decision F_s_ExtendedDecision_DENY_decision F_s_Decision_NOT_APPLICABLE_ordinal F_s_Decision_DENY_ordinal F_s_INDETERMINATE_P_decision F_s_INDETERMINATE_DP_decision p e ha hc hk s m _ below hf ((Spec.applies_iff_loose hf).mp happ).1 ⟨rfl, State.Warmed39.refl s, rfl⟩ trivial
  refine ⟨n, _, h1, h2, h3, hpost _ _ _ _ _ _ ⟨Cond.after_iff.mpr rfl, Cond.after_iff.mpr (eq_i res_at (Term.int_eval (1)) rfl), trivial⟩ ⟨hq.1, hq.2.1, (hq.2.2.sift fun y hy => Or.inr (N y hy)).mono (by decide) (by decide)⟩⟩
theorem main_1_1 : Claimed_1_1 := comes_1 fun _ _ _ _ _ _ h hF => ⟨h.1, hF⟩
theorem main_1_2 : Claimed_1_2 := comes_1 fun _ _ _ _ _ _ h hF => ⟨h.2.1, hF⟩
end Jvm.Pilot.@@N@@
namespace Jvm.Pilot.@@N@@
open Jvm Jvm.ClassFile Sem Op Lib Jvm.Free Jvm.Stand Jvm.Pilot.@@N@@.Jvm.D
/-! MADE BY PROGRAM (witnessworld.py) out of the Statement's table words and the real class files: 13 classes; the members and pool entries that the words name. The judged class is class 1, her method 3. -/
namespace start1
open Jvm.ClassFile
def u (s : String) : CpInfo := .utf8 (stringToUtf16 s)
/-- a pool by its gaps: so many unusable entries, then the entry; so many at the end -/
def gap : Nat → List CpInfo → List CpInfo
  | 0, r => r
  | n + 1, r => .unusable :: gap n r
def poolList (es : List (Nat × CpInfo)) (last : Nat) : List CpInfo := es.foldr (fun e r => gap e.1 (e.2 :: r)) (gap last [])
def pool (es : List (Nat × CpInfo)) (last : Nat) : Array CpInfo := ⟨poolList es last⟩
def fileOf (pool : Array CpInfo) (this : Nat) (attrs : Array Attribute := #[]) (ms : Array MethodInfo := #[]) (fl : Nat := 33) (sup : Nat := 0) (ifs : Array Nat := #[]) (fds : Array FieldInfo := #[]) : ClassFile where
  minorVersion := 0
  majorVersion := 65
  constantPool := pool
  accessFlags := fl
  thisClass := this
  superClass := sup
  interfaces := ifs
  fields := fds
  methods := ms
  attributes := attrs
def plain (name : String) (sup : Option ClassId) : Class where
  name := name
  kind := .ordinary
  loader := none
  accessFlags := 33
  super := sup
  interfaces := #[]
  cf := none
  fields := #[]
  methods := #[]
  instanceTypes := #[]
  staticTypes := #[]
  resolved := #[]
  callSites := []
  init := .initialized
  statics := none
  mirror := none

def pool0 : Array CpInfo := pool [(5, u "<init>"), (0, u "()V"), (1, .class_ 10), (1, u "java/lang/Object")] 113

def k0m0 : Method := { name := "<init>", desc := "()V", sig := { parameters := [], returnType := none }, accessFlags := 1, code := none }
/-- java/lang/Object -/
def k0 : Class := { plain "java/lang/Object" none with
  accessFlags := 33
  interfaces := #[]
  cf := some (fileOf pool0 8 #[] #[{ accessFlags := 1, nameIndex := 5, descriptorIndex := 6, attributes := #[] }] 33 0 #[] #[])
  fields := #[]
  methods := #[k0m0]
  instanceTypes := #[]
  staticTypes := #[]
  resolved := Array.replicate 124 none
  statics := none }

def pool1 : Array CpInfo := pool [(2, .class_ 4), (1, u "java/lang/Object"), (0, u "<init>"), (0, u "()V"), (0, .fieldref 8 9), (0, .class_ 10), (0, .nameAndType 11 12), (0, u "com/example/nodeward/nodeward/model/ExtendedDecision"), (0, u "PERMIT"), (0, u "Lcom/example/nodeward/nodeward/model/ExtendedDecision;"), (0, .fieldref 8 14), (0, .nameAndType 15 12), (0, u "DENY"), (0, .fieldref 8 17), (0, .nameAndType 18 12), (0, u "NOT_APPLICABLE"), (0, .fieldref 8 20), (0, .nameAndType 21 12), (0, u "INDETERMINATE_D"), (0, .fieldref 8 23), (0, .nameAndType 24 12), (0, u "INDETERMINATE_P"), (0, .fieldref 8 26), (0, .nameAndType 27 12), (0, u "INDETERMINATE_DP"), (0, .integer 2147483647), (0, .methodref 30 31), (0, .class_ 32), (0, .nameAndType 33 34), (0, u "com/example/nodeward/nodeward/model/ExtendedDecisionDiffersFromPinLaw"), (0, u "pick"), (0, u "(I)Lcom/example/nodeward/nodeward/model/ExtendedDecision;"), (0, .methodref 30 36), (0, .nameAndType 37 38), (0, u "written"), (0, u "(I)I"), (0, .methodref 8 40), (0, .nameAndType 41 42), (0, u "differsFrom"), (0, u "(Lcom/example/nodeward/nodeward/model/ExtendedDecision;Z)Z"), (3, u "law"), (0, u "(III)Z")] 2

def k1m0 : Method := { name := "<init>", desc := "()V", sig := { parameters := [], returnType := none }, accessFlags := 2, code := none }
def k1c1 : Code := { maxStack := 2, maxLocals := 1, code := method_2_code, exceptionTable := #[], attributes := #[] }
def k1m1 : Method := { name := "pick", desc := "(I)Lcom/example/nodeward/nodeward/model/ExtendedDecision;", sig := { parameters := [.int], returnType := some (.object "com/example/nodeward/nodeward/model/ExtendedDecision") }, accessFlags := 10, code := some k1c1 }
def k1c2 : Code := { maxStack := 2, maxLocals := 1, code := method_3_code, exceptionTable := #[], attributes := #[] }
def k1m2 : Method := { name := "written", desc := "(I)I", sig := { parameters := [.int], returnType := some .int }, accessFlags := 10, code := some k1c2 }
def k1c3 : Code := { maxStack := 3, maxLocals := 9, code := code, exceptionTable := #[], attributes := #[] }
def k1m3 : Method := { name := "law", desc := "(III)Z", sig := { parameters := [.int, .int, .int], returnType := some .boolean }, accessFlags := 9, code := some k1c3 }
/-- com/example/nodeward/nodeward/model/ExtendedDecisionDiffersFromPinLaw -/
def k1 : Class := { plain "com/example/nodeward/nodeward/model/ExtendedDecisionDiffersFromPinLaw" (some 0) with
  accessFlags := 49
  interfaces := #[]
  cf := some (fileOf pool1 30 #[] #[{ accessFlags := 2, nameIndex := 5, descriptorIndex := 6, attributes := #[] }, { accessFlags := 10, nameIndex := 33, descriptorIndex := 34, attributes := #[] }, { accessFlags := 10, nameIndex := 37, descriptorIndex := 38, attributes := #[] }, { accessFlags := 9, nameIndex := 46, descriptorIndex := 47, attributes := #[] }] 49 2 #[] #[])
  fields := #[]
  methods := #[k1m0, k1m1, k1m2, k1m3]
  instanceTypes := #[]
  staticTypes := #[]
  resolved := Array.replicate 50 none
  statics := none }

def pool2 : Array CpInfo := pool [(1, .class_ 2), (0, u "java/lang/constant/Constable"), (0, .class_ 4), (0, u "java/lang/Object")] 6

/-- java/lang/constant/Constable -/
def k2 : Class := { plain "java/lang/constant/Constable" (some 0) with
  accessFlags := 1537
  interfaces := #[]
  cf := some (fileOf pool2 1 #[] #[] 1537 3 #[] #[])
  fields := #[]
  methods := #[]
  instanceTypes := #[]
  staticTypes := #[]
  resolved := Array.replicate 11 none
  statics := none }

def pool3 : Array CpInfo := pool [(1, .class_ 2), (0, u "java/lang/Comparable"), (0, .class_ 4), (0, u "java/lang/Object")] 7

/-- java/lang/Comparable -/
def k3 : Class := { plain "java/lang/Comparable" (some 0) with
  accessFlags := 1537
  interfaces := #[]
  cf := some (fileOf pool3 1 #[] #[] 1537 3 #[] #[])
  fields := #[]
  methods := #[]
  instanceTypes := #[]
  staticTypes := #[]
  resolved := Array.replicate 12 none
  statics := none }

def pool4 : Array CpInfo := pool [(1, .class_ 2), (0, u "java/io/Serializable"), (0, .class_ 4), (0, u "java/lang/Object")] 2

/-- java/io/Serializable -/
def k4 : Class := { plain "java/io/Serializable" (some 0) with
  accessFlags := 1537
  interfaces := #[]
  cf := some (fileOf pool4 1 #[] #[] 1537 3 #[] #[])
  fields := #[]
  methods := #[]
  instanceTypes := #[]
  staticTypes := #[]
  resolved := Array.replicate 7 none
  statics := none }

def pool5 : Array CpInfo := pool [(2, .class_ 4), (1, u "java/lang/Enum"), (0, u "name"), (0, u "Ljava/lang/String;"), (2, u "ordinal"), (0, u "I"), (1, .class_ 14), (1, u "java/lang/Object"), (4, u "hash"), (86, .class_ 108), (1, u "java/lang/Enum$EnumDesc"), (2, .class_ 112), (0, u "java/lang/constant/Constable"), (0, .class_ 114), (0, u "java/lang/Comparable"), (0, .class_ 116), (0, u "java/io/Serializable")] 87

/-- java/lang/Enum -/
def k5 : Class := { plain "java/lang/Enum" (some 0) with
  accessFlags := 1057
  interfaces := #[2, 3, 4]
  cf := some (fileOf pool5 2 #[.nestMembers #[106]] #[] 1057 12 #[111, 113, 115] #[{ accessFlags := 18, nameIndex := 5, descriptorIndex := 6, attributes := #[] }, { accessFlags := 18, nameIndex := 9, descriptorIndex := 10, attributes := #[] }, { accessFlags := 2, nameIndex := 19, descriptorIndex := 10, attributes := #[] }])
  fields := #[{ name := "name", type := (.object "java/lang/String"), accessFlags := 18, slot := 0, constantValue := 0 }, { name := "ordinal", type := .int, accessFlags := 18, slot := 1, constantValue := 0 }, { name := "hash", type := .int, accessFlags := 2, slot := 2, constantValue := 0 }]
  methods := #[]
  instanceTypes := #[(.object "java/lang/String"), .int, .int]
  staticTypes := #[]
  resolved := Array.replicate 204 none
  statics := none }

def pool6 : Array CpInfo := pool [(1, .class_ 2), (0, u "com/example/nodeward/nodeward/model/ExtendedDecision"), (2, u "PERMIT"), (0, u "Lcom/example/nodeward/nodeward/model/ExtendedDecision;"), (2, u "DENY"), (2, u "NOT_APPLICABLE"), (2, u "INDETERMINATE_D"), (2, u "INDETERMINATE_P"), (2, u "INDETERMINATE_DP"), (2, u "$VALUES"), (0, u "[Lcom/example/nodeward/nodeward/model/ExtendedDecision;"), (6, .class_ 34), (1, u "java/lang/Enum"), (6, .fieldref 1 42), (0, .nameAndType 43 44), (0, u "decision"), (0, u "Lcom/example/nodeward/nodeward/model/Decision;"), (44, u "differsFrom"), (0, u "(Lcom/example/nodeward/nodeward/model/ExtendedDecision;Z)Z")] 5

def k6c0 : Code := { maxStack := 2, maxLocals := 3, code := prog_75_method_7_code, exceptionTable := #[], attributes := #[] }
def k6m0 : Method := { name := "differsFrom", desc := "(Lcom/example/nodeward/nodeward/model/ExtendedDecision;Z)Z", sig := { parameters := [(.object "com/example/nodeward/nodeward/model/ExtendedDecision"), .boolean], returnType := some .boolean }, accessFlags := 0, code := some k6c0 }
/-- com/example/nodeward/nodeward/model/ExtendedDecision -/
def k6 : Class := { plain "com/example/nodeward/nodeward/model/ExtendedDecision" (some 5) with
  accessFlags := 16433
  interfaces := #[]
  cf := some (fileOf pool6 1 #[] #[{ accessFlags := 0, nameIndex := 89, descriptorIndex := 90, attributes := #[] }] 16433 32 #[] #[{ accessFlags := 16409, nameIndex := 5, descriptorIndex := 6, attributes := #[] }, { accessFlags := 16409, nameIndex := 9, descriptorIndex := 6, attributes := #[] }, { accessFlags := 16409, nameIndex := 12, descriptorIndex := 6, attributes := #[] }, { accessFlags := 16409, nameIndex := 15, descriptorIndex := 6, attributes := #[] }, { accessFlags := 16409, nameIndex := 18, descriptorIndex := 6, attributes := #[] }, { accessFlags := 16409, nameIndex := 21, descriptorIndex := 6, attributes := #[] }, { accessFlags := 18, nameIndex := 43, descriptorIndex := 44, attributes := #[] }, { accessFlags := 4122, nameIndex := 24, descriptorIndex := 25, attributes := #[] }])
  fields := #[{ name := "PERMIT", type := (.object "com/example/nodeward/nodeward/model/ExtendedDecision"), accessFlags := 16409, slot := 0, constantValue := 0 }, { name := "DENY", type := (.object "com/example/nodeward/nodeward/model/ExtendedDecision"), accessFlags := 16409, slot := 1, constantValue := 0 }, { name := "NOT_APPLICABLE", type := (.object "com/example/nodeward/nodeward/model/ExtendedDecision"), accessFlags := 16409, slot := 2, constantValue := 0 }, { name := "INDETERMINATE_D", type := (.object "com/example/nodeward/nodeward/model/ExtendedDecision"), accessFlags := 16409, slot := 3, constantValue := 0 }, { name := "INDETERMINATE_P", type := (.object "com/example/nodeward/nodeward/model/ExtendedDecision"), accessFlags := 16409, slot := 4, constantValue := 0 }, { name := "INDETERMINATE_DP", type := (.object "com/example/nodeward/nodeward/model/ExtendedDecision"), accessFlags := 16409, slot := 5, constantValue := 0 }, { name := "decision", type := (.object "com/example/nodeward/nodeward/model/Decision"), accessFlags := 18, slot := 3, constantValue := 0 }, { name := "$VALUES", type := (.array (.object "com/example/nodeward/nodeward/model/ExtendedDecision")), accessFlags := 4122, slot := 6, constantValue := 0 }]
  methods := #[k6m0]
  instanceTypes := #[(.object "java/lang/String"), .int, .int, (.object "com/example/nodeward/nodeward/model/Decision")]
  staticTypes := #[(.object "com/example/nodeward/nodeward/model/ExtendedDecision"), (.object "com/example/nodeward/nodeward/model/ExtendedDecision"), (.object "com/example/nodeward/nodeward/model/ExtendedDecision"), (.object "com/example/nodeward/nodeward/model/ExtendedDecision"), (.object "com/example/nodeward/nodeward/model/ExtendedDecision"), (.object "com/example/nodeward/nodeward/model/ExtendedDecision"), (.array (.object "com/example/nodeward/nodeward/model/ExtendedDecision"))]
  resolved := Array.replicate 96 none
  statics := some 0 }

def pool7 : Array CpInfo := pool [(1, .class_ 2), (0, u "com/example/nodeward/nodeward/model/Decision"), (2, u "PERMIT"), (0, u "Lcom/example/nodeward/nodeward/model/Decision;"), (2, u "DENY"), (2, u "NOT_APPLICABLE"), (2, u "INDETERMINATE"), (2, u "$VALUES"), (0, u "[Lcom/example/nodeward/nodeward/model/Decision;"), (6, .class_ 28), (1, u "java/lang/Enum"), (8, u "xacmlName"), (0, u "Ljava/lang/String;")] 35

/-- com/example/nodeward/nodeward/model/Decision -/
def k7 : Class := { plain "com/example/nodeward/nodeward/model/Decision" (some 5) with
  accessFlags := 16433
  interfaces := #[]
  cf := some (fileOf pool7 1 #[] #[] 16433 26 #[] #[{ accessFlags := 16409, nameIndex := 5, descriptorIndex := 6, attributes := #[] }, { accessFlags := 16409, nameIndex := 9, descriptorIndex := 6, attributes := #[] }, { accessFlags := 16409, nameIndex := 12, descriptorIndex := 6, attributes := #[] }, { accessFlags := 16409, nameIndex := 15, descriptorIndex := 6, attributes := #[] }, { accessFlags := 18, nameIndex := 37, descriptorIndex := 38, attributes := #[] }, { accessFlags := 4122, nameIndex := 18, descriptorIndex := 19, attributes := #[] }])
  fields := #[{ name := "PERMIT", type := (.object "com/example/nodeward/nodeward/model/Decision"), accessFlags := 16409, slot := 0, constantValue := 0 }, { name := "DENY", type := (.object "com/example/nodeward/nodeward/model/Decision"), accessFlags := 16409, slot := 1, constantValue := 0 }, { name := "NOT_APPLICABLE", type := (.object "com/example/nodeward/nodeward/model/Decision"), accessFlags := 16409, slot := 2, constantValue := 0 }, { name := "INDETERMINATE", type := (.object "com/example/nodeward/nodeward/model/Decision"), accessFlags := 16409, slot := 3, constantValue := 0 }, { name := "xacmlName", type := (.object "java/lang/String"), accessFlags := 18, slot := 3, constantValue := 0 }, { name := "$VALUES", type := (.array (.object "com/example/nodeward/nodeward/model/Decision")), accessFlags := 4122, slot := 4, constantValue := 0 }]
  methods := #[]
  instanceTypes := #[(.object "java/lang/String"), .int, .int, (.object "java/lang/String")]
  staticTypes := #[(.object "com/example/nodeward/nodeward/model/Decision"), (.object "com/example/nodeward/nodeward/model/Decision"), (.object "com/example/nodeward/nodeward/model/Decision"), (.object "com/example/nodeward/nodeward/model/Decision"), (.array (.object "com/example/nodeward/nodeward/model/Decision"))]
  resolved := Array.replicate 74 none
  statics := some 1 }

def pool8 : Array CpInfo := pool [(1, u "java/lang/Cloneable"), (0, .class_ 1), (0, u "java/lang/Object"), (0, .class_ 3)] 3

/-- java/lang/Cloneable -/
def k8 : Class := { plain "java/lang/Cloneable" (some 0) with
  accessFlags := 1537
  interfaces := #[]
  cf := some (fileOf pool8 2 #[] #[] 1537 4 #[] #[])
  fields := #[]
  methods := #[]
  instanceTypes := #[]
  staticTypes := #[]
  resolved := Array.replicate 8 none
  statics := none }

/-- the primitive byte -/
def k9 : Class := { plain "byte" none with kind := .primitive 'B', accessFlags := 0x411 }
/-- [B -/
def k10 : Class := { plain "[B" (some 0) with kind := .array 9 .byte, interfaces := #[8, 4], accessFlags := 1041 }

/-- the primitive int -/
def k11 : Class := { plain "int" none with kind := .primitive 'I', accessFlags := 0x411 }
/-- [I -/
def k12 : Class := { plain "[I" (some 0) with kind := .array 11 .int, interfaces := #[8, 4], accessFlags := 1041 }

def heap : Heap := #[{ cls := 6, slots := #[.ref 6, .ref 8, .ref 9, .ref 7, .ref 11, .ref 10, .null], vm := .statics 6 },
  { cls := 7, slots := #[.ref 2, .ref 5, .ref 4, .ref 3, .null], vm := .statics 7 },
  { cls := 7, slots := #[.null, .int 0, .int 0, .null], vm := .none },
  { cls := 7, slots := #[.null, .int 3, .int 0, .null], vm := .none },
  { cls := 7, slots := #[.null, .int 2, .int 0, .null], vm := .none },
  { cls := 7, slots := #[.null, .int 1, .int 0, .null], vm := .none },
  { cls := 6, slots := #[.null, .int 0, .int 0, .ref 2], vm := .none },
  { cls := 6, slots := #[.null, .int 3, .int 0, .ref 3], vm := .none },
  { cls := 6, slots := #[.null, .int 1, .int 0, .ref 5], vm := .none },
  { cls := 6, slots := #[.null, .int 2, .int 0, .ref 4], vm := .none },
  { cls := 6, slots := #[.null, .int 5, .int 0, .ref 3], vm := .none },
  { cls := 6, slots := #[.null, .int 4, .int 0, .ref 3], vm := .none }]
def classes : Array Class := #[k0, k1, k2, k3, k4, k5, k6, k7, k8, k9, k10, k11, k12]
def interned : List (Array UInt16 × Addr) := []
def slotsUsed : Nat := 52
def theMethod : MethodId := ⟨1, 3⟩
def args0 : Array Value := #[.int 5, .int 3, .int 1]
def aboutOver (below : List Frame) : State where
  vm := { classes := classes, interned := interned.toArray }
  heap := heap
  slotsUsed := slotsUsed
  threads := #[{ frames := .invoking theMethod args0 :: below }]
def below0 : List Frame := [.native { method := ⟨0, 0⟩, args := #[] }]
def about1 : State := aboutOver below0
def p0 : Program := .bare "" "" ""
def e0 : Env := launch0.env 0 0 0
theorem w_frames : about1.frames = Frame.invoking theMethod args0 :: below0 := rfl
set_option maxRecDepth 65536 in
theorem w_args : argsFit about1.vm theMethod args0 = true := by decide +kernel
set_option maxRecDepth 65536 in
theorem w_heap : heapFits about1 = true := by decide +kernel
set_option maxRecDepth 65536 in
theorem w_runnable : about1.curStatus? = some .runnable := by decide +kernel
set_option maxRecDepth 65536 in
theorem w_alone : about1.alone = true := by decide +kernel
set_option maxRecDepth 65536 in
theorem w_named : about1.methodNamed? x = some theMethod := by decide +kernel
set_option maxRecDepth 65536 in
theorem w_hears : about1.hears theMethod below0 = true := by decide +kernel
set_option maxRecDepth 65536 in
theorem w_ripe : about1.ripe theMethod args0 below0 = true := by decide +kernel
theorem w_running : about1.status = .running := rfl
set_option maxRecDepth 65536 in
theorem w_room : about1.hasRoom e0.platform room_1 = true :=
  launch0.hasRoom_least _ room_1 (by decide +kernel) (by decide +kernel) (by decide +kernel) (by decide +kernel) (by decide +kernel) (by decide +kernel)
theorem allAtoms_all (ts : List Jvm.Cond) (a : Array Jvm.Value) (st : Jvm.State) : (allAtoms ts).before a st = ts.all (fun c => c.before a st) := by
  induction ts with
  | nil => rfl
  | cons c t ih =>
    show (Jvm.Cond.and c (allAtoms t)).before a st = _
    rw [Jvm.Cond.before_and, ih, List.all_cons]
def words1 : List Jvm.Cond := Jvm.Cond.code x code maxLocals ret :: tables_1
/-- a 'code' word, met by the world's own term for the bytes: nothing is compared byte by byte -/
theorem code_word {y : MethodName} {bytes : ByteArray} {mx : Nat} {rt : Option FieldType} {a : Array Value} {s : State} {m : MethodId} {meth : Method} {c : Code} (h1 : s.methodNamed? y = some m) (h2 : s.vm.method? m = some meth) (h3 : meth.code = some c) (h4 : c.code = bytes)
    (h5 : (c.maxLocals == mx && c.exceptionTable.isEmpty && decide (c.maxStack ≤ mostOperands) && decide (meth.sig.returnType = rt) && !meth.locks && decide (parseMethodDescriptor y.desc = some meth.sig)) = true) : (Jvm.Cond.code y bytes mx rt).before a s = true := by
  simp only [Bool.and_eq_true, beq_iff_eq, Bool.not_eq_true', decide_eq_true_eq] at h5
  obtain ⟨⟨⟨⟨⟨g1, g2⟩, g3⟩, g4⟩, g5⟩, g6⟩ := h5
  simp [Cond.before, Cond.holds, Cond.value, h1, h2, h3, h4, g1, g2, g3, g4, g5, g6]
def isCode : Jvm.Cond → Bool
  | .code _ _ _ _ => true
  | _ => false
theorem all_split {L : List Jvm.Cond} {P : Jvm.Cond → Bool} (h1 : L.all (fun c => isCode c || P c) = true) (h2 : ∀ c ∈ L.filter isCode, P c = true) : L.all P = true := by
  refine List.all_eq_true.mpr fun c hc => ?_
  have h := List.all_eq_true.mp h1 c hc
  rcases Bool.eq_false_or_eq_true (isCode c) with hi | hi
  · exact h2 c (List.mem_filter.mpr ⟨hc, hi⟩)
  · simpa [hi] using h
set_option maxRecDepth 65536 in
theorem w_c0 : (Jvm.Cond.code x code maxLocals ret).before args0 about1 = true := code_word (m := ⟨1, 3⟩) (meth := k1m3) (c := k1c3) (by decide +kernel) rfl rfl rfl (by decide +kernel)
set_option maxRecDepth 65536 in
theorem w_c1 : (Jvm.Cond.code ({ cls := "com/example/nodeward/nodeward/model/ExtendedDecisionDiffersFromPinLaw", name := "pick", desc := "(I)Lcom/example/nodeward/nodeward/model/ExtendedDecision;" } : Jvm.MethodName) method_2_code (1 : Nat) (Option.some (Jvm.ClassFile.FieldType.object "com/example/nodeward/nodeward/model/ExtendedDecision"))).before args0 about1 = true := code_word (m := ⟨1, 1⟩) (meth := k1m1) (c := k1c1) (by decide +kernel) rfl rfl rfl (by decide +kernel)
set_option maxRecDepth 65536 in
theorem w_c2 : (Jvm.Cond.code ({ cls := "com/example/nodeward/nodeward/model/ExtendedDecisionDiffersFromPinLaw", name := "written", desc := "(I)I" } : Jvm.MethodName) method_3_code (1 : Nat) (Option.some Jvm.ClassFile.FieldType.int)).before args0 about1 = true := code_word (m := ⟨1, 2⟩) (meth := k1m2) (c := k1c2) (by decide +kernel) rfl rfl rfl (by decide +kernel)
set_option maxRecDepth 65536 in
theorem w_c3 : (Jvm.Cond.code ({ cls := "com/example/nodeward/nodeward/model/ExtendedDecision", name := "differsFrom", desc := "(Lcom/example/nodeward/nodeward/model/ExtendedDecision;Z)Z" } : Jvm.MethodName) prog_75_method_7_code (3 : Nat) (Option.some Jvm.ClassFile.FieldType.boolean)).before args0 about1 = true := code_word (m := ⟨6, 0⟩) (meth := k6m0) (c := k6c0) (by decide +kernel) rfl rfl rfl (by decide +kernel)
def codes1 : List Jvm.Cond := [Jvm.Cond.code x code maxLocals ret, Jvm.Cond.code ({ cls := "com/example/nodeward/nodeward/model/ExtendedDecisionDiffersFromPinLaw", name := "pick", desc := "(I)Lcom/example/nodeward/nodeward/model/ExtendedDecision;" } : Jvm.MethodName) method_2_code (1 : Nat) (Option.some (Jvm.ClassFile.FieldType.object "com/example/nodeward/nodeward/model/ExtendedDecision")), Jvm.Cond.code ({ cls := "com/example/nodeward/nodeward/model/ExtendedDecisionDiffersFromPinLaw", name := "written", desc := "(I)I" } : Jvm.MethodName) method_3_code (1 : Nat) (Option.some Jvm.ClassFile.FieldType.int), Jvm.Cond.code ({ cls := "com/example/nodeward/nodeward/model/ExtendedDecision", name := "differsFrom", desc := "(Lcom/example/nodeward/nodeward/model/ExtendedDecision;Z)Z" } : Jvm.MethodName) prog_75_method_7_code (3 : Nat) (Option.some Jvm.ClassFile.FieldType.boolean)]
set_option maxRecDepth 65536 in
theorem codes_eq : words1.filter isCode = codes1 := rfl
theorem w_codes : ∀ c ∈ words1.filter isCode, c.before args0 about1 = true := by
  rw [codes_eq]
  intro c hc
  simp only [codes1, List.mem_cons, List.not_mem_nil, or_false] at hc
  rcases hc with rfl | rfl | rfl | rfl
  · exact w_c0
  · exact w_c1
  · exact w_c2
  · exact w_c3
set_option maxRecDepth 65536 in
theorem w_t1 : (words1.take 24).all (fun c => isCode c || c.before args0 about1) = true := by decide +kernel
set_option maxRecDepth 65536 in
theorem w_t2 : (words1.drop 24).all (fun c => isCode c || c.before args0 about1) = true := by decide +kernel
theorem w_tables : (allAtoms (Jvm.Cond.code x code maxLocals ret :: tables_1)).before args0 about1 = true := by
  rw [allAtoms_all]
  show words1.all (fun c => c.before args0 about1) = true
  refine all_split ?_ w_codes
  rw [← List.take_append_drop 24 words1, List.all_append, w_t1, w_t2]
  rfl
set_option maxRecDepth 65536 in
theorem w_case : (Jvm.Cond.and given_1 narrow_1).before args0 about1 = true := by decide +kernel
theorem w_applies : (headSpec (Jvm.Cond.code x code maxLocals ret :: tables_1) room_1).applies x e0.platform about1 = true :=
  (Spec.applies_iff w_frames).mpr ⟨w_running, w_runnable, w_alone, w_named, w_hears, w_ripe, w_room, w_tables⟩
theorem atStart : AtStart classFile x code maxLocals ret World_1 tables_1 room_1 Calls_1 rest_1 Pre_1 launch0 p0 e0 about1 theMethod args0 below0 :=
  ⟨lists_1, trivial, launch0.admits_env _ _ _, launch0.least_env, fairChoices_fair.cas, fairChoices_fair.clock, w_frames, w_args, w_heap, w_applies, trivial, trivial, w_case⟩
end start1
theorem witness_1 : WitnessClaimed_1 := ⟨start1.p0, start1.e0, start1.about1, start1.theMethod, start1.args0, start1.below0, start1.atStart⟩
end Jvm.Pilot.@@N@@

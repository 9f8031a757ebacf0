import JvmDerived
import JvmDerived.Pilot.@@N@@Statement
import JvmDerived.Pilot.@@N@@Code
set_option linter.unusedVariables false
set_option linter.unusedSimpArgs false
namespace Jvm.RoadKit
open Sem ClassFile Op Lib Jvm.Stand Jvm.Free Jvm.LawKit
section New
variable {p : Program} {l : Launch} {e : Env} {R : Room} {s : State} {m : MethodId} {args : Array Value} {below : List Frame} {meth : Method} {c : Code} {T : State} {locs : List Loc} {cells slots : Nat}
theorem retI (X : Stand p l e R s m args below meth c T locs cells slots) (hx : p.tables.exec = Jvm.exec) {pc : Nat} {Ls : Array Slot} {z : Int32} {rest : List Value} (hret : meth.sig.returnType = some .int) (hd : decode c.code pc = .ok (.ireturn, 1)) {fs : List Frame}
    (hl : ∀ (f : JFrame) (acts : List Action), f.method = m → f.locked = none → f.entered = [] → (doReturn e (T.setTop f) acts (some (.int z))).1 = T.setFrames fs) : Steps p.tables e below (T.setTop (mkF m pc Ls (.int z :: rest))) (T.setFrames fs) := by
  have hm' : T.vm.method? m = some meth := X.method'
  have hn : narrow .int (.int z) = .int z := rfl
  show Steps p.tables e below (T.setTop { method := m, pc := pc, locals := Ls, stack := _ :: rest, locked := none }) _
  jvm_step X.here [X.here.top, hx, hd, hm', hret, hn]
  first | (intro acts; rw [hl _ acts rfl rfl rfl]) | rw [hl _ _ rfl rfl rfl]
  exact Steps.refl _
end New
end Jvm.RoadKit
namespace Jvm.Pilot.@@N@@
open Jvm Jvm.ClassFile Sem Op Lib Jvm.Free Jvm.Stand Jvm.LawKit Jvm.RoadKit Bundle Jvm.Pilot.@@N@@.Jvm.D
theorem own_sta_keep {Z : State} {h h' : Heap} {C n d : String} {v : Value} (F : Sta Z h C n d v) (K : Keep h h' []) : Sta Z h' C n d v := by
  obtain ⟨cf, i, k, f, st, cell, h1, h2, h3, h4, h5, r⟩ := F
  exact ⟨cf, i, k, f, st, cell, h1, h2, h3, h4, K.2.1 _ _ h5 nin0, r⟩
/-- whoever comes from B to t comes from A to t -/
abbrev own_R (p : Program) (e : Env) (below : List Frame) (A B : State) : Prop := ∀ t, Steps p.tables e below B t → Steps p.tables e below A t

section OwnWords
variable {args : Array Value} {s : State} {t : Term}
theorem own_eqi {k : Int32} (h : (Jvm.Cond.eq t (.int k)).value args s none s [] = some true) : t.eval args s none [] s = some (.int k) := by
  simp only [Cond.value, Term.eval] at h
  cases ht : t.eval args s none [] s with
  | none => simp [ht] at h
  | some x => cases x <;> simp [ht] at h ⊢ <;> exact h
theorem own_eql {k : Int64} (h : (Jvm.Cond.eq t (.long k)).value args s none s [] = some true) : t.eval args s none [] s = some (.long k) := by
  simp only [Cond.value, Term.eval] at h
  cases ht : t.eval args s none [] s with
  | none => simp [ht] at h
  | some x => cases x <;> simp [ht] at h ⊢ <;> exact h
theorem own_eqr {u : Term} {x : Addr} (h : (Jvm.Cond.eq t u).value args s none s [] = some true) (hu : u.eval args s none [] s = some (.ref x)) : t.eval args s none [] s = some (.ref x) := by
  simp only [Cond.value, hu] at h
  cases ht : t.eval args s none [] s with
  | none => simp [ht] at h
  | some y => cases y <;> simp [ht] at h ⊢ <;> exact h
theorem own_len {x : Addr} {cl : Cell} {ty : FieldType} {k : Int32} (h : (Jvm.Cond.eq (.length t) (.int k)).value args s none s [] = some true) (ev : t.eval args s none [] s = some (.ref x)) (A : Arr s s.heap x cl ty) : cl.slots.size < 2 ^ 31 ∧ cl.slots.size.toInt32 = k := by
  have h1 := own_eqi h
  have h2 := A.fin (Vm.Alike.refl _)
  simp only [Term.eval, ev, Option.bind_eq_bind, Option.bind_some, h2] at h1
  split at h1
  · rename_i q; exact ⟨q, by simpa using h1⟩
  · cases h1
theorem own_elem {x : Addr} {cl : Cell} {ty : FieldType} {j : Int32} {v : Value} (h : (Term.elem t (.int j)).eval args s none [] s = some v) (ev : t.eval args s none [] s = some (.ref x)) (A : Arr s s.heap x cl ty) : cl.slots[j.toNatClampNeg]? = some v :=
  (elem_in h ev (Term.int_eval j) A.1).2
end OwnWords
def own_pow10 (p0 : Int32) : Int32 := (if p0 = (0 : Int32) then (1 : Int32) else (if p0 = (1 : Int32) then (10 : Int32) else (if p0 = (2 : Int32) then (100 : Int32) else (if p0 = (3 : Int32) then (1000 : Int32) else (if p0 = (4 : Int32) then (10000 : Int32) else (if p0 = (5 : Int32) then (100000 : Int32) else (if p0 = (6 : Int32) then (1000000 : Int32) else (if p0 = (7 : Int32) then (10000000 : Int32) else (if p0 = (8 : Int32) then (100000000 : Int32) else (1000000000 : Int32))))))))))
theorem d1_0 : decode method_2_code 0 = .ok (.iload_n 0, 1) := by decide +kernel
theorem d1_1 : decode method_2_code 1 = .ok (.ifCond .ne 5, 3) := by decide +kernel
theorem d1_4 : decode method_2_code 4 = .ok (.iconst 1, 1) := by decide +kernel
theorem d1_5 : decode method_2_code 5 = .ok (.ireturn, 1) := by decide +kernel
theorem d1_6 : decode method_2_code 6 = .ok (.iload_n 0, 1) := by decide +kernel
theorem d1_7 : decode method_2_code 7 = .ok (.iconst 1, 1) := by decide +kernel
theorem d1_8 : decode method_2_code 8 = .ok (.if_icmp .ne 6, 3) := by decide +kernel
theorem d1_11 : decode method_2_code 11 = .ok (.bipush 10, 2) := by decide +kernel
theorem d1_13 : decode method_2_code 13 = .ok (.ireturn, 1) := by decide +kernel
theorem d1_14 : decode method_2_code 14 = .ok (.iload_n 0, 1) := by decide +kernel
theorem d1_15 : decode method_2_code 15 = .ok (.iconst 2, 1) := by decide +kernel
theorem d1_16 : decode method_2_code 16 = .ok (.if_icmp .ne 6, 3) := by decide +kernel
theorem d1_19 : decode method_2_code 19 = .ok (.bipush 100, 2) := by decide +kernel
theorem d1_21 : decode method_2_code 21 = .ok (.ireturn, 1) := by decide +kernel
theorem d1_22 : decode method_2_code 22 = .ok (.iload_n 0, 1) := by decide +kernel
theorem d1_23 : decode method_2_code 23 = .ok (.iconst 3, 1) := by decide +kernel
theorem d1_24 : decode method_2_code 24 = .ok (.if_icmp .ne 7, 3) := by decide +kernel
theorem d1_27 : decode method_2_code 27 = .ok (.sipush 1000, 3) := by decide +kernel
theorem d1_30 : decode method_2_code 30 = .ok (.ireturn, 1) := by decide +kernel
theorem d1_31 : decode method_2_code 31 = .ok (.iload_n 0, 1) := by decide +kernel
theorem d1_32 : decode method_2_code 32 = .ok (.iconst 4, 1) := by decide +kernel
theorem d1_33 : decode method_2_code 33 = .ok (.if_icmp .ne 7, 3) := by decide +kernel
theorem d1_36 : decode method_2_code 36 = .ok (.sipush 10000, 3) := by decide +kernel
theorem d1_39 : decode method_2_code 39 = .ok (.ireturn, 1) := by decide +kernel
theorem d1_40 : decode method_2_code 40 = .ok (.iload_n 0, 1) := by decide +kernel
theorem d1_41 : decode method_2_code 41 = .ok (.iconst 5, 1) := by decide +kernel
theorem d1_42 : decode method_2_code 42 = .ok (.if_icmp .ne 6, 3) := by decide +kernel
theorem d1_45 : decode method_2_code 45 = .ok (.ldc 7, 2) := by decide +kernel
theorem d1_47 : decode method_2_code 47 = .ok (.ireturn, 1) := by decide +kernel
theorem d1_48 : decode method_2_code 48 = .ok (.iload_n 0, 1) := by decide +kernel
theorem d1_49 : decode method_2_code 49 = .ok (.bipush 6, 2) := by decide +kernel
theorem d1_51 : decode method_2_code 51 = .ok (.if_icmp .ne 6, 3) := by decide +kernel
theorem d1_54 : decode method_2_code 54 = .ok (.ldc 8, 2) := by decide +kernel
theorem d1_56 : decode method_2_code 56 = .ok (.ireturn, 1) := by decide +kernel
theorem d1_57 : decode method_2_code 57 = .ok (.iload_n 0, 1) := by decide +kernel
theorem d1_58 : decode method_2_code 58 = .ok (.bipush 7, 2) := by decide +kernel
theorem d1_60 : decode method_2_code 60 = .ok (.if_icmp .ne 6, 3) := by decide +kernel
theorem d1_63 : decode method_2_code 63 = .ok (.ldc 9, 2) := by decide +kernel
theorem d1_65 : decode method_2_code 65 = .ok (.ireturn, 1) := by decide +kernel
theorem d1_66 : decode method_2_code 66 = .ok (.iload_n 0, 1) := by decide +kernel
theorem d1_67 : decode method_2_code 67 = .ok (.bipush 8, 2) := by decide +kernel
theorem d1_69 : decode method_2_code 69 = .ok (.if_icmp .ne 6, 3) := by decide +kernel
theorem d1_72 : decode method_2_code 72 = .ok (.ldc 10, 2) := by decide +kernel
theorem d1_74 : decode method_2_code 74 = .ok (.ireturn, 1) := by decide +kernel
theorem d1_75 : decode method_2_code 75 = .ok (.ldc 11, 2) := by decide +kernel
theorem d1_77 : decode method_2_code 77 = .ok (.ireturn, 1) := by decide +kernel
theorem pn_1 : plainName "com/example/gearwork/gearwork/core/DecimalDividedByPowerPinLaw" = true := by first | (simp [plainName, overriddenIn]; done) | decide +kernel
theorem ef_1 (m : MethodId) (x0 : Int32) : entryFrame m #[(.int x0)] 1 = mkF m 0 #[.val (.int x0)] [] := by first | (simp [entryFrame, mkF, argsToLocals, Value.category]; done) | rfl
def Q1 (Z : State) (p0 : Int32) (h0 : Heap) (n0 : Nat) (v : Option Value) (h : Heap) (L : List Loc) : Prop := v = some (.int (own_pow10 p0)) ∧ Fr n0 L ∧ h = h0
set_option maxRecDepth 65536 in
set_option maxHeartbeats 40000000 in
theorem rm1 (l : Launch) (Z : State) (a0 : Array Value) (hw : ∀ d ∈ tables_1, d.before a0 Z = true) (ws : List Jvm.Cond) (p0 : Int32) (h0 : Heap) (n0 : Nat) (Z0 : n0 ≤ h0.size) :
    MetFree l (⟨"com/example/gearwork/gearwork/core/DecimalDividedByPowerPinLaw", "pow10", "(I)I"⟩ : MethodName) (head1 (Jvm.Cond.code (⟨"com/example/gearwork/gearwork/core/DecimalDividedByPowerPinLaw", "pow10", "(I)I"⟩ : MethodName) method_2_code 1 (some .int) :: ws) ({ frames := 0, cells := 0, slots := 0, locals := 0 } : Room)) (fun a U => a = #[(.int p0)] ∧ Z.Warmed39 U.vm ∧ U.heap = h0) (fun _ _ _ _ _ => True) (fun _ U o U' => ∃ v L, o = .returned v ∧ Q1 Z p0 h0 n0 v U'.heap L ∧ FrameEnd U o U' L ({ frames := 0, cells := 0, slots := 0, locals := 0 } : Room).cells ({ frames := 0, cells := 0, slots := 0, locals := 0 } : Room).slots) := by
  refine MetFree.of_bodySF (plainFor_of_name pn_1) hisR ?_
  intro p e s m args below meth c s₁ Bd hml0 hP hK
  obtain ⟨rfl, hZ, hh⟩ := hP
  have hx := Bd.exec
  have hby := Bd.bytes
  have hml : c.maxLocals = 1 := hml0
  have hown : s.vm.findClass "com/example/gearwork/gearwork/core/DecimalDividedByPowerPinLaw" = some m.cls := findClass_of_methodNamed Bd.named
  have hnm := (name_of_methodNamed Bd.named Bd.method).1
  have X0 : Stand p l e ({ frames := 0, cells := 0, slots := 0, locals := 0 } : Room) s m #[(.int p0)] below meth c s₁ [] 0 0 := Stand.of_body Bd
  have e0 : s₁.heap = h0 := by rw [← hh, Bd.state]; rfl
  have N0 := Fr.nil n0
  have k0 : own_R p e below (s₁.setTop (entryFrame m #[(.int p0)] 1)) (s₁.setTop (mkF m 0 #[.val (.int p0)] [])) := fun t k => castTop (ef_1 m p0) k
  have ks1 : own_R p e below (s₁.setTop (entryFrame m #[(.int p0)] 1)) (s₁.setTop (mkF m 1 #[.val (.int p0)] [(.int p0)])) := fun t k => k0 t (by
    show Steps p.tables e below (s₁.setTop (mkF m 0 #[.val (.int p0)] [])) _
    refine XS.iloadN X0.here hx rfl (hb hby d1_0) rfl ?_
    exact k)
  by_cases hc2 : p0 = (0 : Int32)
  · skip
    have ks3 : own_R p e below (s₁.setTop (entryFrame m #[(.int p0)] 1)) (s₁.setTop (mkF m 5 #[.val (.int p0)] [(.int (1 : Int32))])) := fun t k => ks1 t (by
      show Steps p.tables e below (s₁.setTop (mkF m 1 #[.val (.int p0)] [(.int p0)])) _
      refine XS.ifNo X0.here hx rfl (hb hby d1_1) rfl ((if0 _ _).trans (teq hc2).2) ?_
      show Steps p.tables e below (s₁.setTop (mkF m 4 #[.val (.int p0)] [])) _
      refine XS.iconst X0.here hx rfl (hb hby d1_4) ?_
      exact k)
    obtain ⟨fs, hr, hrun, hended, hW, hsame⟩ := X0.leave (v := some (.int (1 : Int32))) (fun h => by rw [Bd.returns] at h; cases h)
    refine ⟨_, _, ks3 _ ?_, hrun, hended, _, _, rfl, ?_, ⟨_, rfl⟩, hW, hsame.mono (by decide) (by decide)⟩
    · exact retI X0 hx Bd.returns (hb hby d1_5) hr
    · show Q1 Z p0 h0 n0 _ s₁.heap _
      rw [e0]
      refine ⟨?_, N0, rfl⟩
      rw [own_pow10, if_pos hc2]
  · skip
    have ks4 : own_R p e below (s₁.setTop (entryFrame m #[(.int p0)] 1)) (s₁.setTop (mkF m 8 #[.val (.int p0)] [(.int (1 : Int32)), (.int p0)])) := fun t k => ks1 t (by
      show Steps p.tables e below (s₁.setTop (mkF m 1 #[.val (.int p0)] [(.int p0)])) _
      refine XS.ifYes X0.here hx rfl (pc0 := 1) (pc' := 6) rfl (hb hby d1_1) rfl ((if0 _ _).trans (feq hc2).2) (by decide) (by decide) ?_
      show Steps p.tables e below (s₁.setTop (mkF m 6 #[.val (.int p0)] [])) _
      refine XS.iloadN X0.here hx rfl (hb hby d1_6) rfl ?_
      show Steps p.tables e below (s₁.setTop (mkF m 7 #[.val (.int p0)] [(.int p0)])) _
      refine XS.iconst X0.here hx rfl (hb hby d1_7) ?_
      exact k)
    by_cases hc5 : p0 = (1 : Int32)
    · skip
      have ks6 : own_R p e below (s₁.setTop (entryFrame m #[(.int p0)] 1)) (s₁.setTop (mkF m 13 #[.val (.int p0)] [(.int (10 : Int32))])) := fun t k => ks4 t (by
        show Steps p.tables e below (s₁.setTop (mkF m 8 #[.val (.int p0)] [(.int (1 : Int32)), (.int p0)])) _
        refine XS.icmpNo X0.here hx rfl (hb hby d1_8) rfl (teq hc5).2 ?_
        show Steps p.tables e below (s₁.setTop (mkF m 11 #[.val (.int p0)] [])) _
        refine XS.bipush X0.here hx rfl (hb hby d1_11) ?_
        exact k)
      obtain ⟨fs, hr, hrun, hended, hW, hsame⟩ := X0.leave (v := some (.int (10 : Int32))) (fun h => by rw [Bd.returns] at h; cases h)
      refine ⟨_, _, ks6 _ ?_, hrun, hended, _, _, rfl, ?_, ⟨_, rfl⟩, hW, hsame.mono (by decide) (by decide)⟩
      · exact retI X0 hx Bd.returns (hb hby d1_13) hr
      · show Q1 Z p0 h0 n0 _ s₁.heap _
        rw [e0]
        refine ⟨?_, N0, rfl⟩
        rw [own_pow10, if_neg hc2, if_pos hc5]
    · skip
      have ks7 : own_R p e below (s₁.setTop (entryFrame m #[(.int p0)] 1)) (s₁.setTop (mkF m 16 #[.val (.int p0)] [(.int (2 : Int32)), (.int p0)])) := fun t k => ks4 t (by
        show Steps p.tables e below (s₁.setTop (mkF m 8 #[.val (.int p0)] [(.int (1 : Int32)), (.int p0)])) _
        refine XS.icmpYes X0.here hx rfl (pc0 := 8) (pc' := 14) rfl (hb hby d1_8) rfl (feq hc5).2 (by decide) (by decide) ?_
        show Steps p.tables e below (s₁.setTop (mkF m 14 #[.val (.int p0)] [])) _
        refine XS.iloadN X0.here hx rfl (hb hby d1_14) rfl ?_
        show Steps p.tables e below (s₁.setTop (mkF m 15 #[.val (.int p0)] [(.int p0)])) _
        refine XS.iconst X0.here hx rfl (hb hby d1_15) ?_
        exact k)
      by_cases hc8 : p0 = (2 : Int32)
      · skip
        have ks9 : own_R p e below (s₁.setTop (entryFrame m #[(.int p0)] 1)) (s₁.setTop (mkF m 21 #[.val (.int p0)] [(.int (100 : Int32))])) := fun t k => ks7 t (by
          show Steps p.tables e below (s₁.setTop (mkF m 16 #[.val (.int p0)] [(.int (2 : Int32)), (.int p0)])) _
          refine XS.icmpNo X0.here hx rfl (hb hby d1_16) rfl (teq hc8).2 ?_
          show Steps p.tables e below (s₁.setTop (mkF m 19 #[.val (.int p0)] [])) _
          refine XS.bipush X0.here hx rfl (hb hby d1_19) ?_
          exact k)
        obtain ⟨fs, hr, hrun, hended, hW, hsame⟩ := X0.leave (v := some (.int (100 : Int32))) (fun h => by rw [Bd.returns] at h; cases h)
        refine ⟨_, _, ks9 _ ?_, hrun, hended, _, _, rfl, ?_, ⟨_, rfl⟩, hW, hsame.mono (by decide) (by decide)⟩
        · exact retI X0 hx Bd.returns (hb hby d1_21) hr
        · show Q1 Z p0 h0 n0 _ s₁.heap _
          rw [e0]
          refine ⟨?_, N0, rfl⟩
          rw [own_pow10, if_neg hc2, if_neg hc5, if_pos hc8]
      · skip
        have ks10 : own_R p e below (s₁.setTop (entryFrame m #[(.int p0)] 1)) (s₁.setTop (mkF m 24 #[.val (.int p0)] [(.int (3 : Int32)), (.int p0)])) := fun t k => ks7 t (by
          show Steps p.tables e below (s₁.setTop (mkF m 16 #[.val (.int p0)] [(.int (2 : Int32)), (.int p0)])) _
          refine XS.icmpYes X0.here hx rfl (pc0 := 16) (pc' := 22) rfl (hb hby d1_16) rfl (feq hc8).2 (by decide) (by decide) ?_
          show Steps p.tables e below (s₁.setTop (mkF m 22 #[.val (.int p0)] [])) _
          refine XS.iloadN X0.here hx rfl (hb hby d1_22) rfl ?_
          show Steps p.tables e below (s₁.setTop (mkF m 23 #[.val (.int p0)] [(.int p0)])) _
          refine XS.iconst X0.here hx rfl (hb hby d1_23) ?_
          exact k)
        by_cases hc11 : p0 = (3 : Int32)
        · skip
          have ks12 : own_R p e below (s₁.setTop (entryFrame m #[(.int p0)] 1)) (s₁.setTop (mkF m 30 #[.val (.int p0)] [(.int (1000 : Int32))])) := fun t k => ks10 t (by
            show Steps p.tables e below (s₁.setTop (mkF m 24 #[.val (.int p0)] [(.int (3 : Int32)), (.int p0)])) _
            refine XS.icmpNo X0.here hx rfl (hb hby d1_24) rfl (teq hc11).2 ?_
            show Steps p.tables e below (s₁.setTop (mkF m 27 #[.val (.int p0)] [])) _
            refine XS.sipush X0.here hx rfl (hb hby d1_27) ?_
            exact k)
          obtain ⟨fs, hr, hrun, hended, hW, hsame⟩ := X0.leave (v := some (.int (1000 : Int32))) (fun h => by rw [Bd.returns] at h; cases h)
          refine ⟨_, _, ks12 _ ?_, hrun, hended, _, _, rfl, ?_, ⟨_, rfl⟩, hW, hsame.mono (by decide) (by decide)⟩
          · exact retI X0 hx Bd.returns (hb hby d1_30) hr
          · show Q1 Z p0 h0 n0 _ s₁.heap _
            rw [e0]
            refine ⟨?_, N0, rfl⟩
            rw [own_pow10, if_neg hc2, if_neg hc5, if_neg hc8, if_pos hc11]
        · skip
          have ks13 : own_R p e below (s₁.setTop (entryFrame m #[(.int p0)] 1)) (s₁.setTop (mkF m 33 #[.val (.int p0)] [(.int (4 : Int32)), (.int p0)])) := fun t k => ks10 t (by
            show Steps p.tables e below (s₁.setTop (mkF m 24 #[.val (.int p0)] [(.int (3 : Int32)), (.int p0)])) _
            refine XS.icmpYes X0.here hx rfl (pc0 := 24) (pc' := 31) rfl (hb hby d1_24) rfl (feq hc11).2 (by decide) (by decide) ?_
            show Steps p.tables e below (s₁.setTop (mkF m 31 #[.val (.int p0)] [])) _
            refine XS.iloadN X0.here hx rfl (hb hby d1_31) rfl ?_
            show Steps p.tables e below (s₁.setTop (mkF m 32 #[.val (.int p0)] [(.int p0)])) _
            refine XS.iconst X0.here hx rfl (hb hby d1_32) ?_
            exact k)
          by_cases hc14 : p0 = (4 : Int32)
          · skip
            have ks15 : own_R p e below (s₁.setTop (entryFrame m #[(.int p0)] 1)) (s₁.setTop (mkF m 39 #[.val (.int p0)] [(.int (10000 : Int32))])) := fun t k => ks13 t (by
              show Steps p.tables e below (s₁.setTop (mkF m 33 #[.val (.int p0)] [(.int (4 : Int32)), (.int p0)])) _
              refine XS.icmpNo X0.here hx rfl (hb hby d1_33) rfl (teq hc14).2 ?_
              show Steps p.tables e below (s₁.setTop (mkF m 36 #[.val (.int p0)] [])) _
              refine XS.sipush X0.here hx rfl (hb hby d1_36) ?_
              exact k)
            obtain ⟨fs, hr, hrun, hended, hW, hsame⟩ := X0.leave (v := some (.int (10000 : Int32))) (fun h => by rw [Bd.returns] at h; cases h)
            refine ⟨_, _, ks15 _ ?_, hrun, hended, _, _, rfl, ?_, ⟨_, rfl⟩, hW, hsame.mono (by decide) (by decide)⟩
            · exact retI X0 hx Bd.returns (hb hby d1_39) hr
            · show Q1 Z p0 h0 n0 _ s₁.heap _
              rw [e0]
              refine ⟨?_, N0, rfl⟩
              rw [own_pow10, if_neg hc2, if_neg hc5, if_neg hc8, if_neg hc11, if_pos hc14]
          · skip
            have ks16 : own_R p e below (s₁.setTop (entryFrame m #[(.int p0)] 1)) (s₁.setTop (mkF m 42 #[.val (.int p0)] [(.int (5 : Int32)), (.int p0)])) := fun t k => ks13 t (by
              show Steps p.tables e below (s₁.setTop (mkF m 33 #[.val (.int p0)] [(.int (4 : Int32)), (.int p0)])) _
              refine XS.icmpYes X0.here hx rfl (pc0 := 33) (pc' := 40) rfl (hb hby d1_33) rfl (feq hc14).2 (by decide) (by decide) ?_
              show Steps p.tables e below (s₁.setTop (mkF m 40 #[.val (.int p0)] [])) _
              refine XS.iloadN X0.here hx rfl (hb hby d1_40) rfl ?_
              show Steps p.tables e below (s₁.setTop (mkF m 41 #[.val (.int p0)] [(.int p0)])) _
              refine XS.iconst X0.here hx rfl (hb hby d1_41) ?_
              exact k)
            by_cases hc17 : p0 = (5 : Int32)
            · skip
              have ks18 : own_R p e below (s₁.setTop (entryFrame m #[(.int p0)] 1)) (s₁.setTop (mkF m 47 #[.val (.int p0)] [(.int (100000 : Int32))])) := fun t k => ks16 t (by
                show Steps p.tables e below (s₁.setTop (mkF m 42 #[.val (.int p0)] [(.int (5 : Int32)), (.int p0)])) _
                refine XS.icmpNo X0.here hx rfl (hb hby d1_42) rfl (teq hc17).2 ?_
                show Steps p.tables e below (s₁.setTop (mkF m 45 #[.val (.int p0)] [])) _
                refine X0.ldcInt hx hown (mvT hZ (hw _ (List.mem_of_getElem? (i := 16) rfl))) (g := (mkF m 45 #[.val (.int p0)] [])) rfl (hb hby d1_45) _ ?_
                exact k)
              obtain ⟨fs, hr, hrun, hended, hW, hsame⟩ := X0.leave (v := some (.int (100000 : Int32))) (fun h => by rw [Bd.returns] at h; cases h)
              refine ⟨_, _, ks18 _ ?_, hrun, hended, _, _, rfl, ?_, ⟨_, rfl⟩, hW, hsame.mono (by decide) (by decide)⟩
              · exact retI X0 hx Bd.returns (hb hby d1_47) hr
              · show Q1 Z p0 h0 n0 _ s₁.heap _
                rw [e0]
                refine ⟨?_, N0, rfl⟩
                rw [own_pow10, if_neg hc2, if_neg hc5, if_neg hc8, if_neg hc11, if_neg hc14, if_pos hc17]
            · skip
              have ks19 : own_R p e below (s₁.setTop (entryFrame m #[(.int p0)] 1)) (s₁.setTop (mkF m 51 #[.val (.int p0)] [(.int (6 : Int32)), (.int p0)])) := fun t k => ks16 t (by
                show Steps p.tables e below (s₁.setTop (mkF m 42 #[.val (.int p0)] [(.int (5 : Int32)), (.int p0)])) _
                refine XS.icmpYes X0.here hx rfl (pc0 := 42) (pc' := 48) rfl (hb hby d1_42) rfl (feq hc17).2 (by decide) (by decide) ?_
                show Steps p.tables e below (s₁.setTop (mkF m 48 #[.val (.int p0)] [])) _
                refine XS.iloadN X0.here hx rfl (hb hby d1_48) rfl ?_
                show Steps p.tables e below (s₁.setTop (mkF m 49 #[.val (.int p0)] [(.int p0)])) _
                refine XS.bipush X0.here hx rfl (hb hby d1_49) ?_
                exact k)
              by_cases hc20 : p0 = (6 : Int32)
              · skip
                have ks21 : own_R p e below (s₁.setTop (entryFrame m #[(.int p0)] 1)) (s₁.setTop (mkF m 56 #[.val (.int p0)] [(.int (1000000 : Int32))])) := fun t k => ks19 t (by
                  show Steps p.tables e below (s₁.setTop (mkF m 51 #[.val (.int p0)] [(.int (6 : Int32)), (.int p0)])) _
                  refine XS.icmpNo X0.here hx rfl (hb hby d1_51) rfl (teq hc20).2 ?_
                  show Steps p.tables e below (s₁.setTop (mkF m 54 #[.val (.int p0)] [])) _
                  refine X0.ldcInt hx hown (mvT hZ (hw _ (List.mem_of_getElem? (i := 14) rfl))) (g := (mkF m 54 #[.val (.int p0)] [])) rfl (hb hby d1_54) _ ?_
                  exact k)
                obtain ⟨fs, hr, hrun, hended, hW, hsame⟩ := X0.leave (v := some (.int (1000000 : Int32))) (fun h => by rw [Bd.returns] at h; cases h)
                refine ⟨_, _, ks21 _ ?_, hrun, hended, _, _, rfl, ?_, ⟨_, rfl⟩, hW, hsame.mono (by decide) (by decide)⟩
                · exact retI X0 hx Bd.returns (hb hby d1_56) hr
                · show Q1 Z p0 h0 n0 _ s₁.heap _
                  rw [e0]
                  refine ⟨?_, N0, rfl⟩
                  rw [own_pow10, if_neg hc2, if_neg hc5, if_neg hc8, if_neg hc11, if_neg hc14, if_neg hc17, if_pos hc20]
              · skip
                have ks22 : own_R p e below (s₁.setTop (entryFrame m #[(.int p0)] 1)) (s₁.setTop (mkF m 60 #[.val (.int p0)] [(.int (7 : Int32)), (.int p0)])) := fun t k => ks19 t (by
                  show Steps p.tables e below (s₁.setTop (mkF m 51 #[.val (.int p0)] [(.int (6 : Int32)), (.int p0)])) _
                  refine XS.icmpYes X0.here hx rfl (pc0 := 51) (pc' := 57) rfl (hb hby d1_51) rfl (feq hc20).2 (by decide) (by decide) ?_
                  show Steps p.tables e below (s₁.setTop (mkF m 57 #[.val (.int p0)] [])) _
                  refine XS.iloadN X0.here hx rfl (hb hby d1_57) rfl ?_
                  show Steps p.tables e below (s₁.setTop (mkF m 58 #[.val (.int p0)] [(.int p0)])) _
                  refine XS.bipush X0.here hx rfl (hb hby d1_58) ?_
                  exact k)
                by_cases hc23 : p0 = (7 : Int32)
                · skip
                  have ks24 : own_R p e below (s₁.setTop (entryFrame m #[(.int p0)] 1)) (s₁.setTop (mkF m 65 #[.val (.int p0)] [(.int (10000000 : Int32))])) := fun t k => ks22 t (by
                    show Steps p.tables e below (s₁.setTop (mkF m 60 #[.val (.int p0)] [(.int (7 : Int32)), (.int p0)])) _
                    refine XS.icmpNo X0.here hx rfl (hb hby d1_60) rfl (teq hc23).2 ?_
                    show Steps p.tables e below (s₁.setTop (mkF m 63 #[.val (.int p0)] [])) _
                    refine X0.ldcInt hx hown (mvT hZ (hw _ (List.mem_of_getElem? (i := 15) rfl))) (g := (mkF m 63 #[.val (.int p0)] [])) rfl (hb hby d1_63) _ ?_
                    exact k)
                  obtain ⟨fs, hr, hrun, hended, hW, hsame⟩ := X0.leave (v := some (.int (10000000 : Int32))) (fun h => by rw [Bd.returns] at h; cases h)
                  refine ⟨_, _, ks24 _ ?_, hrun, hended, _, _, rfl, ?_, ⟨_, rfl⟩, hW, hsame.mono (by decide) (by decide)⟩
                  · exact retI X0 hx Bd.returns (hb hby d1_65) hr
                  · show Q1 Z p0 h0 n0 _ s₁.heap _
                    rw [e0]
                    refine ⟨?_, N0, rfl⟩
                    rw [own_pow10, if_neg hc2, if_neg hc5, if_neg hc8, if_neg hc11, if_neg hc14, if_neg hc17, if_neg hc20, if_pos hc23]
                · skip
                  have ks25 : own_R p e below (s₁.setTop (entryFrame m #[(.int p0)] 1)) (s₁.setTop (mkF m 69 #[.val (.int p0)] [(.int (8 : Int32)), (.int p0)])) := fun t k => ks22 t (by
                    show Steps p.tables e below (s₁.setTop (mkF m 60 #[.val (.int p0)] [(.int (7 : Int32)), (.int p0)])) _
                    refine XS.icmpYes X0.here hx rfl (pc0 := 60) (pc' := 66) rfl (hb hby d1_60) rfl (feq hc23).2 (by decide) (by decide) ?_
                    show Steps p.tables e below (s₁.setTop (mkF m 66 #[.val (.int p0)] [])) _
                    refine XS.iloadN X0.here hx rfl (hb hby d1_66) rfl ?_
                    show Steps p.tables e below (s₁.setTop (mkF m 67 #[.val (.int p0)] [(.int p0)])) _
                    refine XS.bipush X0.here hx rfl (hb hby d1_67) ?_
                    exact k)
                  by_cases hc26 : p0 = (8 : Int32)
                  · skip
                    have ks27 : own_R p e below (s₁.setTop (entryFrame m #[(.int p0)] 1)) (s₁.setTop (mkF m 74 #[.val (.int p0)] [(.int (100000000 : Int32))])) := fun t k => ks25 t (by
                      show Steps p.tables e below (s₁.setTop (mkF m 69 #[.val (.int p0)] [(.int (8 : Int32)), (.int p0)])) _
                      refine XS.icmpNo X0.here hx rfl (hb hby d1_69) rfl (teq hc26).2 ?_
                      show Steps p.tables e below (s₁.setTop (mkF m 72 #[.val (.int p0)] [])) _
                      refine X0.ldcInt hx hown (mvT hZ (hw _ (List.mem_of_getElem? (i := 18) rfl))) (g := (mkF m 72 #[.val (.int p0)] [])) rfl (hb hby d1_72) _ ?_
                      exact k)
                    obtain ⟨fs, hr, hrun, hended, hW, hsame⟩ := X0.leave (v := some (.int (100000000 : Int32))) (fun h => by rw [Bd.returns] at h; cases h)
                    refine ⟨_, _, ks27 _ ?_, hrun, hended, _, _, rfl, ?_, ⟨_, rfl⟩, hW, hsame.mono (by decide) (by decide)⟩
                    · exact retI X0 hx Bd.returns (hb hby d1_74) hr
                    · show Q1 Z p0 h0 n0 _ s₁.heap _
                      rw [e0]
                      refine ⟨?_, N0, rfl⟩
                      rw [own_pow10, if_neg hc2, if_neg hc5, if_neg hc8, if_neg hc11, if_neg hc14, if_neg hc17, if_neg hc20, if_neg hc23, if_pos hc26]
                  · skip
                    have ks28 : own_R p e below (s₁.setTop (entryFrame m #[(.int p0)] 1)) (s₁.setTop (mkF m 77 #[.val (.int p0)] [(.int (1000000000 : Int32))])) := fun t k => ks25 t (by
                      show Steps p.tables e below (s₁.setTop (mkF m 69 #[.val (.int p0)] [(.int (8 : Int32)), (.int p0)])) _
                      refine XS.icmpYes X0.here hx rfl (pc0 := 69) (pc' := 75) rfl (hb hby d1_69) rfl (feq hc26).2 (by decide) (by decide) ?_
                      show Steps p.tables e below (s₁.setTop (mkF m 75 #[.val (.int p0)] [])) _
                      refine X0.ldcInt hx hown (mvT hZ (hw _ (List.mem_of_getElem? (i := 17) rfl))) (g := (mkF m 75 #[.val (.int p0)] [])) rfl (hb hby d1_75) _ ?_
                      exact k)
                    obtain ⟨fs, hr, hrun, hended, hW, hsame⟩ := X0.leave (v := some (.int (1000000000 : Int32))) (fun h => by rw [Bd.returns] at h; cases h)
                    refine ⟨_, _, ks28 _ ?_, hrun, hended, _, _, rfl, ?_, ⟨_, rfl⟩, hW, hsame.mono (by decide) (by decide)⟩
                    · exact retI X0 hx Bd.returns (hb hby d1_77) hr
                    · show Q1 Z p0 h0 n0 _ s₁.heap _
                      rw [e0]
                      refine ⟨?_, N0, rfl⟩
                      rw [own_pow10, if_neg hc2, if_neg hc5, if_neg hc8, if_neg hc11, if_neg hc14, if_neg hc17, if_neg hc20, if_neg hc23, if_neg hc26]
def own_facL : List Int64 := [(2147483648 : Int64), (1717986919 : Int64), (1374389535 : Int64), (1099511628 : Int64), (1759218605 : Int64), (1407374884 : Int64), (1125899907 : Int64), (1801439851 : Int64), (1441151881 : Int64), (1152921505 : Int64)]
def own_shfL : List Int32 := [(31 : Int32), (34 : Int32), (37 : Int32), (40 : Int32), (44 : Int32), (47 : Int32), (50 : Int32), (54 : Int32), (57 : Int32), (60 : Int32)]

def own_fac (j : Int32) : Int64 := own_facL.getD j.toNatClampNeg 0
def own_shf (j : Int32) : Int32 := own_shfL.getD j.toNatClampNeg 0
theorem own_gJ (l : List Int64) (n : Nat) : (l.map Value.long).getD n (.long (0 : Int64)) = .long (l.getD n 0) := by
  simp only [List.getD_eq_getElem?_getD, List.getElem?_map]; cases l[n]? <;> rfl
theorem own_gI (l : List Int32) (n : Nat) : (l.map Value.int).getD n (.int (0 : Int32)) = .int (l.getD n 0) := by
  simp only [List.getD_eq_getElem?_getD, List.getElem?_map]; cases l[n]? <;> rfl
def own_div (p0 p1 : Int32) : Int32 := (((p0.toInt64 * own_fac p1).toUInt64 >>> ((own_shf p1) &&& 0x3f).toInt64.toUInt64).toInt64).toInt32
theorem d2_0 : decode prog_15_method_40_code 0 = .ok (.iload_n 0, 1) := by decide +kernel
theorem d2_1 : decode prog_15_method_40_code 1 = .ok (.i2l, 1) := by decide +kernel
theorem d2_2 : decode prog_15_method_40_code 2 = .ok (.getstatic 278, 3) := by decide +kernel
theorem d2_5 : decode prog_15_method_40_code 5 = .ok (.iload_n 1, 1) := by decide +kernel
theorem d2_6 : decode prog_15_method_40_code 6 = .ok (.laload, 1) := by decide +kernel
theorem d2_7 : decode prog_15_method_40_code 7 = .ok (.lmul, 1) := by decide +kernel
theorem d2_8 : decode prog_15_method_40_code 8 = .ok (.getstatic 282, 3) := by decide +kernel
theorem d2_11 : decode prog_15_method_40_code 11 = .ok (.iload_n 1, 1) := by decide +kernel
theorem d2_12 : decode prog_15_method_40_code 12 = .ok (.iaload, 1) := by decide +kernel
theorem d2_13 : decode prog_15_method_40_code 13 = .ok (.lushr, 1) := by decide +kernel
theorem d2_14 : decode prog_15_method_40_code 14 = .ok (.l2i, 1) := by decide +kernel
theorem d2_15 : decode prog_15_method_40_code 15 = .ok (.ireturn, 1) := by decide +kernel
theorem pn_2 : plainName "com/example/gearwork/gearwork/core/Decimal" = true := by first | (simp [plainName, overriddenIn]; done) | decide +kernel
theorem ef_2 (m : MethodId) (x0 : Int32) (x1 : Int32) : entryFrame m #[(.int x0), (.int x1)] 2 = mkF m 0 #[.val (.int x0), .val (.int x1)] [] := by first | (simp [entryFrame, mkF, argsToLocals, Value.category]; done) | rfl
def Q2 (Z : State) (p0 : Int32) (p1 : Int32) (u1 : Addr) (u2 : Addr) (k1 : ClassId) (k2 : ClassId) (h0 : Heap) (n0 : Nat) (v : Option Value) (h : Heap) (L : List Loc) : Prop := v = some (.int (own_div p0 p1)) ∧ Fr n0 L ∧ h = h0
set_option maxRecDepth 65536 in
set_option maxHeartbeats 40000000 in
theorem rm2 (l : Launch) (Z : State) (a0 : Array Value) (hw : ∀ d ∈ tables_1, d.before a0 Z = true) (ws : List Jvm.Cond) (p0 : Int32) (p1 : Int32) (u1 : Addr) (u2 : Addr) (k1 : ClassId) (k2 : ClassId) (h0 : Heap) (n0 : Nat) (Z0 : n0 ≤ h0.size) (hp : ¬ p1 < (0 : Int32) ∧ p1 < (10 : Int32)) (S1 : Sta Z h0 "com/example/gearwork/gearwork/core/Decimal" "QUOTIENT_FACTORS" "[J" (.ref u1)) (S2 : Sta Z h0 "com/example/gearwork/gearwork/core/Decimal" "QUOTIENT_SHIFTS" "[I" (.ref u2)) (V1 : Arv Z h0 u1 k1 .long (10 : Int32) (own_facL.map Value.long) (.long (0 : Int64))) (V2 : Arv Z h0 u2 k2 .int (10 : Int32) (own_shfL.map Value.int) (.int (0 : Int32))) :
    MetFree l (⟨"com/example/gearwork/gearwork/core/Decimal", "dividedByPower", "(II)I"⟩ : MethodName) (head1 (Jvm.Cond.code (⟨"com/example/gearwork/gearwork/core/Decimal", "dividedByPower", "(II)I"⟩ : MethodName) prog_15_method_40_code 2 (some .int) :: ws) ({ frames := 0, cells := 0, slots := 0, locals := 0 } : Room)) (fun a U => a = #[(.int p0), (.int p1)] ∧ Z.Warmed39 U.vm ∧ U.heap = h0) (fun _ _ _ _ _ => True) (fun _ U o U' => ∃ v L, o = .returned v ∧ Q2 Z p0 p1 u1 u2 k1 k2 h0 n0 v U'.heap L ∧ FrameEnd U o U' L ({ frames := 0, cells := 0, slots := 0, locals := 0 } : Room).cells ({ frames := 0, cells := 0, slots := 0, locals := 0 } : Room).slots) := by
  refine MetFree.of_bodySF (plainFor_of_name pn_2) hisR ?_
  intro p e s m args below meth c s₁ Bd hml0 hP hK
  obtain ⟨rfl, hZ, hh⟩ := hP
  have hx := Bd.exec
  have hby := Bd.bytes
  have hml : c.maxLocals = 2 := hml0
  have hown : s.vm.findClass "com/example/gearwork/gearwork/core/Decimal" = some m.cls := findClass_of_methodNamed Bd.named
  have hnm := (name_of_methodNamed Bd.named Bd.method).1
  have X0 : Stand p l e ({ frames := 0, cells := 0, slots := 0, locals := 0 } : Room) s m #[(.int p0), (.int p1)] below meth c s₁ [] 0 0 := Stand.of_body Bd
  have e0 : s₁.heap = h0 := by rw [← hh, Bd.state]; rfl
  have N0 := Fr.nil n0
  have k0 : own_R p e below (s₁.setTop (entryFrame m #[(.int p0), (.int p1)] 2)) (s₁.setTop (mkF m 0 #[.val (.int p0), .val (.int p1)] [])) := fun t k => castTop (ef_2 m p0 p1) k
  have ks1 : own_R p e below (s₁.setTop (entryFrame m #[(.int p0), (.int p1)] 2)) (s₁.setTop (mkF m 2 #[.val (.int p0), .val (.int p1)] [(.long (p0.toInt64))])) := fun t k => k0 t (by
    show Steps p.tables e below (s₁.setTop (mkF m 0 #[.val (.int p0), .val (.int p1)] [])) _
    refine XS.iloadN X0.here hx rfl (hb hby d2_0) rfl ?_
    show Steps p.tables e below (s₁.setTop (mkF m 1 #[.val (.int p0), .val (.int p1)] [(.int p0)])) _
    refine XS.i2l X0.here hx rfl (hb hby d2_1) rfl ?_
    exact k)
  obtain ⟨T2, X2, e2, st2⟩ := getS2 X0 hx hZ hown (host := "") (Or.inl (hw _ (List.mem_of_getElem? (i := 10) rfl))) Via.refl e0 S1 (g := (mkF m 2 #[.val (.int p0), .val (.int p1)] [(.long (p0.toInt64))])) rfl (hb hby d2_2)
  have ks3 : own_R p e below (s₁.setTop (entryFrame m #[(.int p0), (.int p1)] 2)) (T2.setTop (mkF m 5 #[.val (.int p0), .val (.int p1)] [(.ref u1), (.long (p0.toInt64))])) := fun t k => ks1 t (st2 t k)
  have ks4 : own_R p e below (s₁.setTop (entryFrame m #[(.int p0), (.int p1)] 2)) (T2.setTop (mkF m 6 #[.val (.int p0), .val (.int p1)] [(.int p1), (.ref u1), (.long (p0.toInt64))])) := fun t k => ks3 t (by
    show Steps p.tables e below (T2.setTop (mkF m 5 #[.val (.int p0), .val (.int p1)] [(.ref u1), (.long (p0.toInt64))])) _
    refine XS.iloadN X2.here hx rfl (hb hby d2_5) rfl ?_
    exact k)
  obtain ⟨cl5, Ar5, qa5, S5, Na5, Ha5, Ga5⟩ := id V1
  have ks6 : own_R p e below (s₁.setTop (entryFrame m #[(.int p0), (.int p1)] 2)) (T2.setTop (mkF m 8 #[.val (.int p0), .val (.int p1)] [(.long ((p0.toInt64) * (own_fac p1)))])) := fun t k => ks4 t (by
    show Steps p.tables e below (T2.setTop (mkF m 6 #[.val (.int p0), .val (.int p1)] [(.int p1), (.ref u1), (.long (p0.toInt64))])) _
    refine X2.laload hx (j := p1) (v := (.long (own_fac p1))) (by rw [e2]; exact Ar5.1) (State.isArrayOf_alike hZ.alike Ar5.2.1) Ar5.2.2 (inb_of S5 hp) (Has.at Ha5 (inb_of S5 hp) (own_gJ _ _)) (g := (mkF m 6 #[.val (.int p0), .val (.int p1)] [(.int p1), (.ref u1), (.long (p0.toInt64))])) rfl rfl (hb hby d2_6) _ ?_
    show Steps p.tables e below (T2.setTop (mkF m 7 #[.val (.int p0), .val (.int p1)] [(.long (own_fac p1)), (.long (p0.toInt64))])) _
    refine XS.lmul X2.here hx rfl (hb hby d2_7) rfl ?_
    exact k)
  obtain ⟨T7, X7, e7, st7⟩ := getS2 X2 hx hZ hown (host := "") (Or.inl (hw _ (List.mem_of_getElem? (i := 12) rfl))) Via.refl e2 S2 (g := (mkF m 8 #[.val (.int p0), .val (.int p1)] [(.long ((p0.toInt64) * (own_fac p1)))])) rfl (hb hby d2_8)
  have ks8 : own_R p e below (s₁.setTop (entryFrame m #[(.int p0), (.int p1)] 2)) (T7.setTop (mkF m 11 #[.val (.int p0), .val (.int p1)] [(.ref u2), (.long ((p0.toInt64) * (own_fac p1)))])) := fun t k => ks6 t (st7 t k)
  have ks9 : own_R p e below (s₁.setTop (entryFrame m #[(.int p0), (.int p1)] 2)) (T7.setTop (mkF m 12 #[.val (.int p0), .val (.int p1)] [(.int p1), (.ref u2), (.long ((p0.toInt64) * (own_fac p1)))])) := fun t k => ks8 t (by
    show Steps p.tables e below (T7.setTop (mkF m 11 #[.val (.int p0), .val (.int p1)] [(.ref u2), (.long ((p0.toInt64) * (own_fac p1)))])) _
    refine XS.iloadN X7.here hx rfl (hb hby d2_11) rfl ?_
    exact k)
  obtain ⟨cl10, Ar10, qa10, S10, Na10, Ha10, Ga10⟩ := id V2
  have ks11 : own_R p e below (s₁.setTop (entryFrame m #[(.int p0), (.int p1)] 2)) (T7.setTop (mkF m 15 #[.val (.int p0), .val (.int p1)] [(.int (((((p0.toInt64) * (own_fac p1)).toUInt64 >>> ((own_shf p1) &&& 0x3f).toInt64.toUInt64).toInt64).toInt32))])) := fun t k => ks9 t (by
    show Steps p.tables e below (T7.setTop (mkF m 12 #[.val (.int p0), .val (.int p1)] [(.int p1), (.ref u2), (.long ((p0.toInt64) * (own_fac p1)))])) _
    refine X7.iaload hx (j := p1) (v := (.int (own_shf p1))) (by rw [e7]; exact Ar10.1) (State.isArrayOf_alike hZ.alike Ar10.2.1) Ar10.2.2 (inb_of S10 hp) (Has.at Ha10 (inb_of S10 hp) (own_gI _ _)) (g := (mkF m 12 #[.val (.int p0), .val (.int p1)] [(.int p1), (.ref u2), (.long ((p0.toInt64) * (own_fac p1)))])) rfl rfl (hb hby d2_12) _ ?_
    show Steps p.tables e below (T7.setTop (mkF m 13 #[.val (.int p0), .val (.int p1)] [(.int (own_shf p1)), (.long ((p0.toInt64) * (own_fac p1)))])) _
    refine XS.lushr X7.here hx rfl (hb hby d2_13) rfl ?_
    show Steps p.tables e below (T7.setTop (mkF m 14 #[.val (.int p0), .val (.int p1)] [(.long ((((p0.toInt64) * (own_fac p1)).toUInt64 >>> ((own_shf p1) &&& 0x3f).toInt64.toUInt64).toInt64))])) _
    refine XS.l2i X7.here hx rfl (hb hby d2_14) rfl ?_
    exact k)
  obtain ⟨fs, hr, hrun, hended, hW, hsame⟩ := X7.leave (v := some (.int (((((p0.toInt64) * (own_fac p1)).toUInt64 >>> ((own_shf p1) &&& 0x3f).toInt64.toUInt64).toInt64).toInt32))) (fun h => by rw [Bd.returns] at h; cases h)
  refine ⟨_, _, ks11 _ ?_, hrun, hended, _, _, rfl, ?_, ⟨_, rfl⟩, hW, hsame.mono (by decide) (by decide)⟩
  · exact retI X7 hx Bd.returns (hb hby d2_15) hr
  · show Q2 Z p0 p1 u1 u2 k1 k2 h0 n0 _ T7.heap _
    rw [e7]
    exact ⟨rfl, N0, rfl⟩

theorem own_dig (b : Int32) : ¬ ((b &&& (2147483647 : Int32)) % (10 : Int32)) < (0 : Int32) ∧ ((b &&& (2147483647 : Int32)) % (10 : Int32)) < (10 : Int32) := by
  have h1 : (b &&& (2147483647 : Int32)).toInt = b.toInt % 2147483648 := c_mask b 2147483647 31 (by decide) (by decide)
  have h2 := c_irem (b &&& (2147483647 : Int32)) 10 10 rfl
  have h3 := h2.1 (by omega)
  rw [Int32.lt_iff_toInt_lt, Int32.lt_iff_toInt_lt, show (0 : Int32).toInt = 0 from rfl, show (10 : Int32).toInt = 10 from rfl]
  omega
theorem own_ten (d : Int32) (h : ¬ d < (0 : Int32) ∧ d < (10 : Int32)) : d = 0 ∨ d = 1 ∨ d = 2 ∨ d = 3 ∨ d = 4 ∨ d = 5 ∨ d = 6 ∨ d = 7 ∨ d = 8 ∨ d = 9 := by
  rw [Int32.lt_iff_toInt_lt, Int32.lt_iff_toInt_lt, show (0 : Int32).toInt = 0 from rfl, show (10 : Int32).toInt = 10 from rfl] at h
  simp only [← Int32.toInt_inj]
  show d.toInt = 0 ∨ d.toInt = 1 ∨ d.toInt = 2 ∨ d.toInt = 3 ∨ d.toInt = 4 ∨ d.toInt = 5 ∨ d.toInt = 6 ∨ d.toInt = 7 ∨ d.toInt = 8 ∨ d.toInt = 9
  omega
theorem own_nz (d : Int32) (h : ¬ d < (0 : Int32) ∧ d < (10 : Int32)) : ¬ (own_pow10 d = (0 : Int32)) := by
  rcases own_ten d h with rfl | rfl | rfl | rfl | rfl | rfl | rfl | rfl | rfl | rfl <;> decide
/-- one power: F = the factor, s = the shift, P = the power -/
theorem own_one (x : Int32) (F : Int64) (s : Int32) (P : Int32) (f : Int) (k : Nat) (q : Int) (h0 : 0 ≤ x.toInt) (h1 : x.toInt < 1073741824) (hF : F.toInt = f) (hf0 : 0 ≤ f) (hf : f ≤ 2147483648) (hs : s.toBitVec.toNat % 64 = k) (hk : 0 < k) (hP : P.toInt = q) (hP1 : P ≠ -1)
    (hm : x.toInt * f / (2 ^ k : Nat) = x.toInt / q) (hq : 0 ≤ x.toInt / q) (hq2 : x.toInt / q ≤ x.toInt) : (((x.toInt64 * F).toUInt64 >>> (s &&& 0x3f).toInt64.toUInt64).toInt64).toInt32 = x / P := by
  apply Int32.toInt_inj.mp
  have e1 := c_lmul x.toInt64 F
  rw [c_i2l, hF] at e1
  have b1 : 0 ≤ x.toInt * f := Int.mul_nonneg h0 hf0
  have b2 : x.toInt * f ≤ 1073741824 * 2147483648 := Int.le_trans (Int.mul_le_mul_of_nonneg_left hf h0) (Int.mul_le_mul_of_nonneg_right (by omega) (by omega))
  have r := rng64 (x.toInt64 * F)
  have e2 : (x.toInt64 * F).toInt = x.toInt * f := by omega
  have e3 := c_lushr (x.toInt64 * F) s k hs hk
  have e4 : (x.toInt64 * F).toInt % 18446744073709551616 = x.toInt * f := by omega
  rw [e4, hm] at e3
  generalize (((x.toInt64 * F).toUInt64 >>> (s &&& 0x3f).toInt64.toUInt64).toInt64) = y at *
  have e5 := c_l2i y
  have r2 := rng32 y.toInt32
  have e6 := (c_idiv x P q hP hP1).1 h0
  omega
theorem own_law (l d : Int32) (h0 : 0 ≤ l.toInt) (h1 : l.toInt < 1073741824) (h : ¬ d < (0 : Int32) ∧ d < (10 : Int32)) : own_div l d = l / own_pow10 d := by
  rcases own_ten d h with rfl | rfl | rfl | rfl | rfl | rfl | rfl | rfl | rfl | rfl
  · exact own_one l (2147483648 : Int64) (31 : Int32) (1 : Int32) 2147483648 31 1 h0 h1 rfl (by decide) (by decide) (by decide) (by decide) rfl (by decide) (by show l.toInt * 2147483648 / 2147483648 = l.toInt / 1; omega) (by omega) (by omega)
  · exact own_one l (1717986919 : Int64) (34 : Int32) (10 : Int32) 1717986919 34 10 h0 h1 rfl (by decide) (by decide) (by decide) (by decide) rfl (by decide) (by show l.toInt * 1717986919 / 17179869184 = l.toInt / 10; omega) (by omega) (by omega)
  · exact own_one l (1374389535 : Int64) (37 : Int32) (100 : Int32) 1374389535 37 100 h0 h1 rfl (by decide) (by decide) (by decide) (by decide) rfl (by decide) (by show l.toInt * 1374389535 / 137438953472 = l.toInt / 100; omega) (by omega) (by omega)
  · exact own_one l (1099511628 : Int64) (40 : Int32) (1000 : Int32) 1099511628 40 1000 h0 h1 rfl (by decide) (by decide) (by decide) (by decide) rfl (by decide) (by show l.toInt * 1099511628 / 1099511627776 = l.toInt / 1000; omega) (by omega) (by omega)
  · exact own_one l (1759218605 : Int64) (44 : Int32) (10000 : Int32) 1759218605 44 10000 h0 h1 rfl (by decide) (by decide) (by decide) (by decide) rfl (by decide) (by show l.toInt * 1759218605 / 17592186044416 = l.toInt / 10000; omega) (by omega) (by omega)
  · exact own_one l (1407374884 : Int64) (47 : Int32) (100000 : Int32) 1407374884 47 100000 h0 h1 rfl (by decide) (by decide) (by decide) (by decide) rfl (by decide) (by show l.toInt * 1407374884 / 140737488355328 = l.toInt / 100000; omega) (by omega) (by omega)
  · exact own_one l (1125899907 : Int64) (50 : Int32) (1000000 : Int32) 1125899907 50 1000000 h0 h1 rfl (by decide) (by decide) (by decide) (by decide) rfl (by decide) (by show l.toInt * 1125899907 / 1125899906842624 = l.toInt / 1000000; omega) (by omega) (by omega)
  · exact own_one l (1801439851 : Int64) (54 : Int32) (10000000 : Int32) 1801439851 54 10000000 h0 h1 rfl (by decide) (by decide) (by decide) (by decide) rfl (by decide) (by show l.toInt * 1801439851 / 18014398509481984 = l.toInt / 10000000; omega) (by omega) (by omega)
  · exact own_one l (1441151881 : Int64) (57 : Int32) (100000000 : Int32) 1441151881 57 100000000 h0 h1 rfl (by decide) (by decide) (by decide) (by decide) rfl (by decide) (by show l.toInt * 1441151881 / 144115188075855872 = l.toInt / 100000000; omega) (by omega) (by omega)
  · exact own_one l (1152921505 : Int64) (60 : Int32) (1000000000 : Int32) 1152921505 60 1000000000 h0 h1 rfl (by decide) (by decide) (by decide) (by decide) rfl (by decide) (by show l.toInt * 1152921505 / 1152921504606846976 = l.toInt / 1000000000; omega) (by omega) (by omega)
theorem own_limb (a : Int32) : 0 ≤ (a &&& (1073741823 : Int32)).toInt ∧ (a &&& (1073741823 : Int32)).toInt < 1073741824 := by
  have h1 : (a &&& (1073741823 : Int32)).toInt = a.toInt % 1073741824 := c_mask a 1073741823 30 (by decide) (by decide)
  omega
theorem pn_0 : plainName "com/example/gearwork/gearwork/core/DecimalDividedByPowerPinLaw" = true := by first | (simp [plainName, overriddenIn]; done) | decide +kernel
theorem pd_0 : parseMethodDescriptor "(I)I" = some ⟨[.int], some .int⟩ := by decide +kernel
theorem pd_1 : parseMethodDescriptor "(II)I" = some ⟨[.int, .int], some .int⟩ := by decide +kernel
theorem ef_0 (m : MethodId) (x0 : Int32) (x1 : Int32) : entryFrame m #[(.int x0), (.int x1)] maxLocals = mkF m 0 #[.val (.int x0), .val (.int x1), .unset, .unset, .unset, .unset] [] := by first | (simp [entryFrame, mkF, argsToLocals, Value.category, maxLocals]; done) | rfl
def Q0 (Z : State) (p0 : Int32) (p1 : Int32) (s_QUOTIENT_FACTORS : Addr) (s_QUOTIENT_SHIFTS : Addr) (k_s_QUOTIENT_FACTORS : ClassId) (k_s_QUOTIENT_SHIFTS : ClassId) (h0 : Heap) (n0 : Nat) (v : Option Value) (h : Heap) (L : List Loc) : Prop := v = some (.int (1 : Int32)) ∧ Fr n0 L
set_option maxRecDepth 65536 in
set_option maxHeartbeats 40000000 in
theorem rm0 (l : Launch) (Z : State) (a0 : Array Value) (hw : ∀ d ∈ tables_1, d.before a0 Z = true) (ws : List Jvm.Cond) (p0 : Int32) (p1 : Int32) (s_QUOTIENT_FACTORS : Addr) (s_QUOTIENT_SHIFTS : Addr) (k_s_QUOTIENT_FACTORS : ClassId) (k_s_QUOTIENT_SHIFTS : ClassId) (h0 : Heap) (n0 : Nat) (Z0 : n0 ≤ h0.size) (S_s_QUOTIENT_FACTORS : Sta Z h0 "com/example/gearwork/gearwork/core/Decimal" "QUOTIENT_FACTORS" "[J" (.ref s_QUOTIENT_FACTORS)) (S_s_QUOTIENT_SHIFTS : Sta Z h0 "com/example/gearwork/gearwork/core/Decimal" "QUOTIENT_SHIFTS" "[I" (.ref s_QUOTIENT_SHIFTS)) (V_s_QUOTIENT_FACTORS : Arv Z h0 s_QUOTIENT_FACTORS k_s_QUOTIENT_FACTORS .long (10 : Int32) [.long (2147483648 : Int64), .long (1717986919 : Int64), .long (1374389535 : Int64), .long (1099511628 : Int64), .long (1759218605 : Int64), .long (1407374884 : Int64), .long (1125899907 : Int64), .long (1801439851 : Int64), .long (1441151881 : Int64), .long (1152921505 : Int64)] (.long (0 : Int64))) (V_s_QUOTIENT_SHIFTS : Arv Z h0 s_QUOTIENT_SHIFTS k_s_QUOTIENT_SHIFTS .int (10 : Int32) [.int (31 : Int32), .int (34 : Int32), .int (37 : Int32), .int (40 : Int32), .int (44 : Int32), .int (47 : Int32), .int (50 : Int32), .int (54 : Int32), .int (57 : Int32), .int (60 : Int32)] (.int (0 : Int32))) :
    MetFree l x (head1 (Jvm.Cond.code x code maxLocals ret :: ws) room_1) (fun a U => a = #[(.int p0), (.int p1)] ∧ Z.Warmed39 U.vm ∧ U.heap = h0) (fun _ _ _ _ _ => True) (fun _ U o U' => ∃ v L, o = .returned v ∧ Q0 Z p0 p1 s_QUOTIENT_FACTORS s_QUOTIENT_SHIFTS k_s_QUOTIENT_FACTORS k_s_QUOTIENT_SHIFTS h0 n0 v U'.heap L ∧ FrameEnd U o U' L 0 0) := by
  refine MetFree.of_bodySF (plainFor_of_name pn_0) hisR ?_
  intro p e s m args below meth c s₁ Bd hml0 hP hK
  obtain ⟨rfl, hZ, hh⟩ := hP
  have hx := Bd.exec
  have hby := Bd.bytes
  have hml : c.maxLocals = 6 := hml0
  have hown : s.vm.findClass "com/example/gearwork/gearwork/core/DecimalDividedByPowerPinLaw" = some m.cls := findClass_of_methodNamed Bd.named
  have hnm := (name_of_methodNamed Bd.named Bd.method).1
  have X0 : Stand p l e room_1 s m #[(.int p0), (.int p1)] below meth c s₁ [] 0 0 := Stand.of_body Bd
  have e0 : s₁.heap = h0 := by rw [← hh, Bd.state]; rfl
  have N0 := Fr.nil n0
  have k0 : own_R p e below (s₁.setTop (entryFrame m #[(.int p0), (.int p1)] maxLocals)) (s₁.setTop (mkF m 0 #[.val (.int p0), .val (.int p1), .unset, .unset, .unset, .unset] [])) := fun t k => castTop (ef_0 m p0 p1) k
  have ks1 : own_R p e below (s₁.setTop (entryFrame m #[(.int p0), (.int p1)] maxLocals)) (s₁.setTop (mkF m 4 #[.val (.int p0), .val (.int p1), .unset, .unset, .unset, .unset] [(.int (p0 &&& (1073741823 : Int32)))])) := fun t k => k0 t (by
    show Steps p.tables e below (s₁.setTop (mkF m 0 #[.val (.int p0), .val (.int p1), .unset, .unset, .unset, .unset] [])) _
    refine XS.iloadN X0.here hx rfl (hb hby at_0) rfl ?_
    show Steps p.tables e below (s₁.setTop (mkF m 1 #[.val (.int p0), .val (.int p1), .unset, .unset, .unset, .unset] [(.int p0)])) _
    refine X0.ldcInt hx hown (mvT hZ (hw _ (List.mem_of_getElem? (i := 0) rfl))) (g := (mkF m 1 #[.val (.int p0), .val (.int p1), .unset, .unset, .unset, .unset] [(.int p0)])) rfl (hb hby at_1) _ ?_
    show Steps p.tables e below (s₁.setTop (mkF m 3 #[.val (.int p0), .val (.int p1), .unset, .unset, .unset, .unset] [(.int (1073741823 : Int32)), (.int p0)])) _
    refine XS.iand X0.here hx rfl (hb hby at_3) rfl ?_
    exact k)
  obtain ⟨v2, hv2⟩ : ∃ z : Int32, z = (p0 &&& (1073741823 : Int32)) := ⟨_, rfl⟩
  rw [← hv2] at ks1
  have ks3 : own_R p e below (s₁.setTop (entryFrame m #[(.int p0), (.int p1)] maxLocals)) (s₁.setTop (mkF m 12 #[.val (.int p0), .val (.int p1), .val (.int v2), .unset, .unset, .unset] [(.int ((p1 &&& (2147483647 : Int32)) % (10 : Int32)))])) := fun t k => ks1 t (by
    show Steps p.tables e below (s₁.setTop (mkF m 4 #[.val (.int p0), .val (.int p1), .unset, .unset, .unset, .unset] [(.int v2)])) _
    refine XS.istoreN X0.here hx rfl (hb hby at_4) rfl (l' := #[.val (.int p0), .val (.int p1), .val (.int v2), .unset, .unset, .unset]) rfl ?_
    show Steps p.tables e below (s₁.setTop (mkF m 5 #[.val (.int p0), .val (.int p1), .val (.int v2), .unset, .unset, .unset] [])) _
    refine XS.iloadN X0.here hx rfl (hb hby at_5) rfl ?_
    show Steps p.tables e below (s₁.setTop (mkF m 6 #[.val (.int p0), .val (.int p1), .val (.int v2), .unset, .unset, .unset] [(.int p1)])) _
    refine X0.ldcInt hx hown (mvT hZ (hw _ (List.mem_of_getElem? (i := 1) rfl))) (g := (mkF m 6 #[.val (.int p0), .val (.int p1), .val (.int v2), .unset, .unset, .unset] [(.int p1)])) rfl (hb hby at_6) _ ?_
    show Steps p.tables e below (s₁.setTop (mkF m 8 #[.val (.int p0), .val (.int p1), .val (.int v2), .unset, .unset, .unset] [(.int (2147483647 : Int32)), (.int p1)])) _
    refine XS.iand X0.here hx rfl (hb hby at_8) rfl ?_
    show Steps p.tables e below (s₁.setTop (mkF m 9 #[.val (.int p0), .val (.int p1), .val (.int v2), .unset, .unset, .unset] [(.int (p1 &&& (2147483647 : Int32)))])) _
    refine XS.bipush X0.here hx rfl (hb hby at_9) ?_
    show Steps p.tables e below (s₁.setTop (mkF m 11 #[.val (.int p0), .val (.int p1), .val (.int v2), .unset, .unset, .unset] [(.int (10 : Int32)), (.int (p1 &&& (2147483647 : Int32)))])) _
    refine Jvm.RoadKit.iremM X0 hx rfl (hb hby at_11) rfl (by decide) ?_
    exact k)
  obtain ⟨v4, hv4⟩ : ∃ z : Int32, z = ((p1 &&& (2147483647 : Int32)) % (10 : Int32)) := ⟨_, rfl⟩
  rw [← hv4] at ks3
  have ks5 : own_R p e below (s₁.setTop (entryFrame m #[(.int p0), (.int p1)] maxLocals)) (s₁.setTop (mkF m 13 #[.val (.int p0), .val (.int p1), .val (.int v2), .val (.int v4), .unset, .unset] [])) := fun t k => ks3 t (by
    show Steps p.tables e below (s₁.setTop (mkF m 12 #[.val (.int p0), .val (.int p1), .val (.int v2), .unset, .unset, .unset] [(.int v4)])) _
    refine XS.istoreN X0.here hx rfl (hb hby at_12) rfl (l' := #[.val (.int p0), .val (.int p1), .val (.int v2), .val (.int v4), .unset, .unset]) rfl ?_
    exact k)
  have hdig := own_dig p1
  rw [← hv4] at hdig
  have hlimb := own_limb p0
  rw [← hv2] at hlimb
  have ks6 : own_R p e below (s₁.setTop (entryFrame m #[(.int p0), (.int p1)] maxLocals)) (s₁.setTop (mkF m 14 #[.val (.int p0), .val (.int p1), .val (.int v2), .val (.int v4), .unset, .unset] [(.int v4)])) := fun t k => ks5 t (by
    show Steps p.tables e below (s₁.setTop (mkF m 13 #[.val (.int p0), .val (.int p1), .val (.int v2), .val (.int v4), .unset, .unset] [])) _
    refine XS.iloadN X0.here hx rfl (hb hby at_13) rfl ?_
    exact k)
  obtain ⟨_, _, ⟨T7, L7, k7, n7⟩, -, X7, ⟨Lc7, hQ7, lq7, yq7, zq7⟩, st7⟩ := Jvm.LawKit.callS X0 hx (y := (⟨"com/example/gearwork/gearwork/core/DecimalDividedByPowerPinLaw", "pow10", "(I)I"⟩ : MethodName)) hown (mvT hZ (hw _ (List.mem_of_getElem? (i := 2) rfl))) (mvT hZ (hw _ (List.mem_of_getElem? (i := 3) rfl))) (mvT hZ (hw _ (List.mem_of_getElem? (i := 4) rfl))) (mvT hZ (hw _ (List.mem_of_getElem? (i := 5) rfl))) (by decide) (backOf (W := 0) (rm1 l Z a0 hw [] v4 h0 n0 Z0 ) hZ (hw _ (List.mem_of_getElem? (i := 5) rfl)) (hw _ (List.mem_of_getElem? (i := 4) rfl)) (by decide) (by decide)) (g := (mkF m 14 #[.val (.int p0), .val (.int p1), .val (.int v2), .val (.int v4), .unset, .unset] [(.int v4)])) rfl (by rw [hml]; rfl) (argsL := [(.int v4)]) (rest := []) (lenOf pd_0 rfl) rfl (by show 2 * 0 + _ ≤ _; exact Nat.le_of_eq rfl) (hb hby at_14) (fun _ _ => ⟨rfl, e0, (by decide : 0 + 0 ≤ _), (by decide : 0 + 0 ≤ _)⟩)
  dsimp only [Pt.U, Pt.locs, Pt.cells, Pt.slots] at X7 lq7 yq7 zq7 st7 hQ7
  subst lq7 yq7 zq7
  obtain ⟨rfl, Nq7, eq7⟩ := hQ7
  have N7 := Fr.app N0 Nq7
  have ks8 : own_R p e below (s₁.setTop (entryFrame m #[(.int p0), (.int p1)] maxLocals)) (T7.setTop (mkF m 17 #[.val (.int p0), .val (.int p1), .val (.int v2), .val (.int v4), .unset, .unset] [(.int (own_pow10 v4))])) := fun t k => ks6 t (st7 t k)
  have ks9 : own_R p e below (s₁.setTop (entryFrame m #[(.int p0), (.int p1)] maxLocals)) (T7.setTop (mkF m 21 #[.val (.int p0), .val (.int p1), .val (.int v2), .val (.int v4), .val (.int (own_pow10 v4)), .unset] [(.int v4), (.int v2)])) := fun t k => ks8 t (by
    show Steps p.tables e below (T7.setTop (mkF m 17 #[.val (.int p0), .val (.int p1), .val (.int v2), .val (.int v4), .unset, .unset] [(.int (own_pow10 v4))])) _
    refine XS.istore X7.here hx rfl (hb hby at_17) rfl (l' := #[.val (.int p0), .val (.int p1), .val (.int v2), .val (.int v4), .val (.int (own_pow10 v4)), .unset]) rfl ?_
    show Steps p.tables e below (T7.setTop (mkF m 19 #[.val (.int p0), .val (.int p1), .val (.int v2), .val (.int v4), .val (.int (own_pow10 v4)), .unset] [])) _
    refine XS.iloadN X7.here hx rfl (hb hby at_19) rfl ?_
    show Steps p.tables e below (T7.setTop (mkF m 20 #[.val (.int p0), .val (.int p1), .val (.int v2), .val (.int v4), .val (.int (own_pow10 v4)), .unset] [(.int v2)])) _
    refine XS.iloadN X7.here hx rfl (hb hby at_20) rfl ?_
    exact k)
  obtain ⟨_, _, ⟨T10, L10, k10, n10⟩, -, X10, ⟨Lc10, hQ10, lq10, yq10, zq10⟩, st10⟩ := Jvm.LawKit.callS X7 hx (y := (⟨"com/example/gearwork/gearwork/core/Decimal", "dividedByPower", "(II)I"⟩ : MethodName)) hown (mvT hZ (hw _ (List.mem_of_getElem? (i := 6) rfl))) (mvT hZ (hw _ (List.mem_of_getElem? (i := 7) rfl))) (mvT hZ (hw _ (List.mem_of_getElem? (i := 8) rfl))) (mvT hZ (hw _ (List.mem_of_getElem? (i := 9) rfl))) (by decide) (backOf (W := 0) (rm2 l Z a0 hw [] v2 v4 s_QUOTIENT_FACTORS s_QUOTIENT_SHIFTS _ _ h0 n0 Z0 hdig S_s_QUOTIENT_FACTORS S_s_QUOTIENT_SHIFTS V_s_QUOTIENT_FACTORS V_s_QUOTIENT_SHIFTS) hZ (hw _ (List.mem_of_getElem? (i := 9) rfl)) (hw _ (List.mem_of_getElem? (i := 8) rfl)) (by decide) (by decide)) (g := (mkF m 21 #[.val (.int p0), .val (.int p1), .val (.int v2), .val (.int v4), .val (.int (own_pow10 v4)), .unset] [(.int v4), (.int v2)])) rfl (by rw [hml]; rfl) (argsL := [(.int v2), (.int v4)]) (rest := []) (lenOf pd_1 rfl) rfl (by show 2 * 0 + _ ≤ _; exact Nat.le_of_eq rfl) (hb hby at_21) (fun _ _ => ⟨rfl, eq7, (by decide : 0 + 0 ≤ _), (by decide : 0 + 0 ≤ _)⟩)
  dsimp only [Pt.U, Pt.locs, Pt.cells, Pt.slots] at X10 lq10 yq10 zq10 st10 hQ10
  subst lq10 yq10 zq10
  obtain ⟨rfl, Nq10, eq10⟩ := hQ10
  have N10 := Fr.app N7 Nq10
  have ks11 : own_R p e below (s₁.setTop (entryFrame m #[(.int p0), (.int p1)] maxLocals)) (T10.setTop (mkF m 24 #[.val (.int p0), .val (.int p1), .val (.int v2), .val (.int v4), .val (.int (own_pow10 v4)), .unset] [(.int (own_div v2 v4))])) := fun t k => ks9 t (st10 t k)
  have ks12 : own_R p e below (s₁.setTop (entryFrame m #[(.int p0), (.int p1)] maxLocals)) (T10.setTop (mkF m 32 #[.val (.int p0), .val (.int p1), .val (.int v2), .val (.int v4), .val (.int (own_pow10 v4)), .val (.int (own_div v2 v4))] [(.int (v2 / (own_pow10 v4))), (.int (own_div v2 v4))])) := fun t k => ks11 t (by
    show Steps p.tables e below (T10.setTop (mkF m 24 #[.val (.int p0), .val (.int p1), .val (.int v2), .val (.int v4), .val (.int (own_pow10 v4)), .unset] [(.int (own_div v2 v4))])) _
    refine XS.istore X10.here hx rfl (hb hby at_24) rfl (l' := #[.val (.int p0), .val (.int p1), .val (.int v2), .val (.int v4), .val (.int (own_pow10 v4)), .val (.int (own_div v2 v4))]) rfl ?_
    show Steps p.tables e below (T10.setTop (mkF m 26 #[.val (.int p0), .val (.int p1), .val (.int v2), .val (.int v4), .val (.int (own_pow10 v4)), .val (.int (own_div v2 v4))] [])) _
    refine XS.iload X10.here hx rfl (hb hby at_26) rfl ?_
    show Steps p.tables e below (T10.setTop (mkF m 28 #[.val (.int p0), .val (.int p1), .val (.int v2), .val (.int v4), .val (.int (own_pow10 v4)), .val (.int (own_div v2 v4))] [(.int (own_div v2 v4))])) _
    refine XS.iloadN X10.here hx rfl (hb hby at_28) rfl ?_
    show Steps p.tables e below (T10.setTop (mkF m 29 #[.val (.int p0), .val (.int p1), .val (.int v2), .val (.int v4), .val (.int (own_pow10 v4)), .val (.int (own_div v2 v4))] [(.int v2), (.int (own_div v2 v4))])) _
    refine XS.iload X10.here hx rfl (hb hby at_29) rfl ?_
    show Steps p.tables e below (T10.setTop (mkF m 31 #[.val (.int p0), .val (.int p1), .val (.int v2), .val (.int v4), .val (.int (own_pow10 v4)), .val (.int (own_div v2 v4))] [(.int (own_pow10 v4)), (.int v2), (.int (own_div v2 v4))])) _
    refine XS.idiv X10.here hx rfl (hb hby at_31) rfl (own_nz _ hdig) ?_
    exact k)
  by_cases hc13 : (own_div v2 v4) = (v2 / (own_pow10 v4))
  · skip
    have ks14 : own_R p e below (s₁.setTop (entryFrame m #[(.int p0), (.int p1)] maxLocals)) (T10.setTop (mkF m 40 #[.val (.int p0), .val (.int p1), .val (.int v2), .val (.int v4), .val (.int (own_pow10 v4)), .val (.int (own_div v2 v4))] [(.int (1 : Int32))])) := fun t k => ks12 t (by
      show Steps p.tables e below (T10.setTop (mkF m 32 #[.val (.int p0), .val (.int p1), .val (.int v2), .val (.int v4), .val (.int (own_pow10 v4)), .val (.int (own_div v2 v4))] [(.int (v2 / (own_pow10 v4))), (.int (own_div v2 v4))])) _
      refine XS.icmpNo X10.here hx rfl (hb hby at_32) rfl (teq hc13).2 ?_
      show Steps p.tables e below (T10.setTop (mkF m 35 #[.val (.int p0), .val (.int p1), .val (.int v2), .val (.int v4), .val (.int (own_pow10 v4)), .val (.int (own_div v2 v4))] [])) _
      refine XS.iconst X10.here hx rfl (hb hby at_35) ?_
      show Steps p.tables e below (T10.setTop (mkF m 36 #[.val (.int p0), .val (.int p1), .val (.int v2), .val (.int v4), .val (.int (own_pow10 v4)), .val (.int (own_div v2 v4))] [(.int (1 : Int32))])) _
      refine XS.goto X10.here hx rfl (pc0 := 36) (pc' := 40) rfl (hb hby at_36) (by decide) (by decide) ?_
      exact k)
    obtain ⟨fs, hr, hrun, hended, hW, hsame⟩ := X10.leave (v := some (.int (1 : Int32))) (fun h => by rw [Bd.returns] at h; cases h)
    refine ⟨_, _, ks14 _ ?_, hrun, hended, _, _, rfl, ?_, ⟨_, rfl⟩, hW, hsame.mono (by decide) (by decide)⟩
    · exact retN X10 hx (t := .boolean) Bd.returns (by simp) (hb hby at_40) hr
    · show Q0 Z p0 p1 s_QUOTIENT_FACTORS s_QUOTIENT_SHIFTS k_s_QUOTIENT_FACTORS k_s_QUOTIENT_SHIFTS h0 n0 _ T10.heap _
      rw [eq10]
      exact ⟨rfl, N10⟩
  · skip
    have ks15 : own_R p e below (s₁.setTop (entryFrame m #[(.int p0), (.int p1)] maxLocals)) (T10.setTop (mkF m 40 #[.val (.int p0), .val (.int p1), .val (.int v2), .val (.int v4), .val (.int (own_pow10 v4)), .val (.int (own_div v2 v4))] [(.int (0 : Int32))])) := fun t k => ks12 t (by
      show Steps p.tables e below (T10.setTop (mkF m 32 #[.val (.int p0), .val (.int p1), .val (.int v2), .val (.int v4), .val (.int (own_pow10 v4)), .val (.int (own_div v2 v4))] [(.int (v2 / (own_pow10 v4))), (.int (own_div v2 v4))])) _
      refine XS.icmpYes X10.here hx rfl (pc0 := 32) (pc' := 39) rfl (hb hby at_32) rfl (feq hc13).2 (by decide) (by decide) ?_
      show Steps p.tables e below (T10.setTop (mkF m 39 #[.val (.int p0), .val (.int p1), .val (.int v2), .val (.int v4), .val (.int (own_pow10 v4)), .val (.int (own_div v2 v4))] [])) _
      refine XS.iconst X10.here hx rfl (hb hby at_39) ?_
      exact k)
    obtain ⟨fs, hr, hrun, hended, hW, hsame⟩ := X10.leave (v := some (.int (0 : Int32))) (fun h => by rw [Bd.returns] at h; cases h)
    refine ⟨_, _, ks15 _ ?_, hrun, hended, _, _, rfl, ?_, ⟨_, rfl⟩, hW, hsame.mono (by decide) (by decide)⟩
    · exact retN X10 hx (t := .boolean) Bd.returns (by simp) (hb hby at_40) hr
    · show Q0 Z p0 p1 s_QUOTIENT_FACTORS s_QUOTIENT_SHIFTS k_s_QUOTIENT_FACTORS k_s_QUOTIENT_SHIFTS h0 n0 _ T10.heap _
      rw [eq10]
      exact absurd (own_law _ _ hlimb.1 hlimb.2 hdig) hc13
set_option maxRecDepth 65536 in
set_option maxHeartbeats 40000000 in
theorem comes_1 {Post : Tables → Env → Array Value → State → Outcome → State → Prop} (hpost : ∀ tb e args s v u, (limb_1_1.after args s (.returned v) u = true ∧ limb_1_2.after args s (.returned v) u = true ∧ True) → FrameEnd s (.returned v) u (Jvm.fieldLocs frame_1_writes args s ++ Jvm.arrayLocs frame_1_arrays args s ++ Jvm.staticLocs frame_1_statics s) 0 0 → Post tb e args s (.returned v) u) :
    ArmFor flags0 classFile x code maxLocals ret World_1 tables_1 room_1 Calls_1 rest_1 Pre_1 Post := by
  intro l hfl _ _ p e ha hc hk s m args below hf hA hF happ hP
  obtain ⟨hcalls, hrest, hpre⟩ := hP
  obtain ⟨-, -, -, hnamed, -, -, -, hat⟩ := (Spec.applies_iff hf).mp happ
  obtain ⟨hg, hn⟩ := and_e (Cond.before_iff.mp (show (Jvm.Cond.and given_1 narrow_1).before args s = true from hpre))
  obtain ⟨g1, g2⟩ := and_e hg
  obtain ⟨g3, g4⟩ := and_e g2
  obtain ⟨g5, g6⟩ := and_e hn
  obtain ⟨g7, g8⟩ := and_e g6
  obtain ⟨g9, g10⟩ := and_e g8
  obtain ⟨g11, g12⟩ := and_e g10
  obtain ⟨g13, g14⟩ := and_e g12
  obtain ⟨g15, g16⟩ := and_e g14
  obtain ⟨g17, g18⟩ := and_e g16
  obtain ⟨g19, g20⟩ := and_e g18
  obtain ⟨g21, g22⟩ := and_e g20
  obtain ⟨g23, g24⟩ := and_e g22
  obtain ⟨g25, g26⟩ := and_e g24
  obtain ⟨g27, g28⟩ := and_e g26
  obtain ⟨g29, g30⟩ := and_e g28
  obtain ⟨g31, g32⟩ := and_e g30
  obtain ⟨g33, g34⟩ := and_e g32
  obtain ⟨g35, g36⟩ := and_e g34
  obtain ⟨g37, g38⟩ := and_e g36
  obtain ⟨g39, g40⟩ := and_e g38
  obtain ⟨g41, g42⟩ := and_e g40
  obtain ⟨g43, g44⟩ := and_e g42
  obtain ⟨g45, g46⟩ := and_e g44
  obtain ⟨g47, g48⟩ := and_e g46
  obtain ⟨g49, g50⟩ := and_e g48
  obtain ⟨w0, w1, rfl⟩ : ∃ w0 w1 : Value, args = #[w0, w1] := by
    have hs : args.size = 2 := by simpa [Cond.value, given_1] using g1
    obtain ⟨L⟩ := args
    match L, hs with
    | [w0, w1], _ => exact ⟨w0, w1, rfl⟩
  have hw := fun d (hd : d ∈ tables_1) => atoms_spec (ws := Jvm.Cond.code x code maxLocals ret :: tables_1) hat d (List.mem_cons_of_mem _ hd)
  have hfit : Fit s := fun {y c} hc i hi => by
    obtain ⟨ha, rfl⟩ := Array.getElem?_eq_some_iff.mp hc
    have q := List.all_eq_true.mp ((Array.all_eq_true_iff_forall_mem.mp hF) _ (Array.getElem_mem ha)) i (List.mem_range.mpr hi)
    simpa [Array.getElem?_eq_getElem hi] using q
  obtain ⟨i0, ei0⟩ := is_v g3
  obtain rfl : w0 = (.int i0) := Option.some.inj ei0
  obtain ⟨i1, ei1⟩ := is_v g4
  obtain rfl : w1 = (.int i1) := Option.some.inj ei1
  obtain ⟨s_QUOTIENT_FACTORS, ev_s_QUOTIENT_FACTORS⟩ := arr_v g5
  obtain ⟨cl_s_QUOTIENT_FACTORS, Ar_s_QUOTIENT_FACTORS⟩ := Arr.start ev_s_QUOTIENT_FACTORS g5
  have S_s_QUOTIENT_FACTORS : Sta s s.heap "com/example/gearwork/gearwork/core/Decimal" "QUOTIENT_FACTORS" "[J" (.ref s_QUOTIENT_FACTORS) := Sta.start ev_s_QUOTIENT_FACTORS (Or.inr ⟨(hw _ (List.mem_of_getElem? (i := 8) rfl)), (hw _ (List.mem_of_getElem? (i := 11) rfl))⟩)
  obtain ⟨s_QUOTIENT_SHIFTS, ev_s_QUOTIENT_SHIFTS⟩ := arr_v g9
  obtain ⟨cl_s_QUOTIENT_SHIFTS, Ar_s_QUOTIENT_SHIFTS⟩ := Arr.start ev_s_QUOTIENT_SHIFTS g9
  have S_s_QUOTIENT_SHIFTS : Sta s s.heap "com/example/gearwork/gearwork/core/Decimal" "QUOTIENT_SHIFTS" "[I" (.ref s_QUOTIENT_SHIFTS) := Sta.start ev_s_QUOTIENT_SHIFTS (Or.inr ⟨(hw _ (List.mem_of_getElem? (i := 8) rfl)), (hw _ (List.mem_of_getElem? (i := 13) rfl))⟩)
  obtain ⟨ls_s_QUOTIENT_FACTORS, le_s_QUOTIENT_FACTORS⟩ := own_len g7 ev_s_QUOTIENT_FACTORS Ar_s_QUOTIENT_FACTORS
  obtain ⟨ls_s_QUOTIENT_SHIFTS, le_s_QUOTIENT_SHIFTS⟩ := own_len g11 ev_s_QUOTIENT_SHIFTS Ar_s_QUOTIENT_SHIFTS
  have V_s_QUOTIENT_FACTORS : Arv s s.heap s_QUOTIENT_FACTORS cl_s_QUOTIENT_FACTORS.cls .long (10 : Int32) [.long (2147483648 : Int64), .long (1717986919 : Int64), .long (1374389535 : Int64), .long (1099511628 : Int64), .long (1759218605 : Int64), .long (1407374884 : Int64), .long (1125899907 : Int64), .long (1801439851 : Int64), .long (1441151881 : Int64), .long (1152921505 : Int64)] (.long (0 : Int64)) := Arv.start hfit Ar_s_QUOTIENT_FACTORS ls_s_QUOTIENT_FACTORS le_s_QUOTIENT_FACTORS (by decide) rfl ⟨own_elem (own_eql g13) ev_s_QUOTIENT_FACTORS Ar_s_QUOTIENT_FACTORS, own_elem (own_eql g15) ev_s_QUOTIENT_FACTORS Ar_s_QUOTIENT_FACTORS, own_elem (own_eql g17) ev_s_QUOTIENT_FACTORS Ar_s_QUOTIENT_FACTORS, own_elem (own_eql g19) ev_s_QUOTIENT_FACTORS Ar_s_QUOTIENT_FACTORS, own_elem (own_eql g21) ev_s_QUOTIENT_FACTORS Ar_s_QUOTIENT_FACTORS, own_elem (own_eql g23) ev_s_QUOTIENT_FACTORS Ar_s_QUOTIENT_FACTORS, own_elem (own_eql g25) ev_s_QUOTIENT_FACTORS Ar_s_QUOTIENT_FACTORS, own_elem (own_eql g27) ev_s_QUOTIENT_FACTORS Ar_s_QUOTIENT_FACTORS, own_elem (own_eql g29) ev_s_QUOTIENT_FACTORS Ar_s_QUOTIENT_FACTORS, own_elem (own_eql g31) ev_s_QUOTIENT_FACTORS Ar_s_QUOTIENT_FACTORS, trivial⟩
  have V_s_QUOTIENT_SHIFTS : Arv s s.heap s_QUOTIENT_SHIFTS cl_s_QUOTIENT_SHIFTS.cls .int (10 : Int32) [.int (31 : Int32), .int (34 : Int32), .int (37 : Int32), .int (40 : Int32), .int (44 : Int32), .int (47 : Int32), .int (50 : Int32), .int (54 : Int32), .int (57 : Int32), .int (60 : Int32)] (.int (0 : Int32)) := Arv.start hfit Ar_s_QUOTIENT_SHIFTS ls_s_QUOTIENT_SHIFTS le_s_QUOTIENT_SHIFTS (by decide) rfl ⟨own_elem (own_eqi g33) ev_s_QUOTIENT_SHIFTS Ar_s_QUOTIENT_SHIFTS, own_elem (own_eqi g35) ev_s_QUOTIENT_SHIFTS Ar_s_QUOTIENT_SHIFTS, own_elem (own_eqi g37) ev_s_QUOTIENT_SHIFTS Ar_s_QUOTIENT_SHIFTS, own_elem (own_eqi g39) ev_s_QUOTIENT_SHIFTS Ar_s_QUOTIENT_SHIFTS, own_elem (own_eqi g41) ev_s_QUOTIENT_SHIFTS Ar_s_QUOTIENT_SHIFTS, own_elem (own_eqi g43) ev_s_QUOTIENT_SHIFTS Ar_s_QUOTIENT_SHIFTS, own_elem (own_eqi g45) ev_s_QUOTIENT_SHIFTS Ar_s_QUOTIENT_SHIFTS, own_elem (own_eqi g47) ev_s_QUOTIENT_SHIFTS Ar_s_QUOTIENT_SHIFTS, own_elem (own_eqi g49) ev_s_QUOTIENT_SHIFTS Ar_s_QUOTIENT_SHIFTS, own_elem (own_eqi g50) ev_s_QUOTIENT_SHIFTS Ar_s_QUOTIENT_SHIFTS, trivial⟩
  obtain ⟨n, o, h1, h2, h3, _, L, rfl, ⟨rfl, N⟩, hq⟩ := rm0 l s _ hw tables_1 i0 i1 s_QUOTIENT_FACTORS s_QUOTIENT_SHIFTS _ _ s.heap s.heap.size (Nat.le_refl _) S_s_QUOTIENT_FACTORS S_s_QUOTIENT_SHIFTS V_s_QUOTIENT_FACTORS V_s_QUOTIENT_SHIFTS p e ha hc hk s m _ below hf ((Spec.applies_iff_loose hf).mp happ).1 ⟨rfl, State.Warmed39.refl s, rfl⟩ trivial
  refine ⟨n, _, h1, h2, h3, hpost _ _ _ _ _ _ ⟨Cond.after_iff.mpr rfl, Cond.after_iff.mpr (eq_i res_at (Term.int_eval (1)) rfl), trivial⟩ ⟨hq.1, hq.2.1, (hq.2.2.sift fun y hy => Or.inr (N y hy)).mono (by decide) (by decide)⟩⟩
theorem main_1_1 : Claimed_1_1 := comes_1 fun _ _ _ _ _ _ h hF => ⟨h.1, hF⟩
theorem main_1_2 : Claimed_1_2 := comes_1 fun _ _ _ _ _ _ h hF => ⟨h.2.1, hF⟩
end Jvm.Pilot.@@N@@
namespace Jvm.Pilot.@@N@@
open Jvm Jvm.ClassFile Sem Op Lib Jvm.Free Jvm.Stand Jvm.Pilot.@@N@@.Jvm.D
/-! MADE BY PROGRAM (witnessworld.py) out of the Statement's table words and the real class files: 11 classes; the members and pool entries that the words name. The judged class is class 1, her method 2. -/
namespace start1
open Jvm.ClassFile
def u (s : String) : CpInfo := .utf8 (stringToUtf16 s)
/-- a pool by its gaps: so many unusable entries, then the entry; so many at the end -/
def gap : Nat → List CpInfo → List CpInfo
  | 0, r => r
  | n + 1, r => .unusable :: gap n r
def poolList (es : List (Nat × CpInfo)) (last : Nat) : List CpInfo := es.foldr (fun e r => gap e.1 (e.2 :: r)) (gap last [])
def pool (es : List (Nat × CpInfo)) (last : Nat) : Array CpInfo := ⟨poolList es last⟩
def fileOf (pool : Array CpInfo) (this : Nat) (attrs : Array Attribute := #[]) (ms : Array MethodInfo := #[]) (fl : Nat := 33) (sup : Nat := 0) (ifs : Array Nat := #[]) (fds : Array FieldInfo := #[]) : ClassFile where
  minorVersion := 0
  majorVersion := 65
  constantPool := pool
  accessFlags := fl
  thisClass := this
  superClass := sup
  interfaces := ifs
  fields := fds
  methods := ms
  attributes := attrs
def plain (name : String) (sup : Option ClassId) : Class where
  name := name
  kind := .ordinary
  loader := none
  accessFlags := 33
  super := sup
  interfaces := #[]
  cf := none
  fields := #[]
  methods := #[]
  instanceTypes := #[]
  staticTypes := #[]
  resolved := #[]
  callSites := []
  init := .initialized
  statics := none
  mirror := none

def pool0 : Array CpInfo := pool [(5, u "<init>"), (0, u "()V"), (1, .class_ 10), (1, u "java/lang/Object")] 113

def k0m0 : Method := { name := "<init>", desc := "()V", sig := { parameters := [], returnType := none }, accessFlags := 1, code := none }
/-- java/lang/Object -/
def k0 : Class := { plain "java/lang/Object" none with
  accessFlags := 33
  interfaces := #[]
  cf := some (fileOf pool0 8 #[] #[{ accessFlags := 1, nameIndex := 5, descriptorIndex := 6, attributes := #[] }] 33 0 #[] #[])
  fields := #[]
  methods := #[k0m0]
  instanceTypes := #[]
  staticTypes := #[]
  resolved := Array.replicate 124 none
  statics := none }

def pool1 : Array CpInfo := pool [(2, .class_ 4), (1, u "java/lang/Object"), (0, u "<init>"), (0, u "()V"), (0, .integer 100000), (0, .integer 1000000), (0, .integer 10000000), (0, .integer 100000000), (0, .integer 1000000000), (0, .integer 1073741823), (0, .integer 2147483647), (0, .methodref 15 16), (0, .class_ 17), (0, .nameAndType 18 19), (0, u "com/example/gearwork/gearwork/core/DecimalDividedByPowerPinLaw"), (0, u "pow10"), (0, u "(I)I"), (0, .methodref 21 22), (0, .class_ 23), (0, .nameAndType 24 25), (0, u "com/example/gearwork/gearwork/core/Decimal"), (0, u "dividedByPower"), (0, u "(II)I"), (3, u "law"), (0, u "(II)Z")] 2

def k1m0 : Method := { name := "<init>", desc := "()V", sig := { parameters := [], returnType := none }, accessFlags := 1, code := none }
def k1c1 : Code := { maxStack := 2, maxLocals := 1, code := method_2_code, exceptionTable := #[], attributes := #[] }
def k1m1 : Method := { name := "pow10", desc := "(I)I", sig := { parameters := [.int], returnType := some .int }, accessFlags := 10, code := some k1c1 }
def k1c2 : Code := { maxStack := 3, maxLocals := 6, code := code, exceptionTable := #[], attributes := #[] }
def k1m2 : Method := { name := "law", desc := "(II)Z", sig := { parameters := [.int, .int], returnType := some .boolean }, accessFlags := 9, code := some k1c2 }
/-- com/example/gearwork/gearwork/core/DecimalDividedByPowerPinLaw -/
def k1 : Class := { plain "com/example/gearwork/gearwork/core/DecimalDividedByPowerPinLaw" (some 0) with
  accessFlags := 49
  interfaces := #[]
  cf := some (fileOf pool1 15 #[] #[{ accessFlags := 1, nameIndex := 5, descriptorIndex := 6, attributes := #[] }, { accessFlags := 10, nameIndex := 18, descriptorIndex := 19, attributes := #[] }, { accessFlags := 9, nameIndex := 29, descriptorIndex := 30, attributes := #[] }] 49 2 #[] #[])
  fields := #[]
  methods := #[k1m0, k1m1, k1m2]
  instanceTypes := #[]
  staticTypes := #[]
  resolved := Array.replicate 33 none
  statics := none }

def pool2 : Array CpInfo := pool [(2, .class_ 4), (1, u "java/lang/Object"), (3, .class_ 10), (1, u "com/example/gearwork/gearwork/core/Decimal"), (0, u "signum"), (0, u "I"), (2, u "limbs"), (0, u "[I"), (2, u "scale"), (29, u "TWO_LIMBS"), (0, u "Ljava/math/BigInteger;"), (60, u "ZERO"), (0, u "Lcom/example/gearwork/gearwork/core/Decimal;"), (2, u "DIGITS"), (8, u "(II)I"), (14, .class_ 141), (1, u "com/example/gearwork/gearwork/core/Decimal$Quotient"), (100, u "DIGIT_PAIRS"), (0, u "[B"), (15, u "dividedByPower"), (2, u "POWERS_OF_TEN"), (2, u "NO_LIMBS"), (12, .fieldref 8 279), (0, .nameAndType 280 281), (0, u "QUOTIENT_FACTORS"), (0, u "[J"), (0, .fieldref 8 283), (0, .nameAndType 284 16), (0, u "QUOTIENT_SHIFTS"), (12, u "Ljava/math/MathContext;"), (2, u "PRECISION"), (18, u "ONE"), (0, u "LIMB"), (1, u "LIMB_DIGITS"), (1, u "COLUMN_TERMS")] 41

def k2c0 : Code := { maxStack := 4, maxLocals := 2, code := prog_15_method_40_code, exceptionTable := #[], attributes := #[] }
def k2m0 : Method := { name := "dividedByPower", desc := "(II)I", sig := { parameters := [.int, .int], returnType := some .int }, accessFlags := 8, code := some k2c0 }
/-- com/example/gearwork/gearwork/core/Decimal -/
def k2 : Class := { plain "com/example/gearwork/gearwork/core/Decimal" (some 0) with
  accessFlags := 32
  interfaces := #[]
  cf := some (fileOf pool2 8 #[.nestMembers #[139]] #[{ accessFlags := 8, nameIndex := 259, descriptorIndex := 124, attributes := #[] }] 32 2 #[] #[{ accessFlags := 24, nameIndex := 300, descriptorIndex := 297, attributes := #[] }, { accessFlags := 26, nameIndex := 320, descriptorIndex := 12, attributes := #[] }, { accessFlags := 26, nameIndex := 322, descriptorIndex := 12, attributes := #[] }, { accessFlags := 26, nameIndex := 262, descriptorIndex := 16, attributes := #[] }, { accessFlags := 26, nameIndex := 242, descriptorIndex := 243, attributes := #[] }, { accessFlags := 26, nameIndex := 324, descriptorIndex := 12, attributes := #[] }, { accessFlags := 26, nameIndex := 280, descriptorIndex := 281, attributes := #[] }, { accessFlags := 26, nameIndex := 284, descriptorIndex := 16, attributes := #[] }, { accessFlags := 26, nameIndex := 49, descriptorIndex := 50, attributes := #[] }, { accessFlags := 26, nameIndex := 115, descriptorIndex := 12, attributes := #[] }, { accessFlags := 26, nameIndex := 265, descriptorIndex := 16, attributes := #[] }, { accessFlags := 24, nameIndex := 111, descriptorIndex := 112, attributes := #[] }, { accessFlags := 24, nameIndex := 319, descriptorIndex := 112, attributes := #[] }, { accessFlags := 18, nameIndex := 11, descriptorIndex := 12, attributes := #[] }, { accessFlags := 18, nameIndex := 15, descriptorIndex := 16, attributes := #[] }, { accessFlags := 18, nameIndex := 19, descriptorIndex := 12, attributes := #[] }])
  fields := #[{ name := "PRECISION", type := (.object "java/math/MathContext"), accessFlags := 24, slot := 0, constantValue := 0 }, { name := "LIMB", type := .int, accessFlags := 26, slot := 1, constantValue := 0 }, { name := "LIMB_DIGITS", type := .int, accessFlags := 26, slot := 2, constantValue := 0 }, { name := "POWERS_OF_TEN", type := (.array .int), accessFlags := 26, slot := 3, constantValue := 0 }, { name := "DIGIT_PAIRS", type := (.array .byte), accessFlags := 26, slot := 4, constantValue := 0 }, { name := "COLUMN_TERMS", type := .int, accessFlags := 26, slot := 5, constantValue := 0 }, { name := "QUOTIENT_FACTORS", type := (.array .long), accessFlags := 26, slot := 6, constantValue := 0 }, { name := "QUOTIENT_SHIFTS", type := (.array .int), accessFlags := 26, slot := 7, constantValue := 0 }, { name := "TWO_LIMBS", type := (.object "java/math/BigInteger"), accessFlags := 26, slot := 8, constantValue := 0 }, { name := "DIGITS", type := .int, accessFlags := 26, slot := 9, constantValue := 0 }, { name := "NO_LIMBS", type := (.array .int), accessFlags := 26, slot := 10, constantValue := 0 }, { name := "ZERO", type := (.object "com/example/gearwork/gearwork/core/Decimal"), accessFlags := 24, slot := 11, constantValue := 0 }, { name := "ONE", type := (.object "com/example/gearwork/gearwork/core/Decimal"), accessFlags := 24, slot := 12, constantValue := 0 }, { name := "signum", type := .int, accessFlags := 18, slot := 0, constantValue := 0 }, { name := "limbs", type := (.array .int), accessFlags := 18, slot := 1, constantValue := 0 }, { name := "scale", type := .int, accessFlags := 18, slot := 2, constantValue := 0 }]
  methods := #[k2m0]
  instanceTypes := #[.int, (.array .int), .int]
  staticTypes := #[(.object "java/math/MathContext"), .int, .int, (.array .int), (.array .byte), .int, (.array .long), (.array .int), (.object "java/math/BigInteger"), .int, (.array .int), (.object "com/example/gearwork/gearwork/core/Decimal"), (.object "com/example/gearwork/gearwork/core/Decimal")]
  resolved := Array.replicate 366 none
  statics := some 0 }

def pool3 : Array CpInfo := pool [(1, u "java/lang/Cloneable"), (0, .class_ 1), (0, u "java/lang/Object"), (0, .class_ 3)] 3

/-- java/lang/Cloneable -/
def k3 : Class := { plain "java/lang/Cloneable" (some 0) with
  accessFlags := 1537
  interfaces := #[]
  cf := some (fileOf pool3 2 #[] #[] 1537 4 #[] #[])
  fields := #[]
  methods := #[]
  instanceTypes := #[]
  staticTypes := #[]
  resolved := Array.replicate 8 none
  statics := none }

def pool4 : Array CpInfo := pool [(1, u "java/io/Serializable"), (0, .class_ 1), (0, u "java/lang/Object"), (0, .class_ 3)] 3

/-- java/io/Serializable -/
def k4 : Class := { plain "java/io/Serializable" (some 0) with
  accessFlags := 1537
  interfaces := #[]
  cf := some (fileOf pool4 2 #[] #[] 1537 4 #[] #[])
  fields := #[]
  methods := #[]
  instanceTypes := #[]
  staticTypes := #[]
  resolved := Array.replicate 8 none
  statics := none }

/-- the primitive byte -/
def k5 : Class := { plain "byte" none with kind := .primitive 'B', accessFlags := 0x411 }
/-- [B -/
def k6 : Class := { plain "[B" (some 0) with kind := .array 5 .byte, interfaces := #[3, 4], accessFlags := 1041 }

/-- the primitive int -/
def k7 : Class := { plain "int" none with kind := .primitive 'I', accessFlags := 0x411 }
/-- [I -/
def k8 : Class := { plain "[I" (some 0) with kind := .array 7 .int, interfaces := #[3, 4], accessFlags := 1041 }

/-- the primitive long -/
def k9 : Class := { plain "long" none with kind := .primitive 'J', accessFlags := 0x411 }
/-- [J -/
def k10 : Class := { plain "[J" (some 0) with kind := .array 9 .long, interfaces := #[3, 4], accessFlags := 1041 }

def heap : Heap := #[{ cls := 2, slots := #[.null, .int 0, .int 0, .null, .null, .int 0, .ref 1, .ref 2, .null, .int 0, .null, .null, .null], vm := .statics 2 },
  { cls := 10, slots := #[.long 2147483648, .long 1717986919, .long 1374389535, .long 1099511628, .long 1759218605, .long 1407374884, .long 1125899907, .long 1801439851, .long 1441151881, .long 1152921505], vm := .none },
  { cls := 8, slots := #[.int 31, .int 34, .int 37, .int 40, .int 44, .int 47, .int 50, .int 54, .int 57, .int 60], vm := .none }]
def classes : Array Class := #[k0, k1, k2, k3, k4, k5, k6, k7, k8, k9, k10]
def interned : List (Array UInt16 × Addr) := []
def slotsUsed : Nat := 33
def theMethod : MethodId := ⟨1, 2⟩
def args0 : Array Value := #[.int 500, .int 7]
def aboutOver (below : List Frame) : State where
  vm := { classes := classes, interned := interned.toArray }
  heap := heap
  slotsUsed := slotsUsed
  threads := #[{ frames := .invoking theMethod args0 :: below }]
def below0 : List Frame := [.native { method := ⟨0, 0⟩, args := #[] }]
def about1 : State := aboutOver below0
def p0 : Program := .bare "" "" ""
def e0 : Env := launch0.env 0 0 0
theorem w_frames : about1.frames = Frame.invoking theMethod args0 :: below0 := rfl
set_option maxRecDepth 65536 in
theorem w_args : argsFit about1.vm theMethod args0 = true := by decide +kernel
set_option maxRecDepth 65536 in
theorem w_heap : heapFits about1 = true := by decide +kernel
set_option maxRecDepth 65536 in
theorem w_runnable : about1.curStatus? = some .runnable := by decide +kernel
set_option maxRecDepth 65536 in
theorem w_alone : about1.alone = true := by decide +kernel
set_option maxRecDepth 65536 in
theorem w_named : about1.methodNamed? x = some theMethod := by decide +kernel
set_option maxRecDepth 65536 in
theorem w_hears : about1.hears theMethod below0 = true := by decide +kernel
set_option maxRecDepth 65536 in
theorem w_ripe : about1.ripe theMethod args0 below0 = true := by decide +kernel
theorem w_running : about1.status = .running := rfl
set_option maxRecDepth 65536 in
theorem w_room : about1.hasRoom e0.platform room_1 = true :=
  launch0.hasRoom_least _ room_1 (by decide +kernel) (by decide +kernel) (by decide +kernel) (by decide +kernel) (by decide +kernel) (by decide +kernel)
theorem allAtoms_all (ts : List Jvm.Cond) (a : Array Jvm.Value) (st : Jvm.State) : (allAtoms ts).before a st = ts.all (fun c => c.before a st) := by
  induction ts with
  | nil => rfl
  | cons c t ih =>
    show (Jvm.Cond.and c (allAtoms t)).before a st = _
    rw [Jvm.Cond.before_and, ih, List.all_cons]
def words1 : List Jvm.Cond := Jvm.Cond.code x code maxLocals ret :: tables_1
/-- a 'code' word, met by the world's own term for the bytes: nothing is compared byte by byte -/
theorem code_word {y : MethodName} {bytes : ByteArray} {mx : Nat} {rt : Option FieldType} {a : Array Value} {s : State} {m : MethodId} {meth : Method} {c : Code} (h1 : s.methodNamed? y = some m) (h2 : s.vm.method? m = some meth) (h3 : meth.code = some c) (h4 : c.code = bytes)
    (h5 : (c.maxLocals == mx && c.exceptionTable.isEmpty && decide (c.maxStack ≤ mostOperands) && decide (meth.sig.returnType = rt) && !meth.locks && decide (parseMethodDescriptor y.desc = some meth.sig)) = true) : (Jvm.Cond.code y bytes mx rt).before a s = true := by
  simp only [Bool.and_eq_true, beq_iff_eq, Bool.not_eq_true', decide_eq_true_eq] at h5
  obtain ⟨⟨⟨⟨⟨g1, g2⟩, g3⟩, g4⟩, g5⟩, g6⟩ := h5
  simp [Cond.before, Cond.holds, Cond.value, h1, h2, h3, h4, g1, g2, g3, g4, g5, g6]
def isCode : Jvm.Cond → Bool
  | .code _ _ _ _ => true
  | _ => false
theorem all_split {L : List Jvm.Cond} {P : Jvm.Cond → Bool} (h1 : L.all (fun c => isCode c || P c) = true) (h2 : ∀ c ∈ L.filter isCode, P c = true) : L.all P = true := by
  refine List.all_eq_true.mpr fun c hc => ?_
  have h := List.all_eq_true.mp h1 c hc
  rcases Bool.eq_false_or_eq_true (isCode c) with hi | hi
  · exact h2 c (List.mem_filter.mpr ⟨hc, hi⟩)
  · simpa [hi] using h
set_option maxRecDepth 65536 in
theorem w_c0 : (Jvm.Cond.code x code maxLocals ret).before args0 about1 = true := code_word (m := ⟨1, 2⟩) (meth := k1m2) (c := k1c2) (by decide +kernel) rfl rfl rfl (by decide +kernel)
set_option maxRecDepth 65536 in
theorem w_c1 : (Jvm.Cond.code ({ cls := "com/example/gearwork/gearwork/core/DecimalDividedByPowerPinLaw", name := "pow10", desc := "(I)I" } : Jvm.MethodName) method_2_code (1 : Nat) (Option.some Jvm.ClassFile.FieldType.int)).before args0 about1 = true := code_word (m := ⟨1, 1⟩) (meth := k1m1) (c := k1c1) (by decide +kernel) rfl rfl rfl (by decide +kernel)
set_option maxRecDepth 65536 in
theorem w_c2 : (Jvm.Cond.code ({ cls := "com/example/gearwork/gearwork/core/Decimal", name := "dividedByPower", desc := "(II)I" } : Jvm.MethodName) prog_15_method_40_code (2 : Nat) (Option.some Jvm.ClassFile.FieldType.int)).before args0 about1 = true := code_word (m := ⟨2, 0⟩) (meth := k2m0) (c := k2c0) (by decide +kernel) rfl rfl rfl (by decide +kernel)
def codes1 : List Jvm.Cond := [Jvm.Cond.code x code maxLocals ret, Jvm.Cond.code ({ cls := "com/example/gearwork/gearwork/core/DecimalDividedByPowerPinLaw", name := "pow10", desc := "(I)I" } : Jvm.MethodName) method_2_code (1 : Nat) (Option.some Jvm.ClassFile.FieldType.int), Jvm.Cond.code ({ cls := "com/example/gearwork/gearwork/core/Decimal", name := "dividedByPower", desc := "(II)I" } : Jvm.MethodName) prog_15_method_40_code (2 : Nat) (Option.some Jvm.ClassFile.FieldType.int)]
set_option maxRecDepth 65536 in
theorem codes_eq : words1.filter isCode = codes1 := rfl
theorem w_codes : ∀ c ∈ words1.filter isCode, c.before args0 about1 = true := by
  rw [codes_eq]
  intro c hc
  simp only [codes1, List.mem_cons, List.not_mem_nil, or_false] at hc
  rcases hc with rfl | rfl | rfl
  · exact w_c0
  · exact w_c1
  · exact w_c2
set_option maxRecDepth 65536 in
theorem w_t1 : words1.all (fun c => isCode c || c.before args0 about1) = true := by decide +kernel
theorem w_tables : (allAtoms (Jvm.Cond.code x code maxLocals ret :: tables_1)).before args0 about1 = true := by
  rw [allAtoms_all]
  show words1.all (fun c => c.before args0 about1) = true
  refine all_split ?_ w_codes
  rw [w_t1]
set_option maxRecDepth 65536 in
theorem w_case : (Jvm.Cond.and given_1 narrow_1).before args0 about1 = true := by decide +kernel
theorem w_applies : (headSpec (Jvm.Cond.code x code maxLocals ret :: tables_1) room_1).applies x e0.platform about1 = true :=
  (Spec.applies_iff w_frames).mpr ⟨w_running, w_runnable, w_alone, w_named, w_hears, w_ripe, w_room, w_tables⟩
theorem atStart : AtStart classFile x code maxLocals ret World_1 tables_1 room_1 Calls_1 rest_1 Pre_1 launch0 p0 e0 about1 theMethod args0 below0 :=
  ⟨lists_1, trivial, launch0.admits_env _ _ _, launch0.least_env, fairChoices_fair.cas, fairChoices_fair.clock, w_frames, w_args, w_heap, w_applies, trivial, trivial, w_case⟩
end start1
theorem witness_1 : WitnessClaimed_1 := ⟨start1.p0, start1.e0, start1.about1, start1.theMethod, start1.args0, start1.below0, start1.atStart⟩
end Jvm.Pilot.@@N@@

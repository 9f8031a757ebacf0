import JvmDerived
import JvmDerived.Pilot.@@N@@Statement
import JvmDerived.Pilot.@@N@@Code
set_option linter.unusedVariables false
set_option linter.unusedSimpArgs false
namespace Jvm.RoadKit
open Sem ClassFile Op Lib Jvm.Stand Jvm.Free Jvm.LawKit
section New
variable {p : Program} {l : Launch} {e : Env} {R : Room} {s : State} {m : MethodId} {args : Array Value} {below : List Frame} {meth : Method} {c : Code} {T : State} {locs : List Loc} {cells slots : Nat}
theorem retI (X : Stand p l e R s m args below meth c T locs cells slots) (hx : p.tables.exec = Jvm.exec) {pc : Nat} {Ls : Array Slot} {z : Int32} {rest : List Value} (hret : meth.sig.returnType = some .int) (hd : decode c.code pc = .ok (.ireturn, 1)) {fs : List Frame}
    (hl : ∀ (f : JFrame) (acts : List Action), f.method = m → f.locked = none → f.entered = [] → (doReturn e (T.setTop f) acts (some (.int z))).1 = T.setFrames fs) : Steps p.tables e below (T.setTop (mkF m pc Ls (.int z :: rest))) (T.setFrames fs) := by
  have hm' : T.vm.method? m = some meth := X.method'
  have hn : narrow .int (.int z) = .int z := rfl
  show Steps p.tables e below (T.setTop { method := m, pc := pc, locals := Ls, stack := _ :: rest, locked := none }) _
  jvm_step X.here [X.here.top, hx, hd, hm', hret, hn]
  first | (intro acts; rw [hl _ acts rfl rfl rfl]) | rw [hl _ _ rfl rfl rfl]
  exact Steps.refl _
end New
end Jvm.RoadKit
namespace Jvm.Pilot.@@N@@
open Jvm Jvm.ClassFile Sem Op Lib Jvm.Free Jvm.Stand Jvm.LawKit Jvm.RoadKit Bundle Jvm.Pilot.@@N@@.Jvm.D
theorem own_sta_keep {Z : State} {h h' : Heap} {C n d : String} {v : Value} (F : Sta Z h C n d v) (K : Keep h h' []) : Sta Z h' C n d v := by
  obtain ⟨cf, i, k, f, st, cell, h1, h2, h3, h4, h5, r⟩ := F
  exact ⟨cf, i, k, f, st, cell, h1, h2, h3, h4, K.2.1 _ _ h5 nin0, r⟩
/-- whoever comes from B to t comes from A to t -/
abbrev own_R (p : Program) (e : Env) (below : List Frame) (A B : State) : Prop := ∀ t, Steps p.tables e below B t → Steps p.tables e below A t

section OwnWords
variable {args : Array Value} {s : State} {t : Term}
theorem own_eqi {k : Int32} (h : (Jvm.Cond.eq t (.int k)).value args s none s [] = some true) : t.eval args s none [] s = some (.int k) := by
  simp only [Cond.value, Term.eval] at h
  cases ht : t.eval args s none [] s with
  | none => simp [ht] at h
  | some x => cases x <;> simp [ht] at h ⊢ <;> exact h
theorem own_eql {k : Int64} (h : (Jvm.Cond.eq t (.long k)).value args s none s [] = some true) : t.eval args s none [] s = some (.long k) := by
  simp only [Cond.value, Term.eval] at h
  cases ht : t.eval args s none [] s with
  | none => simp [ht] at h
  | some x => cases x <;> simp [ht] at h ⊢ <;> exact h
theorem own_eqr {u : Term} {x : Addr} (h : (Jvm.Cond.eq t u).value args s none s [] = some true) (hu : u.eval args s none [] s = some (.ref x)) : t.eval args s none [] s = some (.ref x) := by
  simp only [Cond.value, hu] at h
  cases ht : t.eval args s none [] s with
  | none => simp [ht] at h
  | some y => cases y <;> simp [ht] at h ⊢ <;> exact h
theorem own_len {x : Addr} {cl : Cell} {ty : FieldType} {k : Int32} (h : (Jvm.Cond.eq (.length t) (.int k)).value args s none s [] = some true) (ev : t.eval args s none [] s = some (.ref x)) (A : Arr s s.heap x cl ty) : cl.slots.size < 2 ^ 31 ∧ cl.slots.size.toInt32 = k := by
  have h1 := own_eqi h
  have h2 := A.fin (Vm.Alike.refl _)
  simp only [Term.eval, ev, Option.bind_eq_bind, Option.bind_some, h2] at h1
  split at h1
  · rename_i q; exact ⟨q, by simpa using h1⟩
  · cases h1
theorem own_elem {x : Addr} {cl : Cell} {ty : FieldType} {j : Int32} {v : Value} (h : (Term.elem t (.int j)).eval args s none [] s = some v) (ev : t.eval args s none [] s = some (.ref x)) (A : Arr s s.heap x cl ty) : cl.slots[j.toNatClampNeg]? = some v :=
  (elem_in h ev (Term.int_eval j) A.1).2
end OwnWords
theorem own_strs {Z : State} {a0 : Array Value} (hw : ∀ d ∈ tables_1, d.before a0 Z = true) : ∀ a ∈ Bundle.stringAtoms, a.before a0 Z = true := by
  intro a ha
  simp only [Bundle.stringAtoms, List.mem_cons, List.not_mem_nil, or_false] at ha
  rcases ha with rfl | rfl | rfl | rfl | rfl | rfl | rfl
  · exact (hw _ (List.mem_of_getElem? (i := 23) rfl))
  · exact (hw _ (List.mem_of_getElem? (i := 24) rfl))
  · exact (hw _ (List.mem_of_getElem? (i := 25) rfl))
  · exact (hw _ (List.mem_of_getElem? (i := 26) rfl))
  · exact (hw _ (List.mem_of_getElem? (i := 27) rfl))
  · exact (hw _ (List.mem_of_getElem? (i := 28) rfl))
  · exact (hw _ (List.mem_of_getElem? (i := 29) rfl))
theorem own_arr_keep {Z : State} {h h' : Heap} {a : Addr} {c : Cell} {ty : FieldType} (A : Arr Z h a c ty) (K : Keep h h' []) : Arr Z h' a c ty := ⟨K.2.1 _ _ A.1 nin0, A.2⟩
/-- C is no subclass of K: K is made by 'new' (its word: instantiable), C's fathers are told -/
theorem own_ns_root {Z : State} {a0 : Array Value} {O K : String} {n : Nat} (w : (Jvm.Cond.noSuperclass O).before a0 Z = true) (wk : (Jvm.Cond.instantiable K n).before a0 Z = true) (hn : O ≠ K) : NS Z O K := by
  obtain ⟨c, k, h1, h2, h3, -, -⟩ := Cond.noSuperclass_spec w
  obtain ⟨t, k2, g1, -⟩ := Cond.instantiable_spec wk
  refine ⟨c, t, h1, g1, fun fuel => ?_⟩
  cases fuel with
  | zero => rfl
  | succ f => simp [Vm.isSubclassAux, ids_ne h1 g1 hn, h2, h3]
theorem own_ns_no {Z : State} {a0 : Array Value} {C S K : String} {n : Nat} (w : (Jvm.Cond.superclass C S).before a0 Z = true) (wk : (Jvm.Cond.instantiable K n).before a0 Z = true) (ns : NS Z C K) (hn : C ≠ K) : ∃ c t, Z.vm.findClass C = some c ∧ Z.vm.findClass K = some t ∧ Z.vm.assignable c t = false := by
  obtain ⟨c, t, h0, g0, n3⟩ := ns
  obtain ⟨p, k, kp, h1, h2, h3, h4, h5, -, h7⟩ := Cond.superclass_spec h0 w
  obtain ⟨t', k', g1, g2, g3, g4, -⟩ := Cond.instantiable_spec wk
  cases g0.symm.trans g1
  have hi : k'.isInterface = false := by cases q : k'.isInterface <;> simp [q] at g4 ⊢
  refine ⟨c, t, h0, g0, ?_⟩
  show Z.vm.assignableAux (255 + 1) c t = false
  simp [Vm.assignableAux, ids_ne h0 g0 hn, h2, g2, h5, g3, hi, Vm.isSubclass, n3]
/-- an array of boxes that stood before the law -/
def own_box (Z : State) (c : Cell) (K : String) : Prop := ∀ j : Int32, ¬ (j < 0 ∨ 256 ≤ j.toNatClampNeg) → ∃ b : Addr, c.slots[j.toNatClampNeg]? = some (.ref b) ∧ Exa Z Z.heap b K
theorem own_box_start {Z : State} {args : Array Value} {t : Term} {D : Jvm.Cond} {a : Addr} {c : Cell} {K : String} (et : ∀ idx, t.eval args Z none idx Z = some (.ref a)) (A : Arr Z Z.heap a c (.object K)) (hs : c.slots.size = 256)
    (h : (Jvm.Cond.all t (.and (.exactly (.elem t (.index 0)) K) D)).value args Z none Z [] = some true) : own_box Z c K := fun j hj => by
  have nn : ¬ j < 0 := fun x => hj (Or.inl x)
  obtain ⟨u1, u2⟩ := and_e (Cond.all_elim (et []) (A.fin (Vm.Alike.refl _)) h j.toNatClampNeg (by rw [hs]; exact Nat.lt_of_not_le fun x => hj (Or.inr x)))
  obtain ⟨box, eb⟩ := exa_v u1
  exact ⟨box, (elem_f (et _) (idx_at nn) (A.fin (Vm.Alike.refl _)) nn).symm.trans eb, exa_at eb u1⟩
theorem own_nsE {Z : State} {a0 : Array Value} (hw : ∀ d ∈ tables_1, d.before a0 Z = true) : ∃ c t, Z.vm.findClass "com/example/nodeward/nodeward/model/ExtendedDecision" = some c ∧ Z.vm.findClass "com/example/nodeward/nodeward/model/ConditionalDecision$Settled" = some t ∧ Z.vm.assignable c t = false :=
  own_ns_no (hw _ (List.mem_of_getElem? (i := 44) rfl)) (hw _ (List.mem_of_getElem? (i := 2) rfl)) (NS.step (hw _ (List.mem_of_getElem? (i := 44) rfl)) (NS.step (hw _ (List.mem_of_getElem? (i := 45) rfl)) (own_ns_root (hw _ (List.mem_of_getElem? (i := 46) rfl)) (hw _ (List.mem_of_getElem? (i := 2) rfl)) (by decide)) (by decide)) (by decide)) (by decide)
theorem own_nsI {Z : State} {a0 : Array Value} (hw : ∀ d ∈ tables_1, d.before a0 Z = true) : ∃ c t, Z.vm.findClass "java/lang/Integer" = some c ∧ Z.vm.findClass "com/example/nodeward/nodeward/model/ConditionalDecision$Settled" = some t ∧ Z.vm.assignable c t = false :=
  own_ns_no (hw _ (List.mem_of_getElem? (i := 56) rfl)) (hw _ (List.mem_of_getElem? (i := 2) rfl)) (NS.step (hw _ (List.mem_of_getElem? (i := 56) rfl)) (NS.step (hw _ (List.mem_of_getElem? (i := 57) rfl)) (own_ns_root (hw _ (List.mem_of_getElem? (i := 46) rfl)) (hw _ (List.mem_of_getElem? (i := 2) rfl)) (by decide)) (by decide)) (by decide)) (by decide)
def own_pick (p0 : Int32) (u0 u1 u2 u3 u4 u5 : Addr) : Addr := if p0 = (0 : Int32) then u0 else if p0 = (1 : Int32) then u1 else if p0 = (2 : Int32) then u2 else if p0 = (3 : Int32) then u3 else if p0 = (4 : Int32) then u4 else u5
theorem d1_0 : decode method_2_code 0 = .ok (.iload_n 0, 1) := by decide +kernel
theorem d1_1 : decode method_2_code 1 = .ok (.ifCond .ne 7, 3) := by decide +kernel
theorem d1_4 : decode method_2_code 4 = .ok (.getstatic 7, 3) := by decide +kernel
theorem d1_7 : decode method_2_code 7 = .ok (.areturn, 1) := by decide +kernel
theorem d1_8 : decode method_2_code 8 = .ok (.iload_n 0, 1) := by decide +kernel
theorem d1_9 : decode method_2_code 9 = .ok (.iconst 1, 1) := by decide +kernel
theorem d1_10 : decode method_2_code 10 = .ok (.if_icmp .ne 7, 3) := by decide +kernel
theorem d1_13 : decode method_2_code 13 = .ok (.getstatic 13, 3) := by decide +kernel
theorem d1_16 : decode method_2_code 16 = .ok (.areturn, 1) := by decide +kernel
theorem d1_17 : decode method_2_code 17 = .ok (.iload_n 0, 1) := by decide +kernel
theorem d1_18 : decode method_2_code 18 = .ok (.iconst 2, 1) := by decide +kernel
theorem d1_19 : decode method_2_code 19 = .ok (.if_icmp .ne 7, 3) := by decide +kernel
theorem d1_22 : decode method_2_code 22 = .ok (.getstatic 16, 3) := by decide +kernel
theorem d1_25 : decode method_2_code 25 = .ok (.areturn, 1) := by decide +kernel
theorem d1_26 : decode method_2_code 26 = .ok (.iload_n 0, 1) := by decide +kernel
theorem d1_27 : decode method_2_code 27 = .ok (.iconst 3, 1) := by decide +kernel
theorem d1_28 : decode method_2_code 28 = .ok (.if_icmp .ne 7, 3) := by decide +kernel
theorem d1_31 : decode method_2_code 31 = .ok (.getstatic 19, 3) := by decide +kernel
theorem d1_34 : decode method_2_code 34 = .ok (.areturn, 1) := by decide +kernel
theorem d1_35 : decode method_2_code 35 = .ok (.iload_n 0, 1) := by decide +kernel
theorem d1_36 : decode method_2_code 36 = .ok (.iconst 4, 1) := by decide +kernel
theorem d1_37 : decode method_2_code 37 = .ok (.if_icmp .ne 7, 3) := by decide +kernel
theorem d1_40 : decode method_2_code 40 = .ok (.getstatic 22, 3) := by decide +kernel
theorem d1_43 : decode method_2_code 43 = .ok (.areturn, 1) := by decide +kernel
theorem d1_44 : decode method_2_code 44 = .ok (.getstatic 25, 3) := by decide +kernel
theorem d1_47 : decode method_2_code 47 = .ok (.areturn, 1) := by decide +kernel
theorem pn_1 : plainName "com/example/nodeward/nodeward/model/SettledEqualsPinLaw" = true := by first | (simp [plainName, overriddenIn]; done) | decide +kernel
theorem ef_1 (m : MethodId) (x0 : Int32) : entryFrame m #[(.int x0)] 1 = mkF m 0 #[.val (.int x0)] [] := by first | (simp [entryFrame, mkF, argsToLocals, Value.category]; done) | rfl
def Q1 (Z : State) (p0 : Int32) (u0 : Addr) (u1 : Addr) (u2 : Addr) (u3 : Addr) (u4 : Addr) (u5 : Addr) (h0 : Heap) (n0 : Nat) (v : Option Value) (h : Heap) (L : List Loc) : Prop := v = some (.ref (own_pick p0 u0 u1 u2 u3 u4 u5)) ∧ Fr n0 L ∧ h = h0
set_option maxRecDepth 65536 in
set_option maxHeartbeats 40000000 in
theorem rm1 (l : Launch) (Z : State) (a0 : Array Value) (hw : ∀ d ∈ tables_1, d.before a0 Z = true) (ws : List Jvm.Cond) (p0 : Int32) (u0 : Addr) (u1 : Addr) (u2 : Addr) (u3 : Addr) (u4 : Addr) (u5 : Addr) (h0 : Heap) (n0 : Nat) (Z0 : n0 ≤ h0.size) (S0 : Sta Z h0 "com/example/nodeward/nodeward/model/ExtendedDecision" "PERMIT" "Lcom/example/nodeward/nodeward/model/ExtendedDecision;" (.ref u0)) (S1 : Sta Z h0 "com/example/nodeward/nodeward/model/ExtendedDecision" "DENY" "Lcom/example/nodeward/nodeward/model/ExtendedDecision;" (.ref u1)) (S2 : Sta Z h0 "com/example/nodeward/nodeward/model/ExtendedDecision" "NOT_APPLICABLE" "Lcom/example/nodeward/nodeward/model/ExtendedDecision;" (.ref u2)) (S3 : Sta Z h0 "com/example/nodeward/nodeward/model/ExtendedDecision" "INDETERMINATE_D" "Lcom/example/nodeward/nodeward/model/ExtendedDecision;" (.ref u3)) (S4 : Sta Z h0 "com/example/nodeward/nodeward/model/ExtendedDecision" "INDETERMINATE_P" "Lcom/example/nodeward/nodeward/model/ExtendedDecision;" (.ref u4)) (S5 : Sta Z h0 "com/example/nodeward/nodeward/model/ExtendedDecision" "INDETERMINATE_DP" "Lcom/example/nodeward/nodeward/model/ExtendedDecision;" (.ref u5)) :
    MetFree l (⟨"com/example/nodeward/nodeward/model/SettledEqualsPinLaw", "pick", "(I)Lcom/example/nodeward/nodeward/model/ExtendedDecision;"⟩ : MethodName) (head1 (Jvm.Cond.code (⟨"com/example/nodeward/nodeward/model/SettledEqualsPinLaw", "pick", "(I)Lcom/example/nodeward/nodeward/model/ExtendedDecision;"⟩ : MethodName) method_2_code 1 (some (.object "com/example/nodeward/nodeward/model/ExtendedDecision")) :: ws) ({ frames := 0, cells := 0, slots := 0, locals := 0 } : Room)) (fun a U => a = #[(.int p0)] ∧ Z.Warmed39 U.vm ∧ U.heap = h0) (fun _ _ _ _ _ => True) (fun _ U o U' => ∃ v L, o = .returned v ∧ Q1 Z p0 u0 u1 u2 u3 u4 u5 h0 n0 v U'.heap L ∧ FrameEnd U o U' L ({ frames := 0, cells := 0, slots := 0, locals := 0 } : Room).cells ({ frames := 0, cells := 0, slots := 0, locals := 0 } : Room).slots) := by
  refine MetFree.of_bodySF (plainFor_of_name pn_1) hisR ?_
  intro p e s m args below meth c s₁ Bd hml0 hP hK
  obtain ⟨rfl, hZ, hh⟩ := hP
  have hx := Bd.exec
  have hby := Bd.bytes
  have hml : c.maxLocals = 1 := hml0
  have hown : s.vm.findClass "com/example/nodeward/nodeward/model/SettledEqualsPinLaw" = some m.cls := findClass_of_methodNamed Bd.named
  have hnm := (name_of_methodNamed Bd.named Bd.method).1
  have X0 : Stand p l e ({ frames := 0, cells := 0, slots := 0, locals := 0 } : Room) s m #[(.int p0)] below meth c s₁ [] 0 0 := Stand.of_body Bd
  have e0 : s₁.heap = h0 := by rw [← hh, Bd.state]; rfl
  have N0 := Fr.nil n0
  have k0 : own_R p e below (s₁.setTop (entryFrame m #[(.int p0)] 1)) (s₁.setTop (mkF m 0 #[.val (.int p0)] [])) := fun t k => castTop (ef_1 m p0) k
  have ks1 : own_R p e below (s₁.setTop (entryFrame m #[(.int p0)] 1)) (s₁.setTop (mkF m 1 #[.val (.int p0)] [(.int p0)])) := fun t k => k0 t (by
    show Steps p.tables e below (s₁.setTop (mkF m 0 #[.val (.int p0)] [])) _
    refine XS.iloadN X0.here hx rfl (hb hby d1_0) rfl ?_
    exact k)
  by_cases hc2 : p0 = (0 : Int32)
  · skip
    have ks3 : own_R p e below (s₁.setTop (entryFrame m #[(.int p0)] 1)) (s₁.setTop (mkF m 4 #[.val (.int p0)] [])) := fun t k => ks1 t (by
      show Steps p.tables e below (s₁.setTop (mkF m 1 #[.val (.int p0)] [(.int p0)])) _
      refine XS.ifNo X0.here hx rfl (hb hby d1_1) rfl ((if0 _ _).trans (teq hc2).2) ?_
      exact k)
    obtain ⟨T4, X4, e4, st4⟩ := getS2 X0 hx hZ hown (host := "") (Or.inl (hw _ (List.mem_of_getElem? (i := 8) rfl))) Via.refl e0 S0 (g := (mkF m 4 #[.val (.int p0)] [])) rfl (hb hby d1_4)
    have ks5 : own_R p e below (s₁.setTop (entryFrame m #[(.int p0)] 1)) (T4.setTop (mkF m 7 #[.val (.int p0)] [(.ref u0)])) := fun t k => ks3 t (st4 t k)
    obtain ⟨fs, hr, hrun, hended, hW, hsame⟩ := X4.leave (v := some (.ref u0)) (fun h => by rw [Bd.returns] at h; cases h)
    refine ⟨_, _, ks5 _ ?_, hrun, hended, _, _, rfl, ?_, ⟨_, rfl⟩, hW, hsame.mono (by decide) (by decide)⟩
    · exact retOut X4 hx Bd.returns rfl (Or.inr (Or.inr (Or.inr (Or.inr ⟨rfl, rfl, rfl⟩)))) (hb hby d1_7) hr
    · show Q1 Z p0 u0 u1 u2 u3 u4 u5 h0 n0 _ T4.heap _
      rw [e4]
      refine ⟨?_, N0, rfl⟩
      rw [own_pick, if_pos hc2]
  · skip
    have ks6 : own_R p e below (s₁.setTop (entryFrame m #[(.int p0)] 1)) (s₁.setTop (mkF m 10 #[.val (.int p0)] [(.int (1 : Int32)), (.int p0)])) := fun t k => ks1 t (by
      show Steps p.tables e below (s₁.setTop (mkF m 1 #[.val (.int p0)] [(.int p0)])) _
      refine XS.ifYes X0.here hx rfl (pc0 := 1) (pc' := 8) rfl (hb hby d1_1) rfl ((if0 _ _).trans (feq hc2).2) (by decide) (by decide) ?_
      show Steps p.tables e below (s₁.setTop (mkF m 8 #[.val (.int p0)] [])) _
      refine XS.iloadN X0.here hx rfl (hb hby d1_8) rfl ?_
      show Steps p.tables e below (s₁.setTop (mkF m 9 #[.val (.int p0)] [(.int p0)])) _
      refine XS.iconst X0.here hx rfl (hb hby d1_9) ?_
      exact k)
    by_cases hc7 : p0 = (1 : Int32)
    · skip
      have ks8 : own_R p e below (s₁.setTop (entryFrame m #[(.int p0)] 1)) (s₁.setTop (mkF m 13 #[.val (.int p0)] [])) := fun t k => ks6 t (by
        show Steps p.tables e below (s₁.setTop (mkF m 10 #[.val (.int p0)] [(.int (1 : Int32)), (.int p0)])) _
        refine XS.icmpNo X0.here hx rfl (hb hby d1_10) rfl (teq hc7).2 ?_
        exact k)
      obtain ⟨T9, X9, e9, st9⟩ := getS2 X0 hx hZ hown (host := "") (Or.inl (hw _ (List.mem_of_getElem? (i := 47) rfl))) Via.refl e0 S1 (g := (mkF m 13 #[.val (.int p0)] [])) rfl (hb hby d1_13)
      have ks10 : own_R p e below (s₁.setTop (entryFrame m #[(.int p0)] 1)) (T9.setTop (mkF m 16 #[.val (.int p0)] [(.ref u1)])) := fun t k => ks8 t (st9 t k)
      obtain ⟨fs, hr, hrun, hended, hW, hsame⟩ := X9.leave (v := some (.ref u1)) (fun h => by rw [Bd.returns] at h; cases h)
      refine ⟨_, _, ks10 _ ?_, hrun, hended, _, _, rfl, ?_, ⟨_, rfl⟩, hW, hsame.mono (by decide) (by decide)⟩
      · exact retOut X9 hx Bd.returns rfl (Or.inr (Or.inr (Or.inr (Or.inr ⟨rfl, rfl, rfl⟩)))) (hb hby d1_16) hr
      · show Q1 Z p0 u0 u1 u2 u3 u4 u5 h0 n0 _ T9.heap _
        rw [e9]
        refine ⟨?_, N0, rfl⟩
        rw [own_pick, if_neg hc2, if_pos hc7]
    · skip
      have ks11 : own_R p e below (s₁.setTop (entryFrame m #[(.int p0)] 1)) (s₁.setTop (mkF m 19 #[.val (.int p0)] [(.int (2 : Int32)), (.int p0)])) := fun t k => ks6 t (by
        show Steps p.tables e below (s₁.setTop (mkF m 10 #[.val (.int p0)] [(.int (1 : Int32)), (.int p0)])) _
        refine XS.icmpYes X0.here hx rfl (pc0 := 10) (pc' := 17) rfl (hb hby d1_10) rfl (feq hc7).2 (by decide) (by decide) ?_
        show Steps p.tables e below (s₁.setTop (mkF m 17 #[.val (.int p0)] [])) _
        refine XS.iloadN X0.here hx rfl (hb hby d1_17) rfl ?_
        show Steps p.tables e below (s₁.setTop (mkF m 18 #[.val (.int p0)] [(.int p0)])) _
        refine XS.iconst X0.here hx rfl (hb hby d1_18) ?_
        exact k)
      by_cases hc12 : p0 = (2 : Int32)
      · skip
        have ks13 : own_R p e below (s₁.setTop (entryFrame m #[(.int p0)] 1)) (s₁.setTop (mkF m 22 #[.val (.int p0)] [])) := fun t k => ks11 t (by
          show Steps p.tables e below (s₁.setTop (mkF m 19 #[.val (.int p0)] [(.int (2 : Int32)), (.int p0)])) _
          refine XS.icmpNo X0.here hx rfl (hb hby d1_19) rfl (teq hc12).2 ?_
          exact k)
        obtain ⟨T14, X14, e14, st14⟩ := getS2 X0 hx hZ hown (host := "") (Or.inl (hw _ (List.mem_of_getElem? (i := 58) rfl))) Via.refl e0 S2 (g := (mkF m 22 #[.val (.int p0)] [])) rfl (hb hby d1_22)
        have ks15 : own_R p e below (s₁.setTop (entryFrame m #[(.int p0)] 1)) (T14.setTop (mkF m 25 #[.val (.int p0)] [(.ref u2)])) := fun t k => ks13 t (st14 t k)
        obtain ⟨fs, hr, hrun, hended, hW, hsame⟩ := X14.leave (v := some (.ref u2)) (fun h => by rw [Bd.returns] at h; cases h)
        refine ⟨_, _, ks15 _ ?_, hrun, hended, _, _, rfl, ?_, ⟨_, rfl⟩, hW, hsame.mono (by decide) (by decide)⟩
        · exact retOut X14 hx Bd.returns rfl (Or.inr (Or.inr (Or.inr (Or.inr ⟨rfl, rfl, rfl⟩)))) (hb hby d1_25) hr
        · show Q1 Z p0 u0 u1 u2 u3 u4 u5 h0 n0 _ T14.heap _
          rw [e14]
          refine ⟨?_, N0, rfl⟩
          rw [own_pick, if_neg hc2, if_neg hc7, if_pos hc12]
      · skip
        have ks16 : own_R p e below (s₁.setTop (entryFrame m #[(.int p0)] 1)) (s₁.setTop (mkF m 28 #[.val (.int p0)] [(.int (3 : Int32)), (.int p0)])) := fun t k => ks11 t (by
          show Steps p.tables e below (s₁.setTop (mkF m 19 #[.val (.int p0)] [(.int (2 : Int32)), (.int p0)])) _
          refine XS.icmpYes X0.here hx rfl (pc0 := 19) (pc' := 26) rfl (hb hby d1_19) rfl (feq hc12).2 (by decide) (by decide) ?_
          show Steps p.tables e below (s₁.setTop (mkF m 26 #[.val (.int p0)] [])) _
          refine XS.iloadN X0.here hx rfl (hb hby d1_26) rfl ?_
          show Steps p.tables e below (s₁.setTop (mkF m 27 #[.val (.int p0)] [(.int p0)])) _
          refine XS.iconst X0.here hx rfl (hb hby d1_27) ?_
          exact k)
        by_cases hc17 : p0 = (3 : Int32)
        · skip
          have ks18 : own_R p e below (s₁.setTop (entryFrame m #[(.int p0)] 1)) (s₁.setTop (mkF m 31 #[.val (.int p0)] [])) := fun t k => ks16 t (by
            show Steps p.tables e below (s₁.setTop (mkF m 28 #[.val (.int p0)] [(.int (3 : Int32)), (.int p0)])) _
            refine XS.icmpNo X0.here hx rfl (hb hby d1_28) rfl (teq hc17).2 ?_
            exact k)
          obtain ⟨T19, X19, e19, st19⟩ := getS2 X0 hx hZ hown (host := "") (Or.inl (hw _ (List.mem_of_getElem? (i := 36) rfl))) Via.refl e0 S3 (g := (mkF m 31 #[.val (.int p0)] [])) rfl (hb hby d1_31)
          have ks20 : own_R p e below (s₁.setTop (entryFrame m #[(.int p0)] 1)) (T19.setTop (mkF m 34 #[.val (.int p0)] [(.ref u3)])) := fun t k => ks18 t (st19 t k)
          obtain ⟨fs, hr, hrun, hended, hW, hsame⟩ := X19.leave (v := some (.ref u3)) (fun h => by rw [Bd.returns] at h; cases h)
          refine ⟨_, _, ks20 _ ?_, hrun, hended, _, _, rfl, ?_, ⟨_, rfl⟩, hW, hsame.mono (by decide) (by decide)⟩
          · exact retOut X19 hx Bd.returns rfl (Or.inr (Or.inr (Or.inr (Or.inr ⟨rfl, rfl, rfl⟩)))) (hb hby d1_34) hr
          · show Q1 Z p0 u0 u1 u2 u3 u4 u5 h0 n0 _ T19.heap _
            rw [e19]
            refine ⟨?_, N0, rfl⟩
            rw [own_pick, if_neg hc2, if_neg hc7, if_neg hc12, if_pos hc17]
        · skip
          have ks21 : own_R p e below (s₁.setTop (entryFrame m #[(.int p0)] 1)) (s₁.setTop (mkF m 37 #[.val (.int p0)] [(.int (4 : Int32)), (.int p0)])) := fun t k => ks16 t (by
            show Steps p.tables e below (s₁.setTop (mkF m 28 #[.val (.int p0)] [(.int (3 : Int32)), (.int p0)])) _
            refine XS.icmpYes X0.here hx rfl (pc0 := 28) (pc' := 35) rfl (hb hby d1_28) rfl (feq hc17).2 (by decide) (by decide) ?_
            show Steps p.tables e below (s₁.setTop (mkF m 35 #[.val (.int p0)] [])) _
            refine XS.iloadN X0.here hx rfl (hb hby d1_35) rfl ?_
            show Steps p.tables e below (s₁.setTop (mkF m 36 #[.val (.int p0)] [(.int p0)])) _
            refine XS.iconst X0.here hx rfl (hb hby d1_36) ?_
            exact k)
          by_cases hc22 : p0 = (4 : Int32)
          · skip
            have ks23 : own_R p e below (s₁.setTop (entryFrame m #[(.int p0)] 1)) (s₁.setTop (mkF m 40 #[.val (.int p0)] [])) := fun t k => ks21 t (by
              show Steps p.tables e below (s₁.setTop (mkF m 37 #[.val (.int p0)] [(.int (4 : Int32)), (.int p0)])) _
              refine XS.icmpNo X0.here hx rfl (hb hby d1_37) rfl (teq hc22).2 ?_
              exact k)
            obtain ⟨T24, X24, e24, st24⟩ := getS2 X0 hx hZ hown (host := "") (Or.inl (hw _ (List.mem_of_getElem? (i := 63) rfl))) Via.refl e0 S4 (g := (mkF m 40 #[.val (.int p0)] [])) rfl (hb hby d1_40)
            have ks25 : own_R p e below (s₁.setTop (entryFrame m #[(.int p0)] 1)) (T24.setTop (mkF m 43 #[.val (.int p0)] [(.ref u4)])) := fun t k => ks23 t (st24 t k)
            obtain ⟨fs, hr, hrun, hended, hW, hsame⟩ := X24.leave (v := some (.ref u4)) (fun h => by rw [Bd.returns] at h; cases h)
            refine ⟨_, _, ks25 _ ?_, hrun, hended, _, _, rfl, ?_, ⟨_, rfl⟩, hW, hsame.mono (by decide) (by decide)⟩
            · exact retOut X24 hx Bd.returns rfl (Or.inr (Or.inr (Or.inr (Or.inr ⟨rfl, rfl, rfl⟩)))) (hb hby d1_43) hr
            · show Q1 Z p0 u0 u1 u2 u3 u4 u5 h0 n0 _ T24.heap _
              rw [e24]
              refine ⟨?_, N0, rfl⟩
              rw [own_pick, if_neg hc2, if_neg hc7, if_neg hc12, if_neg hc17, if_pos hc22]
          · skip
            have ks26 : own_R p e below (s₁.setTop (entryFrame m #[(.int p0)] 1)) (s₁.setTop (mkF m 44 #[.val (.int p0)] [])) := fun t k => ks21 t (by
              show Steps p.tables e below (s₁.setTop (mkF m 37 #[.val (.int p0)] [(.int (4 : Int32)), (.int p0)])) _
              refine XS.icmpYes X0.here hx rfl (pc0 := 37) (pc' := 44) rfl (hb hby d1_37) rfl (feq hc22).2 (by decide) (by decide) ?_
              exact k)
            obtain ⟨T27, X27, e27, st27⟩ := getS2 X0 hx hZ hown (host := "") (Or.inl (hw _ (List.mem_of_getElem? (i := 61) rfl))) Via.refl e0 S5 (g := (mkF m 44 #[.val (.int p0)] [])) rfl (hb hby d1_44)
            have ks28 : own_R p e below (s₁.setTop (entryFrame m #[(.int p0)] 1)) (T27.setTop (mkF m 47 #[.val (.int p0)] [(.ref u5)])) := fun t k => ks26 t (st27 t k)
            obtain ⟨fs, hr, hrun, hended, hW, hsame⟩ := X27.leave (v := some (.ref u5)) (fun h => by rw [Bd.returns] at h; cases h)
            refine ⟨_, _, ks28 _ ?_, hrun, hended, _, _, rfl, ?_, ⟨_, rfl⟩, hW, hsame.mono (by decide) (by decide)⟩
            · exact retOut X27 hx Bd.returns rfl (Or.inr (Or.inr (Or.inr (Or.inr ⟨rfl, rfl, rfl⟩)))) (hb hby d1_47) hr
            · show Q1 Z p0 u0 u1 u2 u3 u4 u5 h0 n0 _ T27.heap _
              rw [e27]
              refine ⟨?_, N0, rfl⟩
              rw [own_pick, if_neg hc2, if_neg hc7, if_neg hc12, if_neg hc17, if_neg hc22]
theorem own_exa {Z : State} {h : Heap} {C : String} {u0 u1 u2 u3 u4 u5 : Addr} (p : Int32) (e0 : Exa Z h u0 C) (e1 : Exa Z h u1 C) (e2 : Exa Z h u2 C) (e3 : Exa Z h u3 C) (e4 : Exa Z h u4 C) (e5 : Exa Z h u5 C) : Exa Z h (own_pick p u0 u1 u2 u3 u4 u5) C := by
  unfold own_pick; repeat (first | assumption | split)
theorem own_six (b : Int32) : ((b &&& (2147483647 : Int32)) % (6 : Int32)) = 0 ∨ ((b &&& (2147483647 : Int32)) % (6 : Int32)) = 1 ∨ ((b &&& (2147483647 : Int32)) % (6 : Int32)) = 2 ∨ ((b &&& (2147483647 : Int32)) % (6 : Int32)) = 3 ∨ ((b &&& (2147483647 : Int32)) % (6 : Int32)) = 4 ∨ ((b &&& (2147483647 : Int32)) % (6 : Int32)) = 5 := by
  have h1 : (b &&& (2147483647 : Int32)).toInt = b.toInt % 2147483648 := c_mask b 2147483647 31 (by decide) (by decide)
  have h3 := (c_irem (b &&& (2147483647 : Int32)) 6 6 rfl).1 (by omega)
  generalize ((b &&& (2147483647 : Int32)) % (6 : Int32)) = d at *
  simp only [← Int32.toInt_inj]
  show d.toInt = 0 ∨ d.toInt = 1 ∨ d.toInt = 2 ∨ d.toInt = 3 ∨ d.toInt = 4 ∨ d.toInt = 5
  omega
def own_X (x : Int32) : Prop := x = 0 ∨ x = 1 ∨ x = 2 ∨ x = 3 ∨ x = 4 ∨ x = 5
theorem own_small (x : Int32) (h : own_X x) : ¬ x < (-128 : Int32) ∧ ¬ (127 : Int32) < x := by
  rcases h with rfl | rfl | rfl | rfl | rfl | rfl <;> decide
theorem own_inj {x y : Int32} (hx : own_X x) (hy : own_X y) {u0 u1 u2 u3 u4 u5 : Addr} (n01 : u0 ≠ u1) (n02 : u0 ≠ u2) (n03 : u0 ≠ u3) (n04 : u0 ≠ u4) (n05 : u0 ≠ u5) (n12 : u1 ≠ u2) (n13 : u1 ≠ u3) (n14 : u1 ≠ u4) (n15 : u1 ≠ u5) (n23 : u2 ≠ u3) (n24 : u2 ≠ u4) (n25 : u2 ≠ u5) (n34 : u3 ≠ u4) (n35 : u3 ≠ u5) (n45 : u4 ≠ u5) : own_pick x u0 u1 u2 u3 u4 u5 = own_pick y u0 u1 u2 u3 u4 u5 ↔ x = y := by
  rcases hx with rfl | rfl | rfl | rfl | rfl | rfl <;> rcases hy with rfl | rfl | rfl | rfl | rfl | rfl <;> simp [own_pick, n01, n02, n03, n04, n05, n12, n13, n14, n15, n23, n24, n25, n34, n35, n45, n01.symm, n02.symm, n03.symm, n04.symm, n05.symm, n12.symm, n13.symm, n14.symm, n15.symm, n23.symm, n24.symm, n25.symm, n34.symm, n35.symm, n45.symm]
theorem d3_0 : decode jdk_30_method_1_code 0 = .ok (.aload_n 0, 1) := by decide +kernel
theorem d3_1 : decode jdk_30_method_1_code 1 = .ok (.invokespecial 1, 3) := by decide +kernel
theorem d3_4 : decode jdk_30_method_1_code 4 = .ok (.return_, 1) := by decide +kernel
theorem pn_3 : plainName "java/lang/Record" = true := by first | (simp [plainName, overriddenIn]; done) | decide +kernel
theorem ef_3 (m : MethodId) (x0 : Addr) : entryFrame m #[(.ref x0)] 1 = mkF m 0 #[.val (.ref x0)] [] := by first | (simp [entryFrame, mkF, argsToLocals, Value.category]; done) | rfl
def Q3 (Z : State) (r0 : Addr) (h0 : Heap) (n0 : Nat) (v : Option Value) (h : Heap) (L : List Loc) : Prop := v = none ∧ Fr n0 L ∧ h = h0
set_option maxRecDepth 65536 in
set_option maxHeartbeats 40000000 in
theorem rm3 (l : Launch) (Z : State) (a0 : Array Value) (hw : ∀ d ∈ tables_1, d.before a0 Z = true) (ws : List Jvm.Cond) (r0 : Addr) (h0 : Heap) (n0 : Nat) (Z0 : n0 ≤ h0.size) :
    MetFree l (⟨"java/lang/Record", "<init>", "()V"⟩ : MethodName) (head1 (Jvm.Cond.code (⟨"java/lang/Record", "<init>", "()V"⟩ : MethodName) jdk_30_method_1_code 1 none :: ws) ({ frames := 1, cells := 0, slots := 0, locals := 12 } : Room)) (fun a U => a = #[(.ref r0)] ∧ Z.Warmed39 U.vm ∧ U.heap = h0) (fun _ _ _ _ _ => True) (fun _ U o U' => ∃ v L, o = .returned v ∧ Q3 Z r0 h0 n0 v U'.heap L ∧ FrameEnd U o U' L ({ frames := 1, cells := 0, slots := 0, locals := 12 } : Room).cells ({ frames := 1, cells := 0, slots := 0, locals := 12 } : Room).slots) := by
  refine MetFree.of_bodySF (plainFor_of_name pn_3) hisR ?_
  intro p e s m args below meth c s₁ Bd hml0 hP hK
  obtain ⟨rfl, hZ, hh⟩ := hP
  have hx := Bd.exec
  have hby := Bd.bytes
  have hml : c.maxLocals = 1 := hml0
  have hown : s.vm.findClass "java/lang/Record" = some m.cls := findClass_of_methodNamed Bd.named
  have hnm := (name_of_methodNamed Bd.named Bd.method).1
  have X0 : Stand p l e ({ frames := 1, cells := 0, slots := 0, locals := 12 } : Room) s m #[(.ref r0)] below meth c s₁ [] 0 0 := Stand.of_body Bd
  have e0 : s₁.heap = h0 := by rw [← hh, Bd.state]; rfl
  have N0 := Fr.nil n0
  have k0 : own_R p e below (s₁.setTop (entryFrame m #[(.ref r0)] 1)) (s₁.setTop (mkF m 0 #[.val (.ref r0)] [])) := fun t k => castTop (ef_3 m r0) k
  have ks1 : own_R p e below (s₁.setTop (entryFrame m #[(.ref r0)] 1)) (s₁.setTop (mkF m 1 #[.val (.ref r0)] [(.ref r0)])) := fun t k => k0 t (by
    show Steps p.tables e below (s₁.setTop (mkF m 0 #[.val (.ref r0)] [])) _
    refine XS.aloadN X0.here hx rfl (hb hby d3_0) rfl rfl ?_
    exact k)
  obtain ⟨T2, X2, e2, st2⟩ := initO X0 hx hZ hown (hw _ (List.mem_of_getElem? (i := 19) rfl)) (hw _ (List.mem_of_getElem? (i := 20) rfl)) (hw _ (List.mem_of_getElem? (i := 21) rfl)) e0 (g := (mkF m 1 #[.val (.ref r0)] [(.ref r0)])) rfl (by rw [hml]; rfl) rfl (hb hby d3_1) (by decide) (W := 0) (by show 2 * 0 + _ ≤ _; exact Nat.le_of_eq rfl) (by decide)
  have ks3 : own_R p e below (s₁.setTop (entryFrame m #[(.ref r0)] 1)) (T2.setTop (mkF m 4 #[.val (.ref r0)] [])) := fun t k => ks1 t (st2 t k)
  obtain ⟨fs, hr, hrun, hended, hW, hsame⟩ := X2.leave (v := none) (fun _ => rfl)
  refine ⟨_, _, ks3 _ ?_, hrun, hended, _, _, rfl, ?_, ⟨_, rfl⟩, hW, hsame.mono (by decide) (by decide)⟩
  · exact X2.returnOut hx Bd.returns (hb hby d3_4) hr
  · show Q3 Z r0 h0 n0 _ T2.heap _
    rw [e2]
    exact ⟨rfl, N0, rfl⟩
theorem d5_0 : decode jdk_31_method_11_code 0 = .ok (.aload_n 0, 1) := by decide +kernel
theorem d5_1 : decode jdk_31_method_11_code 1 = .ok (.ifnonnull 12, 3) := by decide +kernel
theorem d5_13 : decode jdk_31_method_11_code 13 = .ok (.aload_n 0, 1) := by decide +kernel
theorem d5_14 : decode jdk_31_method_11_code 14 = .ok (.areturn, 1) := by decide +kernel
theorem pn_5 : plainName "java/util/Objects" = true := by first | (simp [plainName, overriddenIn]; done) | decide +kernel
theorem ef_5 (m : MethodId) (x0 : Addr) (x1 : Addr) : entryFrame m #[(.ref x0), (.ref x1)] 2 = mkF m 0 #[.val (.ref x0), .val (.ref x1)] [] := by first | (simp [entryFrame, mkF, argsToLocals, Value.category]; done) | rfl
def Q5 (Z : State) (r0 : Addr) (r1 : Addr) (h0 : Heap) (n0 : Nat) (v : Option Value) (h : Heap) (L : List Loc) : Prop := v = some (.ref r0) ∧ Fr n0 L ∧ h = h0
set_option maxRecDepth 65536 in
set_option maxHeartbeats 40000000 in
theorem rm5 (l : Launch) (Z : State) (a0 : Array Value) (hw : ∀ d ∈ tables_1, d.before a0 Z = true) (ws : List Jvm.Cond) (r0 : Addr) (r1 : Addr) (h0 : Heap) (n0 : Nat) (Z0 : n0 ≤ h0.size) :
    MetFree l (⟨"java/util/Objects", "requireNonNull", "(Ljava/lang/Object;Ljava/lang/String;)Ljava/lang/Object;"⟩ : MethodName) (head1 (Jvm.Cond.code (⟨"java/util/Objects", "requireNonNull", "(Ljava/lang/Object;Ljava/lang/String;)Ljava/lang/Object;"⟩ : MethodName) jdk_31_method_11_code 2 (some (.object "java/lang/Object")) :: ws) ({ frames := 0, cells := 0, slots := 0, locals := 0 } : Room)) (fun a U => a = #[(.ref r0), (.ref r1)] ∧ Z.Warmed39 U.vm ∧ U.heap = h0) (fun _ _ _ _ _ => True) (fun _ U o U' => ∃ v L, o = .returned v ∧ Q5 Z r0 r1 h0 n0 v U'.heap L ∧ FrameEnd U o U' L ({ frames := 0, cells := 0, slots := 0, locals := 0 } : Room).cells ({ frames := 0, cells := 0, slots := 0, locals := 0 } : Room).slots) := by
  refine MetFree.of_bodySF (plainFor_of_name pn_5) hisR ?_
  intro p e s m args below meth c s₁ Bd hml0 hP hK
  obtain ⟨rfl, hZ, hh⟩ := hP
  have hx := Bd.exec
  have hby := Bd.bytes
  have hml : c.maxLocals = 2 := hml0
  have hown : s.vm.findClass "java/util/Objects" = some m.cls := findClass_of_methodNamed Bd.named
  have hnm := (name_of_methodNamed Bd.named Bd.method).1
  have X0 : Stand p l e ({ frames := 0, cells := 0, slots := 0, locals := 0 } : Room) s m #[(.ref r0), (.ref r1)] below meth c s₁ [] 0 0 := Stand.of_body Bd
  have e0 : s₁.heap = h0 := by rw [← hh, Bd.state]; rfl
  have N0 := Fr.nil n0
  have k0 : own_R p e below (s₁.setTop (entryFrame m #[(.ref r0), (.ref r1)] 2)) (s₁.setTop (mkF m 0 #[.val (.ref r0), .val (.ref r1)] [])) := fun t k => castTop (ef_5 m r0 r1) k
  have ks1 : own_R p e below (s₁.setTop (entryFrame m #[(.ref r0), (.ref r1)] 2)) (s₁.setTop (mkF m 14 #[.val (.ref r0), .val (.ref r1)] [(.ref r0)])) := fun t k => k0 t (by
    show Steps p.tables e below (s₁.setTop (mkF m 0 #[.val (.ref r0), .val (.ref r1)] [])) _
    refine XS.aloadN X0.here hx rfl (hb hby d5_0) rfl rfl ?_
    show Steps p.tables e below (s₁.setTop (mkF m 1 #[.val (.ref r0), .val (.ref r1)] [(.ref r0)])) _
    refine XS.ifnonnullYes X0.here hx rfl (pc0 := 1) (pc' := 13) rfl (hb hby d5_1) rfl (by decide) (by decide) ?_
    show Steps p.tables e below (s₁.setTop (mkF m 13 #[.val (.ref r0), .val (.ref r1)] [])) _
    refine XS.aloadN X0.here hx rfl (hb hby d5_13) rfl rfl ?_
    exact k)
  obtain ⟨fs, hr, hrun, hended, hW, hsame⟩ := X0.leave (v := some (.ref r0)) (fun h => by rw [Bd.returns] at h; cases h)
  refine ⟨_, _, ks1 _ ?_, hrun, hended, _, _, rfl, ?_, ⟨_, rfl⟩, hW, hsame.mono (by decide) (by decide)⟩
  · exact retOut X0 hx Bd.returns rfl (Or.inr (Or.inr (Or.inr (Or.inr ⟨rfl, rfl, rfl⟩)))) (hb hby d5_14) hr
  · show Q5 Z r0 r1 h0 n0 _ s₁.heap _
    rw [e0]
    exact ⟨rfl, N0, rfl⟩
theorem d2_0 : decode prog_68_method_1_code 0 = .ok (.aload_n 0, 1) := by decide +kernel
theorem d2_1 : decode prog_68_method_1_code 1 = .ok (.invokespecial 1, 3) := by decide +kernel
theorem d2_4 : decode prog_68_method_1_code 4 = .ok (.aload_n 1, 1) := by decide +kernel
theorem d2_5 : decode prog_68_method_1_code 5 = .ok (.ldc 7, 2) := by decide +kernel
theorem d2_7 : decode prog_68_method_1_code 7 = .ok (.invokestatic 9, 3) := by decide +kernel
theorem d2_10 : decode prog_68_method_1_code 10 = .ok (.pop, 1) := by decide +kernel
theorem d2_11 : decode prog_68_method_1_code 11 = .ok (.aload_n 0, 1) := by decide +kernel
theorem d2_12 : decode prog_68_method_1_code 12 = .ok (.aload_n 1, 1) := by decide +kernel
theorem d2_13 : decode prog_68_method_1_code 13 = .ok (.putfield 15, 3) := by decide +kernel
theorem d2_16 : decode prog_68_method_1_code 16 = .ok (.return_, 1) := by decide +kernel
theorem pn_2 : plainName "com/example/nodeward/nodeward/model/ConditionalDecision$Settled" = true := by first | (simp [plainName, overriddenIn]; done) | decide +kernel
theorem pd_2 : parseMethodDescriptor "()V" = some ⟨[], none⟩ := by decide +kernel
theorem pd_3 : parseMethodDescriptor "(Ljava/lang/Object;Ljava/lang/String;)Ljava/lang/Object;" = some ⟨[(.object "java/lang/Object"), (.object "java/lang/String")], some (.object "java/lang/Object")⟩ := by decide +kernel
theorem ef_2 (m : MethodId) (x0 : Addr) (x1 : Addr) : entryFrame m #[(.ref x0), (.ref x1)] 2 = mkF m 0 #[.val (.ref x0), .val (.ref x1)] [] := by first | (simp [entryFrame, mkF, argsToLocals, Value.category]; done) | rfl
def Q2 (Z : State) (r0 : Addr) (r1 : Addr) (h0 : Heap) (n0 : Nat) (v : Option Value) (h : Heap) (L : List Loc) : Prop := v = none ∧ Fr n0 L ∧ Keep h0 h [r0] ∧ Exa Z h r0 "com/example/nodeward/nodeward/model/ConditionalDecision$Settled" ∧ Fld Z h r0 "com/example/nodeward/nodeward/model/ConditionalDecision$Settled" "extended" "Lcom/example/nodeward/nodeward/model/ExtendedDecision;" (.ref r1)
set_option maxRecDepth 65536 in
set_option maxHeartbeats 40000000 in
theorem rm2 (l : Launch) (Z : State) (a0 : Array Value) (hw : ∀ d ∈ tables_1, d.before a0 Z = true) (ws : List Jvm.Cond) (r0 : Addr) (r1 : Addr) (h0 : Heap) (n0 : Nat) (Z0 : n0 ≤ h0.size) (g_r0 : n0 ≤ r0) (E0 : Exa Z h0 r0 "com/example/nodeward/nodeward/model/ConditionalDecision$Settled") (F0 : Fld Z h0 r0 "com/example/nodeward/nodeward/model/ConditionalDecision$Settled" "extended" "Lcom/example/nodeward/nodeward/model/ExtendedDecision;" .null) :
    MetFree l (⟨"com/example/nodeward/nodeward/model/ConditionalDecision$Settled", "<init>", "(Lcom/example/nodeward/nodeward/model/ExtendedDecision;)V"⟩ : MethodName) (head1 (Jvm.Cond.code (⟨"com/example/nodeward/nodeward/model/ConditionalDecision$Settled", "<init>", "(Lcom/example/nodeward/nodeward/model/ExtendedDecision;)V"⟩ : MethodName) prog_68_method_1_code 2 none :: ws) ({ frames := 2, cells := 2, slots := 36, locals := 24 } : Room)) (fun a U => a = #[(.ref r0), (.ref r1)] ∧ Z.Warmed39 U.vm ∧ U.heap = h0) (fun _ _ _ _ _ => True) (fun _ U o U' => ∃ v L, o = .returned v ∧ Q2 Z r0 r1 h0 n0 v U'.heap L ∧ ReturnedEndW U o U' L ({ frames := 2, cells := 2, slots := 36, locals := 24 } : Room).cells ({ frames := 2, cells := 2, slots := 36, locals := 24 } : Room).slots) := by
  refine MetFree.of_bodySF (plainFor_of_name pn_2) hisR ?_
  intro p e s m args below meth c s₁ Bd hml0 hP hK
  obtain ⟨rfl, hZ, hh⟩ := hP
  have hx := Bd.exec
  have hby := Bd.bytes
  have hml : c.maxLocals = 2 := hml0
  have hown : s.vm.findClass "com/example/nodeward/nodeward/model/ConditionalDecision$Settled" = some m.cls := findClass_of_methodNamed Bd.named
  have hnm := (name_of_methodNamed Bd.named Bd.method).1
  have X0 : Stand p l e ({ frames := 2, cells := 2, slots := 36, locals := 24 } : Room) s m #[(.ref r0), (.ref r1)] below meth c s₁ [] 0 0 := Stand.of_body Bd
  have e0 : s₁.heap = h0 := by rw [← hh, Bd.state]; rfl
  have N0 := Fr.nil n0
  have hS0 : s.Since s.vm s.heap.size := (State.WarmedH.refl s).since _
  have hk0 : s.heap.size ≤ h0.size := by rw [hh]; exact Nat.le_refl _
  have X0 : Stand p l e ({ frames := 2, cells := 2, slots := 36, locals := 24 } : Room) (s.setVm s.vm) m #[(.ref r0), (.ref r1)] below meth c s₁ [] 0 0 := X0
  have hZ : Z.Warmed39 (s.setVm s.vm).vm := hZ
  have hown : (s.setVm s.vm).vm.findClass "com/example/nodeward/nodeward/model/ConditionalDecision$Settled" = some m.cls := hown
  have k0 : own_R p e below (s₁.setTop (entryFrame m #[(.ref r0), (.ref r1)] 2)) (s₁.setTop (mkF m 0 #[.val (.ref r0), .val (.ref r1)] [])) := fun t k => castTop (ef_2 m r0 r1) k
  have ks1 : own_R p e below (s₁.setTop (entryFrame m #[(.ref r0), (.ref r1)] 2)) (s₁.setTop (mkF m 1 #[.val (.ref r0), .val (.ref r1)] [(.ref r0)])) := fun t k => k0 t (by
    show Steps p.tables e below (s₁.setTop (mkF m 0 #[.val (.ref r0), .val (.ref r1)] [])) _
    refine XS.aloadN X0.here hx rfl (hb hby d2_0) rfl rfl ?_
    exact k)
  obtain ⟨_, _, ⟨T2, L2, k2, n2⟩, -, X2, ⟨Lc2, hQ2, lq2, yq2, zq2⟩, st2⟩ := X0.specialBack hx (y := (⟨"java/lang/Record", "<init>", "()V"⟩ : MethodName)) rfl hown (mvT hZ (hw _ (List.mem_of_getElem? (i := 14) rfl))) (mvT hZ (hw _ (List.mem_of_getElem? (i := 15) rfl))) (mvT hZ (hw _ (List.mem_of_getElem? (i := 18) rfl))) (by decide) (backOf (W := 0) (rm3 l Z a0 hw [] r0 h0 n0 Z0 ) hZ (hw _ (List.mem_of_getElem? (i := 18) rfl)) (hw _ (List.mem_of_getElem? (i := 17) rfl)) (by decide) (by decide)) (g := (mkF m 1 #[.val (.ref r0), .val (.ref r1)] [(.ref r0)])) rfl (by rw [hml]; rfl) (Steps.refl _) (a := r0) (argsL := []) (rest := []) (lenOf pd_2 rfl) rfl (by show 2 * 0 + _ ≤ _; exact Nat.le_of_eq rfl) (hb hby d2_1) (fun _ _ => ⟨rfl, e0, (by decide : 0 + 0 ≤ _), (by decide : 0 + 0 ≤ _)⟩)
  dsimp only [Pt.U, Pt.locs, Pt.cells, Pt.slots] at X2 lq2 yq2 zq2 st2 hQ2
  subst lq2 yq2 zq2
  obtain ⟨rfl, Nq2, eq2⟩ := hQ2
  have N2 := Fr.app N0 Nq2
  have ks3 : own_R p e below (s₁.setTop (entryFrame m #[(.ref r0), (.ref r1)] 2)) (T2.setTop (mkF m 4 #[.val (.ref r0), .val (.ref r1)] [])) := fun t k => ks1 t (st2.trans k)
  have ks4 : own_R p e below (s₁.setTop (entryFrame m #[(.ref r0), (.ref r1)] 2)) (T2.setTop (mkF m 5 #[.val (.ref r0), .val (.ref r1)] [(.ref r1)])) := fun t k => ks3 t (by
    show Steps p.tables e below (T2.setTop (mkF m 4 #[.val (.ref r0), .val (.ref r1)] [])) _
    refine XS.aloadN X2.here hx rfl (hb hby d2_4) rfl rfl ?_
    exact k)
  obtain ⟨a5, T5, h5, kk5, X5, e5, E5, hS5, hk5, hZ, hown, st5⟩ := ldcS X2 hx hZ hown (hw _ (List.mem_of_getElem? (i := 22) rfl)) (own_strs hw) eq2 hS0 hk0 (g := (mkF m 5 #[.val (.ref r0), .val (.ref r1)] [(.ref r1)])) rfl (hb hby d2_5) (n := 32) (by decide) (by decide) (by decide) (by decide)
  have KH5 : Keep h0 h5 [r0] := (Keep.refl h0 [r0]).ext E5
  have Zn5 : n0 ≤ h5.size := Nat.le_trans Z0 E5.1
  have ks6 : own_R p e below (s₁.setTop (entryFrame m #[(.ref r0), (.ref r1)] 2)) (T5.setTop (mkF m 7 #[.val (.ref r0), .val (.ref r1)] [(.ref a5), (.ref r1)])) := fun t k => ks4 t (st5 t k)
  obtain ⟨_, _, ⟨T7, L7, k7, n7⟩, -, X7, ⟨Lc7, hQ7, lq7, yq7, zq7⟩, st7⟩ := Jvm.LawKit.callS X5 hx (y := (⟨"java/util/Objects", "requireNonNull", "(Ljava/lang/Object;Ljava/lang/String;)Ljava/lang/Object;"⟩ : MethodName)) hown (mvT hZ (hw _ (List.mem_of_getElem? (i := 30) rfl))) (mvT hZ (hw _ (List.mem_of_getElem? (i := 31) rfl))) (mvT hZ (hw _ (List.mem_of_getElem? (i := 32) rfl))) (mvT hZ (hw _ (List.mem_of_getElem? (i := 33) rfl))) (by decide) (backOf (W := 0) (rm5 l Z a0 hw [] r1 a5 h5 n0 Zn5 ) hZ (hw _ (List.mem_of_getElem? (i := 33) rfl)) (hw _ (List.mem_of_getElem? (i := 32) rfl)) (by decide) (by decide)) (g := (mkF m 7 #[.val (.ref r0), .val (.ref r1)] [(.ref a5), (.ref r1)])) rfl (by rw [hml]; rfl) (argsL := [(.ref r1), (.ref a5)]) (rest := []) (lenOf pd_3 rfl) rfl (by show 2 * 0 + _ ≤ _; exact Nat.le_of_eq rfl) (hb hby d2_7) (fun _ _ => ⟨rfl, e5, (by decide : 2 + 0 ≤ _), (by decide : 36 + 0 ≤ _)⟩)
  dsimp only [Pt.U, Pt.locs, Pt.cells, Pt.slots] at X7 lq7 yq7 zq7 st7 hQ7
  subst lq7 yq7 zq7
  obtain ⟨rfl, Nq7, eq7⟩ := hQ7
  have N7 := Fr.app N2 Nq7
  have ks8 : own_R p e below (s₁.setTop (entryFrame m #[(.ref r0), (.ref r1)] 2)) (T7.setTop (mkF m 10 #[.val (.ref r0), .val (.ref r1)] [(.ref r1)])) := fun t k => ks6 t (st7 t k)
  have ks9 : own_R p e below (s₁.setTop (entryFrame m #[(.ref r0), (.ref r1)] 2)) (T7.setTop (mkF m 13 #[.val (.ref r0), .val (.ref r1)] [(.ref r1), (.ref r0)])) := fun t k => ks8 t (by
    show Steps p.tables e below (T7.setTop (mkF m 10 #[.val (.ref r0), .val (.ref r1)] [(.ref r1)])) _
    refine XS.pop X7.here hx rfl (hb hby d2_10) rfl rfl ?_
    show Steps p.tables e below (T7.setTop (mkF m 11 #[.val (.ref r0), .val (.ref r1)] [])) _
    refine XS.aloadN X7.here hx rfl (hb hby d2_11) rfl rfl ?_
    show Steps p.tables e below (T7.setTop (mkF m 12 #[.val (.ref r0), .val (.ref r1)] [(.ref r0)])) _
    refine XS.aloadN X7.here hx rfl (hb hby d2_12) rfl rfl ?_
    exact k)
  have f10 := E0.keep KH5
  have f11 := (F0.ext E5)
  obtain ⟨T12, h12, X12, e12, W12, st12⟩ := putF X7 hx hZ hown (host := "") (Or.inl (hw _ (List.mem_of_getElem? (i := 34) rfl))) Via.refl eq7 f11 f10 (Or.inr ⟨(hw _ (List.mem_of_getElem? (i := 35) rfl)), rfl, hnm⟩) (hw _ (List.mem_of_getElem? (i := 2) rfl)) (ty := (.object "com/example/nodeward/nodeward/model/ExtendedDecision")) (by decide) rfl rfl (g := (mkF m 13 #[.val (.ref r0), .val (.ref r1)] [(.ref r1), (.ref r0)])) rfl rfl (hb hby d2_13)
  have Fw12 := f11.same W12
  have KH12 : Keep h0 h12 [r0] := KH5.wr W12 (Or.inl (List.mem_of_getElem? (i := 0) rfl))
  have Zn12 : n0 ≤ h12.size := Nat.le_trans Zn5 (Keep.of_wr W12).1
  have hk12 := Nat.le_trans hk5 (Keep.of_wr W12).1
  have N12 := Fr.snoc X12 N7 g_r0
  have ks13 : own_R p e below (s₁.setTop (entryFrame m #[(.ref r0), (.ref r1)] 2)) (T12.setTop (mkF m 16 #[.val (.ref r0), .val (.ref r1)] [])) := fun t k => ks9 t (st12 t k)
  obtain ⟨fs, hr, hrun, hended, hEnd⟩ := X12.leaveW hS5 (by rw [e12]; exact hk12) (v := none) (fun _ => rfl)
  refine ⟨_, _, ks13 _ ?_, hrun, hended, _, _, rfl, ?_, hEnd.1, hEnd.2.1, hEnd.2.2.1, hEnd.2.2.2.mono (by decide) (by decide)⟩
  · exact X12.returnOut hx Bd.returns (hb hby d2_16) hr
  · show Q2 Z r0 r1 h0 n0 _ T12.heap _
    rw [e12]
    have f14 := E0.keep KH12
    exact ⟨rfl, N12, KH12, f14, Fw12⟩
theorem d7_0 : decode jdk_33_method_22_code 0 = .ok (.iload_n 0, 1) := by decide +kernel
theorem d7_1 : decode jdk_33_method_22_code 1 = .ok (.bipush (-128), 2) := by decide +kernel
theorem d7_3 : decode jdk_33_method_22_code 3 = .ok (.if_icmp .lt 20, 3) := by decide +kernel
theorem d7_6 : decode jdk_33_method_22_code 6 = .ok (.iload_n 0, 1) := by decide +kernel
theorem d7_7 : decode jdk_33_method_22_code 7 = .ok (.getstatic 191, 3) := by decide +kernel
theorem d7_10 : decode jdk_33_method_22_code 10 = .ok (.if_icmp .gt 13, 3) := by decide +kernel
theorem d7_13 : decode jdk_33_method_22_code 13 = .ok (.getstatic 195, 3) := by decide +kernel
theorem d7_16 : decode jdk_33_method_22_code 16 = .ok (.iload_n 0, 1) := by decide +kernel
theorem d7_17 : decode jdk_33_method_22_code 17 = .ok (.sipush 128, 3) := by decide +kernel
theorem d7_20 : decode jdk_33_method_22_code 20 = .ok (.iadd, 1) := by decide +kernel
theorem d7_21 : decode jdk_33_method_22_code 21 = .ok (.aaload, 1) := by decide +kernel
theorem d7_22 : decode jdk_33_method_22_code 22 = .ok (.areturn, 1) := by decide +kernel
theorem pn_7 : plainName "java/lang/Integer" = true := by first | (simp [plainName, overriddenIn]; done) | decide +kernel
theorem ef_7 (m : MethodId) (x0 : Int32) : entryFrame m #[(.int x0)] 1 = mkF m 0 #[.val (.int x0)] [] := by first | (simp [entryFrame, mkF, argsToLocals, Value.category]; done) | rfl
def Q7 (Z : State) (p0 : Int32) (u1 : Addr) (cl1 : Cell) (h0 : Heap) (n0 : Nat) (v : Option Value) (h : Heap) (L : List Loc) : Prop := ∃ b : Addr, v = some (.ref b) ∧ Fr n0 L ∧ h = h0 ∧ Exa Z h b "java/lang/Integer"
set_option maxRecDepth 65536 in
set_option maxHeartbeats 40000000 in
theorem rm7 (l : Launch) (Z : State) (a0 : Array Value) (hw : ∀ d ∈ tables_1, d.before a0 Z = true) (ws : List Jvm.Cond) (p0 : Int32) (u1 : Addr) (cl1 : Cell) (h0 : Heap) (n0 : Nat) (Z0 : n0 ≤ h0.size) (hp : ¬ p0 < (-128 : Int32) ∧ ¬ (127 : Int32) < p0) (O0 : Old Z n0 h0) (S0 : Sta Z h0 "java/lang/Integer$IntegerCache" "high" "I" (.int (127 : Int32))) (S1 : Sta Z h0 "java/lang/Integer$IntegerCache" "cache" "[Ljava/lang/Integer;" (.ref u1)) (A1 : Arr Z h0 u1 cl1 (.object "java/lang/Integer")) (hs1 : cl1.slots.size = 256) (B1 : own_box Z cl1 "java/lang/Integer") :
    MetFree l (⟨"java/lang/Integer", "valueOf", "(I)Ljava/lang/Integer;"⟩ : MethodName) (head1 (Jvm.Cond.code (⟨"java/lang/Integer", "valueOf", "(I)Ljava/lang/Integer;"⟩ : MethodName) jdk_33_method_22_code 1 (some (.object "java/lang/Integer")) :: ws) ({ frames := 0, cells := 0, slots := 0, locals := 0 } : Room)) (fun a U => a = #[(.int p0)] ∧ Z.Warmed39 U.vm ∧ U.heap = h0) (fun _ _ _ _ _ => True) (fun _ U o U' => ∃ v L, o = .returned v ∧ Q7 Z p0 u1 cl1 h0 n0 v U'.heap L ∧ FrameEnd U o U' L ({ frames := 0, cells := 0, slots := 0, locals := 0 } : Room).cells ({ frames := 0, cells := 0, slots := 0, locals := 0 } : Room).slots) := by
  refine MetFree.of_bodySF (plainFor_of_name pn_7) hisR ?_
  intro p e s m args below meth c s₁ Bd hml0 hP hK
  obtain ⟨rfl, hZ, hh⟩ := hP
  have hx := Bd.exec
  have hby := Bd.bytes
  have hml : c.maxLocals = 1 := hml0
  have hown : s.vm.findClass "java/lang/Integer" = some m.cls := findClass_of_methodNamed Bd.named
  have hnm := (name_of_methodNamed Bd.named Bd.method).1
  have X0 : Stand p l e ({ frames := 0, cells := 0, slots := 0, locals := 0 } : Room) s m #[(.int p0)] below meth c s₁ [] 0 0 := Stand.of_body Bd
  have e0 : s₁.heap = h0 := by rw [← hh, Bd.state]; rfl
  have N0 := Fr.nil n0
  have k0 : own_R p e below (s₁.setTop (entryFrame m #[(.int p0)] 1)) (s₁.setTop (mkF m 0 #[.val (.int p0)] [])) := fun t k => castTop (ef_7 m p0) k
  have ks1 : own_R p e below (s₁.setTop (entryFrame m #[(.int p0)] 1)) (s₁.setTop (mkF m 7 #[.val (.int p0)] [(.int p0)])) := fun t k => k0 t (by
    show Steps p.tables e below (s₁.setTop (mkF m 0 #[.val (.int p0)] [])) _
    refine XS.iloadN X0.here hx rfl (hb hby d7_0) rfl ?_
    show Steps p.tables e below (s₁.setTop (mkF m 1 #[.val (.int p0)] [(.int p0)])) _
    refine XS.bipush X0.here hx rfl (hb hby d7_1) ?_
    show Steps p.tables e below (s₁.setTop (mkF m 3 #[.val (.int p0)] [(.int (-128 : Int32)), (.int p0)])) _
    refine XS.icmpNo X0.here hx rfl (hb hby d7_3) rfl (flt hp.1).1 ?_
    show Steps p.tables e below (s₁.setTop (mkF m 6 #[.val (.int p0)] [])) _
    refine XS.iloadN X0.here hx rfl (hb hby d7_6) rfl ?_
    exact k)
  obtain ⟨T2, X2, e2, st2⟩ := getS2 X0 hx hZ hown (host := "") (Or.inl (hw _ (List.mem_of_getElem? (i := 53) rfl))) Via.refl e0 S0 (g := (mkF m 7 #[.val (.int p0)] [(.int p0)])) rfl (hb hby d7_7)
  have ks3 : own_R p e below (s₁.setTop (entryFrame m #[(.int p0)] 1)) (T2.setTop (mkF m 10 #[.val (.int p0)] [(.int (127 : Int32)), (.int p0)])) := fun t k => ks1 t (st2 t k)
  have ks4 : own_R p e below (s₁.setTop (entryFrame m #[(.int p0)] 1)) (T2.setTop (mkF m 13 #[.val (.int p0)] [])) := fun t k => ks3 t (by
    show Steps p.tables e below (T2.setTop (mkF m 10 #[.val (.int p0)] [(.int (127 : Int32)), (.int p0)])) _
    refine XS.icmpNo X2.here hx rfl (hb hby d7_10) rfl (flt hp.2).2.2.1 ?_
    exact k)
  obtain ⟨T5, X5, e5, st5⟩ := getS2 X2 hx hZ hown (host := "") (Or.inl (hw _ (List.mem_of_getElem? (i := 55) rfl))) Via.refl e2 S1 (g := (mkF m 13 #[.val (.int p0)] [])) rfl (hb hby d7_13)
  have ks6 : own_R p e below (s₁.setTop (entryFrame m #[(.int p0)] 1)) (T5.setTop (mkF m 16 #[.val (.int p0)] [(.ref u1)])) := fun t k => ks4 t (st5 t k)
  have ks7 : own_R p e below (s₁.setTop (entryFrame m #[(.int p0)] 1)) (T5.setTop (mkF m 21 #[.val (.int p0)] [(.int (p0 + (128 : Int32))), (.ref u1)])) := fun t k => ks6 t (by
    show Steps p.tables e below (T5.setTop (mkF m 16 #[.val (.int p0)] [(.ref u1)])) _
    refine XS.iloadN X5.here hx rfl (hb hby d7_16) rfl ?_
    show Steps p.tables e below (T5.setTop (mkF m 17 #[.val (.int p0)] [(.int p0), (.ref u1)])) _
    refine XS.sipush X5.here hx rfl (hb hby d7_17) ?_
    show Steps p.tables e below (T5.setTop (mkF m 20 #[.val (.int p0)] [(.int (128 : Int32)), (.int p0), (.ref u1)])) _
    refine XS.iadd X5.here hx rfl (hb hby d7_20) rfl ?_
    exact k)
  have hin8 := (Jvm.Free.IntBox.place_ok p0 hp.1 hp.2).1
  obtain ⟨b8, hat8, Eb8⟩ := B1 _ hin8
  have Ec8 := Eb8.ext O0.2
  have hin8' : ¬ (((p0 + (128 : Int32))) < 0 ∨ cl1.slots.size ≤ ((p0 + (128 : Int32))).toNatClampNeg) := by rw [hs1]; exact hin8
  have ks9 : own_R p e below (s₁.setTop (entryFrame m #[(.int p0)] 1)) (T5.setTop (mkF m 22 #[.val (.int p0)] [(.ref b8)])) := fun t k => ks7 t (by
    show Steps p.tables e below (T5.setTop (mkF m 21 #[.val (.int p0)] [(.int (p0 + (128 : Int32))), (.ref u1)])) _
    refine X5.aaload hx (j := (p0 + (128 : Int32))) (v := (.ref b8)) (by rw [e5]; exact A1.1) (State.isArrayOf_alike hZ.alike A1.2.1) rfl A1.2.2 hin8' hat8 (g := (mkF m 21 #[.val (.int p0)] [(.int (p0 + (128 : Int32))), (.ref u1)])) rfl rfl (hb hby d7_21) _ ?_
    exact k)
  obtain ⟨fs, hr, hrun, hended, hW, hsame⟩ := X5.leave (v := some (.ref b8)) (fun h => by rw [Bd.returns] at h; cases h)
  refine ⟨_, _, ks9 _ ?_, hrun, hended, _, _, rfl, ?_, ⟨_, rfl⟩, hW, hsame.mono (by decide) (by decide)⟩
  · exact retOut X5 hx Bd.returns rfl (Or.inr (Or.inr (Or.inr (Or.inr ⟨rfl, rfl, rfl⟩)))) (hb hby d7_22) hr
  · show Q7 Z p0 u1 cl1 h0 n0 _ T5.heap _
    rw [e5]
    exact ⟨b8, rfl, N0, rfl, Ec8⟩
theorem d6_0 : decode prog_68_method_5_code 0 = .ok (.aload_n 1, 1) := by decide +kernel
theorem d6_1 : decode prog_68_method_5_code 1 = .ok (.instanceof 16, 3) := by decide +kernel
theorem d6_4 : decode prog_68_method_5_code 4 = .ok (.ifCond .eq 21, 3) := by decide +kernel
theorem d6_25 : decode prog_68_method_5_code 25 = .ok (.iconst 0, 1) := by decide +kernel
theorem d6_26 : decode prog_68_method_5_code 26 = .ok (.ireturn, 1) := by decide +kernel
theorem pn_6 : plainName "com/example/nodeward/nodeward/model/ConditionalDecision$Settled" = true := by first | (simp [plainName, overriddenIn]; done) | decide +kernel
theorem ef_6n (m : MethodId) (x0 : Addr) : entryFrame m #[(.ref x0), .null] 2 = mkF m 0 #[.val (.ref x0), .val .null] [] := by first | (simp [entryFrame, mkF, argsToLocals, Value.category]; done) | rfl
def Q6n (Z : State) (r0 : Addr) (h0 : Heap) (n0 : Nat) (v : Option Value) (h : Heap) (L : List Loc) : Prop := v = some (.int (0 : Int32)) ∧ Fr n0 L ∧ h = h0
set_option maxRecDepth 65536 in
set_option maxHeartbeats 40000000 in
theorem rm6n (l : Launch) (Z : State) (a0 : Array Value) (hw : ∀ d ∈ tables_1, d.before a0 Z = true) (ws : List Jvm.Cond) (r0 : Addr) (h0 : Heap) (n0 : Nat) (Z0 : n0 ≤ h0.size) :
    MetFree l (⟨"com/example/nodeward/nodeward/model/ConditionalDecision$Settled", "equals", "(Ljava/lang/Object;)Z"⟩ : MethodName) (head1 (Jvm.Cond.code (⟨"com/example/nodeward/nodeward/model/ConditionalDecision$Settled", "equals", "(Ljava/lang/Object;)Z"⟩ : MethodName) prog_68_method_5_code 2 (some .boolean) :: ws) ({ frames := 0, cells := 0, slots := 0, locals := 0 } : Room)) (fun a U => a = #[(.ref r0), .null] ∧ Z.Warmed39 U.vm ∧ U.heap = h0) (fun _ _ _ _ _ => True) (fun _ U o U' => ∃ v L, o = .returned v ∧ Q6n Z r0 h0 n0 v U'.heap L ∧ FrameEnd U o U' L ({ frames := 0, cells := 0, slots := 0, locals := 0 } : Room).cells ({ frames := 0, cells := 0, slots := 0, locals := 0 } : Room).slots) := by
  refine MetFree.of_bodySF (plainFor_of_name pn_6) hisR ?_
  intro p e s m args below meth c s₁ Bd hml0 hP hK
  obtain ⟨rfl, hZ, hh⟩ := hP
  have hx := Bd.exec
  have hby := Bd.bytes
  have hml : c.maxLocals = 2 := hml0
  have hown : s.vm.findClass "com/example/nodeward/nodeward/model/ConditionalDecision$Settled" = some m.cls := findClass_of_methodNamed Bd.named
  have hnm := (name_of_methodNamed Bd.named Bd.method).1
  have X0 : Stand p l e ({ frames := 0, cells := 0, slots := 0, locals := 0 } : Room) s m #[(.ref r0), .null] below meth c s₁ [] 0 0 := Stand.of_body Bd
  have e0 : s₁.heap = h0 := by rw [← hh, Bd.state]; rfl
  have N0 := Fr.nil n0
  have k0 : own_R p e below (s₁.setTop (entryFrame m #[(.ref r0), .null] 2)) (s₁.setTop (mkF m 0 #[.val (.ref r0), .val .null] [])) := fun t k => castTop (ef_6n m r0) k
  have ks1 : own_R p e below (s₁.setTop (entryFrame m #[(.ref r0), .null] 2)) (s₁.setTop (mkF m 1 #[.val (.ref r0), .val .null] [.null])) := fun t k => k0 t (by
    show Steps p.tables e below (s₁.setTop (mkF m 0 #[.val (.ref r0), .val .null] [])) _
    refine XS.aloadN X0.here hx rfl (hb hby d6_0) rfl rfl ?_
    exact k)
  have ks2 : own_R p e below (s₁.setTop (entryFrame m #[(.ref r0), .null] 2)) (s₁.setTop (mkF m 26 #[.val (.ref r0), .val .null] [(.int (0 : Int32))])) := fun t k => ks1 t (by
    show Steps p.tables e below (s₁.setTop (mkF m 1 #[.val (.ref r0), .val .null] [.null])) _
    refine X0.instanceofNull hx (g := (mkF m 1 #[.val (.ref r0), .val .null] [.null])) rfl rfl (hb hby d6_1) _ ?_
    show Steps p.tables e below (s₁.setTop (mkF m 4 #[.val (.ref r0), .val .null] [(.int (0 : Int32))])) _
    refine XS.ifYes X0.here hx rfl (pc0 := 4) (pc' := 25) rfl (hb hby d6_4) rfl ((if0 _ _).trans (teq (by decide)).1) (by decide) (by decide) ?_
    show Steps p.tables e below (s₁.setTop (mkF m 25 #[.val (.ref r0), .val .null] [])) _
    refine XS.iconst X0.here hx rfl (hb hby d6_25) ?_
    exact k)
  obtain ⟨fs, hr, hrun, hended, hW, hsame⟩ := X0.leave (v := some (.int (0 : Int32))) (fun h => by rw [Bd.returns] at h; cases h)
  refine ⟨_, _, ks2 _ ?_, hrun, hended, _, _, rfl, ?_, ⟨_, rfl⟩, hW, hsame.mono (by decide) (by decide)⟩
  · exact retN X0 hx (t := .boolean) Bd.returns (by simp) (hb hby d6_26) hr
  · show Q6n Z r0 h0 n0 _ s₁.heap _
    rw [e0]
    exact ⟨rfl, N0, rfl⟩
theorem ef_6e (m : MethodId) (x0 : Addr) (x1 : Addr) : entryFrame m #[(.ref x0), (.ref x1)] 2 = mkF m 0 #[.val (.ref x0), .val (.ref x1)] [] := by first | (simp [entryFrame, mkF, argsToLocals, Value.category]; done) | rfl
def Q6e (Z : State) (r0 : Addr) (r1 : Addr) (h0 : Heap) (n0 : Nat) (v : Option Value) (h : Heap) (L : List Loc) : Prop := v = some (.int (0 : Int32)) ∧ Fr n0 L ∧ h = h0
set_option maxRecDepth 65536 in
set_option maxHeartbeats 40000000 in
theorem rm6e (l : Launch) (Z : State) (a0 : Array Value) (hw : ∀ d ∈ tables_1, d.before a0 Z = true) (ws : List Jvm.Cond) (r0 : Addr) (r1 : Addr) (h0 : Heap) (n0 : Nat) (Z0 : n0 ≤ h0.size) (E1 : Exa Z h0 r1 "com/example/nodeward/nodeward/model/ExtendedDecision") (NL : ∃ c t, Z.vm.findClass "com/example/nodeward/nodeward/model/ExtendedDecision" = some c ∧ Z.vm.findClass "com/example/nodeward/nodeward/model/ConditionalDecision$Settled" = some t ∧ Z.vm.assignable c t = false) :
    MetFree l (⟨"com/example/nodeward/nodeward/model/ConditionalDecision$Settled", "equals", "(Ljava/lang/Object;)Z"⟩ : MethodName) (head1 (Jvm.Cond.code (⟨"com/example/nodeward/nodeward/model/ConditionalDecision$Settled", "equals", "(Ljava/lang/Object;)Z"⟩ : MethodName) prog_68_method_5_code 2 (some .boolean) :: ws) ({ frames := 0, cells := 0, slots := 0, locals := 0 } : Room)) (fun a U => a = #[(.ref r0), (.ref r1)] ∧ Z.Warmed39 U.vm ∧ U.heap = h0) (fun _ _ _ _ _ => True) (fun _ U o U' => ∃ v L, o = .returned v ∧ Q6e Z r0 r1 h0 n0 v U'.heap L ∧ FrameEnd U o U' L ({ frames := 0, cells := 0, slots := 0, locals := 0 } : Room).cells ({ frames := 0, cells := 0, slots := 0, locals := 0 } : Room).slots) := by
  refine MetFree.of_bodySF (plainFor_of_name pn_6) hisR ?_
  intro p e s m args below meth c s₁ Bd hml0 hP hK
  obtain ⟨rfl, hZ, hh⟩ := hP
  have hx := Bd.exec
  have hby := Bd.bytes
  have hml : c.maxLocals = 2 := hml0
  have hown : s.vm.findClass "com/example/nodeward/nodeward/model/ConditionalDecision$Settled" = some m.cls := findClass_of_methodNamed Bd.named
  have hnm := (name_of_methodNamed Bd.named Bd.method).1
  have X0 : Stand p l e ({ frames := 0, cells := 0, slots := 0, locals := 0 } : Room) s m #[(.ref r0), (.ref r1)] below meth c s₁ [] 0 0 := Stand.of_body Bd
  have e0 : s₁.heap = h0 := by rw [← hh, Bd.state]; rfl
  have N0 := Fr.nil n0
  have k0 : own_R p e below (s₁.setTop (entryFrame m #[(.ref r0), (.ref r1)] 2)) (s₁.setTop (mkF m 0 #[.val (.ref r0), .val (.ref r1)] [])) := fun t k => castTop (ef_6e m r0 r1) k
  have ks1 : own_R p e below (s₁.setTop (entryFrame m #[(.ref r0), (.ref r1)] 2)) (s₁.setTop (mkF m 1 #[.val (.ref r0), .val (.ref r1)] [(.ref r1)])) := fun t k => k0 t (by
    show Steps p.tables e below (s₁.setTop (mkF m 0 #[.val (.ref r0), .val (.ref r1)] [])) _
    refine XS.aloadN X0.here hx rfl (hb hby d6_0) rfl rfl ?_
    exact k)
  obtain ⟨T2, X2, e2, st2⟩ := instNo X0 hx hZ hown (hw _ (List.mem_of_getElem? (i := 43) rfl)) e0 E1 NL (g := (mkF m 1 #[.val (.ref r0), .val (.ref r1)] [(.ref r1)])) rfl rfl (hb hby d6_1)
  have ks3 : own_R p e below (s₁.setTop (entryFrame m #[(.ref r0), (.ref r1)] 2)) (T2.setTop (mkF m 4 #[.val (.ref r0), .val (.ref r1)] [(.int (0 : Int32))])) := fun t k => ks1 t (st2 t k)
  have ks4 : own_R p e below (s₁.setTop (entryFrame m #[(.ref r0), (.ref r1)] 2)) (T2.setTop (mkF m 26 #[.val (.ref r0), .val (.ref r1)] [(.int (0 : Int32))])) := fun t k => ks3 t (by
    show Steps p.tables e below (T2.setTop (mkF m 4 #[.val (.ref r0), .val (.ref r1)] [(.int (0 : Int32))])) _
    refine XS.ifYes X2.here hx rfl (pc0 := 4) (pc' := 25) rfl (hb hby d6_4) rfl ((if0 _ _).trans (teq (by decide)).1) (by decide) (by decide) ?_
    show Steps p.tables e below (T2.setTop (mkF m 25 #[.val (.ref r0), .val (.ref r1)] [])) _
    refine XS.iconst X2.here hx rfl (hb hby d6_25) ?_
    exact k)
  obtain ⟨fs, hr, hrun, hended, hW, hsame⟩ := X2.leave (v := some (.int (0 : Int32))) (fun h => by rw [Bd.returns] at h; cases h)
  refine ⟨_, _, ks4 _ ?_, hrun, hended, _, _, rfl, ?_, ⟨_, rfl⟩, hW, hsame.mono (by decide) (by decide)⟩
  · exact retN X2 hx (t := .boolean) Bd.returns (by simp) (hb hby d6_26) hr
  · show Q6e Z r0 r1 h0 n0 _ T2.heap _
    rw [e2]
    exact ⟨rfl, N0, rfl⟩
theorem ef_6i (m : MethodId) (x0 : Addr) (x1 : Addr) : entryFrame m #[(.ref x0), (.ref x1)] 2 = mkF m 0 #[.val (.ref x0), .val (.ref x1)] [] := by first | (simp [entryFrame, mkF, argsToLocals, Value.category]; done) | rfl
def Q6i (Z : State) (r0 : Addr) (r1 : Addr) (h0 : Heap) (n0 : Nat) (v : Option Value) (h : Heap) (L : List Loc) : Prop := v = some (.int (0 : Int32)) ∧ Fr n0 L ∧ h = h0
set_option maxRecDepth 65536 in
set_option maxHeartbeats 40000000 in
theorem rm6i (l : Launch) (Z : State) (a0 : Array Value) (hw : ∀ d ∈ tables_1, d.before a0 Z = true) (ws : List Jvm.Cond) (r0 : Addr) (r1 : Addr) (h0 : Heap) (n0 : Nat) (Z0 : n0 ≤ h0.size) (E1 : Exa Z h0 r1 "java/lang/Integer") (NL : ∃ c t, Z.vm.findClass "java/lang/Integer" = some c ∧ Z.vm.findClass "com/example/nodeward/nodeward/model/ConditionalDecision$Settled" = some t ∧ Z.vm.assignable c t = false) :
    MetFree l (⟨"com/example/nodeward/nodeward/model/ConditionalDecision$Settled", "equals", "(Ljava/lang/Object;)Z"⟩ : MethodName) (head1 (Jvm.Cond.code (⟨"com/example/nodeward/nodeward/model/ConditionalDecision$Settled", "equals", "(Ljava/lang/Object;)Z"⟩ : MethodName) prog_68_method_5_code 2 (some .boolean) :: ws) ({ frames := 0, cells := 0, slots := 0, locals := 0 } : Room)) (fun a U => a = #[(.ref r0), (.ref r1)] ∧ Z.Warmed39 U.vm ∧ U.heap = h0) (fun _ _ _ _ _ => True) (fun _ U o U' => ∃ v L, o = .returned v ∧ Q6i Z r0 r1 h0 n0 v U'.heap L ∧ FrameEnd U o U' L ({ frames := 0, cells := 0, slots := 0, locals := 0 } : Room).cells ({ frames := 0, cells := 0, slots := 0, locals := 0 } : Room).slots) := by
  refine MetFree.of_bodySF (plainFor_of_name pn_6) hisR ?_
  intro p e s m args below meth c s₁ Bd hml0 hP hK
  obtain ⟨rfl, hZ, hh⟩ := hP
  have hx := Bd.exec
  have hby := Bd.bytes
  have hml : c.maxLocals = 2 := hml0
  have hown : s.vm.findClass "com/example/nodeward/nodeward/model/ConditionalDecision$Settled" = some m.cls := findClass_of_methodNamed Bd.named
  have hnm := (name_of_methodNamed Bd.named Bd.method).1
  have X0 : Stand p l e ({ frames := 0, cells := 0, slots := 0, locals := 0 } : Room) s m #[(.ref r0), (.ref r1)] below meth c s₁ [] 0 0 := Stand.of_body Bd
  have e0 : s₁.heap = h0 := by rw [← hh, Bd.state]; rfl
  have N0 := Fr.nil n0
  have k0 : own_R p e below (s₁.setTop (entryFrame m #[(.ref r0), (.ref r1)] 2)) (s₁.setTop (mkF m 0 #[.val (.ref r0), .val (.ref r1)] [])) := fun t k => castTop (ef_6i m r0 r1) k
  have ks1 : own_R p e below (s₁.setTop (entryFrame m #[(.ref r0), (.ref r1)] 2)) (s₁.setTop (mkF m 1 #[.val (.ref r0), .val (.ref r1)] [(.ref r1)])) := fun t k => k0 t (by
    show Steps p.tables e below (s₁.setTop (mkF m 0 #[.val (.ref r0), .val (.ref r1)] [])) _
    refine XS.aloadN X0.here hx rfl (hb hby d6_0) rfl rfl ?_
    exact k)
  obtain ⟨T2, X2, e2, st2⟩ := instNo X0 hx hZ hown (hw _ (List.mem_of_getElem? (i := 43) rfl)) e0 E1 NL (g := (mkF m 1 #[.val (.ref r0), .val (.ref r1)] [(.ref r1)])) rfl rfl (hb hby d6_1)
  have ks3 : own_R p e below (s₁.setTop (entryFrame m #[(.ref r0), (.ref r1)] 2)) (T2.setTop (mkF m 4 #[.val (.ref r0), .val (.ref r1)] [(.int (0 : Int32))])) := fun t k => ks1 t (st2 t k)
  have ks4 : own_R p e below (s₁.setTop (entryFrame m #[(.ref r0), (.ref r1)] 2)) (T2.setTop (mkF m 26 #[.val (.ref r0), .val (.ref r1)] [(.int (0 : Int32))])) := fun t k => ks3 t (by
    show Steps p.tables e below (T2.setTop (mkF m 4 #[.val (.ref r0), .val (.ref r1)] [(.int (0 : Int32))])) _
    refine XS.ifYes X2.here hx rfl (pc0 := 4) (pc' := 25) rfl (hb hby d6_4) rfl ((if0 _ _).trans (teq (by decide)).1) (by decide) (by decide) ?_
    show Steps p.tables e below (T2.setTop (mkF m 25 #[.val (.ref r0), .val (.ref r1)] [])) _
    refine XS.iconst X2.here hx rfl (hb hby d6_25) ?_
    exact k)
  obtain ⟨fs, hr, hrun, hended, hW, hsame⟩ := X2.leave (v := some (.int (0 : Int32))) (fun h => by rw [Bd.returns] at h; cases h)
  refine ⟨_, _, ks4 _ ?_, hrun, hended, _, _, rfl, ?_, ⟨_, rfl⟩, hW, hsame.mono (by decide) (by decide)⟩
  · exact retN X2 hx (t := .boolean) Bd.returns (by simp) (hb hby d6_26) hr
  · show Q6i Z r0 r1 h0 n0 _ T2.heap _
    rw [e2]
    exact ⟨rfl, N0, rfl⟩
theorem d6_7 : decode prog_68_method_5_code 7 = .ok (.aload_n 1, 1) := by decide +kernel
theorem d6_8 : decode prog_68_method_5_code 8 = .ok (.checkcast 16, 3) := by decide +kernel
theorem d6_11 : decode prog_68_method_5_code 11 = .ok (.getfield 15, 3) := by decide +kernel
theorem d6_14 : decode prog_68_method_5_code 14 = .ok (.aload_n 0, 1) := by decide +kernel
theorem d6_15 : decode prog_68_method_5_code 15 = .ok (.getfield 15, 3) := by decide +kernel
theorem d6_18 : decode prog_68_method_5_code 18 = .ok (.if_acmp .ne 7, 3) := by decide +kernel
theorem d6_21 : decode prog_68_method_5_code 21 = .ok (.iconst 1, 1) := by decide +kernel
theorem d6_22 : decode prog_68_method_5_code 22 = .ok (.goto 4, 3) := by decide +kernel
theorem ef_6s (m : MethodId) (x0 : Addr) (x1 : Addr) : entryFrame m #[(.ref x0), (.ref x1)] 2 = mkF m 0 #[.val (.ref x0), .val (.ref x1)] [] := by first | (simp [entryFrame, mkF, argsToLocals, Value.category]; done) | rfl
def Q6s (Z : State) (r0 : Addr) (x_r0 : Addr) (h0 : Heap) (n0 : Nat) (v : Option Value) (h : Heap) (L : List Loc) : Prop := v = some (.int (1 : Int32)) ∧ Fr n0 L ∧ h = h0
set_option maxRecDepth 65536 in
set_option maxHeartbeats 40000000 in
theorem rm6s (l : Launch) (Z : State) (a0 : Array Value) (hw : ∀ d ∈ tables_1, d.before a0 Z = true) (ws : List Jvm.Cond) (r0 : Addr) (x_r0 : Addr) (h0 : Heap) (n0 : Nat) (Z0 : n0 ≤ h0.size) (E_r0 : Exa Z h0 r0 "com/example/nodeward/nodeward/model/ConditionalDecision$Settled") (F_r0 : Fld Z h0 r0 "com/example/nodeward/nodeward/model/ConditionalDecision$Settled" "extended" "Lcom/example/nodeward/nodeward/model/ExtendedDecision;" (.ref x_r0)) :
    MetFree l (⟨"com/example/nodeward/nodeward/model/ConditionalDecision$Settled", "equals", "(Ljava/lang/Object;)Z"⟩ : MethodName) (head1 (Jvm.Cond.code (⟨"com/example/nodeward/nodeward/model/ConditionalDecision$Settled", "equals", "(Ljava/lang/Object;)Z"⟩ : MethodName) prog_68_method_5_code 2 (some .boolean) :: ws) ({ frames := 0, cells := 0, slots := 0, locals := 0 } : Room)) (fun a U => a = #[(.ref r0), (.ref r0)] ∧ Z.Warmed39 U.vm ∧ U.heap = h0) (fun _ _ _ _ _ => True) (fun _ U o U' => ∃ v L, o = .returned v ∧ Q6s Z r0 x_r0 h0 n0 v U'.heap L ∧ FrameEnd U o U' L ({ frames := 0, cells := 0, slots := 0, locals := 0 } : Room).cells ({ frames := 0, cells := 0, slots := 0, locals := 0 } : Room).slots) := by
  refine MetFree.of_bodySF (plainFor_of_name pn_6) hisR ?_
  intro p e s m args below meth c s₁ Bd hml0 hP hK
  obtain ⟨rfl, hZ, hh⟩ := hP
  have hx := Bd.exec
  have hby := Bd.bytes
  have hml : c.maxLocals = 2 := hml0
  have hown : s.vm.findClass "com/example/nodeward/nodeward/model/ConditionalDecision$Settled" = some m.cls := findClass_of_methodNamed Bd.named
  have hnm := (name_of_methodNamed Bd.named Bd.method).1
  have X0 : Stand p l e ({ frames := 0, cells := 0, slots := 0, locals := 0 } : Room) s m #[(.ref r0), (.ref r0)] below meth c s₁ [] 0 0 := Stand.of_body Bd
  have e0 : s₁.heap = h0 := by rw [← hh, Bd.state]; rfl
  have N0 := Fr.nil n0
  have k0 : own_R p e below (s₁.setTop (entryFrame m #[(.ref r0), (.ref r0)] 2)) (s₁.setTop (mkF m 0 #[.val (.ref r0), .val (.ref r0)] [])) := fun t k => castTop (ef_6s m r0 r0) k
  have ks1 : own_R p e below (s₁.setTop (entryFrame m #[(.ref r0), (.ref r0)] 2)) (s₁.setTop (mkF m 1 #[.val (.ref r0), .val (.ref r0)] [(.ref r0)])) := fun t k => k0 t (by
    show Steps p.tables e below (s₁.setTop (mkF m 0 #[.val (.ref r0), .val (.ref r0)] [])) _
    refine XS.aloadN X0.here hx rfl (hb hby d6_0) rfl rfl ?_
    exact k)
  obtain ⟨T2, X2, e2, st2⟩ := instY X0 hx hZ hown (hw _ (List.mem_of_getElem? (i := 43) rfl)) e0 (Ins.self E_r0) (g := (mkF m 1 #[.val (.ref r0), .val (.ref r0)] [(.ref r0)])) rfl rfl (hb hby d6_1)
  have ks3 : own_R p e below (s₁.setTop (entryFrame m #[(.ref r0), (.ref r0)] 2)) (T2.setTop (mkF m 4 #[.val (.ref r0), .val (.ref r0)] [(.int (1 : Int32))])) := fun t k => ks1 t (st2 t k)
  have ks4 : own_R p e below (s₁.setTop (entryFrame m #[(.ref r0), (.ref r0)] 2)) (T2.setTop (mkF m 8 #[.val (.ref r0), .val (.ref r0)] [(.ref r0)])) := fun t k => ks3 t (by
    show Steps p.tables e below (T2.setTop (mkF m 4 #[.val (.ref r0), .val (.ref r0)] [(.int (1 : Int32))])) _
    refine XS.ifNo X2.here hx rfl (hb hby d6_4) rfl ((if0 _ _).trans (feq (by decide)).1) ?_
    show Steps p.tables e below (T2.setTop (mkF m 7 #[.val (.ref r0), .val (.ref r0)] [])) _
    refine XS.aloadN X2.here hx rfl (hb hby d6_7) rfl rfl ?_
    exact k)
  obtain ⟨T5, X5, e5, st5⟩ := castY X2 hx hZ hown (hw _ (List.mem_of_getElem? (i := 43) rfl)) e2 (Ins.self E_r0) (g := (mkF m 8 #[.val (.ref r0), .val (.ref r0)] [(.ref r0)])) rfl rfl (hb hby d6_8)
  have ks6 : own_R p e below (s₁.setTop (entryFrame m #[(.ref r0), (.ref r0)] 2)) (T5.setTop (mkF m 11 #[.val (.ref r0), .val (.ref r0)] [(.ref r0)])) := fun t k => ks4 t (st5 t k)
  obtain ⟨T7, X7, e7, st7⟩ := getF X5 hx hZ hown (host := "") (Or.inl (hw _ (List.mem_of_getElem? (i := 34) rfl))) Via.refl e5 F_r0 (g := (mkF m 11 #[.val (.ref r0), .val (.ref r0)] [(.ref r0)])) rfl rfl (hb hby d6_11)
  have ks8 : own_R p e below (s₁.setTop (entryFrame m #[(.ref r0), (.ref r0)] 2)) (T7.setTop (mkF m 14 #[.val (.ref r0), .val (.ref r0)] [(.ref x_r0)])) := fun t k => ks6 t (st7 t k)
  have ks9 : own_R p e below (s₁.setTop (entryFrame m #[(.ref r0), (.ref r0)] 2)) (T7.setTop (mkF m 15 #[.val (.ref r0), .val (.ref r0)] [(.ref r0), (.ref x_r0)])) := fun t k => ks8 t (by
    show Steps p.tables e below (T7.setTop (mkF m 14 #[.val (.ref r0), .val (.ref r0)] [(.ref x_r0)])) _
    refine XS.aloadN X7.here hx rfl (hb hby d6_14) rfl rfl ?_
    exact k)
  obtain ⟨T10, X10, e10, st10⟩ := getF X7 hx hZ hown (host := "") (Or.inl (hw _ (List.mem_of_getElem? (i := 34) rfl))) Via.refl e7 F_r0 (g := (mkF m 15 #[.val (.ref r0), .val (.ref r0)] [(.ref r0), (.ref x_r0)])) rfl rfl (hb hby d6_15)
  have ks11 : own_R p e below (s₁.setTop (entryFrame m #[(.ref r0), (.ref r0)] 2)) (T10.setTop (mkF m 18 #[.val (.ref r0), .val (.ref r0)] [(.ref x_r0), (.ref x_r0)])) := fun t k => ks9 t (st10 t k)
  have ks12 : own_R p e below (s₁.setTop (entryFrame m #[(.ref r0), (.ref r0)] 2)) (T10.setTop (mkF m 26 #[.val (.ref r0), .val (.ref r0)] [(.int (1 : Int32))])) := fun t k => ks11 t (by
    show Steps p.tables e below (T10.setTop (mkF m 18 #[.val (.ref r0), .val (.ref r0)] [(.ref x_r0), (.ref x_r0)])) _
    refine Jvm.RoadKit.acmp (g := (mkF m 18 #[.val (.ref r0), .val (.ref r0)] [(.ref x_r0), (.ref x_r0)])) X10 hx rfl rfl rfl (pc0 := 18) (pc' := 21) (same := true) rfl (hb hby d6_18) rfl (decide_eq_true rfl) (by decide) (by decide) ?_
    show Steps p.tables e below (T10.setTop (mkF m 21 #[.val (.ref r0), .val (.ref r0)] [])) _
    refine XS.iconst X10.here hx rfl (hb hby d6_21) ?_
    show Steps p.tables e below (T10.setTop (mkF m 22 #[.val (.ref r0), .val (.ref r0)] [(.int (1 : Int32))])) _
    refine XS.goto X10.here hx rfl (pc0 := 22) (pc' := 26) rfl (hb hby d6_22) (by decide) (by decide) ?_
    exact k)
  obtain ⟨fs, hr, hrun, hended, hW, hsame⟩ := X10.leave (v := some (.int (1 : Int32))) (fun h => by rw [Bd.returns] at h; cases h)
  refine ⟨_, _, ks12 _ ?_, hrun, hended, _, _, rfl, ?_, ⟨_, rfl⟩, hW, hsame.mono (by decide) (by decide)⟩
  · exact retN X10 hx (t := .boolean) Bd.returns (by simp) (hb hby d6_26) hr
  · show Q6s Z r0 x_r0 h0 n0 _ T10.heap _
    rw [e10]
    exact ⟨rfl, N0, rfl⟩
def own_eq (x y : Addr) : Int32 := if y = x then (1 : Int32) else (0 : Int32)
theorem ef_6p (m : MethodId) (x0 : Addr) (x1 : Addr) : entryFrame m #[(.ref x0), (.ref x1)] 2 = mkF m 0 #[.val (.ref x0), .val (.ref x1)] [] := by first | (simp [entryFrame, mkF, argsToLocals, Value.category]; done) | rfl
def Q6p (Z : State) (r0 : Addr) (r1 : Addr) (x_r0 : Addr) (x_r1 : Addr) (h0 : Heap) (n0 : Nat) (v : Option Value) (h : Heap) (L : List Loc) : Prop := v = some (.int (own_eq x_r0 x_r1)) ∧ Fr n0 L ∧ h = h0
set_option maxRecDepth 65536 in
set_option maxHeartbeats 40000000 in
theorem rm6p (l : Launch) (Z : State) (a0 : Array Value) (hw : ∀ d ∈ tables_1, d.before a0 Z = true) (ws : List Jvm.Cond) (r0 : Addr) (r1 : Addr) (x_r0 : Addr) (x_r1 : Addr) (h0 : Heap) (n0 : Nat) (Z0 : n0 ≤ h0.size) (E_r0 : Exa Z h0 r0 "com/example/nodeward/nodeward/model/ConditionalDecision$Settled") (F_r0 : Fld Z h0 r0 "com/example/nodeward/nodeward/model/ConditionalDecision$Settled" "extended" "Lcom/example/nodeward/nodeward/model/ExtendedDecision;" (.ref x_r0)) (E_r1 : Exa Z h0 r1 "com/example/nodeward/nodeward/model/ConditionalDecision$Settled") (F_r1 : Fld Z h0 r1 "com/example/nodeward/nodeward/model/ConditionalDecision$Settled" "extended" "Lcom/example/nodeward/nodeward/model/ExtendedDecision;" (.ref x_r1)) :
    MetFree l (⟨"com/example/nodeward/nodeward/model/ConditionalDecision$Settled", "equals", "(Ljava/lang/Object;)Z"⟩ : MethodName) (head1 (Jvm.Cond.code (⟨"com/example/nodeward/nodeward/model/ConditionalDecision$Settled", "equals", "(Ljava/lang/Object;)Z"⟩ : MethodName) prog_68_method_5_code 2 (some .boolean) :: ws) ({ frames := 0, cells := 0, slots := 0, locals := 0 } : Room)) (fun a U => a = #[(.ref r0), (.ref r1)] ∧ Z.Warmed39 U.vm ∧ U.heap = h0) (fun _ _ _ _ _ => True) (fun _ U o U' => ∃ v L, o = .returned v ∧ Q6p Z r0 r1 x_r0 x_r1 h0 n0 v U'.heap L ∧ FrameEnd U o U' L ({ frames := 0, cells := 0, slots := 0, locals := 0 } : Room).cells ({ frames := 0, cells := 0, slots := 0, locals := 0 } : Room).slots) := by
  refine MetFree.of_bodySF (plainFor_of_name pn_6) hisR ?_
  intro p e s m args below meth c s₁ Bd hml0 hP hK
  obtain ⟨rfl, hZ, hh⟩ := hP
  have hx := Bd.exec
  have hby := Bd.bytes
  have hml : c.maxLocals = 2 := hml0
  have hown : s.vm.findClass "com/example/nodeward/nodeward/model/ConditionalDecision$Settled" = some m.cls := findClass_of_methodNamed Bd.named
  have hnm := (name_of_methodNamed Bd.named Bd.method).1
  have X0 : Stand p l e ({ frames := 0, cells := 0, slots := 0, locals := 0 } : Room) s m #[(.ref r0), (.ref r1)] below meth c s₁ [] 0 0 := Stand.of_body Bd
  have e0 : s₁.heap = h0 := by rw [← hh, Bd.state]; rfl
  have N0 := Fr.nil n0
  have k0 : own_R p e below (s₁.setTop (entryFrame m #[(.ref r0), (.ref r1)] 2)) (s₁.setTop (mkF m 0 #[.val (.ref r0), .val (.ref r1)] [])) := fun t k => castTop (ef_6p m r0 r1) k
  have ks1 : own_R p e below (s₁.setTop (entryFrame m #[(.ref r0), (.ref r1)] 2)) (s₁.setTop (mkF m 1 #[.val (.ref r0), .val (.ref r1)] [(.ref r1)])) := fun t k => k0 t (by
    show Steps p.tables e below (s₁.setTop (mkF m 0 #[.val (.ref r0), .val (.ref r1)] [])) _
    refine XS.aloadN X0.here hx rfl (hb hby d6_0) rfl rfl ?_
    exact k)
  obtain ⟨T2, X2, e2, st2⟩ := instY X0 hx hZ hown (hw _ (List.mem_of_getElem? (i := 43) rfl)) e0 (Ins.self E_r1) (g := (mkF m 1 #[.val (.ref r0), .val (.ref r1)] [(.ref r1)])) rfl rfl (hb hby d6_1)
  have ks3 : own_R p e below (s₁.setTop (entryFrame m #[(.ref r0), (.ref r1)] 2)) (T2.setTop (mkF m 4 #[.val (.ref r0), .val (.ref r1)] [(.int (1 : Int32))])) := fun t k => ks1 t (st2 t k)
  have ks4 : own_R p e below (s₁.setTop (entryFrame m #[(.ref r0), (.ref r1)] 2)) (T2.setTop (mkF m 8 #[.val (.ref r0), .val (.ref r1)] [(.ref r1)])) := fun t k => ks3 t (by
    show Steps p.tables e below (T2.setTop (mkF m 4 #[.val (.ref r0), .val (.ref r1)] [(.int (1 : Int32))])) _
    refine XS.ifNo X2.here hx rfl (hb hby d6_4) rfl ((if0 _ _).trans (feq (by decide)).1) ?_
    show Steps p.tables e below (T2.setTop (mkF m 7 #[.val (.ref r0), .val (.ref r1)] [])) _
    refine XS.aloadN X2.here hx rfl (hb hby d6_7) rfl rfl ?_
    exact k)
  obtain ⟨T5, X5, e5, st5⟩ := castY X2 hx hZ hown (hw _ (List.mem_of_getElem? (i := 43) rfl)) e2 (Ins.self E_r1) (g := (mkF m 8 #[.val (.ref r0), .val (.ref r1)] [(.ref r1)])) rfl rfl (hb hby d6_8)
  have ks6 : own_R p e below (s₁.setTop (entryFrame m #[(.ref r0), (.ref r1)] 2)) (T5.setTop (mkF m 11 #[.val (.ref r0), .val (.ref r1)] [(.ref r1)])) := fun t k => ks4 t (st5 t k)
  obtain ⟨T7, X7, e7, st7⟩ := getF X5 hx hZ hown (host := "") (Or.inl (hw _ (List.mem_of_getElem? (i := 34) rfl))) Via.refl e5 F_r1 (g := (mkF m 11 #[.val (.ref r0), .val (.ref r1)] [(.ref r1)])) rfl rfl (hb hby d6_11)
  have ks8 : own_R p e below (s₁.setTop (entryFrame m #[(.ref r0), (.ref r1)] 2)) (T7.setTop (mkF m 14 #[.val (.ref r0), .val (.ref r1)] [(.ref x_r1)])) := fun t k => ks6 t (st7 t k)
  have ks9 : own_R p e below (s₁.setTop (entryFrame m #[(.ref r0), (.ref r1)] 2)) (T7.setTop (mkF m 15 #[.val (.ref r0), .val (.ref r1)] [(.ref r0), (.ref x_r1)])) := fun t k => ks8 t (by
    show Steps p.tables e below (T7.setTop (mkF m 14 #[.val (.ref r0), .val (.ref r1)] [(.ref x_r1)])) _
    refine XS.aloadN X7.here hx rfl (hb hby d6_14) rfl rfl ?_
    exact k)
  obtain ⟨T10, X10, e10, st10⟩ := getF X7 hx hZ hown (host := "") (Or.inl (hw _ (List.mem_of_getElem? (i := 34) rfl))) Via.refl e7 F_r0 (g := (mkF m 15 #[.val (.ref r0), .val (.ref r1)] [(.ref r0), (.ref x_r1)])) rfl rfl (hb hby d6_15)
  have ks11 : own_R p e below (s₁.setTop (entryFrame m #[(.ref r0), (.ref r1)] 2)) (T10.setTop (mkF m 18 #[.val (.ref r0), .val (.ref r1)] [(.ref x_r0), (.ref x_r1)])) := fun t k => ks9 t (st10 t k)
  by_cases hc12 : x_r1 = x_r0
  · skip
    have ks13 : own_R p e below (s₁.setTop (entryFrame m #[(.ref r0), (.ref r1)] 2)) (T10.setTop (mkF m 26 #[.val (.ref r0), .val (.ref r1)] [(.int (1 : Int32))])) := fun t k => ks11 t (by
      show Steps p.tables e below (T10.setTop (mkF m 18 #[.val (.ref r0), .val (.ref r1)] [(.ref x_r0), (.ref x_r1)])) _
      refine Jvm.RoadKit.acmp (g := (mkF m 18 #[.val (.ref r0), .val (.ref r1)] [(.ref x_r0), (.ref x_r1)])) X10 hx rfl rfl rfl (pc0 := 18) (pc' := 21) (same := true) rfl (hb hby d6_18) rfl (decide_eq_true (congrArg Value.ref hc12)) (by decide) (by decide) ?_
      show Steps p.tables e below (T10.setTop (mkF m 21 #[.val (.ref r0), .val (.ref r1)] [])) _
      refine XS.iconst X10.here hx rfl (hb hby d6_21) ?_
      show Steps p.tables e below (T10.setTop (mkF m 22 #[.val (.ref r0), .val (.ref r1)] [(.int (1 : Int32))])) _
      refine XS.goto X10.here hx rfl (pc0 := 22) (pc' := 26) rfl (hb hby d6_22) (by decide) (by decide) ?_
      exact k)
    obtain ⟨fs, hr, hrun, hended, hW, hsame⟩ := X10.leave (v := some (.int (1 : Int32))) (fun h => by rw [Bd.returns] at h; cases h)
    refine ⟨_, _, ks13 _ ?_, hrun, hended, _, _, rfl, ?_, ⟨_, rfl⟩, hW, hsame.mono (by decide) (by decide)⟩
    · exact retN X10 hx (t := .boolean) Bd.returns (by simp) (hb hby d6_26) hr
    · show Q6p Z r0 r1 x_r0 x_r1 h0 n0 _ T10.heap _
      rw [e10]
      refine ⟨?_, N0, rfl⟩
      rw [own_eq, if_pos hc12]
  · skip
    have ks14 : own_R p e below (s₁.setTop (entryFrame m #[(.ref r0), (.ref r1)] 2)) (T10.setTop (mkF m 26 #[.val (.ref r0), .val (.ref r1)] [(.int (0 : Int32))])) := fun t k => ks11 t (by
      show Steps p.tables e below (T10.setTop (mkF m 18 #[.val (.ref r0), .val (.ref r1)] [(.ref x_r0), (.ref x_r1)])) _
      refine Jvm.RoadKit.acmp (g := (mkF m 18 #[.val (.ref r0), .val (.ref r1)] [(.ref x_r0), (.ref x_r1)])) X10 hx rfl rfl rfl (pc0 := 18) (pc' := 25) (same := false) rfl (hb hby d6_18) rfl (decide_eq_false fun q => hc12 (Value.ref.inj q)) (by decide) (by decide) ?_
      show Steps p.tables e below (T10.setTop (mkF m 25 #[.val (.ref r0), .val (.ref r1)] [])) _
      refine XS.iconst X10.here hx rfl (hb hby d6_25) ?_
      exact k)
    obtain ⟨fs, hr, hrun, hended, hW, hsame⟩ := X10.leave (v := some (.int (0 : Int32))) (fun h => by rw [Bd.returns] at h; cases h)
    refine ⟨_, _, ks14 _ ?_, hrun, hended, _, _, rfl, ?_, ⟨_, rfl⟩, hW, hsame.mono (by decide) (by decide)⟩
    · exact retN X10 hx (t := .boolean) Bd.returns (by simp) (hb hby d6_26) hr
    · show Q6p Z r0 r1 x_r0 x_r1 h0 n0 _ T10.heap _
      rw [e10]
      refine ⟨?_, N0, rfl⟩
      rw [own_eq, if_neg hc12]
theorem pn_0 : plainName "com/example/nodeward/nodeward/model/SettledEqualsPinLaw" = true := by first | (simp [plainName, overriddenIn]; done) | decide +kernel
theorem pd_0 : parseMethodDescriptor "(I)Lcom/example/nodeward/nodeward/model/ExtendedDecision;" = some ⟨[.int], some (.object "com/example/nodeward/nodeward/model/ExtendedDecision")⟩ := by decide +kernel
theorem pd_1 : parseMethodDescriptor "(Lcom/example/nodeward/nodeward/model/ExtendedDecision;)V" = some ⟨[(.object "com/example/nodeward/nodeward/model/ExtendedDecision")], none⟩ := by decide +kernel
theorem pd_4 : parseMethodDescriptor "(Ljava/lang/Object;)Z" = some ⟨[(.object "java/lang/Object")], some .boolean⟩ := by decide +kernel
theorem pd_5 : parseMethodDescriptor "(I)Ljava/lang/Integer;" = some ⟨[.int], some (.object "java/lang/Integer")⟩ := by decide +kernel
theorem ef_0 (m : MethodId) (x0 : Int32) (x1 : Int32) (x2 : Int32) : entryFrame m #[(.int x0), (.int x1), (.int x2)] maxLocals = mkF m 0 #[.val (.int x0), .val (.int x1), .val (.int x2), .unset, .unset, .unset, .unset, .unset, .unset] [] := by first | (simp [entryFrame, mkF, argsToLocals, Value.category, maxLocals]; done) | rfl
def Q0 (Z : State) (p0 : Int32) (p1 : Int32) (p2 : Int32) (u1 : Addr) (cl1 : Cell) (s_PERMIT : Addr) (s_INDETERMINATE_D : Addr) (s_DENY : Addr) (s_NOT_APPLICABLE : Addr) (s_INDETERMINATE_DP : Addr) (s_INDETERMINATE_P : Addr) (h0 : Heap) (n0 : Nat) (v : Option Value) (h : Heap) (L : List Loc) : Prop := v = some (.int (1 : Int32)) ∧ Fr n0 L
set_option maxRecDepth 65536 in
set_option maxHeartbeats 40000000 in
theorem rm0 (l : Launch) (Z : State) (a0 : Array Value) (hw : ∀ d ∈ tables_1, d.before a0 Z = true) (ws : List Jvm.Cond) (p0 : Int32) (p1 : Int32) (p2 : Int32) (u1 : Addr) (cl1 : Cell) (s_PERMIT : Addr) (s_INDETERMINATE_D : Addr) (s_DENY : Addr) (s_NOT_APPLICABLE : Addr) (s_INDETERMINATE_DP : Addr) (s_INDETERMINATE_P : Addr) (h0 : Heap) (n0 : Nat) (Z0 : n0 ≤ h0.size) (O0 : Old Z n0 h0) (S0 : Sta Z h0 "java/lang/Integer$IntegerCache" "high" "I" (.int (127 : Int32))) (S1 : Sta Z h0 "java/lang/Integer$IntegerCache" "cache" "[Ljava/lang/Integer;" (.ref u1)) (A1 : Arr Z h0 u1 cl1 (.object "java/lang/Integer")) (hs1 : cl1.slots.size = 256) (B1 : own_box Z cl1 "java/lang/Integer") (E_s_PERMIT : Exa Z h0 s_PERMIT "com/example/nodeward/nodeward/model/ExtendedDecision") (S_s_PERMIT : Sta Z h0 "com/example/nodeward/nodeward/model/ExtendedDecision" "PERMIT" "Lcom/example/nodeward/nodeward/model/ExtendedDecision;" (.ref s_PERMIT)) (E_s_INDETERMINATE_D : Exa Z h0 s_INDETERMINATE_D "com/example/nodeward/nodeward/model/ExtendedDecision") (S_s_INDETERMINATE_D : Sta Z h0 "com/example/nodeward/nodeward/model/ExtendedDecision" "INDETERMINATE_D" "Lcom/example/nodeward/nodeward/model/ExtendedDecision;" (.ref s_INDETERMINATE_D)) (E_s_DENY : Exa Z h0 s_DENY "com/example/nodeward/nodeward/model/ExtendedDecision") (S_s_DENY : Sta Z h0 "com/example/nodeward/nodeward/model/ExtendedDecision" "DENY" "Lcom/example/nodeward/nodeward/model/ExtendedDecision;" (.ref s_DENY)) (E_s_NOT_APPLICABLE : Exa Z h0 s_NOT_APPLICABLE "com/example/nodeward/nodeward/model/ExtendedDecision") (S_s_NOT_APPLICABLE : Sta Z h0 "com/example/nodeward/nodeward/model/ExtendedDecision" "NOT_APPLICABLE" "Lcom/example/nodeward/nodeward/model/ExtendedDecision;" (.ref s_NOT_APPLICABLE)) (E_s_INDETERMINATE_DP : Exa Z h0 s_INDETERMINATE_DP "com/example/nodeward/nodeward/model/ExtendedDecision") (S_s_INDETERMINATE_DP : Sta Z h0 "com/example/nodeward/nodeward/model/ExtendedDecision" "INDETERMINATE_DP" "Lcom/example/nodeward/nodeward/model/ExtendedDecision;" (.ref s_INDETERMINATE_DP)) (E_s_INDETERMINATE_P : Exa Z h0 s_INDETERMINATE_P "com/example/nodeward/nodeward/model/ExtendedDecision") (S_s_INDETERMINATE_P : Sta Z h0 "com/example/nodeward/nodeward/model/ExtendedDecision" "INDETERMINATE_P" "Lcom/example/nodeward/nodeward/model/ExtendedDecision;" (.ref s_INDETERMINATE_P)) (F_s_PERMIT_ordinal : Fld Z h0 s_PERMIT "java/lang/Enum" "ordinal" "I" (.int (0 : Int32))) (F_s_NOT_APPLICABLE_ordinal : Fld Z h0 s_NOT_APPLICABLE "java/lang/Enum" "ordinal" "I" (.int (2 : Int32))) (F_s_INDETERMINATE_D_ordinal : Fld Z h0 s_INDETERMINATE_D "java/lang/Enum" "ordinal" "I" (.int (3 : Int32))) (F_s_DENY_ordinal : Fld Z h0 s_DENY "java/lang/Enum" "ordinal" "I" (.int (1 : Int32))) (F_s_INDETERMINATE_P_ordinal : Fld Z h0 s_INDETERMINATE_P "java/lang/Enum" "ordinal" "I" (.int (4 : Int32))) (F_s_INDETERMINATE_DP_ordinal : Fld Z h0 s_INDETERMINATE_DP "java/lang/Enum" "ordinal" "I" (.int (5 : Int32))) :
    MetFree l x (head1 (Jvm.Cond.code x code maxLocals ret :: ws) room_1) (fun a U => a = #[(.int p0), (.int p1), (.int p2)] ∧ Z.Warmed39 U.vm ∧ U.heap = h0) (fun _ _ _ _ _ => True) (fun _ U o U' => ∃ v L, o = .returned v ∧ Q0 Z p0 p1 p2 u1 cl1 s_PERMIT s_INDETERMINATE_D s_DENY s_NOT_APPLICABLE s_INDETERMINATE_DP s_INDETERMINATE_P h0 n0 v U'.heap L ∧ ReturnedEndW U o U' L 16 1152) := by
  refine MetFree.of_bodySF (plainFor_of_name pn_0) hisR ?_
  intro p e s m args below meth c s₁ Bd hml0 hP hK
  obtain ⟨rfl, hZ, hh⟩ := hP
  have hx := Bd.exec
  have hby := Bd.bytes
  have hml : c.maxLocals = 9 := hml0
  have hown : s.vm.findClass "com/example/nodeward/nodeward/model/SettledEqualsPinLaw" = some m.cls := findClass_of_methodNamed Bd.named
  have hnm := (name_of_methodNamed Bd.named Bd.method).1
  have X0 : Stand p l e room_1 s m #[(.int p0), (.int p1), (.int p2)] below meth c s₁ [] 0 0 := Stand.of_body Bd
  have e0 : s₁.heap = h0 := by rw [← hh, Bd.state]; rfl
  have N0 := Fr.nil n0
  have hS0 : s.Since s.vm s.heap.size := (State.WarmedH.refl s).since _
  have hk0 : s.heap.size ≤ h0.size := by rw [hh]; exact Nat.le_refl _
  have X0 : Stand p l e room_1 (s.setVm s.vm) m #[(.int p0), (.int p1), (.int p2)] below meth c s₁ [] 0 0 := X0
  have hZ : Z.Warmed39 (s.setVm s.vm).vm := hZ
  have hown : (s.setVm s.vm).vm.findClass "com/example/nodeward/nodeward/model/SettledEqualsPinLaw" = some m.cls := hown
  have k0 : own_R p e below (s₁.setTop (entryFrame m #[(.int p0), (.int p1), (.int p2)] maxLocals)) (s₁.setTop (mkF m 0 #[.val (.int p0), .val (.int p1), .val (.int p2), .unset, .unset, .unset, .unset, .unset, .unset] [])) := fun t k => castTop (ef_0 m p0 p1 p2) k
  have ks1 : own_R p e below (s₁.setTop (entryFrame m #[(.int p0), (.int p1), (.int p2)] maxLocals)) (s₁.setTop (mkF m 7 #[.val (.int p0), .val (.int p1), .val (.int p2), .unset, .unset, .unset, .unset, .unset, .unset] [(.int ((p0 &&& (2147483647 : Int32)) % (6 : Int32)))])) := fun t k => k0 t (by
    show Steps p.tables e below (s₁.setTop (mkF m 0 #[.val (.int p0), .val (.int p1), .val (.int p2), .unset, .unset, .unset, .unset, .unset, .unset] [])) _
    refine XS.iloadN X0.here hx rfl (hb hby at_0) rfl ?_
    show Steps p.tables e below (s₁.setTop (mkF m 1 #[.val (.int p0), .val (.int p1), .val (.int p2), .unset, .unset, .unset, .unset, .unset, .unset] [(.int p0)])) _
    refine X0.ldcInt hx hown (mvT hZ (hw _ (List.mem_of_getElem? (i := 0) rfl))) (g := (mkF m 1 #[.val (.int p0), .val (.int p1), .val (.int p2), .unset, .unset, .unset, .unset, .unset, .unset] [(.int p0)])) rfl (hb hby at_1) _ ?_
    show Steps p.tables e below (s₁.setTop (mkF m 3 #[.val (.int p0), .val (.int p1), .val (.int p2), .unset, .unset, .unset, .unset, .unset, .unset] [(.int (2147483647 : Int32)), (.int p0)])) _
    refine XS.iand X0.here hx rfl (hb hby at_3) rfl ?_
    show Steps p.tables e below (s₁.setTop (mkF m 4 #[.val (.int p0), .val (.int p1), .val (.int p2), .unset, .unset, .unset, .unset, .unset, .unset] [(.int (p0 &&& (2147483647 : Int32)))])) _
    refine XS.bipush X0.here hx rfl (hb hby at_4) ?_
    show Steps p.tables e below (s₁.setTop (mkF m 6 #[.val (.int p0), .val (.int p1), .val (.int p2), .unset, .unset, .unset, .unset, .unset, .unset] [(.int (6 : Int32)), (.int (p0 &&& (2147483647 : Int32)))])) _
    refine Jvm.RoadKit.iremM X0 hx rfl (hb hby at_6) rfl (by decide) ?_
    exact k)
  obtain ⟨v2, hv2⟩ : ∃ z : Int32, z = ((p0 &&& (2147483647 : Int32)) % (6 : Int32)) := ⟨_, rfl⟩
  rw [← hv2] at ks1
  have ks3 : own_R p e below (s₁.setTop (entryFrame m #[(.int p0), (.int p1), (.int p2)] maxLocals)) (s₁.setTop (mkF m 15 #[.val (.int p0), .val (.int p1), .val (.int p2), .val (.int v2), .unset, .unset, .unset, .unset, .unset] [(.int ((p1 &&& (2147483647 : Int32)) % (6 : Int32)))])) := fun t k => ks1 t (by
    show Steps p.tables e below (s₁.setTop (mkF m 7 #[.val (.int p0), .val (.int p1), .val (.int p2), .unset, .unset, .unset, .unset, .unset, .unset] [(.int v2)])) _
    refine XS.istoreN X0.here hx rfl (hb hby at_7) rfl (l' := #[.val (.int p0), .val (.int p1), .val (.int p2), .val (.int v2), .unset, .unset, .unset, .unset, .unset]) rfl ?_
    show Steps p.tables e below (s₁.setTop (mkF m 8 #[.val (.int p0), .val (.int p1), .val (.int p2), .val (.int v2), .unset, .unset, .unset, .unset, .unset] [])) _
    refine XS.iloadN X0.here hx rfl (hb hby at_8) rfl ?_
    show Steps p.tables e below (s₁.setTop (mkF m 9 #[.val (.int p0), .val (.int p1), .val (.int p2), .val (.int v2), .unset, .unset, .unset, .unset, .unset] [(.int p1)])) _
    refine X0.ldcInt hx hown (mvT hZ (hw _ (List.mem_of_getElem? (i := 0) rfl))) (g := (mkF m 9 #[.val (.int p0), .val (.int p1), .val (.int p2), .val (.int v2), .unset, .unset, .unset, .unset, .unset] [(.int p1)])) rfl (hb hby at_9) _ ?_
    show Steps p.tables e below (s₁.setTop (mkF m 11 #[.val (.int p0), .val (.int p1), .val (.int p2), .val (.int v2), .unset, .unset, .unset, .unset, .unset] [(.int (2147483647 : Int32)), (.int p1)])) _
    refine XS.iand X0.here hx rfl (hb hby at_11) rfl ?_
    show Steps p.tables e below (s₁.setTop (mkF m 12 #[.val (.int p0), .val (.int p1), .val (.int p2), .val (.int v2), .unset, .unset, .unset, .unset, .unset] [(.int (p1 &&& (2147483647 : Int32)))])) _
    refine XS.bipush X0.here hx rfl (hb hby at_12) ?_
    show Steps p.tables e below (s₁.setTop (mkF m 14 #[.val (.int p0), .val (.int p1), .val (.int p2), .val (.int v2), .unset, .unset, .unset, .unset, .unset] [(.int (6 : Int32)), (.int (p1 &&& (2147483647 : Int32)))])) _
    refine Jvm.RoadKit.iremM X0 hx rfl (hb hby at_14) rfl (by decide) ?_
    exact k)
  obtain ⟨v4, hv4⟩ : ∃ z : Int32, z = ((p1 &&& (2147483647 : Int32)) % (6 : Int32)) := ⟨_, rfl⟩
  rw [← hv4] at ks3
  have ks5 : own_R p e below (s₁.setTop (entryFrame m #[(.int p0), (.int p1), (.int p2)] maxLocals)) (s₁.setTop (mkF m 23 #[.val (.int p0), .val (.int p1), .val (.int p2), .val (.int v2), .val (.int v4), .unset, .unset, .unset, .unset] [(.int ((p2 &&& (2147483647 : Int32)) % (5 : Int32)))])) := fun t k => ks3 t (by
    show Steps p.tables e below (s₁.setTop (mkF m 15 #[.val (.int p0), .val (.int p1), .val (.int p2), .val (.int v2), .unset, .unset, .unset, .unset, .unset] [(.int v4)])) _
    refine XS.istore X0.here hx rfl (hb hby at_15) rfl (l' := #[.val (.int p0), .val (.int p1), .val (.int p2), .val (.int v2), .val (.int v4), .unset, .unset, .unset, .unset]) rfl ?_
    show Steps p.tables e below (s₁.setTop (mkF m 17 #[.val (.int p0), .val (.int p1), .val (.int p2), .val (.int v2), .val (.int v4), .unset, .unset, .unset, .unset] [])) _
    refine XS.iloadN X0.here hx rfl (hb hby at_17) rfl ?_
    show Steps p.tables e below (s₁.setTop (mkF m 18 #[.val (.int p0), .val (.int p1), .val (.int p2), .val (.int v2), .val (.int v4), .unset, .unset, .unset, .unset] [(.int p2)])) _
    refine X0.ldcInt hx hown (mvT hZ (hw _ (List.mem_of_getElem? (i := 0) rfl))) (g := (mkF m 18 #[.val (.int p0), .val (.int p1), .val (.int p2), .val (.int v2), .val (.int v4), .unset, .unset, .unset, .unset] [(.int p2)])) rfl (hb hby at_18) _ ?_
    show Steps p.tables e below (s₁.setTop (mkF m 20 #[.val (.int p0), .val (.int p1), .val (.int p2), .val (.int v2), .val (.int v4), .unset, .unset, .unset, .unset] [(.int (2147483647 : Int32)), (.int p2)])) _
    refine XS.iand X0.here hx rfl (hb hby at_20) rfl ?_
    show Steps p.tables e below (s₁.setTop (mkF m 21 #[.val (.int p0), .val (.int p1), .val (.int p2), .val (.int v2), .val (.int v4), .unset, .unset, .unset, .unset] [(.int (p2 &&& (2147483647 : Int32)))])) _
    refine XS.iconst X0.here hx rfl (hb hby at_21) ?_
    show Steps p.tables e below (s₁.setTop (mkF m 22 #[.val (.int p0), .val (.int p1), .val (.int p2), .val (.int v2), .val (.int v4), .unset, .unset, .unset, .unset] [(.int (5 : Int32)), (.int (p2 &&& (2147483647 : Int32)))])) _
    refine Jvm.RoadKit.iremM X0 hx rfl (hb hby at_22) rfl (by decide) ?_
    exact k)
  obtain ⟨v6, hv6⟩ : ∃ z : Int32, z = ((p2 &&& (2147483647 : Int32)) % (5 : Int32)) := ⟨_, rfl⟩
  rw [← hv6] at ks5
  have ks7 : own_R p e below (s₁.setTop (entryFrame m #[(.int p0), (.int p1), (.int p2)] maxLocals)) (s₁.setTop (mkF m 25 #[.val (.int p0), .val (.int p1), .val (.int p2), .val (.int v2), .val (.int v4), .val (.int v6), .unset, .unset, .unset] [])) := fun t k => ks5 t (by
    show Steps p.tables e below (s₁.setTop (mkF m 23 #[.val (.int p0), .val (.int p1), .val (.int p2), .val (.int v2), .val (.int v4), .unset, .unset, .unset, .unset] [(.int v6)])) _
    refine XS.istore X0.here hx rfl (hb hby at_23) rfl (l' := #[.val (.int p0), .val (.int p1), .val (.int p2), .val (.int v2), .val (.int v4), .val (.int v6), .unset, .unset, .unset]) rfl ?_
    exact k)
  obtain ⟨T8, h8, X8, e8, E8, A8, D8, -, st8⟩ := newO X0 hx hZ hown (hw _ (List.mem_of_getElem? (i := 1) rfl)) (hw _ (List.mem_of_getElem? (i := 2) rfl)) (hw _ (List.mem_of_getElem? (i := 3) rfl)) e0 (g := (mkF m 25 #[.val (.int p0), .val (.int p1), .val (.int p2), .val (.int v2), .val (.int v4), .val (.int v6), .unset, .unset, .unset] [])) rfl (hb hby at_25) (by decide) (by decide)
  obtain ⟨b8, g8⟩ : ∃ z, z = h0.size := ⟨_, rfl⟩
  rw [← g8] at A8 D8 st8
  have ne_s_PERMIT_b8 : s_PERMIT ≠ b8 := Nat.ne_of_lt (Nat.lt_of_lt_of_le E_s_PERMIT.lt (Nat.le_of_eq g8.symm))
  have ne_s_INDETERMINATE_D_b8 : s_INDETERMINATE_D ≠ b8 := Nat.ne_of_lt (Nat.lt_of_lt_of_le E_s_INDETERMINATE_D.lt (Nat.le_of_eq g8.symm))
  have ne_s_DENY_b8 : s_DENY ≠ b8 := Nat.ne_of_lt (Nat.lt_of_lt_of_le E_s_DENY.lt (Nat.le_of_eq g8.symm))
  have ne_s_NOT_APPLICABLE_b8 : s_NOT_APPLICABLE ≠ b8 := Nat.ne_of_lt (Nat.lt_of_lt_of_le E_s_NOT_APPLICABLE.lt (Nat.le_of_eq g8.symm))
  have ne_s_INDETERMINATE_DP_b8 : s_INDETERMINATE_DP ≠ b8 := Nat.ne_of_lt (Nat.lt_of_lt_of_le E_s_INDETERMINATE_DP.lt (Nat.le_of_eq g8.symm))
  have ne_s_INDETERMINATE_P_b8 : s_INDETERMINATE_P ≠ b8 := Nat.ne_of_lt (Nat.lt_of_lt_of_le E_s_INDETERMINATE_P.lt (Nat.le_of_eq g8.symm))
  have g_b8 : n0 ≤ b8 := Nat.le_trans Z0 (Nat.le_of_eq g8.symm)
  have sz_b8 : h0.size ≤ b8 := Nat.le_trans (Keep.refl h0 []).1 (Nat.le_of_eq g8.symm)
  have KH8 : Keep h0 h8 [] := (Keep.refl h0 []).ext E8
  have Zn8 : n0 ≤ h8.size := Nat.le_trans Z0 E8.1
  have hk8 := Nat.le_trans hk0 E8.1
  have F_extended_b8 : Fld Z h8 b8 "com/example/nodeward/nodeward/model/ConditionalDecision$Settled" "extended" "Lcom/example/nodeward/nodeward/model/ExtendedDecision;" .null := D8 (Or.inr (hw _ (List.mem_of_getElem? (i := 35) rfl))) (ty := (.object "com/example/nodeward/nodeward/model/ExtendedDecision")) (by decide)
  have ks9 : own_R p e below (s₁.setTop (entryFrame m #[(.int p0), (.int p1), (.int p2)] maxLocals)) (T8.setTop (mkF m 28 #[.val (.int p0), .val (.int p1), .val (.int p2), .val (.int v2), .val (.int v4), .val (.int v6), .unset, .unset, .unset] [(.ref b8)])) := fun t k => ks7 t (st8 t k)
  have ks10 : own_R p e below (s₁.setTop (entryFrame m #[(.int p0), (.int p1), (.int p2)] maxLocals)) (T8.setTop (mkF m 30 #[.val (.int p0), .val (.int p1), .val (.int p2), .val (.int v2), .val (.int v4), .val (.int v6), .unset, .unset, .unset] [(.int v2), (.ref b8), (.ref b8)])) := fun t k => ks9 t (by
    show Steps p.tables e below (T8.setTop (mkF m 28 #[.val (.int p0), .val (.int p1), .val (.int p2), .val (.int v2), .val (.int v4), .val (.int v6), .unset, .unset, .unset] [(.ref b8)])) _
    refine XS.dup X8.here hx rfl (hb hby at_28) rfl rfl ?_
    show Steps p.tables e below (T8.setTop (mkF m 29 #[.val (.int p0), .val (.int p1), .val (.int p2), .val (.int v2), .val (.int v4), .val (.int v6), .unset, .unset, .unset] [(.ref b8), (.ref b8)])) _
    refine XS.iloadN X8.here hx rfl (hb hby at_29) rfl ?_
    exact k)
  have f12 := own_sta_keep S_s_PERMIT KH8
  have f13 := own_sta_keep S_s_DENY KH8
  have f14 := own_sta_keep S_s_NOT_APPLICABLE KH8
  have f15 := own_sta_keep S_s_INDETERMINATE_D KH8
  have f16 := own_sta_keep S_s_INDETERMINATE_P KH8
  have f17 := own_sta_keep S_s_INDETERMINATE_DP KH8
  obtain ⟨_, _, ⟨T11, L11, k11, n11⟩, -, X11, ⟨Lc11, hQ11, lq11, yq11, zq11⟩, st11⟩ := Jvm.LawKit.callS X8 hx (y := (⟨"com/example/nodeward/nodeward/model/SettledEqualsPinLaw", "pick", "(I)Lcom/example/nodeward/nodeward/model/ExtendedDecision;"⟩ : MethodName)) hown (mvT hZ (hw _ (List.mem_of_getElem? (i := 4) rfl))) (mvT hZ (hw _ (List.mem_of_getElem? (i := 5) rfl))) (mvT hZ (hw _ (List.mem_of_getElem? (i := 6) rfl))) (mvT hZ (hw _ (List.mem_of_getElem? (i := 7) rfl))) (by decide) (backOf (W := 2) (rm1 l Z a0 hw [] v2 s_PERMIT s_DENY s_NOT_APPLICABLE s_INDETERMINATE_D s_INDETERMINATE_P s_INDETERMINATE_DP h8 n0 Zn8 f12 f13 f14 f15 f16 f17) hZ (hw _ (List.mem_of_getElem? (i := 7) rfl)) (hw _ (List.mem_of_getElem? (i := 6) rfl)) (by decide) (by decide)) (g := (mkF m 30 #[.val (.int p0), .val (.int p1), .val (.int p2), .val (.int v2), .val (.int v4), .val (.int v6), .unset, .unset, .unset] [(.int v2), (.ref b8), (.ref b8)])) rfl (by rw [hml]; rfl) (argsL := [(.int v2)]) (rest := [(.ref b8), (.ref b8)]) (lenOf pd_0 rfl) rfl (by show 2 * 0 + _ ≤ _; exact Nat.le_of_eq rfl) (hb hby at_30) (fun _ _ => ⟨rfl, e8, (by decide : 1 + 0 ≤ _), (by decide : 1 + 0 ≤ _)⟩)
  dsimp only [Pt.U, Pt.locs, Pt.cells, Pt.slots] at X11 lq11 yq11 zq11 st11 hQ11
  subst lq11 yq11 zq11
  obtain ⟨rfl, Nq11, eq11⟩ := hQ11
  have N11 := Fr.app N0 Nq11
  obtain ⟨r11, hr11⟩ : ∃ z : Addr, z = (own_pick v2 s_PERMIT s_DENY s_NOT_APPLICABLE s_INDETERMINATE_D s_INDETERMINATE_P s_INDETERMINATE_DP) := ⟨_, rfl⟩
  rw [← hr11] at st11
  have f18 := E_s_PERMIT.keep KH8
  have f19 := E_s_DENY.keep KH8
  have f20 := E_s_NOT_APPLICABLE.keep KH8
  have f21 := E_s_INDETERMINATE_D.keep KH8
  have f22 := E_s_INDETERMINATE_P.keep KH8
  have f23 := E_s_INDETERMINATE_DP.keep KH8
  have EP11 : Exa Z h8 r11 "com/example/nodeward/nodeward/model/ExtendedDecision" := by rw [hr11]; exact own_exa _ f18 f19 f20 f21 f22 f23
  have ks24 : own_R p e below (s₁.setTop (entryFrame m #[(.int p0), (.int p1), (.int p2)] maxLocals)) (T11.setTop (mkF m 33 #[.val (.int p0), .val (.int p1), .val (.int p2), .val (.int v2), .val (.int v4), .val (.int v6), .unset, .unset, .unset] [(.ref r11), (.ref b8), (.ref b8)])) := fun t k => ks10 t (st11 t k)
  obtain ⟨_, _, ⟨T25, L25, k25, n25⟩, -, X25, hT25, hgr25, ⟨Lc25, hQ25, lq25, yq25, zq25⟩, st25⟩ := X11.specialBackS hx (y := (⟨"com/example/nodeward/nodeward/model/ConditionalDecision$Settled", "<init>", "(Lcom/example/nodeward/nodeward/model/ExtendedDecision;)V"⟩ : MethodName)) rfl hown (mvT hZ (hw _ (List.mem_of_getElem? (i := 11) rfl))) (mvT hZ (hw _ (List.mem_of_getElem? (i := 12) rfl))) (mvT hZ (hw _ (List.mem_of_getElem? (i := 13) rfl))) (by decide) (backOfS (W := 1) (rm2 l Z a0 hw [] b8 r11 h8 n0 Zn8 g_b8 A8 F_extended_b8) hZ (hw _ (List.mem_of_getElem? (i := 13) rfl)) (hw _ (List.mem_of_getElem? (i := 3) rfl)) (by decide) (by decide)) (g := (mkF m 33 #[.val (.int p0), .val (.int p1), .val (.int p2), .val (.int v2), .val (.int v4), .val (.int v6), .unset, .unset, .unset] [(.ref r11), (.ref b8), (.ref b8)])) rfl (by rw [hml]; rfl) (Steps.refl _) (a := b8) (argsL := [(.ref r11)]) (rest := [(.ref b8)]) (lenOf pd_1 rfl) rfl (by show 2 * 0 + _ ≤ _; exact Nat.le_of_eq rfl) (hb hby at_33) (fun _ _ => ⟨rfl, eq11, (by decide : 1 + 2 ≤ _), (by decide : 1 + 36 ≤ _)⟩)
  dsimp only [Pt.U, Pt.locs, Pt.cells, Pt.slots] at X25 lq25 yq25 zq25 st25 hQ25 hT25 hgr25
  subst lq25 yq25 zq25
  obtain ⟨X25, hS25, hZ, hown⟩ := rebS hS0 (by rw [eq11]; exact hk8) X25 hT25 hgr25 hZ hown
  obtain ⟨rfl, Nq25, Kq25, Ex25, Fx25⟩ := hQ25
  have N25 := Fr.app N11 Nq25
  have KH25 : Keep h0 T25.heap [] := KH8.trans Kq25 (allS (Or.inr sz_b8) all0)
  have Zn25 : n0 ≤ T25.heap.size := Nat.le_trans Zn8 Kq25.1
  have ks26 : own_R p e below (s₁.setTop (entryFrame m #[(.int p0), (.int p1), (.int p2)] maxLocals)) (T25.setTop (mkF m 36 #[.val (.int p0), .val (.int p1), .val (.int p2), .val (.int v2), .val (.int v4), .val (.int v6), .unset, .unset, .unset] [(.ref b8)])) := fun t k => ks24 t (st25.trans k)
  have ks27 : own_R p e below (s₁.setTop (entryFrame m #[(.int p0), (.int p1), (.int p2)] maxLocals)) (T25.setTop (mkF m 40 #[.val (.int p0), .val (.int p1), .val (.int p2), .val (.int v2), .val (.int v4), .val (.int v6), .val (.ref b8), .unset, .unset] [(.int v6)])) := fun t k => ks26 t (by
    show Steps p.tables e below (T25.setTop (mkF m 36 #[.val (.int p0), .val (.int p1), .val (.int p2), .val (.int v2), .val (.int v4), .val (.int v6), .unset, .unset, .unset] [(.ref b8)])) _
    refine XS.astore X25.here hx rfl (hb hby at_36) rfl rfl (l' := #[.val (.int p0), .val (.int p1), .val (.int p2), .val (.int v2), .val (.int v4), .val (.int v6), .val (.ref b8), .unset, .unset]) rfl ?_
    show Steps p.tables e below (T25.setTop (mkF m 38 #[.val (.int p0), .val (.int p1), .val (.int p2), .val (.int v2), .val (.int v4), .val (.int v6), .val (.ref b8), .unset, .unset] [])) _
    refine XS.iload X25.here hx rfl (hb hby at_38) rfl ?_
    exact k)
  by_cases hc28 : v6 = (0 : Int32)
  · skip
    have ks29 : own_R p e below (s₁.setTop (entryFrame m #[(.int p0), (.int p1), (.int p2)] maxLocals)) (T25.setTop (mkF m 43 #[.val (.int p0), .val (.int p1), .val (.int p2), .val (.int v2), .val (.int v4), .val (.int v6), .val (.ref b8), .unset, .unset] [])) := fun t k => ks27 t (by
      show Steps p.tables e below (T25.setTop (mkF m 40 #[.val (.int p0), .val (.int p1), .val (.int p2), .val (.int v2), .val (.int v4), .val (.int v6), .val (.ref b8), .unset, .unset] [(.int v6)])) _
      refine XS.ifNo X25.here hx rfl (hb hby at_40) rfl ((if0 _ _).trans (teq hc28).2) ?_
      exact k)
    have f30 := E_s_PERMIT.keep KH25
    have f31 := E_s_INDETERMINATE_D.keep KH25
    have f32 := E_s_DENY.keep KH25
    have f33 := E_s_NOT_APPLICABLE.keep KH25
    have f34 := E_s_INDETERMINATE_DP.keep KH25
    have f35 := E_s_INDETERMINATE_P.keep KH25
    obtain ⟨T36, h36, X36, e36, E36, A36, D36, -, st36⟩ := newO X25 hx hZ hown (hw _ (List.mem_of_getElem? (i := 1) rfl)) (hw _ (List.mem_of_getElem? (i := 2) rfl)) (hw _ (List.mem_of_getElem? (i := 3) rfl)) rfl (g := (mkF m 43 #[.val (.int p0), .val (.int p1), .val (.int p2), .val (.int v2), .val (.int v4), .val (.int v6), .val (.ref b8), .unset, .unset] [])) rfl (hb hby at_43) (by decide) (by decide)
    obtain ⟨b36, g36⟩ : ∃ z, z = T25.heap.size := ⟨_, rfl⟩
    rw [← g36] at A36 D36 st36
    have ne_s_PERMIT_b36 : s_PERMIT ≠ b36 := Nat.ne_of_lt (Nat.lt_of_lt_of_le f30.lt (Nat.le_of_eq g36.symm))
    have ne_s_INDETERMINATE_D_b36 : s_INDETERMINATE_D ≠ b36 := Nat.ne_of_lt (Nat.lt_of_lt_of_le f31.lt (Nat.le_of_eq g36.symm))
    have ne_s_DENY_b36 : s_DENY ≠ b36 := Nat.ne_of_lt (Nat.lt_of_lt_of_le f32.lt (Nat.le_of_eq g36.symm))
    have ne_s_NOT_APPLICABLE_b36 : s_NOT_APPLICABLE ≠ b36 := Nat.ne_of_lt (Nat.lt_of_lt_of_le f33.lt (Nat.le_of_eq g36.symm))
    have ne_s_INDETERMINATE_DP_b36 : s_INDETERMINATE_DP ≠ b36 := Nat.ne_of_lt (Nat.lt_of_lt_of_le f34.lt (Nat.le_of_eq g36.symm))
    have ne_s_INDETERMINATE_P_b36 : s_INDETERMINATE_P ≠ b36 := Nat.ne_of_lt (Nat.lt_of_lt_of_le f35.lt (Nat.le_of_eq g36.symm))
    have ne_b8_b36 : b8 ≠ b36 := Nat.ne_of_lt (Nat.lt_of_lt_of_le Ex25.lt (Nat.le_of_eq g36.symm))
    have g_b36 : n0 ≤ b36 := Nat.le_trans Zn25 (Nat.le_of_eq g36.symm)
    have sz_b36 : h0.size ≤ b36 := Nat.le_trans KH25.1 (Nat.le_of_eq g36.symm)
    have KH36 : Keep h0 h36 [] := KH25.ext E36
    have Zn36 : n0 ≤ h36.size := Nat.le_trans Zn25 E36.1
    have hk36 := Nat.le_trans (Nat.le_refl T25.heap.size) E36.1
    have F_extended_b36 : Fld Z h36 b36 "com/example/nodeward/nodeward/model/ConditionalDecision$Settled" "extended" "Lcom/example/nodeward/nodeward/model/ExtendedDecision;" .null := D36 (Or.inr (hw _ (List.mem_of_getElem? (i := 35) rfl))) (ty := (.object "com/example/nodeward/nodeward/model/ExtendedDecision")) (by decide)
    have ks37 : own_R p e below (s₁.setTop (entryFrame m #[(.int p0), (.int p1), (.int p2)] maxLocals)) (T36.setTop (mkF m 46 #[.val (.int p0), .val (.int p1), .val (.int p2), .val (.int v2), .val (.int v4), .val (.int v6), .val (.ref b8), .unset, .unset] [(.ref b36)])) := fun t k => ks29 t (st36 t k)
    have ks38 : own_R p e below (s₁.setTop (entryFrame m #[(.int p0), (.int p1), (.int p2)] maxLocals)) (T36.setTop (mkF m 49 #[.val (.int p0), .val (.int p1), .val (.int p2), .val (.int v2), .val (.int v4), .val (.int v6), .val (.ref b8), .unset, .unset] [(.int v4), (.ref b36), (.ref b36)])) := fun t k => ks37 t (by
      show Steps p.tables e below (T36.setTop (mkF m 46 #[.val (.int p0), .val (.int p1), .val (.int p2), .val (.int v2), .val (.int v4), .val (.int v6), .val (.ref b8), .unset, .unset] [(.ref b36)])) _
      refine XS.dup X36.here hx rfl (hb hby at_46) rfl rfl ?_
      show Steps p.tables e below (T36.setTop (mkF m 47 #[.val (.int p0), .val (.int p1), .val (.int p2), .val (.int v2), .val (.int v4), .val (.int v6), .val (.ref b8), .unset, .unset] [(.ref b36), (.ref b36)])) _
      refine XS.iload X36.here hx rfl (hb hby at_47) rfl ?_
      exact k)
    have f40 := own_sta_keep S_s_PERMIT KH36
    have f41 := own_sta_keep S_s_DENY KH36
    have f42 := own_sta_keep S_s_NOT_APPLICABLE KH36
    have f43 := own_sta_keep S_s_INDETERMINATE_D KH36
    have f44 := own_sta_keep S_s_INDETERMINATE_P KH36
    have f45 := own_sta_keep S_s_INDETERMINATE_DP KH36
    obtain ⟨_, _, ⟨T39, L39, k39, n39⟩, -, X39, ⟨Lc39, hQ39, lq39, yq39, zq39⟩, st39⟩ := Jvm.LawKit.callS X36 hx (y := (⟨"com/example/nodeward/nodeward/model/SettledEqualsPinLaw", "pick", "(I)Lcom/example/nodeward/nodeward/model/ExtendedDecision;"⟩ : MethodName)) hown (mvT hZ (hw _ (List.mem_of_getElem? (i := 4) rfl))) (mvT hZ (hw _ (List.mem_of_getElem? (i := 5) rfl))) (mvT hZ (hw _ (List.mem_of_getElem? (i := 6) rfl))) (mvT hZ (hw _ (List.mem_of_getElem? (i := 7) rfl))) (by decide) (backOf (W := 2) (rm1 l Z a0 hw [] v4 s_PERMIT s_DENY s_NOT_APPLICABLE s_INDETERMINATE_D s_INDETERMINATE_P s_INDETERMINATE_DP h36 n0 Zn36 f40 f41 f42 f43 f44 f45) hZ (hw _ (List.mem_of_getElem? (i := 7) rfl)) (hw _ (List.mem_of_getElem? (i := 6) rfl)) (by decide) (by decide)) (g := (mkF m 49 #[.val (.int p0), .val (.int p1), .val (.int p2), .val (.int v2), .val (.int v4), .val (.int v6), .val (.ref b8), .unset, .unset] [(.int v4), (.ref b36), (.ref b36)])) rfl (by rw [hml]; rfl) (argsL := [(.int v4)]) (rest := [(.ref b36), (.ref b36)]) (lenOf pd_0 rfl) rfl (by show 2 * 0 + _ ≤ _; exact Nat.le_of_eq rfl) (hb hby at_49) (fun _ _ => ⟨rfl, e36, (by decide : 4 + 0 ≤ _), (by decide : 38 + 0 ≤ _)⟩)
    dsimp only [Pt.U, Pt.locs, Pt.cells, Pt.slots] at X39 lq39 yq39 zq39 st39 hQ39
    subst lq39 yq39 zq39
    obtain ⟨rfl, Nq39, eq39⟩ := hQ39
    have N39 := Fr.app N25 Nq39
    obtain ⟨r39, hr39⟩ : ∃ z : Addr, z = (own_pick v4 s_PERMIT s_DENY s_NOT_APPLICABLE s_INDETERMINATE_D s_INDETERMINATE_P s_INDETERMINATE_DP) := ⟨_, rfl⟩
    rw [← hr39] at st39
    have f46 := E_s_PERMIT.keep KH36
    have f47 := E_s_DENY.keep KH36
    have f48 := E_s_NOT_APPLICABLE.keep KH36
    have f49 := E_s_INDETERMINATE_D.keep KH36
    have f50 := E_s_INDETERMINATE_P.keep KH36
    have f51 := E_s_INDETERMINATE_DP.keep KH36
    have EP39 : Exa Z h36 r39 "com/example/nodeward/nodeward/model/ExtendedDecision" := by rw [hr39]; exact own_exa _ f46 f47 f48 f49 f50 f51
    have ks52 : own_R p e below (s₁.setTop (entryFrame m #[(.int p0), (.int p1), (.int p2)] maxLocals)) (T39.setTop (mkF m 52 #[.val (.int p0), .val (.int p1), .val (.int p2), .val (.int v2), .val (.int v4), .val (.int v6), .val (.ref b8), .unset, .unset] [(.ref r39), (.ref b36), (.ref b36)])) := fun t k => ks38 t (st39 t k)
    obtain ⟨_, _, ⟨T53, L53, k53, n53⟩, -, X53, hT53, hgr53, ⟨Lc53, hQ53, lq53, yq53, zq53⟩, st53⟩ := X39.specialBackS hx (y := (⟨"com/example/nodeward/nodeward/model/ConditionalDecision$Settled", "<init>", "(Lcom/example/nodeward/nodeward/model/ExtendedDecision;)V"⟩ : MethodName)) rfl hown (mvT hZ (hw _ (List.mem_of_getElem? (i := 11) rfl))) (mvT hZ (hw _ (List.mem_of_getElem? (i := 12) rfl))) (mvT hZ (hw _ (List.mem_of_getElem? (i := 13) rfl))) (by decide) (backOfS (W := 1) (rm2 l Z a0 hw [] b36 r39 h36 n0 Zn36 g_b36 A36 F_extended_b36) hZ (hw _ (List.mem_of_getElem? (i := 13) rfl)) (hw _ (List.mem_of_getElem? (i := 3) rfl)) (by decide) (by decide)) (g := (mkF m 52 #[.val (.int p0), .val (.int p1), .val (.int p2), .val (.int v2), .val (.int v4), .val (.int v6), .val (.ref b8), .unset, .unset] [(.ref r39), (.ref b36), (.ref b36)])) rfl (by rw [hml]; rfl) (Steps.refl _) (a := b36) (argsL := [(.ref r39)]) (rest := [(.ref b36)]) (lenOf pd_1 rfl) rfl (by show 2 * 0 + _ ≤ _; exact Nat.le_of_eq rfl) (hb hby at_52) (fun _ _ => ⟨rfl, eq39, (by decide : 4 + 2 ≤ _), (by decide : 38 + 36 ≤ _)⟩)
    dsimp only [Pt.U, Pt.locs, Pt.cells, Pt.slots] at X53 lq53 yq53 zq53 st53 hQ53 hT53 hgr53
    subst lq53 yq53 zq53
    obtain ⟨X53, hS53, hZ, hown⟩ := rebS hS25 (by rw [eq39]; exact hk36) X53 hT53 hgr53 hZ hown
    obtain ⟨rfl, Nq53, Kq53, Ex53, Fx53⟩ := hQ53
    have N53 := Fr.app N39 Nq53
    have KH53 : Keep h0 T53.heap [] := KH36.trans Kq53 (allS (Or.inr sz_b36) all0)
    have Zn53 : n0 ≤ T53.heap.size := Nat.le_trans Zn36 Kq53.1
    have ks54 : own_R p e below (s₁.setTop (entryFrame m #[(.int p0), (.int p1), (.int p2)] maxLocals)) (T53.setTop (mkF m 55 #[.val (.int p0), .val (.int p1), .val (.int p2), .val (.int v2), .val (.int v4), .val (.int v6), .val (.ref b8), .unset, .unset] [(.ref b36)])) := fun t k => ks52 t (st53.trans k)
    have ks57 : own_R p e below (s₁.setTop (entryFrame m #[(.int p0), (.int p1), (.int p2)] maxLocals)) (T53.setTop (mkF m 60 #[.val (.int p0), .val (.int p1), .val (.int p2), .val (.int v2), .val (.int v4), .val (.int v6), .val (.ref b8), .val (.ref b36), .unset] [(.int v4), (.int v2)])) := fun t k => ks54 t (by
      show Steps p.tables e below (T53.setTop (mkF m 55 #[.val (.int p0), .val (.int p1), .val (.int p2), .val (.int v2), .val (.int v4), .val (.int v6), .val (.ref b8), .unset, .unset] [(.ref b36)])) _
      refine XS.astore X53.here hx rfl (hb hby at_55) rfl rfl (l' := #[.val (.int p0), .val (.int p1), .val (.int p2), .val (.int v2), .val (.int v4), .val (.int v6), .val (.ref b8), .val (.ref b36), .unset]) rfl ?_
      show Steps p.tables e below (T53.setTop (mkF m 57 #[.val (.int p0), .val (.int p1), .val (.int p2), .val (.int v2), .val (.int v4), .val (.int v6), .val (.ref b8), .val (.ref b36), .unset] [])) _
      refine XS.iloadN X53.here hx rfl (hb hby at_57) rfl ?_
      show Steps p.tables e below (T53.setTop (mkF m 58 #[.val (.int p0), .val (.int p1), .val (.int p2), .val (.int v2), .val (.int v4), .val (.int v6), .val (.ref b8), .val (.ref b36), .unset] [(.int v2)])) _
      refine XS.iload X53.here hx rfl (hb hby at_58) rfl ?_
      exact k)
    obtain ⟨v56, hv56⟩ : ∃ z : Int32, z = (if v2 = v4 then (1 : Int32) else (0 : Int32)) := ⟨_, rfl⟩
    have ks58 : own_R p e below (s₁.setTop (entryFrame m #[(.int p0), (.int p1), (.int p2)] maxLocals)) (T53.setTop (mkF m 68 #[.val (.int p0), .val (.int p1), .val (.int p2), .val (.int v2), .val (.int v4), .val (.int v6), .val (.ref b8), .val (.ref b36), .unset] [(.int v56)])) := fun t k => ks57 t (by
      by_cases hc55 : v2 = v4
      · skip
        have qq59 : v56 = (1 : Int32) := by rw [hv56, if_pos hc55]
        rw [qq59] at k
        show Steps p.tables e below (T53.setTop (mkF m 60 #[.val (.int p0), .val (.int p1), .val (.int p2), .val (.int v2), .val (.int v4), .val (.int v6), .val (.ref b8), .val (.ref b36), .unset] [(.int v4), (.int v2)])) _
        refine XS.icmpNo X53.here hx rfl (hb hby at_60) rfl (teq hc55).2 ?_
        show Steps p.tables e below (T53.setTop (mkF m 63 #[.val (.int p0), .val (.int p1), .val (.int p2), .val (.int v2), .val (.int v4), .val (.int v6), .val (.ref b8), .val (.ref b36), .unset] [])) _
        refine XS.iconst X53.here hx rfl (hb hby at_63) ?_
        show Steps p.tables e below (T53.setTop (mkF m 64 #[.val (.int p0), .val (.int p1), .val (.int p2), .val (.int v2), .val (.int v4), .val (.int v6), .val (.ref b8), .val (.ref b36), .unset] [(.int (1 : Int32))])) _
        refine XS.goto X53.here hx rfl (pc0 := 64) (pc' := 68) rfl (hb hby at_64) (by decide) (by decide) ?_
        exact k
      · skip
        have qq60 : v56 = (0 : Int32) := by rw [hv56, if_neg hc55]
        rw [qq60] at k
        show Steps p.tables e below (T53.setTop (mkF m 60 #[.val (.int p0), .val (.int p1), .val (.int p2), .val (.int v2), .val (.int v4), .val (.int v6), .val (.ref b8), .val (.ref b36), .unset] [(.int v4), (.int v2)])) _
        refine XS.icmpYes X53.here hx rfl (pc0 := 60) (pc' := 67) rfl (hb hby at_60) rfl (feq hc55).2 (by decide) (by decide) ?_
        show Steps p.tables e below (T53.setTop (mkF m 67 #[.val (.int p0), .val (.int p1), .val (.int p2), .val (.int v2), .val (.int v4), .val (.int v6), .val (.ref b8), .val (.ref b36), .unset] [])) _
        refine XS.iconst X53.here hx rfl (hb hby at_67) ?_
        exact k)
    have ks61 : own_R p e below (s₁.setTop (entryFrame m #[(.int p0), (.int p1), (.int p2)] maxLocals)) (T53.setTop (mkF m 137 #[.val (.int p0), .val (.int p1), .val (.int p2), .val (.int v2), .val (.int v4), .val (.int v6), .val (.ref b8), .val (.ref b36), .val (.int v56)] [(.ref b36), (.ref b8)])) := fun t k => ks58 t (by
      show Steps p.tables e below (T53.setTop (mkF m 68 #[.val (.int p0), .val (.int p1), .val (.int p2), .val (.int v2), .val (.int v4), .val (.int v6), .val (.ref b8), .val (.ref b36), .unset] [(.int v56)])) _
      refine XS.istore X53.here hx rfl (hb hby at_68) rfl (l' := #[.val (.int p0), .val (.int p1), .val (.int p2), .val (.int v2), .val (.int v4), .val (.int v6), .val (.ref b8), .val (.ref b36), .val (.int v56)]) rfl ?_
      show Steps p.tables e below (T53.setTop (mkF m 70 #[.val (.int p0), .val (.int p1), .val (.int p2), .val (.int v2), .val (.int v4), .val (.int v6), .val (.ref b8), .val (.ref b36), .val (.int v56)] [])) _
      refine XS.goto X53.here hx rfl (pc0 := 70) (pc' := 133) rfl (hb hby at_70) (by decide) (by decide) ?_
      show Steps p.tables e below (T53.setTop (mkF m 133 #[.val (.int p0), .val (.int p1), .val (.int p2), .val (.int v2), .val (.int v4), .val (.int v6), .val (.ref b8), .val (.ref b36), .val (.int v56)] [])) _
      refine XS.aload X53.here hx rfl (hb hby at_133) rfl rfl ?_
      show Steps p.tables e below (T53.setTop (mkF m 135 #[.val (.int p0), .val (.int p1), .val (.int p2), .val (.int v2), .val (.int v4), .val (.int v6), .val (.ref b8), .val (.ref b36), .val (.int v56)] [(.ref b8)])) _
      refine XS.aload X53.here hx rfl (hb hby at_135) rfl rfl ?_
      exact k)
    have f63 := ((Ex25.ext E36).keep Kq53)
    have f64 := ((Fx25.ext E36).keep Kq53 (ninS ne_b8_b36 nin0))
    obtain ⟨cq62, kq62, q62a, q62b, q62c⟩ := isOf hZ rfl f63
    obtain ⟨_, _, ⟨T62, L62, k62, n62⟩, -, X62, ⟨Lc62, hQ62, lq62, yq62, zq62⟩, st62⟩ := X53.virtualBack hx (y := (⟨"com/example/nodeward/nodeward/model/ConditionalDecision$Settled", "equals", "(Ljava/lang/Object;)Z"⟩ : MethodName)) (z := (⟨"com/example/nodeward/nodeward/model/ConditionalDecision$Settled", "equals", "(Ljava/lang/Object;)Z"⟩ : MethodName)) hown (mvT hZ (hw _ (List.mem_of_getElem? (i := 38) rfl))) (mvT hZ (hw _ (List.mem_of_getElem? (i := 39) rfl))) (notFace_of_selects (args := #[]) (mvT hZ (hw _ (List.mem_of_getElem? (i := 41) rfl)))) (mvT hZ (hw _ (List.mem_of_getElem? (i := 41) rfl))) (mvT hZ (hw _ (List.mem_of_getElem? (i := 40) rfl))) (by decide) (backOf (W := 0) (rm6p l Z a0 hw [] b8 b36 r11 r39 T53.heap n0 Zn53 f63 f64 Ex53 Fx53) hZ (hw _ (List.mem_of_getElem? (i := 42) rfl)) (hw _ (List.mem_of_getElem? (i := 3) rfl)) (by decide) (by decide)) q62a q62c (g := (mkF m 137 #[.val (.int p0), .val (.int p1), .val (.int p2), .val (.int v2), .val (.int v4), .val (.int v6), .val (.ref b8), .val (.ref b36), .val (.int v56)] [(.ref b36), (.ref b8)])) rfl (by rw [hml]; rfl) (Steps.refl _) (argsL := [(.ref b36)]) (rest := []) (lenOf pd_4 rfl) rfl (by show 2 * 0 + _ ≤ _; exact Nat.le_of_eq rfl) (hb hby at_137) (fun _ _ => ⟨rfl, rfl, (by decide : 6 + 0 ≤ _), (by decide : 74 + 0 ≤ _)⟩)
    dsimp only [Pt.U, Pt.locs, Pt.cells, Pt.slots] at X62 lq62 yq62 zq62 st62 hQ62
    subst lq62 yq62 zq62
    obtain ⟨rfl, Nq62, eq62⟩ := hQ62
    have N62 := Fr.app N53 Nq62
    have ks65 : own_R p e below (s₁.setTop (entryFrame m #[(.int p0), (.int p1), (.int p2)] maxLocals)) (T62.setTop (mkF m 140 #[.val (.int p0), .val (.int p1), .val (.int p2), .val (.int v2), .val (.int v4), .val (.int v6), .val (.ref b8), .val (.ref b36), .val (.int v56)] [(.int (own_eq r11 r39))])) := fun t k => ks61 t (st62.trans k)
    have ks66 : own_R p e below (s₁.setTop (entryFrame m #[(.int p0), (.int p1), (.int p2)] maxLocals)) (T62.setTop (mkF m 142 #[.val (.int p0), .val (.int p1), .val (.int p2), .val (.int v2), .val (.int v4), .val (.int v6), .val (.ref b8), .val (.ref b36), .val (.int v56)] [(.int v56), (.int (own_eq r11 r39))])) := fun t k => ks65 t (by
      show Steps p.tables e below (T62.setTop (mkF m 140 #[.val (.int p0), .val (.int p1), .val (.int p2), .val (.int v2), .val (.int v4), .val (.int v6), .val (.ref b8), .val (.ref b36), .val (.int v56)] [(.int (own_eq r11 r39))])) _
      refine XS.iload X62.here hx rfl (hb hby at_140) rfl ?_
      exact k)
    by_cases hc67 : (own_eq r11 r39) = v56
    · skip
      have ks68 : own_R p e below (s₁.setTop (entryFrame m #[(.int p0), (.int p1), (.int p2)] maxLocals)) (T62.setTop (mkF m 150 #[.val (.int p0), .val (.int p1), .val (.int p2), .val (.int v2), .val (.int v4), .val (.int v6), .val (.ref b8), .val (.ref b36), .val (.int v56)] [(.int (1 : Int32))])) := fun t k => ks66 t (by
        show Steps p.tables e below (T62.setTop (mkF m 142 #[.val (.int p0), .val (.int p1), .val (.int p2), .val (.int v2), .val (.int v4), .val (.int v6), .val (.ref b8), .val (.ref b36), .val (.int v56)] [(.int v56), (.int (own_eq r11 r39))])) _
        refine XS.icmpNo X62.here hx rfl (hb hby at_142) rfl (teq hc67).2 ?_
        show Steps p.tables e below (T62.setTop (mkF m 145 #[.val (.int p0), .val (.int p1), .val (.int p2), .val (.int v2), .val (.int v4), .val (.int v6), .val (.ref b8), .val (.ref b36), .val (.int v56)] [])) _
        refine XS.iconst X62.here hx rfl (hb hby at_145) ?_
        show Steps p.tables e below (T62.setTop (mkF m 146 #[.val (.int p0), .val (.int p1), .val (.int p2), .val (.int v2), .val (.int v4), .val (.int v6), .val (.ref b8), .val (.ref b36), .val (.int v56)] [(.int (1 : Int32))])) _
        refine XS.goto X62.here hx rfl (pc0 := 146) (pc' := 150) rfl (hb hby at_146) (by decide) (by decide) ?_
        exact k)
      obtain ⟨fs, hr, hrun, hended, hEnd⟩ := X62.leaveW hS53 (by rw [eq62]; exact (Nat.le_refl T53.heap.size)) (v := some (.int (1 : Int32))) (fun h => by rw [Bd.returns] at h; cases h)
      refine ⟨_, _, ks68 _ ?_, hrun, hended, _, _, rfl, ?_, hEnd.1, hEnd.2.1, hEnd.2.2.1, hEnd.2.2.2.mono (by decide) (by decide)⟩
      · exact retN X62 hx (t := .boolean) Bd.returns (by simp) (hb hby at_150) hr
      · show Q0 Z p0 p1 p2 u1 cl1 s_PERMIT s_INDETERMINATE_D s_DENY s_NOT_APPLICABLE s_INDETERMINATE_DP s_INDETERMINATE_P h0 n0 _ T62.heap _
        rw [eq62]
        exact ⟨rfl, N62⟩
    · skip
      have ks69 : own_R p e below (s₁.setTop (entryFrame m #[(.int p0), (.int p1), (.int p2)] maxLocals)) (T62.setTop (mkF m 150 #[.val (.int p0), .val (.int p1), .val (.int p2), .val (.int v2), .val (.int v4), .val (.int v6), .val (.ref b8), .val (.ref b36), .val (.int v56)] [(.int (0 : Int32))])) := fun t k => ks66 t (by
        show Steps p.tables e below (T62.setTop (mkF m 142 #[.val (.int p0), .val (.int p1), .val (.int p2), .val (.int v2), .val (.int v4), .val (.int v6), .val (.ref b8), .val (.ref b36), .val (.int v56)] [(.int v56), (.int (own_eq r11 r39))])) _
        refine XS.icmpYes X62.here hx rfl (pc0 := 142) (pc' := 149) rfl (hb hby at_142) rfl (feq hc67).2 (by decide) (by decide) ?_
        show Steps p.tables e below (T62.setTop (mkF m 149 #[.val (.int p0), .val (.int p1), .val (.int p2), .val (.int v2), .val (.int v4), .val (.int v6), .val (.ref b8), .val (.ref b36), .val (.int v56)] [])) _
        refine XS.iconst X62.here hx rfl (hb hby at_149) ?_
        exact k)
      obtain ⟨fs, hr, hrun, hended, hEnd⟩ := X62.leaveW hS53 (by rw [eq62]; exact (Nat.le_refl T53.heap.size)) (v := some (.int (0 : Int32))) (fun h => by rw [Bd.returns] at h; cases h)
      refine ⟨_, _, ks69 _ ?_, hrun, hended, _, _, rfl, ?_, hEnd.1, hEnd.2.1, hEnd.2.2.1, hEnd.2.2.2.mono (by decide) (by decide)⟩
      · exact retN X62 hx (t := .boolean) Bd.returns (by simp) (hb hby at_150) hr
      · show Q0 Z p0 p1 p2 u1 cl1 s_PERMIT s_INDETERMINATE_D s_DENY s_NOT_APPLICABLE s_INDETERMINATE_DP s_INDETERMINATE_P h0 n0 _ T62.heap _
        rw [eq62]
        exfalso
        have i1 := own_inj (own_six p0) (own_six p1) (Fld.ne F_s_PERMIT_ordinal F_s_DENY_ordinal (by decide)) (Fld.ne F_s_PERMIT_ordinal F_s_NOT_APPLICABLE_ordinal (by decide)) (Fld.ne F_s_PERMIT_ordinal F_s_INDETERMINATE_D_ordinal (by decide)) (Fld.ne F_s_PERMIT_ordinal F_s_INDETERMINATE_P_ordinal (by decide)) (Fld.ne F_s_PERMIT_ordinal F_s_INDETERMINATE_DP_ordinal (by decide)) (Fld.ne F_s_DENY_ordinal F_s_NOT_APPLICABLE_ordinal (by decide)) (Fld.ne F_s_DENY_ordinal F_s_INDETERMINATE_D_ordinal (by decide)) (Fld.ne F_s_DENY_ordinal F_s_INDETERMINATE_P_ordinal (by decide)) (Fld.ne F_s_DENY_ordinal F_s_INDETERMINATE_DP_ordinal (by decide)) (Fld.ne F_s_NOT_APPLICABLE_ordinal F_s_INDETERMINATE_D_ordinal (by decide)) (Fld.ne F_s_NOT_APPLICABLE_ordinal F_s_INDETERMINATE_P_ordinal (by decide)) (Fld.ne F_s_NOT_APPLICABLE_ordinal F_s_INDETERMINATE_DP_ordinal (by decide)) (Fld.ne F_s_INDETERMINATE_D_ordinal F_s_INDETERMINATE_P_ordinal (by decide)) (Fld.ne F_s_INDETERMINATE_D_ordinal F_s_INDETERMINATE_DP_ordinal (by decide)) (Fld.ne F_s_INDETERMINATE_P_ordinal F_s_INDETERMINATE_DP_ordinal (by decide))
        apply hc67
        subst hv56
        subst hr39
        subst hr11
        subst hv6
        subst hv4
        subst hv2
        unfold own_eq
        have i2 := @eq_comm Addr (own_pick ((p1 &&& (2147483647 : Int32)) % (6 : Int32)) s_PERMIT s_DENY s_NOT_APPLICABLE s_INDETERMINATE_D s_INDETERMINATE_P s_INDETERMINATE_DP) (own_pick ((p0 &&& (2147483647 : Int32)) % (6 : Int32)) s_PERMIT s_DENY s_NOT_APPLICABLE s_INDETERMINATE_D s_INDETERMINATE_P s_INDETERMINATE_DP)
        simp only [i2, i1]
  · skip
    have ks70 : own_R p e below (s₁.setTop (entryFrame m #[(.int p0), (.int p1), (.int p2)] maxLocals)) (T25.setTop (mkF m 76 #[.val (.int p0), .val (.int p1), .val (.int p2), .val (.int v2), .val (.int v4), .val (.int v6), .val (.ref b8), .unset, .unset] [(.int (1 : Int32)), (.int v6)])) := fun t k => ks27 t (by
      show Steps p.tables e below (T25.setTop (mkF m 40 #[.val (.int p0), .val (.int p1), .val (.int p2), .val (.int v2), .val (.int v4), .val (.int v6), .val (.ref b8), .unset, .unset] [(.int v6)])) _
      refine XS.ifYes X25.here hx rfl (pc0 := 40) (pc' := 73) rfl (hb hby at_40) rfl ((if0 _ _).trans (feq hc28).2) (by decide) (by decide) ?_
      show Steps p.tables e below (T25.setTop (mkF m 73 #[.val (.int p0), .val (.int p1), .val (.int p2), .val (.int v2), .val (.int v4), .val (.int v6), .val (.ref b8), .unset, .unset] [])) _
      refine XS.iload X25.here hx rfl (hb hby at_73) rfl ?_
      show Steps p.tables e below (T25.setTop (mkF m 75 #[.val (.int p0), .val (.int p1), .val (.int p2), .val (.int v2), .val (.int v4), .val (.int v6), .val (.ref b8), .unset, .unset] [(.int v6)])) _
      refine XS.iconst X25.here hx rfl (hb hby at_75) ?_
      exact k)
    by_cases hc71 : v6 = (1 : Int32)
    · skip
      have ks72 : own_R p e below (s₁.setTop (entryFrame m #[(.int p0), (.int p1), (.int p2)] maxLocals)) (T25.setTop (mkF m 137 #[.val (.int p0), .val (.int p1), .val (.int p2), .val (.int v2), .val (.int v4), .val (.int v6), .val (.ref b8), .val .null, .val (.int (0 : Int32))] [.null, (.ref b8)])) := fun t k => ks70 t (by
        show Steps p.tables e below (T25.setTop (mkF m 76 #[.val (.int p0), .val (.int p1), .val (.int p2), .val (.int v2), .val (.int v4), .val (.int v6), .val (.ref b8), .unset, .unset] [(.int (1 : Int32)), (.int v6)])) _
        refine XS.icmpNo X25.here hx rfl (hb hby at_76) rfl (teq hc71).2 ?_
        show Steps p.tables e below (T25.setTop (mkF m 79 #[.val (.int p0), .val (.int p1), .val (.int p2), .val (.int v2), .val (.int v4), .val (.int v6), .val (.ref b8), .unset, .unset] [])) _
        refine XS.aconstNull X25.here hx rfl (hb hby at_79) ?_
        show Steps p.tables e below (T25.setTop (mkF m 80 #[.val (.int p0), .val (.int p1), .val (.int p2), .val (.int v2), .val (.int v4), .val (.int v6), .val (.ref b8), .unset, .unset] [.null])) _
        refine XS.astore X25.here hx rfl (hb hby at_80) rfl rfl (l' := #[.val (.int p0), .val (.int p1), .val (.int p2), .val (.int v2), .val (.int v4), .val (.int v6), .val (.ref b8), .val .null, .unset]) rfl ?_
        show Steps p.tables e below (T25.setTop (mkF m 82 #[.val (.int p0), .val (.int p1), .val (.int p2), .val (.int v2), .val (.int v4), .val (.int v6), .val (.ref b8), .val .null, .unset] [])) _
        refine XS.iconst X25.here hx rfl (hb hby at_82) ?_
        show Steps p.tables e below (T25.setTop (mkF m 83 #[.val (.int p0), .val (.int p1), .val (.int p2), .val (.int v2), .val (.int v4), .val (.int v6), .val (.ref b8), .val .null, .unset] [(.int (0 : Int32))])) _
        refine XS.istore X25.here hx rfl (hb hby at_83) rfl (l' := #[.val (.int p0), .val (.int p1), .val (.int p2), .val (.int v2), .val (.int v4), .val (.int v6), .val (.ref b8), .val .null, .val (.int (0 : Int32))]) rfl ?_
        show Steps p.tables e below (T25.setTop (mkF m 85 #[.val (.int p0), .val (.int p1), .val (.int p2), .val (.int v2), .val (.int v4), .val (.int v6), .val (.ref b8), .val .null, .val (.int (0 : Int32))] [])) _
        refine XS.goto X25.here hx rfl (pc0 := 85) (pc' := 133) rfl (hb hby at_85) (by decide) (by decide) ?_
        show Steps p.tables e below (T25.setTop (mkF m 133 #[.val (.int p0), .val (.int p1), .val (.int p2), .val (.int v2), .val (.int v4), .val (.int v6), .val (.ref b8), .val .null, .val (.int (0 : Int32))] [])) _
        refine XS.aload X25.here hx rfl (hb hby at_133) rfl rfl ?_
        show Steps p.tables e below (T25.setTop (mkF m 135 #[.val (.int p0), .val (.int p1), .val (.int p2), .val (.int v2), .val (.int v4), .val (.int v6), .val (.ref b8), .val .null, .val (.int (0 : Int32))] [(.ref b8)])) _
        refine XS.aload X25.here hx rfl (hb hby at_135) rfl rfl ?_
        exact k)
      obtain ⟨cq73, kq73, q73a, q73b, q73c⟩ := isOf hZ rfl Ex25
      obtain ⟨_, _, ⟨T73, L73, k73, n73⟩, -, X73, ⟨Lc73, hQ73, lq73, yq73, zq73⟩, st73⟩ := X25.virtualBack hx (y := (⟨"com/example/nodeward/nodeward/model/ConditionalDecision$Settled", "equals", "(Ljava/lang/Object;)Z"⟩ : MethodName)) (z := (⟨"com/example/nodeward/nodeward/model/ConditionalDecision$Settled", "equals", "(Ljava/lang/Object;)Z"⟩ : MethodName)) hown (mvT hZ (hw _ (List.mem_of_getElem? (i := 38) rfl))) (mvT hZ (hw _ (List.mem_of_getElem? (i := 39) rfl))) (notFace_of_selects (args := #[]) (mvT hZ (hw _ (List.mem_of_getElem? (i := 41) rfl)))) (mvT hZ (hw _ (List.mem_of_getElem? (i := 41) rfl))) (mvT hZ (hw _ (List.mem_of_getElem? (i := 40) rfl))) (by decide) (backOf (W := 0) (rm6n l Z a0 hw [] b8 T25.heap n0 Zn25 ) hZ (hw _ (List.mem_of_getElem? (i := 42) rfl)) (hw _ (List.mem_of_getElem? (i := 3) rfl)) (by decide) (by decide)) q73a q73c (g := (mkF m 137 #[.val (.int p0), .val (.int p1), .val (.int p2), .val (.int v2), .val (.int v4), .val (.int v6), .val (.ref b8), .val .null, .val (.int (0 : Int32))] [.null, (.ref b8)])) rfl (by rw [hml]; rfl) (Steps.refl _) (argsL := [.null]) (rest := []) (lenOf pd_4 rfl) rfl (by show 2 * 0 + _ ≤ _; exact Nat.le_of_eq rfl) (hb hby at_137) (fun _ _ => ⟨rfl, rfl, (by decide : 3 + 0 ≤ _), (by decide : 37 + 0 ≤ _)⟩)
      dsimp only [Pt.U, Pt.locs, Pt.cells, Pt.slots] at X73 lq73 yq73 zq73 st73 hQ73
      subst lq73 yq73 zq73
      obtain ⟨rfl, Nq73, eq73⟩ := hQ73
      have N73 := Fr.app N25 Nq73
      have ks74 : own_R p e below (s₁.setTop (entryFrame m #[(.int p0), (.int p1), (.int p2)] maxLocals)) (T73.setTop (mkF m 140 #[.val (.int p0), .val (.int p1), .val (.int p2), .val (.int v2), .val (.int v4), .val (.int v6), .val (.ref b8), .val .null, .val (.int (0 : Int32))] [(.int (0 : Int32))])) := fun t k => ks72 t (st73.trans k)
      have ks75 : own_R p e below (s₁.setTop (entryFrame m #[(.int p0), (.int p1), (.int p2)] maxLocals)) (T73.setTop (mkF m 150 #[.val (.int p0), .val (.int p1), .val (.int p2), .val (.int v2), .val (.int v4), .val (.int v6), .val (.ref b8), .val .null, .val (.int (0 : Int32))] [(.int (1 : Int32))])) := fun t k => ks74 t (by
        show Steps p.tables e below (T73.setTop (mkF m 140 #[.val (.int p0), .val (.int p1), .val (.int p2), .val (.int v2), .val (.int v4), .val (.int v6), .val (.ref b8), .val .null, .val (.int (0 : Int32))] [(.int (0 : Int32))])) _
        refine XS.iload X73.here hx rfl (hb hby at_140) rfl ?_
        show Steps p.tables e below (T73.setTop (mkF m 142 #[.val (.int p0), .val (.int p1), .val (.int p2), .val (.int v2), .val (.int v4), .val (.int v6), .val (.ref b8), .val .null, .val (.int (0 : Int32))] [(.int (0 : Int32)), (.int (0 : Int32))])) _
        refine XS.icmpNo X73.here hx rfl (hb hby at_142) rfl (teq (by decide)).2 ?_
        show Steps p.tables e below (T73.setTop (mkF m 145 #[.val (.int p0), .val (.int p1), .val (.int p2), .val (.int v2), .val (.int v4), .val (.int v6), .val (.ref b8), .val .null, .val (.int (0 : Int32))] [])) _
        refine XS.iconst X73.here hx rfl (hb hby at_145) ?_
        show Steps p.tables e below (T73.setTop (mkF m 146 #[.val (.int p0), .val (.int p1), .val (.int p2), .val (.int v2), .val (.int v4), .val (.int v6), .val (.ref b8), .val .null, .val (.int (0 : Int32))] [(.int (1 : Int32))])) _
        refine XS.goto X73.here hx rfl (pc0 := 146) (pc' := 150) rfl (hb hby at_146) (by decide) (by decide) ?_
        exact k)
      obtain ⟨fs, hr, hrun, hended, hEnd⟩ := X73.leaveW hS25 (by rw [eq73]; exact (Nat.le_refl T25.heap.size)) (v := some (.int (1 : Int32))) (fun h => by rw [Bd.returns] at h; cases h)
      refine ⟨_, _, ks75 _ ?_, hrun, hended, _, _, rfl, ?_, hEnd.1, hEnd.2.1, hEnd.2.2.1, hEnd.2.2.2.mono (by decide) (by decide)⟩
      · exact retN X73 hx (t := .boolean) Bd.returns (by simp) (hb hby at_150) hr
      · show Q0 Z p0 p1 p2 u1 cl1 s_PERMIT s_INDETERMINATE_D s_DENY s_NOT_APPLICABLE s_INDETERMINATE_DP s_INDETERMINATE_P h0 n0 _ T73.heap _
        rw [eq73]
        exact ⟨rfl, N73⟩
    · skip
      have ks76 : own_R p e below (s₁.setTop (entryFrame m #[(.int p0), (.int p1), (.int p2)] maxLocals)) (T25.setTop (mkF m 91 #[.val (.int p0), .val (.int p1), .val (.int p2), .val (.int v2), .val (.int v4), .val (.int v6), .val (.ref b8), .unset, .unset] [(.int (2 : Int32)), (.int v6)])) := fun t k => ks70 t (by
        show Steps p.tables e below (T25.setTop (mkF m 76 #[.val (.int p0), .val (.int p1), .val (.int p2), .val (.int v2), .val (.int v4), .val (.int v6), .val (.ref b8), .unset, .unset] [(.int (1 : Int32)), (.int v6)])) _
        refine XS.icmpYes X25.here hx rfl (pc0 := 76) (pc' := 88) rfl (hb hby at_76) rfl (feq hc71).2 (by decide) (by decide) ?_
        show Steps p.tables e below (T25.setTop (mkF m 88 #[.val (.int p0), .val (.int p1), .val (.int p2), .val (.int v2), .val (.int v4), .val (.int v6), .val (.ref b8), .unset, .unset] [])) _
        refine XS.iload X25.here hx rfl (hb hby at_88) rfl ?_
        show Steps p.tables e below (T25.setTop (mkF m 90 #[.val (.int p0), .val (.int p1), .val (.int p2), .val (.int v2), .val (.int v4), .val (.int v6), .val (.ref b8), .unset, .unset] [(.int v6)])) _
        refine XS.iconst X25.here hx rfl (hb hby at_90) ?_
        exact k)
      by_cases hc77 : v6 = (2 : Int32)
      · skip
        have ks78 : own_R p e below (s₁.setTop (entryFrame m #[(.int p0), (.int p1), (.int p2)] maxLocals)) (T25.setTop (mkF m 96 #[.val (.int p0), .val (.int p1), .val (.int p2), .val (.int v2), .val (.int v4), .val (.int v6), .val (.ref b8), .unset, .unset] [(.int v4)])) := fun t k => ks76 t (by
          show Steps p.tables e below (T25.setTop (mkF m 91 #[.val (.int p0), .val (.int p1), .val (.int p2), .val (.int v2), .val (.int v4), .val (.int v6), .val (.ref b8), .unset, .unset] [(.int (2 : Int32)), (.int v6)])) _
          refine XS.icmpNo X25.here hx rfl (hb hby at_91) rfl (teq hc77).2 ?_
          show Steps p.tables e below (T25.setTop (mkF m 94 #[.val (.int p0), .val (.int p1), .val (.int p2), .val (.int v2), .val (.int v4), .val (.int v6), .val (.ref b8), .unset, .unset] [])) _
          refine XS.iload X25.here hx rfl (hb hby at_94) rfl ?_
          exact k)
        have f80 := own_sta_keep S_s_PERMIT KH25
        have f81 := own_sta_keep S_s_DENY KH25
        have f82 := own_sta_keep S_s_NOT_APPLICABLE KH25
        have f83 := own_sta_keep S_s_INDETERMINATE_D KH25
        have f84 := own_sta_keep S_s_INDETERMINATE_P KH25
        have f85 := own_sta_keep S_s_INDETERMINATE_DP KH25
        obtain ⟨_, _, ⟨T79, L79, k79, n79⟩, -, X79, ⟨Lc79, hQ79, lq79, yq79, zq79⟩, st79⟩ := Jvm.LawKit.callS X25 hx (y := (⟨"com/example/nodeward/nodeward/model/SettledEqualsPinLaw", "pick", "(I)Lcom/example/nodeward/nodeward/model/ExtendedDecision;"⟩ : MethodName)) hown (mvT hZ (hw _ (List.mem_of_getElem? (i := 4) rfl))) (mvT hZ (hw _ (List.mem_of_getElem? (i := 5) rfl))) (mvT hZ (hw _ (List.mem_of_getElem? (i := 6) rfl))) (mvT hZ (hw _ (List.mem_of_getElem? (i := 7) rfl))) (by decide) (backOf (W := 0) (rm1 l Z a0 hw [] v4 s_PERMIT s_DENY s_NOT_APPLICABLE s_INDETERMINATE_D s_INDETERMINATE_P s_INDETERMINATE_DP T25.heap n0 Zn25 f80 f81 f82 f83 f84 f85) hZ (hw _ (List.mem_of_getElem? (i := 7) rfl)) (hw _ (List.mem_of_getElem? (i := 6) rfl)) (by decide) (by decide)) (g := (mkF m 96 #[.val (.int p0), .val (.int p1), .val (.int p2), .val (.int v2), .val (.int v4), .val (.int v6), .val (.ref b8), .unset, .unset] [(.int v4)])) rfl (by rw [hml]; rfl) (argsL := [(.int v4)]) (rest := []) (lenOf pd_0 rfl) rfl (by show 2 * 0 + _ ≤ _; exact Nat.le_of_eq rfl) (hb hby at_96) (fun _ _ => ⟨rfl, rfl, (by decide : 3 + 0 ≤ _), (by decide : 37 + 0 ≤ _)⟩)
        dsimp only [Pt.U, Pt.locs, Pt.cells, Pt.slots] at X79 lq79 yq79 zq79 st79 hQ79
        subst lq79 yq79 zq79
        obtain ⟨rfl, Nq79, eq79⟩ := hQ79
        have N79 := Fr.app N25 Nq79
        obtain ⟨r79, hr79⟩ : ∃ z : Addr, z = (own_pick v4 s_PERMIT s_DENY s_NOT_APPLICABLE s_INDETERMINATE_D s_INDETERMINATE_P s_INDETERMINATE_DP) := ⟨_, rfl⟩
        rw [← hr79] at st79
        have f86 := E_s_PERMIT.keep KH25
        have f87 := E_s_DENY.keep KH25
        have f88 := E_s_NOT_APPLICABLE.keep KH25
        have f89 := E_s_INDETERMINATE_D.keep KH25
        have f90 := E_s_INDETERMINATE_P.keep KH25
        have f91 := E_s_INDETERMINATE_DP.keep KH25
        have EP79 : Exa Z T25.heap r79 "com/example/nodeward/nodeward/model/ExtendedDecision" := by rw [hr79]; exact own_exa _ f86 f87 f88 f89 f90 f91
        have ks92 : own_R p e below (s₁.setTop (entryFrame m #[(.int p0), (.int p1), (.int p2)] maxLocals)) (T79.setTop (mkF m 99 #[.val (.int p0), .val (.int p1), .val (.int p2), .val (.int v2), .val (.int v4), .val (.int v6), .val (.ref b8), .unset, .unset] [(.ref r79)])) := fun t k => ks78 t (st79 t k)
        have ks93 : own_R p e below (s₁.setTop (entryFrame m #[(.int p0), (.int p1), (.int p2)] maxLocals)) (T79.setTop (mkF m 137 #[.val (.int p0), .val (.int p1), .val (.int p2), .val (.int v2), .val (.int v4), .val (.int v6), .val (.ref b8), .val (.ref r79), .val (.int (0 : Int32))] [(.ref r79), (.ref b8)])) := fun t k => ks92 t (by
          show Steps p.tables e below (T79.setTop (mkF m 99 #[.val (.int p0), .val (.int p1), .val (.int p2), .val (.int v2), .val (.int v4), .val (.int v6), .val (.ref b8), .unset, .unset] [(.ref r79)])) _
          refine XS.astore X79.here hx rfl (hb hby at_99) rfl rfl (l' := #[.val (.int p0), .val (.int p1), .val (.int p2), .val (.int v2), .val (.int v4), .val (.int v6), .val (.ref b8), .val (.ref r79), .unset]) rfl ?_
          show Steps p.tables e below (T79.setTop (mkF m 101 #[.val (.int p0), .val (.int p1), .val (.int p2), .val (.int v2), .val (.int v4), .val (.int v6), .val (.ref b8), .val (.ref r79), .unset] [])) _
          refine XS.iconst X79.here hx rfl (hb hby at_101) ?_
          show Steps p.tables e below (T79.setTop (mkF m 102 #[.val (.int p0), .val (.int p1), .val (.int p2), .val (.int v2), .val (.int v4), .val (.int v6), .val (.ref b8), .val (.ref r79), .unset] [(.int (0 : Int32))])) _
          refine XS.istore X79.here hx rfl (hb hby at_102) rfl (l' := #[.val (.int p0), .val (.int p1), .val (.int p2), .val (.int v2), .val (.int v4), .val (.int v6), .val (.ref b8), .val (.ref r79), .val (.int (0 : Int32))]) rfl ?_
          show Steps p.tables e below (T79.setTop (mkF m 104 #[.val (.int p0), .val (.int p1), .val (.int p2), .val (.int v2), .val (.int v4), .val (.int v6), .val (.ref b8), .val (.ref r79), .val (.int (0 : Int32))] [])) _
          refine XS.goto X79.here hx rfl (pc0 := 104) (pc' := 133) rfl (hb hby at_104) (by decide) (by decide) ?_
          show Steps p.tables e below (T79.setTop (mkF m 133 #[.val (.int p0), .val (.int p1), .val (.int p2), .val (.int v2), .val (.int v4), .val (.int v6), .val (.ref b8), .val (.ref r79), .val (.int (0 : Int32))] [])) _
          refine XS.aload X79.here hx rfl (hb hby at_133) rfl rfl ?_
          show Steps p.tables e below (T79.setTop (mkF m 135 #[.val (.int p0), .val (.int p1), .val (.int p2), .val (.int v2), .val (.int v4), .val (.int v6), .val (.ref b8), .val (.ref r79), .val (.int (0 : Int32))] [(.ref b8)])) _
          refine XS.aload X79.here hx rfl (hb hby at_135) rfl rfl ?_
          exact k)
        obtain ⟨cq94, kq94, q94a, q94b, q94c⟩ := isOf hZ eq79 Ex25
        obtain ⟨_, _, ⟨T94, L94, k94, n94⟩, -, X94, ⟨Lc94, hQ94, lq94, yq94, zq94⟩, st94⟩ := X79.virtualBack hx (y := (⟨"com/example/nodeward/nodeward/model/ConditionalDecision$Settled", "equals", "(Ljava/lang/Object;)Z"⟩ : MethodName)) (z := (⟨"com/example/nodeward/nodeward/model/ConditionalDecision$Settled", "equals", "(Ljava/lang/Object;)Z"⟩ : MethodName)) hown (mvT hZ (hw _ (List.mem_of_getElem? (i := 38) rfl))) (mvT hZ (hw _ (List.mem_of_getElem? (i := 39) rfl))) (notFace_of_selects (args := #[]) (mvT hZ (hw _ (List.mem_of_getElem? (i := 41) rfl)))) (mvT hZ (hw _ (List.mem_of_getElem? (i := 41) rfl))) (mvT hZ (hw _ (List.mem_of_getElem? (i := 40) rfl))) (by decide) (backOf (W := 0) (rm6e l Z a0 hw [] b8 r79 T25.heap n0 Zn25 EP79 (own_nsE hw)) hZ (hw _ (List.mem_of_getElem? (i := 42) rfl)) (hw _ (List.mem_of_getElem? (i := 3) rfl)) (by decide) (by decide)) q94a q94c (g := (mkF m 137 #[.val (.int p0), .val (.int p1), .val (.int p2), .val (.int v2), .val (.int v4), .val (.int v6), .val (.ref b8), .val (.ref r79), .val (.int (0 : Int32))] [(.ref r79), (.ref b8)])) rfl (by rw [hml]; rfl) (Steps.refl _) (argsL := [(.ref r79)]) (rest := []) (lenOf pd_4 rfl) rfl (by show 2 * 0 + _ ≤ _; exact Nat.le_of_eq rfl) (hb hby at_137) (fun _ _ => ⟨rfl, eq79, (by decide : 3 + 0 ≤ _), (by decide : 37 + 0 ≤ _)⟩)
        dsimp only [Pt.U, Pt.locs, Pt.cells, Pt.slots] at X94 lq94 yq94 zq94 st94 hQ94
        subst lq94 yq94 zq94
        obtain ⟨rfl, Nq94, eq94⟩ := hQ94
        have N94 := Fr.app N79 Nq94
        have ks95 : own_R p e below (s₁.setTop (entryFrame m #[(.int p0), (.int p1), (.int p2)] maxLocals)) (T94.setTop (mkF m 140 #[.val (.int p0), .val (.int p1), .val (.int p2), .val (.int v2), .val (.int v4), .val (.int v6), .val (.ref b8), .val (.ref r79), .val (.int (0 : Int32))] [(.int (0 : Int32))])) := fun t k => ks93 t (st94.trans k)
        have ks96 : own_R p e below (s₁.setTop (entryFrame m #[(.int p0), (.int p1), (.int p2)] maxLocals)) (T94.setTop (mkF m 150 #[.val (.int p0), .val (.int p1), .val (.int p2), .val (.int v2), .val (.int v4), .val (.int v6), .val (.ref b8), .val (.ref r79), .val (.int (0 : Int32))] [(.int (1 : Int32))])) := fun t k => ks95 t (by
          show Steps p.tables e below (T94.setTop (mkF m 140 #[.val (.int p0), .val (.int p1), .val (.int p2), .val (.int v2), .val (.int v4), .val (.int v6), .val (.ref b8), .val (.ref r79), .val (.int (0 : Int32))] [(.int (0 : Int32))])) _
          refine XS.iload X94.here hx rfl (hb hby at_140) rfl ?_
          show Steps p.tables e below (T94.setTop (mkF m 142 #[.val (.int p0), .val (.int p1), .val (.int p2), .val (.int v2), .val (.int v4), .val (.int v6), .val (.ref b8), .val (.ref r79), .val (.int (0 : Int32))] [(.int (0 : Int32)), (.int (0 : Int32))])) _
          refine XS.icmpNo X94.here hx rfl (hb hby at_142) rfl (teq (by decide)).2 ?_
          show Steps p.tables e below (T94.setTop (mkF m 145 #[.val (.int p0), .val (.int p1), .val (.int p2), .val (.int v2), .val (.int v4), .val (.int v6), .val (.ref b8), .val (.ref r79), .val (.int (0 : Int32))] [])) _
          refine XS.iconst X94.here hx rfl (hb hby at_145) ?_
          show Steps p.tables e below (T94.setTop (mkF m 146 #[.val (.int p0), .val (.int p1), .val (.int p2), .val (.int v2), .val (.int v4), .val (.int v6), .val (.ref b8), .val (.ref r79), .val (.int (0 : Int32))] [(.int (1 : Int32))])) _
          refine XS.goto X94.here hx rfl (pc0 := 146) (pc' := 150) rfl (hb hby at_146) (by decide) (by decide) ?_
          exact k)
        obtain ⟨fs, hr, hrun, hended, hEnd⟩ := X94.leaveW hS25 (by rw [eq94]; exact (Nat.le_refl T25.heap.size)) (v := some (.int (1 : Int32))) (fun h => by rw [Bd.returns] at h; cases h)
        refine ⟨_, _, ks96 _ ?_, hrun, hended, _, _, rfl, ?_, hEnd.1, hEnd.2.1, hEnd.2.2.1, hEnd.2.2.2.mono (by decide) (by decide)⟩
        · exact retN X94 hx (t := .boolean) Bd.returns (by simp) (hb hby at_150) hr
        · show Q0 Z p0 p1 p2 u1 cl1 s_PERMIT s_INDETERMINATE_D s_DENY s_NOT_APPLICABLE s_INDETERMINATE_DP s_INDETERMINATE_P h0 n0 _ T94.heap _
          rw [eq94]
          exact ⟨rfl, N94⟩
      · skip
        have ks97 : own_R p e below (s₁.setTop (entryFrame m #[(.int p0), (.int p1), (.int p2)] maxLocals)) (T25.setTop (mkF m 110 #[.val (.int p0), .val (.int p1), .val (.int p2), .val (.int v2), .val (.int v4), .val (.int v6), .val (.ref b8), .unset, .unset] [(.int (3 : Int32)), (.int v6)])) := fun t k => ks76 t (by
          show Steps p.tables e below (T25.setTop (mkF m 91 #[.val (.int p0), .val (.int p1), .val (.int p2), .val (.int v2), .val (.int v4), .val (.int v6), .val (.ref b8), .unset, .unset] [(.int (2 : Int32)), (.int v6)])) _
          refine XS.icmpYes X25.here hx rfl (pc0 := 91) (pc' := 107) rfl (hb hby at_91) rfl (feq hc77).2 (by decide) (by decide) ?_
          show Steps p.tables e below (T25.setTop (mkF m 107 #[.val (.int p0), .val (.int p1), .val (.int p2), .val (.int v2), .val (.int v4), .val (.int v6), .val (.ref b8), .unset, .unset] [])) _
          refine XS.iload X25.here hx rfl (hb hby at_107) rfl ?_
          show Steps p.tables e below (T25.setTop (mkF m 109 #[.val (.int p0), .val (.int p1), .val (.int p2), .val (.int v2), .val (.int v4), .val (.int v6), .val (.ref b8), .unset, .unset] [(.int v6)])) _
          refine XS.iconst X25.here hx rfl (hb hby at_109) ?_
          exact k)
        by_cases hc98 : v6 = (3 : Int32)
        · skip
          have ks99 : own_R p e below (s₁.setTop (entryFrame m #[(.int p0), (.int p1), (.int p2)] maxLocals)) (T25.setTop (mkF m 115 #[.val (.int p0), .val (.int p1), .val (.int p2), .val (.int v2), .val (.int v4), .val (.int v6), .val (.ref b8), .unset, .unset] [(.int v4)])) := fun t k => ks97 t (by
            show Steps p.tables e below (T25.setTop (mkF m 110 #[.val (.int p0), .val (.int p1), .val (.int p2), .val (.int v2), .val (.int v4), .val (.int v6), .val (.ref b8), .unset, .unset] [(.int (3 : Int32)), (.int v6)])) _
            refine XS.icmpNo X25.here hx rfl (hb hby at_110) rfl (teq hc98).2 ?_
            show Steps p.tables e below (T25.setTop (mkF m 113 #[.val (.int p0), .val (.int p1), .val (.int p2), .val (.int v2), .val (.int v4), .val (.int v6), .val (.ref b8), .unset, .unset] [])) _
            refine XS.iload X25.here hx rfl (hb hby at_113) rfl ?_
            exact k)
          have f101 := own_sta_keep S0 KH25
          have f102 := own_sta_keep S1 KH25
          obtain ⟨_, _, ⟨T100, L100, k100, n100⟩, -, X100, ⟨Lc100, hQ100, lq100, yq100, zq100⟩, st100⟩ := Jvm.LawKit.callS X25 hx (y := (⟨"java/lang/Integer", "valueOf", "(I)Ljava/lang/Integer;"⟩ : MethodName)) hown (mvT hZ (hw _ (List.mem_of_getElem? (i := 49) rfl))) (mvT hZ (hw _ (List.mem_of_getElem? (i := 50) rfl))) (mvT hZ (hw _ (List.mem_of_getElem? (i := 51) rfl))) (mvT hZ (hw _ (List.mem_of_getElem? (i := 52) rfl))) (by decide) (backOf (W := 0) (rm7 l Z a0 hw [] v4 u1 cl1 T25.heap n0 Zn25 (own_small _ (by rw [hv4]; exact own_six p1)) (O0.keep KH25 all0) f101 f102 (own_arr_keep A1 KH25) hs1 B1) hZ (hw _ (List.mem_of_getElem? (i := 52) rfl)) (hw _ (List.mem_of_getElem? (i := 51) rfl)) (by decide) (by decide)) (g := (mkF m 115 #[.val (.int p0), .val (.int p1), .val (.int p2), .val (.int v2), .val (.int v4), .val (.int v6), .val (.ref b8), .unset, .unset] [(.int v4)])) rfl (by rw [hml]; rfl) (argsL := [(.int v4)]) (rest := []) (lenOf pd_5 rfl) rfl (by show 2 * 0 + _ ≤ _; exact Nat.le_of_eq rfl) (hb hby at_115) (fun _ _ => ⟨rfl, rfl, (by decide : 3 + 0 ≤ _), (by decide : 37 + 0 ≤ _)⟩)
          dsimp only [Pt.U, Pt.locs, Pt.cells, Pt.slots] at X100 lq100 yq100 zq100 st100 hQ100
          subst lq100 yq100 zq100
          obtain ⟨bb100, rfl, Nq100, eq100, Ex100⟩ := hQ100
          have N100 := Fr.app N25 Nq100
          rw [eq100] at Ex100
          have ks103 : own_R p e below (s₁.setTop (entryFrame m #[(.int p0), (.int p1), (.int p2)] maxLocals)) (T100.setTop (mkF m 118 #[.val (.int p0), .val (.int p1), .val (.int p2), .val (.int v2), .val (.int v4), .val (.int v6), .val (.ref b8), .unset, .unset] [(.ref bb100)])) := fun t k => ks99 t (st100 t k)
          have ks104 : own_R p e below (s₁.setTop (entryFrame m #[(.int p0), (.int p1), (.int p2)] maxLocals)) (T100.setTop (mkF m 137 #[.val (.int p0), .val (.int p1), .val (.int p2), .val (.int v2), .val (.int v4), .val (.int v6), .val (.ref b8), .val (.ref bb100), .val (.int (0 : Int32))] [(.ref bb100), (.ref b8)])) := fun t k => ks103 t (by
            show Steps p.tables e below (T100.setTop (mkF m 118 #[.val (.int p0), .val (.int p1), .val (.int p2), .val (.int v2), .val (.int v4), .val (.int v6), .val (.ref b8), .unset, .unset] [(.ref bb100)])) _
            refine XS.astore X100.here hx rfl (hb hby at_118) rfl rfl (l' := #[.val (.int p0), .val (.int p1), .val (.int p2), .val (.int v2), .val (.int v4), .val (.int v6), .val (.ref b8), .val (.ref bb100), .unset]) rfl ?_
            show Steps p.tables e below (T100.setTop (mkF m 120 #[.val (.int p0), .val (.int p1), .val (.int p2), .val (.int v2), .val (.int v4), .val (.int v6), .val (.ref b8), .val (.ref bb100), .unset] [])) _
            refine XS.iconst X100.here hx rfl (hb hby at_120) ?_
            show Steps p.tables e below (T100.setTop (mkF m 121 #[.val (.int p0), .val (.int p1), .val (.int p2), .val (.int v2), .val (.int v4), .val (.int v6), .val (.ref b8), .val (.ref bb100), .unset] [(.int (0 : Int32))])) _
            refine XS.istore X100.here hx rfl (hb hby at_121) rfl (l' := #[.val (.int p0), .val (.int p1), .val (.int p2), .val (.int v2), .val (.int v4), .val (.int v6), .val (.ref b8), .val (.ref bb100), .val (.int (0 : Int32))]) rfl ?_
            show Steps p.tables e below (T100.setTop (mkF m 123 #[.val (.int p0), .val (.int p1), .val (.int p2), .val (.int v2), .val (.int v4), .val (.int v6), .val (.ref b8), .val (.ref bb100), .val (.int (0 : Int32))] [])) _
            refine XS.goto X100.here hx rfl (pc0 := 123) (pc' := 133) rfl (hb hby at_123) (by decide) (by decide) ?_
            show Steps p.tables e below (T100.setTop (mkF m 133 #[.val (.int p0), .val (.int p1), .val (.int p2), .val (.int v2), .val (.int v4), .val (.int v6), .val (.ref b8), .val (.ref bb100), .val (.int (0 : Int32))] [])) _
            refine XS.aload X100.here hx rfl (hb hby at_133) rfl rfl ?_
            show Steps p.tables e below (T100.setTop (mkF m 135 #[.val (.int p0), .val (.int p1), .val (.int p2), .val (.int v2), .val (.int v4), .val (.int v6), .val (.ref b8), .val (.ref bb100), .val (.int (0 : Int32))] [(.ref b8)])) _
            refine XS.aload X100.here hx rfl (hb hby at_135) rfl rfl ?_
            exact k)
          obtain ⟨cq105, kq105, q105a, q105b, q105c⟩ := isOf hZ eq100 Ex25
          obtain ⟨_, _, ⟨T105, L105, k105, n105⟩, -, X105, ⟨Lc105, hQ105, lq105, yq105, zq105⟩, st105⟩ := X100.virtualBack hx (y := (⟨"com/example/nodeward/nodeward/model/ConditionalDecision$Settled", "equals", "(Ljava/lang/Object;)Z"⟩ : MethodName)) (z := (⟨"com/example/nodeward/nodeward/model/ConditionalDecision$Settled", "equals", "(Ljava/lang/Object;)Z"⟩ : MethodName)) hown (mvT hZ (hw _ (List.mem_of_getElem? (i := 38) rfl))) (mvT hZ (hw _ (List.mem_of_getElem? (i := 39) rfl))) (notFace_of_selects (args := #[]) (mvT hZ (hw _ (List.mem_of_getElem? (i := 41) rfl)))) (mvT hZ (hw _ (List.mem_of_getElem? (i := 41) rfl))) (mvT hZ (hw _ (List.mem_of_getElem? (i := 40) rfl))) (by decide) (backOf (W := 0) (rm6i l Z a0 hw [] b8 bb100 T25.heap n0 Zn25 Ex100 (own_nsI hw)) hZ (hw _ (List.mem_of_getElem? (i := 42) rfl)) (hw _ (List.mem_of_getElem? (i := 3) rfl)) (by decide) (by decide)) q105a q105c (g := (mkF m 137 #[.val (.int p0), .val (.int p1), .val (.int p2), .val (.int v2), .val (.int v4), .val (.int v6), .val (.ref b8), .val (.ref bb100), .val (.int (0 : Int32))] [(.ref bb100), (.ref b8)])) rfl (by rw [hml]; rfl) (Steps.refl _) (argsL := [(.ref bb100)]) (rest := []) (lenOf pd_4 rfl) rfl (by show 2 * 0 + _ ≤ _; exact Nat.le_of_eq rfl) (hb hby at_137) (fun _ _ => ⟨rfl, eq100, (by decide : 3 + 0 ≤ _), (by decide : 37 + 0 ≤ _)⟩)
          dsimp only [Pt.U, Pt.locs, Pt.cells, Pt.slots] at X105 lq105 yq105 zq105 st105 hQ105
          subst lq105 yq105 zq105
          obtain ⟨rfl, Nq105, eq105⟩ := hQ105
          have N105 := Fr.app N100 Nq105
          have ks106 : own_R p e below (s₁.setTop (entryFrame m #[(.int p0), (.int p1), (.int p2)] maxLocals)) (T105.setTop (mkF m 140 #[.val (.int p0), .val (.int p1), .val (.int p2), .val (.int v2), .val (.int v4), .val (.int v6), .val (.ref b8), .val (.ref bb100), .val (.int (0 : Int32))] [(.int (0 : Int32))])) := fun t k => ks104 t (st105.trans k)
          have ks107 : own_R p e below (s₁.setTop (entryFrame m #[(.int p0), (.int p1), (.int p2)] maxLocals)) (T105.setTop (mkF m 150 #[.val (.int p0), .val (.int p1), .val (.int p2), .val (.int v2), .val (.int v4), .val (.int v6), .val (.ref b8), .val (.ref bb100), .val (.int (0 : Int32))] [(.int (1 : Int32))])) := fun t k => ks106 t (by
            show Steps p.tables e below (T105.setTop (mkF m 140 #[.val (.int p0), .val (.int p1), .val (.int p2), .val (.int v2), .val (.int v4), .val (.int v6), .val (.ref b8), .val (.ref bb100), .val (.int (0 : Int32))] [(.int (0 : Int32))])) _
            refine XS.iload X105.here hx rfl (hb hby at_140) rfl ?_
            show Steps p.tables e below (T105.setTop (mkF m 142 #[.val (.int p0), .val (.int p1), .val (.int p2), .val (.int v2), .val (.int v4), .val (.int v6), .val (.ref b8), .val (.ref bb100), .val (.int (0 : Int32))] [(.int (0 : Int32)), (.int (0 : Int32))])) _
            refine XS.icmpNo X105.here hx rfl (hb hby at_142) rfl (teq (by decide)).2 ?_
            show Steps p.tables e below (T105.setTop (mkF m 145 #[.val (.int p0), .val (.int p1), .val (.int p2), .val (.int v2), .val (.int v4), .val (.int v6), .val (.ref b8), .val (.ref bb100), .val (.int (0 : Int32))] [])) _
            refine XS.iconst X105.here hx rfl (hb hby at_145) ?_
            show Steps p.tables e below (T105.setTop (mkF m 146 #[.val (.int p0), .val (.int p1), .val (.int p2), .val (.int v2), .val (.int v4), .val (.int v6), .val (.ref b8), .val (.ref bb100), .val (.int (0 : Int32))] [(.int (1 : Int32))])) _
            refine XS.goto X105.here hx rfl (pc0 := 146) (pc' := 150) rfl (hb hby at_146) (by decide) (by decide) ?_
            exact k)
          obtain ⟨fs, hr, hrun, hended, hEnd⟩ := X105.leaveW hS25 (by rw [eq105]; exact (Nat.le_refl T25.heap.size)) (v := some (.int (1 : Int32))) (fun h => by rw [Bd.returns] at h; cases h)
          refine ⟨_, _, ks107 _ ?_, hrun, hended, _, _, rfl, ?_, hEnd.1, hEnd.2.1, hEnd.2.2.1, hEnd.2.2.2.mono (by decide) (by decide)⟩
          · exact retN X105 hx (t := .boolean) Bd.returns (by simp) (hb hby at_150) hr
          · show Q0 Z p0 p1 p2 u1 cl1 s_PERMIT s_INDETERMINATE_D s_DENY s_NOT_APPLICABLE s_INDETERMINATE_DP s_INDETERMINATE_P h0 n0 _ T105.heap _
            rw [eq105]
            exact ⟨rfl, N105⟩
        · skip
          have ks108 : own_R p e below (s₁.setTop (entryFrame m #[(.int p0), (.int p1), (.int p2)] maxLocals)) (T25.setTop (mkF m 137 #[.val (.int p0), .val (.int p1), .val (.int p2), .val (.int v2), .val (.int v4), .val (.int v6), .val (.ref b8), .val (.ref b8), .val (.int (1 : Int32))] [(.ref b8), (.ref b8)])) := fun t k => ks97 t (by
            show Steps p.tables e below (T25.setTop (mkF m 110 #[.val (.int p0), .val (.int p1), .val (.int p2), .val (.int v2), .val (.int v4), .val (.int v6), .val (.ref b8), .unset, .unset] [(.int (3 : Int32)), (.int v6)])) _
            refine XS.icmpYes X25.here hx rfl (pc0 := 110) (pc' := 126) rfl (hb hby at_110) rfl (feq hc98).2 (by decide) (by decide) ?_
            show Steps p.tables e below (T25.setTop (mkF m 126 #[.val (.int p0), .val (.int p1), .val (.int p2), .val (.int v2), .val (.int v4), .val (.int v6), .val (.ref b8), .unset, .unset] [])) _
            refine XS.aload X25.here hx rfl (hb hby at_126) rfl rfl ?_
            show Steps p.tables e below (T25.setTop (mkF m 128 #[.val (.int p0), .val (.int p1), .val (.int p2), .val (.int v2), .val (.int v4), .val (.int v6), .val (.ref b8), .unset, .unset] [(.ref b8)])) _
            refine XS.astore X25.here hx rfl (hb hby at_128) rfl rfl (l' := #[.val (.int p0), .val (.int p1), .val (.int p2), .val (.int v2), .val (.int v4), .val (.int v6), .val (.ref b8), .val (.ref b8), .unset]) rfl ?_
            show Steps p.tables e below (T25.setTop (mkF m 130 #[.val (.int p0), .val (.int p1), .val (.int p2), .val (.int v2), .val (.int v4), .val (.int v6), .val (.ref b8), .val (.ref b8), .unset] [])) _
            refine XS.iconst X25.here hx rfl (hb hby at_130) ?_
            show Steps p.tables e below (T25.setTop (mkF m 131 #[.val (.int p0), .val (.int p1), .val (.int p2), .val (.int v2), .val (.int v4), .val (.int v6), .val (.ref b8), .val (.ref b8), .unset] [(.int (1 : Int32))])) _
            refine XS.istore X25.here hx rfl (hb hby at_131) rfl (l' := #[.val (.int p0), .val (.int p1), .val (.int p2), .val (.int v2), .val (.int v4), .val (.int v6), .val (.ref b8), .val (.ref b8), .val (.int (1 : Int32))]) rfl ?_
            show Steps p.tables e below (T25.setTop (mkF m 133 #[.val (.int p0), .val (.int p1), .val (.int p2), .val (.int v2), .val (.int v4), .val (.int v6), .val (.ref b8), .val (.ref b8), .val (.int (1 : Int32))] [])) _
            refine XS.aload X25.here hx rfl (hb hby at_133) rfl rfl ?_
            show Steps p.tables e below (T25.setTop (mkF m 135 #[.val (.int p0), .val (.int p1), .val (.int p2), .val (.int v2), .val (.int v4), .val (.int v6), .val (.ref b8), .val (.ref b8), .val (.int (1 : Int32))] [(.ref b8)])) _
            refine XS.aload X25.here hx rfl (hb hby at_135) rfl rfl ?_
            exact k)
          obtain ⟨cq109, kq109, q109a, q109b, q109c⟩ := isOf hZ rfl Ex25
          obtain ⟨_, _, ⟨T109, L109, k109, n109⟩, -, X109, ⟨Lc109, hQ109, lq109, yq109, zq109⟩, st109⟩ := X25.virtualBack hx (y := (⟨"com/example/nodeward/nodeward/model/ConditionalDecision$Settled", "equals", "(Ljava/lang/Object;)Z"⟩ : MethodName)) (z := (⟨"com/example/nodeward/nodeward/model/ConditionalDecision$Settled", "equals", "(Ljava/lang/Object;)Z"⟩ : MethodName)) hown (mvT hZ (hw _ (List.mem_of_getElem? (i := 38) rfl))) (mvT hZ (hw _ (List.mem_of_getElem? (i := 39) rfl))) (notFace_of_selects (args := #[]) (mvT hZ (hw _ (List.mem_of_getElem? (i := 41) rfl)))) (mvT hZ (hw _ (List.mem_of_getElem? (i := 41) rfl))) (mvT hZ (hw _ (List.mem_of_getElem? (i := 40) rfl))) (by decide) (backOf (W := 0) (rm6s l Z a0 hw [] b8 _ T25.heap n0 Zn25 Ex25 Fx25) hZ (hw _ (List.mem_of_getElem? (i := 42) rfl)) (hw _ (List.mem_of_getElem? (i := 3) rfl)) (by decide) (by decide)) q109a q109c (g := (mkF m 137 #[.val (.int p0), .val (.int p1), .val (.int p2), .val (.int v2), .val (.int v4), .val (.int v6), .val (.ref b8), .val (.ref b8), .val (.int (1 : Int32))] [(.ref b8), (.ref b8)])) rfl (by rw [hml]; rfl) (Steps.refl _) (argsL := [(.ref b8)]) (rest := []) (lenOf pd_4 rfl) rfl (by show 2 * 0 + _ ≤ _; exact Nat.le_of_eq rfl) (hb hby at_137) (fun _ _ => ⟨rfl, rfl, (by decide : 3 + 0 ≤ _), (by decide : 37 + 0 ≤ _)⟩)
          dsimp only [Pt.U, Pt.locs, Pt.cells, Pt.slots] at X109 lq109 yq109 zq109 st109 hQ109
          subst lq109 yq109 zq109
          obtain ⟨rfl, Nq109, eq109⟩ := hQ109
          have N109 := Fr.app N25 Nq109
          have ks110 : own_R p e below (s₁.setTop (entryFrame m #[(.int p0), (.int p1), (.int p2)] maxLocals)) (T109.setTop (mkF m 140 #[.val (.int p0), .val (.int p1), .val (.int p2), .val (.int v2), .val (.int v4), .val (.int v6), .val (.ref b8), .val (.ref b8), .val (.int (1 : Int32))] [(.int (1 : Int32))])) := fun t k => ks108 t (st109.trans k)
          have ks111 : own_R p e below (s₁.setTop (entryFrame m #[(.int p0), (.int p1), (.int p2)] maxLocals)) (T109.setTop (mkF m 150 #[.val (.int p0), .val (.int p1), .val (.int p2), .val (.int v2), .val (.int v4), .val (.int v6), .val (.ref b8), .val (.ref b8), .val (.int (1 : Int32))] [(.int (1 : Int32))])) := fun t k => ks110 t (by
            show Steps p.tables e below (T109.setTop (mkF m 140 #[.val (.int p0), .val (.int p1), .val (.int p2), .val (.int v2), .val (.int v4), .val (.int v6), .val (.ref b8), .val (.ref b8), .val (.int (1 : Int32))] [(.int (1 : Int32))])) _
            refine XS.iload X109.here hx rfl (hb hby at_140) rfl ?_
            show Steps p.tables e below (T109.setTop (mkF m 142 #[.val (.int p0), .val (.int p1), .val (.int p2), .val (.int v2), .val (.int v4), .val (.int v6), .val (.ref b8), .val (.ref b8), .val (.int (1 : Int32))] [(.int (1 : Int32)), (.int (1 : Int32))])) _
            refine XS.icmpNo X109.here hx rfl (hb hby at_142) rfl (teq (by decide)).2 ?_
            show Steps p.tables e below (T109.setTop (mkF m 145 #[.val (.int p0), .val (.int p1), .val (.int p2), .val (.int v2), .val (.int v4), .val (.int v6), .val (.ref b8), .val (.ref b8), .val (.int (1 : Int32))] [])) _
            refine XS.iconst X109.here hx rfl (hb hby at_145) ?_
            show Steps p.tables e below (T109.setTop (mkF m 146 #[.val (.int p0), .val (.int p1), .val (.int p2), .val (.int v2), .val (.int v4), .val (.int v6), .val (.ref b8), .val (.ref b8), .val (.int (1 : Int32))] [(.int (1 : Int32))])) _
            refine XS.goto X109.here hx rfl (pc0 := 146) (pc' := 150) rfl (hb hby at_146) (by decide) (by decide) ?_
            exact k)
          obtain ⟨fs, hr, hrun, hended, hEnd⟩ := X109.leaveW hS25 (by rw [eq109]; exact (Nat.le_refl T25.heap.size)) (v := some (.int (1 : Int32))) (fun h => by rw [Bd.returns] at h; cases h)
          refine ⟨_, _, ks111 _ ?_, hrun, hended, _, _, rfl, ?_, hEnd.1, hEnd.2.1, hEnd.2.2.1, hEnd.2.2.2.mono (by decide) (by decide)⟩
          · exact retN X109 hx (t := .boolean) Bd.returns (by simp) (hb hby at_150) hr
          · show Q0 Z p0 p1 p2 u1 cl1 s_PERMIT s_INDETERMINATE_D s_DENY s_NOT_APPLICABLE s_INDETERMINATE_DP s_INDETERMINATE_P h0 n0 _ T109.heap _
            rw [eq109]
            exact ⟨rfl, N109⟩
set_option maxRecDepth 65536 in
set_option maxHeartbeats 40000000 in
theorem comes_1 {Post : Tables → Env → Array Value → State → Outcome → State → Prop} (hpost : ∀ tb e args s v u, (limb_1_1.after args s (.returned v) u = true ∧ limb_1_2.after args s (.returned v) u = true ∧ True) → ReturnedEndW s (.returned v) u (Jvm.fieldLocs frame_1_writes args s ++ Jvm.arrayLocs frame_1_arrays args s ++ Jvm.staticLocs frame_1_statics s) 16 1152 → Post tb e args s (.returned v) u) :
    ArmFor flags0 classFile x code maxLocals ret World_1 tables_1 room_1 Calls_1 rest_1 Pre_1 Post := by
  intro l hfl _ _ p e ha hc hk s m args below hf hA hF happ hP
  obtain ⟨hcalls, hrest, hpre⟩ := hP
  obtain ⟨-, -, -, hnamed, -, -, -, hat⟩ := (Spec.applies_iff hf).mp happ
  obtain ⟨hg, hn⟩ := and_e (Cond.before_iff.mp (show (Jvm.Cond.and given_1 narrow_1).before args s = true from hpre))
  obtain ⟨g1, g2⟩ := and_e hg
  obtain ⟨g3, g4⟩ := and_e g2
  obtain ⟨g5, g6⟩ := and_e g4
  obtain ⟨g7, g8⟩ := and_e hn
  obtain ⟨g9, g10⟩ := and_e g8
  obtain ⟨g11, g12⟩ := and_e g10
  obtain ⟨g13, g14⟩ := and_e g12
  obtain ⟨g15, g16⟩ := and_e g14
  obtain ⟨g17, g18⟩ := and_e g16
  obtain ⟨g19, g20⟩ := and_e g18
  obtain ⟨g21, g22⟩ := and_e g20
  obtain ⟨g23, g24⟩ := and_e g22
  obtain ⟨g25, g26⟩ := and_e g24
  obtain ⟨g27, g28⟩ := and_e g26
  obtain ⟨w0, w1, w2, rfl⟩ : ∃ w0 w1 w2 : Value, args = #[w0, w1, w2] := by
    have hs : args.size = 3 := by simpa [Cond.value, given_1] using g1
    obtain ⟨L⟩ := args
    match L, hs with
    | [w0, w1, w2], _ => exact ⟨w0, w1, w2, rfl⟩
  have hw := fun d (hd : d ∈ tables_1) => atoms_spec (ws := Jvm.Cond.code x code maxLocals ret :: tables_1) hat d (List.mem_cons_of_mem _ hd)
  have hfit : Fit s := fun {y c} hc i hi => by
    obtain ⟨ha, rfl⟩ := Array.getElem?_eq_some_iff.mp hc
    have q := List.all_eq_true.mp ((Array.all_eq_true_iff_forall_mem.mp hF) _ (Array.getElem_mem ha)) i (List.mem_range.mpr hi)
    simpa [Array.getElem?_eq_getElem hi] using q
  obtain ⟨hsets, hown0⟩ := atoms_of _ (rest_1_c_eq ▸ (show rest_1_c.before _ s = true from hrest))
  have hr0 := Cond.before_iff.mp hown0
  obtain ⟨i0, ei0⟩ := is_v g3
  obtain rfl : w0 = (.int i0) := Option.some.inj ei0
  obtain ⟨i1, ei1⟩ := is_v g5
  obtain rfl : w1 = (.int i1) := Option.some.inj ei1
  obtain ⟨i2, ei2⟩ := is_v g6
  obtain rfl : w2 = (.int i2) := Option.some.inj ei2
  obtain ⟨s_PERMIT, ev_s_PERMIT⟩ := exa_v g7
  have E_s_PERMIT := Exa.start ev_s_PERMIT g7
  have S_s_PERMIT : Sta s s.heap "com/example/nodeward/nodeward/model/ExtendedDecision" "PERMIT" "Lcom/example/nodeward/nodeward/model/ExtendedDecision;" (.ref s_PERMIT) := Sta.start ev_s_PERMIT (Or.inr ⟨(hw _ (List.mem_of_getElem? (i := 9) rfl)), (hw _ (List.mem_of_getElem? (i := 10) rfl))⟩)
  obtain ⟨s_INDETERMINATE_D, ev_s_INDETERMINATE_D⟩ := exa_v g9
  have E_s_INDETERMINATE_D := Exa.start ev_s_INDETERMINATE_D g9
  have S_s_INDETERMINATE_D : Sta s s.heap "com/example/nodeward/nodeward/model/ExtendedDecision" "INDETERMINATE_D" "Lcom/example/nodeward/nodeward/model/ExtendedDecision;" (.ref s_INDETERMINATE_D) := Sta.start ev_s_INDETERMINATE_D (Or.inr ⟨(hw _ (List.mem_of_getElem? (i := 9) rfl)), (hw _ (List.mem_of_getElem? (i := 37) rfl))⟩)
  obtain ⟨s_DENY, ev_s_DENY⟩ := exa_v g11
  have E_s_DENY := Exa.start ev_s_DENY g11
  have S_s_DENY : Sta s s.heap "com/example/nodeward/nodeward/model/ExtendedDecision" "DENY" "Lcom/example/nodeward/nodeward/model/ExtendedDecision;" (.ref s_DENY) := Sta.start ev_s_DENY (Or.inr ⟨(hw _ (List.mem_of_getElem? (i := 9) rfl)), (hw _ (List.mem_of_getElem? (i := 48) rfl))⟩)
  obtain ⟨s_NOT_APPLICABLE, ev_s_NOT_APPLICABLE⟩ := exa_v g13
  have E_s_NOT_APPLICABLE := Exa.start ev_s_NOT_APPLICABLE g13
  have S_s_NOT_APPLICABLE : Sta s s.heap "com/example/nodeward/nodeward/model/ExtendedDecision" "NOT_APPLICABLE" "Lcom/example/nodeward/nodeward/model/ExtendedDecision;" (.ref s_NOT_APPLICABLE) := Sta.start ev_s_NOT_APPLICABLE (Or.inr ⟨(hw _ (List.mem_of_getElem? (i := 9) rfl)), (hw _ (List.mem_of_getElem? (i := 59) rfl))⟩)
  obtain ⟨s_INDETERMINATE_DP, ev_s_INDETERMINATE_DP⟩ := exa_v g15
  have E_s_INDETERMINATE_DP := Exa.start ev_s_INDETERMINATE_DP g15
  have S_s_INDETERMINATE_DP : Sta s s.heap "com/example/nodeward/nodeward/model/ExtendedDecision" "INDETERMINATE_DP" "Lcom/example/nodeward/nodeward/model/ExtendedDecision;" (.ref s_INDETERMINATE_DP) := Sta.start ev_s_INDETERMINATE_DP (Or.inr ⟨(hw _ (List.mem_of_getElem? (i := 9) rfl)), (hw _ (List.mem_of_getElem? (i := 62) rfl))⟩)
  obtain ⟨s_INDETERMINATE_P, ev_s_INDETERMINATE_P⟩ := exa_v g25
  have E_s_INDETERMINATE_P := Exa.start ev_s_INDETERMINATE_P g25
  have S_s_INDETERMINATE_P : Sta s s.heap "com/example/nodeward/nodeward/model/ExtendedDecision" "INDETERMINATE_P" "Lcom/example/nodeward/nodeward/model/ExtendedDecision;" (.ref s_INDETERMINATE_P) := Sta.start ev_s_INDETERMINATE_P (Or.inr ⟨(hw _ (List.mem_of_getElem? (i := 9) rfl)), (hw _ (List.mem_of_getElem? (i := 64) rfl))⟩)
  have F_s_PERMIT_ordinal : Fld s s.heap s_PERMIT "java/lang/Enum" "ordinal" "I" (.int (0 : Int32)) := Fld.start ((fld_at ev_s_PERMIT).symm.trans (own_eqi g17))
  have F_s_NOT_APPLICABLE_ordinal : Fld s s.heap s_NOT_APPLICABLE "java/lang/Enum" "ordinal" "I" (.int (2 : Int32)) := Fld.start ((fld_at ev_s_NOT_APPLICABLE).symm.trans (own_eqi g19))
  have F_s_INDETERMINATE_D_ordinal : Fld s s.heap s_INDETERMINATE_D "java/lang/Enum" "ordinal" "I" (.int (3 : Int32)) := Fld.start ((fld_at ev_s_INDETERMINATE_D).symm.trans (own_eqi g21))
  have F_s_DENY_ordinal : Fld s s.heap s_DENY "java/lang/Enum" "ordinal" "I" (.int (1 : Int32)) := Fld.start ((fld_at ev_s_DENY).symm.trans (own_eqi g23))
  have F_s_INDETERMINATE_P_ordinal : Fld s s.heap s_INDETERMINATE_P "java/lang/Enum" "ordinal" "I" (.int (4 : Int32)) := Fld.start ((fld_at ev_s_INDETERMINATE_P).symm.trans (own_eqi g27))
  have F_s_INDETERMINATE_DP_ordinal : Fld s s.heap s_INDETERMINATE_DP "java/lang/Enum" "ordinal" "I" (.int (5 : Int32)) := Fld.start ((fld_at ev_s_INDETERMINATE_DP).symm.trans (own_eqi g28))
  have S0 : Sta s s.heap "java/lang/Integer$IntegerCache" "high" "I" (.int (127 : Int32)) := Sta.start (own_eqi (Cond.before_iff.mp (hsets _ (List.mem_of_getElem? (i := 3) rfl)))) (Or.inl (hsets _ (List.mem_of_getElem? (i := 1) rfl)))
  have j2 := (Cond.before_iff.mp (hsets _ (List.mem_of_getElem? (i := 4) rfl)))
  obtain ⟨u1, ev1⟩ := arr_v j2
  obtain ⟨cl1, A1⟩ := Arr.start ev1 j2
  have S1 := Sta.start ev1 (Or.inr ⟨(hw _ (List.mem_of_getElem? (i := 54) rfl)), (hsets _ (List.mem_of_getElem? (i := 2) rfl))⟩)
  obtain ⟨ls1, le1⟩ := own_len (Cond.before_iff.mp (hsets _ (List.mem_of_getElem? (i := 6) rfl))) ev1 A1
  have hs1 : cl1.slots.size = 256 := by have := len_toInt ls1; rw [le1] at this; exact Int.ofNat.inj this.symm
  have B1 := own_box_start (fun _ => ev1) A1 hs1 (Cond.before_iff.mp (hsets _ (List.mem_of_getElem? (i := 7) rfl)))
  obtain ⟨n, o, h1, h2, h3, _, L, rfl, ⟨rfl, N⟩, hq⟩ := rm0 l s _ hw tables_1 i0 i1 i2 u1 cl1 s_PERMIT s_INDETERMINATE_D s_DENY s_NOT_APPLICABLE s_INDETERMINATE_DP s_INDETERMINATE_P s.heap s.heap.size (Nat.le_refl _) (Old.start s) S0 S1 A1 hs1 B1 E_s_PERMIT S_s_PERMIT E_s_INDETERMINATE_D S_s_INDETERMINATE_D E_s_DENY S_s_DENY E_s_NOT_APPLICABLE S_s_NOT_APPLICABLE E_s_INDETERMINATE_DP S_s_INDETERMINATE_DP E_s_INDETERMINATE_P S_s_INDETERMINATE_P F_s_PERMIT_ordinal F_s_NOT_APPLICABLE_ordinal F_s_INDETERMINATE_D_ordinal F_s_DENY_ordinal F_s_INDETERMINATE_P_ordinal F_s_INDETERMINATE_DP_ordinal p e ha hc hk s m _ below hf ((Spec.applies_iff_loose hf).mp happ).1 ⟨rfl, State.Warmed39.refl s, rfl⟩ trivial
  refine ⟨n, _, h1, h2, h3, hpost _ _ _ _ _ _ ⟨Cond.after_iff.mpr rfl, Cond.after_iff.mpr (eq_i res_at (Term.int_eval (1)) rfl), trivial⟩ ⟨hq.1, hq.2.1, hq.2.2.1, (hq.2.2.2.sift fun y hy => Or.inr (N y hy)).mono (by decide) (by decide)⟩⟩
theorem main_1_1 : Claimed_1_1 := comes_1 fun _ _ _ _ _ _ h hF => ⟨h.1, hF⟩
theorem main_1_2 : Claimed_1_2 := comes_1 fun _ _ _ _ _ _ h hF => ⟨h.2.1, hF⟩
end Jvm.Pilot.@@N@@
namespace Jvm.Pilot.@@N@@
open Jvm Jvm.ClassFile Sem Op Lib Jvm.Free Jvm.Stand Jvm.Pilot.@@N@@.Jvm.D
/-! MADE BY PROGRAM (witnessworld.py) out of the Statement's table words and the real class files: 23 classes; the members and pool entries that the words name. The judged class is class 1, her method 2. -/
namespace start1
open Jvm.ClassFile
def u (s : String) : CpInfo := .utf8 (stringToUtf16 s)
/-- a pool by its gaps: so many unusable entries, then the entry; so many at the end -/
def gap : Nat → List CpInfo → List CpInfo
  | 0, r => r
  | n + 1, r => .unusable :: gap n r
def poolList (es : List (Nat × CpInfo)) (last : Nat) : List CpInfo := es.foldr (fun e r => gap e.1 (e.2 :: r)) (gap last [])
def pool (es : List (Nat × CpInfo)) (last : Nat) : Array CpInfo := ⟨poolList es last⟩
def fileOf (pool : Array CpInfo) (this : Nat) (attrs : Array Attribute := #[]) (ms : Array MethodInfo := #[]) (fl : Nat := 33) (sup : Nat := 0) (ifs : Array Nat := #[]) (fds : Array FieldInfo := #[]) : ClassFile where
  minorVersion := 0
  majorVersion := 65
  constantPool := pool
  accessFlags := fl
  thisClass := this
  superClass := sup
  interfaces := ifs
  fields := fds
  methods := ms
  attributes := attrs
def plain (name : String) (sup : Option ClassId) : Class where
  name := name
  kind := .ordinary
  loader := none
  accessFlags := 33
  super := sup
  interfaces := #[]
  cf := none
  fields := #[]
  methods := #[]
  instanceTypes := #[]
  staticTypes := #[]
  resolved := #[]
  callSites := []
  init := .initialized
  statics := none
  mirror := none

def pool0 : Array CpInfo := pool [(5, u "<init>"), (0, u "()V"), (1, .class_ 10), (1, u "java/lang/Object")] 113

def k0c0 : Code := { maxStack := 0, maxLocals := 1, code := object_method_1_code, exceptionTable := #[], attributes := #[] }
def k0m0 : Method := { name := "<init>", desc := "()V", sig := { parameters := [], returnType := none }, accessFlags := 1, code := some k0c0 }
/-- java/lang/Object -/
def k0 : Class := { plain "java/lang/Object" none with
  accessFlags := 33
  interfaces := #[]
  cf := some (fileOf pool0 8 #[] #[{ accessFlags := 1, nameIndex := 5, descriptorIndex := 6, attributes := #[] }] 33 0 #[] #[])
  fields := #[]
  methods := #[k0m0]
  instanceTypes := #[]
  staticTypes := #[]
  resolved := Array.replicate 124 none
  statics := none }

def pool1 : Array CpInfo := pool [(2, .class_ 4), (1, u "java/lang/Object"), (0, u "<init>"), (0, u "()V"), (0, .fieldref 8 9), (0, .class_ 10), (0, .nameAndType 11 12), (0, u "com/example/nodeward/nodeward/model/ExtendedDecision"), (0, u "PERMIT"), (0, u "Lcom/example/nodeward/nodeward/model/ExtendedDecision;"), (0, .fieldref 8 14), (0, .nameAndType 15 12), (0, u "DENY"), (0, .fieldref 8 17), (0, .nameAndType 18 12), (0, u "NOT_APPLICABLE"), (0, .fieldref 8 20), (0, .nameAndType 21 12), (0, u "INDETERMINATE_D"), (0, .fieldref 8 23), (0, .nameAndType 24 12), (0, u "INDETERMINATE_P"), (0, .fieldref 8 26), (0, .nameAndType 27 12), (0, u "INDETERMINATE_DP"), (0, .integer 2147483647), (0, .class_ 30), (0, u "com/example/nodeward/nodeward/model/ConditionalDecision$Settled"), (0, .methodref 32 33), (0, .class_ 34), (0, .nameAndType 35 36), (0, u "com/example/nodeward/nodeward/model/SettledEqualsPinLaw"), (0, u "pick"), (0, u "(I)Lcom/example/nodeward/nodeward/model/ExtendedDecision;"), (0, .methodref 29 38), (0, .nameAndType 5 39), (0, u "(Lcom/example/nodeward/nodeward/model/ExtendedDecision;)V"), (0, .methodref 41 42), (0, .class_ 43), (0, .nameAndType 44 45), (0, u "java/lang/Integer"), (0, u "valueOf"), (0, u "(I)Ljava/lang/Integer;"), (0, .methodref 29 47), (0, .nameAndType 48 49), (0, u "equals"), (0, u "(Ljava/lang/Object;)Z"), (3, u "law"), (0, u "(III)Z")] 6

def k1m0 : Method := { name := "<init>", desc := "()V", sig := { parameters := [], returnType := none }, accessFlags := 2, code := none }
def k1c1 : Code := { maxStack := 2, maxLocals := 1, code := method_2_code, exceptionTable := #[], attributes := #[] }
def k1m1 : Method := { name := "pick", desc := "(I)Lcom/example/nodeward/nodeward/model/ExtendedDecision;", sig := { parameters := [.int], returnType := some (.object "com/example/nodeward/nodeward/model/ExtendedDecision") }, accessFlags := 10, code := some k1c1 }
def k1c2 : Code := { maxStack := 3, maxLocals := 9, code := code, exceptionTable := #[], attributes := #[] }
def k1m2 : Method := { name := "law", desc := "(III)Z", sig := { parameters := [.int, .int, .int], returnType := some .boolean }, accessFlags := 9, code := some k1c2 }
/-- com/example/nodeward/nodeward/model/SettledEqualsPinLaw -/
def k1 : Class := { plain "com/example/nodeward/nodeward/model/SettledEqualsPinLaw" (some 0) with
  accessFlags := 49
  interfaces := #[]
  cf := some (fileOf pool1 32 #[] #[{ accessFlags := 2, nameIndex := 5, descriptorIndex := 6, attributes := #[] }, { accessFlags := 10, nameIndex := 35, descriptorIndex := 36, attributes := #[] }, { accessFlags := 9, nameIndex := 53, descriptorIndex := 54, attributes := #[] }] 49 2 #[] #[])
  fields := #[]
  methods := #[k1m0, k1m1, k1m2]
  instanceTypes := #[]
  staticTypes := #[]
  resolved := Array.replicate 61 none
  statics := none }

def pool2 : Array CpInfo := pool [(1, .methodref 2 3), (0, .class_ 4), (0, .nameAndType 5 6), (0, u "java/lang/Object"), (0, u "<init>"), (0, u "()V"), (0, .class_ 8), (0, u "java/lang/Record")] 13

def k2c0 : Code := { maxStack := 1, maxLocals := 1, code := jdk_30_method_1_code, exceptionTable := #[], attributes := #[] }
def k2m0 : Method := { name := "<init>", desc := "()V", sig := { parameters := [], returnType := none }, accessFlags := 4, code := some k2c0 }
/-- java/lang/Record -/
def k2 : Class := { plain "java/lang/Record" (some 0) with
  accessFlags := 1057
  interfaces := #[]
  cf := some (fileOf pool2 7 #[] #[{ accessFlags := 4, nameIndex := 5, descriptorIndex := 6, attributes := #[] }] 1057 2 #[] #[])
  fields := #[]
  methods := #[k2m0]
  instanceTypes := #[]
  staticTypes := #[]
  resolved := Array.replicate 22 none
  statics := none }

def pool3 : Array CpInfo := pool [(2, .class_ 4), (1, u "com/example/nodeward/nodeward/model/ConditionalDecision$1"), (29, .class_ 35), (0, u "com/example/nodeward/nodeward/model/ConditionalDecision$Settled"), (4, .class_ 42), (1, u "com/example/nodeward/nodeward/model/ConditionalDecision"), (6, .class_ 50), (0, u "com/example/nodeward/nodeward/model/ConditionalDecision$Scoped"), (79, .class_ 131), (0, u "com/example/nodeward/nodeward/model/ConditionalDecision$Pending"), (22, .class_ 155), (0, u "com/example/nodeward/nodeward/model/ConditionalDecision$Member"), (9, .class_ 166), (0, u "com/example/nodeward/nodeward/model/ConditionalDecision$Combined"), (133, .class_ 301), (0, u "com/example/nodeward/nodeward/model/ConditionalDecision$Outcome"), (51, .class_ 354), (0, u "java/lang/Object")] 58

/-- com/example/nodeward/nodeward/model/ConditionalDecision -/
def k3 : Class := { plain "com/example/nodeward/nodeward/model/ConditionalDecision" (some 0) with
  accessFlags := 1537
  interfaces := #[]
  cf := some (fileOf pool3 40 #[.nestMembers #[2, 300, 154, 165, 49, 130, 34]] #[] 1537 353 #[] #[])
  fields := #[]
  methods := #[]
  instanceTypes := #[]
  staticTypes := #[]
  resolved := Array.replicate 413 none
  statics := none }

def pool4 : Array CpInfo := pool [(1, .methodref 2 3), (0, .class_ 4), (0, .nameAndType 5 6), (0, u "java/lang/Record"), (0, u "<init>"), (0, u "()V"), (0, .string 8), (0, u "extended"), (0, .methodref 10 11), (0, .class_ 12), (0, .nameAndType 13 14), (0, u "java/util/Objects"), (0, u "requireNonNull"), (0, u "(Ljava/lang/Object;Ljava/lang/String;)Ljava/lang/Object;"), (0, .fieldref 16 17), (0, .class_ 18), (0, .nameAndType 8 19), (0, u "com/example/nodeward/nodeward/model/ConditionalDecision$Settled"), (0, u "Lcom/example/nodeward/nodeward/model/ExtendedDecision;"), (20, .class_ 41), (0, u "com/example/nodeward/nodeward/model/ConditionalDecision"), (0, u "(Lcom/example/nodeward/nodeward/model/ExtendedDecision;)V"), (8, u "equals"), (0, u "(Ljava/lang/Object;)Z")] 29

def k4c0 : Code := { maxStack := 2, maxLocals := 2, code := prog_68_method_1_code, exceptionTable := #[], attributes := #[] }
def k4m0 : Method := { name := "<init>", desc := "(Lcom/example/nodeward/nodeward/model/ExtendedDecision;)V", sig := { parameters := [(.object "com/example/nodeward/nodeward/model/ExtendedDecision")], returnType := none }, accessFlags := 1, code := some k4c0 }
def k4c1 : Code := { maxStack := 2, maxLocals := 2, code := prog_68_method_5_code, exceptionTable := #[], attributes := #[] }
def k4m1 : Method := { name := "equals", desc := "(Ljava/lang/Object;)Z", sig := { parameters := [(.object "java/lang/Object")], returnType := some .boolean }, accessFlags := 1, code := some k4c1 }
/-- com/example/nodeward/nodeward/model/ConditionalDecision$Settled -/
def k4 : Class := { plain "com/example/nodeward/nodeward/model/ConditionalDecision$Settled" (some 2) with
  accessFlags := 49
  interfaces := #[3]
  cf := some (fileOf pool4 16 #[.nestHost 40] #[{ accessFlags := 1, nameIndex := 5, descriptorIndex := 42, attributes := #[] }, { accessFlags := 1, nameIndex := 51, descriptorIndex := 52, attributes := #[] }] 49 2 #[40] #[{ accessFlags := 18, nameIndex := 8, descriptorIndex := 19, attributes := #[] }])
  fields := #[{ name := "extended", type := (.object "com/example/nodeward/nodeward/model/ExtendedDecision"), accessFlags := 18, slot := 0, constantValue := 0 }]
  methods := #[k4m0, k4m1]
  instanceTypes := #[(.object "com/example/nodeward/nodeward/model/ExtendedDecision")]
  staticTypes := #[]
  resolved := Array.replicate 82 none
  statics := none }

def pool5 : Array CpInfo := pool [(1, .class_ 2), (0, u "java/lang/constant/Constable"), (0, .class_ 4), (0, u "java/lang/Object")] 6

/-- java/lang/constant/Constable -/
def k5 : Class := { plain "java/lang/constant/Constable" (some 0) with
  accessFlags := 1537
  interfaces := #[]
  cf := some (fileOf pool5 1 #[] #[] 1537 3 #[] #[])
  fields := #[]
  methods := #[]
  instanceTypes := #[]
  staticTypes := #[]
  resolved := Array.replicate 11 none
  statics := none }

def pool6 : Array CpInfo := pool [(1, .class_ 2), (0, u "java/lang/Comparable"), (0, .class_ 4), (0, u "java/lang/Object")] 7

/-- java/lang/Comparable -/
def k6 : Class := { plain "java/lang/Comparable" (some 0) with
  accessFlags := 1537
  interfaces := #[]
  cf := some (fileOf pool6 1 #[] #[] 1537 3 #[] #[])
  fields := #[]
  methods := #[]
  instanceTypes := #[]
  staticTypes := #[]
  resolved := Array.replicate 12 none
  statics := none }

def pool7 : Array CpInfo := pool [(1, .class_ 2), (0, u "java/io/Serializable"), (0, .class_ 4), (0, u "java/lang/Object")] 2

/-- java/io/Serializable -/
def k7 : Class := { plain "java/io/Serializable" (some 0) with
  accessFlags := 1537
  interfaces := #[]
  cf := some (fileOf pool7 1 #[] #[] 1537 3 #[] #[])
  fields := #[]
  methods := #[]
  instanceTypes := #[]
  staticTypes := #[]
  resolved := Array.replicate 7 none
  statics := none }

def pool8 : Array CpInfo := pool [(2, .class_ 4), (1, u "java/lang/Enum"), (0, u "name"), (0, u "Ljava/lang/String;"), (2, u "ordinal"), (0, u "I"), (1, .class_ 14), (1, u "java/lang/Object"), (4, u "hash"), (86, .class_ 108), (1, u "java/lang/Enum$EnumDesc"), (2, .class_ 112), (0, u "java/lang/constant/Constable"), (0, .class_ 114), (0, u "java/lang/Comparable"), (0, .class_ 116), (0, u "java/io/Serializable")] 87

/-- java/lang/Enum -/
def k8 : Class := { plain "java/lang/Enum" (some 0) with
  accessFlags := 1057
  interfaces := #[5, 6, 7]
  cf := some (fileOf pool8 2 #[.nestMembers #[106]] #[] 1057 12 #[111, 113, 115] #[{ accessFlags := 18, nameIndex := 5, descriptorIndex := 6, attributes := #[] }, { accessFlags := 18, nameIndex := 9, descriptorIndex := 10, attributes := #[] }, { accessFlags := 2, nameIndex := 19, descriptorIndex := 10, attributes := #[] }])
  fields := #[{ name := "name", type := (.object "java/lang/String"), accessFlags := 18, slot := 0, constantValue := 0 }, { name := "ordinal", type := .int, accessFlags := 18, slot := 1, constantValue := 0 }, { name := "hash", type := .int, accessFlags := 2, slot := 2, constantValue := 0 }]
  methods := #[]
  instanceTypes := #[(.object "java/lang/String"), .int, .int]
  staticTypes := #[]
  resolved := Array.replicate 204 none
  statics := none }

def pool9 : Array CpInfo := pool [(1, .class_ 2), (0, u "com/example/nodeward/nodeward/model/ExtendedDecision"), (2, u "PERMIT"), (0, u "Lcom/example/nodeward/nodeward/model/ExtendedDecision;"), (2, u "DENY"), (2, u "NOT_APPLICABLE"), (2, u "INDETERMINATE_D"), (2, u "INDETERMINATE_P"), (2, u "INDETERMINATE_DP"), (2, u "$VALUES"), (0, u "[Lcom/example/nodeward/nodeward/model/ExtendedDecision;"), (6, .class_ 34), (1, u "java/lang/Enum"), (8, u "decision"), (0, u "Lcom/example/nodeward/nodeward/model/Decision;")] 51

/-- com/example/nodeward/nodeward/model/ExtendedDecision -/
def k9 : Class := { plain "com/example/nodeward/nodeward/model/ExtendedDecision" (some 8) with
  accessFlags := 16433
  interfaces := #[]
  cf := some (fileOf pool9 1 #[] #[] 16433 32 #[] #[{ accessFlags := 16409, nameIndex := 5, descriptorIndex := 6, attributes := #[] }, { accessFlags := 16409, nameIndex := 9, descriptorIndex := 6, attributes := #[] }, { accessFlags := 16409, nameIndex := 12, descriptorIndex := 6, attributes := #[] }, { accessFlags := 16409, nameIndex := 15, descriptorIndex := 6, attributes := #[] }, { accessFlags := 16409, nameIndex := 18, descriptorIndex := 6, attributes := #[] }, { accessFlags := 16409, nameIndex := 21, descriptorIndex := 6, attributes := #[] }, { accessFlags := 18, nameIndex := 43, descriptorIndex := 44, attributes := #[] }, { accessFlags := 4122, nameIndex := 24, descriptorIndex := 25, attributes := #[] }])
  fields := #[{ name := "PERMIT", type := (.object "com/example/nodeward/nodeward/model/ExtendedDecision"), accessFlags := 16409, slot := 0, constantValue := 0 }, { name := "DENY", type := (.object "com/example/nodeward/nodeward/model/ExtendedDecision"), accessFlags := 16409, slot := 1, constantValue := 0 }, { name := "NOT_APPLICABLE", type := (.object "com/example/nodeward/nodeward/model/ExtendedDecision"), accessFlags := 16409, slot := 2, constantValue := 0 }, { name := "INDETERMINATE_D", type := (.object "com/example/nodeward/nodeward/model/ExtendedDecision"), accessFlags := 16409, slot := 3, constantValue := 0 }, { name := "INDETERMINATE_P", type := (.object "com/example/nodeward/nodeward/model/ExtendedDecision"), accessFlags := 16409, slot := 4, constantValue := 0 }, { name := "INDETERMINATE_DP", type := (.object "com/example/nodeward/nodeward/model/ExtendedDecision"), accessFlags := 16409, slot := 5, constantValue := 0 }, { name := "decision", type := (.object "com/example/nodeward/nodeward/model/Decision"), accessFlags := 18, slot := 3, constantValue := 0 }, { name := "$VALUES", type := (.array (.object "com/example/nodeward/nodeward/model/ExtendedDecision")), accessFlags := 4122, slot := 6, constantValue := 0 }]
  methods := #[]
  instanceTypes := #[(.object "java/lang/String"), .int, .int, (.object "com/example/nodeward/nodeward/model/Decision")]
  staticTypes := #[(.object "com/example/nodeward/nodeward/model/ExtendedDecision"), (.object "com/example/nodeward/nodeward/model/ExtendedDecision"), (.object "com/example/nodeward/nodeward/model/ExtendedDecision"), (.object "com/example/nodeward/nodeward/model/ExtendedDecision"), (.object "com/example/nodeward/nodeward/model/ExtendedDecision"), (.object "com/example/nodeward/nodeward/model/ExtendedDecision"), (.array (.object "com/example/nodeward/nodeward/model/ExtendedDecision"))]
  resolved := Array.replicate 96 none
  statics := some 0 }

def pool10 : Array CpInfo := pool [(2, .class_ 4), (1, u "java/lang/CharSequence"), (42, .class_ 48), (0, u "java/lang/CharSequence$1CodePointIterator"), (10, .class_ 60), (0, u "java/lang/CharSequence$1CharIterator"), (5, .class_ 67), (0, u "java/lang/Object")] 63

/-- java/lang/CharSequence -/
def k10 : Class := { plain "java/lang/CharSequence" (some 0) with
  accessFlags := 1537
  interfaces := #[]
  cf := some (fileOf pool10 2 #[.nestMembers #[47, 59]] #[] 1537 66 #[] #[])
  fields := #[]
  methods := #[]
  instanceTypes := #[]
  staticTypes := #[]
  resolved := Array.replicate 131 none
  statics := none }

def pool11 : Array CpInfo := pool [(1, .class_ 2), (0, u "java/lang/constant/ConstantDesc"), (0, .class_ 4), (0, u "java/lang/Object")] 32

/-- java/lang/constant/ConstantDesc -/
def k11 : Class := { plain "java/lang/constant/ConstantDesc" (some 0) with
  accessFlags := 1537
  interfaces := #[]
  cf := some (fileOf pool11 1 #[] #[] 1537 3 #[] #[])
  fields := #[]
  methods := #[]
  instanceTypes := #[]
  staticTypes := #[]
  resolved := Array.replicate 37 none
  statics := none }

def pool12 : Array CpInfo := pool [(2, .class_ 4), (1, u "java/lang/Object"), (0, u "<init>"), (0, u "()V"), (3, .class_ 12), (1, u "java/lang/String"), (0, u "value"), (0, u "[B"), (2, u "coder"), (0, u "B"), (2, u "hash"), (0, u "I"), (2, u "hashIsZero"), (0, u "Z"), (13, u "COMPACT_STRINGS"), (534, .class_ 576), (0, u "java/lang/CharSequence"), (22, u "CASE_INSENSITIVE_ORDER"), (0, u "Ljava/util/Comparator;"), (500, u "serialPersistentFields"), (0, u "[Ljava/io/ObjectStreamField;"), (0, .class_ 1104), (0, u "java/lang/String$CaseInsensitiveComparator"), (1, .class_ 1107), (0, u "java/io/Serializable"), (0, .class_ 1109), (0, u "java/lang/Comparable"), (0, .class_ 1111), (0, u "java/lang/constant/Constable"), (0, .class_ 1113), (0, u "java/lang/constant/ConstantDesc"), (2, u "serialVersionUID"), (0, u "J"), (3, u "REPL"), (0, u "C"), (2, u "LATIN1"), (1, u "UTF16")] 323

def k12m0 : Method := { name := "<init>", desc := "()V", sig := { parameters := [], returnType := none }, accessFlags := 1, code := none }
/-- java/lang/String -/
def k12 : Class := { plain "java/lang/String" (some 0) with
  accessFlags := 49
  interfaces := #[7, 6, 10, 5, 11]
  cf := some (fileOf pool12 10 #[.nestMembers #[1103]] #[{ accessFlags := 1, nameIndex := 5, descriptorIndex := 6, attributes := #[] }] 49 2 #[1106, 1108, 575, 1110, 1112] #[{ accessFlags := 18, nameIndex := 13, descriptorIndex := 14, attributes := #[] }, { accessFlags := 18, nameIndex := 17, descriptorIndex := 18, attributes := #[] }, { accessFlags := 2, nameIndex := 21, descriptorIndex := 22, attributes := #[] }, { accessFlags := 2, nameIndex := 25, descriptorIndex := 26, attributes := #[] }, { accessFlags := 26, nameIndex := 1116, descriptorIndex := 1117, attributes := #[] }, { accessFlags := 24, nameIndex := 40, descriptorIndex := 26, attributes := #[] }, { accessFlags := 26, nameIndex := 1101, descriptorIndex := 1102, attributes := #[] }, { accessFlags := 26, nameIndex := 1121, descriptorIndex := 1122, attributes := #[] }, { accessFlags := 25, nameIndex := 599, descriptorIndex := 600, attributes := #[] }, { accessFlags := 24, nameIndex := 1125, descriptorIndex := 18, attributes := #[] }, { accessFlags := 24, nameIndex := 1127, descriptorIndex := 18, attributes := #[] }])
  fields := #[{ name := "value", type := (.array .byte), accessFlags := 18, slot := 0, constantValue := 0 }, { name := "coder", type := .byte, accessFlags := 18, slot := 1, constantValue := 0 }, { name := "hash", type := .int, accessFlags := 2, slot := 2, constantValue := 0 }, { name := "hashIsZero", type := .boolean, accessFlags := 2, slot := 3, constantValue := 0 }, { name := "serialVersionUID", type := .long, accessFlags := 26, slot := 0, constantValue := 0 }, { name := "COMPACT_STRINGS", type := .boolean, accessFlags := 24, slot := 1, constantValue := 0 }, { name := "serialPersistentFields", type := (.array (.object "java/io/ObjectStreamField")), accessFlags := 26, slot := 2, constantValue := 0 }, { name := "REPL", type := .char, accessFlags := 26, slot := 3, constantValue := 0 }, { name := "CASE_INSENSITIVE_ORDER", type := (.object "java/util/Comparator"), accessFlags := 25, slot := 4, constantValue := 0 }, { name := "LATIN1", type := .byte, accessFlags := 24, slot := 5, constantValue := 0 }, { name := "UTF16", type := .byte, accessFlags := 24, slot := 6, constantValue := 0 }]
  methods := #[k12m0]
  instanceTypes := #[(.array .byte), .byte, .int, .boolean]
  staticTypes := #[.long, .boolean, (.array (.object "java/io/ObjectStreamField")), .char, (.object "java/util/Comparator"), .byte, .byte]
  resolved := Array.replicate 1451 none
  statics := none }

def pool13 : Array CpInfo := pool [(2, .class_ 4), (1, u "java/lang/Object"), (0, u "<init>"), (0, u "()V"), (35, .class_ 44), (1, u "java/util/Objects"), (0, u "requireNonNull"), (48, u "(Ljava/lang/Object;Ljava/lang/String;)Ljava/lang/Object;")] 89

def k13m0 : Method := { name := "<init>", desc := "()V", sig := { parameters := [], returnType := none }, accessFlags := 2, code := none }
def k13c1 : Code := { maxStack := 3, maxLocals := 2, code := jdk_31_method_11_code, exceptionTable := #[], attributes := #[] }
def k13m1 : Method := { name := "requireNonNull", desc := "(Ljava/lang/Object;Ljava/lang/String;)Ljava/lang/Object;", sig := { parameters := [(.object "java/lang/Object"), (.object "java/lang/String")], returnType := some (.object "java/lang/Object") }, accessFlags := 9, code := some k13c1 }
/-- java/util/Objects -/
def k13 : Class := { plain "java/util/Objects" (some 0) with
  accessFlags := 49
  interfaces := #[]
  cf := some (fileOf pool13 42 #[] #[{ accessFlags := 2, nameIndex := 5, descriptorIndex := 6, attributes := #[] }, { accessFlags := 9, nameIndex := 45, descriptorIndex := 94, attributes := #[] }] 49 2 #[] #[])
  fields := #[]
  methods := #[k13m0, k13m1]
  instanceTypes := #[]
  staticTypes := #[]
  resolved := Array.replicate 184 none
  statics := none }

def pool14 : Array CpInfo := pool [(2, .class_ 4), (1, u "java/lang/Object"), (0, u "<init>"), (0, u "()V"), (1, .class_ 10), (1, u "java/lang/Number"), (2, .class_ 14), (0, u "java/io/Serializable"), (0, u "serialVersionUID"), (0, u "J")] 20

def k14m0 : Method := { name := "<init>", desc := "()V", sig := { parameters := [], returnType := none }, accessFlags := 1, code := none }
/-- java/lang/Number -/
def k14 : Class := { plain "java/lang/Number" (some 0) with
  accessFlags := 1057
  interfaces := #[7]
  cf := some (fileOf pool14 8 #[] #[{ accessFlags := 1, nameIndex := 5, descriptorIndex := 6, attributes := #[] }] 1057 2 #[13] #[{ accessFlags := 26, nameIndex := 15, descriptorIndex := 16, attributes := #[] }])
  fields := #[{ name := "serialVersionUID", type := .long, accessFlags := 26, slot := 0, constantValue := 0 }]
  methods := #[k14m0]
  instanceTypes := #[]
  staticTypes := #[.long]
  resolved := Array.replicate 37 none
  statics := none }

def pool15 : Array CpInfo := pool [(1, .class_ 2), (0, u "java/lang/Integer"), (16, u "digits"), (0, u "[C"), (64, u "DigitOnes"), (0, u "[B"), (2, u "DigitTens"), (97, u "valueOf"), (0, u "(I)Ljava/lang/Integer;"), (0, .class_ 190), (0, u "java/lang/Integer$IntegerCache"), (0, .fieldref 189 192), (0, .nameAndType 193 194), (0, u "high"), (0, u "I"), (0, .fieldref 189 196), (0, .nameAndType 197 198), (0, u "cache"), (0, u "[Ljava/lang/Integer;"), (4, .class_ 204), (0, u "java/lang/Number"), (2, u "value"), (94, u "TYPE"), (0, u "Ljava/lang/Class;"), (0, .class_ 305), (0, u "java/lang/Comparable"), (0, .class_ 307), (0, u "java/lang/constant/Constable"), (0, .class_ 309), (0, u "java/lang/constant/ConstantDesc"), (0, u "MIN_VALUE"), (1, u "MAX_VALUE"), (3, u "SIZE"), (1, u "BYTES"), (1, u "serialVersionUID"), (0, u "J")] 131

def k15c0 : Code := { maxStack := 3, maxLocals := 1, code := jdk_33_method_22_code, exceptionTable := #[], attributes := #[] }
def k15m0 : Method := { name := "valueOf", desc := "(I)Ljava/lang/Integer;", sig := { parameters := [.int], returnType := some (.object "java/lang/Integer") }, accessFlags := 9, code := some k15c0 }
/-- java/lang/Integer -/
def k15 : Class := { plain "java/lang/Integer" (some 14) with
  accessFlags := 49
  interfaces := #[6, 5, 11]
  cf := some (fileOf pool15 1 #[.nestMembers #[189]] #[{ accessFlags := 9, nameIndex := 187, descriptorIndex := 188, attributes := #[] }] 49 203 #[304, 306, 308] #[{ accessFlags := 25, nameIndex := 310, descriptorIndex := 194, attributes := #[] }, { accessFlags := 25, nameIndex := 312, descriptorIndex := 194, attributes := #[] }, { accessFlags := 25, nameIndex := 302, descriptorIndex := 303, attributes := #[] }, { accessFlags := 24, nameIndex := 19, descriptorIndex := 20, attributes := #[] }, { accessFlags := 24, nameIndex := 89, descriptorIndex := 86, attributes := #[] }, { accessFlags := 24, nameIndex := 85, descriptorIndex := 86, attributes := #[] }, { accessFlags := 18, nameIndex := 207, descriptorIndex := 194, attributes := #[] }, { accessFlags := 25, nameIndex := 316, descriptorIndex := 194, attributes := #[] }, { accessFlags := 25, nameIndex := 318, descriptorIndex := 194, attributes := #[] }, { accessFlags := 26, nameIndex := 320, descriptorIndex := 321, attributes := #[] }])
  fields := #[{ name := "MIN_VALUE", type := .int, accessFlags := 25, slot := 0, constantValue := 0 }, { name := "MAX_VALUE", type := .int, accessFlags := 25, slot := 1, constantValue := 0 }, { name := "TYPE", type := (.object "java/lang/Class"), accessFlags := 25, slot := 2, constantValue := 0 }, { name := "digits", type := (.array .char), accessFlags := 24, slot := 3, constantValue := 0 }, { name := "DigitTens", type := (.array .byte), accessFlags := 24, slot := 4, constantValue := 0 }, { name := "DigitOnes", type := (.array .byte), accessFlags := 24, slot := 5, constantValue := 0 }, { name := "value", type := .int, accessFlags := 18, slot := 0, constantValue := 0 }, { name := "SIZE", type := .int, accessFlags := 25, slot := 6, constantValue := 0 }, { name := "BYTES", type := .int, accessFlags := 25, slot := 7, constantValue := 0 }, { name := "serialVersionUID", type := .long, accessFlags := 26, slot := 8, constantValue := 0 }]
  methods := #[k15m0]
  instanceTypes := #[.int]
  staticTypes := #[.int, .int, (.object "java/lang/Class"), (.array .char), (.array .byte), (.array .byte), .int, .int, .long]
  resolved := Array.replicate 453 none
  statics := none }

def pool16 : Array CpInfo := pool [(2, .class_ 4), (1, u "java/lang/Object"), (0, u "<init>"), (0, u "()V"), (0, .class_ 8), (0, u "java/lang/Integer"), (7, .class_ 18), (1, u "java/lang/Integer$IntegerCache"), (0, u "$assertionsDisabled"), (0, u "Z"), (26, u "high"), (0, u "I"), (8, u "archivedCache"), (0, u "[Ljava/lang/Integer;"), (12, u "cache"), (0, u "low")] 27

def k16m0 : Method := { name := "<init>", desc := "()V", sig := { parameters := [], returnType := none }, accessFlags := 2, code := none }
/-- java/lang/Integer$IntegerCache -/
def k16 : Class := { plain "java/lang/Integer$IntegerCache" (some 0) with
  accessFlags := 48
  interfaces := #[]
  cf := some (fileOf pool16 16 #[.nestHost 7] #[{ accessFlags := 2, nameIndex := 5, descriptorIndex := 6, attributes := #[] }] 48 2 #[] #[{ accessFlags := 24, nameIndex := 72, descriptorIndex := 48, attributes := #[] }, { accessFlags := 24, nameIndex := 47, descriptorIndex := 48, attributes := #[] }, { accessFlags := 24, nameIndex := 71, descriptorIndex := 58, attributes := #[] }, { accessFlags := 8, nameIndex := 57, descriptorIndex := 58, attributes := #[] }, { accessFlags := 4120, nameIndex := 19, descriptorIndex := 20, attributes := #[] }])
  fields := #[{ name := "low", type := .int, accessFlags := 24, slot := 0, constantValue := 0 }, { name := "high", type := .int, accessFlags := 24, slot := 1, constantValue := 0 }, { name := "cache", type := (.array (.object "java/lang/Integer")), accessFlags := 24, slot := 2, constantValue := 0 }, { name := "archivedCache", type := (.array (.object "java/lang/Integer")), accessFlags := 8, slot := 3, constantValue := 0 }, { name := "$assertionsDisabled", type := .boolean, accessFlags := 4120, slot := 4, constantValue := 0 }]
  methods := #[k16m0]
  instanceTypes := #[]
  staticTypes := #[.int, .int, (.array (.object "java/lang/Integer")), (.array (.object "java/lang/Integer")), .boolean]
  resolved := Array.replicate 100 none
  statics := some 1 }

def pool17 : Array CpInfo := pool [(1, u "java/lang/Cloneable"), (0, .class_ 1), (0, u "java/lang/Object"), (0, .class_ 3)] 3

/-- java/lang/Cloneable -/
def k17 : Class := { plain "java/lang/Cloneable" (some 0) with
  accessFlags := 1537
  interfaces := #[]
  cf := some (fileOf pool17 2 #[] #[] 1537 4 #[] #[])
  fields := #[]
  methods := #[]
  instanceTypes := #[]
  staticTypes := #[]
  resolved := Array.replicate 8 none
  statics := none }

/-- the primitive byte -/
def k18 : Class := { plain "byte" none with kind := .primitive 'B', accessFlags := 0x411 }
/-- [B -/
def k19 : Class := { plain "[B" (some 0) with kind := .array 18 .byte, interfaces := #[17, 7], accessFlags := 1041 }

/-- the primitive int -/
def k20 : Class := { plain "int" none with kind := .primitive 'I', accessFlags := 0x411 }
/-- [I -/
def k21 : Class := { plain "[I" (some 0) with kind := .array 20 .int, interfaces := #[17, 7], accessFlags := 1041 }

/-- [Ljava/lang/Integer; -/
def k22 : Class := { plain "[Ljava/lang/Integer;" (some 0) with kind := .array 15 (.object "java/lang/Integer"), interfaces := #[17, 7], accessFlags := 1041 }

def heap : Heap := #[{ cls := 9, slots := #[.ref 3, .ref 5, .ref 6, .ref 4, .ref 8, .ref 7, .null], vm := .statics 9 },
  { cls := 16, slots := #[.int 0, .int 127, .ref 2, .null, .int 0], vm := .statics 16 },
  { cls := 22, slots := #[.ref 9, .ref 10, .ref 11, .ref 12, .ref 13, .ref 14, .ref 15, .ref 16, .ref 17, .ref 18, .ref 19, .ref 20, .ref 21, .ref 22, .ref 23, .ref 24, .ref 25, .ref 26, .ref 27, .ref 28, .ref 29, .ref 30, .ref 31, .ref 32, .ref 33, .ref 34, .ref 35, .ref 36, .ref 37, .ref 38, .ref 39, .ref 40, .ref 41, .ref 42, .ref 43, .ref 44, .ref 45, .ref 46, .ref 47, .ref 48, .ref 49, .ref 50, .ref 51, .ref 52, .ref 53, .ref 54, .ref 55, .ref 56, .ref 57, .ref 58, .ref 59, .ref 60, .ref 61, .ref 62, .ref 63, .ref 64, .ref 65, .ref 66, .ref 67, .ref 68, .ref 69, .ref 70, .ref 71, .ref 72, .ref 73, .ref 74, .ref 75, .ref 76, .ref 77, .ref 78, .ref 79, .ref 80, .ref 81, .ref 82, .ref 83, .ref 84, .ref 85, .ref 86, .ref 87, .ref 88, .ref 89, .ref 90, .ref 91, .ref 92, .ref 93, .ref 94, .ref 95, .ref 96, .ref 97, .ref 98, .ref 99, .ref 100, .ref 101, .ref 102, .ref 103, .ref 104, .ref 105, .ref 106, .ref 107, .ref 108, .ref 109, .ref 110, .ref 111, .ref 112, .ref 113, .ref 114, .ref 115, .ref 116, .ref 117, .ref 118, .ref 119, .ref 120, .ref 121, .ref 122, .ref 123, .ref 124, .ref 125, .ref 126, .ref 127, .ref 128, .ref 129, .ref 130, .ref 131, .ref 132, .ref 133, .ref 134, .ref 135, .ref 136, .ref 137, .ref 138, .ref 139, .ref 140, .ref 141, .ref 142, .ref 143, .ref 144, .ref 145, .ref 146, .ref 147, .ref 148, .ref 149, .ref 150, .ref 151, .ref 152, .ref 153, .ref 154, .ref 155, .ref 156, .ref 157, .ref 158, .ref 159, .ref 160, .ref 161, .ref 162, .ref 163, .ref 164, .ref 165, .ref 166, .ref 167, .ref 168, .ref 169, .ref 170, .ref 171, .ref 172, .ref 173, .ref 174, .ref 175, .ref 176, .ref 177, .ref 178, .ref 179, .ref 180, .ref 181, .ref 182, .ref 183, .ref 184, .ref 185, .ref 186, .ref 187, .ref 188, .ref 189, .ref 190, .ref 191, .ref 192, .ref 193, .ref 194, .ref 195, .ref 196, .ref 197, .ref 198, .ref 199, .ref 200, .ref 201, .ref 202, .ref 203, .ref 204, .ref 205, .ref 206, .ref 207, .ref 208, .ref 209, .ref 210, .ref 211, .ref 212, .ref 213, .ref 214, .ref 215, .ref 216, .ref 217, .ref 218, .ref 219, .ref 220, .ref 221, .ref 222, .ref 223, .ref 224, .ref 225, .ref 226, .ref 227, .ref 228, .ref 229, .ref 230, .ref 231, .ref 232, .ref 233, .ref 234, .ref 235, .ref 236, .ref 237, .ref 238, .ref 239, .ref 240, .ref 241, .ref 242, .ref 243, .ref 244, .ref 245, .ref 246, .ref 247, .ref 248, .ref 249, .ref 250, .ref 251, .ref 252, .ref 253, .ref 254, .ref 255, .ref 256, .ref 257, .ref 258, .ref 259, .ref 260, .ref 261, .ref 262, .ref 263, .ref 264], vm := .none },
  { cls := 9, slots := #[.null, .int 0, .int 0, .null], vm := .none },
  { cls := 9, slots := #[.null, .int 3, .int 0, .null], vm := .none },
  { cls := 9, slots := #[.null, .int 1, .int 0, .null], vm := .none },
  { cls := 9, slots := #[.null, .int 2, .int 0, .null], vm := .none },
  { cls := 9, slots := #[.null, .int 5, .int 0, .null], vm := .none },
  { cls := 9, slots := #[.null, .int 4, .int 0, .null], vm := .none },
  { cls := 15, slots := #[.int (-128)], vm := .none },
  { cls := 15, slots := #[.int (-127)], vm := .none },
  { cls := 15, slots := #[.int (-126)], vm := .none },
  { cls := 15, slots := #[.int (-125)], vm := .none },
  { cls := 15, slots := #[.int (-124)], vm := .none },
  { cls := 15, slots := #[.int (-123)], vm := .none },
  { cls := 15, slots := #[.int (-122)], vm := .none },
  { cls := 15, slots := #[.int (-121)], vm := .none },
  { cls := 15, slots := #[.int (-120)], vm := .none },
  { cls := 15, slots := #[.int (-119)], vm := .none },
  { cls := 15, slots := #[.int (-118)], vm := .none },
  { cls := 15, slots := #[.int (-117)], vm := .none },
  { cls := 15, slots := #[.int (-116)], vm := .none },
  { cls := 15, slots := #[.int (-115)], vm := .none },
  { cls := 15, slots := #[.int (-114)], vm := .none },
  { cls := 15, slots := #[.int (-113)], vm := .none },
  { cls := 15, slots := #[.int (-112)], vm := .none },
  { cls := 15, slots := #[.int (-111)], vm := .none },
  { cls := 15, slots := #[.int (-110)], vm := .none },
  { cls := 15, slots := #[.int (-109)], vm := .none },
  { cls := 15, slots := #[.int (-108)], vm := .none },
  { cls := 15, slots := #[.int (-107)], vm := .none },
  { cls := 15, slots := #[.int (-106)], vm := .none },
  { cls := 15, slots := #[.int (-105)], vm := .none },
  { cls := 15, slots := #[.int (-104)], vm := .none },
  { cls := 15, slots := #[.int (-103)], vm := .none },
  { cls := 15, slots := #[.int (-102)], vm := .none },
  { cls := 15, slots := #[.int (-101)], vm := .none },
  { cls := 15, slots := #[.int (-100)], vm := .none },
  { cls := 15, slots := #[.int (-99)], vm := .none },
  { cls := 15, slots := #[.int (-98)], vm := .none },
  { cls := 15, slots := #[.int (-97)], vm := .none },
  { cls := 15, slots := #[.int (-96)], vm := .none },
  { cls := 15, slots := #[.int (-95)], vm := .none },
  { cls := 15, slots := #[.int (-94)], vm := .none },
  { cls := 15, slots := #[.int (-93)], vm := .none },
  { cls := 15, slots := #[.int (-92)], vm := .none },
  { cls := 15, slots := #[.int (-91)], vm := .none },
  { cls := 15, slots := #[.int (-90)], vm := .none },
  { cls := 15, slots := #[.int (-89)], vm := .none },
  { cls := 15, slots := #[.int (-88)], vm := .none },
  { cls := 15, slots := #[.int (-87)], vm := .none },
  { cls := 15, slots := #[.int (-86)], vm := .none },
  { cls := 15, slots := #[.int (-85)], vm := .none },
  { cls := 15, slots := #[.int (-84)], vm := .none },
  { cls := 15, slots := #[.int (-83)], vm := .none },
  { cls := 15, slots := #[.int (-82)], vm := .none },
  { cls := 15, slots := #[.int (-81)], vm := .none },
  { cls := 15, slots := #[.int (-80)], vm := .none },
  { cls := 15, slots := #[.int (-79)], vm := .none },
  { cls := 15, slots := #[.int (-78)], vm := .none },
  { cls := 15, slots := #[.int (-77)], vm := .none },
  { cls := 15, slots := #[.int (-76)], vm := .none },
  { cls := 15, slots := #[.int (-75)], vm := .none },
  { cls := 15, slots := #[.int (-74)], vm := .none },
  { cls := 15, slots := #[.int (-73)], vm := .none },
  { cls := 15, slots := #[.int (-72)], vm := .none },
  { cls := 15, slots := #[.int (-71)], vm := .none },
  { cls := 15, slots := #[.int (-70)], vm := .none },
  { cls := 15, slots := #[.int (-69)], vm := .none },
  { cls := 15, slots := #[.int (-68)], vm := .none },
  { cls := 15, slots := #[.int (-67)], vm := .none },
  { cls := 15, slots := #[.int (-66)], vm := .none },
  { cls := 15, slots := #[.int (-65)], vm := .none },
  { cls := 15, slots := #[.int (-64)], vm := .none },
  { cls := 15, slots := #[.int (-63)], vm := .none },
  { cls := 15, slots := #[.int (-62)], vm := .none },
  { cls := 15, slots := #[.int (-61)], vm := .none },
  { cls := 15, slots := #[.int (-60)], vm := .none },
  { cls := 15, slots := #[.int (-59)], vm := .none },
  { cls := 15, slots := #[.int (-58)], vm := .none },
  { cls := 15, slots := #[.int (-57)], vm := .none },
  { cls := 15, slots := #[.int (-56)], vm := .none },
  { cls := 15, slots := #[.int (-55)], vm := .none },
  { cls := 15, slots := #[.int (-54)], vm := .none },
  { cls := 15, slots := #[.int (-53)], vm := .none },
  { cls := 15, slots := #[.int (-52)], vm := .none },
  { cls := 15, slots := #[.int (-51)], vm := .none },
  { cls := 15, slots := #[.int (-50)], vm := .none },
  { cls := 15, slots := #[.int (-49)], vm := .none },
  { cls := 15, slots := #[.int (-48)], vm := .none },
  { cls := 15, slots := #[.int (-47)], vm := .none },
  { cls := 15, slots := #[.int (-46)], vm := .none },
  { cls := 15, slots := #[.int (-45)], vm := .none },
  { cls := 15, slots := #[.int (-44)], vm := .none },
  { cls := 15, slots := #[.int (-43)], vm := .none },
  { cls := 15, slots := #[.int (-42)], vm := .none },
  { cls := 15, slots := #[.int (-41)], vm := .none },
  { cls := 15, slots := #[.int (-40)], vm := .none },
  { cls := 15, slots := #[.int (-39)], vm := .none },
  { cls := 15, slots := #[.int (-38)], vm := .none },
  { cls := 15, slots := #[.int (-37)], vm := .none },
  { cls := 15, slots := #[.int (-36)], vm := .none },
  { cls := 15, slots := #[.int (-35)], vm := .none },
  { cls := 15, slots := #[.int (-34)], vm := .none },
  { cls := 15, slots := #[.int (-33)], vm := .none },
  { cls := 15, slots := #[.int (-32)], vm := .none },
  { cls := 15, slots := #[.int (-31)], vm := .none },
  { cls := 15, slots := #[.int (-30)], vm := .none },
  { cls := 15, slots := #[.int (-29)], vm := .none },
  { cls := 15, slots := #[.int (-28)], vm := .none },
  { cls := 15, slots := #[.int (-27)], vm := .none },
  { cls := 15, slots := #[.int (-26)], vm := .none },
  { cls := 15, slots := #[.int (-25)], vm := .none },
  { cls := 15, slots := #[.int (-24)], vm := .none },
  { cls := 15, slots := #[.int (-23)], vm := .none },
  { cls := 15, slots := #[.int (-22)], vm := .none },
  { cls := 15, slots := #[.int (-21)], vm := .none },
  { cls := 15, slots := #[.int (-20)], vm := .none },
  { cls := 15, slots := #[.int (-19)], vm := .none },
  { cls := 15, slots := #[.int (-18)], vm := .none },
  { cls := 15, slots := #[.int (-17)], vm := .none },
  { cls := 15, slots := #[.int (-16)], vm := .none },
  { cls := 15, slots := #[.int (-15)], vm := .none },
  { cls := 15, slots := #[.int (-14)], vm := .none },
  { cls := 15, slots := #[.int (-13)], vm := .none },
  { cls := 15, slots := #[.int (-12)], vm := .none },
  { cls := 15, slots := #[.int (-11)], vm := .none },
  { cls := 15, slots := #[.int (-10)], vm := .none },
  { cls := 15, slots := #[.int (-9)], vm := .none },
  { cls := 15, slots := #[.int (-8)], vm := .none },
  { cls := 15, slots := #[.int (-7)], vm := .none },
  { cls := 15, slots := #[.int (-6)], vm := .none },
  { cls := 15, slots := #[.int (-5)], vm := .none },
  { cls := 15, slots := #[.int (-4)], vm := .none },
  { cls := 15, slots := #[.int (-3)], vm := .none },
  { cls := 15, slots := #[.int (-2)], vm := .none },
  { cls := 15, slots := #[.int (-1)], vm := .none },
  { cls := 15, slots := #[.int 0], vm := .none },
  { cls := 15, slots := #[.int 1], vm := .none },
  { cls := 15, slots := #[.int 2], vm := .none },
  { cls := 15, slots := #[.int 3], vm := .none },
  { cls := 15, slots := #[.int 4], vm := .none },
  { cls := 15, slots := #[.int 5], vm := .none },
  { cls := 15, slots := #[.int 6], vm := .none },
  { cls := 15, slots := #[.int 7], vm := .none },
  { cls := 15, slots := #[.int 8], vm := .none },
  { cls := 15, slots := #[.int 9], vm := .none },
  { cls := 15, slots := #[.int 10], vm := .none },
  { cls := 15, slots := #[.int 11], vm := .none },
  { cls := 15, slots := #[.int 12], vm := .none },
  { cls := 15, slots := #[.int 13], vm := .none },
  { cls := 15, slots := #[.int 14], vm := .none },
  { cls := 15, slots := #[.int 15], vm := .none },
  { cls := 15, slots := #[.int 16], vm := .none },
  { cls := 15, slots := #[.int 17], vm := .none },
  { cls := 15, slots := #[.int 18], vm := .none },
  { cls := 15, slots := #[.int 19], vm := .none },
  { cls := 15, slots := #[.int 20], vm := .none },
  { cls := 15, slots := #[.int 21], vm := .none },
  { cls := 15, slots := #[.int 22], vm := .none },
  { cls := 15, slots := #[.int 23], vm := .none },
  { cls := 15, slots := #[.int 24], vm := .none },
  { cls := 15, slots := #[.int 25], vm := .none },
  { cls := 15, slots := #[.int 26], vm := .none },
  { cls := 15, slots := #[.int 27], vm := .none },
  { cls := 15, slots := #[.int 28], vm := .none },
  { cls := 15, slots := #[.int 29], vm := .none },
  { cls := 15, slots := #[.int 30], vm := .none },
  { cls := 15, slots := #[.int 31], vm := .none },
  { cls := 15, slots := #[.int 32], vm := .none },
  { cls := 15, slots := #[.int 33], vm := .none },
  { cls := 15, slots := #[.int 34], vm := .none },
  { cls := 15, slots := #[.int 35], vm := .none },
  { cls := 15, slots := #[.int 36], vm := .none },
  { cls := 15, slots := #[.int 37], vm := .none },
  { cls := 15, slots := #[.int 38], vm := .none },
  { cls := 15, slots := #[.int 39], vm := .none },
  { cls := 15, slots := #[.int 40], vm := .none },
  { cls := 15, slots := #[.int 41], vm := .none },
  { cls := 15, slots := #[.int 42], vm := .none },
  { cls := 15, slots := #[.int 43], vm := .none },
  { cls := 15, slots := #[.int 44], vm := .none },
  { cls := 15, slots := #[.int 45], vm := .none },
  { cls := 15, slots := #[.int 46], vm := .none },
  { cls := 15, slots := #[.int 47], vm := .none },
  { cls := 15, slots := #[.int 48], vm := .none },
  { cls := 15, slots := #[.int 49], vm := .none },
  { cls := 15, slots := #[.int 50], vm := .none },
  { cls := 15, slots := #[.int 51], vm := .none },
  { cls := 15, slots := #[.int 52], vm := .none },
  { cls := 15, slots := #[.int 53], vm := .none },
  { cls := 15, slots := #[.int 54], vm := .none },
  { cls := 15, slots := #[.int 55], vm := .none },
  { cls := 15, slots := #[.int 56], vm := .none },
  { cls := 15, slots := #[.int 57], vm := .none },
  { cls := 15, slots := #[.int 58], vm := .none },
  { cls := 15, slots := #[.int 59], vm := .none },
  { cls := 15, slots := #[.int 60], vm := .none },
  { cls := 15, slots := #[.int 61], vm := .none },
  { cls := 15, slots := #[.int 62], vm := .none },
  { cls := 15, slots := #[.int 63], vm := .none },
  { cls := 15, slots := #[.int 64], vm := .none },
  { cls := 15, slots := #[.int 65], vm := .none },
  { cls := 15, slots := #[.int 66], vm := .none },
  { cls := 15, slots := #[.int 67], vm := .none },
  { cls := 15, slots := #[.int 68], vm := .none },
  { cls := 15, slots := #[.int 69], vm := .none },
  { cls := 15, slots := #[.int 70], vm := .none },
  { cls := 15, slots := #[.int 71], vm := .none },
  { cls := 15, slots := #[.int 72], vm := .none },
  { cls := 15, slots := #[.int 73], vm := .none },
  { cls := 15, slots := #[.int 74], vm := .none },
  { cls := 15, slots := #[.int 75], vm := .none },
  { cls := 15, slots := #[.int 76], vm := .none },
  { cls := 15, slots := #[.int 77], vm := .none },
  { cls := 15, slots := #[.int 78], vm := .none },
  { cls := 15, slots := #[.int 79], vm := .none },
  { cls := 15, slots := #[.int 80], vm := .none },
  { cls := 15, slots := #[.int 81], vm := .none },
  { cls := 15, slots := #[.int 82], vm := .none },
  { cls := 15, slots := #[.int 83], vm := .none },
  { cls := 15, slots := #[.int 84], vm := .none },
  { cls := 15, slots := #[.int 85], vm := .none },
  { cls := 15, slots := #[.int 86], vm := .none },
  { cls := 15, slots := #[.int 87], vm := .none },
  { cls := 15, slots := #[.int 88], vm := .none },
  { cls := 15, slots := #[.int 89], vm := .none },
  { cls := 15, slots := #[.int 90], vm := .none },
  { cls := 15, slots := #[.int 91], vm := .none },
  { cls := 15, slots := #[.int 92], vm := .none },
  { cls := 15, slots := #[.int 93], vm := .none },
  { cls := 15, slots := #[.int 94], vm := .none },
  { cls := 15, slots := #[.int 95], vm := .none },
  { cls := 15, slots := #[.int 96], vm := .none },
  { cls := 15, slots := #[.int 97], vm := .none },
  { cls := 15, slots := #[.int 98], vm := .none },
  { cls := 15, slots := #[.int 99], vm := .none },
  { cls := 15, slots := #[.int 100], vm := .none },
  { cls := 15, slots := #[.int 101], vm := .none },
  { cls := 15, slots := #[.int 102], vm := .none },
  { cls := 15, slots := #[.int 103], vm := .none },
  { cls := 15, slots := #[.int 104], vm := .none },
  { cls := 15, slots := #[.int 105], vm := .none },
  { cls := 15, slots := #[.int 106], vm := .none },
  { cls := 15, slots := #[.int 107], vm := .none },
  { cls := 15, slots := #[.int 108], vm := .none },
  { cls := 15, slots := #[.int 109], vm := .none },
  { cls := 15, slots := #[.int 110], vm := .none },
  { cls := 15, slots := #[.int 111], vm := .none },
  { cls := 15, slots := #[.int 112], vm := .none },
  { cls := 15, slots := #[.int 113], vm := .none },
  { cls := 15, slots := #[.int 114], vm := .none },
  { cls := 15, slots := #[.int 115], vm := .none },
  { cls := 15, slots := #[.int 116], vm := .none },
  { cls := 15, slots := #[.int 117], vm := .none },
  { cls := 15, slots := #[.int 118], vm := .none },
  { cls := 15, slots := #[.int 119], vm := .none },
  { cls := 15, slots := #[.int 120], vm := .none },
  { cls := 15, slots := #[.int 121], vm := .none },
  { cls := 15, slots := #[.int 122], vm := .none },
  { cls := 15, slots := #[.int 123], vm := .none },
  { cls := 15, slots := #[.int 124], vm := .none },
  { cls := 15, slots := #[.int 125], vm := .none },
  { cls := 15, slots := #[.int 126], vm := .none },
  { cls := 15, slots := #[.int 127], vm := .none }]
def classes : Array Class := #[k0, k1, k2, k3, k4, k5, k6, k7, k8, k9, k10, k11, k12, k13, k14, k15, k16, k17, k18, k19, k20, k21, k22]
def interned : List (Array UInt16 × Addr) := []
def slotsUsed : Nat := 548
def theMethod : MethodId := ⟨1, 2⟩
def args0 : Array Value := #[.int 5, .int 3, .int 1]
def aboutOver (below : List Frame) : State where
  vm := { classes := classes, interned := interned.toArray }
  heap := heap
  slotsUsed := slotsUsed
  threads := #[{ frames := .invoking theMethod args0 :: below }]
def below0 : List Frame := [.native { method := ⟨0, 0⟩, args := #[] }]
def about1 : State := aboutOver below0
def p0 : Program := .bare "" "" ""
def e0 : Env := launch0.env 0 0 0
theorem w_frames : about1.frames = Frame.invoking theMethod args0 :: below0 := rfl
set_option maxRecDepth 65536 in
theorem w_args : argsFit about1.vm theMethod args0 = true := by decide +kernel
set_option maxRecDepth 65536 in
theorem w_heap : heapFits about1 = true := by decide +kernel
set_option maxRecDepth 65536 in
theorem w_runnable : about1.curStatus? = some .runnable := by decide +kernel
set_option maxRecDepth 65536 in
theorem w_alone : about1.alone = true := by decide +kernel
set_option maxRecDepth 65536 in
theorem w_named : about1.methodNamed? x = some theMethod := by decide +kernel
set_option maxRecDepth 65536 in
theorem w_hears : about1.hears theMethod below0 = true := by decide +kernel
set_option maxRecDepth 65536 in
theorem w_ripe : about1.ripe theMethod args0 below0 = true := by decide +kernel
theorem w_running : about1.status = .running := rfl
set_option maxRecDepth 65536 in
theorem w_room : about1.hasRoom e0.platform room_1 = true :=
  launch0.hasRoom_least _ room_1 (by decide +kernel) (by decide +kernel) (by decide +kernel) (by decide +kernel) (by decide +kernel) (by decide +kernel)
theorem allAtoms_all (ts : List Jvm.Cond) (a : Array Jvm.Value) (st : Jvm.State) : (allAtoms ts).before a st = ts.all (fun c => c.before a st) := by
  induction ts with
  | nil => rfl
  | cons c t ih =>
    show (Jvm.Cond.and c (allAtoms t)).before a st = _
    rw [Jvm.Cond.before_and, ih, List.all_cons]
def words1 : List Jvm.Cond := Jvm.Cond.code x code maxLocals ret :: tables_1
/-- a 'code' word, met by the world's own term for the bytes: nothing is compared byte by byte -/
theorem code_word {y : MethodName} {bytes : ByteArray} {mx : Nat} {rt : Option FieldType} {a : Array Value} {s : State} {m : MethodId} {meth : Method} {c : Code} (h1 : s.methodNamed? y = some m) (h2 : s.vm.method? m = some meth) (h3 : meth.code = some c) (h4 : c.code = bytes)
    (h5 : (c.maxLocals == mx && c.exceptionTable.isEmpty && decide (c.maxStack ≤ mostOperands) && decide (meth.sig.returnType = rt) && !meth.locks && decide (parseMethodDescriptor y.desc = some meth.sig)) = true) : (Jvm.Cond.code y bytes mx rt).before a s = true := by
  simp only [Bool.and_eq_true, beq_iff_eq, Bool.not_eq_true', decide_eq_true_eq] at h5
  obtain ⟨⟨⟨⟨⟨g1, g2⟩, g3⟩, g4⟩, g5⟩, g6⟩ := h5
  simp [Cond.before, Cond.holds, Cond.value, h1, h2, h3, h4, g1, g2, g3, g4, g5, g6]
def isCode : Jvm.Cond → Bool
  | .code _ _ _ _ => true
  | _ => false
theorem all_split {L : List Jvm.Cond} {P : Jvm.Cond → Bool} (h1 : L.all (fun c => isCode c || P c) = true) (h2 : ∀ c ∈ L.filter isCode, P c = true) : L.all P = true := by
  refine List.all_eq_true.mpr fun c hc => ?_
  have h := List.all_eq_true.mp h1 c hc
  rcases Bool.eq_false_or_eq_true (isCode c) with hi | hi
  · exact h2 c (List.mem_filter.mpr ⟨hc, hi⟩)
  · simpa [hi] using h
set_option maxRecDepth 65536 in
theorem w_c0 : (Jvm.Cond.code x code maxLocals ret).before args0 about1 = true := code_word (m := ⟨1, 2⟩) (meth := k1m2) (c := k1c2) (by decide +kernel) rfl rfl rfl (by decide +kernel)
set_option maxRecDepth 65536 in
theorem w_c1 : (Jvm.Cond.code ({ cls := "com/example/nodeward/nodeward/model/SettledEqualsPinLaw", name := "pick", desc := "(I)Lcom/example/nodeward/nodeward/model/ExtendedDecision;" } : Jvm.MethodName) method_2_code (1 : Nat) (Option.some (Jvm.ClassFile.FieldType.object "com/example/nodeward/nodeward/model/ExtendedDecision"))).before args0 about1 = true := code_word (m := ⟨1, 1⟩) (meth := k1m1) (c := k1c1) (by decide +kernel) rfl rfl rfl (by decide +kernel)
set_option maxRecDepth 65536 in
theorem w_c2 : (Jvm.Cond.code ({ cls := "com/example/nodeward/nodeward/model/ConditionalDecision$Settled", name := "<init>", desc := "(Lcom/example/nodeward/nodeward/model/ExtendedDecision;)V" } : Jvm.MethodName) prog_68_method_1_code (2 : Nat) (Option.none : Option Jvm.ClassFile.FieldType)).before args0 about1 = true := code_word (m := ⟨4, 0⟩) (meth := k4m0) (c := k4c0) (by decide +kernel) rfl rfl rfl (by decide +kernel)
set_option maxRecDepth 65536 in
theorem w_c3 : (Jvm.Cond.code ({ cls := "java/lang/Record", name := "<init>", desc := "()V" } : Jvm.MethodName) jdk_30_method_1_code (1 : Nat) (Option.none : Option Jvm.ClassFile.FieldType)).before args0 about1 = true := code_word (m := ⟨2, 0⟩) (meth := k2m0) (c := k2c0) (by decide +kernel) rfl rfl rfl (by decide +kernel)
set_option maxRecDepth 65536 in
theorem w_c4 : (Jvm.Cond.code ({ cls := "java/lang/Object", name := "<init>", desc := "()V" } : Jvm.MethodName) object_method_1_code (1 : Nat) (Option.none : Option Jvm.ClassFile.FieldType)).before args0 about1 = true := code_word (m := ⟨0, 0⟩) (meth := k0m0) (c := k0c0) (by decide +kernel) rfl rfl rfl (by decide +kernel)
set_option maxRecDepth 65536 in
theorem w_c5 : (Jvm.Cond.code ({ cls := "java/util/Objects", name := "requireNonNull", desc := "(Ljava/lang/Object;Ljava/lang/String;)Ljava/lang/Object;" } : Jvm.MethodName) jdk_31_method_11_code (2 : Nat) (Option.some (Jvm.ClassFile.FieldType.object "java/lang/Object"))).before args0 about1 = true := code_word (m := ⟨13, 1⟩) (meth := k13m1) (c := k13c1) (by decide +kernel) rfl rfl rfl (by decide +kernel)
set_option maxRecDepth 65536 in
theorem w_c6 : (Jvm.Cond.code ({ cls := "com/example/nodeward/nodeward/model/ConditionalDecision$Settled", name := "equals", desc := "(Ljava/lang/Object;)Z" } : Jvm.MethodName) prog_68_method_5_code (2 : Nat) (Option.some Jvm.ClassFile.FieldType.boolean)).before args0 about1 = true := code_word (m := ⟨4, 1⟩) (meth := k4m1) (c := k4c1) (by decide +kernel) rfl rfl rfl (by decide +kernel)
set_option maxRecDepth 65536 in
theorem w_c7 : (Jvm.Cond.code ({ cls := "java/lang/Integer", name := "valueOf", desc := "(I)Ljava/lang/Integer;" } : Jvm.MethodName) jdk_33_method_22_code (1 : Nat) (Option.some (Jvm.ClassFile.FieldType.object "java/lang/Integer"))).before args0 about1 = true := code_word (m := ⟨15, 0⟩) (meth := k15m0) (c := k15c0) (by decide +kernel) rfl rfl rfl (by decide +kernel)
def codes1 : List Jvm.Cond := [Jvm.Cond.code x code maxLocals ret, Jvm.Cond.code ({ cls := "com/example/nodeward/nodeward/model/SettledEqualsPinLaw", name := "pick", desc := "(I)Lcom/example/nodeward/nodeward/model/ExtendedDecision;" } : Jvm.MethodName) method_2_code (1 : Nat) (Option.some (Jvm.ClassFile.FieldType.object "com/example/nodeward/nodeward/model/ExtendedDecision")), Jvm.Cond.code ({ cls := "com/example/nodeward/nodeward/model/ConditionalDecision$Settled", name := "<init>", desc := "(Lcom/example/nodeward/nodeward/model/ExtendedDecision;)V" } : Jvm.MethodName) prog_68_method_1_code (2 : Nat) (Option.none : Option Jvm.ClassFile.FieldType), Jvm.Cond.code ({ cls := "java/lang/Record", name := "<init>", desc := "()V" } : Jvm.MethodName) jdk_30_method_1_code (1 : Nat) (Option.none : Option Jvm.ClassFile.FieldType), Jvm.Cond.code ({ cls := "java/lang/Object", name := "<init>", desc := "()V" } : Jvm.MethodName) object_method_1_code (1 : Nat) (Option.none : Option Jvm.ClassFile.FieldType), Jvm.Cond.code ({ cls := "java/util/Objects", name := "requireNonNull", desc := "(Ljava/lang/Object;Ljava/lang/String;)Ljava/lang/Object;" } : Jvm.MethodName) jdk_31_method_11_code (2 : Nat) (Option.some (Jvm.ClassFile.FieldType.object "java/lang/Object")), Jvm.Cond.code ({ cls := "com/example/nodeward/nodeward/model/ConditionalDecision$Settled", name := "equals", desc := "(Ljava/lang/Object;)Z" } : Jvm.MethodName) prog_68_method_5_code (2 : Nat) (Option.some Jvm.ClassFile.FieldType.boolean), Jvm.Cond.code ({ cls := "java/lang/Integer", name := "valueOf", desc := "(I)Ljava/lang/Integer;" } : Jvm.MethodName) jdk_33_method_22_code (1 : Nat) (Option.some (Jvm.ClassFile.FieldType.object "java/lang/Integer"))]
set_option maxRecDepth 65536 in
theorem codes_eq : words1.filter isCode = codes1 := rfl
theorem w_codes : ∀ c ∈ words1.filter isCode, c.before args0 about1 = true := by
  rw [codes_eq]
  intro c hc
  simp only [codes1, List.mem_cons, List.not_mem_nil, or_false] at hc
  rcases hc with rfl | rfl | rfl | rfl | rfl | rfl | rfl | rfl
  · exact w_c0
  · exact w_c1
  · exact w_c2
  · exact w_c3
  · exact w_c4
  · exact w_c5
  · exact w_c6
  · exact w_c7
set_option maxRecDepth 65536 in
theorem w_t1 : (words1.take 24).all (fun c => isCode c || c.before args0 about1) = true := by decide +kernel
set_option maxRecDepth 65536 in
theorem w_t2 : ((words1.drop 24).take 24).all (fun c => isCode c || c.before args0 about1) = true := by decide +kernel
set_option maxRecDepth 65536 in
theorem w_t3 : ((words1.drop 24).drop 24).all (fun c => isCode c || c.before args0 about1) = true := by decide +kernel
theorem w_tables : (allAtoms (Jvm.Cond.code x code maxLocals ret :: tables_1)).before args0 about1 = true := by
  rw [allAtoms_all]
  show words1.all (fun c => c.before args0 about1) = true
  refine all_split ?_ w_codes
  rw [← List.take_append_drop 24 words1, List.all_append, w_t1, ← List.take_append_drop 24 (words1.drop 24), List.all_append, w_t2, w_t3]
  rfl
set_option maxRecDepth 65536 in
theorem w_rest : rest_1_c.before args0 about1 = true := by decide +kernel
set_option maxRecDepth 65536 in
theorem w_case : (Jvm.Cond.and given_1 narrow_1).before args0 about1 = true := by decide +kernel
theorem w_applies : (headSpec (Jvm.Cond.code x code maxLocals ret :: tables_1) room_1).applies x e0.platform about1 = true :=
  (Spec.applies_iff w_frames).mpr ⟨w_running, w_runnable, w_alone, w_named, w_hears, w_ripe, w_room, w_tables⟩
theorem atStart : AtStart classFile x code maxLocals ret World_1 tables_1 room_1 Calls_1 rest_1 Pre_1 launch0 p0 e0 about1 theMethod args0 below0 :=
  ⟨lists_1, trivial, launch0.admits_env _ _ _, launch0.least_env, fairChoices_fair.cas, fairChoices_fair.clock, w_frames, w_args, w_heap, w_applies, trivial, w_rest, w_case⟩
end start1
theorem witness_1 : WitnessClaimed_1 := ⟨start1.p0, start1.e0, start1.about1, start1.theMethod, start1.args0, start1.below0, start1.atStart⟩
end Jvm.Pilot.@@N@@

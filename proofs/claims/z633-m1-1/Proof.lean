import JvmDerived
import JvmDerived.Pilot.@@N@@Statement
import JvmDerived.Pilot.@@N@@Code
set_option linter.unusedVariables false
set_option linter.unusedSimpArgs false
namespace Jvm.RoadKit
open Sem ClassFile Op Lib Jvm.Stand Jvm.Free Jvm.LawKit
section New
variable {p : Program} {l : Launch} {e : Env} {R : Room} {s : State} {m : MethodId} {args : Array Value} {below : List Frame} {meth : Method} {c : Code} {T : State} {locs : List Loc} {cells slots : Nat}
theorem retI (X : Stand p l e R s m args below meth c T locs cells slots) (hx : p.tables.exec = Jvm.exec) {pc : Nat} {Ls : Array Slot} {z : Int32} {rest : List Value} (hret : meth.sig.returnType = some .int) (hd : decode c.code pc = .ok (.ireturn, 1)) {fs : List Frame}
    (hl : ∀ (f : JFrame) (acts : List Action), f.method = m → f.locked = none → f.entered = [] → (doReturn e (T.setTop f) acts (some (.int z))).1 = T.setFrames fs) : Steps p.tables e below (T.setTop (mkF m pc Ls (.int z :: rest))) (T.setFrames fs) := by
  have hm' : T.vm.method? m = some meth := X.method'
  have hn : narrow .int (.int z) = .int z := rfl
  show Steps p.tables e below (T.setTop { method := m, pc := pc, locals := Ls, stack := _ :: rest, locked := none }) _
  jvm_step X.here [X.here.top, hx, hd, hm', hret, hn]
  first | (intro acts; rw [hl _ acts rfl rfl rfl]) | rw [hl _ _ rfl rfl rfl]
  exact Steps.refl _
end New
end Jvm.RoadKit
namespace Jvm.Pilot.@@N@@
open Jvm Jvm.ClassFile Sem Op Lib Jvm.Free Jvm.Stand Jvm.LawKit Jvm.RoadKit Bundle Jvm.Pilot.@@N@@.Jvm.D
theorem own_sta_keep {Z : State} {h h' : Heap} {C n d : String} {v : Value} (F : Sta Z h C n d v) (K : Keep h h' []) : Sta Z h' C n d v := by
  obtain ⟨cf, i, k, f, st, cell, h1, h2, h3, h4, h5, r⟩ := F
  exact ⟨cf, i, k, f, st, cell, h1, h2, h3, h4, K.2.1 _ _ h5 nin0, r⟩
/-- whoever comes from B to t comes from A to t -/
abbrev own_R (p : Program) (e : Env) (below : List Frame) (A B : State) : Prop := ∀ t, Steps p.tables e below B t → Steps p.tables e below A t
def own_nx (i0 i1 i2 s0 s1 s2 : Int32) : Int32 := if (i2 + (1 : Int32)) < s2 then (1 : Int32) else if (i1 + (1 : Int32)) < s1 then (1 : Int32) else if (i0 + (1 : Int32)) < s0 then (1 : Int32) else (0 : Int32)
def own_j2 (i0 i1 i2 s0 s1 s2 : Int32) : Int32 := if (i2 + (1 : Int32)) < s2 then (i2 + (1 : Int32)) else (0 : Int32)
def own_j1 (i0 i1 i2 s0 s1 s2 : Int32) : Int32 := if (i2 + (1 : Int32)) < s2 then i1 else if (i1 + (1 : Int32)) < s1 then (i1 + (1 : Int32)) else (0 : Int32)
def own_j0 (i0 i1 i2 s0 s1 s2 : Int32) : Int32 := if (i2 + (1 : Int32)) < s2 then i0 else if (i1 + (1 : Int32)) < s1 then i0 else if (i0 + (1 : Int32)) < s0 then (i0 + (1 : Int32)) else (0 : Int32)
theorem d1_0 : decode prog_65_method_2_code 0 = .ok (.aload_n 0, 1) := by decide +kernel
theorem d1_1 : decode prog_65_method_2_code 1 = .ok (.arraylength, 1) := by decide +kernel
theorem d1_2 : decode prog_65_method_2_code 2 = .ok (.iconst 1, 1) := by decide +kernel
theorem d1_3 : decode prog_65_method_2_code 3 = .ok (.isub, 1) := by decide +kernel
theorem d1_4 : decode prog_65_method_2_code 4 = .ok (.istore_n 2, 1) := by decide +kernel
theorem d1_5 : decode prog_65_method_2_code 5 = .ok (.iload_n 2, 1) := by decide +kernel
theorem d1_6 : decode prog_65_method_2_code 6 = .ok (.ifCond .lt 31, 3) := by decide +kernel
theorem d1_9 : decode prog_65_method_2_code 9 = .ok (.aload_n 0, 1) := by decide +kernel
theorem d1_10 : decode prog_65_method_2_code 10 = .ok (.iload_n 2, 1) := by decide +kernel
theorem d1_11 : decode prog_65_method_2_code 11 = .ok (.dup2, 1) := by decide +kernel
theorem d1_12 : decode prog_65_method_2_code 12 = .ok (.iaload, 1) := by decide +kernel
theorem d1_13 : decode prog_65_method_2_code 13 = .ok (.iconst 1, 1) := by decide +kernel
theorem d1_14 : decode prog_65_method_2_code 14 = .ok (.iadd, 1) := by decide +kernel
theorem d1_15 : decode prog_65_method_2_code 15 = .ok (.iastore, 1) := by decide +kernel
theorem d1_16 : decode prog_65_method_2_code 16 = .ok (.aload_n 0, 1) := by decide +kernel
theorem d1_17 : decode prog_65_method_2_code 17 = .ok (.iload_n 2, 1) := by decide +kernel
theorem d1_18 : decode prog_65_method_2_code 18 = .ok (.iaload, 1) := by decide +kernel
theorem d1_19 : decode prog_65_method_2_code 19 = .ok (.aload_n 1, 1) := by decide +kernel
theorem d1_20 : decode prog_65_method_2_code 20 = .ok (.iload_n 2, 1) := by decide +kernel
theorem d1_21 : decode prog_65_method_2_code 21 = .ok (.iaload, 1) := by decide +kernel
theorem d1_22 : decode prog_65_method_2_code 22 = .ok (.if_icmp .ge 5, 3) := by decide +kernel
theorem d1_25 : decode prog_65_method_2_code 25 = .ok (.iconst 1, 1) := by decide +kernel
theorem d1_26 : decode prog_65_method_2_code 26 = .ok (.ireturn, 1) := by decide +kernel
theorem d1_27 : decode prog_65_method_2_code 27 = .ok (.aload_n 0, 1) := by decide +kernel
theorem d1_28 : decode prog_65_method_2_code 28 = .ok (.iload_n 2, 1) := by decide +kernel
theorem d1_29 : decode prog_65_method_2_code 29 = .ok (.iconst 0, 1) := by decide +kernel
theorem d1_30 : decode prog_65_method_2_code 30 = .ok (.iastore, 1) := by decide +kernel
theorem d1_31 : decode prog_65_method_2_code 31 = .ok (.iinc 2 (-1), 3) := by decide +kernel
theorem d1_34 : decode prog_65_method_2_code 34 = .ok (.goto (-29), 3) := by decide +kernel
theorem d1_37 : decode prog_65_method_2_code 37 = .ok (.iconst 0, 1) := by decide +kernel
theorem d1_38 : decode prog_65_method_2_code 38 = .ok (.ireturn, 1) := by decide +kernel
theorem pn_1 : plainName "com/example/randomized_protocol_models/randomizedprotocolmodels/model/Combinations" = true := by first | (simp [plainName, overriddenIn]; done) | decide +kernel
theorem ef_1 (m : MethodId) (x0 : Addr) (x1 : Addr) : entryFrame m #[(.ref x0), (.ref x1)] 3 = mkF m 0 #[.val (.ref x0), .val (.ref x1), .unset] [] := by first | (simp [entryFrame, mkF, argsToLocals, Value.category]; done) | rfl
def Q1 (Z : State) (r0 : Addr) (r1 : Addr) (k1 : ClassId) (k2 : ClassId) (i0 : Int32) (i1 : Int32) (i2 : Int32) (s0 : Int32) (s1 : Int32) (s2 : Int32) (h0 : Heap) (n0 : Nat) (v : Option Value) (h : Heap) (L : List Loc) : Prop := v = some (.int (own_nx i0 i1 i2 s0 s1 s2)) ∧ Fr n0 L ∧ Keep h0 h [r0] ∧ Arv Z h r0 k1 .int (3 : Int32) [.int (own_j0 i0 i1 i2 s0 s1 s2), .int (own_j1 i0 i1 i2 s0 s1 s2), .int (own_j2 i0 i1 i2 s0 s1 s2)] (.int (0 : Int32))
set_option maxRecDepth 65536 in
set_option maxHeartbeats 40000000 in
theorem rm1 (l : Launch) (Z : State) (a0 : Array Value) (hw : ∀ d ∈ tables_1, d.before a0 Z = true) (ws : List Jvm.Cond) (r0 : Addr) (r1 : Addr) (k1 : ClassId) (k2 : ClassId) (i0 : Int32) (i1 : Int32) (i2 : Int32) (s0 : Int32) (s1 : Int32) (s2 : Int32) (h0 : Heap) (n0 : Nat) (Z0 : n0 ≤ h0.size) (n01 : r0 ≠ r1) (g_r0 : n0 ≤ r0) (Vr0 : Arv Z h0 r0 k1 .int (3 : Int32) [.int i0, .int i1, .int i2] (.int (0 : Int32))) (Vr1 : Arv Z h0 r1 k2 .int (3 : Int32) [.int s0, .int s1, .int s2] (.int (0 : Int32))) :
    MetFree l (⟨"com/example/randomized_protocol_models/randomizedprotocolmodels/model/Combinations", "next", "([I[I)Z"⟩ : MethodName) (head1 (Jvm.Cond.code (⟨"com/example/randomized_protocol_models/randomizedprotocolmodels/model/Combinations", "next", "([I[I)Z"⟩ : MethodName) prog_65_method_2_code 3 (some .boolean) :: ws) ({ frames := 0, cells := 0, slots := 0, locals := 0 } : Room)) (fun a U => a = #[(.ref r0), (.ref r1)] ∧ Z.Warmed39 U.vm ∧ U.heap = h0) (fun _ _ _ _ _ => True) (fun _ U o U' => ∃ v L, o = .returned v ∧ Q1 Z r0 r1 k1 k2 i0 i1 i2 s0 s1 s2 h0 n0 v U'.heap L ∧ FrameEnd U o U' L ({ frames := 0, cells := 0, slots := 0, locals := 0 } : Room).cells ({ frames := 0, cells := 0, slots := 0, locals := 0 } : Room).slots) := by
  refine MetFree.of_bodySF (plainFor_of_name pn_1) hisR ?_
  intro p e s m args below meth c s₁ Bd hml0 hP hK
  obtain ⟨rfl, hZ, hh⟩ := hP
  have hx := Bd.exec
  have hby := Bd.bytes
  have hml : c.maxLocals = 3 := hml0
  have hown : s.vm.findClass "com/example/randomized_protocol_models/randomizedprotocolmodels/model/Combinations" = some m.cls := findClass_of_methodNamed Bd.named
  have hnm := (name_of_methodNamed Bd.named Bd.method).1
  have X0 : Stand p l e ({ frames := 0, cells := 0, slots := 0, locals := 0 } : Room) s m #[(.ref r0), (.ref r1)] below meth c s₁ [] 0 0 := Stand.of_body Bd
  have e0 : s₁.heap = h0 := by rw [← hh, Bd.state]; rfl
  have N0 := Fr.nil n0
  have k0 : own_R p e below (s₁.setTop (entryFrame m #[(.ref r0), (.ref r1)] 3)) (s₁.setTop (mkF m 0 #[.val (.ref r0), .val (.ref r1), .unset] [])) := fun t k => castTop (ef_1 m r0 r1) k
  have ks1 : own_R p e below (s₁.setTop (entryFrame m #[(.ref r0), (.ref r1)] 3)) (s₁.setTop (mkF m 1 #[.val (.ref r0), .val (.ref r1), .unset] [(.ref r0)])) := fun t k => k0 t (by
    show Steps p.tables e below (s₁.setTop (mkF m 0 #[.val (.ref r0), .val (.ref r1), .unset] [])) _
    refine XS.aloadN X0.here hx rfl (hb hby d1_0) rfl rfl ?_
    exact k)
  obtain ⟨cl2, Ar2, qa2, S2, Na2, Ha2, Ga2⟩ := id Vr0
  have ks3 : own_R p e below (s₁.setTop (entryFrame m #[(.ref r0), (.ref r1)] 3)) (s₁.setTop (mkF m 15 #[.val (.ref r0), .val (.ref r1), .val (.int (2 : Int32))] [(.int (i2 + (1 : Int32))), (.int (2 : Int32)), (.ref r0)])) := fun t k => ks1 t (by
    show Steps p.tables e below (s₁.setTop (mkF m 1 #[.val (.ref r0), .val (.ref r1), .unset] [(.ref r0)])) _
    refine X0.arraylength hx (by rw [e0]; exact Ar2.1) (State.isArrayOf_alike hZ.alike Ar2.2.1) (g := (mkF m 1 #[.val (.ref r0), .val (.ref r1), .unset] [(.ref r0)])) rfl rfl (hb hby d1_1) _ ?_
    rw [len_of S2 Na2]
    show Steps p.tables e below (s₁.setTop (mkF m 2 #[.val (.ref r0), .val (.ref r1), .unset] [(.int (3 : Int32))])) _
    refine XS.iconst X0.here hx rfl (hb hby d1_2) ?_
    show Steps p.tables e below (s₁.setTop (mkF m 3 #[.val (.ref r0), .val (.ref r1), .unset] [(.int (1 : Int32)), (.int (3 : Int32))])) _
    refine XS.isub X0.here hx rfl (hb hby d1_3) rfl ?_
    show Steps p.tables e below (s₁.setTop (mkF m 4 #[.val (.ref r0), .val (.ref r1), .unset] [(.int (2 : Int32))])) _
    refine XS.istoreN X0.here hx rfl (hb hby d1_4) rfl (l' := #[.val (.ref r0), .val (.ref r1), .val (.int (2 : Int32))]) rfl ?_
    show Steps p.tables e below (s₁.setTop (mkF m 5 #[.val (.ref r0), .val (.ref r1), .val (.int (2 : Int32))] [])) _
    refine XS.iloadN X0.here hx rfl (hb hby d1_5) rfl ?_
    show Steps p.tables e below (s₁.setTop (mkF m 6 #[.val (.ref r0), .val (.ref r1), .val (.int (2 : Int32))] [(.int (2 : Int32))])) _
    refine XS.ifNo X0.here hx rfl (hb hby d1_6) rfl ((if0 _ _).trans (flt (by decide)).1) ?_
    show Steps p.tables e below (s₁.setTop (mkF m 9 #[.val (.ref r0), .val (.ref r1), .val (.int (2 : Int32))] [])) _
    refine XS.aloadN X0.here hx rfl (hb hby d1_9) rfl rfl ?_
    show Steps p.tables e below (s₁.setTop (mkF m 10 #[.val (.ref r0), .val (.ref r1), .val (.int (2 : Int32))] [(.ref r0)])) _
    refine XS.iloadN X0.here hx rfl (hb hby d1_10) rfl ?_
    show Steps p.tables e below (s₁.setTop (mkF m 11 #[.val (.ref r0), .val (.ref r1), .val (.int (2 : Int32))] [(.int (2 : Int32)), (.ref r0)])) _
    jvm_step X0.here [X0.here.top, hx, (hb hby d1_11), Value.category]
    show Steps p.tables e below (s₁.setTop (mkF m 12 #[.val (.ref r0), .val (.ref r1), .val (.int (2 : Int32))] [(.int (2 : Int32)), (.ref r0), (.int (2 : Int32)), (.ref r0)])) _
    refine X0.iaload hx (j := (2 : Int32)) (v := (.int i2)) (by rw [e0]; exact Ar2.1) (State.isArrayOf_alike hZ.alike Ar2.2.1) Ar2.2.2 (inb_of S2 ⟨by decide, by decide⟩) (Has.at Ha2 (inb_of S2 ⟨by decide, by decide⟩) rfl) (g := (mkF m 12 #[.val (.ref r0), .val (.ref r1), .val (.int (2 : Int32))] [(.int (2 : Int32)), (.ref r0), (.int (2 : Int32)), (.ref r0)])) rfl rfl (hb hby d1_12) _ ?_
    show Steps p.tables e below (s₁.setTop (mkF m 13 #[.val (.ref r0), .val (.ref r1), .val (.int (2 : Int32))] [(.int i2), (.int (2 : Int32)), (.ref r0)])) _
    refine XS.iconst X0.here hx rfl (hb hby d1_13) ?_
    show Steps p.tables e below (s₁.setTop (mkF m 14 #[.val (.ref r0), .val (.ref r1), .val (.int (2 : Int32))] [(.int (1 : Int32)), (.int i2), (.int (2 : Int32)), (.ref r0)])) _
    refine XS.iadd X0.here hx rfl (hb hby d1_14) rfl ?_
    exact k)
  obtain ⟨cl4, Ar4, qa4, S4, Na4, Ha4, Ga4⟩ := id Vr0
  have hin4 : ¬ ((2 : Int32) < 0 ∨ cl4.slots.size ≤ ((2 : Int32)).toNatClampNeg) := inb_of S4 ⟨by decide, by decide⟩
  obtain ⟨T5, h5, X5, e5, W5, st5⟩ := stI X0 hx hZ e0 Ar4 (j := (2 : Int32)) hin4 (g := (mkF m 15 #[.val (.ref r0), .val (.ref r1), .val (.int (2 : Int32))] [(.int (i2 + (1 : Int32))), (.int (2 : Int32)), (.ref r0)])) rfl rfl (hb hby d1_15)
  have V5 : Arv Z h5 r0 k1 .int (3 : Int32) [(.int i0), (.int i1), (.int (i2 + (1 : Int32)))] (.int (0 : Int32)) := Arv.set Ar4 qa4 S4 Na4 Ha4 Ga4 rfl W5 2 rfl (Nat.le_of_ble_eq_true rfl)
  have KH5 : Keep h0 h5 [r0] := (Keep.refl h0 [r0]).wr W5 (Or.inl (List.mem_of_getElem? (i := 0) rfl))
  have Zn5 : n0 ≤ h5.size := Nat.le_trans Z0 (Keep.of_wr W5).1
  have N5 := Fr.snoc X5 N0 g_r0
  have ks6 : own_R p e below (s₁.setTop (entryFrame m #[(.ref r0), (.ref r1)] 3)) (T5.setTop (mkF m 16 #[.val (.ref r0), .val (.ref r1), .val (.int (2 : Int32))] [])) := fun t k => ks3 t (st5 t k)
  have ks7 : own_R p e below (s₁.setTop (entryFrame m #[(.ref r0), (.ref r1)] 3)) (T5.setTop (mkF m 18 #[.val (.ref r0), .val (.ref r1), .val (.int (2 : Int32))] [(.int (2 : Int32)), (.ref r0)])) := fun t k => ks6 t (by
    show Steps p.tables e below (T5.setTop (mkF m 16 #[.val (.ref r0), .val (.ref r1), .val (.int (2 : Int32))] [])) _
    refine XS.aloadN X5.here hx rfl (hb hby d1_16) rfl rfl ?_
    show Steps p.tables e below (T5.setTop (mkF m 17 #[.val (.ref r0), .val (.ref r1), .val (.int (2 : Int32))] [(.ref r0)])) _
    refine XS.iloadN X5.here hx rfl (hb hby d1_17) rfl ?_
    exact k)
  obtain ⟨cl8, Ar8, qa8, S8, Na8, Ha8, Ga8⟩ := id V5
  have ks9 : own_R p e below (s₁.setTop (entryFrame m #[(.ref r0), (.ref r1)] 3)) (T5.setTop (mkF m 21 #[.val (.ref r0), .val (.ref r1), .val (.int (2 : Int32))] [(.int (2 : Int32)), (.ref r1), (.int (i2 + (1 : Int32)))])) := fun t k => ks7 t (by
    show Steps p.tables e below (T5.setTop (mkF m 18 #[.val (.ref r0), .val (.ref r1), .val (.int (2 : Int32))] [(.int (2 : Int32)), (.ref r0)])) _
    refine X5.iaload hx (j := (2 : Int32)) (v := (.int (i2 + (1 : Int32)))) (by rw [e5]; exact Ar8.1) (State.isArrayOf_alike hZ.alike Ar8.2.1) Ar8.2.2 (inb_of S8 ⟨by decide, by decide⟩) (Has.at Ha8 (inb_of S8 ⟨by decide, by decide⟩) rfl) (g := (mkF m 18 #[.val (.ref r0), .val (.ref r1), .val (.int (2 : Int32))] [(.int (2 : Int32)), (.ref r0)])) rfl rfl (hb hby d1_18) _ ?_
    show Steps p.tables e below (T5.setTop (mkF m 19 #[.val (.ref r0), .val (.ref r1), .val (.int (2 : Int32))] [(.int (i2 + (1 : Int32)))])) _
    refine XS.aloadN X5.here hx rfl (hb hby d1_19) rfl rfl ?_
    show Steps p.tables e below (T5.setTop (mkF m 20 #[.val (.ref r0), .val (.ref r1), .val (.int (2 : Int32))] [(.ref r1), (.int (i2 + (1 : Int32)))])) _
    refine XS.iloadN X5.here hx rfl (hb hby d1_20) rfl ?_
    exact k)
  have f10 := Vr1.keep KH5 (ninS (Ne.symm n01) nin0)
  obtain ⟨cl11, Ar11, qa11, S11, Na11, Ha11, Ga11⟩ := id f10
  have ks12 : own_R p e below (s₁.setTop (entryFrame m #[(.ref r0), (.ref r1)] 3)) (T5.setTop (mkF m 22 #[.val (.ref r0), .val (.ref r1), .val (.int (2 : Int32))] [(.int s2), (.int (i2 + (1 : Int32)))])) := fun t k => ks9 t (by
    show Steps p.tables e below (T5.setTop (mkF m 21 #[.val (.ref r0), .val (.ref r1), .val (.int (2 : Int32))] [(.int (2 : Int32)), (.ref r1), (.int (i2 + (1 : Int32)))])) _
    refine X5.iaload hx (j := (2 : Int32)) (v := (.int s2)) (by rw [e5]; exact Ar11.1) (State.isArrayOf_alike hZ.alike Ar11.2.1) Ar11.2.2 (inb_of S11 ⟨by decide, by decide⟩) (Has.at Ha11 (inb_of S11 ⟨by decide, by decide⟩) rfl) (g := (mkF m 21 #[.val (.ref r0), .val (.ref r1), .val (.int (2 : Int32))] [(.int (2 : Int32)), (.ref r1), (.int (i2 + (1 : Int32)))])) rfl rfl (hb hby d1_21) _ ?_
    exact k)
  by_cases hc13 : (i2 + (1 : Int32)) < s2
  · skip
    have ks14 : own_R p e below (s₁.setTop (entryFrame m #[(.ref r0), (.ref r1)] 3)) (T5.setTop (mkF m 26 #[.val (.ref r0), .val (.ref r1), .val (.int (2 : Int32))] [(.int (1 : Int32))])) := fun t k => ks12 t (by
      show Steps p.tables e below (T5.setTop (mkF m 22 #[.val (.ref r0), .val (.ref r1), .val (.int (2 : Int32))] [(.int s2), (.int (i2 + (1 : Int32)))])) _
      refine XS.icmpNo X5.here hx rfl (hb hby d1_22) rfl (tlt hc13).2.1 ?_
      show Steps p.tables e below (T5.setTop (mkF m 25 #[.val (.ref r0), .val (.ref r1), .val (.int (2 : Int32))] [])) _
      refine XS.iconst X5.here hx rfl (hb hby d1_25) ?_
      exact k)
    obtain ⟨fs, hr, hrun, hended, hW, hsame⟩ := X5.leave (v := some (.int (1 : Int32))) (fun h => by rw [Bd.returns] at h; cases h)
    refine ⟨_, _, ks14 _ ?_, hrun, hended, _, _, rfl, ?_, ⟨_, rfl⟩, hW, hsame.mono (by decide) (by decide)⟩
    · exact retN X5 hx (t := .boolean) Bd.returns (by simp) (hb hby d1_26) hr
    · show Q1 Z r0 r1 k1 k2 i0 i1 i2 s0 s1 s2 h0 n0 _ T5.heap _
      rw [e5]
      have x2 : own_j2 i0 i1 i2 s0 s1 s2 = (i2 + (1 : Int32)) := by rw [own_j2, if_pos hc13]
      have x1 : own_j1 i0 i1 i2 s0 s1 s2 = i1 := by rw [own_j1, if_pos hc13]
      have x0 : own_j0 i0 i1 i2 s0 s1 s2 = i0 := by rw [own_j0, if_pos hc13]
      refine ⟨by rw [own_nx, if_pos hc13], N5, KH5, ?_⟩
      rw [x0, x1, x2]
      exact V5
  · skip
    have ks15 : own_R p e below (s₁.setTop (entryFrame m #[(.ref r0), (.ref r1)] 3)) (T5.setTop (mkF m 30 #[.val (.ref r0), .val (.ref r1), .val (.int (2 : Int32))] [(.int (0 : Int32)), (.int (2 : Int32)), (.ref r0)])) := fun t k => ks12 t (by
      show Steps p.tables e below (T5.setTop (mkF m 22 #[.val (.ref r0), .val (.ref r1), .val (.int (2 : Int32))] [(.int s2), (.int (i2 + (1 : Int32)))])) _
      refine XS.icmpYes X5.here hx rfl (pc0 := 22) (pc' := 27) rfl (hb hby d1_22) rfl (flt hc13).2.1 (by decide) (by decide) ?_
      show Steps p.tables e below (T5.setTop (mkF m 27 #[.val (.ref r0), .val (.ref r1), .val (.int (2 : Int32))] [])) _
      refine XS.aloadN X5.here hx rfl (hb hby d1_27) rfl rfl ?_
      show Steps p.tables e below (T5.setTop (mkF m 28 #[.val (.ref r0), .val (.ref r1), .val (.int (2 : Int32))] [(.ref r0)])) _
      refine XS.iloadN X5.here hx rfl (hb hby d1_28) rfl ?_
      show Steps p.tables e below (T5.setTop (mkF m 29 #[.val (.ref r0), .val (.ref r1), .val (.int (2 : Int32))] [(.int (2 : Int32)), (.ref r0)])) _
      refine XS.iconst X5.here hx rfl (hb hby d1_29) ?_
      exact k)
    obtain ⟨cl16, Ar16, qa16, S16, Na16, Ha16, Ga16⟩ := id V5
    have hin16 : ¬ ((2 : Int32) < 0 ∨ cl16.slots.size ≤ ((2 : Int32)).toNatClampNeg) := inb_of S16 ⟨by decide, by decide⟩
    obtain ⟨T17, h17, X17, e17, W17, st17⟩ := stI X5 hx hZ e5 Ar16 (j := (2 : Int32)) hin16 (g := (mkF m 30 #[.val (.ref r0), .val (.ref r1), .val (.int (2 : Int32))] [(.int (0 : Int32)), (.int (2 : Int32)), (.ref r0)])) rfl rfl (hb hby d1_30)
    have V17 : Arv Z h17 r0 k1 .int (3 : Int32) [(.int i0), (.int i1), (.int (0 : Int32))] (.int (0 : Int32)) := Arv.set Ar16 qa16 S16 Na16 Ha16 Ga16 rfl W17 2 rfl (Nat.le_of_ble_eq_true rfl)
    have KH17 : Keep h0 h17 [r0] := KH5.wr W17 (Or.inl (List.mem_of_getElem? (i := 0) rfl))
    have Zn17 : n0 ≤ h17.size := Nat.le_trans Zn5 (Keep.of_wr W17).1
    have N17 := Fr.snoc X17 N5 g_r0
    have ks18 : own_R p e below (s₁.setTop (entryFrame m #[(.ref r0), (.ref r1)] 3)) (T17.setTop (mkF m 31 #[.val (.ref r0), .val (.ref r1), .val (.int (2 : Int32))] [])) := fun t k => ks15 t (st17 t k)
    have ks19 : own_R p e below (s₁.setTop (entryFrame m #[(.ref r0), (.ref r1)] 3)) (T17.setTop (mkF m 12 #[.val (.ref r0), .val (.ref r1), .val (.int (1 : Int32))] [(.int (1 : Int32)), (.ref r0), (.int (1 : Int32)), (.ref r0)])) := fun t k => ks18 t (by
      show Steps p.tables e below (T17.setTop (mkF m 31 #[.val (.ref r0), .val (.ref r1), .val (.int (2 : Int32))] [])) _
      refine XS.iinc X17.here hx rfl (hb hby d1_31) rfl (l' := #[.val (.ref r0), .val (.ref r1), .val (.int (1 : Int32))]) rfl ?_
      show Steps p.tables e below (T17.setTop (mkF m 34 #[.val (.ref r0), .val (.ref r1), .val (.int (1 : Int32))] [])) _
      refine XS.goto X17.here hx rfl (pc0 := 34) (pc' := 5) rfl (hb hby d1_34) (by decide) (by decide) ?_
      show Steps p.tables e below (T17.setTop (mkF m 5 #[.val (.ref r0), .val (.ref r1), .val (.int (1 : Int32))] [])) _
      refine XS.iloadN X17.here hx rfl (hb hby d1_5) rfl ?_
      show Steps p.tables e below (T17.setTop (mkF m 6 #[.val (.ref r0), .val (.ref r1), .val (.int (1 : Int32))] [(.int (1 : Int32))])) _
      refine XS.ifNo X17.here hx rfl (hb hby d1_6) rfl ((if0 _ _).trans (flt (by decide)).1) ?_
      show Steps p.tables e below (T17.setTop (mkF m 9 #[.val (.ref r0), .val (.ref r1), .val (.int (1 : Int32))] [])) _
      refine XS.aloadN X17.here hx rfl (hb hby d1_9) rfl rfl ?_
      show Steps p.tables e below (T17.setTop (mkF m 10 #[.val (.ref r0), .val (.ref r1), .val (.int (1 : Int32))] [(.ref r0)])) _
      refine XS.iloadN X17.here hx rfl (hb hby d1_10) rfl ?_
      show Steps p.tables e below (T17.setTop (mkF m 11 #[.val (.ref r0), .val (.ref r1), .val (.int (1 : Int32))] [(.int (1 : Int32)), (.ref r0)])) _
      jvm_step X17.here [X17.here.top, hx, (hb hby d1_11), Value.category]
      exact k)
    obtain ⟨cl20, Ar20, qa20, S20, Na20, Ha20, Ga20⟩ := id V17
    have ks21 : own_R p e below (s₁.setTop (entryFrame m #[(.ref r0), (.ref r1)] 3)) (T17.setTop (mkF m 15 #[.val (.ref r0), .val (.ref r1), .val (.int (1 : Int32))] [(.int (i1 + (1 : Int32))), (.int (1 : Int32)), (.ref r0)])) := fun t k => ks19 t (by
      show Steps p.tables e below (T17.setTop (mkF m 12 #[.val (.ref r0), .val (.ref r1), .val (.int (1 : Int32))] [(.int (1 : Int32)), (.ref r0), (.int (1 : Int32)), (.ref r0)])) _
      refine X17.iaload hx (j := (1 : Int32)) (v := (.int i1)) (by rw [e17]; exact Ar20.1) (State.isArrayOf_alike hZ.alike Ar20.2.1) Ar20.2.2 (inb_of S20 ⟨by decide, by decide⟩) (Has.at Ha20 (inb_of S20 ⟨by decide, by decide⟩) rfl) (g := (mkF m 12 #[.val (.ref r0), .val (.ref r1), .val (.int (1 : Int32))] [(.int (1 : Int32)), (.ref r0), (.int (1 : Int32)), (.ref r0)])) rfl rfl (hb hby d1_12) _ ?_
      show Steps p.tables e below (T17.setTop (mkF m 13 #[.val (.ref r0), .val (.ref r1), .val (.int (1 : Int32))] [(.int i1), (.int (1 : Int32)), (.ref r0)])) _
      refine XS.iconst X17.here hx rfl (hb hby d1_13) ?_
      show Steps p.tables e below (T17.setTop (mkF m 14 #[.val (.ref r0), .val (.ref r1), .val (.int (1 : Int32))] [(.int (1 : Int32)), (.int i1), (.int (1 : Int32)), (.ref r0)])) _
      refine XS.iadd X17.here hx rfl (hb hby d1_14) rfl ?_
      exact k)
    obtain ⟨cl22, Ar22, qa22, S22, Na22, Ha22, Ga22⟩ := id V17
    have hin22 : ¬ ((1 : Int32) < 0 ∨ cl22.slots.size ≤ ((1 : Int32)).toNatClampNeg) := inb_of S22 ⟨by decide, by decide⟩
    obtain ⟨T23, h23, X23, e23, W23, st23⟩ := stI X17 hx hZ e17 Ar22 (j := (1 : Int32)) hin22 (g := (mkF m 15 #[.val (.ref r0), .val (.ref r1), .val (.int (1 : Int32))] [(.int (i1 + (1 : Int32))), (.int (1 : Int32)), (.ref r0)])) rfl rfl (hb hby d1_15)
    have V23 : Arv Z h23 r0 k1 .int (3 : Int32) [(.int i0), (.int (i1 + (1 : Int32))), (.int (0 : Int32))] (.int (0 : Int32)) := Arv.set Ar22 qa22 S22 Na22 Ha22 Ga22 rfl W23 1 rfl (Nat.le_of_ble_eq_true rfl)
    have KH23 : Keep h0 h23 [r0] := KH17.wr W23 (Or.inl (List.mem_of_getElem? (i := 0) rfl))
    have Zn23 : n0 ≤ h23.size := Nat.le_trans Zn17 (Keep.of_wr W23).1
    have N23 := Fr.snoc X23 N17 g_r0
    have ks24 : own_R p e below (s₁.setTop (entryFrame m #[(.ref r0), (.ref r1)] 3)) (T23.setTop (mkF m 16 #[.val (.ref r0), .val (.ref r1), .val (.int (1 : Int32))] [])) := fun t k => ks21 t (st23 t k)
    have ks25 : own_R p e below (s₁.setTop (entryFrame m #[(.ref r0), (.ref r1)] 3)) (T23.setTop (mkF m 18 #[.val (.ref r0), .val (.ref r1), .val (.int (1 : Int32))] [(.int (1 : Int32)), (.ref r0)])) := fun t k => ks24 t (by
      show Steps p.tables e below (T23.setTop (mkF m 16 #[.val (.ref r0), .val (.ref r1), .val (.int (1 : Int32))] [])) _
      refine XS.aloadN X23.here hx rfl (hb hby d1_16) rfl rfl ?_
      show Steps p.tables e below (T23.setTop (mkF m 17 #[.val (.ref r0), .val (.ref r1), .val (.int (1 : Int32))] [(.ref r0)])) _
      refine XS.iloadN X23.here hx rfl (hb hby d1_17) rfl ?_
      exact k)
    obtain ⟨cl26, Ar26, qa26, S26, Na26, Ha26, Ga26⟩ := id V23
    have ks27 : own_R p e below (s₁.setTop (entryFrame m #[(.ref r0), (.ref r1)] 3)) (T23.setTop (mkF m 21 #[.val (.ref r0), .val (.ref r1), .val (.int (1 : Int32))] [(.int (1 : Int32)), (.ref r1), (.int (i1 + (1 : Int32)))])) := fun t k => ks25 t (by
      show Steps p.tables e below (T23.setTop (mkF m 18 #[.val (.ref r0), .val (.ref r1), .val (.int (1 : Int32))] [(.int (1 : Int32)), (.ref r0)])) _
      refine X23.iaload hx (j := (1 : Int32)) (v := (.int (i1 + (1 : Int32)))) (by rw [e23]; exact Ar26.1) (State.isArrayOf_alike hZ.alike Ar26.2.1) Ar26.2.2 (inb_of S26 ⟨by decide, by decide⟩) (Has.at Ha26 (inb_of S26 ⟨by decide, by decide⟩) rfl) (g := (mkF m 18 #[.val (.ref r0), .val (.ref r1), .val (.int (1 : Int32))] [(.int (1 : Int32)), (.ref r0)])) rfl rfl (hb hby d1_18) _ ?_
      show Steps p.tables e below (T23.setTop (mkF m 19 #[.val (.ref r0), .val (.ref r1), .val (.int (1 : Int32))] [(.int (i1 + (1 : Int32)))])) _
      refine XS.aloadN X23.here hx rfl (hb hby d1_19) rfl rfl ?_
      show Steps p.tables e below (T23.setTop (mkF m 20 #[.val (.ref r0), .val (.ref r1), .val (.int (1 : Int32))] [(.ref r1), (.int (i1 + (1 : Int32)))])) _
      refine XS.iloadN X23.here hx rfl (hb hby d1_20) rfl ?_
      exact k)
    have f28 := Vr1.keep KH23 (ninS (Ne.symm n01) nin0)
    obtain ⟨cl29, Ar29, qa29, S29, Na29, Ha29, Ga29⟩ := id f28
    have ks30 : own_R p e below (s₁.setTop (entryFrame m #[(.ref r0), (.ref r1)] 3)) (T23.setTop (mkF m 22 #[.val (.ref r0), .val (.ref r1), .val (.int (1 : Int32))] [(.int s1), (.int (i1 + (1 : Int32)))])) := fun t k => ks27 t (by
      show Steps p.tables e below (T23.setTop (mkF m 21 #[.val (.ref r0), .val (.ref r1), .val (.int (1 : Int32))] [(.int (1 : Int32)), (.ref r1), (.int (i1 + (1 : Int32)))])) _
      refine X23.iaload hx (j := (1 : Int32)) (v := (.int s1)) (by rw [e23]; exact Ar29.1) (State.isArrayOf_alike hZ.alike Ar29.2.1) Ar29.2.2 (inb_of S29 ⟨by decide, by decide⟩) (Has.at Ha29 (inb_of S29 ⟨by decide, by decide⟩) rfl) (g := (mkF m 21 #[.val (.ref r0), .val (.ref r1), .val (.int (1 : Int32))] [(.int (1 : Int32)), (.ref r1), (.int (i1 + (1 : Int32)))])) rfl rfl (hb hby d1_21) _ ?_
      exact k)
    by_cases hc31 : (i1 + (1 : Int32)) < s1
    · skip
      have ks32 : own_R p e below (s₁.setTop (entryFrame m #[(.ref r0), (.ref r1)] 3)) (T23.setTop (mkF m 26 #[.val (.ref r0), .val (.ref r1), .val (.int (1 : Int32))] [(.int (1 : Int32))])) := fun t k => ks30 t (by
        show Steps p.tables e below (T23.setTop (mkF m 22 #[.val (.ref r0), .val (.ref r1), .val (.int (1 : Int32))] [(.int s1), (.int (i1 + (1 : Int32)))])) _
        refine XS.icmpNo X23.here hx rfl (hb hby d1_22) rfl (tlt hc31).2.1 ?_
        show Steps p.tables e below (T23.setTop (mkF m 25 #[.val (.ref r0), .val (.ref r1), .val (.int (1 : Int32))] [])) _
        refine XS.iconst X23.here hx rfl (hb hby d1_25) ?_
        exact k)
      obtain ⟨fs, hr, hrun, hended, hW, hsame⟩ := X23.leave (v := some (.int (1 : Int32))) (fun h => by rw [Bd.returns] at h; cases h)
      refine ⟨_, _, ks32 _ ?_, hrun, hended, _, _, rfl, ?_, ⟨_, rfl⟩, hW, hsame.mono (by decide) (by decide)⟩
      · exact retN X23 hx (t := .boolean) Bd.returns (by simp) (hb hby d1_26) hr
      · show Q1 Z r0 r1 k1 k2 i0 i1 i2 s0 s1 s2 h0 n0 _ T23.heap _
        rw [e23]
        have x2 : own_j2 i0 i1 i2 s0 s1 s2 = (0 : Int32) := by rw [own_j2, if_neg hc13]
        have x1 : own_j1 i0 i1 i2 s0 s1 s2 = (i1 + (1 : Int32)) := by rw [own_j1, if_neg hc13, if_pos hc31]
        have x0 : own_j0 i0 i1 i2 s0 s1 s2 = i0 := by rw [own_j0, if_neg hc13, if_pos hc31]
        refine ⟨by rw [own_nx, if_neg hc13, if_pos hc31], N23, KH23, ?_⟩
        rw [x0, x1, x2]
        exact V23
    · skip
      have ks33 : own_R p e below (s₁.setTop (entryFrame m #[(.ref r0), (.ref r1)] 3)) (T23.setTop (mkF m 30 #[.val (.ref r0), .val (.ref r1), .val (.int (1 : Int32))] [(.int (0 : Int32)), (.int (1 : Int32)), (.ref r0)])) := fun t k => ks30 t (by
        show Steps p.tables e below (T23.setTop (mkF m 22 #[.val (.ref r0), .val (.ref r1), .val (.int (1 : Int32))] [(.int s1), (.int (i1 + (1 : Int32)))])) _
        refine XS.icmpYes X23.here hx rfl (pc0 := 22) (pc' := 27) rfl (hb hby d1_22) rfl (flt hc31).2.1 (by decide) (by decide) ?_
        show Steps p.tables e below (T23.setTop (mkF m 27 #[.val (.ref r0), .val (.ref r1), .val (.int (1 : Int32))] [])) _
        refine XS.aloadN X23.here hx rfl (hb hby d1_27) rfl rfl ?_
        show Steps p.tables e below (T23.setTop (mkF m 28 #[.val (.ref r0), .val (.ref r1), .val (.int (1 : Int32))] [(.ref r0)])) _
        refine XS.iloadN X23.here hx rfl (hb hby d1_28) rfl ?_
        show Steps p.tables e below (T23.setTop (mkF m 29 #[.val (.ref r0), .val (.ref r1), .val (.int (1 : Int32))] [(.int (1 : Int32)), (.ref r0)])) _
        refine XS.iconst X23.here hx rfl (hb hby d1_29) ?_
        exact k)
      obtain ⟨cl34, Ar34, qa34, S34, Na34, Ha34, Ga34⟩ := id V23
      have hin34 : ¬ ((1 : Int32) < 0 ∨ cl34.slots.size ≤ ((1 : Int32)).toNatClampNeg) := inb_of S34 ⟨by decide, by decide⟩
      obtain ⟨T35, h35, X35, e35, W35, st35⟩ := stI X23 hx hZ e23 Ar34 (j := (1 : Int32)) hin34 (g := (mkF m 30 #[.val (.ref r0), .val (.ref r1), .val (.int (1 : Int32))] [(.int (0 : Int32)), (.int (1 : Int32)), (.ref r0)])) rfl rfl (hb hby d1_30)
      have V35 : Arv Z h35 r0 k1 .int (3 : Int32) [(.int i0), (.int (0 : Int32)), (.int (0 : Int32))] (.int (0 : Int32)) := Arv.set Ar34 qa34 S34 Na34 Ha34 Ga34 rfl W35 1 rfl (Nat.le_of_ble_eq_true rfl)
      have KH35 : Keep h0 h35 [r0] := KH23.wr W35 (Or.inl (List.mem_of_getElem? (i := 0) rfl))
      have Zn35 : n0 ≤ h35.size := Nat.le_trans Zn23 (Keep.of_wr W35).1
      have N35 := Fr.snoc X35 N23 g_r0
      have ks36 : own_R p e below (s₁.setTop (entryFrame m #[(.ref r0), (.ref r1)] 3)) (T35.setTop (mkF m 31 #[.val (.ref r0), .val (.ref r1), .val (.int (1 : Int32))] [])) := fun t k => ks33 t (st35 t k)
      have ks37 : own_R p e below (s₁.setTop (entryFrame m #[(.ref r0), (.ref r1)] 3)) (T35.setTop (mkF m 12 #[.val (.ref r0), .val (.ref r1), .val (.int (0 : Int32))] [(.int (0 : Int32)), (.ref r0), (.int (0 : Int32)), (.ref r0)])) := fun t k => ks36 t (by
        show Steps p.tables e below (T35.setTop (mkF m 31 #[.val (.ref r0), .val (.ref r1), .val (.int (1 : Int32))] [])) _
        refine XS.iinc X35.here hx rfl (hb hby d1_31) rfl (l' := #[.val (.ref r0), .val (.ref r1), .val (.int (0 : Int32))]) rfl ?_
        show Steps p.tables e below (T35.setTop (mkF m 34 #[.val (.ref r0), .val (.ref r1), .val (.int (0 : Int32))] [])) _
        refine XS.goto X35.here hx rfl (pc0 := 34) (pc' := 5) rfl (hb hby d1_34) (by decide) (by decide) ?_
        show Steps p.tables e below (T35.setTop (mkF m 5 #[.val (.ref r0), .val (.ref r1), .val (.int (0 : Int32))] [])) _
        refine XS.iloadN X35.here hx rfl (hb hby d1_5) rfl ?_
        show Steps p.tables e below (T35.setTop (mkF m 6 #[.val (.ref r0), .val (.ref r1), .val (.int (0 : Int32))] [(.int (0 : Int32))])) _
        refine XS.ifNo X35.here hx rfl (hb hby d1_6) rfl ((if0 _ _).trans (flt (by decide)).1) ?_
        show Steps p.tables e below (T35.setTop (mkF m 9 #[.val (.ref r0), .val (.ref r1), .val (.int (0 : Int32))] [])) _
        refine XS.aloadN X35.here hx rfl (hb hby d1_9) rfl rfl ?_
        show Steps p.tables e below (T35.setTop (mkF m 10 #[.val (.ref r0), .val (.ref r1), .val (.int (0 : Int32))] [(.ref r0)])) _
        refine XS.iloadN X35.here hx rfl (hb hby d1_10) rfl ?_
        show Steps p.tables e below (T35.setTop (mkF m 11 #[.val (.ref r0), .val (.ref r1), .val (.int (0 : Int32))] [(.int (0 : Int32)), (.ref r0)])) _
        jvm_step X35.here [X35.here.top, hx, (hb hby d1_11), Value.category]
        exact k)
      obtain ⟨cl38, Ar38, qa38, S38, Na38, Ha38, Ga38⟩ := id V35
      have ks39 : own_R p e below (s₁.setTop (entryFrame m #[(.ref r0), (.ref r1)] 3)) (T35.setTop (mkF m 15 #[.val (.ref r0), .val (.ref r1), .val (.int (0 : Int32))] [(.int (i0 + (1 : Int32))), (.int (0 : Int32)), (.ref r0)])) := fun t k => ks37 t (by
        show Steps p.tables e below (T35.setTop (mkF m 12 #[.val (.ref r0), .val (.ref r1), .val (.int (0 : Int32))] [(.int (0 : Int32)), (.ref r0), (.int (0 : Int32)), (.ref r0)])) _
        refine X35.iaload hx (j := (0 : Int32)) (v := (.int i0)) (by rw [e35]; exact Ar38.1) (State.isArrayOf_alike hZ.alike Ar38.2.1) Ar38.2.2 (inb_of S38 ⟨by decide, by decide⟩) (Has.at Ha38 (inb_of S38 ⟨by decide, by decide⟩) rfl) (g := (mkF m 12 #[.val (.ref r0), .val (.ref r1), .val (.int (0 : Int32))] [(.int (0 : Int32)), (.ref r0), (.int (0 : Int32)), (.ref r0)])) rfl rfl (hb hby d1_12) _ ?_
        show Steps p.tables e below (T35.setTop (mkF m 13 #[.val (.ref r0), .val (.ref r1), .val (.int (0 : Int32))] [(.int i0), (.int (0 : Int32)), (.ref r0)])) _
        refine XS.iconst X35.here hx rfl (hb hby d1_13) ?_
        show Steps p.tables e below (T35.setTop (mkF m 14 #[.val (.ref r0), .val (.ref r1), .val (.int (0 : Int32))] [(.int (1 : Int32)), (.int i0), (.int (0 : Int32)), (.ref r0)])) _
        refine XS.iadd X35.here hx rfl (hb hby d1_14) rfl ?_
        exact k)
      obtain ⟨cl40, Ar40, qa40, S40, Na40, Ha40, Ga40⟩ := id V35
      have hin40 : ¬ ((0 : Int32) < 0 ∨ cl40.slots.size ≤ ((0 : Int32)).toNatClampNeg) := inb_of S40 ⟨by decide, by decide⟩
      obtain ⟨T41, h41, X41, e41, W41, st41⟩ := stI X35 hx hZ e35 Ar40 (j := (0 : Int32)) hin40 (g := (mkF m 15 #[.val (.ref r0), .val (.ref r1), .val (.int (0 : Int32))] [(.int (i0 + (1 : Int32))), (.int (0 : Int32)), (.ref r0)])) rfl rfl (hb hby d1_15)
      have V41 : Arv Z h41 r0 k1 .int (3 : Int32) [(.int (i0 + (1 : Int32))), (.int (0 : Int32)), (.int (0 : Int32))] (.int (0 : Int32)) := Arv.set Ar40 qa40 S40 Na40 Ha40 Ga40 rfl W41 0 rfl (Nat.le_of_ble_eq_true rfl)
      have KH41 : Keep h0 h41 [r0] := KH35.wr W41 (Or.inl (List.mem_of_getElem? (i := 0) rfl))
      have Zn41 : n0 ≤ h41.size := Nat.le_trans Zn35 (Keep.of_wr W41).1
      have N41 := Fr.snoc X41 N35 g_r0
      have ks42 : own_R p e below (s₁.setTop (entryFrame m #[(.ref r0), (.ref r1)] 3)) (T41.setTop (mkF m 16 #[.val (.ref r0), .val (.ref r1), .val (.int (0 : Int32))] [])) := fun t k => ks39 t (st41 t k)
      have ks43 : own_R p e below (s₁.setTop (entryFrame m #[(.ref r0), (.ref r1)] 3)) (T41.setTop (mkF m 18 #[.val (.ref r0), .val (.ref r1), .val (.int (0 : Int32))] [(.int (0 : Int32)), (.ref r0)])) := fun t k => ks42 t (by
        show Steps p.tables e below (T41.setTop (mkF m 16 #[.val (.ref r0), .val (.ref r1), .val (.int (0 : Int32))] [])) _
        refine XS.aloadN X41.here hx rfl (hb hby d1_16) rfl rfl ?_
        show Steps p.tables e below (T41.setTop (mkF m 17 #[.val (.ref r0), .val (.ref r1), .val (.int (0 : Int32))] [(.ref r0)])) _
        refine XS.iloadN X41.here hx rfl (hb hby d1_17) rfl ?_
        exact k)
      obtain ⟨cl44, Ar44, qa44, S44, Na44, Ha44, Ga44⟩ := id V41
      have ks45 : own_R p e below (s₁.setTop (entryFrame m #[(.ref r0), (.ref r1)] 3)) (T41.setTop (mkF m 21 #[.val (.ref r0), .val (.ref r1), .val (.int (0 : Int32))] [(.int (0 : Int32)), (.ref r1), (.int (i0 + (1 : Int32)))])) := fun t k => ks43 t (by
        show Steps p.tables e below (T41.setTop (mkF m 18 #[.val (.ref r0), .val (.ref r1), .val (.int (0 : Int32))] [(.int (0 : Int32)), (.ref r0)])) _
        refine X41.iaload hx (j := (0 : Int32)) (v := (.int (i0 + (1 : Int32)))) (by rw [e41]; exact Ar44.1) (State.isArrayOf_alike hZ.alike Ar44.2.1) Ar44.2.2 (inb_of S44 ⟨by decide, by decide⟩) (Has.at Ha44 (inb_of S44 ⟨by decide, by decide⟩) rfl) (g := (mkF m 18 #[.val (.ref r0), .val (.ref r1), .val (.int (0 : Int32))] [(.int (0 : Int32)), (.ref r0)])) rfl rfl (hb hby d1_18) _ ?_
        show Steps p.tables e below (T41.setTop (mkF m 19 #[.val (.ref r0), .val (.ref r1), .val (.int (0 : Int32))] [(.int (i0 + (1 : Int32)))])) _
        refine XS.aloadN X41.here hx rfl (hb hby d1_19) rfl rfl ?_
        show Steps p.tables e below (T41.setTop (mkF m 20 #[.val (.ref r0), .val (.ref r1), .val (.int (0 : Int32))] [(.ref r1), (.int (i0 + (1 : Int32)))])) _
        refine XS.iloadN X41.here hx rfl (hb hby d1_20) rfl ?_
        exact k)
      have f46 := Vr1.keep KH41 (ninS (Ne.symm n01) nin0)
      obtain ⟨cl47, Ar47, qa47, S47, Na47, Ha47, Ga47⟩ := id f46
      have ks48 : own_R p e below (s₁.setTop (entryFrame m #[(.ref r0), (.ref r1)] 3)) (T41.setTop (mkF m 22 #[.val (.ref r0), .val (.ref r1), .val (.int (0 : Int32))] [(.int s0), (.int (i0 + (1 : Int32)))])) := fun t k => ks45 t (by
        show Steps p.tables e below (T41.setTop (mkF m 21 #[.val (.ref r0), .val (.ref r1), .val (.int (0 : Int32))] [(.int (0 : Int32)), (.ref r1), (.int (i0 + (1 : Int32)))])) _
        refine X41.iaload hx (j := (0 : Int32)) (v := (.int s0)) (by rw [e41]; exact Ar47.1) (State.isArrayOf_alike hZ.alike Ar47.2.1) Ar47.2.2 (inb_of S47 ⟨by decide, by decide⟩) (Has.at Ha47 (inb_of S47 ⟨by decide, by decide⟩) rfl) (g := (mkF m 21 #[.val (.ref r0), .val (.ref r1), .val (.int (0 : Int32))] [(.int (0 : Int32)), (.ref r1), (.int (i0 + (1 : Int32)))])) rfl rfl (hb hby d1_21) _ ?_
        exact k)
      by_cases hc49 : (i0 + (1 : Int32)) < s0
      · skip
        have ks50 : own_R p e below (s₁.setTop (entryFrame m #[(.ref r0), (.ref r1)] 3)) (T41.setTop (mkF m 26 #[.val (.ref r0), .val (.ref r1), .val (.int (0 : Int32))] [(.int (1 : Int32))])) := fun t k => ks48 t (by
          show Steps p.tables e below (T41.setTop (mkF m 22 #[.val (.ref r0), .val (.ref r1), .val (.int (0 : Int32))] [(.int s0), (.int (i0 + (1 : Int32)))])) _
          refine XS.icmpNo X41.here hx rfl (hb hby d1_22) rfl (tlt hc49).2.1 ?_
          show Steps p.tables e below (T41.setTop (mkF m 25 #[.val (.ref r0), .val (.ref r1), .val (.int (0 : Int32))] [])) _
          refine XS.iconst X41.here hx rfl (hb hby d1_25) ?_
          exact k)
        obtain ⟨fs, hr, hrun, hended, hW, hsame⟩ := X41.leave (v := some (.int (1 : Int32))) (fun h => by rw [Bd.returns] at h; cases h)
        refine ⟨_, _, ks50 _ ?_, hrun, hended, _, _, rfl, ?_, ⟨_, rfl⟩, hW, hsame.mono (by decide) (by decide)⟩
        · exact retN X41 hx (t := .boolean) Bd.returns (by simp) (hb hby d1_26) hr
        · show Q1 Z r0 r1 k1 k2 i0 i1 i2 s0 s1 s2 h0 n0 _ T41.heap _
          rw [e41]
          have x2 : own_j2 i0 i1 i2 s0 s1 s2 = (0 : Int32) := by rw [own_j2, if_neg hc13]
          have x1 : own_j1 i0 i1 i2 s0 s1 s2 = (0 : Int32) := by rw [own_j1, if_neg hc13, if_neg hc31]
          have x0 : own_j0 i0 i1 i2 s0 s1 s2 = (i0 + (1 : Int32)) := by rw [own_j0, if_neg hc13, if_neg hc31, if_pos hc49]
          refine ⟨by rw [own_nx, if_neg hc13, if_neg hc31, if_pos hc49], N41, KH41, ?_⟩
          rw [x0, x1, x2]
          exact V41
      · skip
        have ks51 : own_R p e below (s₁.setTop (entryFrame m #[(.ref r0), (.ref r1)] 3)) (T41.setTop (mkF m 30 #[.val (.ref r0), .val (.ref r1), .val (.int (0 : Int32))] [(.int (0 : Int32)), (.int (0 : Int32)), (.ref r0)])) := fun t k => ks48 t (by
          show Steps p.tables e below (T41.setTop (mkF m 22 #[.val (.ref r0), .val (.ref r1), .val (.int (0 : Int32))] [(.int s0), (.int (i0 + (1 : Int32)))])) _
          refine XS.icmpYes X41.here hx rfl (pc0 := 22) (pc' := 27) rfl (hb hby d1_22) rfl (flt hc49).2.1 (by decide) (by decide) ?_
          show Steps p.tables e below (T41.setTop (mkF m 27 #[.val (.ref r0), .val (.ref r1), .val (.int (0 : Int32))] [])) _
          refine XS.aloadN X41.here hx rfl (hb hby d1_27) rfl rfl ?_
          show Steps p.tables e below (T41.setTop (mkF m 28 #[.val (.ref r0), .val (.ref r1), .val (.int (0 : Int32))] [(.ref r0)])) _
          refine XS.iloadN X41.here hx rfl (hb hby d1_28) rfl ?_
          show Steps p.tables e below (T41.setTop (mkF m 29 #[.val (.ref r0), .val (.ref r1), .val (.int (0 : Int32))] [(.int (0 : Int32)), (.ref r0)])) _
          refine XS.iconst X41.here hx rfl (hb hby d1_29) ?_
          exact k)
        obtain ⟨cl52, Ar52, qa52, S52, Na52, Ha52, Ga52⟩ := id V41
        have hin52 : ¬ ((0 : Int32) < 0 ∨ cl52.slots.size ≤ ((0 : Int32)).toNatClampNeg) := inb_of S52 ⟨by decide, by decide⟩
        obtain ⟨T53, h53, X53, e53, W53, st53⟩ := stI X41 hx hZ e41 Ar52 (j := (0 : Int32)) hin52 (g := (mkF m 30 #[.val (.ref r0), .val (.ref r1), .val (.int (0 : Int32))] [(.int (0 : Int32)), (.int (0 : Int32)), (.ref r0)])) rfl rfl (hb hby d1_30)
        have V53 : Arv Z h53 r0 k1 .int (3 : Int32) [(.int (0 : Int32)), (.int (0 : Int32)), (.int (0 : Int32))] (.int (0 : Int32)) := Arv.set Ar52 qa52 S52 Na52 Ha52 Ga52 rfl W53 0 rfl (Nat.le_of_ble_eq_true rfl)
        have KH53 : Keep h0 h53 [r0] := KH41.wr W53 (Or.inl (List.mem_of_getElem? (i := 0) rfl))
        have Zn53 : n0 ≤ h53.size := Nat.le_trans Zn41 (Keep.of_wr W53).1
        have N53 := Fr.snoc X53 N41 g_r0
        have ks54 : own_R p e below (s₁.setTop (entryFrame m #[(.ref r0), (.ref r1)] 3)) (T53.setTop (mkF m 31 #[.val (.ref r0), .val (.ref r1), .val (.int (0 : Int32))] [])) := fun t k => ks51 t (st53 t k)
        have ks55 : own_R p e below (s₁.setTop (entryFrame m #[(.ref r0), (.ref r1)] 3)) (T53.setTop (mkF m 38 #[.val (.ref r0), .val (.ref r1), .val (.int (-1 : Int32))] [(.int (0 : Int32))])) := fun t k => ks54 t (by
          show Steps p.tables e below (T53.setTop (mkF m 31 #[.val (.ref r0), .val (.ref r1), .val (.int (0 : Int32))] [])) _
          refine XS.iinc X53.here hx rfl (hb hby d1_31) rfl (l' := #[.val (.ref r0), .val (.ref r1), .val (.int (-1 : Int32))]) rfl ?_
          show Steps p.tables e below (T53.setTop (mkF m 34 #[.val (.ref r0), .val (.ref r1), .val (.int (-1 : Int32))] [])) _
          refine XS.goto X53.here hx rfl (pc0 := 34) (pc' := 5) rfl (hb hby d1_34) (by decide) (by decide) ?_
          show Steps p.tables e below (T53.setTop (mkF m 5 #[.val (.ref r0), .val (.ref r1), .val (.int (-1 : Int32))] [])) _
          refine XS.iloadN X53.here hx rfl (hb hby d1_5) rfl ?_
          show Steps p.tables e below (T53.setTop (mkF m 6 #[.val (.ref r0), .val (.ref r1), .val (.int (-1 : Int32))] [(.int (-1 : Int32))])) _
          refine XS.ifYes X53.here hx rfl (pc0 := 6) (pc' := 37) rfl (hb hby d1_6) rfl ((if0 _ _).trans (tlt (by decide)).1) (by decide) (by decide) ?_
          show Steps p.tables e below (T53.setTop (mkF m 37 #[.val (.ref r0), .val (.ref r1), .val (.int (-1 : Int32))] [])) _
          refine XS.iconst X53.here hx rfl (hb hby d1_37) ?_
          exact k)
        obtain ⟨fs, hr, hrun, hended, hW, hsame⟩ := X53.leave (v := some (.int (0 : Int32))) (fun h => by rw [Bd.returns] at h; cases h)
        refine ⟨_, _, ks55 _ ?_, hrun, hended, _, _, rfl, ?_, ⟨_, rfl⟩, hW, hsame.mono (by decide) (by decide)⟩
        · exact retN X53 hx (t := .boolean) Bd.returns (by simp) (hb hby d1_38) hr
        · show Q1 Z r0 r1 k1 k2 i0 i1 i2 s0 s1 s2 h0 n0 _ T53.heap _
          rw [e53]
          have x2 : own_j2 i0 i1 i2 s0 s1 s2 = (0 : Int32) := by rw [own_j2, if_neg hc13]
          have x1 : own_j1 i0 i1 i2 s0 s1 s2 = (0 : Int32) := by rw [own_j1, if_neg hc13, if_neg hc31]
          have x0 : own_j0 i0 i1 i2 s0 s1 s2 = (0 : Int32) := by rw [own_j0, if_neg hc13, if_neg hc31, if_neg hc49]
          refine ⟨by rw [own_nx, if_neg hc13, if_neg hc31, if_neg hc49], N53, KH53, ?_⟩
          rw [x0, x1, x2]
          exact V53
theorem ef_1e (m : MethodId) (x0 : Addr) (x1 : Addr) : entryFrame m #[(.ref x0), (.ref x1)] 3 = mkF m 0 #[.val (.ref x0), .val (.ref x1), .unset] [] := by first | (simp [entryFrame, mkF, argsToLocals, Value.category]; done) | rfl
def Q1e (Z : State) (r0 : Addr) (r1 : Addr) (k1 : ClassId) (h0 : Heap) (n0 : Nat) (v : Option Value) (h : Heap) (L : List Loc) : Prop := v = some (.int (0 : Int32)) ∧ Fr n0 L ∧ h = h0
set_option maxRecDepth 65536 in
set_option maxHeartbeats 40000000 in
theorem rm1e (l : Launch) (Z : State) (a0 : Array Value) (hw : ∀ d ∈ tables_1, d.before a0 Z = true) (ws : List Jvm.Cond) (r0 : Addr) (r1 : Addr) (k1 : ClassId) (h0 : Heap) (n0 : Nat) (Z0 : n0 ≤ h0.size) (V0 : Arv Z h0 r0 k1 .int (0 : Int32) [] (.int (0 : Int32))) :
    MetFree l (⟨"com/example/randomized_protocol_models/randomizedprotocolmodels/model/Combinations", "next", "([I[I)Z"⟩ : MethodName) (head1 (Jvm.Cond.code (⟨"com/example/randomized_protocol_models/randomizedprotocolmodels/model/Combinations", "next", "([I[I)Z"⟩ : MethodName) prog_65_method_2_code 3 (some .boolean) :: ws) ({ frames := 0, cells := 0, slots := 0, locals := 0 } : Room)) (fun a U => a = #[(.ref r0), (.ref r1)] ∧ Z.Warmed39 U.vm ∧ U.heap = h0) (fun _ _ _ _ _ => True) (fun _ U o U' => ∃ v L, o = .returned v ∧ Q1e Z r0 r1 k1 h0 n0 v U'.heap L ∧ FrameEnd U o U' L ({ frames := 0, cells := 0, slots := 0, locals := 0 } : Room).cells ({ frames := 0, cells := 0, slots := 0, locals := 0 } : Room).slots) := by
  refine MetFree.of_bodySF (plainFor_of_name pn_1) hisR ?_
  intro p e s m args below meth c s₁ Bd hml0 hP hK
  obtain ⟨rfl, hZ, hh⟩ := hP
  have hx := Bd.exec
  have hby := Bd.bytes
  have hml : c.maxLocals = 3 := hml0
  have hown : s.vm.findClass "com/example/randomized_protocol_models/randomizedprotocolmodels/model/Combinations" = some m.cls := findClass_of_methodNamed Bd.named
  have hnm := (name_of_methodNamed Bd.named Bd.method).1
  have X0 : Stand p l e ({ frames := 0, cells := 0, slots := 0, locals := 0 } : Room) s m #[(.ref r0), (.ref r1)] below meth c s₁ [] 0 0 := Stand.of_body Bd
  have e0 : s₁.heap = h0 := by rw [← hh, Bd.state]; rfl
  have N0 := Fr.nil n0
  have k0 : own_R p e below (s₁.setTop (entryFrame m #[(.ref r0), (.ref r1)] 3)) (s₁.setTop (mkF m 0 #[.val (.ref r0), .val (.ref r1), .unset] [])) := fun t k => castTop (ef_1e m r0 r1) k
  have ks1 : own_R p e below (s₁.setTop (entryFrame m #[(.ref r0), (.ref r1)] 3)) (s₁.setTop (mkF m 1 #[.val (.ref r0), .val (.ref r1), .unset] [(.ref r0)])) := fun t k => k0 t (by
    show Steps p.tables e below (s₁.setTop (mkF m 0 #[.val (.ref r0), .val (.ref r1), .unset] [])) _
    refine XS.aloadN X0.here hx rfl (hb hby d1_0) rfl rfl ?_
    exact k)
  obtain ⟨cl2, Ar2, qa2, S2, Na2, Ha2, Ga2⟩ := id V0
  have ks3 : own_R p e below (s₁.setTop (entryFrame m #[(.ref r0), (.ref r1)] 3)) (s₁.setTop (mkF m 38 #[.val (.ref r0), .val (.ref r1), .val (.int (-1 : Int32))] [(.int (0 : Int32))])) := fun t k => ks1 t (by
    show Steps p.tables e below (s₁.setTop (mkF m 1 #[.val (.ref r0), .val (.ref r1), .unset] [(.ref r0)])) _
    refine X0.arraylength hx (by rw [e0]; exact Ar2.1) (State.isArrayOf_alike hZ.alike Ar2.2.1) (g := (mkF m 1 #[.val (.ref r0), .val (.ref r1), .unset] [(.ref r0)])) rfl rfl (hb hby d1_1) _ ?_
    rw [len_of S2 Na2]
    show Steps p.tables e below (s₁.setTop (mkF m 2 #[.val (.ref r0), .val (.ref r1), .unset] [(.int (0 : Int32))])) _
    refine XS.iconst X0.here hx rfl (hb hby d1_2) ?_
    show Steps p.tables e below (s₁.setTop (mkF m 3 #[.val (.ref r0), .val (.ref r1), .unset] [(.int (1 : Int32)), (.int (0 : Int32))])) _
    refine XS.isub X0.here hx rfl (hb hby d1_3) rfl ?_
    show Steps p.tables e below (s₁.setTop (mkF m 4 #[.val (.ref r0), .val (.ref r1), .unset] [(.int (-1 : Int32))])) _
    refine XS.istoreN X0.here hx rfl (hb hby d1_4) rfl (l' := #[.val (.ref r0), .val (.ref r1), .val (.int (-1 : Int32))]) rfl ?_
    show Steps p.tables e below (s₁.setTop (mkF m 5 #[.val (.ref r0), .val (.ref r1), .val (.int (-1 : Int32))] [])) _
    refine XS.iloadN X0.here hx rfl (hb hby d1_5) rfl ?_
    show Steps p.tables e below (s₁.setTop (mkF m 6 #[.val (.ref r0), .val (.ref r1), .val (.int (-1 : Int32))] [(.int (-1 : Int32))])) _
    refine XS.ifYes X0.here hx rfl (pc0 := 6) (pc' := 37) rfl (hb hby d1_6) rfl ((if0 _ _).trans (tlt (by decide)).1) (by decide) (by decide) ?_
    show Steps p.tables e below (s₁.setTop (mkF m 37 #[.val (.ref r0), .val (.ref r1), .val (.int (-1 : Int32))] [])) _
    refine XS.iconst X0.here hx rfl (hb hby d1_37) ?_
    exact k)
  obtain ⟨fs, hr, hrun, hended, hW, hsame⟩ := X0.leave (v := some (.int (0 : Int32))) (fun h => by rw [Bd.returns] at h; cases h)
  refine ⟨_, _, ks3 _ ?_, hrun, hended, _, _, rfl, ?_, ⟨_, rfl⟩, hW, hsame.mono (by decide) (by decide)⟩
  · exact retN X0 hx (t := .boolean) Bd.returns (by simp) (hb hby d1_38) hr
  · show Q1e Z r0 r1 k1 h0 n0 _ s₁.heap _
    rw [e0]
    exact ⟨rfl, N0, rfl⟩

/-- the numbers of the law: three sizes of 1 to 1024, three places within them -/
def own_ok (i s : Int32) : Prop := 0 ≤ i.toInt ∧ i.toInt < s.toInt ∧ s.toInt ≤ 1024
theorem own_size (a : Int32) : 1 ≤ ((1 : Int32) + (a &&& (1023 : Int32))).toInt ∧ ((1 : Int32) + (a &&& (1023 : Int32))).toInt ≤ 1024 := by
  have h1 : (a &&& (1023 : Int32)).toInt = a.toInt % 1024 := c_mask a 1023 10 (by decide) (by decide)
  have h2 := c_iadd 1 (a &&& (1023 : Int32)); rw [show (1 : Int32).toInt = 1 from rfl] at h2
  have r := rng32 ((1 : Int32) + (a &&& (1023 : Int32)))
  omega
theorem own_nz (a : Int32) : ¬ ((1 : Int32) + (a &&& (1023 : Int32)) = (0 : Int32)) := fun h => by
  have := own_size a; rw [h] at this; exact absurd this.1 (by decide)
theorem own_place (a f s : Int32) (h1 : 1 ≤ s.toInt) (h2 : s.toInt ≤ 1024) {P : Prop} [Decidable P] : own_ok (if P then (((a.toUInt32 >>> ((10 : Int32) &&& 31).toUInt32).toInt32) % s) else (s - (1 : Int32))) s := by
  have e1 := c_iushr a 10 10 (by decide) (by decide)
  split
  · have e2 := (c_iremV ((a.toUInt32 >>> ((10 : Int32) &&& 31).toUInt32).toInt32) s).1 (by rw [e1]; omega) (by omega)
    exact ⟨e2.1, e2.2.1, h2⟩
  · have e3 := c_isub s 1; rw [show (1 : Int32).toInt = 1 from rfl] at e3
    have r := rng32 (s - 1)
    refine ⟨?_, ?_, h2⟩ <;> omega
theorem own_inc (i s : Int32) (h : own_ok i s) : (i + (1 : Int32)).toInt = i.toInt + 1 := by
  obtain ⟨a, b, c⟩ := h
  have e := c_iadd i 1; rw [show (1 : Int32).toInt = 1 from rfl] at e
  have r := rng32 (i + 1); omega
theorem own_num (s0 s1 s2 : Int32) (i0 i1 i2 : Int32) (h0 : own_ok i0 s0) (h1 : own_ok i1 s1) (h2 : own_ok i2 s2) :
    ((((i0 * s1) + i1) * s2) + i2).toInt = (i0.toInt * s1.toInt + i1.toInt) * s2.toInt + i2.toInt ∧ 0 ≤ (i0.toInt * s1.toInt + i1.toInt) * s2.toInt + i2.toInt ∧ (i0.toInt * s1.toInt + i1.toInt) * s2.toInt + i2.toInt < s0.toInt * s1.toInt * s2.toInt ∧ s0.toInt * s1.toInt * s2.toInt ≤ 1073741824 ∧ ((s0 * s1) * s2).toInt = s0.toInt * s1.toInt * s2.toInt := by
  obtain ⟨a0, b0, c0⟩ := h0; obtain ⟨a1, b1, c1⟩ := h1; obtain ⟨a2, b2, c2⟩ := h2
  have m1 := c_imul i0 s1; have m2 := c_imul s0 s1
  generalize hA : i0.toInt * s1.toInt = A at *
  generalize hB : s0.toInt * s1.toInt = B at *
  have A0 : 0 ≤ A := hA ▸ Int.mul_nonneg a0 (by omega)
  have AB : A + s1.toInt ≤ B := by
    have : (i0.toInt + 1) * s1.toInt ≤ s0.toInt * s1.toInt := Int.mul_le_mul_of_nonneg_right (by omega) (by omega)
    rw [Int.add_mul, hA, hB] at this; omega
  have B1 : B ≤ 1048576 := by
    have : s0.toInt * s1.toInt ≤ 1024 * 1024 := Int.le_trans (Int.mul_le_mul_of_nonneg_left c1 (by omega)) (Int.mul_le_mul_of_nonneg_right c0 (by omega))
    omega
  have r1 := rng32 (i0 * s1); have r2 := rng32 (s0 * s1)
  have e1 : (i0 * s1).toInt = A := by omega
  have e2 : (s0 * s1).toInt = B := by omega
  have p1 := c_iadd (i0 * s1) i1; have r3 := rng32 ((i0 * s1) + i1)
  have e3 : ((i0 * s1) + i1).toInt = A + i1.toInt := by omega
  have m3 := c_imul ((i0 * s1) + i1) s2; have m4 := c_imul (s0 * s1) s2
  rw [e3] at m3; rw [e2] at m4
  generalize hD : (A + i1.toInt) * s2.toInt = D at *
  generalize hE : B * s2.toInt = E at *
  have D0 : 0 ≤ D := hD ▸ Int.mul_nonneg (by omega) (by omega)
  have DE : D + s2.toInt ≤ E := by
    have : (A + i1.toInt + 1) * s2.toInt ≤ B * s2.toInt := Int.mul_le_mul_of_nonneg_right (by omega) (by omega)
    rw [Int.add_mul (A + i1.toInt), hD, hE] at this; omega
  have E1 : E ≤ 1073741824 := by
    have : B * s2.toInt ≤ 1048576 * 1024 := Int.le_trans (Int.mul_le_mul_of_nonneg_left c2 (by omega)) (Int.mul_le_mul_of_nonneg_right B1 (by omega))
    omega
  have r4 := rng32 (((i0 * s1) + i1) * s2); have r5 := rng32 ((s0 * s1) * s2)
  have e4 : (((i0 * s1) + i1) * s2).toInt = D := by omega
  have p2 := c_iadd (((i0 * s1) + i1) * s2) i2; have r6 := rng32 ((((i0 * s1) + i1) * s2) + i2)
  rw [e4] at p2
  refine ⟨by omega, by omega, by omega, E1, by omega⟩
theorem own_next (s0 s1 s2 i0 i1 i2 : Int32) (h0 : own_ok i0 s0) (h1 : own_ok i1 s1) (h2 : own_ok i2 s2) :
    own_ok (own_j0 i0 i1 i2 s0 s1 s2) s0 ∧ own_ok (own_j1 i0 i1 i2 s0 s1 s2) s1 ∧ own_ok (own_j2 i0 i1 i2 s0 s1 s2) s2 ∧
    ((own_nx i0 i1 i2 s0 s1 s2 = 1 ∧ (((own_j0 i0 i1 i2 s0 s1 s2).toInt * s1.toInt + (own_j1 i0 i1 i2 s0 s1 s2).toInt) * s2.toInt + (own_j2 i0 i1 i2 s0 s1 s2).toInt) = ((i0.toInt * s1.toInt + i1.toInt) * s2.toInt + i2.toInt) + 1) ∨
     (own_nx i0 i1 i2 s0 s1 s2 = 0 ∧ (((own_j0 i0 i1 i2 s0 s1 s2).toInt * s1.toInt + (own_j1 i0 i1 i2 s0 s1 s2).toInt) * s2.toInt + (own_j2 i0 i1 i2 s0 s1 s2).toInt) = 0 ∧ ((i0.toInt * s1.toInt + i1.toInt) * s2.toInt + i2.toInt) + 1 = s0.toInt * s1.toInt * s2.toInt)) := by
  have n0 := own_inc i0 s0 h0; have n1 := own_inc i1 s1 h1; have n2 := own_inc i2 s2 h2
  obtain ⟨a0, b0, c0⟩ := h0; obtain ⟨a1, b1, c1⟩ := h1; obtain ⟨a2, b2, c2⟩ := h2
  have z0 : (0 : Int32).toInt = 0 := rfl
  unfold own_j0 own_j1 own_j2 own_nx own_ok
  by_cases q2 : (i2 + (1 : Int32)) < s2
  · simp only [if_pos q2]
    rw [Int32.lt_iff_toInt_lt, n2] at q2
    refine ⟨⟨a0, b0, c0⟩, ⟨a1, b1, c1⟩, ⟨by omega, by omega, c2⟩, Or.inl ⟨by first | trivial | rfl, by omega⟩⟩
  · simp only [if_neg q2]
    rw [Int32.lt_iff_toInt_lt, n2] at q2
    have e2 : i2.toInt = s2.toInt - 1 := by omega
    by_cases q1 : (i1 + (1 : Int32)) < s1
    · simp only [if_pos q1]
      rw [Int32.lt_iff_toInt_lt, n1] at q1
      refine ⟨⟨a0, b0, c0⟩, ⟨by omega, by omega, c1⟩, ⟨by omega, by omega, c2⟩, Or.inl ⟨by first | trivial | rfl, ?_⟩⟩
      rw [n1, z0, ← Int.add_assoc, Int.add_mul (i0.toInt * s1.toInt + i1.toInt)]; omega
    · simp only [if_neg q1]
      rw [Int32.lt_iff_toInt_lt, n1] at q1
      have e1 : i1.toInt = s1.toInt - 1 := by omega
      have key : (i0.toInt * s1.toInt + i1.toInt) * s2.toInt + i2.toInt + 1 = (i0.toInt + 1) * s1.toInt * s2.toInt := by
        rw [Int.add_mul i0.toInt 1, Int.one_mul, e2, e1, show i0.toInt * s1.toInt + (s1.toInt - 1) = (i0.toInt * s1.toInt + s1.toInt) - 1 by omega, Int.sub_mul]; omega
      by_cases q0 : (i0 + (1 : Int32)) < s0
      · simp only [if_pos q0]
        rw [Int32.lt_iff_toInt_lt, n0] at q0
        refine ⟨⟨by omega, by omega, c0⟩, ⟨by omega, by omega, c1⟩, ⟨by omega, by omega, c2⟩, Or.inl ⟨by first | trivial | rfl, ?_⟩⟩
        rw [n0, z0, key]; simp only [Int.add_zero]
      · simp only [if_neg q0]
        rw [Int32.lt_iff_toInt_lt, n0] at q0
        have e0 : i0.toInt + 1 = s0.toInt := by omega
        refine ⟨⟨by omega, by omega, c0⟩, ⟨by omega, by omega, c1⟩, ⟨by omega, by omega, c2⟩, Or.inr ⟨by first | trivial | rfl, ?_, ?_⟩⟩
        · rw [z0]; omega
        · rw [key, e0]
theorem own_fin (before total after t : Int32) (B T A : Int) (hb : before.toInt = B) (ht : total.toInt = T) (ha : after.toInt = A) (b0 : 0 ≤ B) (bT : B < T) (T1 : T ≤ 1073741824) (nx : (t = 1 ∧ A = B + 1) ∨ (t = 0 ∧ A = 0 ∧ B + 1 = T)) (AT : A < T) :
    t = (if (before + (1 : Int32)) < total then (1 : Int32) else (0 : Int32)) ∧ after = (if (if (before + (1 : Int32)) < total then (1 : Int32) else (0 : Int32)) = (0 : Int32) then (0 : Int32) else (before + (1 : Int32))) := by
  have e := c_iadd before 1; rw [show (1 : Int32).toInt = 1 from rfl] at e
  have r := rng32 (before + 1)
  have e1 : (before + 1).toInt = B + 1 := by omega
  rcases nx with ⟨rfl, h⟩ | ⟨rfl, h, h'⟩
  · have q : (before + (1 : Int32)) < total := by rw [Int32.lt_iff_toInt_lt, e1, ht]; omega
    rw [if_pos q, if_neg (by decide)]
    exact ⟨rfl, Int32.toInt_inj.mp (by omega)⟩
  · have q : ¬ (before + (1 : Int32)) < total := by rw [Int32.lt_iff_toInt_lt, e1, ht]; omega
    rw [if_neg q, if_pos rfl]
    exact ⟨rfl, Int32.toInt_inj.mp (by rw [show (0 : Int32).toInt = 0 from rfl]; omega)⟩
theorem pn_0 : plainName "com/example/randomized_protocol_models/randomizedprotocolmodels/model/CombinationsNextPinLaw" = true := by first | (simp [plainName, overriddenIn]; done) | decide +kernel
theorem pd_0 : parseMethodDescriptor "([I[I)Z" = some ⟨[(.array .int), (.array .int)], some .boolean⟩ := by decide +kernel
theorem ef_0 (m : MethodId) (x0 : Int32) (x1 : Int32) (x2 : Int32) (x3 : Int32) : entryFrame m #[(.int x0), (.int x1), (.int x2), (.int x3)] maxLocals = mkF m 0 #[.val (.int x0), .val (.int x1), .val (.int x2), .val (.int x3), .unset, .unset, .unset, .unset, .unset, .unset, .unset, .unset, .unset, .unset, .unset, .unset, .unset, .unset, .unset, .unset, .unset] [] := by first | (simp [entryFrame, mkF, argsToLocals, Value.category, maxLocals]; done) | rfl
def Q0 (Z : State) (p0 : Int32) (p1 : Int32) (p2 : Int32) (p3 : Int32) (h0 : Heap) (n0 : Nat) (v : Option Value) (h : Heap) (L : List Loc) : Prop := v = some (.int (1 : Int32)) ∧ Fr n0 L
set_option maxRecDepth 65536 in
set_option maxHeartbeats 40000000 in
theorem rm0 (l : Launch) (Z : State) (a0 : Array Value) (hw : ∀ d ∈ tables_1, d.before a0 Z = true) (ws : List Jvm.Cond) (p0 : Int32) (p1 : Int32) (p2 : Int32) (p3 : Int32) (h0 : Heap) (n0 : Nat) (Z0 : n0 ≤ h0.size) :
    MetFree l x (head1 (Jvm.Cond.code x code maxLocals ret :: ws) room_1) (fun a U => a = #[(.int p0), (.int p1), (.int p2), (.int p3)] ∧ Z.Warmed39 U.vm ∧ U.heap = h0) (fun _ _ _ _ _ => True) (fun _ U o U' => ∃ v L, o = .returned v ∧ Q0 Z p0 p1 p2 p3 h0 n0 v U'.heap L ∧ FrameEnd U o U' L 16 128) := by
  refine MetFree.of_bodySF (plainFor_of_name pn_0) hisR ?_
  intro p e s m args below meth c s₁ Bd hml0 hP hK
  obtain ⟨rfl, hZ, hh⟩ := hP
  have hx := Bd.exec
  have hby := Bd.bytes
  have hml : c.maxLocals = 21 := hml0
  have hown : s.vm.findClass "com/example/randomized_protocol_models/randomizedprotocolmodels/model/CombinationsNextPinLaw" = some m.cls := findClass_of_methodNamed Bd.named
  have hnm := (name_of_methodNamed Bd.named Bd.method).1
  have X0 : Stand p l e room_1 s m #[(.int p0), (.int p1), (.int p2), (.int p3)] below meth c s₁ [] 0 0 := Stand.of_body Bd
  have e0 : s₁.heap = h0 := by rw [← hh, Bd.state]; rfl
  have N0 := Fr.nil n0
  have k0 : own_R p e below (s₁.setTop (entryFrame m #[(.int p0), (.int p1), (.int p2), (.int p3)] maxLocals)) (s₁.setTop (mkF m 0 #[.val (.int p0), .val (.int p1), .val (.int p2), .val (.int p3), .unset, .unset, .unset, .unset, .unset, .unset, .unset, .unset, .unset, .unset, .unset, .unset, .unset, .unset, .unset, .unset, .unset] [])) := fun t k => castTop (ef_0 m p0 p1 p2 p3) k
  have ks1 : own_R p e below (s₁.setTop (entryFrame m #[(.int p0), (.int p1), (.int p2), (.int p3)] maxLocals)) (s₁.setTop (mkF m 7 #[.val (.int p0), .val (.int p1), .val (.int p2), .val (.int p3), .unset, .unset, .unset, .unset, .unset, .unset, .unset, .unset, .unset, .unset, .unset, .unset, .unset, .unset, .unset, .unset, .unset] [(.int ((1 : Int32) + (p0 &&& (1023 : Int32))))])) := fun t k => k0 t (by
    show Steps p.tables e below (s₁.setTop (mkF m 0 #[.val (.int p0), .val (.int p1), .val (.int p2), .val (.int p3), .unset, .unset, .unset, .unset, .unset, .unset, .unset, .unset, .unset, .unset, .unset, .unset, .unset, .unset, .unset, .unset, .unset] [])) _
    refine XS.iconst X0.here hx rfl (hb hby at_0) ?_
    show Steps p.tables e below (s₁.setTop (mkF m 1 #[.val (.int p0), .val (.int p1), .val (.int p2), .val (.int p3), .unset, .unset, .unset, .unset, .unset, .unset, .unset, .unset, .unset, .unset, .unset, .unset, .unset, .unset, .unset, .unset, .unset] [(.int (1 : Int32))])) _
    refine XS.iloadN X0.here hx rfl (hb hby at_1) rfl ?_
    show Steps p.tables e below (s₁.setTop (mkF m 2 #[.val (.int p0), .val (.int p1), .val (.int p2), .val (.int p3), .unset, .unset, .unset, .unset, .unset, .unset, .unset, .unset, .unset, .unset, .unset, .unset, .unset, .unset, .unset, .unset, .unset] [(.int p0), (.int (1 : Int32))])) _
    refine XS.sipush X0.here hx rfl (hb hby at_2) ?_
    show Steps p.tables e below (s₁.setTop (mkF m 5 #[.val (.int p0), .val (.int p1), .val (.int p2), .val (.int p3), .unset, .unset, .unset, .unset, .unset, .unset, .unset, .unset, .unset, .unset, .unset, .unset, .unset, .unset, .unset, .unset, .unset] [(.int (1023 : Int32)), (.int p0), (.int (1 : Int32))])) _
    refine XS.iand X0.here hx rfl (hb hby at_5) rfl ?_
    show Steps p.tables e below (s₁.setTop (mkF m 6 #[.val (.int p0), .val (.int p1), .val (.int p2), .val (.int p3), .unset, .unset, .unset, .unset, .unset, .unset, .unset, .unset, .unset, .unset, .unset, .unset, .unset, .unset, .unset, .unset, .unset] [(.int (p0 &&& (1023 : Int32))), (.int (1 : Int32))])) _
    refine XS.iadd X0.here hx rfl (hb hby at_6) rfl ?_
    exact k)
  obtain ⟨v2, hv2⟩ : ∃ z : Int32, z = ((1 : Int32) + (p0 &&& (1023 : Int32))) := ⟨_, rfl⟩
  rw [← hv2] at ks1
  have ks3 : own_R p e below (s₁.setTop (entryFrame m #[(.int p0), (.int p1), (.int p2), (.int p3)] maxLocals)) (s₁.setTop (mkF m 16 #[.val (.int p0), .val (.int p1), .val (.int p2), .val (.int p3), .val (.int v2), .unset, .unset, .unset, .unset, .unset, .unset, .unset, .unset, .unset, .unset, .unset, .unset, .unset, .unset, .unset, .unset] [(.int ((1 : Int32) + (p1 &&& (1023 : Int32))))])) := fun t k => ks1 t (by
    show Steps p.tables e below (s₁.setTop (mkF m 7 #[.val (.int p0), .val (.int p1), .val (.int p2), .val (.int p3), .unset, .unset, .unset, .unset, .unset, .unset, .unset, .unset, .unset, .unset, .unset, .unset, .unset, .unset, .unset, .unset, .unset] [(.int v2)])) _
    refine XS.istore X0.here hx rfl (hb hby at_7) rfl (l' := #[.val (.int p0), .val (.int p1), .val (.int p2), .val (.int p3), .val (.int v2), .unset, .unset, .unset, .unset, .unset, .unset, .unset, .unset, .unset, .unset, .unset, .unset, .unset, .unset, .unset, .unset]) rfl ?_
    show Steps p.tables e below (s₁.setTop (mkF m 9 #[.val (.int p0), .val (.int p1), .val (.int p2), .val (.int p3), .val (.int v2), .unset, .unset, .unset, .unset, .unset, .unset, .unset, .unset, .unset, .unset, .unset, .unset, .unset, .unset, .unset, .unset] [])) _
    refine XS.iconst X0.here hx rfl (hb hby at_9) ?_
    show Steps p.tables e below (s₁.setTop (mkF m 10 #[.val (.int p0), .val (.int p1), .val (.int p2), .val (.int p3), .val (.int v2), .unset, .unset, .unset, .unset, .unset, .unset, .unset, .unset, .unset, .unset, .unset, .unset, .unset, .unset, .unset, .unset] [(.int (1 : Int32))])) _
    refine XS.iloadN X0.here hx rfl (hb hby at_10) rfl ?_
    show Steps p.tables e below (s₁.setTop (mkF m 11 #[.val (.int p0), .val (.int p1), .val (.int p2), .val (.int p3), .val (.int v2), .unset, .unset, .unset, .unset, .unset, .unset, .unset, .unset, .unset, .unset, .unset, .unset, .unset, .unset, .unset, .unset] [(.int p1), (.int (1 : Int32))])) _
    refine XS.sipush X0.here hx rfl (hb hby at_11) ?_
    show Steps p.tables e below (s₁.setTop (mkF m 14 #[.val (.int p0), .val (.int p1), .val (.int p2), .val (.int p3), .val (.int v2), .unset, .unset, .unset, .unset, .unset, .unset, .unset, .unset, .unset, .unset, .unset, .unset, .unset, .unset, .unset, .unset] [(.int (1023 : Int32)), (.int p1), (.int (1 : Int32))])) _
    refine XS.iand X0.here hx rfl (hb hby at_14) rfl ?_
    show Steps p.tables e below (s₁.setTop (mkF m 15 #[.val (.int p0), .val (.int p1), .val (.int p2), .val (.int p3), .val (.int v2), .unset, .unset, .unset, .unset, .unset, .unset, .unset, .unset, .unset, .unset, .unset, .unset, .unset, .unset, .unset, .unset] [(.int (p1 &&& (1023 : Int32))), (.int (1 : Int32))])) _
    refine XS.iadd X0.here hx rfl (hb hby at_15) rfl ?_
    exact k)
  obtain ⟨v4, hv4⟩ : ∃ z : Int32, z = ((1 : Int32) + (p1 &&& (1023 : Int32))) := ⟨_, rfl⟩
  rw [← hv4] at ks3
  have ks5 : own_R p e below (s₁.setTop (entryFrame m #[(.int p0), (.int p1), (.int p2), (.int p3)] maxLocals)) (s₁.setTop (mkF m 25 #[.val (.int p0), .val (.int p1), .val (.int p2), .val (.int p3), .val (.int v2), .val (.int v4), .unset, .unset, .unset, .unset, .unset, .unset, .unset, .unset, .unset, .unset, .unset, .unset, .unset, .unset, .unset] [(.int ((1 : Int32) + (p2 &&& (1023 : Int32))))])) := fun t k => ks3 t (by
    show Steps p.tables e below (s₁.setTop (mkF m 16 #[.val (.int p0), .val (.int p1), .val (.int p2), .val (.int p3), .val (.int v2), .unset, .unset, .unset, .unset, .unset, .unset, .unset, .unset, .unset, .unset, .unset, .unset, .unset, .unset, .unset, .unset] [(.int v4)])) _
    refine XS.istore X0.here hx rfl (hb hby at_16) rfl (l' := #[.val (.int p0), .val (.int p1), .val (.int p2), .val (.int p3), .val (.int v2), .val (.int v4), .unset, .unset, .unset, .unset, .unset, .unset, .unset, .unset, .unset, .unset, .unset, .unset, .unset, .unset, .unset]) rfl ?_
    show Steps p.tables e below (s₁.setTop (mkF m 18 #[.val (.int p0), .val (.int p1), .val (.int p2), .val (.int p3), .val (.int v2), .val (.int v4), .unset, .unset, .unset, .unset, .unset, .unset, .unset, .unset, .unset, .unset, .unset, .unset, .unset, .unset, .unset] [])) _
    refine XS.iconst X0.here hx rfl (hb hby at_18) ?_
    show Steps p.tables e below (s₁.setTop (mkF m 19 #[.val (.int p0), .val (.int p1), .val (.int p2), .val (.int p3), .val (.int v2), .val (.int v4), .unset, .unset, .unset, .unset, .unset, .unset, .unset, .unset, .unset, .unset, .unset, .unset, .unset, .unset, .unset] [(.int (1 : Int32))])) _
    refine XS.iloadN X0.here hx rfl (hb hby at_19) rfl ?_
    show Steps p.tables e below (s₁.setTop (mkF m 20 #[.val (.int p0), .val (.int p1), .val (.int p2), .val (.int p3), .val (.int v2), .val (.int v4), .unset, .unset, .unset, .unset, .unset, .unset, .unset, .unset, .unset, .unset, .unset, .unset, .unset, .unset, .unset] [(.int p2), (.int (1 : Int32))])) _
    refine XS.sipush X0.here hx rfl (hb hby at_20) ?_
    show Steps p.tables e below (s₁.setTop (mkF m 23 #[.val (.int p0), .val (.int p1), .val (.int p2), .val (.int p3), .val (.int v2), .val (.int v4), .unset, .unset, .unset, .unset, .unset, .unset, .unset, .unset, .unset, .unset, .unset, .unset, .unset, .unset, .unset] [(.int (1023 : Int32)), (.int p2), (.int (1 : Int32))])) _
    refine XS.iand X0.here hx rfl (hb hby at_23) rfl ?_
    show Steps p.tables e below (s₁.setTop (mkF m 24 #[.val (.int p0), .val (.int p1), .val (.int p2), .val (.int p3), .val (.int v2), .val (.int v4), .unset, .unset, .unset, .unset, .unset, .unset, .unset, .unset, .unset, .unset, .unset, .unset, .unset, .unset, .unset] [(.int (p2 &&& (1023 : Int32))), (.int (1 : Int32))])) _
    refine XS.iadd X0.here hx rfl (hb hby at_24) rfl ?_
    exact k)
  obtain ⟨v6, hv6⟩ : ∃ z : Int32, z = ((1 : Int32) + (p2 &&& (1023 : Int32))) := ⟨_, rfl⟩
  rw [← hv6] at ks5
  have ks7 : own_R p e below (s₁.setTop (entryFrame m #[(.int p0), (.int p1), (.int p2), (.int p3)] maxLocals)) (s₁.setTop (mkF m 27 #[.val (.int p0), .val (.int p1), .val (.int p2), .val (.int p3), .val (.int v2), .val (.int v4), .val (.int v6), .unset, .unset, .unset, .unset, .unset, .unset, .unset, .unset, .unset, .unset, .unset, .unset, .unset, .unset] [])) := fun t k => ks5 t (by
    show Steps p.tables e below (s₁.setTop (mkF m 25 #[.val (.int p0), .val (.int p1), .val (.int p2), .val (.int p3), .val (.int v2), .val (.int v4), .unset, .unset, .unset, .unset, .unset, .unset, .unset, .unset, .unset, .unset, .unset, .unset, .unset, .unset, .unset] [(.int v6)])) _
    refine XS.istore X0.here hx rfl (hb hby at_25) rfl (l' := #[.val (.int p0), .val (.int p1), .val (.int p2), .val (.int p3), .val (.int v2), .val (.int v4), .val (.int v6), .unset, .unset, .unset, .unset, .unset, .unset, .unset, .unset, .unset, .unset, .unset, .unset, .unset, .unset]) rfl ?_
    exact k)
  have nz4 : ¬ (v2 = (0 : Int32)) := by rw [hv2]; exact own_nz _
  have sz4 := own_size p0
  rw [← hv2] at sz4
  have nz5 : ¬ (v4 = (0 : Int32)) := by rw [hv4]; exact own_nz _
  have sz5 := own_size p1
  rw [← hv4] at sz5
  have nz6 : ¬ (v6 = (0 : Int32)) := by rw [hv6]; exact own_nz _
  have sz6 := own_size p2
  rw [← hv6] at sz6
  have ks10 : own_R p e below (s₁.setTop (entryFrame m #[(.int p0), (.int p1), (.int p2), (.int p3)] maxLocals)) (s₁.setTop (mkF m 30 #[.val (.int p0), .val (.int p1), .val (.int p2), .val (.int p3), .val (.int v2), .val (.int v4), .val (.int v6), .unset, .unset, .unset, .unset, .unset, .unset, .unset, .unset, .unset, .unset, .unset, .unset, .unset, .unset] [(.int (p3 &&& (1 : Int32)))])) := fun t k => ks7 t (by
    show Steps p.tables e below (s₁.setTop (mkF m 27 #[.val (.int p0), .val (.int p1), .val (.int p2), .val (.int p3), .val (.int v2), .val (.int v4), .val (.int v6), .unset, .unset, .unset, .unset, .unset, .unset, .unset, .unset, .unset, .unset, .unset, .unset, .unset, .unset] [])) _
    refine XS.iloadN X0.here hx rfl (hb hby at_27) rfl ?_
    show Steps p.tables e below (s₁.setTop (mkF m 28 #[.val (.int p0), .val (.int p1), .val (.int p2), .val (.int p3), .val (.int v2), .val (.int v4), .val (.int v6), .unset, .unset, .unset, .unset, .unset, .unset, .unset, .unset, .unset, .unset, .unset, .unset, .unset, .unset] [(.int p3)])) _
    refine XS.iconst X0.here hx rfl (hb hby at_28) ?_
    show Steps p.tables e below (s₁.setTop (mkF m 29 #[.val (.int p0), .val (.int p1), .val (.int p2), .val (.int p3), .val (.int v2), .val (.int v4), .val (.int v6), .unset, .unset, .unset, .unset, .unset, .unset, .unset, .unset, .unset, .unset, .unset, .unset, .unset, .unset] [(.int (1 : Int32)), (.int p3)])) _
    refine XS.iand X0.here hx rfl (hb hby at_29) rfl ?_
    exact k)
  obtain ⟨v9, hv9⟩ : ∃ z : Int32, z = (if (p3 &&& (1 : Int32)) = (0 : Int32) then (((p0.toUInt32 >>> ((10 : Int32) &&& 31).toUInt32).toInt32) % v2) else (v2 - (1 : Int32))) := ⟨_, rfl⟩
  have ks11 : own_R p e below (s₁.setTop (entryFrame m #[(.int p0), (.int p1), (.int p2), (.int p3)] maxLocals)) (s₁.setTop (mkF m 47 #[.val (.int p0), .val (.int p1), .val (.int p2), .val (.int p3), .val (.int v2), .val (.int v4), .val (.int v6), .unset, .unset, .unset, .unset, .unset, .unset, .unset, .unset, .unset, .unset, .unset, .unset, .unset, .unset] [(.int v9)])) := fun t k => ks10 t (by
    by_cases hc8 : (p3 &&& (1 : Int32)) = (0 : Int32)
    · skip
      have qq12 : v9 = (((p0.toUInt32 >>> ((10 : Int32) &&& 31).toUInt32).toInt32) % v2) := by rw [hv9, if_pos hc8]
      rw [qq12] at k
      show Steps p.tables e below (s₁.setTop (mkF m 30 #[.val (.int p0), .val (.int p1), .val (.int p2), .val (.int p3), .val (.int v2), .val (.int v4), .val (.int v6), .unset, .unset, .unset, .unset, .unset, .unset, .unset, .unset, .unset, .unset, .unset, .unset, .unset, .unset] [(.int (p3 &&& (1 : Int32)))])) _
      refine XS.ifYes X0.here hx rfl (pc0 := 30) (pc' := 40) rfl (hb hby at_30) rfl ((if0 _ _).trans (teq hc8).1) (by decide) (by decide) ?_
      show Steps p.tables e below (s₁.setTop (mkF m 40 #[.val (.int p0), .val (.int p1), .val (.int p2), .val (.int p3), .val (.int v2), .val (.int v4), .val (.int v6), .unset, .unset, .unset, .unset, .unset, .unset, .unset, .unset, .unset, .unset, .unset, .unset, .unset, .unset] [])) _
      refine XS.iloadN X0.here hx rfl (hb hby at_40) rfl ?_
      show Steps p.tables e below (s₁.setTop (mkF m 41 #[.val (.int p0), .val (.int p1), .val (.int p2), .val (.int p3), .val (.int v2), .val (.int v4), .val (.int v6), .unset, .unset, .unset, .unset, .unset, .unset, .unset, .unset, .unset, .unset, .unset, .unset, .unset, .unset] [(.int p0)])) _
      refine XS.bipush X0.here hx rfl (hb hby at_41) ?_
      show Steps p.tables e below (s₁.setTop (mkF m 43 #[.val (.int p0), .val (.int p1), .val (.int p2), .val (.int p3), .val (.int v2), .val (.int v4), .val (.int v6), .unset, .unset, .unset, .unset, .unset, .unset, .unset, .unset, .unset, .unset, .unset, .unset, .unset, .unset] [(.int (10 : Int32)), (.int p0)])) _
      refine XS.iushr X0.here hx rfl (hb hby at_43) rfl ?_
      show Steps p.tables e below (s₁.setTop (mkF m 44 #[.val (.int p0), .val (.int p1), .val (.int p2), .val (.int p3), .val (.int v2), .val (.int v4), .val (.int v6), .unset, .unset, .unset, .unset, .unset, .unset, .unset, .unset, .unset, .unset, .unset, .unset, .unset, .unset] [(.int ((p0.toUInt32 >>> ((10 : Int32) &&& 31).toUInt32).toInt32))])) _
      refine XS.iload X0.here hx rfl (hb hby at_44) rfl ?_
      show Steps p.tables e below (s₁.setTop (mkF m 46 #[.val (.int p0), .val (.int p1), .val (.int p2), .val (.int p3), .val (.int v2), .val (.int v4), .val (.int v6), .unset, .unset, .unset, .unset, .unset, .unset, .unset, .unset, .unset, .unset, .unset, .unset, .unset, .unset] [(.int v2), (.int ((p0.toUInt32 >>> ((10 : Int32) &&& 31).toUInt32).toInt32))])) _
      refine Jvm.RoadKit.iremM X0 hx rfl (hb hby at_46) rfl nz4 ?_
      exact k
    · skip
      have qq13 : v9 = (v2 - (1 : Int32)) := by rw [hv9, if_neg hc8]
      rw [qq13] at k
      show Steps p.tables e below (s₁.setTop (mkF m 30 #[.val (.int p0), .val (.int p1), .val (.int p2), .val (.int p3), .val (.int v2), .val (.int v4), .val (.int v6), .unset, .unset, .unset, .unset, .unset, .unset, .unset, .unset, .unset, .unset, .unset, .unset, .unset, .unset] [(.int (p3 &&& (1 : Int32)))])) _
      refine XS.ifNo X0.here hx rfl (hb hby at_30) rfl ((if0 _ _).trans (feq hc8).1) ?_
      show Steps p.tables e below (s₁.setTop (mkF m 33 #[.val (.int p0), .val (.int p1), .val (.int p2), .val (.int p3), .val (.int v2), .val (.int v4), .val (.int v6), .unset, .unset, .unset, .unset, .unset, .unset, .unset, .unset, .unset, .unset, .unset, .unset, .unset, .unset] [])) _
      refine XS.iload X0.here hx rfl (hb hby at_33) rfl ?_
      show Steps p.tables e below (s₁.setTop (mkF m 35 #[.val (.int p0), .val (.int p1), .val (.int p2), .val (.int p3), .val (.int v2), .val (.int v4), .val (.int v6), .unset, .unset, .unset, .unset, .unset, .unset, .unset, .unset, .unset, .unset, .unset, .unset, .unset, .unset] [(.int v2)])) _
      refine XS.iconst X0.here hx rfl (hb hby at_35) ?_
      show Steps p.tables e below (s₁.setTop (mkF m 36 #[.val (.int p0), .val (.int p1), .val (.int p2), .val (.int p3), .val (.int v2), .val (.int v4), .val (.int v6), .unset, .unset, .unset, .unset, .unset, .unset, .unset, .unset, .unset, .unset, .unset, .unset, .unset, .unset] [(.int (1 : Int32)), (.int v2)])) _
      refine XS.isub X0.here hx rfl (hb hby at_36) rfl ?_
      show Steps p.tables e below (s₁.setTop (mkF m 37 #[.val (.int p0), .val (.int p1), .val (.int p2), .val (.int p3), .val (.int v2), .val (.int v4), .val (.int v6), .unset, .unset, .unset, .unset, .unset, .unset, .unset, .unset, .unset, .unset, .unset, .unset, .unset, .unset] [(.int (v2 - (1 : Int32)))])) _
      refine XS.goto X0.here hx rfl (pc0 := 37) (pc' := 47) rfl (hb hby at_37) (by decide) (by decide) ?_
      exact k)
  have ks16 : own_R p e below (s₁.setTop (entryFrame m #[(.int p0), (.int p1), (.int p2), (.int p3)] maxLocals)) (s₁.setTop (mkF m 52 #[.val (.int p0), .val (.int p1), .val (.int p2), .val (.int p3), .val (.int v2), .val (.int v4), .val (.int v6), .val (.int v9), .unset, .unset, .unset, .unset, .unset, .unset, .unset, .unset, .unset, .unset, .unset, .unset, .unset] [(.int (p3 &&& (2 : Int32)))])) := fun t k => ks11 t (by
    show Steps p.tables e below (s₁.setTop (mkF m 47 #[.val (.int p0), .val (.int p1), .val (.int p2), .val (.int p3), .val (.int v2), .val (.int v4), .val (.int v6), .unset, .unset, .unset, .unset, .unset, .unset, .unset, .unset, .unset, .unset, .unset, .unset, .unset, .unset] [(.int v9)])) _
    refine XS.istore X0.here hx rfl (hb hby at_47) rfl (l' := #[.val (.int p0), .val (.int p1), .val (.int p2), .val (.int p3), .val (.int v2), .val (.int v4), .val (.int v6), .val (.int v9), .unset, .unset, .unset, .unset, .unset, .unset, .unset, .unset, .unset, .unset, .unset, .unset, .unset]) rfl ?_
    show Steps p.tables e below (s₁.setTop (mkF m 49 #[.val (.int p0), .val (.int p1), .val (.int p2), .val (.int p3), .val (.int v2), .val (.int v4), .val (.int v6), .val (.int v9), .unset, .unset, .unset, .unset, .unset, .unset, .unset, .unset, .unset, .unset, .unset, .unset, .unset] [])) _
    refine XS.iloadN X0.here hx rfl (hb hby at_49) rfl ?_
    show Steps p.tables e below (s₁.setTop (mkF m 50 #[.val (.int p0), .val (.int p1), .val (.int p2), .val (.int p3), .val (.int v2), .val (.int v4), .val (.int v6), .val (.int v9), .unset, .unset, .unset, .unset, .unset, .unset, .unset, .unset, .unset, .unset, .unset, .unset, .unset] [(.int p3)])) _
    refine XS.iconst X0.here hx rfl (hb hby at_50) ?_
    show Steps p.tables e below (s₁.setTop (mkF m 51 #[.val (.int p0), .val (.int p1), .val (.int p2), .val (.int p3), .val (.int v2), .val (.int v4), .val (.int v6), .val (.int v9), .unset, .unset, .unset, .unset, .unset, .unset, .unset, .unset, .unset, .unset, .unset, .unset, .unset] [(.int (2 : Int32)), (.int p3)])) _
    refine XS.iand X0.here hx rfl (hb hby at_51) rfl ?_
    exact k)
  obtain ⟨v15, hv15⟩ : ∃ z : Int32, z = (if (p3 &&& (2 : Int32)) = (0 : Int32) then (((p1.toUInt32 >>> ((10 : Int32) &&& 31).toUInt32).toInt32) % v4) else (v4 - (1 : Int32))) := ⟨_, rfl⟩
  have ks17 : own_R p e below (s₁.setTop (entryFrame m #[(.int p0), (.int p1), (.int p2), (.int p3)] maxLocals)) (s₁.setTop (mkF m 69 #[.val (.int p0), .val (.int p1), .val (.int p2), .val (.int p3), .val (.int v2), .val (.int v4), .val (.int v6), .val (.int v9), .unset, .unset, .unset, .unset, .unset, .unset, .unset, .unset, .unset, .unset, .unset, .unset, .unset] [(.int v15)])) := fun t k => ks16 t (by
    by_cases hc14 : (p3 &&& (2 : Int32)) = (0 : Int32)
    · skip
      have qq18 : v15 = (((p1.toUInt32 >>> ((10 : Int32) &&& 31).toUInt32).toInt32) % v4) := by rw [hv15, if_pos hc14]
      rw [qq18] at k
      show Steps p.tables e below (s₁.setTop (mkF m 52 #[.val (.int p0), .val (.int p1), .val (.int p2), .val (.int p3), .val (.int v2), .val (.int v4), .val (.int v6), .val (.int v9), .unset, .unset, .unset, .unset, .unset, .unset, .unset, .unset, .unset, .unset, .unset, .unset, .unset] [(.int (p3 &&& (2 : Int32)))])) _
      refine XS.ifYes X0.here hx rfl (pc0 := 52) (pc' := 62) rfl (hb hby at_52) rfl ((if0 _ _).trans (teq hc14).1) (by decide) (by decide) ?_
      show Steps p.tables e below (s₁.setTop (mkF m 62 #[.val (.int p0), .val (.int p1), .val (.int p2), .val (.int p3), .val (.int v2), .val (.int v4), .val (.int v6), .val (.int v9), .unset, .unset, .unset, .unset, .unset, .unset, .unset, .unset, .unset, .unset, .unset, .unset, .unset] [])) _
      refine XS.iloadN X0.here hx rfl (hb hby at_62) rfl ?_
      show Steps p.tables e below (s₁.setTop (mkF m 63 #[.val (.int p0), .val (.int p1), .val (.int p2), .val (.int p3), .val (.int v2), .val (.int v4), .val (.int v6), .val (.int v9), .unset, .unset, .unset, .unset, .unset, .unset, .unset, .unset, .unset, .unset, .unset, .unset, .unset] [(.int p1)])) _
      refine XS.bipush X0.here hx rfl (hb hby at_63) ?_
      show Steps p.tables e below (s₁.setTop (mkF m 65 #[.val (.int p0), .val (.int p1), .val (.int p2), .val (.int p3), .val (.int v2), .val (.int v4), .val (.int v6), .val (.int v9), .unset, .unset, .unset, .unset, .unset, .unset, .unset, .unset, .unset, .unset, .unset, .unset, .unset] [(.int (10 : Int32)), (.int p1)])) _
      refine XS.iushr X0.here hx rfl (hb hby at_65) rfl ?_
      show Steps p.tables e below (s₁.setTop (mkF m 66 #[.val (.int p0), .val (.int p1), .val (.int p2), .val (.int p3), .val (.int v2), .val (.int v4), .val (.int v6), .val (.int v9), .unset, .unset, .unset, .unset, .unset, .unset, .unset, .unset, .unset, .unset, .unset, .unset, .unset] [(.int ((p1.toUInt32 >>> ((10 : Int32) &&& 31).toUInt32).toInt32))])) _
      refine XS.iload X0.here hx rfl (hb hby at_66) rfl ?_
      show Steps p.tables e below (s₁.setTop (mkF m 68 #[.val (.int p0), .val (.int p1), .val (.int p2), .val (.int p3), .val (.int v2), .val (.int v4), .val (.int v6), .val (.int v9), .unset, .unset, .unset, .unset, .unset, .unset, .unset, .unset, .unset, .unset, .unset, .unset, .unset] [(.int v4), (.int ((p1.toUInt32 >>> ((10 : Int32) &&& 31).toUInt32).toInt32))])) _
      refine Jvm.RoadKit.iremM X0 hx rfl (hb hby at_68) rfl nz5 ?_
      exact k
    · skip
      have qq19 : v15 = (v4 - (1 : Int32)) := by rw [hv15, if_neg hc14]
      rw [qq19] at k
      show Steps p.tables e below (s₁.setTop (mkF m 52 #[.val (.int p0), .val (.int p1), .val (.int p2), .val (.int p3), .val (.int v2), .val (.int v4), .val (.int v6), .val (.int v9), .unset, .unset, .unset, .unset, .unset, .unset, .unset, .unset, .unset, .unset, .unset, .unset, .unset] [(.int (p3 &&& (2 : Int32)))])) _
      refine XS.ifNo X0.here hx rfl (hb hby at_52) rfl ((if0 _ _).trans (feq hc14).1) ?_
      show Steps p.tables e below (s₁.setTop (mkF m 55 #[.val (.int p0), .val (.int p1), .val (.int p2), .val (.int p3), .val (.int v2), .val (.int v4), .val (.int v6), .val (.int v9), .unset, .unset, .unset, .unset, .unset, .unset, .unset, .unset, .unset, .unset, .unset, .unset, .unset] [])) _
      refine XS.iload X0.here hx rfl (hb hby at_55) rfl ?_
      show Steps p.tables e below (s₁.setTop (mkF m 57 #[.val (.int p0), .val (.int p1), .val (.int p2), .val (.int p3), .val (.int v2), .val (.int v4), .val (.int v6), .val (.int v9), .unset, .unset, .unset, .unset, .unset, .unset, .unset, .unset, .unset, .unset, .unset, .unset, .unset] [(.int v4)])) _
      refine XS.iconst X0.here hx rfl (hb hby at_57) ?_
      show Steps p.tables e below (s₁.setTop (mkF m 58 #[.val (.int p0), .val (.int p1), .val (.int p2), .val (.int p3), .val (.int v2), .val (.int v4), .val (.int v6), .val (.int v9), .unset, .unset, .unset, .unset, .unset, .unset, .unset, .unset, .unset, .unset, .unset, .unset, .unset] [(.int (1 : Int32)), (.int v4)])) _
      refine XS.isub X0.here hx rfl (hb hby at_58) rfl ?_
      show Steps p.tables e below (s₁.setTop (mkF m 59 #[.val (.int p0), .val (.int p1), .val (.int p2), .val (.int p3), .val (.int v2), .val (.int v4), .val (.int v6), .val (.int v9), .unset, .unset, .unset, .unset, .unset, .unset, .unset, .unset, .unset, .unset, .unset, .unset, .unset] [(.int (v4 - (1 : Int32)))])) _
      refine XS.goto X0.here hx rfl (pc0 := 59) (pc' := 69) rfl (hb hby at_59) (by decide) (by decide) ?_
      exact k)
  have ks22 : own_R p e below (s₁.setTop (entryFrame m #[(.int p0), (.int p1), (.int p2), (.int p3)] maxLocals)) (s₁.setTop (mkF m 74 #[.val (.int p0), .val (.int p1), .val (.int p2), .val (.int p3), .val (.int v2), .val (.int v4), .val (.int v6), .val (.int v9), .val (.int v15), .unset, .unset, .unset, .unset, .unset, .unset, .unset, .unset, .unset, .unset, .unset, .unset] [(.int (p3 &&& (4 : Int32)))])) := fun t k => ks17 t (by
    show Steps p.tables e below (s₁.setTop (mkF m 69 #[.val (.int p0), .val (.int p1), .val (.int p2), .val (.int p3), .val (.int v2), .val (.int v4), .val (.int v6), .val (.int v9), .unset, .unset, .unset, .unset, .unset, .unset, .unset, .unset, .unset, .unset, .unset, .unset, .unset] [(.int v15)])) _
    refine XS.istore X0.here hx rfl (hb hby at_69) rfl (l' := #[.val (.int p0), .val (.int p1), .val (.int p2), .val (.int p3), .val (.int v2), .val (.int v4), .val (.int v6), .val (.int v9), .val (.int v15), .unset, .unset, .unset, .unset, .unset, .unset, .unset, .unset, .unset, .unset, .unset, .unset]) rfl ?_
    show Steps p.tables e below (s₁.setTop (mkF m 71 #[.val (.int p0), .val (.int p1), .val (.int p2), .val (.int p3), .val (.int v2), .val (.int v4), .val (.int v6), .val (.int v9), .val (.int v15), .unset, .unset, .unset, .unset, .unset, .unset, .unset, .unset, .unset, .unset, .unset, .unset] [])) _
    refine XS.iloadN X0.here hx rfl (hb hby at_71) rfl ?_
    show Steps p.tables e below (s₁.setTop (mkF m 72 #[.val (.int p0), .val (.int p1), .val (.int p2), .val (.int p3), .val (.int v2), .val (.int v4), .val (.int v6), .val (.int v9), .val (.int v15), .unset, .unset, .unset, .unset, .unset, .unset, .unset, .unset, .unset, .unset, .unset, .unset] [(.int p3)])) _
    refine XS.iconst X0.here hx rfl (hb hby at_72) ?_
    show Steps p.tables e below (s₁.setTop (mkF m 73 #[.val (.int p0), .val (.int p1), .val (.int p2), .val (.int p3), .val (.int v2), .val (.int v4), .val (.int v6), .val (.int v9), .val (.int v15), .unset, .unset, .unset, .unset, .unset, .unset, .unset, .unset, .unset, .unset, .unset, .unset] [(.int (4 : Int32)), (.int p3)])) _
    refine XS.iand X0.here hx rfl (hb hby at_73) rfl ?_
    exact k)
  obtain ⟨v21, hv21⟩ : ∃ z : Int32, z = (if (p3 &&& (4 : Int32)) = (0 : Int32) then (((p2.toUInt32 >>> ((10 : Int32) &&& 31).toUInt32).toInt32) % v6) else (v6 - (1 : Int32))) := ⟨_, rfl⟩
  have ks23 : own_R p e below (s₁.setTop (entryFrame m #[(.int p0), (.int p1), (.int p2), (.int p3)] maxLocals)) (s₁.setTop (mkF m 91 #[.val (.int p0), .val (.int p1), .val (.int p2), .val (.int p3), .val (.int v2), .val (.int v4), .val (.int v6), .val (.int v9), .val (.int v15), .unset, .unset, .unset, .unset, .unset, .unset, .unset, .unset, .unset, .unset, .unset, .unset] [(.int v21)])) := fun t k => ks22 t (by
    by_cases hc20 : (p3 &&& (4 : Int32)) = (0 : Int32)
    · skip
      have qq24 : v21 = (((p2.toUInt32 >>> ((10 : Int32) &&& 31).toUInt32).toInt32) % v6) := by rw [hv21, if_pos hc20]
      rw [qq24] at k
      show Steps p.tables e below (s₁.setTop (mkF m 74 #[.val (.int p0), .val (.int p1), .val (.int p2), .val (.int p3), .val (.int v2), .val (.int v4), .val (.int v6), .val (.int v9), .val (.int v15), .unset, .unset, .unset, .unset, .unset, .unset, .unset, .unset, .unset, .unset, .unset, .unset] [(.int (p3 &&& (4 : Int32)))])) _
      refine XS.ifYes X0.here hx rfl (pc0 := 74) (pc' := 84) rfl (hb hby at_74) rfl ((if0 _ _).trans (teq hc20).1) (by decide) (by decide) ?_
      show Steps p.tables e below (s₁.setTop (mkF m 84 #[.val (.int p0), .val (.int p1), .val (.int p2), .val (.int p3), .val (.int v2), .val (.int v4), .val (.int v6), .val (.int v9), .val (.int v15), .unset, .unset, .unset, .unset, .unset, .unset, .unset, .unset, .unset, .unset, .unset, .unset] [])) _
      refine XS.iloadN X0.here hx rfl (hb hby at_84) rfl ?_
      show Steps p.tables e below (s₁.setTop (mkF m 85 #[.val (.int p0), .val (.int p1), .val (.int p2), .val (.int p3), .val (.int v2), .val (.int v4), .val (.int v6), .val (.int v9), .val (.int v15), .unset, .unset, .unset, .unset, .unset, .unset, .unset, .unset, .unset, .unset, .unset, .unset] [(.int p2)])) _
      refine XS.bipush X0.here hx rfl (hb hby at_85) ?_
      show Steps p.tables e below (s₁.setTop (mkF m 87 #[.val (.int p0), .val (.int p1), .val (.int p2), .val (.int p3), .val (.int v2), .val (.int v4), .val (.int v6), .val (.int v9), .val (.int v15), .unset, .unset, .unset, .unset, .unset, .unset, .unset, .unset, .unset, .unset, .unset, .unset] [(.int (10 : Int32)), (.int p2)])) _
      refine XS.iushr X0.here hx rfl (hb hby at_87) rfl ?_
      show Steps p.tables e below (s₁.setTop (mkF m 88 #[.val (.int p0), .val (.int p1), .val (.int p2), .val (.int p3), .val (.int v2), .val (.int v4), .val (.int v6), .val (.int v9), .val (.int v15), .unset, .unset, .unset, .unset, .unset, .unset, .unset, .unset, .unset, .unset, .unset, .unset] [(.int ((p2.toUInt32 >>> ((10 : Int32) &&& 31).toUInt32).toInt32))])) _
      refine XS.iload X0.here hx rfl (hb hby at_88) rfl ?_
      show Steps p.tables e below (s₁.setTop (mkF m 90 #[.val (.int p0), .val (.int p1), .val (.int p2), .val (.int p3), .val (.int v2), .val (.int v4), .val (.int v6), .val (.int v9), .val (.int v15), .unset, .unset, .unset, .unset, .unset, .unset, .unset, .unset, .unset, .unset, .unset, .unset] [(.int v6), (.int ((p2.toUInt32 >>> ((10 : Int32) &&& 31).toUInt32).toInt32))])) _
      refine Jvm.RoadKit.iremM X0 hx rfl (hb hby at_90) rfl nz6 ?_
      exact k
    · skip
      have qq25 : v21 = (v6 - (1 : Int32)) := by rw [hv21, if_neg hc20]
      rw [qq25] at k
      show Steps p.tables e below (s₁.setTop (mkF m 74 #[.val (.int p0), .val (.int p1), .val (.int p2), .val (.int p3), .val (.int v2), .val (.int v4), .val (.int v6), .val (.int v9), .val (.int v15), .unset, .unset, .unset, .unset, .unset, .unset, .unset, .unset, .unset, .unset, .unset, .unset] [(.int (p3 &&& (4 : Int32)))])) _
      refine XS.ifNo X0.here hx rfl (hb hby at_74) rfl ((if0 _ _).trans (feq hc20).1) ?_
      show Steps p.tables e below (s₁.setTop (mkF m 77 #[.val (.int p0), .val (.int p1), .val (.int p2), .val (.int p3), .val (.int v2), .val (.int v4), .val (.int v6), .val (.int v9), .val (.int v15), .unset, .unset, .unset, .unset, .unset, .unset, .unset, .unset, .unset, .unset, .unset, .unset] [])) _
      refine XS.iload X0.here hx rfl (hb hby at_77) rfl ?_
      show Steps p.tables e below (s₁.setTop (mkF m 79 #[.val (.int p0), .val (.int p1), .val (.int p2), .val (.int p3), .val (.int v2), .val (.int v4), .val (.int v6), .val (.int v9), .val (.int v15), .unset, .unset, .unset, .unset, .unset, .unset, .unset, .unset, .unset, .unset, .unset, .unset] [(.int v6)])) _
      refine XS.iconst X0.here hx rfl (hb hby at_79) ?_
      show Steps p.tables e below (s₁.setTop (mkF m 80 #[.val (.int p0), .val (.int p1), .val (.int p2), .val (.int p3), .val (.int v2), .val (.int v4), .val (.int v6), .val (.int v9), .val (.int v15), .unset, .unset, .unset, .unset, .unset, .unset, .unset, .unset, .unset, .unset, .unset, .unset] [(.int (1 : Int32)), (.int v6)])) _
      refine XS.isub X0.here hx rfl (hb hby at_80) rfl ?_
      show Steps p.tables e below (s₁.setTop (mkF m 81 #[.val (.int p0), .val (.int p1), .val (.int p2), .val (.int p3), .val (.int v2), .val (.int v4), .val (.int v6), .val (.int v9), .val (.int v15), .unset, .unset, .unset, .unset, .unset, .unset, .unset, .unset, .unset, .unset, .unset, .unset] [(.int (v6 - (1 : Int32)))])) _
      refine XS.goto X0.here hx rfl (pc0 := 81) (pc' := 91) rfl (hb hby at_81) (by decide) (by decide) ?_
      exact k)
  have ks26 : own_R p e below (s₁.setTop (entryFrame m #[(.int p0), (.int p1), (.int p2), (.int p3)] maxLocals)) (s₁.setTop (mkF m 93 #[.val (.int p0), .val (.int p1), .val (.int p2), .val (.int p3), .val (.int v2), .val (.int v4), .val (.int v6), .val (.int v9), .val (.int v15), .val (.int v21), .unset, .unset, .unset, .unset, .unset, .unset, .unset, .unset, .unset, .unset, .unset] [])) := fun t k => ks23 t (by
    show Steps p.tables e below (s₁.setTop (mkF m 91 #[.val (.int p0), .val (.int p1), .val (.int p2), .val (.int p3), .val (.int v2), .val (.int v4), .val (.int v6), .val (.int v9), .val (.int v15), .unset, .unset, .unset, .unset, .unset, .unset, .unset, .unset, .unset, .unset, .unset, .unset] [(.int v21)])) _
    refine XS.istore X0.here hx rfl (hb hby at_91) rfl (l' := #[.val (.int p0), .val (.int p1), .val (.int p2), .val (.int p3), .val (.int v2), .val (.int v4), .val (.int v6), .val (.int v9), .val (.int v15), .val (.int v21), .unset, .unset, .unset, .unset, .unset, .unset, .unset, .unset, .unset, .unset, .unset]) rfl ?_
    exact k)
  have ok7 : own_ok v9 v2 := by rw [hv9]; exact own_place p0 p3 v2 sz4.1 sz4.2
  have ok8 : own_ok v15 v4 := by rw [hv15]; exact own_place p1 p3 v4 sz5.1 sz5.2
  have ok9 : own_ok v21 v6 := by rw [hv21]; exact own_place p2 p3 v6 sz6.1 sz6.2
  have ks27 : own_R p e below (s₁.setTop (entryFrame m #[(.int p0), (.int p1), (.int p2), (.int p3)] maxLocals)) (s₁.setTop (mkF m 94 #[.val (.int p0), .val (.int p1), .val (.int p2), .val (.int p3), .val (.int v2), .val (.int v4), .val (.int v6), .val (.int v9), .val (.int v15), .val (.int v21), .unset, .unset, .unset, .unset, .unset, .unset, .unset, .unset, .unset, .unset, .unset] [(.int (3 : Int32))])) := fun t k => ks26 t (by
    show Steps p.tables e below (s₁.setTop (mkF m 93 #[.val (.int p0), .val (.int p1), .val (.int p2), .val (.int p3), .val (.int v2), .val (.int v4), .val (.int v6), .val (.int v9), .val (.int v15), .val (.int v21), .unset, .unset, .unset, .unset, .unset, .unset, .unset, .unset, .unset, .unset, .unset] [])) _
    refine XS.iconst X0.here hx rfl (hb hby at_93) ?_
    exact k)
  obtain ⟨T28, h28, c28, X28, e28, E28, A28, st28⟩ := newP X0 hx hZ (hw _ (List.mem_of_getElem? (i := 0) rfl)) e0 (g := (mkF m 94 #[.val (.int p0), .val (.int p1), .val (.int p2), .val (.int p3), .val (.int v2), .val (.int v4), .val (.int v6), .val (.int v9), .val (.int v15), .val (.int v21), .unset, .unset, .unset, .unset, .unset, .unset, .unset, .unset, .unset, .unset, .unset] [(.int (3 : Int32))])) rfl (hb hby at_94) rfl (by decide) (cap := 3) (by decide) (by decide) (by decide) (by decide)
  obtain ⟨b28, g28⟩ : ∃ z, z = h0.size := ⟨_, rfl⟩
  rw [← g28] at A28 st28
  have g_b28 : n0 ≤ b28 := Nat.le_trans Z0 (Nat.le_of_eq g28.symm)
  have sz_b28 : h0.size ≤ b28 := Nat.le_trans (Keep.refl h0 []).1 (Nat.le_of_eq g28.symm)
  have KH28 : Keep h0 h28 [] := (Keep.refl h0 []).ext E28
  have Zn28 : n0 ≤ h28.size := Nat.le_trans Z0 E28.1
  have V28 : Arv Z h28 b28 c28 .int (3 : Int32) [(.int (0 : Int32)), (.int (0 : Int32)), (.int (0 : Int32))] (.int (0 : Int32)) := (Arv.new A28 (by decide)).pad (pad_rep [] (.int (0 : Int32)) 3)
  have ks29 : own_R p e below (s₁.setTop (entryFrame m #[(.int p0), (.int p1), (.int p2), (.int p3)] maxLocals)) (T28.setTop (mkF m 96 #[.val (.int p0), .val (.int p1), .val (.int p2), .val (.int p3), .val (.int v2), .val (.int v4), .val (.int v6), .val (.int v9), .val (.int v15), .val (.int v21), .unset, .unset, .unset, .unset, .unset, .unset, .unset, .unset, .unset, .unset, .unset] [(.ref b28)])) := fun t k => ks27 t (st28 t k)
  have ks30 : own_R p e below (s₁.setTop (entryFrame m #[(.int p0), (.int p1), (.int p2), (.int p3)] maxLocals)) (T28.setTop (mkF m 100 #[.val (.int p0), .val (.int p1), .val (.int p2), .val (.int p3), .val (.int v2), .val (.int v4), .val (.int v6), .val (.int v9), .val (.int v15), .val (.int v21), .unset, .unset, .unset, .unset, .unset, .unset, .unset, .unset, .unset, .unset, .unset] [(.int v2), (.int (0 : Int32)), (.ref b28), (.ref b28)])) := fun t k => ks29 t (by
    show Steps p.tables e below (T28.setTop (mkF m 96 #[.val (.int p0), .val (.int p1), .val (.int p2), .val (.int p3), .val (.int v2), .val (.int v4), .val (.int v6), .val (.int v9), .val (.int v15), .val (.int v21), .unset, .unset, .unset, .unset, .unset, .unset, .unset, .unset, .unset, .unset, .unset] [(.ref b28)])) _
    refine XS.dup X28.here hx rfl (hb hby at_96) rfl rfl ?_
    show Steps p.tables e below (T28.setTop (mkF m 97 #[.val (.int p0), .val (.int p1), .val (.int p2), .val (.int p3), .val (.int v2), .val (.int v4), .val (.int v6), .val (.int v9), .val (.int v15), .val (.int v21), .unset, .unset, .unset, .unset, .unset, .unset, .unset, .unset, .unset, .unset, .unset] [(.ref b28), (.ref b28)])) _
    refine XS.iconst X28.here hx rfl (hb hby at_97) ?_
    show Steps p.tables e below (T28.setTop (mkF m 98 #[.val (.int p0), .val (.int p1), .val (.int p2), .val (.int p3), .val (.int v2), .val (.int v4), .val (.int v6), .val (.int v9), .val (.int v15), .val (.int v21), .unset, .unset, .unset, .unset, .unset, .unset, .unset, .unset, .unset, .unset, .unset] [(.int (0 : Int32)), (.ref b28), (.ref b28)])) _
    refine XS.iload X28.here hx rfl (hb hby at_98) rfl ?_
    exact k)
  obtain ⟨cl31, Ar31, qa31, S31, Na31, Ha31, Ga31⟩ := id V28
  have hin31 : ¬ ((0 : Int32) < 0 ∨ cl31.slots.size ≤ ((0 : Int32)).toNatClampNeg) := inb_of S31 ⟨by decide, by decide⟩
  obtain ⟨T32, h32, X32, e32, W32, st32⟩ := stI X28 hx hZ e28 Ar31 (j := (0 : Int32)) hin31 (g := (mkF m 100 #[.val (.int p0), .val (.int p1), .val (.int p2), .val (.int p3), .val (.int v2), .val (.int v4), .val (.int v6), .val (.int v9), .val (.int v15), .val (.int v21), .unset, .unset, .unset, .unset, .unset, .unset, .unset, .unset, .unset, .unset, .unset] [(.int v2), (.int (0 : Int32)), (.ref b28), (.ref b28)])) rfl rfl (hb hby at_100)
  have V32 : Arv Z h32 b28 c28 .int (3 : Int32) [(.int v2), (.int (0 : Int32)), (.int (0 : Int32))] (.int (0 : Int32)) := Arv.set Ar31 qa31 S31 Na31 Ha31 Ga31 rfl W32 0 rfl (Nat.le_of_ble_eq_true rfl)
  have KH32 : Keep h0 h32 [] := KH28.wr W32 (Or.inr sz_b28)
  have Zn32 : n0 ≤ h32.size := Nat.le_trans Zn28 (Keep.of_wr W32).1
  have N32 := Fr.snoc X32 N0 g_b28
  have ks33 : own_R p e below (s₁.setTop (entryFrame m #[(.int p0), (.int p1), (.int p2), (.int p3)] maxLocals)) (T32.setTop (mkF m 101 #[.val (.int p0), .val (.int p1), .val (.int p2), .val (.int p3), .val (.int v2), .val (.int v4), .val (.int v6), .val (.int v9), .val (.int v15), .val (.int v21), .unset, .unset, .unset, .unset, .unset, .unset, .unset, .unset, .unset, .unset, .unset] [(.ref b28)])) := fun t k => ks30 t (st32 t k)
  have ks34 : own_R p e below (s₁.setTop (entryFrame m #[(.int p0), (.int p1), (.int p2), (.int p3)] maxLocals)) (T32.setTop (mkF m 105 #[.val (.int p0), .val (.int p1), .val (.int p2), .val (.int p3), .val (.int v2), .val (.int v4), .val (.int v6), .val (.int v9), .val (.int v15), .val (.int v21), .unset, .unset, .unset, .unset, .unset, .unset, .unset, .unset, .unset, .unset, .unset] [(.int v4), (.int (1 : Int32)), (.ref b28), (.ref b28)])) := fun t k => ks33 t (by
    show Steps p.tables e below (T32.setTop (mkF m 101 #[.val (.int p0), .val (.int p1), .val (.int p2), .val (.int p3), .val (.int v2), .val (.int v4), .val (.int v6), .val (.int v9), .val (.int v15), .val (.int v21), .unset, .unset, .unset, .unset, .unset, .unset, .unset, .unset, .unset, .unset, .unset] [(.ref b28)])) _
    refine XS.dup X32.here hx rfl (hb hby at_101) rfl rfl ?_
    show Steps p.tables e below (T32.setTop (mkF m 102 #[.val (.int p0), .val (.int p1), .val (.int p2), .val (.int p3), .val (.int v2), .val (.int v4), .val (.int v6), .val (.int v9), .val (.int v15), .val (.int v21), .unset, .unset, .unset, .unset, .unset, .unset, .unset, .unset, .unset, .unset, .unset] [(.ref b28), (.ref b28)])) _
    refine XS.iconst X32.here hx rfl (hb hby at_102) ?_
    show Steps p.tables e below (T32.setTop (mkF m 103 #[.val (.int p0), .val (.int p1), .val (.int p2), .val (.int p3), .val (.int v2), .val (.int v4), .val (.int v6), .val (.int v9), .val (.int v15), .val (.int v21), .unset, .unset, .unset, .unset, .unset, .unset, .unset, .unset, .unset, .unset, .unset] [(.int (1 : Int32)), (.ref b28), (.ref b28)])) _
    refine XS.iload X32.here hx rfl (hb hby at_103) rfl ?_
    exact k)
  obtain ⟨cl35, Ar35, qa35, S35, Na35, Ha35, Ga35⟩ := id V32
  have hin35 : ¬ ((1 : Int32) < 0 ∨ cl35.slots.size ≤ ((1 : Int32)).toNatClampNeg) := inb_of S35 ⟨by decide, by decide⟩
  obtain ⟨T36, h36, X36, e36, W36, st36⟩ := stI X32 hx hZ e32 Ar35 (j := (1 : Int32)) hin35 (g := (mkF m 105 #[.val (.int p0), .val (.int p1), .val (.int p2), .val (.int p3), .val (.int v2), .val (.int v4), .val (.int v6), .val (.int v9), .val (.int v15), .val (.int v21), .unset, .unset, .unset, .unset, .unset, .unset, .unset, .unset, .unset, .unset, .unset] [(.int v4), (.int (1 : Int32)), (.ref b28), (.ref b28)])) rfl rfl (hb hby at_105)
  have V36 : Arv Z h36 b28 c28 .int (3 : Int32) [(.int v2), (.int v4), (.int (0 : Int32))] (.int (0 : Int32)) := Arv.set Ar35 qa35 S35 Na35 Ha35 Ga35 rfl W36 1 rfl (Nat.le_of_ble_eq_true rfl)
  have KH36 : Keep h0 h36 [] := KH32.wr W36 (Or.inr sz_b28)
  have Zn36 : n0 ≤ h36.size := Nat.le_trans Zn32 (Keep.of_wr W36).1
  have N36 := Fr.snoc X36 N32 g_b28
  have ks37 : own_R p e below (s₁.setTop (entryFrame m #[(.int p0), (.int p1), (.int p2), (.int p3)] maxLocals)) (T36.setTop (mkF m 106 #[.val (.int p0), .val (.int p1), .val (.int p2), .val (.int p3), .val (.int v2), .val (.int v4), .val (.int v6), .val (.int v9), .val (.int v15), .val (.int v21), .unset, .unset, .unset, .unset, .unset, .unset, .unset, .unset, .unset, .unset, .unset] [(.ref b28)])) := fun t k => ks34 t (st36 t k)
  have ks38 : own_R p e below (s₁.setTop (entryFrame m #[(.int p0), (.int p1), (.int p2), (.int p3)] maxLocals)) (T36.setTop (mkF m 110 #[.val (.int p0), .val (.int p1), .val (.int p2), .val (.int p3), .val (.int v2), .val (.int v4), .val (.int v6), .val (.int v9), .val (.int v15), .val (.int v21), .unset, .unset, .unset, .unset, .unset, .unset, .unset, .unset, .unset, .unset, .unset] [(.int v6), (.int (2 : Int32)), (.ref b28), (.ref b28)])) := fun t k => ks37 t (by
    show Steps p.tables e below (T36.setTop (mkF m 106 #[.val (.int p0), .val (.int p1), .val (.int p2), .val (.int p3), .val (.int v2), .val (.int v4), .val (.int v6), .val (.int v9), .val (.int v15), .val (.int v21), .unset, .unset, .unset, .unset, .unset, .unset, .unset, .unset, .unset, .unset, .unset] [(.ref b28)])) _
    refine XS.dup X36.here hx rfl (hb hby at_106) rfl rfl ?_
    show Steps p.tables e below (T36.setTop (mkF m 107 #[.val (.int p0), .val (.int p1), .val (.int p2), .val (.int p3), .val (.int v2), .val (.int v4), .val (.int v6), .val (.int v9), .val (.int v15), .val (.int v21), .unset, .unset, .unset, .unset, .unset, .unset, .unset, .unset, .unset, .unset, .unset] [(.ref b28), (.ref b28)])) _
    refine XS.iconst X36.here hx rfl (hb hby at_107) ?_
    show Steps p.tables e below (T36.setTop (mkF m 108 #[.val (.int p0), .val (.int p1), .val (.int p2), .val (.int p3), .val (.int v2), .val (.int v4), .val (.int v6), .val (.int v9), .val (.int v15), .val (.int v21), .unset, .unset, .unset, .unset, .unset, .unset, .unset, .unset, .unset, .unset, .unset] [(.int (2 : Int32)), (.ref b28), (.ref b28)])) _
    refine XS.iload X36.here hx rfl (hb hby at_108) rfl ?_
    exact k)
  obtain ⟨cl39, Ar39, qa39, S39, Na39, Ha39, Ga39⟩ := id V36
  have hin39 : ¬ ((2 : Int32) < 0 ∨ cl39.slots.size ≤ ((2 : Int32)).toNatClampNeg) := inb_of S39 ⟨by decide, by decide⟩
  obtain ⟨T40, h40, X40, e40, W40, st40⟩ := stI X36 hx hZ e36 Ar39 (j := (2 : Int32)) hin39 (g := (mkF m 110 #[.val (.int p0), .val (.int p1), .val (.int p2), .val (.int p3), .val (.int v2), .val (.int v4), .val (.int v6), .val (.int v9), .val (.int v15), .val (.int v21), .unset, .unset, .unset, .unset, .unset, .unset, .unset, .unset, .unset, .unset, .unset] [(.int v6), (.int (2 : Int32)), (.ref b28), (.ref b28)])) rfl rfl (hb hby at_110)
  have V40 : Arv Z h40 b28 c28 .int (3 : Int32) [(.int v2), (.int v4), (.int v6)] (.int (0 : Int32)) := Arv.set Ar39 qa39 S39 Na39 Ha39 Ga39 rfl W40 2 rfl (Nat.le_of_ble_eq_true rfl)
  have KH40 : Keep h0 h40 [] := KH36.wr W40 (Or.inr sz_b28)
  have Zn40 : n0 ≤ h40.size := Nat.le_trans Zn36 (Keep.of_wr W40).1
  have N40 := Fr.snoc X40 N36 g_b28
  have ks41 : own_R p e below (s₁.setTop (entryFrame m #[(.int p0), (.int p1), (.int p2), (.int p3)] maxLocals)) (T40.setTop (mkF m 111 #[.val (.int p0), .val (.int p1), .val (.int p2), .val (.int p3), .val (.int v2), .val (.int v4), .val (.int v6), .val (.int v9), .val (.int v15), .val (.int v21), .unset, .unset, .unset, .unset, .unset, .unset, .unset, .unset, .unset, .unset, .unset] [(.ref b28)])) := fun t k => ks38 t (st40 t k)
  have ks42 : own_R p e below (s₁.setTop (entryFrame m #[(.int p0), (.int p1), (.int p2), (.int p3)] maxLocals)) (T40.setTop (mkF m 114 #[.val (.int p0), .val (.int p1), .val (.int p2), .val (.int p3), .val (.int v2), .val (.int v4), .val (.int v6), .val (.int v9), .val (.int v15), .val (.int v21), .val (.ref b28), .unset, .unset, .unset, .unset, .unset, .unset, .unset, .unset, .unset, .unset] [(.int (3 : Int32))])) := fun t k => ks41 t (by
    show Steps p.tables e below (T40.setTop (mkF m 111 #[.val (.int p0), .val (.int p1), .val (.int p2), .val (.int p3), .val (.int v2), .val (.int v4), .val (.int v6), .val (.int v9), .val (.int v15), .val (.int v21), .unset, .unset, .unset, .unset, .unset, .unset, .unset, .unset, .unset, .unset, .unset] [(.ref b28)])) _
    refine XS.astore X40.here hx rfl (hb hby at_111) rfl rfl (l' := #[.val (.int p0), .val (.int p1), .val (.int p2), .val (.int p3), .val (.int v2), .val (.int v4), .val (.int v6), .val (.int v9), .val (.int v15), .val (.int v21), .val (.ref b28), .unset, .unset, .unset, .unset, .unset, .unset, .unset, .unset, .unset, .unset]) rfl ?_
    show Steps p.tables e below (T40.setTop (mkF m 113 #[.val (.int p0), .val (.int p1), .val (.int p2), .val (.int p3), .val (.int v2), .val (.int v4), .val (.int v6), .val (.int v9), .val (.int v15), .val (.int v21), .val (.ref b28), .unset, .unset, .unset, .unset, .unset, .unset, .unset, .unset, .unset, .unset] [])) _
    refine XS.iconst X40.here hx rfl (hb hby at_113) ?_
    exact k)
  obtain ⟨T43, h43, c43, X43, e43, E43, A43, st43⟩ := newP X40 hx hZ (hw _ (List.mem_of_getElem? (i := 0) rfl)) e40 (g := (mkF m 114 #[.val (.int p0), .val (.int p1), .val (.int p2), .val (.int p3), .val (.int v2), .val (.int v4), .val (.int v6), .val (.int v9), .val (.int v15), .val (.int v21), .val (.ref b28), .unset, .unset, .unset, .unset, .unset, .unset, .unset, .unset, .unset, .unset] [(.int (3 : Int32))])) rfl (hb hby at_114) rfl (by decide) (cap := 3) (by decide) (by decide) (by decide) (by decide)
  obtain ⟨b43, g43⟩ : ∃ z, z = h40.size := ⟨_, rfl⟩
  rw [← g43] at A43 st43
  have ne_b28_b43 : b28 ≠ b43 := Nat.ne_of_lt (Nat.lt_of_lt_of_le V40.lt (Nat.le_of_eq g43.symm))
  have g_b43 : n0 ≤ b43 := Nat.le_trans Zn40 (Nat.le_of_eq g43.symm)
  have sz_b43 : h0.size ≤ b43 := Nat.le_trans KH40.1 (Nat.le_of_eq g43.symm)
  have KH43 : Keep h0 h43 [] := KH40.ext E43
  have Zn43 : n0 ≤ h43.size := Nat.le_trans Zn40 E43.1
  have V43 : Arv Z h43 b43 c43 .int (3 : Int32) [(.int (0 : Int32)), (.int (0 : Int32)), (.int (0 : Int32))] (.int (0 : Int32)) := (Arv.new A43 (by decide)).pad (pad_rep [] (.int (0 : Int32)) 3)
  have ks44 : own_R p e below (s₁.setTop (entryFrame m #[(.int p0), (.int p1), (.int p2), (.int p3)] maxLocals)) (T43.setTop (mkF m 116 #[.val (.int p0), .val (.int p1), .val (.int p2), .val (.int p3), .val (.int v2), .val (.int v4), .val (.int v6), .val (.int v9), .val (.int v15), .val (.int v21), .val (.ref b28), .unset, .unset, .unset, .unset, .unset, .unset, .unset, .unset, .unset, .unset] [(.ref b43)])) := fun t k => ks42 t (st43 t k)
  have ks45 : own_R p e below (s₁.setTop (entryFrame m #[(.int p0), (.int p1), (.int p2), (.int p3)] maxLocals)) (T43.setTop (mkF m 120 #[.val (.int p0), .val (.int p1), .val (.int p2), .val (.int p3), .val (.int v2), .val (.int v4), .val (.int v6), .val (.int v9), .val (.int v15), .val (.int v21), .val (.ref b28), .unset, .unset, .unset, .unset, .unset, .unset, .unset, .unset, .unset, .unset] [(.int v9), (.int (0 : Int32)), (.ref b43), (.ref b43)])) := fun t k => ks44 t (by
    show Steps p.tables e below (T43.setTop (mkF m 116 #[.val (.int p0), .val (.int p1), .val (.int p2), .val (.int p3), .val (.int v2), .val (.int v4), .val (.int v6), .val (.int v9), .val (.int v15), .val (.int v21), .val (.ref b28), .unset, .unset, .unset, .unset, .unset, .unset, .unset, .unset, .unset, .unset] [(.ref b43)])) _
    refine XS.dup X43.here hx rfl (hb hby at_116) rfl rfl ?_
    show Steps p.tables e below (T43.setTop (mkF m 117 #[.val (.int p0), .val (.int p1), .val (.int p2), .val (.int p3), .val (.int v2), .val (.int v4), .val (.int v6), .val (.int v9), .val (.int v15), .val (.int v21), .val (.ref b28), .unset, .unset, .unset, .unset, .unset, .unset, .unset, .unset, .unset, .unset] [(.ref b43), (.ref b43)])) _
    refine XS.iconst X43.here hx rfl (hb hby at_117) ?_
    show Steps p.tables e below (T43.setTop (mkF m 118 #[.val (.int p0), .val (.int p1), .val (.int p2), .val (.int p3), .val (.int v2), .val (.int v4), .val (.int v6), .val (.int v9), .val (.int v15), .val (.int v21), .val (.ref b28), .unset, .unset, .unset, .unset, .unset, .unset, .unset, .unset, .unset, .unset] [(.int (0 : Int32)), (.ref b43), (.ref b43)])) _
    refine XS.iload X43.here hx rfl (hb hby at_118) rfl ?_
    exact k)
  obtain ⟨cl46, Ar46, qa46, S46, Na46, Ha46, Ga46⟩ := id V43
  have hin46 : ¬ ((0 : Int32) < 0 ∨ cl46.slots.size ≤ ((0 : Int32)).toNatClampNeg) := inb_of S46 ⟨by decide, by decide⟩
  obtain ⟨T47, h47, X47, e47, W47, st47⟩ := stI X43 hx hZ e43 Ar46 (j := (0 : Int32)) hin46 (g := (mkF m 120 #[.val (.int p0), .val (.int p1), .val (.int p2), .val (.int p3), .val (.int v2), .val (.int v4), .val (.int v6), .val (.int v9), .val (.int v15), .val (.int v21), .val (.ref b28), .unset, .unset, .unset, .unset, .unset, .unset, .unset, .unset, .unset, .unset] [(.int v9), (.int (0 : Int32)), (.ref b43), (.ref b43)])) rfl rfl (hb hby at_120)
  have V47 : Arv Z h47 b43 c43 .int (3 : Int32) [(.int v9), (.int (0 : Int32)), (.int (0 : Int32))] (.int (0 : Int32)) := Arv.set Ar46 qa46 S46 Na46 Ha46 Ga46 rfl W47 0 rfl (Nat.le_of_ble_eq_true rfl)
  have KH47 : Keep h0 h47 [] := KH43.wr W47 (Or.inr sz_b43)
  have Zn47 : n0 ≤ h47.size := Nat.le_trans Zn43 (Keep.of_wr W47).1
  have N47 := Fr.snoc X47 N40 g_b43
  have ks48 : own_R p e below (s₁.setTop (entryFrame m #[(.int p0), (.int p1), (.int p2), (.int p3)] maxLocals)) (T47.setTop (mkF m 121 #[.val (.int p0), .val (.int p1), .val (.int p2), .val (.int p3), .val (.int v2), .val (.int v4), .val (.int v6), .val (.int v9), .val (.int v15), .val (.int v21), .val (.ref b28), .unset, .unset, .unset, .unset, .unset, .unset, .unset, .unset, .unset, .unset] [(.ref b43)])) := fun t k => ks45 t (st47 t k)
  have ks49 : own_R p e below (s₁.setTop (entryFrame m #[(.int p0), (.int p1), (.int p2), (.int p3)] maxLocals)) (T47.setTop (mkF m 125 #[.val (.int p0), .val (.int p1), .val (.int p2), .val (.int p3), .val (.int v2), .val (.int v4), .val (.int v6), .val (.int v9), .val (.int v15), .val (.int v21), .val (.ref b28), .unset, .unset, .unset, .unset, .unset, .unset, .unset, .unset, .unset, .unset] [(.int v15), (.int (1 : Int32)), (.ref b43), (.ref b43)])) := fun t k => ks48 t (by
    show Steps p.tables e below (T47.setTop (mkF m 121 #[.val (.int p0), .val (.int p1), .val (.int p2), .val (.int p3), .val (.int v2), .val (.int v4), .val (.int v6), .val (.int v9), .val (.int v15), .val (.int v21), .val (.ref b28), .unset, .unset, .unset, .unset, .unset, .unset, .unset, .unset, .unset, .unset] [(.ref b43)])) _
    refine XS.dup X47.here hx rfl (hb hby at_121) rfl rfl ?_
    show Steps p.tables e below (T47.setTop (mkF m 122 #[.val (.int p0), .val (.int p1), .val (.int p2), .val (.int p3), .val (.int v2), .val (.int v4), .val (.int v6), .val (.int v9), .val (.int v15), .val (.int v21), .val (.ref b28), .unset, .unset, .unset, .unset, .unset, .unset, .unset, .unset, .unset, .unset] [(.ref b43), (.ref b43)])) _
    refine XS.iconst X47.here hx rfl (hb hby at_122) ?_
    show Steps p.tables e below (T47.setTop (mkF m 123 #[.val (.int p0), .val (.int p1), .val (.int p2), .val (.int p3), .val (.int v2), .val (.int v4), .val (.int v6), .val (.int v9), .val (.int v15), .val (.int v21), .val (.ref b28), .unset, .unset, .unset, .unset, .unset, .unset, .unset, .unset, .unset, .unset] [(.int (1 : Int32)), (.ref b43), (.ref b43)])) _
    refine XS.iload X47.here hx rfl (hb hby at_123) rfl ?_
    exact k)
  obtain ⟨cl50, Ar50, qa50, S50, Na50, Ha50, Ga50⟩ := id V47
  have hin50 : ¬ ((1 : Int32) < 0 ∨ cl50.slots.size ≤ ((1 : Int32)).toNatClampNeg) := inb_of S50 ⟨by decide, by decide⟩
  obtain ⟨T51, h51, X51, e51, W51, st51⟩ := stI X47 hx hZ e47 Ar50 (j := (1 : Int32)) hin50 (g := (mkF m 125 #[.val (.int p0), .val (.int p1), .val (.int p2), .val (.int p3), .val (.int v2), .val (.int v4), .val (.int v6), .val (.int v9), .val (.int v15), .val (.int v21), .val (.ref b28), .unset, .unset, .unset, .unset, .unset, .unset, .unset, .unset, .unset, .unset] [(.int v15), (.int (1 : Int32)), (.ref b43), (.ref b43)])) rfl rfl (hb hby at_125)
  have V51 : Arv Z h51 b43 c43 .int (3 : Int32) [(.int v9), (.int v15), (.int (0 : Int32))] (.int (0 : Int32)) := Arv.set Ar50 qa50 S50 Na50 Ha50 Ga50 rfl W51 1 rfl (Nat.le_of_ble_eq_true rfl)
  have KH51 : Keep h0 h51 [] := KH47.wr W51 (Or.inr sz_b43)
  have Zn51 : n0 ≤ h51.size := Nat.le_trans Zn47 (Keep.of_wr W51).1
  have N51 := Fr.snoc X51 N47 g_b43
  have ks52 : own_R p e below (s₁.setTop (entryFrame m #[(.int p0), (.int p1), (.int p2), (.int p3)] maxLocals)) (T51.setTop (mkF m 126 #[.val (.int p0), .val (.int p1), .val (.int p2), .val (.int p3), .val (.int v2), .val (.int v4), .val (.int v6), .val (.int v9), .val (.int v15), .val (.int v21), .val (.ref b28), .unset, .unset, .unset, .unset, .unset, .unset, .unset, .unset, .unset, .unset] [(.ref b43)])) := fun t k => ks49 t (st51 t k)
  have ks53 : own_R p e below (s₁.setTop (entryFrame m #[(.int p0), (.int p1), (.int p2), (.int p3)] maxLocals)) (T51.setTop (mkF m 130 #[.val (.int p0), .val (.int p1), .val (.int p2), .val (.int p3), .val (.int v2), .val (.int v4), .val (.int v6), .val (.int v9), .val (.int v15), .val (.int v21), .val (.ref b28), .unset, .unset, .unset, .unset, .unset, .unset, .unset, .unset, .unset, .unset] [(.int v21), (.int (2 : Int32)), (.ref b43), (.ref b43)])) := fun t k => ks52 t (by
    show Steps p.tables e below (T51.setTop (mkF m 126 #[.val (.int p0), .val (.int p1), .val (.int p2), .val (.int p3), .val (.int v2), .val (.int v4), .val (.int v6), .val (.int v9), .val (.int v15), .val (.int v21), .val (.ref b28), .unset, .unset, .unset, .unset, .unset, .unset, .unset, .unset, .unset, .unset] [(.ref b43)])) _
    refine XS.dup X51.here hx rfl (hb hby at_126) rfl rfl ?_
    show Steps p.tables e below (T51.setTop (mkF m 127 #[.val (.int p0), .val (.int p1), .val (.int p2), .val (.int p3), .val (.int v2), .val (.int v4), .val (.int v6), .val (.int v9), .val (.int v15), .val (.int v21), .val (.ref b28), .unset, .unset, .unset, .unset, .unset, .unset, .unset, .unset, .unset, .unset] [(.ref b43), (.ref b43)])) _
    refine XS.iconst X51.here hx rfl (hb hby at_127) ?_
    show Steps p.tables e below (T51.setTop (mkF m 128 #[.val (.int p0), .val (.int p1), .val (.int p2), .val (.int p3), .val (.int v2), .val (.int v4), .val (.int v6), .val (.int v9), .val (.int v15), .val (.int v21), .val (.ref b28), .unset, .unset, .unset, .unset, .unset, .unset, .unset, .unset, .unset, .unset] [(.int (2 : Int32)), (.ref b43), (.ref b43)])) _
    refine XS.iload X51.here hx rfl (hb hby at_128) rfl ?_
    exact k)
  obtain ⟨cl54, Ar54, qa54, S54, Na54, Ha54, Ga54⟩ := id V51
  have hin54 : ¬ ((2 : Int32) < 0 ∨ cl54.slots.size ≤ ((2 : Int32)).toNatClampNeg) := inb_of S54 ⟨by decide, by decide⟩
  obtain ⟨T55, h55, X55, e55, W55, st55⟩ := stI X51 hx hZ e51 Ar54 (j := (2 : Int32)) hin54 (g := (mkF m 130 #[.val (.int p0), .val (.int p1), .val (.int p2), .val (.int p3), .val (.int v2), .val (.int v4), .val (.int v6), .val (.int v9), .val (.int v15), .val (.int v21), .val (.ref b28), .unset, .unset, .unset, .unset, .unset, .unset, .unset, .unset, .unset, .unset] [(.int v21), (.int (2 : Int32)), (.ref b43), (.ref b43)])) rfl rfl (hb hby at_130)
  have V55 : Arv Z h55 b43 c43 .int (3 : Int32) [(.int v9), (.int v15), (.int v21)] (.int (0 : Int32)) := Arv.set Ar54 qa54 S54 Na54 Ha54 Ga54 rfl W55 2 rfl (Nat.le_of_ble_eq_true rfl)
  have KH55 : Keep h0 h55 [] := KH51.wr W55 (Or.inr sz_b43)
  have Zn55 : n0 ≤ h55.size := Nat.le_trans Zn51 (Keep.of_wr W55).1
  have N55 := Fr.snoc X55 N51 g_b43
  have ks56 : own_R p e below (s₁.setTop (entryFrame m #[(.int p0), (.int p1), (.int p2), (.int p3)] maxLocals)) (T55.setTop (mkF m 131 #[.val (.int p0), .val (.int p1), .val (.int p2), .val (.int p3), .val (.int v2), .val (.int v4), .val (.int v6), .val (.int v9), .val (.int v15), .val (.int v21), .val (.ref b28), .unset, .unset, .unset, .unset, .unset, .unset, .unset, .unset, .unset, .unset] [(.ref b43)])) := fun t k => ks53 t (st55 t k)
  have ks57 : own_R p e below (s₁.setTop (entryFrame m #[(.int p0), (.int p1), (.int p2), (.int p3)] maxLocals)) (T55.setTop (mkF m 134 #[.val (.int p0), .val (.int p1), .val (.int p2), .val (.int p3), .val (.int v2), .val (.int v4), .val (.int v6), .val (.int v9), .val (.int v15), .val (.int v21), .val (.ref b28), .val (.ref b43), .unset, .unset, .unset, .unset, .unset, .unset, .unset, .unset, .unset] [(.int (0 : Int32))])) := fun t k => ks56 t (by
    show Steps p.tables e below (T55.setTop (mkF m 131 #[.val (.int p0), .val (.int p1), .val (.int p2), .val (.int p3), .val (.int v2), .val (.int v4), .val (.int v6), .val (.int v9), .val (.int v15), .val (.int v21), .val (.ref b28), .unset, .unset, .unset, .unset, .unset, .unset, .unset, .unset, .unset, .unset] [(.ref b43)])) _
    refine XS.astore X55.here hx rfl (hb hby at_131) rfl rfl (l' := #[.val (.int p0), .val (.int p1), .val (.int p2), .val (.int p3), .val (.int v2), .val (.int v4), .val (.int v6), .val (.int v9), .val (.int v15), .val (.int v21), .val (.ref b28), .val (.ref b43), .unset, .unset, .unset, .unset, .unset, .unset, .unset, .unset, .unset]) rfl ?_
    show Steps p.tables e below (T55.setTop (mkF m 133 #[.val (.int p0), .val (.int p1), .val (.int p2), .val (.int p3), .val (.int v2), .val (.int v4), .val (.int v6), .val (.int v9), .val (.int v15), .val (.int v21), .val (.ref b28), .val (.ref b43), .unset, .unset, .unset, .unset, .unset, .unset, .unset, .unset, .unset] [])) _
    refine XS.iconst X55.here hx rfl (hb hby at_133) ?_
    exact k)
  have f58 := ((((V40.ext E43).other W47 ne_b28_b43).other W51 ne_b28_b43).other W55 ne_b28_b43)
  obtain ⟨T59, h59, c59, X59, e59, E59, A59, st59⟩ := newP X55 hx hZ (hw _ (List.mem_of_getElem? (i := 0) rfl)) e55 (g := (mkF m 134 #[.val (.int p0), .val (.int p1), .val (.int p2), .val (.int p3), .val (.int v2), .val (.int v4), .val (.int v6), .val (.int v9), .val (.int v15), .val (.int v21), .val (.ref b28), .val (.ref b43), .unset, .unset, .unset, .unset, .unset, .unset, .unset, .unset, .unset] [(.int (0 : Int32))])) rfl (hb hby at_134) rfl (by decide) (cap := 0) (by decide) (by decide) (by decide) (by decide)
  obtain ⟨b59, g59⟩ : ∃ z, z = h55.size := ⟨_, rfl⟩
  rw [← g59] at A59 st59
  have ne_b28_b59 : b28 ≠ b59 := Nat.ne_of_lt (Nat.lt_of_lt_of_le f58.lt (Nat.le_of_eq g59.symm))
  have ne_b43_b59 : b43 ≠ b59 := Nat.ne_of_lt (Nat.lt_of_lt_of_le V55.lt (Nat.le_of_eq g59.symm))
  have g_b59 : n0 ≤ b59 := Nat.le_trans Zn55 (Nat.le_of_eq g59.symm)
  have sz_b59 : h0.size ≤ b59 := Nat.le_trans KH55.1 (Nat.le_of_eq g59.symm)
  have KH59 : Keep h0 h59 [] := KH55.ext E59
  have Zn59 : n0 ≤ h59.size := Nat.le_trans Zn55 E59.1
  have V59 : Arv Z h59 b59 c59 .int (0 : Int32) [] (.int (0 : Int32)) := Arv.new A59 (by decide)
  have ks60 : own_R p e below (s₁.setTop (entryFrame m #[(.int p0), (.int p1), (.int p2), (.int p3)] maxLocals)) (T59.setTop (mkF m 136 #[.val (.int p0), .val (.int p1), .val (.int p2), .val (.int p3), .val (.int v2), .val (.int v4), .val (.int v6), .val (.int v9), .val (.int v15), .val (.int v21), .val (.ref b28), .val (.ref b43), .unset, .unset, .unset, .unset, .unset, .unset, .unset, .unset, .unset] [(.ref b59)])) := fun t k => ks57 t (st59 t k)
  have ks61 : own_R p e below (s₁.setTop (entryFrame m #[(.int p0), (.int p1), (.int p2), (.int p3)] maxLocals)) (T59.setTop (mkF m 139 #[.val (.int p0), .val (.int p1), .val (.int p2), .val (.int p3), .val (.int v2), .val (.int v4), .val (.int v6), .val (.int v9), .val (.int v15), .val (.int v21), .val (.ref b28), .val (.ref b43), .val (.ref b59), .unset, .unset, .unset, .unset, .unset, .unset, .unset, .unset] [(.int (0 : Int32))])) := fun t k => ks60 t (by
    show Steps p.tables e below (T59.setTop (mkF m 136 #[.val (.int p0), .val (.int p1), .val (.int p2), .val (.int p3), .val (.int v2), .val (.int v4), .val (.int v6), .val (.int v9), .val (.int v15), .val (.int v21), .val (.ref b28), .val (.ref b43), .unset, .unset, .unset, .unset, .unset, .unset, .unset, .unset, .unset] [(.ref b59)])) _
    refine XS.astore X59.here hx rfl (hb hby at_136) rfl rfl (l' := #[.val (.int p0), .val (.int p1), .val (.int p2), .val (.int p3), .val (.int v2), .val (.int v4), .val (.int v6), .val (.int v9), .val (.int v15), .val (.int v21), .val (.ref b28), .val (.ref b43), .val (.ref b59), .unset, .unset, .unset, .unset, .unset, .unset, .unset, .unset]) rfl ?_
    show Steps p.tables e below (T59.setTop (mkF m 138 #[.val (.int p0), .val (.int p1), .val (.int p2), .val (.int p3), .val (.int v2), .val (.int v4), .val (.int v6), .val (.int v9), .val (.int v15), .val (.int v21), .val (.ref b28), .val (.ref b43), .val (.ref b59), .unset, .unset, .unset, .unset, .unset, .unset, .unset, .unset] [])) _
    refine XS.iconst X59.here hx rfl (hb hby at_138) ?_
    exact k)
  have f62 := (f58.ext E59)
  have f63 := (V55.ext E59)
  obtain ⟨T64, h64, c64, X64, e64, E64, A64, st64⟩ := newP X59 hx hZ (hw _ (List.mem_of_getElem? (i := 0) rfl)) e59 (g := (mkF m 139 #[.val (.int p0), .val (.int p1), .val (.int p2), .val (.int p3), .val (.int v2), .val (.int v4), .val (.int v6), .val (.int v9), .val (.int v15), .val (.int v21), .val (.ref b28), .val (.ref b43), .val (.ref b59), .unset, .unset, .unset, .unset, .unset, .unset, .unset, .unset] [(.int (0 : Int32))])) rfl (hb hby at_139) rfl (by decide) (cap := 0) (by decide) (by decide) (by decide) (by decide)
  obtain ⟨b64, g64⟩ : ∃ z, z = h59.size := ⟨_, rfl⟩
  rw [← g64] at A64 st64
  have ne_b28_b64 : b28 ≠ b64 := Nat.ne_of_lt (Nat.lt_of_lt_of_le f62.lt (Nat.le_of_eq g64.symm))
  have ne_b43_b64 : b43 ≠ b64 := Nat.ne_of_lt (Nat.lt_of_lt_of_le f63.lt (Nat.le_of_eq g64.symm))
  have ne_b59_b64 : b59 ≠ b64 := Nat.ne_of_lt (Nat.lt_of_lt_of_le V59.lt (Nat.le_of_eq g64.symm))
  have g_b64 : n0 ≤ b64 := Nat.le_trans Zn59 (Nat.le_of_eq g64.symm)
  have sz_b64 : h0.size ≤ b64 := Nat.le_trans KH59.1 (Nat.le_of_eq g64.symm)
  have KH64 : Keep h0 h64 [] := KH59.ext E64
  have Zn64 : n0 ≤ h64.size := Nat.le_trans Zn59 E64.1
  have V64 : Arv Z h64 b64 c64 .int (0 : Int32) [] (.int (0 : Int32)) := Arv.new A64 (by decide)
  have ks65 : own_R p e below (s₁.setTop (entryFrame m #[(.int p0), (.int p1), (.int p2), (.int p3)] maxLocals)) (T64.setTop (mkF m 141 #[.val (.int p0), .val (.int p1), .val (.int p2), .val (.int p3), .val (.int v2), .val (.int v4), .val (.int v6), .val (.int v9), .val (.int v15), .val (.int v21), .val (.ref b28), .val (.ref b43), .val (.ref b59), .unset, .unset, .unset, .unset, .unset, .unset, .unset, .unset] [(.ref b64)])) := fun t k => ks61 t (st64 t k)
  have ks66 : own_R p e below (s₁.setTop (entryFrame m #[(.int p0), (.int p1), (.int p2), (.int p3)] maxLocals)) (T64.setTop (mkF m 167 #[.val (.int p0), .val (.int p1), .val (.int p2), .val (.int p3), .val (.int v2), .val (.int v4), .val (.int v6), .val (.int v9), .val (.int v15), .val (.int v21), .val (.ref b28), .val (.ref b43), .val (.ref b59), .val (.ref b64), .val (.int ((v2 * v4) * v6)), .unset, .unset, .unset, .unset, .unset, .unset] [(.int ((((v9 * v4) + v15) * v6) + v21))])) := fun t k => ks65 t (by
    show Steps p.tables e below (T64.setTop (mkF m 141 #[.val (.int p0), .val (.int p1), .val (.int p2), .val (.int p3), .val (.int v2), .val (.int v4), .val (.int v6), .val (.int v9), .val (.int v15), .val (.int v21), .val (.ref b28), .val (.ref b43), .val (.ref b59), .unset, .unset, .unset, .unset, .unset, .unset, .unset, .unset] [(.ref b64)])) _
    refine XS.astore X64.here hx rfl (hb hby at_141) rfl rfl (l' := #[.val (.int p0), .val (.int p1), .val (.int p2), .val (.int p3), .val (.int v2), .val (.int v4), .val (.int v6), .val (.int v9), .val (.int v15), .val (.int v21), .val (.ref b28), .val (.ref b43), .val (.ref b59), .val (.ref b64), .unset, .unset, .unset, .unset, .unset, .unset, .unset]) rfl ?_
    show Steps p.tables e below (T64.setTop (mkF m 143 #[.val (.int p0), .val (.int p1), .val (.int p2), .val (.int p3), .val (.int v2), .val (.int v4), .val (.int v6), .val (.int v9), .val (.int v15), .val (.int v21), .val (.ref b28), .val (.ref b43), .val (.ref b59), .val (.ref b64), .unset, .unset, .unset, .unset, .unset, .unset, .unset] [])) _
    refine XS.iload X64.here hx rfl (hb hby at_143) rfl ?_
    show Steps p.tables e below (T64.setTop (mkF m 145 #[.val (.int p0), .val (.int p1), .val (.int p2), .val (.int p3), .val (.int v2), .val (.int v4), .val (.int v6), .val (.int v9), .val (.int v15), .val (.int v21), .val (.ref b28), .val (.ref b43), .val (.ref b59), .val (.ref b64), .unset, .unset, .unset, .unset, .unset, .unset, .unset] [(.int v2)])) _
    refine XS.iload X64.here hx rfl (hb hby at_145) rfl ?_
    show Steps p.tables e below (T64.setTop (mkF m 147 #[.val (.int p0), .val (.int p1), .val (.int p2), .val (.int p3), .val (.int v2), .val (.int v4), .val (.int v6), .val (.int v9), .val (.int v15), .val (.int v21), .val (.ref b28), .val (.ref b43), .val (.ref b59), .val (.ref b64), .unset, .unset, .unset, .unset, .unset, .unset, .unset] [(.int v4), (.int v2)])) _
    refine XS.imul X64.here hx rfl (hb hby at_147) rfl ?_
    show Steps p.tables e below (T64.setTop (mkF m 148 #[.val (.int p0), .val (.int p1), .val (.int p2), .val (.int p3), .val (.int v2), .val (.int v4), .val (.int v6), .val (.int v9), .val (.int v15), .val (.int v21), .val (.ref b28), .val (.ref b43), .val (.ref b59), .val (.ref b64), .unset, .unset, .unset, .unset, .unset, .unset, .unset] [(.int (v2 * v4))])) _
    refine XS.iload X64.here hx rfl (hb hby at_148) rfl ?_
    show Steps p.tables e below (T64.setTop (mkF m 150 #[.val (.int p0), .val (.int p1), .val (.int p2), .val (.int p3), .val (.int v2), .val (.int v4), .val (.int v6), .val (.int v9), .val (.int v15), .val (.int v21), .val (.ref b28), .val (.ref b43), .val (.ref b59), .val (.ref b64), .unset, .unset, .unset, .unset, .unset, .unset, .unset] [(.int v6), (.int (v2 * v4))])) _
    refine XS.imul X64.here hx rfl (hb hby at_150) rfl ?_
    show Steps p.tables e below (T64.setTop (mkF m 151 #[.val (.int p0), .val (.int p1), .val (.int p2), .val (.int p3), .val (.int v2), .val (.int v4), .val (.int v6), .val (.int v9), .val (.int v15), .val (.int v21), .val (.ref b28), .val (.ref b43), .val (.ref b59), .val (.ref b64), .unset, .unset, .unset, .unset, .unset, .unset, .unset] [(.int ((v2 * v4) * v6))])) _
    refine XS.istore X64.here hx rfl (hb hby at_151) rfl (l' := #[.val (.int p0), .val (.int p1), .val (.int p2), .val (.int p3), .val (.int v2), .val (.int v4), .val (.int v6), .val (.int v9), .val (.int v15), .val (.int v21), .val (.ref b28), .val (.ref b43), .val (.ref b59), .val (.ref b64), .val (.int ((v2 * v4) * v6)), .unset, .unset, .unset, .unset, .unset, .unset]) rfl ?_
    show Steps p.tables e below (T64.setTop (mkF m 153 #[.val (.int p0), .val (.int p1), .val (.int p2), .val (.int p3), .val (.int v2), .val (.int v4), .val (.int v6), .val (.int v9), .val (.int v15), .val (.int v21), .val (.ref b28), .val (.ref b43), .val (.ref b59), .val (.ref b64), .val (.int ((v2 * v4) * v6)), .unset, .unset, .unset, .unset, .unset, .unset] [])) _
    refine XS.iload X64.here hx rfl (hb hby at_153) rfl ?_
    show Steps p.tables e below (T64.setTop (mkF m 155 #[.val (.int p0), .val (.int p1), .val (.int p2), .val (.int p3), .val (.int v2), .val (.int v4), .val (.int v6), .val (.int v9), .val (.int v15), .val (.int v21), .val (.ref b28), .val (.ref b43), .val (.ref b59), .val (.ref b64), .val (.int ((v2 * v4) * v6)), .unset, .unset, .unset, .unset, .unset, .unset] [(.int v9)])) _
    refine XS.iload X64.here hx rfl (hb hby at_155) rfl ?_
    show Steps p.tables e below (T64.setTop (mkF m 157 #[.val (.int p0), .val (.int p1), .val (.int p2), .val (.int p3), .val (.int v2), .val (.int v4), .val (.int v6), .val (.int v9), .val (.int v15), .val (.int v21), .val (.ref b28), .val (.ref b43), .val (.ref b59), .val (.ref b64), .val (.int ((v2 * v4) * v6)), .unset, .unset, .unset, .unset, .unset, .unset] [(.int v4), (.int v9)])) _
    refine XS.imul X64.here hx rfl (hb hby at_157) rfl ?_
    show Steps p.tables e below (T64.setTop (mkF m 158 #[.val (.int p0), .val (.int p1), .val (.int p2), .val (.int p3), .val (.int v2), .val (.int v4), .val (.int v6), .val (.int v9), .val (.int v15), .val (.int v21), .val (.ref b28), .val (.ref b43), .val (.ref b59), .val (.ref b64), .val (.int ((v2 * v4) * v6)), .unset, .unset, .unset, .unset, .unset, .unset] [(.int (v9 * v4))])) _
    refine XS.iload X64.here hx rfl (hb hby at_158) rfl ?_
    show Steps p.tables e below (T64.setTop (mkF m 160 #[.val (.int p0), .val (.int p1), .val (.int p2), .val (.int p3), .val (.int v2), .val (.int v4), .val (.int v6), .val (.int v9), .val (.int v15), .val (.int v21), .val (.ref b28), .val (.ref b43), .val (.ref b59), .val (.ref b64), .val (.int ((v2 * v4) * v6)), .unset, .unset, .unset, .unset, .unset, .unset] [(.int v15), (.int (v9 * v4))])) _
    refine XS.iadd X64.here hx rfl (hb hby at_160) rfl ?_
    show Steps p.tables e below (T64.setTop (mkF m 161 #[.val (.int p0), .val (.int p1), .val (.int p2), .val (.int p3), .val (.int v2), .val (.int v4), .val (.int v6), .val (.int v9), .val (.int v15), .val (.int v21), .val (.ref b28), .val (.ref b43), .val (.ref b59), .val (.ref b64), .val (.int ((v2 * v4) * v6)), .unset, .unset, .unset, .unset, .unset, .unset] [(.int ((v9 * v4) + v15))])) _
    refine XS.iload X64.here hx rfl (hb hby at_161) rfl ?_
    show Steps p.tables e below (T64.setTop (mkF m 163 #[.val (.int p0), .val (.int p1), .val (.int p2), .val (.int p3), .val (.int v2), .val (.int v4), .val (.int v6), .val (.int v9), .val (.int v15), .val (.int v21), .val (.ref b28), .val (.ref b43), .val (.ref b59), .val (.ref b64), .val (.int ((v2 * v4) * v6)), .unset, .unset, .unset, .unset, .unset, .unset] [(.int v6), (.int ((v9 * v4) + v15))])) _
    refine XS.imul X64.here hx rfl (hb hby at_163) rfl ?_
    show Steps p.tables e below (T64.setTop (mkF m 164 #[.val (.int p0), .val (.int p1), .val (.int p2), .val (.int p3), .val (.int v2), .val (.int v4), .val (.int v6), .val (.int v9), .val (.int v15), .val (.int v21), .val (.ref b28), .val (.ref b43), .val (.ref b59), .val (.ref b64), .val (.int ((v2 * v4) * v6)), .unset, .unset, .unset, .unset, .unset, .unset] [(.int (((v9 * v4) + v15) * v6))])) _
    refine XS.iload X64.here hx rfl (hb hby at_164) rfl ?_
    show Steps p.tables e below (T64.setTop (mkF m 166 #[.val (.int p0), .val (.int p1), .val (.int p2), .val (.int p3), .val (.int v2), .val (.int v4), .val (.int v6), .val (.int v9), .val (.int v15), .val (.int v21), .val (.ref b28), .val (.ref b43), .val (.ref b59), .val (.ref b64), .val (.int ((v2 * v4) * v6)), .unset, .unset, .unset, .unset, .unset, .unset] [(.int v21), (.int (((v9 * v4) + v15) * v6))])) _
    refine XS.iadd X64.here hx rfl (hb hby at_166) rfl ?_
    exact k)
  obtain ⟨v67, hv67⟩ : ∃ z : Int32, z = ((((v9 * v4) + v15) * v6) + v21) := ⟨_, rfl⟩
  rw [← hv67] at ks66
  have ks68 : own_R p e below (s₁.setTop (entryFrame m #[(.int p0), (.int p1), (.int p2), (.int p3)] maxLocals)) (T64.setTop (mkF m 173 #[.val (.int p0), .val (.int p1), .val (.int p2), .val (.int p3), .val (.int v2), .val (.int v4), .val (.int v6), .val (.int v9), .val (.int v15), .val (.int v21), .val (.ref b28), .val (.ref b43), .val (.ref b59), .val (.ref b64), .val (.int ((v2 * v4) * v6)), .val (.int v67), .unset, .unset, .unset, .unset, .unset] [(.ref b28), (.ref b43)])) := fun t k => ks66 t (by
    show Steps p.tables e below (T64.setTop (mkF m 167 #[.val (.int p0), .val (.int p1), .val (.int p2), .val (.int p3), .val (.int v2), .val (.int v4), .val (.int v6), .val (.int v9), .val (.int v15), .val (.int v21), .val (.ref b28), .val (.ref b43), .val (.ref b59), .val (.ref b64), .val (.int ((v2 * v4) * v6)), .unset, .unset, .unset, .unset, .unset, .unset] [(.int v67)])) _
    refine XS.istore X64.here hx rfl (hb hby at_167) rfl (l' := #[.val (.int p0), .val (.int p1), .val (.int p2), .val (.int p3), .val (.int v2), .val (.int v4), .val (.int v6), .val (.int v9), .val (.int v15), .val (.int v21), .val (.ref b28), .val (.ref b43), .val (.ref b59), .val (.ref b64), .val (.int ((v2 * v4) * v6)), .val (.int v67), .unset, .unset, .unset, .unset, .unset]) rfl ?_
    show Steps p.tables e below (T64.setTop (mkF m 169 #[.val (.int p0), .val (.int p1), .val (.int p2), .val (.int p3), .val (.int v2), .val (.int v4), .val (.int v6), .val (.int v9), .val (.int v15), .val (.int v21), .val (.ref b28), .val (.ref b43), .val (.ref b59), .val (.ref b64), .val (.int ((v2 * v4) * v6)), .val (.int v67), .unset, .unset, .unset, .unset, .unset] [])) _
    refine XS.aload X64.here hx rfl (hb hby at_169) rfl rfl ?_
    show Steps p.tables e below (T64.setTop (mkF m 171 #[.val (.int p0), .val (.int p1), .val (.int p2), .val (.int p3), .val (.int v2), .val (.int v4), .val (.int v6), .val (.int v9), .val (.int v15), .val (.int v21), .val (.ref b28), .val (.ref b43), .val (.ref b59), .val (.ref b64), .val (.int ((v2 * v4) * v6)), .val (.int v67), .unset, .unset, .unset, .unset, .unset] [(.ref b43)])) _
    refine XS.aload X64.here hx rfl (hb hby at_171) rfl rfl ?_
    exact k)
  have f70 := (f63.ext E64)
  have f71 := (f62.ext E64)
  obtain ⟨_, _, ⟨T69, L69, k69, n69⟩, -, X69, ⟨Lc69, hQ69, lq69, yq69, zq69⟩, st69⟩ := Jvm.LawKit.callS X64 hx (y := (⟨"com/example/randomized_protocol_models/randomizedprotocolmodels/model/Combinations", "next", "([I[I)Z"⟩ : MethodName)) hown (mvT hZ (hw _ (List.mem_of_getElem? (i := 1) rfl))) (mvT hZ (hw _ (List.mem_of_getElem? (i := 2) rfl))) (mvT hZ (hw _ (List.mem_of_getElem? (i := 3) rfl))) (mvT hZ (hw _ (List.mem_of_getElem? (i := 4) rfl))) (by decide) (backOf (W := 0) (rm1 l Z a0 hw [] b43 b28 _ _ v9 v15 v21 v2 v4 v6 h64 n0 Zn64 (Ne.symm ne_b28_b43) g_b43 f70 f71) hZ (hw _ (List.mem_of_getElem? (i := 4) rfl)) (hw _ (List.mem_of_getElem? (i := 3) rfl)) (by decide) (by decide)) (g := (mkF m 173 #[.val (.int p0), .val (.int p1), .val (.int p2), .val (.int p3), .val (.int v2), .val (.int v4), .val (.int v6), .val (.int v9), .val (.int v15), .val (.int v21), .val (.ref b28), .val (.ref b43), .val (.ref b59), .val (.ref b64), .val (.int ((v2 * v4) * v6)), .val (.int v67), .unset, .unset, .unset, .unset, .unset] [(.ref b28), (.ref b43)])) rfl (by rw [hml]; rfl) (argsL := [(.ref b43), (.ref b28)]) (rest := []) (lenOf pd_0 rfl) rfl (by show 2 * 0 + _ ≤ _; exact Nat.le_of_eq rfl) (hb hby at_173) (fun _ _ => ⟨rfl, e64, (by decide : 4 + 0 ≤ _), (by decide : 6 + 0 ≤ _)⟩)
  dsimp only [Pt.U, Pt.locs, Pt.cells, Pt.slots] at X69 lq69 yq69 zq69 st69 hQ69
  subst lq69 yq69 zq69
  obtain ⟨rfl, Nq69, Kq69, Vx69⟩ := hQ69
  have N69 := Fr.app N55 Nq69
  have KH69 : Keep h0 T69.heap [] := KH64.trans Kq69 (allS (Or.inr sz_b43) all0)
  have Zn69 : n0 ≤ T69.heap.size := Nat.le_trans Zn64 Kq69.1
  obtain ⟨t69, ht69⟩ : ∃ z : Int32, z = (own_nx v9 v15 v21 v2 v4 v6) := ⟨_, rfl⟩
  rw [← ht69] at st69
  obtain ⟨ja69, hja69⟩ : ∃ z : Int32, z = (own_j0 v9 v15 v21 v2 v4 v6) := ⟨_, rfl⟩
  rw [← hja69] at Vx69
  obtain ⟨jb69, hjb69⟩ : ∃ z : Int32, z = (own_j1 v9 v15 v21 v2 v4 v6) := ⟨_, rfl⟩
  rw [← hjb69] at Vx69
  obtain ⟨jc69, hjc69⟩ : ∃ z : Int32, z = (own_j2 v9 v15 v21 v2 v4 v6) := ⟨_, rfl⟩
  rw [← hjc69] at Vx69
  have ks72 : own_R p e below (s₁.setTop (entryFrame m #[(.int p0), (.int p1), (.int p2), (.int p3)] maxLocals)) (T69.setTop (mkF m 176 #[.val (.int p0), .val (.int p1), .val (.int p2), .val (.int p3), .val (.int v2), .val (.int v4), .val (.int v6), .val (.int v9), .val (.int v15), .val (.int v21), .val (.ref b28), .val (.ref b43), .val (.ref b59), .val (.ref b64), .val (.int ((v2 * v4) * v6)), .val (.int v67), .unset, .unset, .unset, .unset, .unset] [(.int t69)])) := fun t k => ks68 t (st69 t k)
  have ks73 : own_R p e below (s₁.setTop (entryFrame m #[(.int p0), (.int p1), (.int p2), (.int p3)] maxLocals)) (T69.setTop (mkF m 182 #[.val (.int p0), .val (.int p1), .val (.int p2), .val (.int p3), .val (.int v2), .val (.int v4), .val (.int v6), .val (.int v9), .val (.int v15), .val (.int v21), .val (.ref b28), .val (.ref b43), .val (.ref b59), .val (.ref b64), .val (.int ((v2 * v4) * v6)), .val (.int v67), .val (.int t69), .unset, .unset, .unset, .unset] [(.ref b64), (.ref b59)])) := fun t k => ks72 t (by
    show Steps p.tables e below (T69.setTop (mkF m 176 #[.val (.int p0), .val (.int p1), .val (.int p2), .val (.int p3), .val (.int v2), .val (.int v4), .val (.int v6), .val (.int v9), .val (.int v15), .val (.int v21), .val (.ref b28), .val (.ref b43), .val (.ref b59), .val (.ref b64), .val (.int ((v2 * v4) * v6)), .val (.int v67), .unset, .unset, .unset, .unset, .unset] [(.int t69)])) _
    refine XS.istore X69.here hx rfl (hb hby at_176) rfl (l' := #[.val (.int p0), .val (.int p1), .val (.int p2), .val (.int p3), .val (.int v2), .val (.int v4), .val (.int v6), .val (.int v9), .val (.int v15), .val (.int v21), .val (.ref b28), .val (.ref b43), .val (.ref b59), .val (.ref b64), .val (.int ((v2 * v4) * v6)), .val (.int v67), .val (.int t69), .unset, .unset, .unset, .unset]) rfl ?_
    show Steps p.tables e below (T69.setTop (mkF m 178 #[.val (.int p0), .val (.int p1), .val (.int p2), .val (.int p3), .val (.int v2), .val (.int v4), .val (.int v6), .val (.int v9), .val (.int v15), .val (.int v21), .val (.ref b28), .val (.ref b43), .val (.ref b59), .val (.ref b64), .val (.int ((v2 * v4) * v6)), .val (.int v67), .val (.int t69), .unset, .unset, .unset, .unset] [])) _
    refine XS.aload X69.here hx rfl (hb hby at_178) rfl rfl ?_
    show Steps p.tables e below (T69.setTop (mkF m 180 #[.val (.int p0), .val (.int p1), .val (.int p2), .val (.int p3), .val (.int v2), .val (.int v4), .val (.int v6), .val (.int v9), .val (.int v15), .val (.int v21), .val (.ref b28), .val (.ref b43), .val (.ref b59), .val (.ref b64), .val (.int ((v2 * v4) * v6)), .val (.int v67), .val (.int t69), .unset, .unset, .unset, .unset] [(.ref b59)])) _
    refine XS.aload X69.here hx rfl (hb hby at_180) rfl rfl ?_
    exact k)
  have f75 := ((V59.ext E64).keep Kq69 (ninS (Ne.symm ne_b43_b59) nin0))
  obtain ⟨_, _, ⟨T74, L74, k74, n74⟩, -, X74, ⟨Lc74, hQ74, lq74, yq74, zq74⟩, st74⟩ := Jvm.LawKit.callS X69 hx (y := (⟨"com/example/randomized_protocol_models/randomizedprotocolmodels/model/Combinations", "next", "([I[I)Z"⟩ : MethodName)) hown (mvT hZ (hw _ (List.mem_of_getElem? (i := 1) rfl))) (mvT hZ (hw _ (List.mem_of_getElem? (i := 2) rfl))) (mvT hZ (hw _ (List.mem_of_getElem? (i := 3) rfl))) (mvT hZ (hw _ (List.mem_of_getElem? (i := 4) rfl))) (by decide) (backOf (W := 0) (rm1e l Z a0 hw [] b59 b64 _ T69.heap n0 Zn69 f75) hZ (hw _ (List.mem_of_getElem? (i := 4) rfl)) (hw _ (List.mem_of_getElem? (i := 3) rfl)) (by decide) (by decide)) (g := (mkF m 182 #[.val (.int p0), .val (.int p1), .val (.int p2), .val (.int p3), .val (.int v2), .val (.int v4), .val (.int v6), .val (.int v9), .val (.int v15), .val (.int v21), .val (.ref b28), .val (.ref b43), .val (.ref b59), .val (.ref b64), .val (.int ((v2 * v4) * v6)), .val (.int v67), .val (.int t69), .unset, .unset, .unset, .unset] [(.ref b64), (.ref b59)])) rfl (by rw [hml]; rfl) (argsL := [(.ref b59), (.ref b64)]) (rest := []) (lenOf pd_0 rfl) rfl (by show 2 * 0 + _ ≤ _; exact Nat.le_of_eq rfl) (hb hby at_182) (fun _ _ => ⟨rfl, rfl, (by decide : 4 + 0 ≤ _), (by decide : 6 + 0 ≤ _)⟩)
  dsimp only [Pt.U, Pt.locs, Pt.cells, Pt.slots] at X74 lq74 yq74 zq74 st74 hQ74
  subst lq74 yq74 zq74
  obtain ⟨rfl, Nq74, eq74⟩ := hQ74
  have N74 := Fr.app N69 Nq74
  have ks76 : own_R p e below (s₁.setTop (entryFrame m #[(.int p0), (.int p1), (.int p2), (.int p3)] maxLocals)) (T74.setTop (mkF m 185 #[.val (.int p0), .val (.int p1), .val (.int p2), .val (.int p3), .val (.int v2), .val (.int v4), .val (.int v6), .val (.int v9), .val (.int v15), .val (.int v21), .val (.ref b28), .val (.ref b43), .val (.ref b59), .val (.ref b64), .val (.int ((v2 * v4) * v6)), .val (.int v67), .val (.int t69), .unset, .unset, .unset, .unset] [(.int (0 : Int32))])) := fun t k => ks73 t (st74 t k)
  have ks77 : own_R p e below (s₁.setTop (entryFrame m #[(.int p0), (.int p1), (.int p2), (.int p3)] maxLocals)) (T74.setTop (mkF m 187 #[.val (.int p0), .val (.int p1), .val (.int p2), .val (.int p3), .val (.int v2), .val (.int v4), .val (.int v6), .val (.int v9), .val (.int v15), .val (.int v21), .val (.ref b28), .val (.ref b43), .val (.ref b59), .val (.ref b64), .val (.int ((v2 * v4) * v6)), .val (.int v67), .val (.int t69), .val (.int (0 : Int32)), .unset, .unset, .unset] [])) := fun t k => ks76 t (by
    show Steps p.tables e below (T74.setTop (mkF m 185 #[.val (.int p0), .val (.int p1), .val (.int p2), .val (.int p3), .val (.int v2), .val (.int v4), .val (.int v6), .val (.int v9), .val (.int v15), .val (.int v21), .val (.ref b28), .val (.ref b43), .val (.ref b59), .val (.ref b64), .val (.int ((v2 * v4) * v6)), .val (.int v67), .val (.int t69), .unset, .unset, .unset, .unset] [(.int (0 : Int32))])) _
    refine XS.istore X74.here hx rfl (hb hby at_185) rfl (l' := #[.val (.int p0), .val (.int p1), .val (.int p2), .val (.int p3), .val (.int v2), .val (.int v4), .val (.int v6), .val (.int v9), .val (.int v15), .val (.int v21), .val (.ref b28), .val (.ref b43), .val (.ref b59), .val (.ref b64), .val (.int ((v2 * v4) * v6)), .val (.int v67), .val (.int t69), .val (.int (0 : Int32)), .unset, .unset, .unset]) rfl ?_
    exact k)
  have nx := own_next v2 v4 v6 v9 v15 v21 ok7 ok8 ok9
  rw [← hja69, ← hjb69, ← hjc69, ← ht69] at nx
  obtain ⟨okj0, okj1, okj2, nx⟩ := nx
  have lo0 : ¬ ja69 < (0 : Int32) := by rw [Int32.lt_iff_toInt_lt]; exact Int.not_lt.mpr okj0.1
  have hi0 : ja69 < v2 := Int32.lt_iff_toInt_lt.mpr okj0.2.1
  have lo1 : ¬ jb69 < (0 : Int32) := by rw [Int32.lt_iff_toInt_lt]; exact Int.not_lt.mpr okj1.1
  have hi1 : jb69 < v4 := Int32.lt_iff_toInt_lt.mpr okj1.2.1
  have lo2 : ¬ jc69 < (0 : Int32) := by rw [Int32.lt_iff_toInt_lt]; exact Int.not_lt.mpr okj2.1
  have hi2 : jc69 < v6 := Int32.lt_iff_toInt_lt.mpr okj2.2.1
  have nb := own_num v2 v4 v6 v9 v15 v21 ok7 ok8 ok9
  have nj := own_num v2 v4 v6 ja69 jb69 jc69 okj0 okj1 okj2
  have ks78 : own_R p e below (s₁.setTop (entryFrame m #[(.int p0), (.int p1), (.int p2), (.int p3)] maxLocals)) (T74.setTop (mkF m 190 #[.val (.int p0), .val (.int p1), .val (.int p2), .val (.int p3), .val (.int v2), .val (.int v4), .val (.int v6), .val (.int v9), .val (.int v15), .val (.int v21), .val (.ref b28), .val (.ref b43), .val (.ref b59), .val (.ref b64), .val (.int ((v2 * v4) * v6)), .val (.int v67), .val (.int t69), .val (.int (0 : Int32)), .unset, .unset, .unset] [(.int (0 : Int32)), (.ref b28)])) := fun t k => ks77 t (by
    show Steps p.tables e below (T74.setTop (mkF m 187 #[.val (.int p0), .val (.int p1), .val (.int p2), .val (.int p3), .val (.int v2), .val (.int v4), .val (.int v6), .val (.int v9), .val (.int v15), .val (.int v21), .val (.ref b28), .val (.ref b43), .val (.ref b59), .val (.ref b64), .val (.int ((v2 * v4) * v6)), .val (.int v67), .val (.int t69), .val (.int (0 : Int32)), .unset, .unset, .unset] [])) _
    refine XS.aload X74.here hx rfl (hb hby at_187) rfl rfl ?_
    show Steps p.tables e below (T74.setTop (mkF m 189 #[.val (.int p0), .val (.int p1), .val (.int p2), .val (.int p3), .val (.int v2), .val (.int v4), .val (.int v6), .val (.int v9), .val (.int v15), .val (.int v21), .val (.ref b28), .val (.ref b43), .val (.ref b59), .val (.ref b64), .val (.int ((v2 * v4) * v6)), .val (.int v67), .val (.int t69), .val (.int (0 : Int32)), .unset, .unset, .unset] [(.ref b28)])) _
    refine XS.iconst X74.here hx rfl (hb hby at_189) ?_
    exact k)
  have f79 := (f71.keep Kq69 (ninS ne_b28_b43 nin0))
  obtain ⟨cl80, Ar80, qa80, S80, Na80, Ha80, Ga80⟩ := id f79
  have ks81 : own_R p e below (s₁.setTop (entryFrame m #[(.int p0), (.int p1), (.int p2), (.int p3)] maxLocals)) (T74.setTop (mkF m 219 #[.val (.int p0), .val (.int p1), .val (.int p2), .val (.int p3), .val (.int v2), .val (.int v4), .val (.int v6), .val (.int v9), .val (.int v15), .val (.int v21), .val (.ref b28), .val (.ref b43), .val (.ref b59), .val (.ref b64), .val (.int ((v2 * v4) * v6)), .val (.int v67), .val (.int t69), .val (.int (0 : Int32)), .unset, .unset, .unset] [(.int (0 : Int32)), (.ref b43)])) := fun t k => ks78 t (by
    show Steps p.tables e below (T74.setTop (mkF m 190 #[.val (.int p0), .val (.int p1), .val (.int p2), .val (.int p3), .val (.int v2), .val (.int v4), .val (.int v6), .val (.int v9), .val (.int v15), .val (.int v21), .val (.ref b28), .val (.ref b43), .val (.ref b59), .val (.ref b64), .val (.int ((v2 * v4) * v6)), .val (.int v67), .val (.int t69), .val (.int (0 : Int32)), .unset, .unset, .unset] [(.int (0 : Int32)), (.ref b28)])) _
    refine X74.iaload hx (j := (0 : Int32)) (v := (.int v2)) (by rw [eq74]; exact Ar80.1) (State.isArrayOf_alike hZ.alike Ar80.2.1) Ar80.2.2 (inb_of S80 ⟨by decide, by decide⟩) (Has.at Ha80 (inb_of S80 ⟨by decide, by decide⟩) rfl) (g := (mkF m 190 #[.val (.int p0), .val (.int p1), .val (.int p2), .val (.int p3), .val (.int v2), .val (.int v4), .val (.int v6), .val (.int v9), .val (.int v15), .val (.int v21), .val (.ref b28), .val (.ref b43), .val (.ref b59), .val (.ref b64), .val (.int ((v2 * v4) * v6)), .val (.int v67), .val (.int t69), .val (.int (0 : Int32)), .unset, .unset, .unset] [(.int (0 : Int32)), (.ref b28)])) rfl rfl (hb hby at_190) _ ?_
    show Steps p.tables e below (T74.setTop (mkF m 191 #[.val (.int p0), .val (.int p1), .val (.int p2), .val (.int p3), .val (.int v2), .val (.int v4), .val (.int v6), .val (.int v9), .val (.int v15), .val (.int v21), .val (.ref b28), .val (.ref b43), .val (.ref b59), .val (.ref b64), .val (.int ((v2 * v4) * v6)), .val (.int v67), .val (.int t69), .val (.int (0 : Int32)), .unset, .unset, .unset] [(.int v2)])) _
    refine XS.iload X74.here hx rfl (hb hby at_191) rfl ?_
    show Steps p.tables e below (T74.setTop (mkF m 193 #[.val (.int p0), .val (.int p1), .val (.int p2), .val (.int p3), .val (.int v2), .val (.int v4), .val (.int v6), .val (.int v9), .val (.int v15), .val (.int v21), .val (.ref b28), .val (.ref b43), .val (.ref b59), .val (.ref b64), .val (.int ((v2 * v4) * v6)), .val (.int v67), .val (.int t69), .val (.int (0 : Int32)), .unset, .unset, .unset] [(.int v2), (.int v2)])) _
    refine XS.icmpNo X74.here hx rfl (hb hby at_193) rfl (teq rfl).2 ?_
    show Steps p.tables e below (T74.setTop (mkF m 196 #[.val (.int p0), .val (.int p1), .val (.int p2), .val (.int p3), .val (.int v2), .val (.int v4), .val (.int v6), .val (.int v9), .val (.int v15), .val (.int v21), .val (.ref b28), .val (.ref b43), .val (.ref b59), .val (.ref b64), .val (.int ((v2 * v4) * v6)), .val (.int v67), .val (.int t69), .val (.int (0 : Int32)), .unset, .unset, .unset] [])) _
    refine XS.aload X74.here hx rfl (hb hby at_196) rfl rfl ?_
    show Steps p.tables e below (T74.setTop (mkF m 198 #[.val (.int p0), .val (.int p1), .val (.int p2), .val (.int p3), .val (.int v2), .val (.int v4), .val (.int v6), .val (.int v9), .val (.int v15), .val (.int v21), .val (.ref b28), .val (.ref b43), .val (.ref b59), .val (.ref b64), .val (.int ((v2 * v4) * v6)), .val (.int v67), .val (.int t69), .val (.int (0 : Int32)), .unset, .unset, .unset] [(.ref b28)])) _
    refine XS.iconst X74.here hx rfl (hb hby at_198) ?_
    show Steps p.tables e below (T74.setTop (mkF m 199 #[.val (.int p0), .val (.int p1), .val (.int p2), .val (.int p3), .val (.int v2), .val (.int v4), .val (.int v6), .val (.int v9), .val (.int v15), .val (.int v21), .val (.ref b28), .val (.ref b43), .val (.ref b59), .val (.ref b64), .val (.int ((v2 * v4) * v6)), .val (.int v67), .val (.int t69), .val (.int (0 : Int32)), .unset, .unset, .unset] [(.int (1 : Int32)), (.ref b28)])) _
    refine X74.iaload hx (j := (1 : Int32)) (v := (.int v4)) (by rw [eq74]; exact Ar80.1) (State.isArrayOf_alike hZ.alike Ar80.2.1) Ar80.2.2 (inb_of S80 ⟨by decide, by decide⟩) (Has.at Ha80 (inb_of S80 ⟨by decide, by decide⟩) rfl) (g := (mkF m 199 #[.val (.int p0), .val (.int p1), .val (.int p2), .val (.int p3), .val (.int v2), .val (.int v4), .val (.int v6), .val (.int v9), .val (.int v15), .val (.int v21), .val (.ref b28), .val (.ref b43), .val (.ref b59), .val (.ref b64), .val (.int ((v2 * v4) * v6)), .val (.int v67), .val (.int t69), .val (.int (0 : Int32)), .unset, .unset, .unset] [(.int (1 : Int32)), (.ref b28)])) rfl rfl (hb hby at_199) _ ?_
    show Steps p.tables e below (T74.setTop (mkF m 200 #[.val (.int p0), .val (.int p1), .val (.int p2), .val (.int p3), .val (.int v2), .val (.int v4), .val (.int v6), .val (.int v9), .val (.int v15), .val (.int v21), .val (.ref b28), .val (.ref b43), .val (.ref b59), .val (.ref b64), .val (.int ((v2 * v4) * v6)), .val (.int v67), .val (.int t69), .val (.int (0 : Int32)), .unset, .unset, .unset] [(.int v4)])) _
    refine XS.iload X74.here hx rfl (hb hby at_200) rfl ?_
    show Steps p.tables e below (T74.setTop (mkF m 202 #[.val (.int p0), .val (.int p1), .val (.int p2), .val (.int p3), .val (.int v2), .val (.int v4), .val (.int v6), .val (.int v9), .val (.int v15), .val (.int v21), .val (.ref b28), .val (.ref b43), .val (.ref b59), .val (.ref b64), .val (.int ((v2 * v4) * v6)), .val (.int v67), .val (.int t69), .val (.int (0 : Int32)), .unset, .unset, .unset] [(.int v4), (.int v4)])) _
    refine XS.icmpNo X74.here hx rfl (hb hby at_202) rfl (teq rfl).2 ?_
    show Steps p.tables e below (T74.setTop (mkF m 205 #[.val (.int p0), .val (.int p1), .val (.int p2), .val (.int p3), .val (.int v2), .val (.int v4), .val (.int v6), .val (.int v9), .val (.int v15), .val (.int v21), .val (.ref b28), .val (.ref b43), .val (.ref b59), .val (.ref b64), .val (.int ((v2 * v4) * v6)), .val (.int v67), .val (.int t69), .val (.int (0 : Int32)), .unset, .unset, .unset] [])) _
    refine XS.aload X74.here hx rfl (hb hby at_205) rfl rfl ?_
    show Steps p.tables e below (T74.setTop (mkF m 207 #[.val (.int p0), .val (.int p1), .val (.int p2), .val (.int p3), .val (.int v2), .val (.int v4), .val (.int v6), .val (.int v9), .val (.int v15), .val (.int v21), .val (.ref b28), .val (.ref b43), .val (.ref b59), .val (.ref b64), .val (.int ((v2 * v4) * v6)), .val (.int v67), .val (.int t69), .val (.int (0 : Int32)), .unset, .unset, .unset] [(.ref b28)])) _
    refine XS.iconst X74.here hx rfl (hb hby at_207) ?_
    show Steps p.tables e below (T74.setTop (mkF m 208 #[.val (.int p0), .val (.int p1), .val (.int p2), .val (.int p3), .val (.int v2), .val (.int v4), .val (.int v6), .val (.int v9), .val (.int v15), .val (.int v21), .val (.ref b28), .val (.ref b43), .val (.ref b59), .val (.ref b64), .val (.int ((v2 * v4) * v6)), .val (.int v67), .val (.int t69), .val (.int (0 : Int32)), .unset, .unset, .unset] [(.int (2 : Int32)), (.ref b28)])) _
    refine X74.iaload hx (j := (2 : Int32)) (v := (.int v6)) (by rw [eq74]; exact Ar80.1) (State.isArrayOf_alike hZ.alike Ar80.2.1) Ar80.2.2 (inb_of S80 ⟨by decide, by decide⟩) (Has.at Ha80 (inb_of S80 ⟨by decide, by decide⟩) rfl) (g := (mkF m 208 #[.val (.int p0), .val (.int p1), .val (.int p2), .val (.int p3), .val (.int v2), .val (.int v4), .val (.int v6), .val (.int v9), .val (.int v15), .val (.int v21), .val (.ref b28), .val (.ref b43), .val (.ref b59), .val (.ref b64), .val (.int ((v2 * v4) * v6)), .val (.int v67), .val (.int t69), .val (.int (0 : Int32)), .unset, .unset, .unset] [(.int (2 : Int32)), (.ref b28)])) rfl rfl (hb hby at_208) _ ?_
    show Steps p.tables e below (T74.setTop (mkF m 209 #[.val (.int p0), .val (.int p1), .val (.int p2), .val (.int p3), .val (.int v2), .val (.int v4), .val (.int v6), .val (.int v9), .val (.int v15), .val (.int v21), .val (.ref b28), .val (.ref b43), .val (.ref b59), .val (.ref b64), .val (.int ((v2 * v4) * v6)), .val (.int v67), .val (.int t69), .val (.int (0 : Int32)), .unset, .unset, .unset] [(.int v6)])) _
    refine XS.iload X74.here hx rfl (hb hby at_209) rfl ?_
    show Steps p.tables e below (T74.setTop (mkF m 211 #[.val (.int p0), .val (.int p1), .val (.int p2), .val (.int p3), .val (.int v2), .val (.int v4), .val (.int v6), .val (.int v9), .val (.int v15), .val (.int v21), .val (.ref b28), .val (.ref b43), .val (.ref b59), .val (.ref b64), .val (.int ((v2 * v4) * v6)), .val (.int v67), .val (.int t69), .val (.int (0 : Int32)), .unset, .unset, .unset] [(.int v6), (.int v6)])) _
    refine XS.icmpYes X74.here hx rfl (pc0 := 211) (pc' := 216) rfl (hb hby at_211) rfl (teq rfl).1 (by decide) (by decide) ?_
    show Steps p.tables e below (T74.setTop (mkF m 216 #[.val (.int p0), .val (.int p1), .val (.int p2), .val (.int p3), .val (.int v2), .val (.int v4), .val (.int v6), .val (.int v9), .val (.int v15), .val (.int v21), .val (.ref b28), .val (.ref b43), .val (.ref b59), .val (.ref b64), .val (.int ((v2 * v4) * v6)), .val (.int v67), .val (.int t69), .val (.int (0 : Int32)), .unset, .unset, .unset] [])) _
    refine XS.aload X74.here hx rfl (hb hby at_216) rfl rfl ?_
    show Steps p.tables e below (T74.setTop (mkF m 218 #[.val (.int p0), .val (.int p1), .val (.int p2), .val (.int p3), .val (.int v2), .val (.int v4), .val (.int v6), .val (.int v9), .val (.int v15), .val (.int v21), .val (.ref b28), .val (.ref b43), .val (.ref b59), .val (.ref b64), .val (.int ((v2 * v4) * v6)), .val (.int v67), .val (.int t69), .val (.int (0 : Int32)), .unset, .unset, .unset] [(.ref b43)])) _
    refine XS.iconst X74.here hx rfl (hb hby at_218) ?_
    exact k)
  obtain ⟨cl82, Ar82, qa82, S82, Na82, Ha82, Ga82⟩ := id Vx69
  have ks83 : own_R p e below (s₁.setTop (entryFrame m #[(.int p0), (.int p1), (.int p2), (.int p3)] maxLocals)) (T74.setTop (mkF m 286 #[.val (.int p0), .val (.int p1), .val (.int p2), .val (.int p3), .val (.int v2), .val (.int v4), .val (.int v6), .val (.int v9), .val (.int v15), .val (.int v21), .val (.ref b28), .val (.ref b43), .val (.ref b59), .val (.ref b64), .val (.int ((v2 * v4) * v6)), .val (.int v67), .val (.int t69), .val (.int (0 : Int32)), .unset, .unset, .unset] [(.int ((((ja69 * v4) + jb69) * v6) + jc69))])) := fun t k => ks81 t (by
    show Steps p.tables e below (T74.setTop (mkF m 219 #[.val (.int p0), .val (.int p1), .val (.int p2), .val (.int p3), .val (.int v2), .val (.int v4), .val (.int v6), .val (.int v9), .val (.int v15), .val (.int v21), .val (.ref b28), .val (.ref b43), .val (.ref b59), .val (.ref b64), .val (.int ((v2 * v4) * v6)), .val (.int v67), .val (.int t69), .val (.int (0 : Int32)), .unset, .unset, .unset] [(.int (0 : Int32)), (.ref b43)])) _
    refine X74.iaload hx (j := (0 : Int32)) (v := (.int ja69)) (by rw [eq74]; exact Ar82.1) (State.isArrayOf_alike hZ.alike Ar82.2.1) Ar82.2.2 (inb_of S82 ⟨by decide, by decide⟩) (Has.at Ha82 (inb_of S82 ⟨by decide, by decide⟩) rfl) (g := (mkF m 219 #[.val (.int p0), .val (.int p1), .val (.int p2), .val (.int p3), .val (.int v2), .val (.int v4), .val (.int v6), .val (.int v9), .val (.int v15), .val (.int v21), .val (.ref b28), .val (.ref b43), .val (.ref b59), .val (.ref b64), .val (.int ((v2 * v4) * v6)), .val (.int v67), .val (.int t69), .val (.int (0 : Int32)), .unset, .unset, .unset] [(.int (0 : Int32)), (.ref b43)])) rfl rfl (hb hby at_219) _ ?_
    show Steps p.tables e below (T74.setTop (mkF m 220 #[.val (.int p0), .val (.int p1), .val (.int p2), .val (.int p3), .val (.int v2), .val (.int v4), .val (.int v6), .val (.int v9), .val (.int v15), .val (.int v21), .val (.ref b28), .val (.ref b43), .val (.ref b59), .val (.ref b64), .val (.int ((v2 * v4) * v6)), .val (.int v67), .val (.int t69), .val (.int (0 : Int32)), .unset, .unset, .unset] [(.int ja69)])) _
    refine XS.ifNo X74.here hx rfl (hb hby at_220) rfl ((if0 _ _).trans (flt lo0).1) ?_
    show Steps p.tables e below (T74.setTop (mkF m 223 #[.val (.int p0), .val (.int p1), .val (.int p2), .val (.int p3), .val (.int v2), .val (.int v4), .val (.int v6), .val (.int v9), .val (.int v15), .val (.int v21), .val (.ref b28), .val (.ref b43), .val (.ref b59), .val (.ref b64), .val (.int ((v2 * v4) * v6)), .val (.int v67), .val (.int t69), .val (.int (0 : Int32)), .unset, .unset, .unset] [])) _
    refine XS.aload X74.here hx rfl (hb hby at_223) rfl rfl ?_
    show Steps p.tables e below (T74.setTop (mkF m 225 #[.val (.int p0), .val (.int p1), .val (.int p2), .val (.int p3), .val (.int v2), .val (.int v4), .val (.int v6), .val (.int v9), .val (.int v15), .val (.int v21), .val (.ref b28), .val (.ref b43), .val (.ref b59), .val (.ref b64), .val (.int ((v2 * v4) * v6)), .val (.int v67), .val (.int t69), .val (.int (0 : Int32)), .unset, .unset, .unset] [(.ref b43)])) _
    refine XS.iconst X74.here hx rfl (hb hby at_225) ?_
    show Steps p.tables e below (T74.setTop (mkF m 226 #[.val (.int p0), .val (.int p1), .val (.int p2), .val (.int p3), .val (.int v2), .val (.int v4), .val (.int v6), .val (.int v9), .val (.int v15), .val (.int v21), .val (.ref b28), .val (.ref b43), .val (.ref b59), .val (.ref b64), .val (.int ((v2 * v4) * v6)), .val (.int v67), .val (.int t69), .val (.int (0 : Int32)), .unset, .unset, .unset] [(.int (0 : Int32)), (.ref b43)])) _
    refine X74.iaload hx (j := (0 : Int32)) (v := (.int ja69)) (by rw [eq74]; exact Ar82.1) (State.isArrayOf_alike hZ.alike Ar82.2.1) Ar82.2.2 (inb_of S82 ⟨by decide, by decide⟩) (Has.at Ha82 (inb_of S82 ⟨by decide, by decide⟩) rfl) (g := (mkF m 226 #[.val (.int p0), .val (.int p1), .val (.int p2), .val (.int p3), .val (.int v2), .val (.int v4), .val (.int v6), .val (.int v9), .val (.int v15), .val (.int v21), .val (.ref b28), .val (.ref b43), .val (.ref b59), .val (.ref b64), .val (.int ((v2 * v4) * v6)), .val (.int v67), .val (.int t69), .val (.int (0 : Int32)), .unset, .unset, .unset] [(.int (0 : Int32)), (.ref b43)])) rfl rfl (hb hby at_226) _ ?_
    show Steps p.tables e below (T74.setTop (mkF m 227 #[.val (.int p0), .val (.int p1), .val (.int p2), .val (.int p3), .val (.int v2), .val (.int v4), .val (.int v6), .val (.int v9), .val (.int v15), .val (.int v21), .val (.ref b28), .val (.ref b43), .val (.ref b59), .val (.ref b64), .val (.int ((v2 * v4) * v6)), .val (.int v67), .val (.int t69), .val (.int (0 : Int32)), .unset, .unset, .unset] [(.int ja69)])) _
    refine XS.iload X74.here hx rfl (hb hby at_227) rfl ?_
    show Steps p.tables e below (T74.setTop (mkF m 229 #[.val (.int p0), .val (.int p1), .val (.int p2), .val (.int p3), .val (.int v2), .val (.int v4), .val (.int v6), .val (.int v9), .val (.int v15), .val (.int v21), .val (.ref b28), .val (.ref b43), .val (.ref b59), .val (.ref b64), .val (.int ((v2 * v4) * v6)), .val (.int v67), .val (.int t69), .val (.int (0 : Int32)), .unset, .unset, .unset] [(.int v2), (.int ja69)])) _
    refine XS.icmpNo X74.here hx rfl (hb hby at_229) rfl (tlt hi0).2.1 ?_
    show Steps p.tables e below (T74.setTop (mkF m 232 #[.val (.int p0), .val (.int p1), .val (.int p2), .val (.int p3), .val (.int v2), .val (.int v4), .val (.int v6), .val (.int v9), .val (.int v15), .val (.int v21), .val (.ref b28), .val (.ref b43), .val (.ref b59), .val (.ref b64), .val (.int ((v2 * v4) * v6)), .val (.int v67), .val (.int t69), .val (.int (0 : Int32)), .unset, .unset, .unset] [])) _
    refine XS.aload X74.here hx rfl (hb hby at_232) rfl rfl ?_
    show Steps p.tables e below (T74.setTop (mkF m 234 #[.val (.int p0), .val (.int p1), .val (.int p2), .val (.int p3), .val (.int v2), .val (.int v4), .val (.int v6), .val (.int v9), .val (.int v15), .val (.int v21), .val (.ref b28), .val (.ref b43), .val (.ref b59), .val (.ref b64), .val (.int ((v2 * v4) * v6)), .val (.int v67), .val (.int t69), .val (.int (0 : Int32)), .unset, .unset, .unset] [(.ref b43)])) _
    refine XS.iconst X74.here hx rfl (hb hby at_234) ?_
    show Steps p.tables e below (T74.setTop (mkF m 235 #[.val (.int p0), .val (.int p1), .val (.int p2), .val (.int p3), .val (.int v2), .val (.int v4), .val (.int v6), .val (.int v9), .val (.int v15), .val (.int v21), .val (.ref b28), .val (.ref b43), .val (.ref b59), .val (.ref b64), .val (.int ((v2 * v4) * v6)), .val (.int v67), .val (.int t69), .val (.int (0 : Int32)), .unset, .unset, .unset] [(.int (1 : Int32)), (.ref b43)])) _
    refine X74.iaload hx (j := (1 : Int32)) (v := (.int jb69)) (by rw [eq74]; exact Ar82.1) (State.isArrayOf_alike hZ.alike Ar82.2.1) Ar82.2.2 (inb_of S82 ⟨by decide, by decide⟩) (Has.at Ha82 (inb_of S82 ⟨by decide, by decide⟩) rfl) (g := (mkF m 235 #[.val (.int p0), .val (.int p1), .val (.int p2), .val (.int p3), .val (.int v2), .val (.int v4), .val (.int v6), .val (.int v9), .val (.int v15), .val (.int v21), .val (.ref b28), .val (.ref b43), .val (.ref b59), .val (.ref b64), .val (.int ((v2 * v4) * v6)), .val (.int v67), .val (.int t69), .val (.int (0 : Int32)), .unset, .unset, .unset] [(.int (1 : Int32)), (.ref b43)])) rfl rfl (hb hby at_235) _ ?_
    show Steps p.tables e below (T74.setTop (mkF m 236 #[.val (.int p0), .val (.int p1), .val (.int p2), .val (.int p3), .val (.int v2), .val (.int v4), .val (.int v6), .val (.int v9), .val (.int v15), .val (.int v21), .val (.ref b28), .val (.ref b43), .val (.ref b59), .val (.ref b64), .val (.int ((v2 * v4) * v6)), .val (.int v67), .val (.int t69), .val (.int (0 : Int32)), .unset, .unset, .unset] [(.int jb69)])) _
    refine XS.ifNo X74.here hx rfl (hb hby at_236) rfl ((if0 _ _).trans (flt lo1).1) ?_
    show Steps p.tables e below (T74.setTop (mkF m 239 #[.val (.int p0), .val (.int p1), .val (.int p2), .val (.int p3), .val (.int v2), .val (.int v4), .val (.int v6), .val (.int v9), .val (.int v15), .val (.int v21), .val (.ref b28), .val (.ref b43), .val (.ref b59), .val (.ref b64), .val (.int ((v2 * v4) * v6)), .val (.int v67), .val (.int t69), .val (.int (0 : Int32)), .unset, .unset, .unset] [])) _
    refine XS.aload X74.here hx rfl (hb hby at_239) rfl rfl ?_
    show Steps p.tables e below (T74.setTop (mkF m 241 #[.val (.int p0), .val (.int p1), .val (.int p2), .val (.int p3), .val (.int v2), .val (.int v4), .val (.int v6), .val (.int v9), .val (.int v15), .val (.int v21), .val (.ref b28), .val (.ref b43), .val (.ref b59), .val (.ref b64), .val (.int ((v2 * v4) * v6)), .val (.int v67), .val (.int t69), .val (.int (0 : Int32)), .unset, .unset, .unset] [(.ref b43)])) _
    refine XS.iconst X74.here hx rfl (hb hby at_241) ?_
    show Steps p.tables e below (T74.setTop (mkF m 242 #[.val (.int p0), .val (.int p1), .val (.int p2), .val (.int p3), .val (.int v2), .val (.int v4), .val (.int v6), .val (.int v9), .val (.int v15), .val (.int v21), .val (.ref b28), .val (.ref b43), .val (.ref b59), .val (.ref b64), .val (.int ((v2 * v4) * v6)), .val (.int v67), .val (.int t69), .val (.int (0 : Int32)), .unset, .unset, .unset] [(.int (1 : Int32)), (.ref b43)])) _
    refine X74.iaload hx (j := (1 : Int32)) (v := (.int jb69)) (by rw [eq74]; exact Ar82.1) (State.isArrayOf_alike hZ.alike Ar82.2.1) Ar82.2.2 (inb_of S82 ⟨by decide, by decide⟩) (Has.at Ha82 (inb_of S82 ⟨by decide, by decide⟩) rfl) (g := (mkF m 242 #[.val (.int p0), .val (.int p1), .val (.int p2), .val (.int p3), .val (.int v2), .val (.int v4), .val (.int v6), .val (.int v9), .val (.int v15), .val (.int v21), .val (.ref b28), .val (.ref b43), .val (.ref b59), .val (.ref b64), .val (.int ((v2 * v4) * v6)), .val (.int v67), .val (.int t69), .val (.int (0 : Int32)), .unset, .unset, .unset] [(.int (1 : Int32)), (.ref b43)])) rfl rfl (hb hby at_242) _ ?_
    show Steps p.tables e below (T74.setTop (mkF m 243 #[.val (.int p0), .val (.int p1), .val (.int p2), .val (.int p3), .val (.int v2), .val (.int v4), .val (.int v6), .val (.int v9), .val (.int v15), .val (.int v21), .val (.ref b28), .val (.ref b43), .val (.ref b59), .val (.ref b64), .val (.int ((v2 * v4) * v6)), .val (.int v67), .val (.int t69), .val (.int (0 : Int32)), .unset, .unset, .unset] [(.int jb69)])) _
    refine XS.iload X74.here hx rfl (hb hby at_243) rfl ?_
    show Steps p.tables e below (T74.setTop (mkF m 245 #[.val (.int p0), .val (.int p1), .val (.int p2), .val (.int p3), .val (.int v2), .val (.int v4), .val (.int v6), .val (.int v9), .val (.int v15), .val (.int v21), .val (.ref b28), .val (.ref b43), .val (.ref b59), .val (.ref b64), .val (.int ((v2 * v4) * v6)), .val (.int v67), .val (.int t69), .val (.int (0 : Int32)), .unset, .unset, .unset] [(.int v4), (.int jb69)])) _
    refine XS.icmpNo X74.here hx rfl (hb hby at_245) rfl (tlt hi1).2.1 ?_
    show Steps p.tables e below (T74.setTop (mkF m 248 #[.val (.int p0), .val (.int p1), .val (.int p2), .val (.int p3), .val (.int v2), .val (.int v4), .val (.int v6), .val (.int v9), .val (.int v15), .val (.int v21), .val (.ref b28), .val (.ref b43), .val (.ref b59), .val (.ref b64), .val (.int ((v2 * v4) * v6)), .val (.int v67), .val (.int t69), .val (.int (0 : Int32)), .unset, .unset, .unset] [])) _
    refine XS.aload X74.here hx rfl (hb hby at_248) rfl rfl ?_
    show Steps p.tables e below (T74.setTop (mkF m 250 #[.val (.int p0), .val (.int p1), .val (.int p2), .val (.int p3), .val (.int v2), .val (.int v4), .val (.int v6), .val (.int v9), .val (.int v15), .val (.int v21), .val (.ref b28), .val (.ref b43), .val (.ref b59), .val (.ref b64), .val (.int ((v2 * v4) * v6)), .val (.int v67), .val (.int t69), .val (.int (0 : Int32)), .unset, .unset, .unset] [(.ref b43)])) _
    refine XS.iconst X74.here hx rfl (hb hby at_250) ?_
    show Steps p.tables e below (T74.setTop (mkF m 251 #[.val (.int p0), .val (.int p1), .val (.int p2), .val (.int p3), .val (.int v2), .val (.int v4), .val (.int v6), .val (.int v9), .val (.int v15), .val (.int v21), .val (.ref b28), .val (.ref b43), .val (.ref b59), .val (.ref b64), .val (.int ((v2 * v4) * v6)), .val (.int v67), .val (.int t69), .val (.int (0 : Int32)), .unset, .unset, .unset] [(.int (2 : Int32)), (.ref b43)])) _
    refine X74.iaload hx (j := (2 : Int32)) (v := (.int jc69)) (by rw [eq74]; exact Ar82.1) (State.isArrayOf_alike hZ.alike Ar82.2.1) Ar82.2.2 (inb_of S82 ⟨by decide, by decide⟩) (Has.at Ha82 (inb_of S82 ⟨by decide, by decide⟩) rfl) (g := (mkF m 251 #[.val (.int p0), .val (.int p1), .val (.int p2), .val (.int p3), .val (.int v2), .val (.int v4), .val (.int v6), .val (.int v9), .val (.int v15), .val (.int v21), .val (.ref b28), .val (.ref b43), .val (.ref b59), .val (.ref b64), .val (.int ((v2 * v4) * v6)), .val (.int v67), .val (.int t69), .val (.int (0 : Int32)), .unset, .unset, .unset] [(.int (2 : Int32)), (.ref b43)])) rfl rfl (hb hby at_251) _ ?_
    show Steps p.tables e below (T74.setTop (mkF m 252 #[.val (.int p0), .val (.int p1), .val (.int p2), .val (.int p3), .val (.int v2), .val (.int v4), .val (.int v6), .val (.int v9), .val (.int v15), .val (.int v21), .val (.ref b28), .val (.ref b43), .val (.ref b59), .val (.ref b64), .val (.int ((v2 * v4) * v6)), .val (.int v67), .val (.int t69), .val (.int (0 : Int32)), .unset, .unset, .unset] [(.int jc69)])) _
    refine XS.ifNo X74.here hx rfl (hb hby at_252) rfl ((if0 _ _).trans (flt lo2).1) ?_
    show Steps p.tables e below (T74.setTop (mkF m 255 #[.val (.int p0), .val (.int p1), .val (.int p2), .val (.int p3), .val (.int v2), .val (.int v4), .val (.int v6), .val (.int v9), .val (.int v15), .val (.int v21), .val (.ref b28), .val (.ref b43), .val (.ref b59), .val (.ref b64), .val (.int ((v2 * v4) * v6)), .val (.int v67), .val (.int t69), .val (.int (0 : Int32)), .unset, .unset, .unset] [])) _
    refine XS.aload X74.here hx rfl (hb hby at_255) rfl rfl ?_
    show Steps p.tables e below (T74.setTop (mkF m 257 #[.val (.int p0), .val (.int p1), .val (.int p2), .val (.int p3), .val (.int v2), .val (.int v4), .val (.int v6), .val (.int v9), .val (.int v15), .val (.int v21), .val (.ref b28), .val (.ref b43), .val (.ref b59), .val (.ref b64), .val (.int ((v2 * v4) * v6)), .val (.int v67), .val (.int t69), .val (.int (0 : Int32)), .unset, .unset, .unset] [(.ref b43)])) _
    refine XS.iconst X74.here hx rfl (hb hby at_257) ?_
    show Steps p.tables e below (T74.setTop (mkF m 258 #[.val (.int p0), .val (.int p1), .val (.int p2), .val (.int p3), .val (.int v2), .val (.int v4), .val (.int v6), .val (.int v9), .val (.int v15), .val (.int v21), .val (.ref b28), .val (.ref b43), .val (.ref b59), .val (.ref b64), .val (.int ((v2 * v4) * v6)), .val (.int v67), .val (.int t69), .val (.int (0 : Int32)), .unset, .unset, .unset] [(.int (2 : Int32)), (.ref b43)])) _
    refine X74.iaload hx (j := (2 : Int32)) (v := (.int jc69)) (by rw [eq74]; exact Ar82.1) (State.isArrayOf_alike hZ.alike Ar82.2.1) Ar82.2.2 (inb_of S82 ⟨by decide, by decide⟩) (Has.at Ha82 (inb_of S82 ⟨by decide, by decide⟩) rfl) (g := (mkF m 258 #[.val (.int p0), .val (.int p1), .val (.int p2), .val (.int p3), .val (.int v2), .val (.int v4), .val (.int v6), .val (.int v9), .val (.int v15), .val (.int v21), .val (.ref b28), .val (.ref b43), .val (.ref b59), .val (.ref b64), .val (.int ((v2 * v4) * v6)), .val (.int v67), .val (.int t69), .val (.int (0 : Int32)), .unset, .unset, .unset] [(.int (2 : Int32)), (.ref b43)])) rfl rfl (hb hby at_258) _ ?_
    show Steps p.tables e below (T74.setTop (mkF m 259 #[.val (.int p0), .val (.int p1), .val (.int p2), .val (.int p3), .val (.int v2), .val (.int v4), .val (.int v6), .val (.int v9), .val (.int v15), .val (.int v21), .val (.ref b28), .val (.ref b43), .val (.ref b59), .val (.ref b64), .val (.int ((v2 * v4) * v6)), .val (.int v67), .val (.int t69), .val (.int (0 : Int32)), .unset, .unset, .unset] [(.int jc69)])) _
    refine XS.iload X74.here hx rfl (hb hby at_259) rfl ?_
    show Steps p.tables e below (T74.setTop (mkF m 261 #[.val (.int p0), .val (.int p1), .val (.int p2), .val (.int p3), .val (.int v2), .val (.int v4), .val (.int v6), .val (.int v9), .val (.int v15), .val (.int v21), .val (.ref b28), .val (.ref b43), .val (.ref b59), .val (.ref b64), .val (.int ((v2 * v4) * v6)), .val (.int v67), .val (.int t69), .val (.int (0 : Int32)), .unset, .unset, .unset] [(.int v6), (.int jc69)])) _
    refine XS.icmpYes X74.here hx rfl (pc0 := 261) (pc' := 266) rfl (hb hby at_261) rfl (tlt hi2).1 (by decide) (by decide) ?_
    show Steps p.tables e below (T74.setTop (mkF m 266 #[.val (.int p0), .val (.int p1), .val (.int p2), .val (.int p3), .val (.int v2), .val (.int v4), .val (.int v6), .val (.int v9), .val (.int v15), .val (.int v21), .val (.ref b28), .val (.ref b43), .val (.ref b59), .val (.ref b64), .val (.int ((v2 * v4) * v6)), .val (.int v67), .val (.int t69), .val (.int (0 : Int32)), .unset, .unset, .unset] [])) _
    refine XS.aload X74.here hx rfl (hb hby at_266) rfl rfl ?_
    show Steps p.tables e below (T74.setTop (mkF m 268 #[.val (.int p0), .val (.int p1), .val (.int p2), .val (.int p3), .val (.int v2), .val (.int v4), .val (.int v6), .val (.int v9), .val (.int v15), .val (.int v21), .val (.ref b28), .val (.ref b43), .val (.ref b59), .val (.ref b64), .val (.int ((v2 * v4) * v6)), .val (.int v67), .val (.int t69), .val (.int (0 : Int32)), .unset, .unset, .unset] [(.ref b43)])) _
    refine XS.iconst X74.here hx rfl (hb hby at_268) ?_
    show Steps p.tables e below (T74.setTop (mkF m 269 #[.val (.int p0), .val (.int p1), .val (.int p2), .val (.int p3), .val (.int v2), .val (.int v4), .val (.int v6), .val (.int v9), .val (.int v15), .val (.int v21), .val (.ref b28), .val (.ref b43), .val (.ref b59), .val (.ref b64), .val (.int ((v2 * v4) * v6)), .val (.int v67), .val (.int t69), .val (.int (0 : Int32)), .unset, .unset, .unset] [(.int (0 : Int32)), (.ref b43)])) _
    refine X74.iaload hx (j := (0 : Int32)) (v := (.int ja69)) (by rw [eq74]; exact Ar82.1) (State.isArrayOf_alike hZ.alike Ar82.2.1) Ar82.2.2 (inb_of S82 ⟨by decide, by decide⟩) (Has.at Ha82 (inb_of S82 ⟨by decide, by decide⟩) rfl) (g := (mkF m 269 #[.val (.int p0), .val (.int p1), .val (.int p2), .val (.int p3), .val (.int v2), .val (.int v4), .val (.int v6), .val (.int v9), .val (.int v15), .val (.int v21), .val (.ref b28), .val (.ref b43), .val (.ref b59), .val (.ref b64), .val (.int ((v2 * v4) * v6)), .val (.int v67), .val (.int t69), .val (.int (0 : Int32)), .unset, .unset, .unset] [(.int (0 : Int32)), (.ref b43)])) rfl rfl (hb hby at_269) _ ?_
    show Steps p.tables e below (T74.setTop (mkF m 270 #[.val (.int p0), .val (.int p1), .val (.int p2), .val (.int p3), .val (.int v2), .val (.int v4), .val (.int v6), .val (.int v9), .val (.int v15), .val (.int v21), .val (.ref b28), .val (.ref b43), .val (.ref b59), .val (.ref b64), .val (.int ((v2 * v4) * v6)), .val (.int v67), .val (.int t69), .val (.int (0 : Int32)), .unset, .unset, .unset] [(.int ja69)])) _
    refine XS.iload X74.here hx rfl (hb hby at_270) rfl ?_
    show Steps p.tables e below (T74.setTop (mkF m 272 #[.val (.int p0), .val (.int p1), .val (.int p2), .val (.int p3), .val (.int v2), .val (.int v4), .val (.int v6), .val (.int v9), .val (.int v15), .val (.int v21), .val (.ref b28), .val (.ref b43), .val (.ref b59), .val (.ref b64), .val (.int ((v2 * v4) * v6)), .val (.int v67), .val (.int t69), .val (.int (0 : Int32)), .unset, .unset, .unset] [(.int v4), (.int ja69)])) _
    refine XS.imul X74.here hx rfl (hb hby at_272) rfl ?_
    show Steps p.tables e below (T74.setTop (mkF m 273 #[.val (.int p0), .val (.int p1), .val (.int p2), .val (.int p3), .val (.int v2), .val (.int v4), .val (.int v6), .val (.int v9), .val (.int v15), .val (.int v21), .val (.ref b28), .val (.ref b43), .val (.ref b59), .val (.ref b64), .val (.int ((v2 * v4) * v6)), .val (.int v67), .val (.int t69), .val (.int (0 : Int32)), .unset, .unset, .unset] [(.int (ja69 * v4))])) _
    refine XS.aload X74.here hx rfl (hb hby at_273) rfl rfl ?_
    show Steps p.tables e below (T74.setTop (mkF m 275 #[.val (.int p0), .val (.int p1), .val (.int p2), .val (.int p3), .val (.int v2), .val (.int v4), .val (.int v6), .val (.int v9), .val (.int v15), .val (.int v21), .val (.ref b28), .val (.ref b43), .val (.ref b59), .val (.ref b64), .val (.int ((v2 * v4) * v6)), .val (.int v67), .val (.int t69), .val (.int (0 : Int32)), .unset, .unset, .unset] [(.ref b43), (.int (ja69 * v4))])) _
    refine XS.iconst X74.here hx rfl (hb hby at_275) ?_
    show Steps p.tables e below (T74.setTop (mkF m 276 #[.val (.int p0), .val (.int p1), .val (.int p2), .val (.int p3), .val (.int v2), .val (.int v4), .val (.int v6), .val (.int v9), .val (.int v15), .val (.int v21), .val (.ref b28), .val (.ref b43), .val (.ref b59), .val (.ref b64), .val (.int ((v2 * v4) * v6)), .val (.int v67), .val (.int t69), .val (.int (0 : Int32)), .unset, .unset, .unset] [(.int (1 : Int32)), (.ref b43), (.int (ja69 * v4))])) _
    refine X74.iaload hx (j := (1 : Int32)) (v := (.int jb69)) (by rw [eq74]; exact Ar82.1) (State.isArrayOf_alike hZ.alike Ar82.2.1) Ar82.2.2 (inb_of S82 ⟨by decide, by decide⟩) (Has.at Ha82 (inb_of S82 ⟨by decide, by decide⟩) rfl) (g := (mkF m 276 #[.val (.int p0), .val (.int p1), .val (.int p2), .val (.int p3), .val (.int v2), .val (.int v4), .val (.int v6), .val (.int v9), .val (.int v15), .val (.int v21), .val (.ref b28), .val (.ref b43), .val (.ref b59), .val (.ref b64), .val (.int ((v2 * v4) * v6)), .val (.int v67), .val (.int t69), .val (.int (0 : Int32)), .unset, .unset, .unset] [(.int (1 : Int32)), (.ref b43), (.int (ja69 * v4))])) rfl rfl (hb hby at_276) _ ?_
    show Steps p.tables e below (T74.setTop (mkF m 277 #[.val (.int p0), .val (.int p1), .val (.int p2), .val (.int p3), .val (.int v2), .val (.int v4), .val (.int v6), .val (.int v9), .val (.int v15), .val (.int v21), .val (.ref b28), .val (.ref b43), .val (.ref b59), .val (.ref b64), .val (.int ((v2 * v4) * v6)), .val (.int v67), .val (.int t69), .val (.int (0 : Int32)), .unset, .unset, .unset] [(.int jb69), (.int (ja69 * v4))])) _
    refine XS.iadd X74.here hx rfl (hb hby at_277) rfl ?_
    show Steps p.tables e below (T74.setTop (mkF m 278 #[.val (.int p0), .val (.int p1), .val (.int p2), .val (.int p3), .val (.int v2), .val (.int v4), .val (.int v6), .val (.int v9), .val (.int v15), .val (.int v21), .val (.ref b28), .val (.ref b43), .val (.ref b59), .val (.ref b64), .val (.int ((v2 * v4) * v6)), .val (.int v67), .val (.int t69), .val (.int (0 : Int32)), .unset, .unset, .unset] [(.int ((ja69 * v4) + jb69))])) _
    refine XS.iload X74.here hx rfl (hb hby at_278) rfl ?_
    show Steps p.tables e below (T74.setTop (mkF m 280 #[.val (.int p0), .val (.int p1), .val (.int p2), .val (.int p3), .val (.int v2), .val (.int v4), .val (.int v6), .val (.int v9), .val (.int v15), .val (.int v21), .val (.ref b28), .val (.ref b43), .val (.ref b59), .val (.ref b64), .val (.int ((v2 * v4) * v6)), .val (.int v67), .val (.int t69), .val (.int (0 : Int32)), .unset, .unset, .unset] [(.int v6), (.int ((ja69 * v4) + jb69))])) _
    refine XS.imul X74.here hx rfl (hb hby at_280) rfl ?_
    show Steps p.tables e below (T74.setTop (mkF m 281 #[.val (.int p0), .val (.int p1), .val (.int p2), .val (.int p3), .val (.int v2), .val (.int v4), .val (.int v6), .val (.int v9), .val (.int v15), .val (.int v21), .val (.ref b28), .val (.ref b43), .val (.ref b59), .val (.ref b64), .val (.int ((v2 * v4) * v6)), .val (.int v67), .val (.int t69), .val (.int (0 : Int32)), .unset, .unset, .unset] [(.int (((ja69 * v4) + jb69) * v6))])) _
    refine XS.aload X74.here hx rfl (hb hby at_281) rfl rfl ?_
    show Steps p.tables e below (T74.setTop (mkF m 283 #[.val (.int p0), .val (.int p1), .val (.int p2), .val (.int p3), .val (.int v2), .val (.int v4), .val (.int v6), .val (.int v9), .val (.int v15), .val (.int v21), .val (.ref b28), .val (.ref b43), .val (.ref b59), .val (.ref b64), .val (.int ((v2 * v4) * v6)), .val (.int v67), .val (.int t69), .val (.int (0 : Int32)), .unset, .unset, .unset] [(.ref b43), (.int (((ja69 * v4) + jb69) * v6))])) _
    refine XS.iconst X74.here hx rfl (hb hby at_283) ?_
    show Steps p.tables e below (T74.setTop (mkF m 284 #[.val (.int p0), .val (.int p1), .val (.int p2), .val (.int p3), .val (.int v2), .val (.int v4), .val (.int v6), .val (.int v9), .val (.int v15), .val (.int v21), .val (.ref b28), .val (.ref b43), .val (.ref b59), .val (.ref b64), .val (.int ((v2 * v4) * v6)), .val (.int v67), .val (.int t69), .val (.int (0 : Int32)), .unset, .unset, .unset] [(.int (2 : Int32)), (.ref b43), (.int (((ja69 * v4) + jb69) * v6))])) _
    refine X74.iaload hx (j := (2 : Int32)) (v := (.int jc69)) (by rw [eq74]; exact Ar82.1) (State.isArrayOf_alike hZ.alike Ar82.2.1) Ar82.2.2 (inb_of S82 ⟨by decide, by decide⟩) (Has.at Ha82 (inb_of S82 ⟨by decide, by decide⟩) rfl) (g := (mkF m 284 #[.val (.int p0), .val (.int p1), .val (.int p2), .val (.int p3), .val (.int v2), .val (.int v4), .val (.int v6), .val (.int v9), .val (.int v15), .val (.int v21), .val (.ref b28), .val (.ref b43), .val (.ref b59), .val (.ref b64), .val (.int ((v2 * v4) * v6)), .val (.int v67), .val (.int t69), .val (.int (0 : Int32)), .unset, .unset, .unset] [(.int (2 : Int32)), (.ref b43), (.int (((ja69 * v4) + jb69) * v6))])) rfl rfl (hb hby at_284) _ ?_
    show Steps p.tables e below (T74.setTop (mkF m 285 #[.val (.int p0), .val (.int p1), .val (.int p2), .val (.int p3), .val (.int v2), .val (.int v4), .val (.int v6), .val (.int v9), .val (.int v15), .val (.int v21), .val (.ref b28), .val (.ref b43), .val (.ref b59), .val (.ref b64), .val (.int ((v2 * v4) * v6)), .val (.int v67), .val (.int t69), .val (.int (0 : Int32)), .unset, .unset, .unset] [(.int jc69), (.int (((ja69 * v4) + jb69) * v6))])) _
    refine XS.iadd X74.here hx rfl (hb hby at_285) rfl ?_
    exact k)
  obtain ⟨v84, hv84⟩ : ∃ z : Int32, z = ((((ja69 * v4) + jb69) * v6) + jc69) := ⟨_, rfl⟩
  rw [← hv84] at ks83
  have ks87 : own_R p e below (s₁.setTop (entryFrame m #[(.int p0), (.int p1), (.int p2), (.int p3)] maxLocals)) (T74.setTop (mkF m 294 #[.val (.int p0), .val (.int p1), .val (.int p2), .val (.int p3), .val (.int v2), .val (.int v4), .val (.int v6), .val (.int v9), .val (.int v15), .val (.int v21), .val (.ref b28), .val (.ref b43), .val (.ref b59), .val (.ref b64), .val (.int ((v2 * v4) * v6)), .val (.int v67), .val (.int t69), .val (.int (0 : Int32)), .val (.int v84), .unset, .unset] [(.int ((v2 * v4) * v6)), (.int (v67 + (1 : Int32)))])) := fun t k => ks83 t (by
    show Steps p.tables e below (T74.setTop (mkF m 286 #[.val (.int p0), .val (.int p1), .val (.int p2), .val (.int p3), .val (.int v2), .val (.int v4), .val (.int v6), .val (.int v9), .val (.int v15), .val (.int v21), .val (.ref b28), .val (.ref b43), .val (.ref b59), .val (.ref b64), .val (.int ((v2 * v4) * v6)), .val (.int v67), .val (.int t69), .val (.int (0 : Int32)), .unset, .unset, .unset] [(.int v84)])) _
    refine XS.istore X74.here hx rfl (hb hby at_286) rfl (l' := #[.val (.int p0), .val (.int p1), .val (.int p2), .val (.int p3), .val (.int v2), .val (.int v4), .val (.int v6), .val (.int v9), .val (.int v15), .val (.int v21), .val (.ref b28), .val (.ref b43), .val (.ref b59), .val (.ref b64), .val (.int ((v2 * v4) * v6)), .val (.int v67), .val (.int t69), .val (.int (0 : Int32)), .val (.int v84), .unset, .unset]) rfl ?_
    show Steps p.tables e below (T74.setTop (mkF m 288 #[.val (.int p0), .val (.int p1), .val (.int p2), .val (.int p3), .val (.int v2), .val (.int v4), .val (.int v6), .val (.int v9), .val (.int v15), .val (.int v21), .val (.ref b28), .val (.ref b43), .val (.ref b59), .val (.ref b64), .val (.int ((v2 * v4) * v6)), .val (.int v67), .val (.int t69), .val (.int (0 : Int32)), .val (.int v84), .unset, .unset] [])) _
    refine XS.iload X74.here hx rfl (hb hby at_288) rfl ?_
    show Steps p.tables e below (T74.setTop (mkF m 290 #[.val (.int p0), .val (.int p1), .val (.int p2), .val (.int p3), .val (.int v2), .val (.int v4), .val (.int v6), .val (.int v9), .val (.int v15), .val (.int v21), .val (.ref b28), .val (.ref b43), .val (.ref b59), .val (.ref b64), .val (.int ((v2 * v4) * v6)), .val (.int v67), .val (.int t69), .val (.int (0 : Int32)), .val (.int v84), .unset, .unset] [(.int v67)])) _
    refine XS.iconst X74.here hx rfl (hb hby at_290) ?_
    show Steps p.tables e below (T74.setTop (mkF m 291 #[.val (.int p0), .val (.int p1), .val (.int p2), .val (.int p3), .val (.int v2), .val (.int v4), .val (.int v6), .val (.int v9), .val (.int v15), .val (.int v21), .val (.ref b28), .val (.ref b43), .val (.ref b59), .val (.ref b64), .val (.int ((v2 * v4) * v6)), .val (.int v67), .val (.int t69), .val (.int (0 : Int32)), .val (.int v84), .unset, .unset] [(.int (1 : Int32)), (.int v67)])) _
    refine XS.iadd X74.here hx rfl (hb hby at_291) rfl ?_
    show Steps p.tables e below (T74.setTop (mkF m 292 #[.val (.int p0), .val (.int p1), .val (.int p2), .val (.int p3), .val (.int v2), .val (.int v4), .val (.int v6), .val (.int v9), .val (.int v15), .val (.int v21), .val (.ref b28), .val (.ref b43), .val (.ref b59), .val (.ref b64), .val (.int ((v2 * v4) * v6)), .val (.int v67), .val (.int t69), .val (.int (0 : Int32)), .val (.int v84), .unset, .unset] [(.int (v67 + (1 : Int32)))])) _
    refine XS.iload X74.here hx rfl (hb hby at_292) rfl ?_
    exact k)
  obtain ⟨v86, hv86⟩ : ∃ z : Int32, z = (if (v67 + (1 : Int32)) < ((v2 * v4) * v6) then (1 : Int32) else (0 : Int32)) := ⟨_, rfl⟩
  have ks88 : own_R p e below (s₁.setTop (entryFrame m #[(.int p0), (.int p1), (.int p2), (.int p3)] maxLocals)) (T74.setTop (mkF m 302 #[.val (.int p0), .val (.int p1), .val (.int p2), .val (.int p3), .val (.int v2), .val (.int v4), .val (.int v6), .val (.int v9), .val (.int v15), .val (.int v21), .val (.ref b28), .val (.ref b43), .val (.ref b59), .val (.ref b64), .val (.int ((v2 * v4) * v6)), .val (.int v67), .val (.int t69), .val (.int (0 : Int32)), .val (.int v84), .unset, .unset] [(.int v86)])) := fun t k => ks87 t (by
    by_cases hc85 : (v67 + (1 : Int32)) < ((v2 * v4) * v6)
    · skip
      have qq89 : v86 = (1 : Int32) := by rw [hv86, if_pos hc85]
      rw [qq89] at k
      show Steps p.tables e below (T74.setTop (mkF m 294 #[.val (.int p0), .val (.int p1), .val (.int p2), .val (.int p3), .val (.int v2), .val (.int v4), .val (.int v6), .val (.int v9), .val (.int v15), .val (.int v21), .val (.ref b28), .val (.ref b43), .val (.ref b59), .val (.ref b64), .val (.int ((v2 * v4) * v6)), .val (.int v67), .val (.int t69), .val (.int (0 : Int32)), .val (.int v84), .unset, .unset] [(.int ((v2 * v4) * v6)), (.int (v67 + (1 : Int32)))])) _
      refine XS.icmpNo X74.here hx rfl (hb hby at_294) rfl (tlt hc85).2.1 ?_
      show Steps p.tables e below (T74.setTop (mkF m 297 #[.val (.int p0), .val (.int p1), .val (.int p2), .val (.int p3), .val (.int v2), .val (.int v4), .val (.int v6), .val (.int v9), .val (.int v15), .val (.int v21), .val (.ref b28), .val (.ref b43), .val (.ref b59), .val (.ref b64), .val (.int ((v2 * v4) * v6)), .val (.int v67), .val (.int t69), .val (.int (0 : Int32)), .val (.int v84), .unset, .unset] [])) _
      refine XS.iconst X74.here hx rfl (hb hby at_297) ?_
      show Steps p.tables e below (T74.setTop (mkF m 298 #[.val (.int p0), .val (.int p1), .val (.int p2), .val (.int p3), .val (.int v2), .val (.int v4), .val (.int v6), .val (.int v9), .val (.int v15), .val (.int v21), .val (.ref b28), .val (.ref b43), .val (.ref b59), .val (.ref b64), .val (.int ((v2 * v4) * v6)), .val (.int v67), .val (.int t69), .val (.int (0 : Int32)), .val (.int v84), .unset, .unset] [(.int (1 : Int32))])) _
      refine XS.goto X74.here hx rfl (pc0 := 298) (pc' := 302) rfl (hb hby at_298) (by decide) (by decide) ?_
      exact k
    · skip
      have qq90 : v86 = (0 : Int32) := by rw [hv86, if_neg hc85]
      rw [qq90] at k
      show Steps p.tables e below (T74.setTop (mkF m 294 #[.val (.int p0), .val (.int p1), .val (.int p2), .val (.int p3), .val (.int v2), .val (.int v4), .val (.int v6), .val (.int v9), .val (.int v15), .val (.int v21), .val (.ref b28), .val (.ref b43), .val (.ref b59), .val (.ref b64), .val (.int ((v2 * v4) * v6)), .val (.int v67), .val (.int t69), .val (.int (0 : Int32)), .val (.int v84), .unset, .unset] [(.int ((v2 * v4) * v6)), (.int (v67 + (1 : Int32)))])) _
      refine XS.icmpYes X74.here hx rfl (pc0 := 294) (pc' := 301) rfl (hb hby at_294) rfl (flt hc85).2.1 (by decide) (by decide) ?_
      show Steps p.tables e below (T74.setTop (mkF m 301 #[.val (.int p0), .val (.int p1), .val (.int p2), .val (.int p3), .val (.int v2), .val (.int v4), .val (.int v6), .val (.int v9), .val (.int v15), .val (.int v21), .val (.ref b28), .val (.ref b43), .val (.ref b59), .val (.ref b64), .val (.int ((v2 * v4) * v6)), .val (.int v67), .val (.int t69), .val (.int (0 : Int32)), .val (.int v84), .unset, .unset] [])) _
      refine XS.iconst X74.here hx rfl (hb hby at_301) ?_
      exact k)
  have ks93 : own_R p e below (s₁.setTop (entryFrame m #[(.int p0), (.int p1), (.int p2), (.int p3)] maxLocals)) (T74.setTop (mkF m 306 #[.val (.int p0), .val (.int p1), .val (.int p2), .val (.int p3), .val (.int v2), .val (.int v4), .val (.int v6), .val (.int v9), .val (.int v15), .val (.int v21), .val (.ref b28), .val (.ref b43), .val (.ref b59), .val (.ref b64), .val (.int ((v2 * v4) * v6)), .val (.int v67), .val (.int t69), .val (.int (0 : Int32)), .val (.int v84), .val (.int v86), .unset] [(.int v86)])) := fun t k => ks88 t (by
    show Steps p.tables e below (T74.setTop (mkF m 302 #[.val (.int p0), .val (.int p1), .val (.int p2), .val (.int p3), .val (.int v2), .val (.int v4), .val (.int v6), .val (.int v9), .val (.int v15), .val (.int v21), .val (.ref b28), .val (.ref b43), .val (.ref b59), .val (.ref b64), .val (.int ((v2 * v4) * v6)), .val (.int v67), .val (.int t69), .val (.int (0 : Int32)), .val (.int v84), .unset, .unset] [(.int v86)])) _
    refine XS.istore X74.here hx rfl (hb hby at_302) rfl (l' := #[.val (.int p0), .val (.int p1), .val (.int p2), .val (.int p3), .val (.int v2), .val (.int v4), .val (.int v6), .val (.int v9), .val (.int v15), .val (.int v21), .val (.ref b28), .val (.ref b43), .val (.ref b59), .val (.ref b64), .val (.int ((v2 * v4) * v6)), .val (.int v67), .val (.int t69), .val (.int (0 : Int32)), .val (.int v84), .val (.int v86), .unset]) rfl ?_
    show Steps p.tables e below (T74.setTop (mkF m 304 #[.val (.int p0), .val (.int p1), .val (.int p2), .val (.int p3), .val (.int v2), .val (.int v4), .val (.int v6), .val (.int v9), .val (.int v15), .val (.int v21), .val (.ref b28), .val (.ref b43), .val (.ref b59), .val (.ref b64), .val (.int ((v2 * v4) * v6)), .val (.int v67), .val (.int t69), .val (.int (0 : Int32)), .val (.int v84), .val (.int v86), .unset] [])) _
    refine XS.iload X74.here hx rfl (hb hby at_304) rfl ?_
    exact k)
  obtain ⟨v92, hv92⟩ : ∃ z : Int32, z = (if v86 = (0 : Int32) then (0 : Int32) else (v67 + (1 : Int32))) := ⟨_, rfl⟩
  have ks94 : own_R p e below (s₁.setTop (entryFrame m #[(.int p0), (.int p1), (.int p2), (.int p3)] maxLocals)) (T74.setTop (mkF m 317 #[.val (.int p0), .val (.int p1), .val (.int p2), .val (.int p3), .val (.int v2), .val (.int v4), .val (.int v6), .val (.int v9), .val (.int v15), .val (.int v21), .val (.ref b28), .val (.ref b43), .val (.ref b59), .val (.ref b64), .val (.int ((v2 * v4) * v6)), .val (.int v67), .val (.int t69), .val (.int (0 : Int32)), .val (.int v84), .val (.int v86), .unset] [(.int v92)])) := fun t k => ks93 t (by
    by_cases hc91 : v86 = (0 : Int32)
    · skip
      have qq95 : v92 = (0 : Int32) := by rw [hv92, if_pos hc91]
      rw [qq95] at k
      show Steps p.tables e below (T74.setTop (mkF m 306 #[.val (.int p0), .val (.int p1), .val (.int p2), .val (.int p3), .val (.int v2), .val (.int v4), .val (.int v6), .val (.int v9), .val (.int v15), .val (.int v21), .val (.ref b28), .val (.ref b43), .val (.ref b59), .val (.ref b64), .val (.int ((v2 * v4) * v6)), .val (.int v67), .val (.int t69), .val (.int (0 : Int32)), .val (.int v84), .val (.int v86), .unset] [(.int v86)])) _
      refine XS.ifYes X74.here hx rfl (pc0 := 306) (pc' := 316) rfl (hb hby at_306) rfl ((if0 _ _).trans (teq hc91).1) (by decide) (by decide) ?_
      show Steps p.tables e below (T74.setTop (mkF m 316 #[.val (.int p0), .val (.int p1), .val (.int p2), .val (.int p3), .val (.int v2), .val (.int v4), .val (.int v6), .val (.int v9), .val (.int v15), .val (.int v21), .val (.ref b28), .val (.ref b43), .val (.ref b59), .val (.ref b64), .val (.int ((v2 * v4) * v6)), .val (.int v67), .val (.int t69), .val (.int (0 : Int32)), .val (.int v84), .val (.int v86), .unset] [])) _
      refine XS.iconst X74.here hx rfl (hb hby at_316) ?_
      exact k
    · skip
      have qq96 : v92 = (v67 + (1 : Int32)) := by rw [hv92, if_neg hc91]
      rw [qq96] at k
      show Steps p.tables e below (T74.setTop (mkF m 306 #[.val (.int p0), .val (.int p1), .val (.int p2), .val (.int p3), .val (.int v2), .val (.int v4), .val (.int v6), .val (.int v9), .val (.int v15), .val (.int v21), .val (.ref b28), .val (.ref b43), .val (.ref b59), .val (.ref b64), .val (.int ((v2 * v4) * v6)), .val (.int v67), .val (.int t69), .val (.int (0 : Int32)), .val (.int v84), .val (.int v86), .unset] [(.int v86)])) _
      refine XS.ifNo X74.here hx rfl (hb hby at_306) rfl ((if0 _ _).trans (feq hc91).1) ?_
      show Steps p.tables e below (T74.setTop (mkF m 309 #[.val (.int p0), .val (.int p1), .val (.int p2), .val (.int p3), .val (.int v2), .val (.int v4), .val (.int v6), .val (.int v9), .val (.int v15), .val (.int v21), .val (.ref b28), .val (.ref b43), .val (.ref b59), .val (.ref b64), .val (.int ((v2 * v4) * v6)), .val (.int v67), .val (.int t69), .val (.int (0 : Int32)), .val (.int v84), .val (.int v86), .unset] [])) _
      refine XS.iload X74.here hx rfl (hb hby at_309) rfl ?_
      show Steps p.tables e below (T74.setTop (mkF m 311 #[.val (.int p0), .val (.int p1), .val (.int p2), .val (.int p3), .val (.int v2), .val (.int v4), .val (.int v6), .val (.int v9), .val (.int v15), .val (.int v21), .val (.ref b28), .val (.ref b43), .val (.ref b59), .val (.ref b64), .val (.int ((v2 * v4) * v6)), .val (.int v67), .val (.int t69), .val (.int (0 : Int32)), .val (.int v84), .val (.int v86), .unset] [(.int v67)])) _
      refine XS.iconst X74.here hx rfl (hb hby at_311) ?_
      show Steps p.tables e below (T74.setTop (mkF m 312 #[.val (.int p0), .val (.int p1), .val (.int p2), .val (.int p3), .val (.int v2), .val (.int v4), .val (.int v6), .val (.int v9), .val (.int v15), .val (.int v21), .val (.ref b28), .val (.ref b43), .val (.ref b59), .val (.ref b64), .val (.int ((v2 * v4) * v6)), .val (.int v67), .val (.int t69), .val (.int (0 : Int32)), .val (.int v84), .val (.int v86), .unset] [(.int (1 : Int32)), (.int v67)])) _
      refine XS.iadd X74.here hx rfl (hb hby at_312) rfl ?_
      show Steps p.tables e below (T74.setTop (mkF m 313 #[.val (.int p0), .val (.int p1), .val (.int p2), .val (.int p3), .val (.int v2), .val (.int v4), .val (.int v6), .val (.int v9), .val (.int v15), .val (.int v21), .val (.ref b28), .val (.ref b43), .val (.ref b59), .val (.ref b64), .val (.int ((v2 * v4) * v6)), .val (.int v67), .val (.int t69), .val (.int (0 : Int32)), .val (.int v84), .val (.int v86), .unset] [(.int (v67 + (1 : Int32)))])) _
      refine XS.goto X74.here hx rfl (pc0 := 313) (pc' := 317) rfl (hb hby at_313) (by decide) (by decide) ?_
      exact k)
  have ks97 : own_R p e below (s₁.setTop (entryFrame m #[(.int p0), (.int p1), (.int p2), (.int p3)] maxLocals)) (T74.setTop (mkF m 323 #[.val (.int p0), .val (.int p1), .val (.int p2), .val (.int p3), .val (.int v2), .val (.int v4), .val (.int v6), .val (.int v9), .val (.int v15), .val (.int v21), .val (.ref b28), .val (.ref b43), .val (.ref b59), .val (.ref b64), .val (.int ((v2 * v4) * v6)), .val (.int v67), .val (.int t69), .val (.int (0 : Int32)), .val (.int v84), .val (.int v86), .val (.int v92)] [(.int v86), (.int t69)])) := fun t k => ks94 t (by
    show Steps p.tables e below (T74.setTop (mkF m 317 #[.val (.int p0), .val (.int p1), .val (.int p2), .val (.int p3), .val (.int v2), .val (.int v4), .val (.int v6), .val (.int v9), .val (.int v15), .val (.int v21), .val (.ref b28), .val (.ref b43), .val (.ref b59), .val (.ref b64), .val (.int ((v2 * v4) * v6)), .val (.int v67), .val (.int t69), .val (.int (0 : Int32)), .val (.int v84), .val (.int v86), .unset] [(.int v92)])) _
    refine XS.istore X74.here hx rfl (hb hby at_317) rfl (l' := #[.val (.int p0), .val (.int p1), .val (.int p2), .val (.int p3), .val (.int v2), .val (.int v4), .val (.int v6), .val (.int v9), .val (.int v15), .val (.int v21), .val (.ref b28), .val (.ref b43), .val (.ref b59), .val (.ref b64), .val (.int ((v2 * v4) * v6)), .val (.int v67), .val (.int t69), .val (.int (0 : Int32)), .val (.int v84), .val (.int v86), .val (.int v92)]) rfl ?_
    show Steps p.tables e below (T74.setTop (mkF m 319 #[.val (.int p0), .val (.int p1), .val (.int p2), .val (.int p3), .val (.int v2), .val (.int v4), .val (.int v6), .val (.int v9), .val (.int v15), .val (.int v21), .val (.ref b28), .val (.ref b43), .val (.ref b59), .val (.ref b64), .val (.int ((v2 * v4) * v6)), .val (.int v67), .val (.int t69), .val (.int (0 : Int32)), .val (.int v84), .val (.int v86), .val (.int v92)] [])) _
    refine XS.iload X74.here hx rfl (hb hby at_319) rfl ?_
    show Steps p.tables e below (T74.setTop (mkF m 321 #[.val (.int p0), .val (.int p1), .val (.int p2), .val (.int p3), .val (.int v2), .val (.int v4), .val (.int v6), .val (.int v9), .val (.int v15), .val (.int v21), .val (.ref b28), .val (.ref b43), .val (.ref b59), .val (.ref b64), .val (.int ((v2 * v4) * v6)), .val (.int v67), .val (.int t69), .val (.int (0 : Int32)), .val (.int v84), .val (.int v86), .val (.int v92)] [(.int t69)])) _
    refine XS.iload X74.here hx rfl (hb hby at_321) rfl ?_
    exact k)
  by_cases hc98 : t69 = v86
  · skip
    have ks99 : own_R p e below (s₁.setTop (entryFrame m #[(.int p0), (.int p1), (.int p2), (.int p3)] maxLocals)) (T74.setTop (mkF m 330 #[.val (.int p0), .val (.int p1), .val (.int p2), .val (.int p3), .val (.int v2), .val (.int v4), .val (.int v6), .val (.int v9), .val (.int v15), .val (.int v21), .val (.ref b28), .val (.ref b43), .val (.ref b59), .val (.ref b64), .val (.int ((v2 * v4) * v6)), .val (.int v67), .val (.int t69), .val (.int (0 : Int32)), .val (.int v84), .val (.int v86), .val (.int v92)] [(.int v92), (.int v84)])) := fun t k => ks97 t (by
      show Steps p.tables e below (T74.setTop (mkF m 323 #[.val (.int p0), .val (.int p1), .val (.int p2), .val (.int p3), .val (.int v2), .val (.int v4), .val (.int v6), .val (.int v9), .val (.int v15), .val (.int v21), .val (.ref b28), .val (.ref b43), .val (.ref b59), .val (.ref b64), .val (.int ((v2 * v4) * v6)), .val (.int v67), .val (.int t69), .val (.int (0 : Int32)), .val (.int v84), .val (.int v86), .val (.int v92)] [(.int v86), (.int t69)])) _
      refine XS.icmpNo X74.here hx rfl (hb hby at_323) rfl (teq hc98).2 ?_
      show Steps p.tables e below (T74.setTop (mkF m 326 #[.val (.int p0), .val (.int p1), .val (.int p2), .val (.int p3), .val (.int v2), .val (.int v4), .val (.int v6), .val (.int v9), .val (.int v15), .val (.int v21), .val (.ref b28), .val (.ref b43), .val (.ref b59), .val (.ref b64), .val (.int ((v2 * v4) * v6)), .val (.int v67), .val (.int t69), .val (.int (0 : Int32)), .val (.int v84), .val (.int v86), .val (.int v92)] [])) _
      refine XS.iload X74.here hx rfl (hb hby at_326) rfl ?_
      show Steps p.tables e below (T74.setTop (mkF m 328 #[.val (.int p0), .val (.int p1), .val (.int p2), .val (.int p3), .val (.int v2), .val (.int v4), .val (.int v6), .val (.int v9), .val (.int v15), .val (.int v21), .val (.ref b28), .val (.ref b43), .val (.ref b59), .val (.ref b64), .val (.int ((v2 * v4) * v6)), .val (.int v67), .val (.int t69), .val (.int (0 : Int32)), .val (.int v84), .val (.int v86), .val (.int v92)] [(.int v84)])) _
      refine XS.iload X74.here hx rfl (hb hby at_328) rfl ?_
      exact k)
    by_cases hc100 : v84 = v92
    · skip
      have ks101 : own_R p e below (s₁.setTop (entryFrame m #[(.int p0), (.int p1), (.int p2), (.int p3)] maxLocals)) (T74.setTop (mkF m 343 #[.val (.int p0), .val (.int p1), .val (.int p2), .val (.int p3), .val (.int v2), .val (.int v4), .val (.int v6), .val (.int v9), .val (.int v15), .val (.int v21), .val (.ref b28), .val (.ref b43), .val (.ref b59), .val (.ref b64), .val (.int ((v2 * v4) * v6)), .val (.int v67), .val (.int t69), .val (.int (0 : Int32)), .val (.int v84), .val (.int v86), .val (.int v92)] [(.int (1 : Int32))])) := fun t k => ks99 t (by
        show Steps p.tables e below (T74.setTop (mkF m 330 #[.val (.int p0), .val (.int p1), .val (.int p2), .val (.int p3), .val (.int v2), .val (.int v4), .val (.int v6), .val (.int v9), .val (.int v15), .val (.int v21), .val (.ref b28), .val (.ref b43), .val (.ref b59), .val (.ref b64), .val (.int ((v2 * v4) * v6)), .val (.int v67), .val (.int t69), .val (.int (0 : Int32)), .val (.int v84), .val (.int v86), .val (.int v92)] [(.int v92), (.int v84)])) _
        refine XS.icmpNo X74.here hx rfl (hb hby at_330) rfl (teq hc100).2 ?_
        show Steps p.tables e below (T74.setTop (mkF m 333 #[.val (.int p0), .val (.int p1), .val (.int p2), .val (.int p3), .val (.int v2), .val (.int v4), .val (.int v6), .val (.int v9), .val (.int v15), .val (.int v21), .val (.ref b28), .val (.ref b43), .val (.ref b59), .val (.ref b64), .val (.int ((v2 * v4) * v6)), .val (.int v67), .val (.int t69), .val (.int (0 : Int32)), .val (.int v84), .val (.int v86), .val (.int v92)] [])) _
        refine XS.iload X74.here hx rfl (hb hby at_333) rfl ?_
        show Steps p.tables e below (T74.setTop (mkF m 335 #[.val (.int p0), .val (.int p1), .val (.int p2), .val (.int p3), .val (.int v2), .val (.int v4), .val (.int v6), .val (.int v9), .val (.int v15), .val (.int v21), .val (.ref b28), .val (.ref b43), .val (.ref b59), .val (.ref b64), .val (.int ((v2 * v4) * v6)), .val (.int v67), .val (.int t69), .val (.int (0 : Int32)), .val (.int v84), .val (.int v86), .val (.int v92)] [(.int (0 : Int32))])) _
        refine XS.ifNo X74.here hx rfl (hb hby at_335) rfl ((if0 _ _).trans (teq (by decide)).2) ?_
        show Steps p.tables e below (T74.setTop (mkF m 338 #[.val (.int p0), .val (.int p1), .val (.int p2), .val (.int p3), .val (.int v2), .val (.int v4), .val (.int v6), .val (.int v9), .val (.int v15), .val (.int v21), .val (.ref b28), .val (.ref b43), .val (.ref b59), .val (.ref b64), .val (.int ((v2 * v4) * v6)), .val (.int v67), .val (.int t69), .val (.int (0 : Int32)), .val (.int v84), .val (.int v86), .val (.int v92)] [])) _
        refine XS.iconst X74.here hx rfl (hb hby at_338) ?_
        show Steps p.tables e below (T74.setTop (mkF m 339 #[.val (.int p0), .val (.int p1), .val (.int p2), .val (.int p3), .val (.int v2), .val (.int v4), .val (.int v6), .val (.int v9), .val (.int v15), .val (.int v21), .val (.ref b28), .val (.ref b43), .val (.ref b59), .val (.ref b64), .val (.int ((v2 * v4) * v6)), .val (.int v67), .val (.int t69), .val (.int (0 : Int32)), .val (.int v84), .val (.int v86), .val (.int v92)] [(.int (1 : Int32))])) _
        refine XS.goto X74.here hx rfl (pc0 := 339) (pc' := 343) rfl (hb hby at_339) (by decide) (by decide) ?_
        exact k)
      obtain ⟨fs, hr, hrun, hended, hW, hsame⟩ := X74.leave (v := some (.int (1 : Int32))) (fun h => by rw [Bd.returns] at h; cases h)
      refine ⟨_, _, ks101 _ ?_, hrun, hended, _, _, rfl, ?_, ⟨_, rfl⟩, hW, hsame.mono (by decide) (by decide)⟩
      · exact retN X74 hx (t := .boolean) Bd.returns (by simp) (hb hby at_343) hr
      · show Q0 Z p0 p1 p2 p3 h0 n0 _ T74.heap _
        rw [eq74]
        exact ⟨rfl, N74⟩
    · skip
      have ks102 : own_R p e below (s₁.setTop (entryFrame m #[(.int p0), (.int p1), (.int p2), (.int p3)] maxLocals)) (T74.setTop (mkF m 343 #[.val (.int p0), .val (.int p1), .val (.int p2), .val (.int p3), .val (.int v2), .val (.int v4), .val (.int v6), .val (.int v9), .val (.int v15), .val (.int v21), .val (.ref b28), .val (.ref b43), .val (.ref b59), .val (.ref b64), .val (.int ((v2 * v4) * v6)), .val (.int v67), .val (.int t69), .val (.int (0 : Int32)), .val (.int v84), .val (.int v86), .val (.int v92)] [(.int (0 : Int32))])) := fun t k => ks99 t (by
        show Steps p.tables e below (T74.setTop (mkF m 330 #[.val (.int p0), .val (.int p1), .val (.int p2), .val (.int p3), .val (.int v2), .val (.int v4), .val (.int v6), .val (.int v9), .val (.int v15), .val (.int v21), .val (.ref b28), .val (.ref b43), .val (.ref b59), .val (.ref b64), .val (.int ((v2 * v4) * v6)), .val (.int v67), .val (.int t69), .val (.int (0 : Int32)), .val (.int v84), .val (.int v86), .val (.int v92)] [(.int v92), (.int v84)])) _
        refine XS.icmpYes X74.here hx rfl (pc0 := 330) (pc' := 342) rfl (hb hby at_330) rfl (feq hc100).2 (by decide) (by decide) ?_
        show Steps p.tables e below (T74.setTop (mkF m 342 #[.val (.int p0), .val (.int p1), .val (.int p2), .val (.int p3), .val (.int v2), .val (.int v4), .val (.int v6), .val (.int v9), .val (.int v15), .val (.int v21), .val (.ref b28), .val (.ref b43), .val (.ref b59), .val (.ref b64), .val (.int ((v2 * v4) * v6)), .val (.int v67), .val (.int t69), .val (.int (0 : Int32)), .val (.int v84), .val (.int v86), .val (.int v92)] [])) _
        refine XS.iconst X74.here hx rfl (hb hby at_342) ?_
        exact k)
      obtain ⟨fs, hr, hrun, hended, hW, hsame⟩ := X74.leave (v := some (.int (0 : Int32))) (fun h => by rw [Bd.returns] at h; cases h)
      refine ⟨_, _, ks102 _ ?_, hrun, hended, _, _, rfl, ?_, ⟨_, rfl⟩, hW, hsame.mono (by decide) (by decide)⟩
      · exact retN X74 hx (t := .boolean) Bd.returns (by simp) (hb hby at_343) hr
      · show Q0 Z p0 p1 p2 p3 h0 n0 _ T74.heap _
        rw [eq74]
        exfalso
        rw [← hv67] at nb
        rw [← hv84] at nj
        have f := own_fin v67 ((v2 * v4) * v6) v84 t69 _ _ _ nb.1 nb.2.2.2.2 nj.1 nb.2.1 nb.2.2.1 nb.2.2.2.1 nx nj.2.2.1
        apply hc100
        rw [hv92, hv86]
        exact f.2
  · skip
    have ks103 : own_R p e below (s₁.setTop (entryFrame m #[(.int p0), (.int p1), (.int p2), (.int p3)] maxLocals)) (T74.setTop (mkF m 343 #[.val (.int p0), .val (.int p1), .val (.int p2), .val (.int p3), .val (.int v2), .val (.int v4), .val (.int v6), .val (.int v9), .val (.int v15), .val (.int v21), .val (.ref b28), .val (.ref b43), .val (.ref b59), .val (.ref b64), .val (.int ((v2 * v4) * v6)), .val (.int v67), .val (.int t69), .val (.int (0 : Int32)), .val (.int v84), .val (.int v86), .val (.int v92)] [(.int (0 : Int32))])) := fun t k => ks97 t (by
      show Steps p.tables e below (T74.setTop (mkF m 323 #[.val (.int p0), .val (.int p1), .val (.int p2), .val (.int p3), .val (.int v2), .val (.int v4), .val (.int v6), .val (.int v9), .val (.int v15), .val (.int v21), .val (.ref b28), .val (.ref b43), .val (.ref b59), .val (.ref b64), .val (.int ((v2 * v4) * v6)), .val (.int v67), .val (.int t69), .val (.int (0 : Int32)), .val (.int v84), .val (.int v86), .val (.int v92)] [(.int v86), (.int t69)])) _
      refine XS.icmpYes X74.here hx rfl (pc0 := 323) (pc' := 342) rfl (hb hby at_323) rfl (feq hc98).2 (by decide) (by decide) ?_
      show Steps p.tables e below (T74.setTop (mkF m 342 #[.val (.int p0), .val (.int p1), .val (.int p2), .val (.int p3), .val (.int v2), .val (.int v4), .val (.int v6), .val (.int v9), .val (.int v15), .val (.int v21), .val (.ref b28), .val (.ref b43), .val (.ref b59), .val (.ref b64), .val (.int ((v2 * v4) * v6)), .val (.int v67), .val (.int t69), .val (.int (0 : Int32)), .val (.int v84), .val (.int v86), .val (.int v92)] [])) _
      refine XS.iconst X74.here hx rfl (hb hby at_342) ?_
      exact k)
    obtain ⟨fs, hr, hrun, hended, hW, hsame⟩ := X74.leave (v := some (.int (0 : Int32))) (fun h => by rw [Bd.returns] at h; cases h)
    refine ⟨_, _, ks103 _ ?_, hrun, hended, _, _, rfl, ?_, ⟨_, rfl⟩, hW, hsame.mono (by decide) (by decide)⟩
    · exact retN X74 hx (t := .boolean) Bd.returns (by simp) (hb hby at_343) hr
    · show Q0 Z p0 p1 p2 p3 h0 n0 _ T74.heap _
      rw [eq74]
      exfalso
      rw [← hv67] at nb
      rw [← hv84] at nj
      have f := own_fin v67 ((v2 * v4) * v6) v84 t69 _ _ _ nb.1 nb.2.2.2.2 nj.1 nb.2.1 nb.2.2.1 nb.2.2.2.1 nx nj.2.2.1
      apply hc98
      rw [hv86]
      exact f.1
set_option maxRecDepth 65536 in
set_option maxHeartbeats 40000000 in
theorem comes_1 {Post : Tables → Env → Array Value → State → Outcome → State → Prop} (hpost : ∀ tb e args s v u, (limb_1_1.after args s (.returned v) u = true ∧ limb_1_2.after args s (.returned v) u = true ∧ True) → FrameEnd s (.returned v) u (Jvm.fieldLocs frame_1_writes args s ++ Jvm.arrayLocs frame_1_arrays args s ++ Jvm.staticLocs frame_1_statics s) 16 128 → Post tb e args s (.returned v) u) :
    ArmFor flags0 classFile x code maxLocals ret World_1 tables_1 room_1 Calls_1 rest_1 Pre_1 Post := by
  intro l hfl _ _ p e ha hc hk s m args below hf hA hF happ hP
  obtain ⟨hcalls, hrest, hpre⟩ := hP
  obtain ⟨-, -, -, hnamed, -, -, -, hat⟩ := (Spec.applies_iff hf).mp happ
  obtain ⟨hg, hn⟩ := and_e (Cond.before_iff.mp (show (Jvm.Cond.and given_1 narrow_1).before args s = true from hpre))
  obtain ⟨g1, g2⟩ := and_e hg
  obtain ⟨g3, g4⟩ := and_e g2
  obtain ⟨g5, g6⟩ := and_e g4
  obtain ⟨g7, g8⟩ := and_e g6
  obtain ⟨w0, w1, w2, w3, rfl⟩ : ∃ w0 w1 w2 w3 : Value, args = #[w0, w1, w2, w3] := by
    have hs : args.size = 4 := by simpa [Cond.value, given_1] using g1
    obtain ⟨L⟩ := args
    match L, hs with
    | [w0, w1, w2, w3], _ => exact ⟨w0, w1, w2, w3, rfl⟩
  have hw := fun d (hd : d ∈ tables_1) => atoms_spec (ws := Jvm.Cond.code x code maxLocals ret :: tables_1) hat d (List.mem_cons_of_mem _ hd)
  have hfit : Fit s := fun {y c} hc i hi => by
    obtain ⟨ha, rfl⟩ := Array.getElem?_eq_some_iff.mp hc
    have q := List.all_eq_true.mp ((Array.all_eq_true_iff_forall_mem.mp hF) _ (Array.getElem_mem ha)) i (List.mem_range.mpr hi)
    simpa [Array.getElem?_eq_getElem hi] using q
  obtain ⟨i0, ei0⟩ := is_v g3
  obtain rfl : w0 = (.int i0) := Option.some.inj ei0
  obtain ⟨i1, ei1⟩ := is_v g5
  obtain rfl : w1 = (.int i1) := Option.some.inj ei1
  obtain ⟨i2, ei2⟩ := is_v g7
  obtain rfl : w2 = (.int i2) := Option.some.inj ei2
  obtain ⟨i3, ei3⟩ := is_v g8
  obtain rfl : w3 = (.int i3) := Option.some.inj ei3
  obtain ⟨n, o, h1, h2, h3, _, L, rfl, ⟨rfl, N⟩, hq⟩ := rm0 l s _ hw tables_1 i0 i1 i2 i3 s.heap s.heap.size (Nat.le_refl _)  p e ha hc hk s m _ below hf ((Spec.applies_iff_loose hf).mp happ).1 ⟨rfl, State.Warmed39.refl s, rfl⟩ trivial
  refine ⟨n, _, h1, h2, h3, hpost _ _ _ _ _ _ ⟨Cond.after_iff.mpr rfl, Cond.after_iff.mpr (eq_i res_at (Term.int_eval (1)) rfl), trivial⟩ ⟨hq.1, hq.2.1, (hq.2.2.sift fun y hy => Or.inr (N y hy)).mono (by decide) (by decide)⟩⟩
theorem main_1_1 : Claimed_1_1 := comes_1 fun _ _ _ _ _ _ h hF => ⟨h.1, hF⟩
theorem main_1_2 : Claimed_1_2 := comes_1 fun _ _ _ _ _ _ h hF => ⟨h.2.1, hF⟩
end Jvm.Pilot.@@N@@
namespace Jvm.Pilot.@@N@@
open Jvm Jvm.ClassFile Sem Op Lib Jvm.Free Jvm.Stand Jvm.Pilot.@@N@@.Jvm.D
/-! MADE BY PROGRAM (witnessworld.py) out of the Statement's table words and the real class files: 9 classes; the members and pool entries that the words name. The judged class is class 1, her method 1. -/
namespace start1
open Jvm.ClassFile
def u (s : String) : CpInfo := .utf8 (stringToUtf16 s)
/-- a pool by its gaps: so many unusable entries, then the entry; so many at the end -/
def gap : Nat → List CpInfo → List CpInfo
  | 0, r => r
  | n + 1, r => .unusable :: gap n r
def poolList (es : List (Nat × CpInfo)) (last : Nat) : List CpInfo := es.foldr (fun e r => gap e.1 (e.2 :: r)) (gap last [])
def pool (es : List (Nat × CpInfo)) (last : Nat) : Array CpInfo := ⟨poolList es last⟩
def fileOf (pool : Array CpInfo) (this : Nat) (attrs : Array Attribute := #[]) (ms : Array MethodInfo := #[]) (fl : Nat := 33) (sup : Nat := 0) (ifs : Array Nat := #[]) (fds : Array FieldInfo := #[]) : ClassFile where
  minorVersion := 0
  majorVersion := 65
  constantPool := pool
  accessFlags := fl
  thisClass := this
  superClass := sup
  interfaces := ifs
  fields := fds
  methods := ms
  attributes := attrs
def plain (name : String) (sup : Option ClassId) : Class where
  name := name
  kind := .ordinary
  loader := none
  accessFlags := 33
  super := sup
  interfaces := #[]
  cf := none
  fields := #[]
  methods := #[]
  instanceTypes := #[]
  staticTypes := #[]
  resolved := #[]
  callSites := []
  init := .initialized
  statics := none
  mirror := none

def pool0 : Array CpInfo := pool [(5, u "<init>"), (0, u "()V"), (1, .class_ 10), (1, u "java/lang/Object")] 113

def k0m0 : Method := { name := "<init>", desc := "()V", sig := { parameters := [], returnType := none }, accessFlags := 1, code := none }
/-- java/lang/Object -/
def k0 : Class := { plain "java/lang/Object" none with
  accessFlags := 33
  interfaces := #[]
  cf := some (fileOf pool0 8 #[] #[{ accessFlags := 1, nameIndex := 5, descriptorIndex := 6, attributes := #[] }] 33 0 #[] #[])
  fields := #[]
  methods := #[k0m0]
  instanceTypes := #[]
  staticTypes := #[]
  resolved := Array.replicate 124 none
  statics := none }

def pool1 : Array CpInfo := pool [(2, .class_ 4), (1, u "java/lang/Object"), (0, u "<init>"), (0, u "()V"), (0, .methodref 8 9), (0, .class_ 10), (0, .nameAndType 11 12), (0, u "com/example/randomized_protocol_models/randomizedprotocolmodels/model/Combinations"), (0, u "next"), (0, u "([I[I)Z"), (0, .class_ 14), (0, u "com/example/randomized_protocol_models/randomizedprotocolmodels/model/CombinationsNextPinLaw"), (2, u "law"), (0, u "(IIII)Z")] 5

def k1m0 : Method := { name := "<init>", desc := "()V", sig := { parameters := [], returnType := none }, accessFlags := 2, code := none }
def k1c1 : Code := { maxStack := 4, maxLocals := 21, code := code, exceptionTable := #[], attributes := #[] }
def k1m1 : Method := { name := "law", desc := "(IIII)Z", sig := { parameters := [.int, .int, .int, .int], returnType := some .boolean }, accessFlags := 9, code := some k1c1 }
/-- com/example/randomized_protocol_models/randomizedprotocolmodels/model/CombinationsNextPinLaw -/
def k1 : Class := { plain "com/example/randomized_protocol_models/randomizedprotocolmodels/model/CombinationsNextPinLaw" (some 0) with
  accessFlags := 49
  interfaces := #[]
  cf := some (fileOf pool1 13 #[] #[{ accessFlags := 2, nameIndex := 5, descriptorIndex := 6, attributes := #[] }, { accessFlags := 9, nameIndex := 17, descriptorIndex := 18, attributes := #[] }] 49 2 #[] #[])
  fields := #[]
  methods := #[k1m0, k1m1]
  instanceTypes := #[]
  staticTypes := #[]
  resolved := Array.replicate 24 none
  statics := none }

def pool2 : Array CpInfo := pool [(2, .class_ 4), (1, u "java/lang/Object"), (0, u "<init>"), (0, u "()V"), (0, .class_ 8), (0, u "com/example/randomized_protocol_models/randomizedprotocolmodels/model/Combinations"), (2, u "next"), (0, u "([I[I)Z")] 3

def k2m0 : Method := { name := "<init>", desc := "()V", sig := { parameters := [], returnType := none }, accessFlags := 2, code := none }
def k2c1 : Code := { maxStack := 4, maxLocals := 3, code := prog_65_method_2_code, exceptionTable := #[], attributes := #[] }
def k2m1 : Method := { name := "next", desc := "([I[I)Z", sig := { parameters := [(.array .int), (.array .int)], returnType := some .boolean }, accessFlags := 8, code := some k2c1 }
/-- com/example/randomized_protocol_models/randomizedprotocolmodels/model/Combinations -/
def k2 : Class := { plain "com/example/randomized_protocol_models/randomizedprotocolmodels/model/Combinations" (some 0) with
  accessFlags := 48
  interfaces := #[]
  cf := some (fileOf pool2 7 #[] #[{ accessFlags := 2, nameIndex := 5, descriptorIndex := 6, attributes := #[] }, { accessFlags := 8, nameIndex := 11, descriptorIndex := 12, attributes := #[] }] 48 2 #[] #[])
  fields := #[]
  methods := #[k2m0, k2m1]
  instanceTypes := #[]
  staticTypes := #[]
  resolved := Array.replicate 16 none
  statics := none }

def pool3 : Array CpInfo := pool [(1, u "java/lang/Cloneable"), (0, .class_ 1), (0, u "java/lang/Object"), (0, .class_ 3)] 3

/-- java/lang/Cloneable -/
def k3 : Class := { plain "java/lang/Cloneable" (some 0) with
  accessFlags := 1537
  interfaces := #[]
  cf := some (fileOf pool3 2 #[] #[] 1537 4 #[] #[])
  fields := #[]
  methods := #[]
  instanceTypes := #[]
  staticTypes := #[]
  resolved := Array.replicate 8 none
  statics := none }

def pool4 : Array CpInfo := pool [(1, u "java/io/Serializable"), (0, .class_ 1), (0, u "java/lang/Object"), (0, .class_ 3)] 3

/-- java/io/Serializable -/
def k4 : Class := { plain "java/io/Serializable" (some 0) with
  accessFlags := 1537
  interfaces := #[]
  cf := some (fileOf pool4 2 #[] #[] 1537 4 #[] #[])
  fields := #[]
  methods := #[]
  instanceTypes := #[]
  staticTypes := #[]
  resolved := Array.replicate 8 none
  statics := none }

/-- the primitive byte -/
def k5 : Class := { plain "byte" none with kind := .primitive 'B', accessFlags := 0x411 }
/-- [B -/
def k6 : Class := { plain "[B" (some 0) with kind := .array 5 .byte, interfaces := #[3, 4], accessFlags := 1041 }

/-- the primitive int -/
def k7 : Class := { plain "int" none with kind := .primitive 'I', accessFlags := 0x411 }
/-- [I -/
def k8 : Class := { plain "[I" (some 0) with kind := .array 7 .int, interfaces := #[3, 4], accessFlags := 1041 }

def heap : Heap := #[]
def classes : Array Class := #[k0, k1, k2, k3, k4, k5, k6, k7, k8]
def interned : List (Array UInt16 × Addr) := []
def slotsUsed : Nat := 0
def theMethod : MethodId := ⟨1, 1⟩
def args0 : Array Value := #[.int 5, .int 5, .int 5, .int 5]
def aboutOver (below : List Frame) : State where
  vm := { classes := classes, interned := interned.toArray }
  heap := heap
  slotsUsed := slotsUsed
  threads := #[{ frames := .invoking theMethod args0 :: below }]
def below0 : List Frame := [.native { method := ⟨0, 0⟩, args := #[] }]
def about1 : State := aboutOver below0
def p0 : Program := .bare "" "" ""
def e0 : Env := launch0.env 0 0 0
theorem w_frames : about1.frames = Frame.invoking theMethod args0 :: below0 := rfl
set_option maxRecDepth 65536 in
theorem w_args : argsFit about1.vm theMethod args0 = true := by decide +kernel
set_option maxRecDepth 65536 in
theorem w_heap : heapFits about1 = true := by decide +kernel
set_option maxRecDepth 65536 in
theorem w_runnable : about1.curStatus? = some .runnable := by decide +kernel
set_option maxRecDepth 65536 in
theorem w_alone : about1.alone = true := by decide +kernel
set_option maxRecDepth 65536 in
theorem w_named : about1.methodNamed? x = some theMethod := by decide +kernel
set_option maxRecDepth 65536 in
theorem w_hears : about1.hears theMethod below0 = true := by decide +kernel
set_option maxRecDepth 65536 in
theorem w_ripe : about1.ripe theMethod args0 below0 = true := by decide +kernel
theorem w_running : about1.status = .running := rfl
set_option maxRecDepth 65536 in
theorem w_room : about1.hasRoom e0.platform room_1 = true :=
  launch0.hasRoom_least _ room_1 (by decide +kernel) (by decide +kernel) (by decide +kernel) (by decide +kernel) (by decide +kernel) (by decide +kernel)
theorem allAtoms_all (ts : List Jvm.Cond) (a : Array Jvm.Value) (st : Jvm.State) : (allAtoms ts).before a st = ts.all (fun c => c.before a st) := by
  induction ts with
  | nil => rfl
  | cons c t ih =>
    show (Jvm.Cond.and c (allAtoms t)).before a st = _
    rw [Jvm.Cond.before_and, ih, List.all_cons]
def words1 : List Jvm.Cond := Jvm.Cond.code x code maxLocals ret :: tables_1
/-- a 'code' word, met by the world's own term for the bytes: nothing is compared byte by byte -/
theorem code_word {y : MethodName} {bytes : ByteArray} {mx : Nat} {rt : Option FieldType} {a : Array Value} {s : State} {m : MethodId} {meth : Method} {c : Code} (h1 : s.methodNamed? y = some m) (h2 : s.vm.method? m = some meth) (h3 : meth.code = some c) (h4 : c.code = bytes)
    (h5 : (c.maxLocals == mx && c.exceptionTable.isEmpty && decide (c.maxStack ≤ mostOperands) && decide (meth.sig.returnType = rt) && !meth.locks && decide (parseMethodDescriptor y.desc = some meth.sig)) = true) : (Jvm.Cond.code y bytes mx rt).before a s = true := by
  simp only [Bool.and_eq_true, beq_iff_eq, Bool.not_eq_true', decide_eq_true_eq] at h5
  obtain ⟨⟨⟨⟨⟨g1, g2⟩, g3⟩, g4⟩, g5⟩, g6⟩ := h5
  simp [Cond.before, Cond.holds, Cond.value, h1, h2, h3, h4, g1, g2, g3, g4, g5, g6]
def isCode : Jvm.Cond → Bool
  | .code _ _ _ _ => true
  | _ => false
theorem all_split {L : List Jvm.Cond} {P : Jvm.Cond → Bool} (h1 : L.all (fun c => isCode c || P c) = true) (h2 : ∀ c ∈ L.filter isCode, P c = true) : L.all P = true := by
  refine List.all_eq_true.mpr fun c hc => ?_
  have h := List.all_eq_true.mp h1 c hc
  rcases Bool.eq_false_or_eq_true (isCode c) with hi | hi
  · exact h2 c (List.mem_filter.mpr ⟨hc, hi⟩)
  · simpa [hi] using h
set_option maxRecDepth 65536 in
theorem w_c0 : (Jvm.Cond.code x code maxLocals ret).before args0 about1 = true := code_word (m := ⟨1, 1⟩) (meth := k1m1) (c := k1c1) (by decide +kernel) rfl rfl rfl (by decide +kernel)
set_option maxRecDepth 65536 in
theorem w_c1 : (Jvm.Cond.code ({ cls := "com/example/randomized_protocol_models/randomizedprotocolmodels/model/Combinations", name := "next", desc := "([I[I)Z" } : Jvm.MethodName) prog_65_method_2_code (3 : Nat) (Option.some Jvm.ClassFile.FieldType.boolean)).before args0 about1 = true := code_word (m := ⟨2, 1⟩) (meth := k2m1) (c := k2c1) (by decide +kernel) rfl rfl rfl (by decide +kernel)
def codes1 : List Jvm.Cond := [Jvm.Cond.code x code maxLocals ret, Jvm.Cond.code ({ cls := "com/example/randomized_protocol_models/randomizedprotocolmodels/model/Combinations", name := "next", desc := "([I[I)Z" } : Jvm.MethodName) prog_65_method_2_code (3 : Nat) (Option.some Jvm.ClassFile.FieldType.boolean)]
set_option maxRecDepth 65536 in
theorem codes_eq : words1.filter isCode = codes1 := rfl
theorem w_codes : ∀ c ∈ words1.filter isCode, c.before args0 about1 = true := by
  rw [codes_eq]
  intro c hc
  simp only [codes1, List.mem_cons, List.not_mem_nil, or_false] at hc
  rcases hc with rfl | rfl
  · exact w_c0
  · exact w_c1
set_option maxRecDepth 65536 in
theorem w_t1 : words1.all (fun c => isCode c || c.before args0 about1) = true := by decide +kernel
theorem w_tables : (allAtoms (Jvm.Cond.code x code maxLocals ret :: tables_1)).before args0 about1 = true := by
  rw [allAtoms_all]
  show words1.all (fun c => c.before args0 about1) = true
  refine all_split ?_ w_codes
  rw [w_t1]
set_option maxRecDepth 65536 in
theorem w_case : (Jvm.Cond.and given_1 narrow_1).before args0 about1 = true := by decide +kernel
theorem w_applies : (headSpec (Jvm.Cond.code x code maxLocals ret :: tables_1) room_1).applies x e0.platform about1 = true :=
  (Spec.applies_iff w_frames).mpr ⟨w_running, w_runnable, w_alone, w_named, w_hears, w_ripe, w_room, w_tables⟩
theorem atStart : AtStart classFile x code maxLocals ret World_1 tables_1 room_1 Calls_1 rest_1 Pre_1 launch0 p0 e0 about1 theMethod args0 below0 :=
  ⟨lists_1, trivial, launch0.admits_env _ _ _, launch0.least_env, fairChoices_fair.cas, fairChoices_fair.clock, w_frames, w_args, w_heap, w_applies, trivial, trivial, w_case⟩
end start1
theorem witness_1 : WitnessClaimed_1 := ⟨start1.p0, start1.e0, start1.about1, start1.theMethod, start1.args0, start1.below0, start1.atStart⟩
end Jvm.Pilot.@@N@@

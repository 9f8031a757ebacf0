import JvmDerived
import JvmDerived.Pilot.@@N@@Statement
import JvmDerived.Pilot.@@N@@Code
set_option linter.unusedVariables false
set_option linter.unusedSimpArgs false
namespace Jvm.RoadKit
open Sem ClassFile Op Lib Jvm.Stand Jvm.Free Jvm.LawKit
section New
variable {p : Program} {l : Launch} {e : Env} {R : Room} {s : State} {m : MethodId} {args : Array Value} {below : List Frame} {meth : Method} {c : Code} {T : State} {locs : List Loc} {cells slots : Nat}
theorem retI (X : Stand p l e R s m args below meth c T locs cells slots) (hx : p.tables.exec = Jvm.exec) {pc : Nat} {Ls : Array Slot} {z : Int32} {rest : List Value} (hret : meth.sig.returnType = some .int) (hd : decode c.code pc = .ok (.ireturn, 1)) {fs : List Frame}
    (hl : ∀ (f : JFrame) (acts : List Action), f.method = m → f.locked = none → f.entered = [] → (doReturn e (T.setTop f) acts (some (.int z))).1 = T.setFrames fs) : Steps p.tables e below (T.setTop (mkF m pc Ls (.int z :: rest))) (T.setFrames fs) := by
  have hm' : T.vm.method? m = some meth := X.method'
  have hn : narrow .int (.int z) = .int z := rfl
  show Steps p.tables e below (T.setTop { method := m, pc := pc, locals := Ls, stack := _ :: rest, locked := none }) _
  jvm_step X.here [X.here.top, hx, hd, hm', hret, hn]
  first | (intro acts; rw [hl _ acts rfl rfl rfl]) | rw [hl _ _ rfl rfl rfl]
  exact Steps.refl _
end New
end Jvm.RoadKit
namespace Jvm.Pilot.@@N@@
open Jvm Jvm.ClassFile Sem Op Lib Jvm.Free Jvm.Stand Jvm.LawKit Jvm.RoadKit Bundle Jvm.Pilot.@@N@@.Jvm.D
theorem own_sta_keep {Z : State} {h h' : Heap} {C n d : String} {v : Value} (F : Sta Z h C n d v) (K : Keep h h' []) : Sta Z h' C n d v := by
  obtain ⟨cf, i, k, f, st, cell, h1, h2, h3, h4, h5, r⟩ := F
  exact ⟨cf, i, k, f, st, cell, h1, h2, h3, h4, K.2.1 _ _ h5 nin0, r⟩
/-- whoever comes from B to t comes from A to t -/
abbrev own_R (p : Program) (e : Env) (below : List Frame) (A B : State) : Prop := ∀ t, Steps p.tables e below B t → Steps p.tables e below A t
section OwnFP
open Jvm.FP.Core
/-- a positive whole number times 2^e, rounded to a double without overflow -/
theorem own_round (A : Nat) (e : Int) (hA : 0 < A) (hq : quantum b64 A 1 e + 1 ≤ b64.qmax) :
    ∃ c q', roundRatio b64 false A 1 e = .fin false c q' ∧ c ≤ 2 ^ 53 ∧
      ((c = nearest (unitsNum A e (quantum b64 A 1 e)) (unitsDen 1 e (quantum b64 A 1 e)) ∧ q' = quantum b64 A 1 e) ∨
       (nearest (unitsNum A e (quantum b64 A 1 e)) (unitsDen 1 e (quantum b64 A 1 e)) = 2 ^ 53 ∧ c = 2 ^ 52 ∧ q' = quantum b64 A 1 e + 1)) := by
  have hle : nearest (unitsNum A e (quantum b64 A 1 e)) (unitsDen 1 e (quantum b64 A 1 e)) ≤ 2 ^ b64.p := nearest_units_le hA (by decide) e
  have hne : ¬ A = 0 := by omega
  unfold roundRatio roundAt settle
  rw [if_neg hne]
  generalize quantum b64 A 1 e = q at *
  generalize nearest (unitsNum A e q) (unitsDen 1 e q) = n at *
  have p53 : b64.p = 53 := rfl
  by_cases h : n < 2 ^ b64.p
  · rw [if_pos h]; unfold bound; rw [if_pos (by omega)]; exact ⟨n, q, rfl, hle, Or.inl ⟨rfl, rfl⟩⟩
  · rw [if_neg h]; unfold bound; rw [if_pos hq]
    exact ⟨b64.tails, q + 1, rfl, by decide, Or.inr ⟨by rw [p53] at h hle; omega, rfl, rfl⟩⟩
theorem own_l2d (x : Int64) (X : Nat) (hX : x.toInt = X) (h0 : 0 < X) (h63 : X < 2 ^ 63) :
    ∃ (c E : Nat), val64 (l2d x) = .fin false c ((E : Int) - 52) ∧ E ≤ 63 ∧ 2 ^ 52 ≤ c ∧ c ≤ 2 ^ 53 ∧ 2 * (c * 2 ^ E) ≤ 2 * (X * 2 ^ 52) + 2 ^ 62 ∧ 2 * (X * 2 ^ 52) ≤ 2 * (c * 2 ^ E) + 2 ^ 62 := by
  have e0 : val64 (l2d x) = roundRatio b64 false X 1 0 := by
    rw [val64_l2d, hX]
    show roundRatio b64 (decide ((X : Int) < 0)) (X : Int).natAbs 1 0 = _
    rw [decide_eq_false (by omega), Int.natAbs_natCast]
  have qb := quantum_below (f := b64) h0 (B := 1) (by decide) 0
  have qn := quantum_not_below (f := b64) h0 (B := 1) (by decide) 0
  have p53 : (b64.p : Int) = 53 := rfl
  have qm : b64.qmin = -1074 := by decide
  have qM : b64.qmax = 971 := by decide
  rw [p53] at qb qn
  rw [qm] at qn
  have rr := own_round X 0 h0
  rw [qM] at rr
  generalize hq : quantum b64 X 1 0 = q at *
  unfold Below at qb qn
  have hlo : 1 ≤ q + 53 := by
    refine Decidable.byContradiction fun h => ?_
    rw [show (q - 0 + 53).toNat = 0 by omega] at qb
    have := Nat.two_pow_pos (-(q - 0 + 53)).toNat
    have := Nat.mul_pos h0 this
    omega
  obtain ⟨E, hE⟩ : ∃ E : Nat, q = (E : Int) - 52 := ⟨(q + 52).toNat, by omega⟩
  have qn' := qn.resolve_left (by omega)
  rw [show (-(q - 0 + 53)).toNat = 0 by omega, show (q - 0 + 53).toNat = E + 1 by omega] at qb
  rw [show (-(q - 0 + (53 - 1))).toNat = 0 by omega, show (q - 0 + (53 - 1)).toNat = E by omega] at qn'
  have hx1 : X < 2 ^ (E + 1) := by omega
  have hx2 : 2 ^ E ≤ X := by omega
  have hE62 : E ≤ 62 := by
    apply Nat.le_of_lt_succ; apply Nat.lt_of_not_ge; intro h
    have := Nat.pow_le_pow_right (n := 2) (by decide) h
    omega
  have hEp : 2 ^ E ≤ 2 ^ 62 := Nat.pow_le_pow_right (by decide) hE62
  obtain ⟨c, q', e1, hc53, hc⟩ := rr (by omega)
  -- N and D
  obtain ⟨a, ha⟩ : ∃ a : Nat, a = (0 - q).toNat := ⟨_, rfl⟩
  obtain ⟨b, hb⟩ : ∃ b : Nat, b = (q - 0).toNat := ⟨_, rfl⟩
  have eN : unitsNum X 0 q = X * 2 ^ a := by unfold unitsNum; rw [ha]
  have eD : unitsDen 1 0 q = 2 ^ b := by unfold unitsDen; rw [hb, Nat.one_mul]
  rw [eN, eD] at hc
  have hDpos : 0 < 2 ^ b := Nat.two_pow_pos b
  have sp := nearest_spec (X * 2 ^ a) (2 ^ b) hDpos
  have ge : 2 ^ 52 ≤ nearest (X * 2 ^ a) (2 ^ b) := nearest_ge hDpos (by
    rw [← Nat.pow_add, show 52 + b = E + a by omega, Nat.pow_add]
    exact Nat.mul_le_mul_right _ hx2)
  generalize nearest (X * 2 ^ a) (2 ^ b) = n at *
  obtain ⟨k, hk⟩ : ∃ k : Nat, k + a = 52 := ⟨52 - a, by omega⟩
  have m1 : X * 2 ^ a * 2 ^ k = X * 2 ^ 52 := by rw [Nat.mul_assoc, ← Nat.pow_add, show a + k = 52 by omega]
  have m2 : n * 2 ^ b * 2 ^ k = n * 2 ^ E := by rw [Nat.mul_assoc, ← Nat.pow_add, show b + k = E by omega]
  have m3 : 2 ^ b * 2 ^ k = 2 ^ E := by rw [← Nat.pow_add, show b + k = E by omega]
  have s1 := Nat.mul_le_mul_right (2 ^ k) sp.1
  have s2 := Nat.mul_le_mul_right (2 ^ k) sp.2.1
  have s1' : 2 * (X * 2 ^ 52) ≤ 2 * (n * 2 ^ E) + 2 ^ E := by
    have l : 2 * (X * 2 ^ a) * 2 ^ k = 2 * (X * 2 ^ 52) := by rw [Nat.mul_assoc, m1]
    have r : (2 * n + 1) * 2 ^ b * 2 ^ k = 2 * (n * 2 ^ E) + 2 ^ E := by
      rw [Nat.add_mul, Nat.add_mul, Nat.one_mul, m3, Nat.mul_assoc 2 n, Nat.mul_assoc 2 (n * 2 ^ b), m2]
    rw [l, r] at s1; exact s1
  have s2' : 2 * (n * 2 ^ E) ≤ 2 * (X * 2 ^ 52) + 2 ^ E := by
    have l : 2 * n * 2 ^ b * 2 ^ k = 2 * (n * 2 ^ E) := by rw [Nat.mul_assoc 2 n, Nat.mul_assoc 2 (n * 2 ^ b), m2]
    have r : (2 * (X * 2 ^ a) + 2 ^ b) * 2 ^ k = 2 * (X * 2 ^ 52) + 2 ^ E := by rw [Nat.add_mul, m3, Nat.mul_assoc, m1]
    rw [l, r] at s2; exact s2
  rcases hc with ⟨rfl, rfl⟩ | ⟨hn, rfl, rfl⟩
  · exact ⟨c, E, by rw [e0, e1, hE], by omega, ge, hc53, by omega, by omega⟩
  · have e5 : 2 ^ 52 * 2 ^ (E + 1) = 2 ^ 53 * 2 ^ E := by rw [← Nat.pow_add, ← Nat.pow_add]; congr 1; omega
    refine ⟨2 ^ 52, E + 1, by rw [e0, e1, hE]; congr 1; omega, by omega, Nat.le_refl _, by decide, ?_, ?_⟩
    · rw [hn] at s2'; rw [e5]; omega
    · rw [hn] at s1'; rw [e5]; omega
theorem own_K : val64 4472406533629990549 = .fin false 4835703278458517 (-82) := by decide +kernel
theorem own_mul (a : UInt64) (c E : Nat) (ha : val64 a = .fin false c ((E : Int) - 52)) (hE : E ≤ 63) (h1 : 2 ^ 52 ≤ c) (h2 : c ≤ 2 ^ 53) :
    ∃ Q : Nat, d2l (dmul a 4472406533629990549) = Int64.ofInt (max (-2 ^ 63) (min (2 ^ 63 - 1) (Q : Int))) ∧ 2 * (Q * 2 ^ 134) ≤ 2 * (4835703278458517 * (c * 2 ^ E)) + 2 ^ 116 ∧ 2 * (4835703278458517 * (c * 2 ^ E)) < 2 * ((Q + 1) * 2 ^ 134) + 2 ^ 116 := by
  obtain ⟨A, hA⟩ : ∃ A : Nat, A = c * 4835703278458517 := ⟨_, rfl⟩
  have A1 : 2 ^ 104 ≤ A := by rw [hA]; omega
  have A2 : A < 2 ^ 106 := by rw [hA]; omega
  have h0 : 0 < A := by omega
  obtain ⟨e, he⟩ : ∃ e : Int, e = (E : Int) - 134 := ⟨_, rfl⟩
  have e0 : val64 (dmul a 4472406533629990549) = roundRatio b64 false A 1 e := by
    rw [val64_dmul, ha, own_K]
    show roundRatio b64 (false != false) (c * 4835703278458517) 1 ((E : Int) - 52 + -82) = _
    rw [hA, he]; congr 1; omega
  have qb := quantum_below (f := b64) h0 (B := 1) (by decide) e
  have qn := quantum_not_below (f := b64) h0 (B := 1) (by decide) e
  have p53 : (b64.p : Int) = 53 := rfl
  have qm : b64.qmin = -1074 := by decide
  have qM : b64.qmax = 971 := by decide
  rw [p53] at qb qn
  rw [qm] at qn
  have rr := own_round A e h0
  rw [qM] at rr
  generalize hq : quantum b64 A 1 e = q at *
  unfold Below at qb qn
  have hlo : 52 ≤ q - e := by
    refine Decidable.byContradiction fun h => ?_
    have u1 : A ≤ A * 2 ^ (-(q - e + 53)).toNat := Nat.le_mul_of_pos_right _ (Nat.two_pow_pos _)
    have u2 : 2 ^ (q - e + 53).toNat ≤ 2 ^ 104 := Nat.pow_le_pow_right (by decide) (by omega)
    omega
  obtain ⟨d, hd⟩ : ∃ d : Nat, q = e + d := ⟨(q - e).toNat, by omega⟩
  have qn' := qn.resolve_left (by omega)
  rw [show (-(q - e + (53 - 1))).toNat = 0 by omega, show (q - e + (53 - 1)).toNat = d + 52 by omega] at qn'
  have hd53 : d ≤ 53 := by
    apply Nat.le_of_lt_succ; apply Nat.lt_of_not_ge; intro h
    have := Nat.pow_le_pow_right (n := 2) (by decide) (show 106 ≤ d + 52 by omega)
    omega
  obtain ⟨c3, q3, e1, -, hc⟩ := rr (by omega)
  have eN : unitsNum A e q = A := by unfold unitsNum; rw [show (e - q).toNat = 0 by omega]; omega
  have eD : unitsDen 1 e q = 2 ^ d := by unfold unitsDen; rw [show (q - e).toNat = d by omega, Nat.one_mul]
  rw [eN, eD] at hc
  have hDpos : 0 < 2 ^ d := Nat.two_pow_pos d
  have sp := nearest_spec A (2 ^ d) hDpos
  generalize nearest A (2 ^ d) = n at *
  obtain ⟨S, hS⟩ : ∃ S : Nat, S + d + E = 134 := ⟨134 - d - E, by omega⟩
  have eQ : c3 * 2 ^ q3.toNat / 2 ^ (-q3).toNat = n / 2 ^ S := by
    rcases hc with ⟨rfl, rfl⟩ | ⟨hn, rfl, rfl⟩
    · rw [show q3.toNat = 0 by omega, show (-q3).toNat = S by omega]; simp
    · have e7 : (2 : Nat) ^ S = 2 ^ (-(q + 1)).toNat * 2 := by
        have : S = (-(q + 1)).toNat + 1 := by omega
        rw [this]; exact Nat.pow_succ 2 _
      have e8 : (2 : Nat) ^ 53 = 2 ^ 52 * 2 := rfl
      rw [show (q + 1).toNat = 0 by omega, hn, e7, e8, Nat.mul_div_mul_right _ _ (by decide : 0 < 2), Nat.pow_zero, Nat.mul_one]
  refine ⟨n / 2 ^ S, ?_, ?_, ?_⟩
  · show toL (val64 _) = _
    rw [e0, e1]
    show Int64.ofInt (max (-2 ^ 63) (min (2 ^ 63 - 1) (signed false (c3 * 2 ^ q3.toNat / 2 ^ (-q3).toNat)))) = _
    rw [eQ]; rfl
  · have t1 : n / 2 ^ S * 2 ^ S ≤ n := Nat.div_mul_le_self _ _
    have t2 := Nat.mul_le_mul_right (2 ^ (d + E)) t1
    rw [Nat.mul_assoc, ← Nat.pow_add, show S + (d + E) = 134 by omega, Nat.pow_add, ← Nat.mul_assoc] at t2
    have t3 := Nat.mul_le_mul_right (2 ^ E) sp.2.1
    rw [Nat.add_mul, ← Nat.pow_add] at t3
    have t4 : 2 ^ (d + E) ≤ 2 ^ 116 := Nat.pow_le_pow_right (by decide) (by omega)
    have t5 : 2 * n * 2 ^ d * 2 ^ E = 2 * (n * 2 ^ d * 2 ^ E) := by rw [Nat.mul_assoc 2, Nat.mul_assoc 2]
    have t6 : 2 * A * 2 ^ E = 2 * (4835703278458517 * (c * 2 ^ E)) := by rw [hA, Nat.mul_comm c, Nat.mul_assoc 2, Nat.mul_assoc]
    rw [t5, t6] at t3
    omega
  · have t1 : n < (n / 2 ^ S + 1) * 2 ^ S := by
      have := Nat.lt_div_mul_add (a := n) (Nat.two_pow_pos S)
      rw [Nat.add_mul, Nat.one_mul]; exact this
    have t2 := Nat.mul_lt_mul_of_pos_right t1 (Nat.two_pow_pos (d + E))
    rw [Nat.mul_assoc, ← Nat.pow_add, show S + (d + E) = 134 by omega, Nat.pow_add, ← Nat.mul_assoc] at t2
    have t3 := Nat.mul_le_mul_right (2 ^ E) sp.1
    have t4 : 2 ^ (d + E) ≤ 2 ^ 116 := Nat.pow_le_pow_right (by decide) (by omega)
    have t5 : (2 * n + 1) * 2 ^ d * 2 ^ E = 2 * (n * 2 ^ d * 2 ^ E) + 2 ^ (d + E) := by rw [Nat.add_mul, Nat.add_mul, Nat.one_mul, Nat.pow_add, Nat.mul_assoc 2, Nat.mul_assoc 2]
    have t6 : 2 * A * 2 ^ E = 2 * (4835703278458517 * (c * 2 ^ E)) := by rw [hA, Nat.mul_comm c, Nat.mul_assoc 2, Nat.mul_assoc]
    rw [t5, t6] at t3
    omega
/-- the quotient by a double product is off by one at the most -/
theorem own_q (x : Int64) (h : 0 ≤ x.toInt) : 0 ≤ (d2l (dmul (l2d x) 4472406533629990549)).toInt ∧ -1000000000 ≤ x.toInt - (d2l (dmul (l2d x) 4472406533629990549)).toInt * 1000000000 ∧ x.toInt - (d2l (dmul (l2d x) 4472406533629990549)).toInt * 1000000000 < 2000000000 := by
  by_cases hz : x = 0
  · subst hz; decide +kernel
  · have hne : x.toInt ≠ 0 := fun q => hz (Int64.toInt_inj.mp q)
    obtain ⟨X, hX⟩ : ∃ X : Nat, x.toInt = X := ⟨x.toInt.toNat, by omega⟩
    have r := x.toInt_lt
    obtain ⟨c, E, e1, hE, c1, c2, v1, v2⟩ := own_l2d x X hX (by omega) (by omega)
    obtain ⟨Q, e2, q1, q2⟩ := own_mul (l2d x) c E e1 hE c1 c2
    generalize c * 2 ^ E = V at *
    have hQ : (d2l (dmul (l2d x) 4472406533629990549)).toInt = Q := by
      rw [e2, Int64.toInt_ofInt_of_le (by omega) (by omega)]; omega
    rw [hQ, hX]
    omega
end OwnFP
def own_max (q0 : Int64) (q1 : Int64) : Int64 := (if q0 < q1 then q1 else q0)
theorem d1_0 : decode jdk_29_method_66_code 0 = .ok (.lload_n 0, 1) := by decide +kernel
theorem d1_1 : decode jdk_29_method_66_code 1 = .ok (.lload_n 2, 1) := by decide +kernel
theorem d1_2 : decode jdk_29_method_66_code 2 = .ok (.lcmp, 1) := by decide +kernel
theorem d1_3 : decode jdk_29_method_66_code 3 = .ok (.ifCond .lt 7, 3) := by decide +kernel
theorem d1_6 : decode jdk_29_method_66_code 6 = .ok (.lload_n 0, 1) := by decide +kernel
theorem d1_7 : decode jdk_29_method_66_code 7 = .ok (.goto 4, 3) := by decide +kernel
theorem d1_10 : decode jdk_29_method_66_code 10 = .ok (.lload_n 2, 1) := by decide +kernel
theorem d1_11 : decode jdk_29_method_66_code 11 = .ok (.lreturn, 1) := by decide +kernel
theorem ef_1 (m : MethodId) (x0 : Int64) (x1 : Int64) : entryFrame m #[(.long x0), (.long x1)] 4 = mkF m 0 #[.val (.long x0), .second, .val (.long x1), .second] [] := by first | (simp [entryFrame, mkF, argsToLocals, Value.category]; done) | rfl
def Q1 (Z : State) (q0 : Int64) (q1 : Int64) (h0 : Heap) (n0 : Nat) (v : Option Value) (h : Heap) (L : List Loc) : Prop := v = some (.long (own_max q0 q1)) ∧ Fr n0 L ∧ h = h0
set_option maxRecDepth 65536 in
set_option maxHeartbeats 40000000 in
theorem rm1 (l : Launch) (Z : State) (a0 : Array Value) (hw : ∀ d ∈ tables_1, d.before a0 Z = true) (ws : List Jvm.Cond) (q0 : Int64) (q1 : Int64) (h0 : Heap) (n0 : Nat) (Z0 : n0 ≤ h0.size) :
    MetFree l (⟨"java/lang/Math", "max", "(JJ)J"⟩ : MethodName) (head1 (Jvm.Cond.code (⟨"java/lang/Math", "max", "(JJ)J"⟩ : MethodName) jdk_29_method_66_code 4 (some .long) :: ws) ({ frames := 0, cells := 0, slots := 0, locals := 0 } : Room)) (fun a U => a = #[(.long q0), (.long q1)] ∧ Z.Warmed39 U.vm ∧ U.heap = h0) (fun _ _ _ _ _ => True) (fun _ U o U' => ∃ v L, o = .returned v ∧ Q1 Z q0 q1 h0 n0 v U'.heap L ∧ FrameEnd U o U' L ({ frames := 0, cells := 0, slots := 0, locals := 0 } : Room).cells ({ frames := 0, cells := 0, slots := 0, locals := 0 } : Room).slots) := by
  refine MetFree.of_bodySF (Jvm.Free.JP.mathPlain rfl (by decide +kernel)) hisR ?_
  intro p e s m args below meth c s₁ Bd hml0 hP hK
  obtain ⟨rfl, hZ, hh⟩ := hP
  have hx := Bd.exec
  have hby := Bd.bytes
  have hml : c.maxLocals = 4 := hml0
  have hown : s.vm.findClass "java/lang/Math" = some m.cls := findClass_of_methodNamed Bd.named
  have hnm := (name_of_methodNamed Bd.named Bd.method).1
  have X0 : Stand p l e ({ frames := 0, cells := 0, slots := 0, locals := 0 } : Room) s m #[(.long q0), (.long q1)] below meth c s₁ [] 0 0 := Stand.of_body Bd
  have e0 : s₁.heap = h0 := by rw [← hh, Bd.state]; rfl
  have N0 := Fr.nil n0
  have k0 : own_R p e below (s₁.setTop (entryFrame m #[(.long q0), (.long q1)] 4)) (s₁.setTop (mkF m 0 #[.val (.long q0), .second, .val (.long q1), .second] [])) := fun t k => castTop (ef_1 m q0 q1) k
  have ks1 : own_R p e below (s₁.setTop (entryFrame m #[(.long q0), (.long q1)] 4)) (s₁.setTop (mkF m 3 #[.val (.long q0), .second, .val (.long q1), .second] [(.int (lcmpW q0 q1))])) := fun t k => k0 t (by
    show Steps p.tables e below (s₁.setTop (mkF m 0 #[.val (.long q0), .second, .val (.long q1), .second] [])) _
    refine XS.lloadN X0.here hx rfl (hb hby d1_0) rfl ?_
    show Steps p.tables e below (s₁.setTop (mkF m 1 #[.val (.long q0), .second, .val (.long q1), .second] [(.long q0)])) _
    refine XS.lloadN X0.here hx rfl (hb hby d1_1) rfl ?_
    show Steps p.tables e below (s₁.setTop (mkF m 2 #[.val (.long q0), .second, .val (.long q1), .second] [(.long q1), (.long q0)])) _
    refine XS.lcmp X0.here hx rfl (hb hby d1_2) rfl ?_
    exact k)
  by_cases hc2 : q0 < q1
  · skip
    have ks3 : own_R p e below (s₁.setTop (entryFrame m #[(.long q0), (.long q1)] 4)) (s₁.setTop (mkF m 11 #[.val (.long q0), .second, .val (.long q1), .second] [(.long q1)])) := fun t k => ks1 t (by
      show Steps p.tables e below (s₁.setTop (mkF m 3 #[.val (.long q0), .second, .val (.long q1), .second] [(.int (lcmpW q0 q1))])) _
      refine XS.ifYes X0.here hx rfl (pc0 := 3) (pc' := 10) rfl (hb hby d1_3) rfl ((if0 _ _).trans (tlt ((lw_lt _ _).mpr hc2)).1) (by decide) (by decide) ?_
      show Steps p.tables e below (s₁.setTop (mkF m 10 #[.val (.long q0), .second, .val (.long q1), .second] [])) _
      refine XS.lloadN X0.here hx rfl (hb hby d1_10) rfl ?_
      exact k)
    obtain ⟨fs, hr, hrun, hended, hW, hsame⟩ := X0.leave (v := some (.long q1)) (fun h => by rw [Bd.returns] at h; cases h)
    refine ⟨_, _, ks3 _ ?_, hrun, hended, _, _, rfl, ?_, ⟨_, rfl⟩, hW, hsame.mono (by decide) (by decide)⟩
    · exact retOut X0 hx Bd.returns rfl (Or.inr (Or.inl ⟨rfl, rfl, _, rfl⟩)) (hb hby d1_11) hr
    · show Q1 Z q0 q1 h0 n0 _ s₁.heap _
      rw [e0]
      refine ⟨?_, N0, rfl⟩
      rw [own_max, if_pos hc2]
  · skip
    have ks4 : own_R p e below (s₁.setTop (entryFrame m #[(.long q0), (.long q1)] 4)) (s₁.setTop (mkF m 11 #[.val (.long q0), .second, .val (.long q1), .second] [(.long q0)])) := fun t k => ks1 t (by
      show Steps p.tables e below (s₁.setTop (mkF m 3 #[.val (.long q0), .second, .val (.long q1), .second] [(.int (lcmpW q0 q1))])) _
      refine XS.ifNo X0.here hx rfl (hb hby d1_3) rfl ((if0 _ _).trans (flt (fun q => hc2 ((lw_lt _ _).mp q))).1) ?_
      show Steps p.tables e below (s₁.setTop (mkF m 6 #[.val (.long q0), .second, .val (.long q1), .second] [])) _
      refine XS.lloadN X0.here hx rfl (hb hby d1_6) rfl ?_
      show Steps p.tables e below (s₁.setTop (mkF m 7 #[.val (.long q0), .second, .val (.long q1), .second] [(.long q0)])) _
      refine XS.goto X0.here hx rfl (pc0 := 7) (pc' := 11) rfl (hb hby d1_7) (by decide) (by decide) ?_
      exact k)
    obtain ⟨fs, hr, hrun, hended, hW, hsame⟩ := X0.leave (v := some (.long q0)) (fun h => by rw [Bd.returns] at h; cases h)
    refine ⟨_, _, ks4 _ ?_, hrun, hended, _, _, rfl, ?_, ⟨_, rfl⟩, hW, hsame.mono (by decide) (by decide)⟩
    · exact retOut X0 hx Bd.returns rfl (Or.inr (Or.inl ⟨rfl, rfl, _, rfl⟩)) (hb hby d1_11) hr
    · show Q1 Z q0 q1 h0 n0 _ s₁.heap _
      rw [e0]
      refine ⟨?_, N0, rfl⟩
      rw [own_max, if_neg hc2]
theorem own_nn (x : Int64) : Jvm.Free.Fl.NoNaN64 (FP.dmul (FP.l2d x) 4472406533629990549) := Jvm.Free.Fl.dmul_out (Jvm.Free.Fl.l2d_fin x) (by unfold Jvm.Free.Fl.Fin64; decide +kernel)
def own_lq (q0 : Int64) : Int64 := (if (q0 - ((FP.d2l (FP.dmul (FP.l2d q0) (4472406533629990549 : UInt64))) * (1000000000 : Int64))) < (0 : Int64) then ((FP.d2l (FP.dmul (FP.l2d q0) (4472406533629990549 : UInt64))) - (1 : Int64)) else (if (q0 - ((FP.d2l (FP.dmul (FP.l2d q0) (4472406533629990549 : UInt64))) * (1000000000 : Int64))) < (1000000000 : Int64) then (FP.d2l (FP.dmul (FP.l2d q0) (4472406533629990549 : UInt64))) else ((FP.d2l (FP.dmul (FP.l2d q0) (4472406533629990549 : UInt64))) + (1 : Int64))))
theorem d2_0 : decode prog_15_method_23_code 0 = .ok (.lload_n 0, 1) := by decide +kernel
theorem d2_1 : decode prog_15_method_23_code 1 = .ok (.l2d, 1) := by decide +kernel
theorem d2_2 : decode prog_15_method_23_code 2 = .ok (.ldc2_w 244, 3) := by decide +kernel
theorem d2_5 : decode prog_15_method_23_code 5 = .ok (.dmul, 1) := by decide +kernel
theorem d2_6 : decode prog_15_method_23_code 6 = .ok (.d2l, 1) := by decide +kernel
theorem d2_7 : decode prog_15_method_23_code 7 = .ok (.lstore_n 2, 1) := by decide +kernel
theorem d2_8 : decode prog_15_method_23_code 8 = .ok (.lload_n 0, 1) := by decide +kernel
theorem d2_9 : decode prog_15_method_23_code 9 = .ok (.lload_n 2, 1) := by decide +kernel
theorem d2_10 : decode prog_15_method_23_code 10 = .ok (.ldc2_w 55, 3) := by decide +kernel
theorem d2_13 : decode prog_15_method_23_code 13 = .ok (.lmul, 1) := by decide +kernel
theorem d2_14 : decode prog_15_method_23_code 14 = .ok (.lsub, 1) := by decide +kernel
theorem d2_15 : decode prog_15_method_23_code 15 = .ok (.lstore 4, 2) := by decide +kernel
theorem d2_17 : decode prog_15_method_23_code 17 = .ok (.lload 4, 2) := by decide +kernel
theorem d2_19 : decode prog_15_method_23_code 19 = .ok (.lconst 0, 1) := by decide +kernel
theorem d2_20 : decode prog_15_method_23_code 20 = .ok (.lcmp, 1) := by decide +kernel
theorem d2_21 : decode prog_15_method_23_code 21 = .ok (.ifCond .ge 10, 3) := by decide +kernel
theorem d2_24 : decode prog_15_method_23_code 24 = .ok (.lload_n 2, 1) := by decide +kernel
theorem d2_25 : decode prog_15_method_23_code 25 = .ok (.lconst 1, 1) := by decide +kernel
theorem d2_26 : decode prog_15_method_23_code 26 = .ok (.lsub, 1) := by decide +kernel
theorem d2_27 : decode prog_15_method_23_code 27 = .ok (.lstore_n 2, 1) := by decide +kernel
theorem d2_28 : decode prog_15_method_23_code 28 = .ok (.goto 16, 3) := by decide +kernel
theorem d2_31 : decode prog_15_method_23_code 31 = .ok (.lload 4, 2) := by decide +kernel
theorem d2_33 : decode prog_15_method_23_code 33 = .ok (.ldc2_w 55, 3) := by decide +kernel
theorem d2_36 : decode prog_15_method_23_code 36 = .ok (.lcmp, 1) := by decide +kernel
theorem d2_37 : decode prog_15_method_23_code 37 = .ok (.ifCond .lt 7, 3) := by decide +kernel
theorem d2_40 : decode prog_15_method_23_code 40 = .ok (.lload_n 2, 1) := by decide +kernel
theorem d2_41 : decode prog_15_method_23_code 41 = .ok (.lconst 1, 1) := by decide +kernel
theorem d2_42 : decode prog_15_method_23_code 42 = .ok (.ladd, 1) := by decide +kernel
theorem d2_43 : decode prog_15_method_23_code 43 = .ok (.lstore_n 2, 1) := by decide +kernel
theorem d2_44 : decode prog_15_method_23_code 44 = .ok (.lload_n 2, 1) := by decide +kernel
theorem d2_45 : decode prog_15_method_23_code 45 = .ok (.lreturn, 1) := by decide +kernel
theorem pn_2 : plainName "com/example/gearwork/gearwork/core/Decimal" = true := by first | (simp [plainName, overriddenIn]; done) | decide +kernel
theorem ef_2 (m : MethodId) (x0 : Int64) : entryFrame m #[(.long x0)] 6 = mkF m 0 #[.val (.long x0), .second, .unset, .unset, .unset, .unset] [] := by first | (simp [entryFrame, mkF, argsToLocals, Value.category]; done) | rfl
def Q2 (Z : State) (q0 : Int64) (h0 : Heap) (n0 : Nat) (v : Option Value) (h : Heap) (L : List Loc) : Prop := v = some (.long (own_lq q0)) ∧ Fr n0 L ∧ h = h0
set_option maxRecDepth 65536 in
set_option maxHeartbeats 40000000 in
theorem rm2 (l : Launch) (Z : State) (a0 : Array Value) (hw : ∀ d ∈ tables_1, d.before a0 Z = true) (ws : List Jvm.Cond) (q0 : Int64) (h0 : Heap) (n0 : Nat) (Z0 : n0 ≤ h0.size) :
    MetFree l (⟨"com/example/gearwork/gearwork/core/Decimal", "limbQuotient", "(J)J"⟩ : MethodName) (head1 (Jvm.Cond.code (⟨"com/example/gearwork/gearwork/core/Decimal", "limbQuotient", "(J)J"⟩ : MethodName) prog_15_method_23_code 6 (some .long) :: ws) ({ frames := 0, cells := 0, slots := 0, locals := 0 } : Room)) (fun a U => a = #[(.long q0)] ∧ Z.Warmed39 U.vm ∧ U.heap = h0) (fun _ _ _ _ _ => True) (fun _ U o U' => ∃ v L, o = .returned v ∧ Q2 Z q0 h0 n0 v U'.heap L ∧ FrameEnd U o U' L ({ frames := 0, cells := 0, slots := 0, locals := 0 } : Room).cells ({ frames := 0, cells := 0, slots := 0, locals := 0 } : Room).slots) := by
  refine MetFree.of_bodySF (plainFor_of_name pn_2) hisR ?_
  intro p e s m args below meth c s₁ Bd hml0 hP hK
  obtain ⟨rfl, hZ, hh⟩ := hP
  have hx := Bd.exec
  have hby := Bd.bytes
  have hml : c.maxLocals = 6 := hml0
  have hown : s.vm.findClass "com/example/gearwork/gearwork/core/Decimal" = some m.cls := findClass_of_methodNamed Bd.named
  have hnm := (name_of_methodNamed Bd.named Bd.method).1
  have X0 : Stand p l e ({ frames := 0, cells := 0, slots := 0, locals := 0 } : Room) s m #[(.long q0)] below meth c s₁ [] 0 0 := Stand.of_body Bd
  have e0 : s₁.heap = h0 := by rw [← hh, Bd.state]; rfl
  have N0 := Fr.nil n0
  have k0 : own_R p e below (s₁.setTop (entryFrame m #[(.long q0)] 6)) (s₁.setTop (mkF m 0 #[.val (.long q0), .second, .unset, .unset, .unset, .unset] [])) := fun t k => castTop (ef_2 m q0) k
  have ks1 : own_R p e below (s₁.setTop (entryFrame m #[(.long q0)] 6)) (s₁.setTop (mkF m 7 #[.val (.long q0), .second, .unset, .unset, .unset, .unset] [(.long (FP.d2l (FP.dmul (FP.l2d q0) (4472406533629990549 : UInt64))))])) := fun t k => k0 t (by
    show Steps p.tables e below (s₁.setTop (mkF m 0 #[.val (.long q0), .second, .unset, .unset, .unset, .unset] [])) _
    refine XS.lloadN X0.here hx rfl (hb hby d2_0) rfl ?_
    show Steps p.tables e below (s₁.setTop (mkF m 1 #[.val (.long q0), .second, .unset, .unset, .unset, .unset] [(.long q0)])) _
    refine XS.l2dS X0.here hx rfl (hb hby d2_1) rfl rfl ?_
    show Steps p.tables e below (s₁.setTop (mkF m 2 #[.val (.long q0), .second, .unset, .unset, .unset, .unset] [(.double (FP.l2d q0))])) _
    refine X0.ldc2DoubleC hx hown (mvT hZ (hw _ (List.mem_of_getElem? (i := 13) rfl))) (g := (mkF m 2 #[.val (.long q0), .second, .unset, .unset, .unset, .unset] [(.double (FP.l2d q0))])) rfl (hb hby d2_2) _ ?_
    show Steps p.tables e below (s₁.setTop (mkF m 5 #[.val (.long q0), .second, .unset, .unset, .unset, .unset] [(.double (4472406533629990549 : UInt64)), (.double (FP.l2d q0))])) _
    refine XS.dmulS X0.here hx rfl (hb hby d2_5) rfl (own_nn _) rfl ?_
    show Steps p.tables e below (s₁.setTop (mkF m 6 #[.val (.long q0), .second, .unset, .unset, .unset, .unset] [(.double (FP.dmul (FP.l2d q0) (4472406533629990549 : UInt64)))])) _
    refine XS.d2lS X0.here hx rfl (hb hby d2_6) rfl rfl ?_
    exact k)
  obtain ⟨v2, hv2⟩ : ∃ z : Int64, z = (FP.d2l (FP.dmul (FP.l2d q0) (4472406533629990549 : UInt64))) := ⟨_, rfl⟩
  rw [← hv2] at ks1
  have ks3 : own_R p e below (s₁.setTop (entryFrame m #[(.long q0)] 6)) (s₁.setTop (mkF m 15 #[.val (.long q0), .second, .val (.long v2), .second, .unset, .unset] [(.long (q0 - (v2 * (1000000000 : Int64))))])) := fun t k => ks1 t (by
    show Steps p.tables e below (s₁.setTop (mkF m 7 #[.val (.long q0), .second, .unset, .unset, .unset, .unset] [(.long v2)])) _
    refine XS.lstoreN X0.here hx rfl (hb hby d2_7) rfl (l' := #[.val (.long q0), .second, .val (.long v2), .second, .unset, .unset]) rfl ?_
    show Steps p.tables e below (s₁.setTop (mkF m 8 #[.val (.long q0), .second, .val (.long v2), .second, .unset, .unset] [])) _
    refine XS.lloadN X0.here hx rfl (hb hby d2_8) rfl ?_
    show Steps p.tables e below (s₁.setTop (mkF m 9 #[.val (.long q0), .second, .val (.long v2), .second, .unset, .unset] [(.long q0)])) _
    refine XS.lloadN X0.here hx rfl (hb hby d2_9) rfl ?_
    show Steps p.tables e below (s₁.setTop (mkF m 10 #[.val (.long q0), .second, .val (.long v2), .second, .unset, .unset] [(.long v2), (.long q0)])) _
    refine X0.ldc2Long hx hown (mvT hZ (hw _ (List.mem_of_getElem? (i := 14) rfl))) (g := (mkF m 10 #[.val (.long q0), .second, .val (.long v2), .second, .unset, .unset] [(.long v2), (.long q0)])) rfl (hb hby d2_10) _ ?_
    show Steps p.tables e below (s₁.setTop (mkF m 13 #[.val (.long q0), .second, .val (.long v2), .second, .unset, .unset] [(.long (1000000000 : Int64)), (.long v2), (.long q0)])) _
    refine XS.lmul X0.here hx rfl (hb hby d2_13) rfl ?_
    show Steps p.tables e below (s₁.setTop (mkF m 14 #[.val (.long q0), .second, .val (.long v2), .second, .unset, .unset] [(.long (v2 * (1000000000 : Int64))), (.long q0)])) _
    refine XS.lsub X0.here hx rfl (hb hby d2_14) rfl ?_
    exact k)
  obtain ⟨v4, hv4⟩ : ∃ z : Int64, z = (q0 - (v2 * (1000000000 : Int64))) := ⟨_, rfl⟩
  rw [← hv4] at ks3
  have ks5 : own_R p e below (s₁.setTop (entryFrame m #[(.long q0)] 6)) (s₁.setTop (mkF m 21 #[.val (.long q0), .second, .val (.long v2), .second, .val (.long v4), .second] [(.int (lcmpW v4 (0 : Int64)))])) := fun t k => ks3 t (by
    show Steps p.tables e below (s₁.setTop (mkF m 15 #[.val (.long q0), .second, .val (.long v2), .second, .unset, .unset] [(.long v4)])) _
    refine XS.lstore X0.here hx rfl (hb hby d2_15) rfl (l' := #[.val (.long q0), .second, .val (.long v2), .second, .val (.long v4), .second]) rfl ?_
    show Steps p.tables e below (s₁.setTop (mkF m 17 #[.val (.long q0), .second, .val (.long v2), .second, .val (.long v4), .second] [])) _
    refine XS.lload X0.here hx rfl (hb hby d2_17) rfl ?_
    show Steps p.tables e below (s₁.setTop (mkF m 19 #[.val (.long q0), .second, .val (.long v2), .second, .val (.long v4), .second] [(.long v4)])) _
    refine XS.lconst X0.here hx rfl (hb hby d2_19) ?_
    show Steps p.tables e below (s₁.setTop (mkF m 20 #[.val (.long q0), .second, .val (.long v2), .second, .val (.long v4), .second] [(.long (0 : Int64)), (.long v4)])) _
    refine XS.lcmp X0.here hx rfl (hb hby d2_20) rfl ?_
    exact k)
  by_cases hc6 : v4 < (0 : Int64)
  · skip
    have ks7 : own_R p e below (s₁.setTop (entryFrame m #[(.long q0)] 6)) (s₁.setTop (mkF m 45 #[.val (.long q0), .second, .val (.long (v2 - (1 : Int64))), .second, .val (.long v4), .second] [(.long (v2 - (1 : Int64)))])) := fun t k => ks5 t (by
      show Steps p.tables e below (s₁.setTop (mkF m 21 #[.val (.long q0), .second, .val (.long v2), .second, .val (.long v4), .second] [(.int (lcmpW v4 (0 : Int64)))])) _
      refine XS.ifNo X0.here hx rfl (hb hby d2_21) rfl ((if0 _ _).trans (tlt ((lw_lt _ _).mpr hc6)).2.1) ?_
      show Steps p.tables e below (s₁.setTop (mkF m 24 #[.val (.long q0), .second, .val (.long v2), .second, .val (.long v4), .second] [])) _
      refine XS.lloadN X0.here hx rfl (hb hby d2_24) rfl ?_
      show Steps p.tables e below (s₁.setTop (mkF m 25 #[.val (.long q0), .second, .val (.long v2), .second, .val (.long v4), .second] [(.long v2)])) _
      refine XS.lconst X0.here hx rfl (hb hby d2_25) ?_
      show Steps p.tables e below (s₁.setTop (mkF m 26 #[.val (.long q0), .second, .val (.long v2), .second, .val (.long v4), .second] [(.long (1 : Int64)), (.long v2)])) _
      refine XS.lsub X0.here hx rfl (hb hby d2_26) rfl ?_
      show Steps p.tables e below (s₁.setTop (mkF m 27 #[.val (.long q0), .second, .val (.long v2), .second, .val (.long v4), .second] [(.long (v2 - (1 : Int64)))])) _
      refine XS.lstoreN X0.here hx rfl (hb hby d2_27) rfl (l' := #[.val (.long q0), .second, .val (.long (v2 - (1 : Int64))), .second, .val (.long v4), .second]) rfl ?_
      show Steps p.tables e below (s₁.setTop (mkF m 28 #[.val (.long q0), .second, .val (.long (v2 - (1 : Int64))), .second, .val (.long v4), .second] [])) _
      refine XS.goto X0.here hx rfl (pc0 := 28) (pc' := 44) rfl (hb hby d2_28) (by decide) (by decide) ?_
      show Steps p.tables e below (s₁.setTop (mkF m 44 #[.val (.long q0), .second, .val (.long (v2 - (1 : Int64))), .second, .val (.long v4), .second] [])) _
      refine XS.lloadN X0.here hx rfl (hb hby d2_44) rfl ?_
      exact k)
    obtain ⟨fs, hr, hrun, hended, hW, hsame⟩ := X0.leave (v := some (.long (v2 - (1 : Int64)))) (fun h => by rw [Bd.returns] at h; cases h)
    refine ⟨_, _, ks7 _ ?_, hrun, hended, _, _, rfl, ?_, ⟨_, rfl⟩, hW, hsame.mono (by decide) (by decide)⟩
    · exact retOut X0 hx Bd.returns rfl (Or.inr (Or.inl ⟨rfl, rfl, _, rfl⟩)) (hb hby d2_45) hr
    · show Q2 Z q0 h0 n0 _ s₁.heap _
      rw [e0]
      subst hv4
      subst hv2
      refine ⟨?_, N0, rfl⟩
      rw [own_lq, if_pos hc6]
  · skip
    have ks8 : own_R p e below (s₁.setTop (entryFrame m #[(.long q0)] 6)) (s₁.setTop (mkF m 37 #[.val (.long q0), .second, .val (.long v2), .second, .val (.long v4), .second] [(.int (lcmpW v4 (1000000000 : Int64)))])) := fun t k => ks5 t (by
      show Steps p.tables e below (s₁.setTop (mkF m 21 #[.val (.long q0), .second, .val (.long v2), .second, .val (.long v4), .second] [(.int (lcmpW v4 (0 : Int64)))])) _
      refine XS.ifYes X0.here hx rfl (pc0 := 21) (pc' := 31) rfl (hb hby d2_21) rfl ((if0 _ _).trans (flt (fun q => hc6 ((lw_lt _ _).mp q))).2.1) (by decide) (by decide) ?_
      show Steps p.tables e below (s₁.setTop (mkF m 31 #[.val (.long q0), .second, .val (.long v2), .second, .val (.long v4), .second] [])) _
      refine XS.lload X0.here hx rfl (hb hby d2_31) rfl ?_
      show Steps p.tables e below (s₁.setTop (mkF m 33 #[.val (.long q0), .second, .val (.long v2), .second, .val (.long v4), .second] [(.long v4)])) _
      refine X0.ldc2Long hx hown (mvT hZ (hw _ (List.mem_of_getElem? (i := 14) rfl))) (g := (mkF m 33 #[.val (.long q0), .second, .val (.long v2), .second, .val (.long v4), .second] [(.long v4)])) rfl (hb hby d2_33) _ ?_
      show Steps p.tables e below (s₁.setTop (mkF m 36 #[.val (.long q0), .second, .val (.long v2), .second, .val (.long v4), .second] [(.long (1000000000 : Int64)), (.long v4)])) _
      refine XS.lcmp X0.here hx rfl (hb hby d2_36) rfl ?_
      exact k)
    by_cases hc9 : v4 < (1000000000 : Int64)
    · skip
      have ks10 : own_R p e below (s₁.setTop (entryFrame m #[(.long q0)] 6)) (s₁.setTop (mkF m 45 #[.val (.long q0), .second, .val (.long v2), .second, .val (.long v4), .second] [(.long v2)])) := fun t k => ks8 t (by
        show Steps p.tables e below (s₁.setTop (mkF m 37 #[.val (.long q0), .second, .val (.long v2), .second, .val (.long v4), .second] [(.int (lcmpW v4 (1000000000 : Int64)))])) _
        refine XS.ifYes X0.here hx rfl (pc0 := 37) (pc' := 44) rfl (hb hby d2_37) rfl ((if0 _ _).trans (tlt ((lw_lt _ _).mpr hc9)).1) (by decide) (by decide) ?_
        show Steps p.tables e below (s₁.setTop (mkF m 44 #[.val (.long q0), .second, .val (.long v2), .second, .val (.long v4), .second] [])) _
        refine XS.lloadN X0.here hx rfl (hb hby d2_44) rfl ?_
        exact k)
      obtain ⟨fs, hr, hrun, hended, hW, hsame⟩ := X0.leave (v := some (.long v2)) (fun h => by rw [Bd.returns] at h; cases h)
      refine ⟨_, _, ks10 _ ?_, hrun, hended, _, _, rfl, ?_, ⟨_, rfl⟩, hW, hsame.mono (by decide) (by decide)⟩
      · exact retOut X0 hx Bd.returns rfl (Or.inr (Or.inl ⟨rfl, rfl, _, rfl⟩)) (hb hby d2_45) hr
      · show Q2 Z q0 h0 n0 _ s₁.heap _
        rw [e0]
        subst hv4
        subst hv2
        refine ⟨?_, N0, rfl⟩
        rw [own_lq, if_neg hc6, if_pos hc9]
    · skip
      have ks11 : own_R p e below (s₁.setTop (entryFrame m #[(.long q0)] 6)) (s₁.setTop (mkF m 45 #[.val (.long q0), .second, .val (.long (v2 + (1 : Int64))), .second, .val (.long v4), .second] [(.long (v2 + (1 : Int64)))])) := fun t k => ks8 t (by
        show Steps p.tables e below (s₁.setTop (mkF m 37 #[.val (.long q0), .second, .val (.long v2), .second, .val (.long v4), .second] [(.int (lcmpW v4 (1000000000 : Int64)))])) _
        refine XS.ifNo X0.here hx rfl (hb hby d2_37) rfl ((if0 _ _).trans (flt (fun q => hc9 ((lw_lt _ _).mp q))).1) ?_
        show Steps p.tables e below (s₁.setTop (mkF m 40 #[.val (.long q0), .second, .val (.long v2), .second, .val (.long v4), .second] [])) _
        refine XS.lloadN X0.here hx rfl (hb hby d2_40) rfl ?_
        show Steps p.tables e below (s₁.setTop (mkF m 41 #[.val (.long q0), .second, .val (.long v2), .second, .val (.long v4), .second] [(.long v2)])) _
        refine XS.lconst X0.here hx rfl (hb hby d2_41) ?_
        show Steps p.tables e below (s₁.setTop (mkF m 42 #[.val (.long q0), .second, .val (.long v2), .second, .val (.long v4), .second] [(.long (1 : Int64)), (.long v2)])) _
        refine XS.ladd X0.here hx rfl (hb hby d2_42) rfl ?_
        show Steps p.tables e below (s₁.setTop (mkF m 43 #[.val (.long q0), .second, .val (.long v2), .second, .val (.long v4), .second] [(.long (v2 + (1 : Int64)))])) _
        refine XS.lstoreN X0.here hx rfl (hb hby d2_43) rfl (l' := #[.val (.long q0), .second, .val (.long (v2 + (1 : Int64))), .second, .val (.long v4), .second]) rfl ?_
        show Steps p.tables e below (s₁.setTop (mkF m 44 #[.val (.long q0), .second, .val (.long (v2 + (1 : Int64))), .second, .val (.long v4), .second] [])) _
        refine XS.lloadN X0.here hx rfl (hb hby d2_44) rfl ?_
        exact k)
      obtain ⟨fs, hr, hrun, hended, hW, hsame⟩ := X0.leave (v := some (.long (v2 + (1 : Int64)))) (fun h => by rw [Bd.returns] at h; cases h)
      refine ⟨_, _, ks11 _ ?_, hrun, hended, _, _, rfl, ?_, ⟨_, rfl⟩, hW, hsame.mono (by decide) (by decide)⟩
      · exact retOut X0 hx Bd.returns rfl (Or.inr (Or.inl ⟨rfl, rfl, _, rfl⟩)) (hb hby d2_45) hr
      · show Q2 Z q0 h0 n0 _ s₁.heap _
        rw [e0]
        subst hv4
        subst hv2
        refine ⟨?_, N0, rfl⟩
        rw [own_lq, if_neg hc6, if_neg hc9]

theorem own_law (x : Int64) (h : 0 ≤ x.toInt) : own_lq x = x / (1000000000 : Int64) := by
  obtain ⟨q0, q1, q2⟩ := own_q x h
  unfold own_lq
  show (if (x - (FP.Core.d2l (FP.Core.dmul (FP.Core.l2d x) 4472406533629990549) * (1000000000 : Int64))) < (0 : Int64) then (FP.Core.d2l (FP.Core.dmul (FP.Core.l2d x) 4472406533629990549) - (1 : Int64)) else (if (x - (FP.Core.d2l (FP.Core.dmul (FP.Core.l2d x) 4472406533629990549) * (1000000000 : Int64))) < (1000000000 : Int64) then FP.Core.d2l (FP.Core.dmul (FP.Core.l2d x) 4472406533629990549) else (FP.Core.d2l (FP.Core.dmul (FP.Core.l2d x) 4472406533629990549) + (1 : Int64)))) = _
  generalize FP.Core.d2l (FP.Core.dmul (FP.Core.l2d x) 4472406533629990549) = q at *
  have r := rng64 x
  have m1 := c_lmul q 1000000000; rw [show (1000000000 : Int64).toInt = 1000000000 from rfl] at m1
  have r1 := rng64 (q * 1000000000)
  have m2 := c_lsub x (q * 1000000000); have r2 := rng64 (x - q * 1000000000)
  have m3 := c_lsub q 1; rw [show (1 : Int64).toInt = 1 from rfl] at m3
  have r3 := rng64 (q - 1)
  have m4 := c_ladd q 1; rw [show (1 : Int64).toInt = 1 from rfl] at m4
  have r4 := rng64 (q + 1)
  have d := (c_ldiv x 1000000000 1000000000 rfl (by decide)).1 h
  have z0 : (0 : Int64).toInt = 0 := rfl
  have z1 : (1000000000 : Int64).toInt = 1000000000 := rfl
  apply Int64.toInt_inj.mp
  rw [d]
  by_cases a : (x - (q * (1000000000 : Int64))) < (0 : Int64)
  · rw [if_pos a]; rw [Int64.lt_iff_toInt_lt] at a; omega
  · rw [if_neg a]
    by_cases b : (x - (q * (1000000000 : Int64))) < (1000000000 : Int64)
    · rw [if_pos b]; rw [Int64.lt_iff_toInt_lt] at a b; omega
    · rw [if_neg b]; rw [Int64.lt_iff_toInt_lt] at a b; omega
theorem own_pos1 (a : Int64) : 0 ≤ (a &&& (9223372036854775807 : Int64)).toInt := by
  have : (a &&& (9223372036854775807 : Int64)).toInt = a.toInt % 9223372036854775808 := c_maskL a 9223372036854775807 63 (by decide) (by decide)
  omega
theorem own_pos2 (y : Int64) : 0 ≤ (own_max (0 : Int64) y).toInt := by
  unfold own_max
  have z0 : (0 : Int64).toInt = 0 := rfl
  split
  · rename_i h; rw [Int64.lt_iff_toInt_lt] at h; omega
  · omega
theorem pn_0 : plainName "com/example/gearwork/gearwork/core/DecimalLimbQuotientPinLaw" = true := by first | (simp [plainName, overriddenIn]; done) | decide +kernel
theorem pd_0 : parseMethodDescriptor "(JJ)J" = some ⟨[.long, .long], some .long⟩ := by decide +kernel
theorem pd_1 : parseMethodDescriptor "(J)J" = some ⟨[.long], some .long⟩ := by decide +kernel
theorem ef_0 (m : MethodId) (x0 : Int64) (x1 : Int64) (x2 : Int32) (x3 : Int32) : entryFrame m #[(.long x0), (.long x1), (.int x2), (.int x3)] maxLocals = mkF m 0 #[.val (.long x0), .second, .val (.long x1), .second, .val (.int x2), .val (.int x3), .unset, .unset, .unset, .unset, .unset, .unset] [] := by first | (simp [entryFrame, mkF, argsToLocals, Value.category, maxLocals]; done) | rfl
def Q0 (Z : State) (q0 : Int64) (q1 : Int64) (p2 : Int32) (p3 : Int32) (h0 : Heap) (n0 : Nat) (v : Option Value) (h : Heap) (L : List Loc) : Prop := v = some (.int (1 : Int32)) ∧ Fr n0 L
set_option maxRecDepth 65536 in
set_option maxHeartbeats 40000000 in
theorem rm0 (l : Launch) (Z : State) (a0 : Array Value) (hw : ∀ d ∈ tables_1, d.before a0 Z = true) (ws : List Jvm.Cond) (q0 : Int64) (q1 : Int64) (p2 : Int32) (p3 : Int32) (h0 : Heap) (n0 : Nat) (Z0 : n0 ≤ h0.size) :
    MetFree l x (head1 (Jvm.Cond.code x code maxLocals ret :: ws) room_1) (fun a U => a = #[(.long q0), (.long q1), (.int p2), (.int p3)] ∧ Z.Warmed39 U.vm ∧ U.heap = h0) (fun _ _ _ _ _ => True) (fun _ U o U' => ∃ v L, o = .returned v ∧ Q0 Z q0 q1 p2 p3 h0 n0 v U'.heap L ∧ FrameEnd U o U' L 0 0) := by
  refine MetFree.of_bodySF (plainFor_of_name pn_0) hisR ?_
  intro p e s m args below meth c s₁ Bd hml0 hP hK
  obtain ⟨rfl, hZ, hh⟩ := hP
  have hx := Bd.exec
  have hby := Bd.bytes
  have hml : c.maxLocals = 12 := hml0
  have hown : s.vm.findClass "com/example/gearwork/gearwork/core/DecimalLimbQuotientPinLaw" = some m.cls := findClass_of_methodNamed Bd.named
  have hnm := (name_of_methodNamed Bd.named Bd.method).1
  have X0 : Stand p l e room_1 s m #[(.long q0), (.long q1), (.int p2), (.int p3)] below meth c s₁ [] 0 0 := Stand.of_body Bd
  have e0 : s₁.heap = h0 := by rw [← hh, Bd.state]; rfl
  have N0 := Fr.nil n0
  have k0 : own_R p e below (s₁.setTop (entryFrame m #[(.long q0), (.long q1), (.int p2), (.int p3)] maxLocals)) (s₁.setTop (mkF m 0 #[.val (.long q0), .second, .val (.long q1), .second, .val (.int p2), .val (.int p3), .unset, .unset, .unset, .unset, .unset, .unset] [])) := fun t k => castTop (ef_0 m q0 q1 p2 p3) k
  have ks1 : own_R p e below (s₁.setTop (entryFrame m #[(.long q0), (.long q1), (.int p2), (.int p3)] maxLocals)) (s₁.setTop (mkF m 4 #[.val (.long q0), .second, .val (.long q1), .second, .val (.int p2), .val (.int p3), .unset, .unset, .unset, .unset, .unset, .unset] [(.int (p3 &&& (1 : Int32)))])) := fun t k => k0 t (by
    show Steps p.tables e below (s₁.setTop (mkF m 0 #[.val (.long q0), .second, .val (.long q1), .second, .val (.int p2), .val (.int p3), .unset, .unset, .unset, .unset, .unset, .unset] [])) _
    refine XS.iload X0.here hx rfl (hb hby at_0) rfl ?_
    show Steps p.tables e below (s₁.setTop (mkF m 2 #[.val (.long q0), .second, .val (.long q1), .second, .val (.int p2), .val (.int p3), .unset, .unset, .unset, .unset, .unset, .unset] [(.int p3)])) _
    refine XS.iconst X0.here hx rfl (hb hby at_2) ?_
    show Steps p.tables e below (s₁.setTop (mkF m 3 #[.val (.long q0), .second, .val (.long q1), .second, .val (.int p2), .val (.int p3), .unset, .unset, .unset, .unset, .unset, .unset] [(.int (1 : Int32)), (.int p3)])) _
    refine XS.iand X0.here hx rfl (hb hby at_3) rfl ?_
    exact k)
  by_cases hc2 : (p3 &&& (1 : Int32)) = (0 : Int32)
  · skip
    have ks3 : own_R p e below (s₁.setTop (entryFrame m #[(.long q0), (.long q1), (.int p2), (.int p3)] maxLocals)) (s₁.setTop (mkF m 12 #[.val (.long q0), .second, .val (.long q1), .second, .val (.int p2), .val (.int p3), .unset, .unset, .unset, .unset, .unset, .unset] [(.long (q0 &&& (9223372036854775807 : Int64)))])) := fun t k => ks1 t (by
      show Steps p.tables e below (s₁.setTop (mkF m 4 #[.val (.long q0), .second, .val (.long q1), .second, .val (.int p2), .val (.int p3), .unset, .unset, .unset, .unset, .unset, .unset] [(.int (p3 &&& (1 : Int32)))])) _
      refine XS.ifNo X0.here hx rfl (hb hby at_4) rfl ((if0 _ _).trans (teq hc2).2) ?_
      show Steps p.tables e below (s₁.setTop (mkF m 7 #[.val (.long q0), .second, .val (.long q1), .second, .val (.int p2), .val (.int p3), .unset, .unset, .unset, .unset, .unset, .unset] [])) _
      refine XS.lloadN X0.here hx rfl (hb hby at_7) rfl ?_
      show Steps p.tables e below (s₁.setTop (mkF m 8 #[.val (.long q0), .second, .val (.long q1), .second, .val (.int p2), .val (.int p3), .unset, .unset, .unset, .unset, .unset, .unset] [(.long q0)])) _
      refine X0.ldc2Long hx hown (mvT hZ (hw _ (List.mem_of_getElem? (i := 0) rfl))) (g := (mkF m 8 #[.val (.long q0), .second, .val (.long q1), .second, .val (.int p2), .val (.int p3), .unset, .unset, .unset, .unset, .unset, .unset] [(.long q0)])) rfl (hb hby at_8) _ ?_
      show Steps p.tables e below (s₁.setTop (mkF m 11 #[.val (.long q0), .second, .val (.long q1), .second, .val (.int p2), .val (.int p3), .unset, .unset, .unset, .unset, .unset, .unset] [(.long (9223372036854775807 : Int64)), (.long q0)])) _
      refine XS.land X0.here hx rfl (hb hby at_11) rfl ?_
      exact k)
    obtain ⟨v4, hv4⟩ : ∃ z : Int64, z = (q0 &&& (9223372036854775807 : Int64)) := ⟨_, rfl⟩
    rw [← hv4] at ks3
    have ks5 : own_R p e below (s₁.setTop (entryFrame m #[(.long q0), (.long q1), (.int p2), (.int p3)] maxLocals)) (s₁.setTop (mkF m 61 #[.val (.long q0), .second, .val (.long q1), .second, .val (.int p2), .val (.int p3), .val (.long v4), .second, .unset, .unset, .unset, .unset] [(.long v4)])) := fun t k => ks3 t (by
      show Steps p.tables e below (s₁.setTop (mkF m 12 #[.val (.long q0), .second, .val (.long q1), .second, .val (.int p2), .val (.int p3), .unset, .unset, .unset, .unset, .unset, .unset] [(.long v4)])) _
      refine XS.lstore X0.here hx rfl (hb hby at_12) rfl (l' := #[.val (.long q0), .second, .val (.long q1), .second, .val (.int p2), .val (.int p3), .val (.long v4), .second, .unset, .unset, .unset, .unset]) rfl ?_
      show Steps p.tables e below (s₁.setTop (mkF m 14 #[.val (.long q0), .second, .val (.long q1), .second, .val (.int p2), .val (.int p3), .val (.long v4), .second, .unset, .unset, .unset, .unset] [])) _
      refine XS.goto X0.here hx rfl (pc0 := 14) (pc' := 59) rfl (hb hby at_14) (by decide) (by decide) ?_
      show Steps p.tables e below (s₁.setTop (mkF m 59 #[.val (.long q0), .second, .val (.long q1), .second, .val (.int p2), .val (.int p3), .val (.long v4), .second, .unset, .unset, .unset, .unset] [])) _
      refine XS.lload X0.here hx rfl (hb hby at_59) rfl ?_
      exact k)
    obtain ⟨_, _, ⟨T6, L6, k6, n6⟩, -, X6, ⟨Lc6, hQ6, lq6, yq6, zq6⟩, st6⟩ := Jvm.LawKit.callS X0 hx (y := (⟨"com/example/gearwork/gearwork/core/Decimal", "limbQuotient", "(J)J"⟩ : MethodName)) hown (mvT hZ (hw _ (List.mem_of_getElem? (i := 9) rfl))) (mvT hZ (hw _ (List.mem_of_getElem? (i := 10) rfl))) (mvT hZ (hw _ (List.mem_of_getElem? (i := 11) rfl))) (mvT hZ (hw _ (List.mem_of_getElem? (i := 12) rfl))) (by decide) (backOf (W := 0) (rm2 l Z a0 hw [] v4 h0 n0 Z0 ) hZ (hw _ (List.mem_of_getElem? (i := 12) rfl)) (hw _ (List.mem_of_getElem? (i := 11) rfl)) (by decide) (by decide)) (g := (mkF m 61 #[.val (.long q0), .second, .val (.long q1), .second, .val (.int p2), .val (.int p3), .val (.long v4), .second, .unset, .unset, .unset, .unset] [(.long v4)])) rfl (by rw [hml]; rfl) (argsL := [(.long v4)]) (rest := []) (lenOf pd_1 rfl) rfl (by show 2 * 0 + _ ≤ _; exact Nat.le_of_eq rfl) (hb hby at_61) (fun _ _ => ⟨rfl, e0, (by decide : 0 + 0 ≤ _), (by decide : 0 + 0 ≤ _)⟩)
    dsimp only [Pt.U, Pt.locs, Pt.cells, Pt.slots] at X6 lq6 yq6 zq6 st6 hQ6
    subst lq6 yq6 zq6
    obtain ⟨rfl, Nq6, eq6⟩ := hQ6
    have N6 := Fr.app N0 Nq6
    have ks7 : own_R p e below (s₁.setTop (entryFrame m #[(.long q0), (.long q1), (.int p2), (.int p3)] maxLocals)) (T6.setTop (mkF m 64 #[.val (.long q0), .second, .val (.long q1), .second, .val (.int p2), .val (.int p3), .val (.long v4), .second, .unset, .unset, .unset, .unset] [(.long (own_lq v4))])) := fun t k => ks5 t (st6 t k)
    have ks8 : own_R p e below (s₁.setTop (entryFrame m #[(.long q0), (.long q1), (.int p2), (.int p3)] maxLocals)) (T6.setTop (mkF m 75 #[.val (.long q0), .second, .val (.long q1), .second, .val (.int p2), .val (.int p3), .val (.long v4), .second, .val (.long (own_lq v4)), .second, .unset, .unset] [(.int (lcmpW (own_lq v4) (v4 / (1000000000 : Int64))))])) := fun t k => ks7 t (by
      show Steps p.tables e below (T6.setTop (mkF m 64 #[.val (.long q0), .second, .val (.long q1), .second, .val (.int p2), .val (.int p3), .val (.long v4), .second, .unset, .unset, .unset, .unset] [(.long (own_lq v4))])) _
      refine XS.lstore X6.here hx rfl (hb hby at_64) rfl (l' := #[.val (.long q0), .second, .val (.long q1), .second, .val (.int p2), .val (.int p3), .val (.long v4), .second, .val (.long (own_lq v4)), .second, .unset, .unset]) rfl ?_
      show Steps p.tables e below (T6.setTop (mkF m 66 #[.val (.long q0), .second, .val (.long q1), .second, .val (.int p2), .val (.int p3), .val (.long v4), .second, .val (.long (own_lq v4)), .second, .unset, .unset] [])) _
      refine XS.lload X6.here hx rfl (hb hby at_66) rfl ?_
      show Steps p.tables e below (T6.setTop (mkF m 68 #[.val (.long q0), .second, .val (.long q1), .second, .val (.int p2), .val (.int p3), .val (.long v4), .second, .val (.long (own_lq v4)), .second, .unset, .unset] [(.long (own_lq v4))])) _
      refine XS.lload X6.here hx rfl (hb hby at_68) rfl ?_
      show Steps p.tables e below (T6.setTop (mkF m 70 #[.val (.long q0), .second, .val (.long q1), .second, .val (.int p2), .val (.int p3), .val (.long v4), .second, .val (.long (own_lq v4)), .second, .unset, .unset] [(.long v4), (.long (own_lq v4))])) _
      refine X6.ldc2Long hx hown (mvT hZ (hw _ (List.mem_of_getElem? (i := 4) rfl))) (g := (mkF m 70 #[.val (.long q0), .second, .val (.long q1), .second, .val (.int p2), .val (.int p3), .val (.long v4), .second, .val (.long (own_lq v4)), .second, .unset, .unset] [(.long v4), (.long (own_lq v4))])) rfl (hb hby at_70) _ ?_
      show Steps p.tables e below (T6.setTop (mkF m 73 #[.val (.long q0), .second, .val (.long q1), .second, .val (.int p2), .val (.int p3), .val (.long v4), .second, .val (.long (own_lq v4)), .second, .unset, .unset] [(.long (1000000000 : Int64)), (.long v4), (.long (own_lq v4))])) _
      refine XS.ldiv X6.here hx rfl (hb hby at_73) rfl (by decide) ?_
      show Steps p.tables e below (T6.setTop (mkF m 74 #[.val (.long q0), .second, .val (.long q1), .second, .val (.int p2), .val (.int p3), .val (.long v4), .second, .val (.long (own_lq v4)), .second, .unset, .unset] [(.long (v4 / (1000000000 : Int64))), (.long (own_lq v4))])) _
      refine XS.lcmp X6.here hx rfl (hb hby at_74) rfl ?_
      exact k)
    by_cases hc9 : (own_lq v4) = (v4 / (1000000000 : Int64))
    · skip
      have ks10 : own_R p e below (s₁.setTop (entryFrame m #[(.long q0), (.long q1), (.int p2), (.int p3)] maxLocals)) (T6.setTop (mkF m 83 #[.val (.long q0), .second, .val (.long q1), .second, .val (.int p2), .val (.int p3), .val (.long v4), .second, .val (.long (own_lq v4)), .second, .unset, .unset] [(.int (1 : Int32))])) := fun t k => ks8 t (by
        show Steps p.tables e below (T6.setTop (mkF m 75 #[.val (.long q0), .second, .val (.long q1), .second, .val (.int p2), .val (.int p3), .val (.long v4), .second, .val (.long (own_lq v4)), .second, .unset, .unset] [(.int (lcmpW (own_lq v4) (v4 / (1000000000 : Int64))))])) _
        refine XS.ifNo X6.here hx rfl (hb hby at_75) rfl ((if0 _ _).trans (teq ((lw_eq _ _).mpr hc9)).2) ?_
        show Steps p.tables e below (T6.setTop (mkF m 78 #[.val (.long q0), .second, .val (.long q1), .second, .val (.int p2), .val (.int p3), .val (.long v4), .second, .val (.long (own_lq v4)), .second, .unset, .unset] [])) _
        refine XS.iconst X6.here hx rfl (hb hby at_78) ?_
        show Steps p.tables e below (T6.setTop (mkF m 79 #[.val (.long q0), .second, .val (.long q1), .second, .val (.int p2), .val (.int p3), .val (.long v4), .second, .val (.long (own_lq v4)), .second, .unset, .unset] [(.int (1 : Int32))])) _
        refine XS.goto X6.here hx rfl (pc0 := 79) (pc' := 83) rfl (hb hby at_79) (by decide) (by decide) ?_
        exact k)
      obtain ⟨fs, hr, hrun, hended, hW, hsame⟩ := X6.leave (v := some (.int (1 : Int32))) (fun h => by rw [Bd.returns] at h; cases h)
      refine ⟨_, _, ks10 _ ?_, hrun, hended, _, _, rfl, ?_, ⟨_, rfl⟩, hW, hsame.mono (by decide) (by decide)⟩
      · exact retN X6 hx (t := .boolean) Bd.returns (by simp) (hb hby at_83) hr
      · show Q0 Z q0 q1 p2 p3 h0 n0 _ T6.heap _
        rw [eq6]
        exact ⟨rfl, N6⟩
    · skip
      have ks11 : own_R p e below (s₁.setTop (entryFrame m #[(.long q0), (.long q1), (.int p2), (.int p3)] maxLocals)) (T6.setTop (mkF m 83 #[.val (.long q0), .second, .val (.long q1), .second, .val (.int p2), .val (.int p3), .val (.long v4), .second, .val (.long (own_lq v4)), .second, .unset, .unset] [(.int (0 : Int32))])) := fun t k => ks8 t (by
        show Steps p.tables e below (T6.setTop (mkF m 75 #[.val (.long q0), .second, .val (.long q1), .second, .val (.int p2), .val (.int p3), .val (.long v4), .second, .val (.long (own_lq v4)), .second, .unset, .unset] [(.int (lcmpW (own_lq v4) (v4 / (1000000000 : Int64))))])) _
        refine XS.ifYes X6.here hx rfl (pc0 := 75) (pc' := 82) rfl (hb hby at_75) rfl ((if0 _ _).trans (feq (fun q => hc9 ((lw_eq _ _).mp q))).2) (by decide) (by decide) ?_
        show Steps p.tables e below (T6.setTop (mkF m 82 #[.val (.long q0), .second, .val (.long q1), .second, .val (.int p2), .val (.int p3), .val (.long v4), .second, .val (.long (own_lq v4)), .second, .unset, .unset] [])) _
        refine XS.iconst X6.here hx rfl (hb hby at_82) ?_
        exact k)
      obtain ⟨fs, hr, hrun, hended, hW, hsame⟩ := X6.leave (v := some (.int (0 : Int32))) (fun h => by rw [Bd.returns] at h; cases h)
      refine ⟨_, _, ks11 _ ?_, hrun, hended, _, _, rfl, ?_, ⟨_, rfl⟩, hW, hsame.mono (by decide) (by decide)⟩
      · exact retN X6 hx (t := .boolean) Bd.returns (by simp) (hb hby at_83) hr
      · show Q0 Z q0 q1 p2 p3 h0 n0 _ T6.heap _
        rw [eq6]
        exfalso
        apply hc9
        exact own_law v4 (by rw [hv4]; exact own_pos1 _)
  · skip
    have ks12 : own_R p e below (s₁.setTop (entryFrame m #[(.long q0), (.long q1), (.int p2), (.int p3)] maxLocals)) (s₁.setTop (mkF m 26 #[.val (.long q0), .second, .val (.long q1), .second, .val (.int p2), .val (.int p3), .unset, .unset, .unset, .unset, .unset, .unset] [(.long ((q1 &&& (9223372036854775807 : Int64)) - ((q1 &&& (9223372036854775807 : Int64)) / (9223372036 : Int64)) * (9223372036 : Int64)))])) := fun t k => ks1 t (by
      show Steps p.tables e below (s₁.setTop (mkF m 4 #[.val (.long q0), .second, .val (.long q1), .second, .val (.int p2), .val (.int p3), .unset, .unset, .unset, .unset, .unset, .unset] [(.int (p3 &&& (1 : Int32)))])) _
      refine XS.ifYes X0.here hx rfl (pc0 := 4) (pc' := 17) rfl (hb hby at_4) rfl ((if0 _ _).trans (feq hc2).2) (by decide) (by decide) ?_
      show Steps p.tables e below (s₁.setTop (mkF m 17 #[.val (.long q0), .second, .val (.long q1), .second, .val (.int p2), .val (.int p3), .unset, .unset, .unset, .unset, .unset, .unset] [])) _
      refine XS.lloadN X0.here hx rfl (hb hby at_17) rfl ?_
      show Steps p.tables e below (s₁.setTop (mkF m 18 #[.val (.long q0), .second, .val (.long q1), .second, .val (.int p2), .val (.int p3), .unset, .unset, .unset, .unset, .unset, .unset] [(.long q1)])) _
      refine X0.ldc2Long hx hown (mvT hZ (hw _ (List.mem_of_getElem? (i := 0) rfl))) (g := (mkF m 18 #[.val (.long q0), .second, .val (.long q1), .second, .val (.int p2), .val (.int p3), .unset, .unset, .unset, .unset, .unset, .unset] [(.long q1)])) rfl (hb hby at_18) _ ?_
      show Steps p.tables e below (s₁.setTop (mkF m 21 #[.val (.long q0), .second, .val (.long q1), .second, .val (.int p2), .val (.int p3), .unset, .unset, .unset, .unset, .unset, .unset] [(.long (9223372036854775807 : Int64)), (.long q1)])) _
      refine XS.land X0.here hx rfl (hb hby at_21) rfl ?_
      show Steps p.tables e below (s₁.setTop (mkF m 22 #[.val (.long q0), .second, .val (.long q1), .second, .val (.int p2), .val (.int p3), .unset, .unset, .unset, .unset, .unset, .unset] [(.long (q1 &&& (9223372036854775807 : Int64)))])) _
      refine X0.ldc2Long hx hown (mvT hZ (hw _ (List.mem_of_getElem? (i := 1) rfl))) (g := (mkF m 22 #[.val (.long q0), .second, .val (.long q1), .second, .val (.int p2), .val (.int p3), .unset, .unset, .unset, .unset, .unset, .unset] [(.long (q1 &&& (9223372036854775807 : Int64)))])) rfl (hb hby at_22) _ ?_
      show Steps p.tables e below (s₁.setTop (mkF m 25 #[.val (.long q0), .second, .val (.long q1), .second, .val (.int p2), .val (.int p3), .unset, .unset, .unset, .unset, .unset, .unset] [(.long (9223372036 : Int64)), (.long (q1 &&& (9223372036854775807 : Int64)))])) _
      refine XS.lrem X0.here hx rfl (hb hby at_25) rfl (by decide) ?_
      exact k)
    obtain ⟨v13, hv13⟩ : ∃ z : Int64, z = ((q1 &&& (9223372036854775807 : Int64)) - ((q1 &&& (9223372036854775807 : Int64)) / (9223372036 : Int64)) * (9223372036 : Int64)) := ⟨_, rfl⟩
    rw [← hv13] at ks12
    have ks14 : own_R p e below (s₁.setTop (entryFrame m #[(.long q0), (.long q1), (.int p2), (.int p3)] maxLocals)) (s₁.setTop (mkF m 42 #[.val (.long q0), .second, .val (.long q1), .second, .val (.int p2), .val (.int p3), .unset, .unset, .val (.long v13), .second, .unset, .unset] [(.long ((((p2 &&& (2147483647 : Int32)) % (8193 : Int32)).toInt64) - (4096 : Int64)))])) := fun t k => ks12 t (by
      show Steps p.tables e below (s₁.setTop (mkF m 26 #[.val (.long q0), .second, .val (.long q1), .second, .val (.int p2), .val (.int p3), .unset, .unset, .unset, .unset, .unset, .unset] [(.long v13)])) _
      refine XS.lstore X0.here hx rfl (hb hby at_26) rfl (l' := #[.val (.long q0), .second, .val (.long q1), .second, .val (.int p2), .val (.int p3), .unset, .unset, .val (.long v13), .second, .unset, .unset]) rfl ?_
      show Steps p.tables e below (s₁.setTop (mkF m 28 #[.val (.long q0), .second, .val (.long q1), .second, .val (.int p2), .val (.int p3), .unset, .unset, .val (.long v13), .second, .unset, .unset] [])) _
      refine XS.iload X0.here hx rfl (hb hby at_28) rfl ?_
      show Steps p.tables e below (s₁.setTop (mkF m 30 #[.val (.long q0), .second, .val (.long q1), .second, .val (.int p2), .val (.int p3), .unset, .unset, .val (.long v13), .second, .unset, .unset] [(.int p2)])) _
      refine X0.ldcInt hx hown (mvT hZ (hw _ (List.mem_of_getElem? (i := 2) rfl))) (g := (mkF m 30 #[.val (.long q0), .second, .val (.long q1), .second, .val (.int p2), .val (.int p3), .unset, .unset, .val (.long v13), .second, .unset, .unset] [(.int p2)])) rfl (hb hby at_30) _ ?_
      show Steps p.tables e below (s₁.setTop (mkF m 32 #[.val (.long q0), .second, .val (.long q1), .second, .val (.int p2), .val (.int p3), .unset, .unset, .val (.long v13), .second, .unset, .unset] [(.int (2147483647 : Int32)), (.int p2)])) _
      refine XS.iand X0.here hx rfl (hb hby at_32) rfl ?_
      show Steps p.tables e below (s₁.setTop (mkF m 33 #[.val (.long q0), .second, .val (.long q1), .second, .val (.int p2), .val (.int p3), .unset, .unset, .val (.long v13), .second, .unset, .unset] [(.int (p2 &&& (2147483647 : Int32)))])) _
      refine XS.sipush X0.here hx rfl (hb hby at_33) ?_
      show Steps p.tables e below (s₁.setTop (mkF m 36 #[.val (.long q0), .second, .val (.long q1), .second, .val (.int p2), .val (.int p3), .unset, .unset, .val (.long v13), .second, .unset, .unset] [(.int (8193 : Int32)), (.int (p2 &&& (2147483647 : Int32)))])) _
      refine Jvm.RoadKit.iremM X0 hx rfl (hb hby at_36) rfl (by decide) ?_
      show Steps p.tables e below (s₁.setTop (mkF m 37 #[.val (.long q0), .second, .val (.long q1), .second, .val (.int p2), .val (.int p3), .unset, .unset, .val (.long v13), .second, .unset, .unset] [(.int ((p2 &&& (2147483647 : Int32)) % (8193 : Int32)))])) _
      refine XS.i2l X0.here hx rfl (hb hby at_37) rfl ?_
      show Steps p.tables e below (s₁.setTop (mkF m 38 #[.val (.long q0), .second, .val (.long q1), .second, .val (.int p2), .val (.int p3), .unset, .unset, .val (.long v13), .second, .unset, .unset] [(.long (((p2 &&& (2147483647 : Int32)) % (8193 : Int32)).toInt64))])) _
      refine X0.ldc2Long hx hown (mvT hZ (hw _ (List.mem_of_getElem? (i := 3) rfl))) (g := (mkF m 38 #[.val (.long q0), .second, .val (.long q1), .second, .val (.int p2), .val (.int p3), .unset, .unset, .val (.long v13), .second, .unset, .unset] [(.long (((p2 &&& (2147483647 : Int32)) % (8193 : Int32)).toInt64))])) rfl (hb hby at_38) _ ?_
      show Steps p.tables e below (s₁.setTop (mkF m 41 #[.val (.long q0), .second, .val (.long q1), .second, .val (.int p2), .val (.int p3), .unset, .unset, .val (.long v13), .second, .unset, .unset] [(.long (4096 : Int64)), (.long (((p2 &&& (2147483647 : Int32)) % (8193 : Int32)).toInt64))])) _
      refine XS.lsub X0.here hx rfl (hb hby at_41) rfl ?_
      exact k)
    obtain ⟨v15, hv15⟩ : ∃ z : Int64, z = ((((p2 &&& (2147483647 : Int32)) % (8193 : Int32)).toInt64) - (4096 : Int64)) := ⟨_, rfl⟩
    rw [← hv15] at ks14
    have ks16 : own_R p e below (s₁.setTop (entryFrame m #[(.long q0), (.long q1), (.int p2), (.int p3)] maxLocals)) (s₁.setTop (mkF m 54 #[.val (.long q0), .second, .val (.long q1), .second, .val (.int p2), .val (.int p3), .unset, .unset, .val (.long v13), .second, .val (.long v15), .second] [(.long ((v13 * (1000000000 : Int64)) + v15)), (.long (0 : Int64))])) := fun t k => ks14 t (by
      show Steps p.tables e below (s₁.setTop (mkF m 42 #[.val (.long q0), .second, .val (.long q1), .second, .val (.int p2), .val (.int p3), .unset, .unset, .val (.long v13), .second, .unset, .unset] [(.long v15)])) _
      refine XS.lstore X0.here hx rfl (hb hby at_42) rfl (l' := #[.val (.long q0), .second, .val (.long q1), .second, .val (.int p2), .val (.int p3), .unset, .unset, .val (.long v13), .second, .val (.long v15), .second]) rfl ?_
      show Steps p.tables e below (s₁.setTop (mkF m 44 #[.val (.long q0), .second, .val (.long q1), .second, .val (.int p2), .val (.int p3), .unset, .unset, .val (.long v13), .second, .val (.long v15), .second] [])) _
      refine XS.lconst X0.here hx rfl (hb hby at_44) ?_
      show Steps p.tables e below (s₁.setTop (mkF m 45 #[.val (.long q0), .second, .val (.long q1), .second, .val (.int p2), .val (.int p3), .unset, .unset, .val (.long v13), .second, .val (.long v15), .second] [(.long (0 : Int64))])) _
      refine XS.lload X0.here hx rfl (hb hby at_45) rfl ?_
      show Steps p.tables e below (s₁.setTop (mkF m 47 #[.val (.long q0), .second, .val (.long q1), .second, .val (.int p2), .val (.int p3), .unset, .unset, .val (.long v13), .second, .val (.long v15), .second] [(.long v13), (.long (0 : Int64))])) _
      refine X0.ldc2Long hx hown (mvT hZ (hw _ (List.mem_of_getElem? (i := 4) rfl))) (g := (mkF m 47 #[.val (.long q0), .second, .val (.long q1), .second, .val (.int p2), .val (.int p3), .unset, .unset, .val (.long v13), .second, .val (.long v15), .second] [(.long v13), (.long (0 : Int64))])) rfl (hb hby at_47) _ ?_
      show Steps p.tables e below (s₁.setTop (mkF m 50 #[.val (.long q0), .second, .val (.long q1), .second, .val (.int p2), .val (.int p3), .unset, .unset, .val (.long v13), .second, .val (.long v15), .second] [(.long (1000000000 : Int64)), (.long v13), (.long (0 : Int64))])) _
      refine XS.lmul X0.here hx rfl (hb hby at_50) rfl ?_
      show Steps p.tables e below (s₁.setTop (mkF m 51 #[.val (.long q0), .second, .val (.long q1), .second, .val (.int p2), .val (.int p3), .unset, .unset, .val (.long v13), .second, .val (.long v15), .second] [(.long (v13 * (1000000000 : Int64))), (.long (0 : Int64))])) _
      refine XS.lload X0.here hx rfl (hb hby at_51) rfl ?_
      show Steps p.tables e below (s₁.setTop (mkF m 53 #[.val (.long q0), .second, .val (.long q1), .second, .val (.int p2), .val (.int p3), .unset, .unset, .val (.long v13), .second, .val (.long v15), .second] [(.long v15), (.long (v13 * (1000000000 : Int64))), (.long (0 : Int64))])) _
      refine XS.ladd X0.here hx rfl (hb hby at_53) rfl ?_
      exact k)
    obtain ⟨_, _, ⟨T17, L17, k17, n17⟩, -, X17, ⟨Lc17, hQ17, lq17, yq17, zq17⟩, st17⟩ := Jvm.LawKit.callS X0 hx (y := (⟨"java/lang/Math", "max", "(JJ)J"⟩ : MethodName)) hown (mvT hZ (hw _ (List.mem_of_getElem? (i := 5) rfl))) (mvT hZ (hw _ (List.mem_of_getElem? (i := 6) rfl))) (mvT hZ (hw _ (List.mem_of_getElem? (i := 7) rfl))) (mvT hZ (hw _ (List.mem_of_getElem? (i := 8) rfl))) (by decide) (backOf (W := 0) (rm1 l Z a0 hw [] (0 : Int64) ((v13 * (1000000000 : Int64)) + v15) h0 n0 Z0 ) hZ (hw _ (List.mem_of_getElem? (i := 8) rfl)) (hw _ (List.mem_of_getElem? (i := 7) rfl)) (by decide) (by decide)) (g := (mkF m 54 #[.val (.long q0), .second, .val (.long q1), .second, .val (.int p2), .val (.int p3), .unset, .unset, .val (.long v13), .second, .val (.long v15), .second] [(.long ((v13 * (1000000000 : Int64)) + v15)), (.long (0 : Int64))])) rfl (by rw [hml]; rfl) (argsL := [(.long (0 : Int64)), (.long ((v13 * (1000000000 : Int64)) + v15))]) (rest := []) (lenOf pd_0 rfl) rfl (by show 2 * 0 + _ ≤ _; exact Nat.le_of_eq rfl) (hb hby at_54) (fun _ _ => ⟨rfl, e0, (by decide : 0 + 0 ≤ _), (by decide : 0 + 0 ≤ _)⟩)
    dsimp only [Pt.U, Pt.locs, Pt.cells, Pt.slots] at X17 lq17 yq17 zq17 st17 hQ17
    subst lq17 yq17 zq17
    obtain ⟨rfl, Nq17, eq17⟩ := hQ17
    have N17 := Fr.app N0 Nq17
    have ks18 : own_R p e below (s₁.setTop (entryFrame m #[(.long q0), (.long q1), (.int p2), (.int p3)] maxLocals)) (T17.setTop (mkF m 57 #[.val (.long q0), .second, .val (.long q1), .second, .val (.int p2), .val (.int p3), .unset, .unset, .val (.long v13), .second, .val (.long v15), .second] [(.long (own_max (0 : Int64) ((v13 * (1000000000 : Int64)) + v15)))])) := fun t k => ks16 t (st17 t k)
    obtain ⟨v19, hv19⟩ : ∃ z : Int64, z = (own_max (0 : Int64) ((v13 * (1000000000 : Int64)) + v15)) := ⟨_, rfl⟩
    rw [← hv19] at ks18
    have ks20 : own_R p e below (s₁.setTop (entryFrame m #[(.long q0), (.long q1), (.int p2), (.int p3)] maxLocals)) (T17.setTop (mkF m 61 #[.val (.long q0), .second, .val (.long q1), .second, .val (.int p2), .val (.int p3), .val (.long v19), .second, .val (.long v13), .second, .val (.long v15), .second] [(.long v19)])) := fun t k => ks18 t (by
      show Steps p.tables e below (T17.setTop (mkF m 57 #[.val (.long q0), .second, .val (.long q1), .second, .val (.int p2), .val (.int p3), .unset, .unset, .val (.long v13), .second, .val (.long v15), .second] [(.long v19)])) _
      refine XS.lstore X17.here hx rfl (hb hby at_57) rfl (l' := #[.val (.long q0), .second, .val (.long q1), .second, .val (.int p2), .val (.int p3), .val (.long v19), .second, .val (.long v13), .second, .val (.long v15), .second]) rfl ?_
      show Steps p.tables e below (T17.setTop (mkF m 59 #[.val (.long q0), .second, .val (.long q1), .second, .val (.int p2), .val (.int p3), .val (.long v19), .second, .val (.long v13), .second, .val (.long v15), .second] [])) _
      refine XS.lload X17.here hx rfl (hb hby at_59) rfl ?_
      exact k)
    obtain ⟨_, _, ⟨T21, L21, k21, n21⟩, -, X21, ⟨Lc21, hQ21, lq21, yq21, zq21⟩, st21⟩ := Jvm.LawKit.callS X17 hx (y := (⟨"com/example/gearwork/gearwork/core/Decimal", "limbQuotient", "(J)J"⟩ : MethodName)) hown (mvT hZ (hw _ (List.mem_of_getElem? (i := 9) rfl))) (mvT hZ (hw _ (List.mem_of_getElem? (i := 10) rfl))) (mvT hZ (hw _ (List.mem_of_getElem? (i := 11) rfl))) (mvT hZ (hw _ (List.mem_of_getElem? (i := 12) rfl))) (by decide) (backOf (W := 0) (rm2 l Z a0 hw [] v19 h0 n0 Z0 ) hZ (hw _ (List.mem_of_getElem? (i := 12) rfl)) (hw _ (List.mem_of_getElem? (i := 11) rfl)) (by decide) (by decide)) (g := (mkF m 61 #[.val (.long q0), .second, .val (.long q1), .second, .val (.int p2), .val (.int p3), .val (.long v19), .second, .val (.long v13), .second, .val (.long v15), .second] [(.long v19)])) rfl (by rw [hml]; rfl) (argsL := [(.long v19)]) (rest := []) (lenOf pd_1 rfl) rfl (by show 2 * 0 + _ ≤ _; exact Nat.le_of_eq rfl) (hb hby at_61) (fun _ _ => ⟨rfl, eq17, (by decide : 0 + 0 ≤ _), (by decide : 0 + 0 ≤ _)⟩)
    dsimp only [Pt.U, Pt.locs, Pt.cells, Pt.slots] at X21 lq21 yq21 zq21 st21 hQ21
    subst lq21 yq21 zq21
    obtain ⟨rfl, Nq21, eq21⟩ := hQ21
    have N21 := Fr.app N17 Nq21
    have ks22 : own_R p e below (s₁.setTop (entryFrame m #[(.long q0), (.long q1), (.int p2), (.int p3)] maxLocals)) (T21.setTop (mkF m 64 #[.val (.long q0), .second, .val (.long q1), .second, .val (.int p2), .val (.int p3), .val (.long v19), .second, .val (.long v13), .second, .val (.long v15), .second] [(.long (own_lq v19))])) := fun t k => ks20 t (st21 t k)
    have ks23 : own_R p e below (s₁.setTop (entryFrame m #[(.long q0), (.long q1), (.int p2), (.int p3)] maxLocals)) (T21.setTop (mkF m 75 #[.val (.long q0), .second, .val (.long q1), .second, .val (.int p2), .val (.int p3), .val (.long v19), .second, .val (.long (own_lq v19)), .second, .val (.long v15), .second] [(.int (lcmpW (own_lq v19) (v19 / (1000000000 : Int64))))])) := fun t k => ks22 t (by
      show Steps p.tables e below (T21.setTop (mkF m 64 #[.val (.long q0), .second, .val (.long q1), .second, .val (.int p2), .val (.int p3), .val (.long v19), .second, .val (.long v13), .second, .val (.long v15), .second] [(.long (own_lq v19))])) _
      refine XS.lstore X21.here hx rfl (hb hby at_64) rfl (l' := #[.val (.long q0), .second, .val (.long q1), .second, .val (.int p2), .val (.int p3), .val (.long v19), .second, .val (.long (own_lq v19)), .second, .val (.long v15), .second]) rfl ?_
      show Steps p.tables e below (T21.setTop (mkF m 66 #[.val (.long q0), .second, .val (.long q1), .second, .val (.int p2), .val (.int p3), .val (.long v19), .second, .val (.long (own_lq v19)), .second, .val (.long v15), .second] [])) _
      refine XS.lload X21.here hx rfl (hb hby at_66) rfl ?_
      show Steps p.tables e below (T21.setTop (mkF m 68 #[.val (.long q0), .second, .val (.long q1), .second, .val (.int p2), .val (.int p3), .val (.long v19), .second, .val (.long (own_lq v19)), .second, .val (.long v15), .second] [(.long (own_lq v19))])) _
      refine XS.lload X21.here hx rfl (hb hby at_68) rfl ?_
      show Steps p.tables e below (T21.setTop (mkF m 70 #[.val (.long q0), .second, .val (.long q1), .second, .val (.int p2), .val (.int p3), .val (.long v19), .second, .val (.long (own_lq v19)), .second, .val (.long v15), .second] [(.long v19), (.long (own_lq v19))])) _
      refine X21.ldc2Long hx hown (mvT hZ (hw _ (List.mem_of_getElem? (i := 4) rfl))) (g := (mkF m 70 #[.val (.long q0), .second, .val (.long q1), .second, .val (.int p2), .val (.int p3), .val (.long v19), .second, .val (.long (own_lq v19)), .second, .val (.long v15), .second] [(.long v19), (.long (own_lq v19))])) rfl (hb hby at_70) _ ?_
      show Steps p.tables e below (T21.setTop (mkF m 73 #[.val (.long q0), .second, .val (.long q1), .second, .val (.int p2), .val (.int p3), .val (.long v19), .second, .val (.long (own_lq v19)), .second, .val (.long v15), .second] [(.long (1000000000 : Int64)), (.long v19), (.long (own_lq v19))])) _
      refine XS.ldiv X21.here hx rfl (hb hby at_73) rfl (by decide) ?_
      show Steps p.tables e below (T21.setTop (mkF m 74 #[.val (.long q0), .second, .val (.long q1), .second, .val (.int p2), .val (.int p3), .val (.long v19), .second, .val (.long (own_lq v19)), .second, .val (.long v15), .second] [(.long (v19 / (1000000000 : Int64))), (.long (own_lq v19))])) _
      refine XS.lcmp X21.here hx rfl (hb hby at_74) rfl ?_
      exact k)
    by_cases hc24 : (own_lq v19) = (v19 / (1000000000 : Int64))
    · skip
      have ks25 : own_R p e below (s₁.setTop (entryFrame m #[(.long q0), (.long q1), (.int p2), (.int p3)] maxLocals)) (T21.setTop (mkF m 83 #[.val (.long q0), .second, .val (.long q1), .second, .val (.int p2), .val (.int p3), .val (.long v19), .second, .val (.long (own_lq v19)), .second, .val (.long v15), .second] [(.int (1 : Int32))])) := fun t k => ks23 t (by
        show Steps p.tables e below (T21.setTop (mkF m 75 #[.val (.long q0), .second, .val (.long q1), .second, .val (.int p2), .val (.int p3), .val (.long v19), .second, .val (.long (own_lq v19)), .second, .val (.long v15), .second] [(.int (lcmpW (own_lq v19) (v19 / (1000000000 : Int64))))])) _
        refine XS.ifNo X21.here hx rfl (hb hby at_75) rfl ((if0 _ _).trans (teq ((lw_eq _ _).mpr hc24)).2) ?_
        show Steps p.tables e below (T21.setTop (mkF m 78 #[.val (.long q0), .second, .val (.long q1), .second, .val (.int p2), .val (.int p3), .val (.long v19), .second, .val (.long (own_lq v19)), .second, .val (.long v15), .second] [])) _
        refine XS.iconst X21.here hx rfl (hb hby at_78) ?_
        show Steps p.tables e below (T21.setTop (mkF m 79 #[.val (.long q0), .second, .val (.long q1), .second, .val (.int p2), .val (.int p3), .val (.long v19), .second, .val (.long (own_lq v19)), .second, .val (.long v15), .second] [(.int (1 : Int32))])) _
        refine XS.goto X21.here hx rfl (pc0 := 79) (pc' := 83) rfl (hb hby at_79) (by decide) (by decide) ?_
        exact k)
      obtain ⟨fs, hr, hrun, hended, hW, hsame⟩ := X21.leave (v := some (.int (1 : Int32))) (fun h => by rw [Bd.returns] at h; cases h)
      refine ⟨_, _, ks25 _ ?_, hrun, hended, _, _, rfl, ?_, ⟨_, rfl⟩, hW, hsame.mono (by decide) (by decide)⟩
      · exact retN X21 hx (t := .boolean) Bd.returns (by simp) (hb hby at_83) hr
      · show Q0 Z q0 q1 p2 p3 h0 n0 _ T21.heap _
        rw [eq21]
        exact ⟨rfl, N21⟩
    · skip
      have ks26 : own_R p e below (s₁.setTop (entryFrame m #[(.long q0), (.long q1), (.int p2), (.int p3)] maxLocals)) (T21.setTop (mkF m 83 #[.val (.long q0), .second, .val (.long q1), .second, .val (.int p2), .val (.int p3), .val (.long v19), .second, .val (.long (own_lq v19)), .second, .val (.long v15), .second] [(.int (0 : Int32))])) := fun t k => ks23 t (by
        show Steps p.tables e below (T21.setTop (mkF m 75 #[.val (.long q0), .second, .val (.long q1), .second, .val (.int p2), .val (.int p3), .val (.long v19), .second, .val (.long (own_lq v19)), .second, .val (.long v15), .second] [(.int (lcmpW (own_lq v19) (v19 / (1000000000 : Int64))))])) _
        refine XS.ifYes X21.here hx rfl (pc0 := 75) (pc' := 82) rfl (hb hby at_75) rfl ((if0 _ _).trans (feq (fun q => hc24 ((lw_eq _ _).mp q))).2) (by decide) (by decide) ?_
        show Steps p.tables e below (T21.setTop (mkF m 82 #[.val (.long q0), .second, .val (.long q1), .second, .val (.int p2), .val (.int p3), .val (.long v19), .second, .val (.long (own_lq v19)), .second, .val (.long v15), .second] [])) _
        refine XS.iconst X21.here hx rfl (hb hby at_82) ?_
        exact k)
      obtain ⟨fs, hr, hrun, hended, hW, hsame⟩ := X21.leave (v := some (.int (0 : Int32))) (fun h => by rw [Bd.returns] at h; cases h)
      refine ⟨_, _, ks26 _ ?_, hrun, hended, _, _, rfl, ?_, ⟨_, rfl⟩, hW, hsame.mono (by decide) (by decide)⟩
      · exact retN X21 hx (t := .boolean) Bd.returns (by simp) (hb hby at_83) hr
      · show Q0 Z q0 q1 p2 p3 h0 n0 _ T21.heap _
        rw [eq21]
        exfalso
        apply hc24
        exact own_law v19 (by rw [hv19]; exact own_pos2 _)
set_option maxRecDepth 65536 in
set_option maxHeartbeats 40000000 in
theorem comes_1 {Post : Tables → Env → Array Value → State → Outcome → State → Prop} (hpost : ∀ tb e args s v u, (limb_1_1.after args s (.returned v) u = true ∧ limb_1_2.after args s (.returned v) u = true ∧ True) → FrameEnd s (.returned v) u (Jvm.fieldLocs frame_1_writes args s ++ Jvm.arrayLocs frame_1_arrays args s ++ Jvm.staticLocs frame_1_statics s) 0 0 → Post tb e args s (.returned v) u) :
    ArmFor flags0 classFile x code maxLocals ret World_1 tables_1 room_1 Calls_1 rest_1 Pre_1 Post := by
  intro l hfl _ _ p e ha hc hk s m args below hf hA hF happ hP
  obtain ⟨hcalls, hrest, hpre⟩ := hP
  obtain ⟨-, -, -, hnamed, -, -, -, hat⟩ := (Spec.applies_iff hf).mp happ
  obtain ⟨hg, hn⟩ := and_e (Cond.before_iff.mp (show (Jvm.Cond.and given_1 narrow_1).before args s = true from hpre))
  obtain ⟨g1, g2⟩ := and_e hg
  obtain ⟨g3, g4⟩ := and_e g2
  obtain ⟨g5, g6⟩ := and_e g4
  obtain ⟨g7, g8⟩ := and_e g6
  obtain ⟨w0, w1, w2, w3, rfl⟩ : ∃ w0 w1 w2 w3 : Value, args = #[w0, w1, w2, w3] := by
    have hs : args.size = 4 := by simpa [Cond.value, given_1] using g1
    obtain ⟨L⟩ := args
    match L, hs with
    | [w0, w1, w2, w3], _ => exact ⟨w0, w1, w2, w3, rfl⟩
  have hw := fun d (hd : d ∈ tables_1) => atoms_spec (ws := Jvm.Cond.code x code maxLocals ret :: tables_1) hat d (List.mem_cons_of_mem _ hd)
  have hfit : Fit s := fun {y c} hc i hi => by
    obtain ⟨ha, rfl⟩ := Array.getElem?_eq_some_iff.mp hc
    have q := List.all_eq_true.mp ((Array.all_eq_true_iff_forall_mem.mp hF) _ (Array.getElem_mem ha)) i (List.mem_range.mpr hi)
    simpa [Array.getElem?_eq_getElem hi] using q
  obtain ⟨i0, ei0⟩ := isL_v g3
  obtain rfl : w0 = (.long i0) := Option.some.inj ei0
  obtain ⟨i1, ei1⟩ := isL_v g5
  obtain rfl : w1 = (.long i1) := Option.some.inj ei1
  obtain ⟨i2, ei2⟩ := is_v g7
  obtain rfl : w2 = (.int i2) := Option.some.inj ei2
  obtain ⟨i3, ei3⟩ := is_v g8
  obtain rfl : w3 = (.int i3) := Option.some.inj ei3
  obtain ⟨n, o, h1, h2, h3, _, L, rfl, ⟨rfl, N⟩, hq⟩ := rm0 l s _ hw tables_1 i0 i1 i2 i3 s.heap s.heap.size (Nat.le_refl _)  p e ha hc hk s m _ below hf ((Spec.applies_iff_loose hf).mp happ).1 ⟨rfl, State.Warmed39.refl s, rfl⟩ trivial
  refine ⟨n, _, h1, h2, h3, hpost _ _ _ _ _ _ ⟨Cond.after_iff.mpr rfl, Cond.after_iff.mpr (eq_i res_at (Term.int_eval (1)) rfl), trivial⟩ ⟨hq.1, hq.2.1, (hq.2.2.sift fun y hy => Or.inr (N y hy)).mono (by decide) (by decide)⟩⟩
theorem main_1_1 : Claimed_1_1 := comes_1 fun _ _ _ _ _ _ h hF => ⟨h.1, hF⟩
theorem main_1_2 : Claimed_1_2 := comes_1 fun _ _ _ _ _ _ h hF => ⟨h.2.1, hF⟩
end Jvm.Pilot.@@N@@
namespace Jvm.Pilot.@@N@@
open Jvm Jvm.ClassFile Sem Op Lib Jvm.Free Jvm.Stand Jvm.Pilot.@@N@@.Jvm.D
/-! MADE BY PROGRAM (witnessworld.py) out of the Statement's table words and the real class files: 10 classes; the members and pool entries that the words name. The judged class is class 1, her method 1. -/
namespace start1
open Jvm.ClassFile
def u (s : String) : CpInfo := .utf8 (stringToUtf16 s)
/-- a pool by its gaps: so many unusable entries, then the entry; so many at the end -/
def gap : Nat → List CpInfo → List CpInfo
  | 0, r => r
  | n + 1, r => .unusable :: gap n r
def poolList (es : List (Nat × CpInfo)) (last : Nat) : List CpInfo := es.foldr (fun e r => gap e.1 (e.2 :: r)) (gap last [])
def pool (es : List (Nat × CpInfo)) (last : Nat) : Array CpInfo := ⟨poolList es last⟩
def fileOf (pool : Array CpInfo) (this : Nat) (attrs : Array Attribute := #[]) (ms : Array MethodInfo := #[]) (fl : Nat := 33) (sup : Nat := 0) (ifs : Array Nat := #[]) (fds : Array FieldInfo := #[]) : ClassFile where
  minorVersion := 0
  majorVersion := 65
  constantPool := pool
  accessFlags := fl
  thisClass := this
  superClass := sup
  interfaces := ifs
  fields := fds
  methods := ms
  attributes := attrs
def plain (name : String) (sup : Option ClassId) : Class where
  name := name
  kind := .ordinary
  loader := none
  accessFlags := 33
  super := sup
  interfaces := #[]
  cf := none
  fields := #[]
  methods := #[]
  instanceTypes := #[]
  staticTypes := #[]
  resolved := #[]
  callSites := []
  init := .initialized
  statics := none
  mirror := none

def pool0 : Array CpInfo := pool [(5, u "<init>"), (0, u "()V"), (1, .class_ 10), (1, u "java/lang/Object")] 113

def k0m0 : Method := { name := "<init>", desc := "()V", sig := { parameters := [], returnType := none }, accessFlags := 1, code := none }
/-- java/lang/Object -/
def k0 : Class := { plain "java/lang/Object" none with
  accessFlags := 33
  interfaces := #[]
  cf := some (fileOf pool0 8 #[] #[{ accessFlags := 1, nameIndex := 5, descriptorIndex := 6, attributes := #[] }] 33 0 #[] #[])
  fields := #[]
  methods := #[k0m0]
  instanceTypes := #[]
  staticTypes := #[]
  resolved := Array.replicate 124 none
  statics := none }

def pool1 : Array CpInfo := pool [(2, .class_ 4), (1, u "java/lang/Object"), (0, u "<init>"), (0, u "()V"), (2, .long 9223372036854775807), (1, .long 9223372036), (1, .integer 2147483647), (0, .long 4096), (1, .long 1000000000), (1, .methodref 19 20), (0, .class_ 21), (0, .nameAndType 22 23), (0, u "java/lang/Math"), (0, u "max"), (0, u "(JJ)J"), (0, .methodref 25 26), (0, .class_ 27), (0, .nameAndType 28 29), (0, u "com/example/gearwork/gearwork/core/Decimal"), (0, u "limbQuotient"), (0, u "(J)J"), (0, .class_ 31), (0, u "com/example/gearwork/gearwork/core/DecimalLimbQuotientPinLaw"), (2, u "law"), (0, u "(JJII)Z")] 3

def k1m0 : Method := { name := "<init>", desc := "()V", sig := { parameters := [], returnType := none }, accessFlags := 1, code := none }
def k1c1 : Code := { maxStack := 6, maxLocals := 12, code := code, exceptionTable := #[], attributes := #[] }
def k1m1 : Method := { name := "law", desc := "(JJII)Z", sig := { parameters := [.long, .long, .int, .int], returnType := some .boolean }, accessFlags := 9, code := some k1c1 }
/-- com/example/gearwork/gearwork/core/DecimalLimbQuotientPinLaw -/
def k1 : Class := { plain "com/example/gearwork/gearwork/core/DecimalLimbQuotientPinLaw" (some 0) with
  accessFlags := 49
  interfaces := #[]
  cf := some (fileOf pool1 30 #[] #[{ accessFlags := 1, nameIndex := 5, descriptorIndex := 6, attributes := #[] }, { accessFlags := 9, nameIndex := 34, descriptorIndex := 35, attributes := #[] }] 49 2 #[] #[])
  fields := #[]
  methods := #[k1m0, k1m1]
  instanceTypes := #[]
  staticTypes := #[]
  resolved := Array.replicate 39 none
  statics := none }

def pool2 : Array CpInfo := pool [(1, .class_ 2), (0, u "java/lang/Math"), (1, .class_ 6), (1, u "java/lang/Object"), (0, u "<init>"), (0, u "()V"), (89, .class_ 100), (1, u "java/lang/Math$RandomNumberGeneratorHolder"), (20, u "(JJ)J"), (50, u "negativeZeroFloatBits"), (0, u "J"), (2, u "negativeZeroDoubleBits"), (21, u "max"), (46, u "$assertionsDisabled"), (0, u "Z"), (91, u "twoToTheDoubleScaleDown"), (0, u "D"), (4, u "twoToTheDoubleScaleUp"), (9, u "E"), (3, u "PI"), (2, u "TAU"), (2, u "DEGREES_TO_RADIANS"), (0, u "RADIANS_TO_DEGREES")] 94

def k2m0 : Method := { name := "<init>", desc := "()V", sig := { parameters := [], returnType := none }, accessFlags := 2, code := none }
def k2c1 : Code := { maxStack := 4, maxLocals := 4, code := jdk_29_method_66_code, exceptionTable := #[], attributes := #[] }
def k2m1 : Method := { name := "max", desc := "(JJ)J", sig := { parameters := [.long, .long], returnType := some .long }, accessFlags := 9, code := some k2c1 }
/-- java/lang/Math -/
def k2 : Class := { plain "java/lang/Math" (some 0) with
  accessFlags := 49
  interfaces := #[]
  cf := some (fileOf pool2 1 #[.nestMembers #[98]] #[{ accessFlags := 2, nameIndex := 7, descriptorIndex := 8, attributes := #[] }, { accessFlags := 9, nameIndex := 198, descriptorIndex := 121, attributes := #[] }] 49 4 #[] #[{ accessFlags := 25, nameIndex := 354, descriptorIndex := 339, attributes := #[] }, { accessFlags := 25, nameIndex := 358, descriptorIndex := 339, attributes := #[] }, { accessFlags := 25, nameIndex := 361, descriptorIndex := 339, attributes := #[] }, { accessFlags := 26, nameIndex := 364, descriptorIndex := 339, attributes := #[] }, { accessFlags := 26, nameIndex := 365, descriptorIndex := 339, attributes := #[] }, { accessFlags := 26, nameIndex := 172, descriptorIndex := 173, attributes := #[] }, { accessFlags := 26, nameIndex := 176, descriptorIndex := 173, attributes := #[] }, { accessFlags := 8, nameIndex := 344, descriptorIndex := 339, attributes := #[] }, { accessFlags := 8, nameIndex := 338, descriptorIndex := 339, attributes := #[] }, { accessFlags := 4120, nameIndex := 245, descriptorIndex := 246, attributes := #[] }])
  fields := #[{ name := "E", type := .double, accessFlags := 25, slot := 0, constantValue := 0 }, { name := "PI", type := .double, accessFlags := 25, slot := 1, constantValue := 0 }, { name := "TAU", type := .double, accessFlags := 25, slot := 2, constantValue := 0 }, { name := "DEGREES_TO_RADIANS", type := .double, accessFlags := 26, slot := 3, constantValue := 0 }, { name := "RADIANS_TO_DEGREES", type := .double, accessFlags := 26, slot := 4, constantValue := 0 }, { name := "negativeZeroFloatBits", type := .long, accessFlags := 26, slot := 5, constantValue := 0 }, { name := "negativeZeroDoubleBits", type := .long, accessFlags := 26, slot := 6, constantValue := 0 }, { name := "twoToTheDoubleScaleUp", type := .double, accessFlags := 8, slot := 7, constantValue := 0 }, { name := "twoToTheDoubleScaleDown", type := .double, accessFlags := 8, slot := 8, constantValue := 0 }, { name := "$assertionsDisabled", type := .boolean, accessFlags := 4120, slot := 9, constantValue := 0 }]
  methods := #[k2m0, k2m1]
  instanceTypes := #[]
  staticTypes := #[.double, .double, .double, .double, .double, .long, .long, .double, .double, .boolean]
  resolved := Array.replicate 460 none
  statics := none }

def pool3 : Array CpInfo := pool [(2, .class_ 4), (1, u "java/lang/Object"), (3, .class_ 10), (1, u "com/example/gearwork/gearwork/core/Decimal"), (0, u "signum"), (0, u "I"), (2, u "limbs"), (0, u "[I"), (2, u "scale"), (29, u "TWO_LIMBS"), (0, u "Ljava/math/BigInteger;"), (4, .long 1000000000), (55, u "ZERO"), (0, u "Lcom/example/gearwork/gearwork/core/Decimal;"), (2, u "DIGITS"), (23, .class_ 141), (1, u "com/example/gearwork/gearwork/core/Decimal$Quotient"), (100, u "DIGIT_PAIRS"), (0, u "[B"), (0, .double 4472406533629990549), (5, u "limbQuotient"), (0, u "(J)J"), (10, u "POWERS_OF_TEN"), (2, u "NO_LIMBS"), (14, u "QUOTIENT_FACTORS"), (0, u "[J"), (2, u "QUOTIENT_SHIFTS"), (12, u "Ljava/math/MathContext;"), (2, u "PRECISION"), (18, u "ONE"), (0, u "LIMB"), (1, u "LIMB_DIGITS"), (1, u "COLUMN_TERMS")] 41

def k3c0 : Code := { maxStack := 6, maxLocals := 6, code := prog_15_method_23_code, exceptionTable := #[], attributes := #[] }
def k3m0 : Method := { name := "limbQuotient", desc := "(J)J", sig := { parameters := [.long], returnType := some .long }, accessFlags := 8, code := some k3c0 }
/-- com/example/gearwork/gearwork/core/Decimal -/
def k3 : Class := { plain "com/example/gearwork/gearwork/core/Decimal" (some 0) with
  accessFlags := 32
  interfaces := #[]
  cf := some (fileOf pool3 8 #[.nestMembers #[139]] #[{ accessFlags := 8, nameIndex := 250, descriptorIndex := 251, attributes := #[] }] 32 2 #[] #[{ accessFlags := 24, nameIndex := 300, descriptorIndex := 297, attributes := #[] }, { accessFlags := 26, nameIndex := 320, descriptorIndex := 12, attributes := #[] }, { accessFlags := 26, nameIndex := 322, descriptorIndex := 12, attributes := #[] }, { accessFlags := 26, nameIndex := 262, descriptorIndex := 16, attributes := #[] }, { accessFlags := 26, nameIndex := 242, descriptorIndex := 243, attributes := #[] }, { accessFlags := 26, nameIndex := 324, descriptorIndex := 12, attributes := #[] }, { accessFlags := 26, nameIndex := 280, descriptorIndex := 281, attributes := #[] }, { accessFlags := 26, nameIndex := 284, descriptorIndex := 16, attributes := #[] }, { accessFlags := 26, nameIndex := 49, descriptorIndex := 50, attributes := #[] }, { accessFlags := 26, nameIndex := 115, descriptorIndex := 12, attributes := #[] }, { accessFlags := 26, nameIndex := 265, descriptorIndex := 16, attributes := #[] }, { accessFlags := 24, nameIndex := 111, descriptorIndex := 112, attributes := #[] }, { accessFlags := 24, nameIndex := 319, descriptorIndex := 112, attributes := #[] }, { accessFlags := 18, nameIndex := 11, descriptorIndex := 12, attributes := #[] }, { accessFlags := 18, nameIndex := 15, descriptorIndex := 16, attributes := #[] }, { accessFlags := 18, nameIndex := 19, descriptorIndex := 12, attributes := #[] }])
  fields := #[{ name := "PRECISION", type := (.object "java/math/MathContext"), accessFlags := 24, slot := 0, constantValue := 0 }, { name := "LIMB", type := .int, accessFlags := 26, slot := 1, constantValue := 0 }, { name := "LIMB_DIGITS", type := .int, accessFlags := 26, slot := 2, constantValue := 0 }, { name := "POWERS_OF_TEN", type := (.array .int), accessFlags := 26, slot := 3, constantValue := 0 }, { name := "DIGIT_PAIRS", type := (.array .byte), accessFlags := 26, slot := 4, constantValue := 0 }, { name := "COLUMN_TERMS", type := .int, accessFlags := 26, slot := 5, constantValue := 0 }, { name := "QUOTIENT_FACTORS", type := (.array .long), accessFlags := 26, slot := 6, constantValue := 0 }, { name := "QUOTIENT_SHIFTS", type := (.array .int), accessFlags := 26, slot := 7, constantValue := 0 }, { name := "TWO_LIMBS", type := (.object "java/math/BigInteger"), accessFlags := 26, slot := 8, constantValue := 0 }, { name := "DIGITS", type := .int, accessFlags := 26, slot := 9, constantValue := 0 }, { name := "NO_LIMBS", type := (.array .int), accessFlags := 26, slot := 10, constantValue := 0 }, { name := "ZERO", type := (.object "com/example/gearwork/gearwork/core/Decimal"), accessFlags := 24, slot := 11, constantValue := 0 }, { name := "ONE", type := (.object "com/example/gearwork/gearwork/core/Decimal"), accessFlags := 24, slot := 12, constantValue := 0 }, { name := "signum", type := .int, accessFlags := 18, slot := 0, constantValue := 0 }, { name := "limbs", type := (.array .int), accessFlags := 18, slot := 1, constantValue := 0 }, { name := "scale", type := .int, accessFlags := 18, slot := 2, constantValue := 0 }]
  methods := #[k3m0]
  instanceTypes := #[.int, (.array .int), .int]
  staticTypes := #[(.object "java/math/MathContext"), .int, .int, (.array .int), (.array .byte), .int, (.array .long), (.array .int), (.object "java/math/BigInteger"), .int, (.array .int), (.object "com/example/gearwork/gearwork/core/Decimal"), (.object "com/example/gearwork/gearwork/core/Decimal")]
  resolved := Array.replicate 366 none
  statics := none }

def pool4 : Array CpInfo := pool [(1, u "java/lang/Cloneable"), (0, .class_ 1), (0, u "java/lang/Object"), (0, .class_ 3)] 3

/-- java/lang/Cloneable -/
def k4 : Class := { plain "java/lang/Cloneable" (some 0) with
  accessFlags := 1537
  interfaces := #[]
  cf := some (fileOf pool4 2 #[] #[] 1537 4 #[] #[])
  fields := #[]
  methods := #[]
  instanceTypes := #[]
  staticTypes := #[]
  resolved := Array.replicate 8 none
  statics := none }

def pool5 : Array CpInfo := pool [(1, u "java/io/Serializable"), (0, .class_ 1), (0, u "java/lang/Object"), (0, .class_ 3)] 3

/-- java/io/Serializable -/
def k5 : Class := { plain "java/io/Serializable" (some 0) with
  accessFlags := 1537
  interfaces := #[]
  cf := some (fileOf pool5 2 #[] #[] 1537 4 #[] #[])
  fields := #[]
  methods := #[]
  instanceTypes := #[]
  staticTypes := #[]
  resolved := Array.replicate 8 none
  statics := none }

/-- the primitive byte -/
def k6 : Class := { plain "byte" none with kind := .primitive 'B', accessFlags := 0x411 }
/-- [B -/
def k7 : Class := { plain "[B" (some 0) with kind := .array 6 .byte, interfaces := #[4, 5], accessFlags := 1041 }

/-- the primitive int -/
def k8 : Class := { plain "int" none with kind := .primitive 'I', accessFlags := 0x411 }
/-- [I -/
def k9 : Class := { plain "[I" (some 0) with kind := .array 8 .int, interfaces := #[4, 5], accessFlags := 1041 }

def heap : Heap := #[]
def classes : Array Class := #[k0, k1, k2, k3, k4, k5, k6, k7, k8, k9]
def interned : List (Array UInt16 × Addr) := []
def slotsUsed : Nat := 0
def theMethod : MethodId := ⟨1, 1⟩
def args0 : Array Value := #[.long 5000000000, .long 7, .int 3, .int 0]
def aboutOver (below : List Frame) : State where
  vm := { classes := classes, interned := interned.toArray }
  heap := heap
  slotsUsed := slotsUsed
  threads := #[{ frames := .invoking theMethod args0 :: below }]
def below0 : List Frame := [.native { method := ⟨0, 0⟩, args := #[] }]
def about1 : State := aboutOver below0
def p0 : Program := .bare "" "" ""
def e0 : Env := launch0.env 0 0 0
theorem w_frames : about1.frames = Frame.invoking theMethod args0 :: below0 := rfl
set_option maxRecDepth 65536 in
theorem w_args : argsFit about1.vm theMethod args0 = true := by decide +kernel
set_option maxRecDepth 65536 in
theorem w_heap : heapFits about1 = true := by decide +kernel
set_option maxRecDepth 65536 in
theorem w_runnable : about1.curStatus? = some .runnable := by decide +kernel
set_option maxRecDepth 65536 in
theorem w_alone : about1.alone = true := by decide +kernel
set_option maxRecDepth 65536 in
theorem w_named : about1.methodNamed? x = some theMethod := by decide +kernel
set_option maxRecDepth 65536 in
theorem w_hears : about1.hears theMethod below0 = true := by decide +kernel
set_option maxRecDepth 65536 in
theorem w_ripe : about1.ripe theMethod args0 below0 = true := by decide +kernel
theorem w_running : about1.status = .running := rfl
set_option maxRecDepth 65536 in
theorem w_room : about1.hasRoom e0.platform room_1 = true :=
  launch0.hasRoom_least _ room_1 (by decide +kernel) (by decide +kernel) (by decide +kernel) (by decide +kernel) (by decide +kernel) (by decide +kernel)
theorem allAtoms_all (ts : List Jvm.Cond) (a : Array Jvm.Value) (st : Jvm.State) : (allAtoms ts).before a st = ts.all (fun c => c.before a st) := by
  induction ts with
  | nil => rfl
  | cons c t ih =>
    show (Jvm.Cond.and c (allAtoms t)).before a st = _
    rw [Jvm.Cond.before_and, ih, List.all_cons]
def words1 : List Jvm.Cond := Jvm.Cond.code x code maxLocals ret :: tables_1
/-- a 'code' word, met by the world's own term for the bytes: nothing is compared byte by byte -/
theorem code_word {y : MethodName} {bytes : ByteArray} {mx : Nat} {rt : Option FieldType} {a : Array Value} {s : State} {m : MethodId} {meth : Method} {c : Code} (h1 : s.methodNamed? y = some m) (h2 : s.vm.method? m = some meth) (h3 : meth.code = some c) (h4 : c.code = bytes)
    (h5 : (c.maxLocals == mx && c.exceptionTable.isEmpty && decide (c.maxStack ≤ mostOperands) && decide (meth.sig.returnType = rt) && !meth.locks && decide (parseMethodDescriptor y.desc = some meth.sig)) = true) : (Jvm.Cond.code y bytes mx rt).before a s = true := by
  simp only [Bool.and_eq_true, beq_iff_eq, Bool.not_eq_true', decide_eq_true_eq] at h5
  obtain ⟨⟨⟨⟨⟨g1, g2⟩, g3⟩, g4⟩, g5⟩, g6⟩ := h5
  simp [Cond.before, Cond.holds, Cond.value, h1, h2, h3, h4, g1, g2, g3, g4, g5, g6]
def isCode : Jvm.Cond → Bool
  | .code _ _ _ _ => true
  | _ => false
theorem all_split {L : List Jvm.Cond} {P : Jvm.Cond → Bool} (h1 : L.all (fun c => isCode c || P c) = true) (h2 : ∀ c ∈ L.filter isCode, P c = true) : L.all P = true := by
  refine List.all_eq_true.mpr fun c hc => ?_
  have h := List.all_eq_true.mp h1 c hc
  rcases Bool.eq_false_or_eq_true (isCode c) with hi | hi
  · exact h2 c (List.mem_filter.mpr ⟨hc, hi⟩)
  · simpa [hi] using h
set_option maxRecDepth 65536 in
theorem w_c0 : (Jvm.Cond.code x code maxLocals ret).before args0 about1 = true := code_word (m := ⟨1, 1⟩) (meth := k1m1) (c := k1c1) (by decide +kernel) rfl rfl rfl (by decide +kernel)
set_option maxRecDepth 65536 in
theorem w_c1 : (Jvm.Cond.code ({ cls := "java/lang/Math", name := "max", desc := "(JJ)J" } : Jvm.MethodName) jdk_29_method_66_code (4 : Nat) (Option.some Jvm.ClassFile.FieldType.long)).before args0 about1 = true := code_word (m := ⟨2, 1⟩) (meth := k2m1) (c := k2c1) (by decide +kernel) rfl rfl rfl (by decide +kernel)
set_option maxRecDepth 65536 in
theorem w_c2 : (Jvm.Cond.code ({ cls := "com/example/gearwork/gearwork/core/Decimal", name := "limbQuotient", desc := "(J)J" } : Jvm.MethodName) prog_15_method_23_code (6 : Nat) (Option.some Jvm.ClassFile.FieldType.long)).before args0 about1 = true := code_word (m := ⟨3, 0⟩) (meth := k3m0) (c := k3c0) (by decide +kernel) rfl rfl rfl (by decide +kernel)
def codes1 : List Jvm.Cond := [Jvm.Cond.code x code maxLocals ret, Jvm.Cond.code ({ cls := "java/lang/Math", name := "max", desc := "(JJ)J" } : Jvm.MethodName) jdk_29_method_66_code (4 : Nat) (Option.some Jvm.ClassFile.FieldType.long), Jvm.Cond.code ({ cls := "com/example/gearwork/gearwork/core/Decimal", name := "limbQuotient", desc := "(J)J" } : Jvm.MethodName) prog_15_method_23_code (6 : Nat) (Option.some Jvm.ClassFile.FieldType.long)]
set_option maxRecDepth 65536 in
theorem codes_eq : words1.filter isCode = codes1 := rfl
theorem w_codes : ∀ c ∈ words1.filter isCode, c.before args0 about1 = true := by
  rw [codes_eq]
  intro c hc
  simp only [codes1, List.mem_cons, List.not_mem_nil, or_false] at hc
  rcases hc with rfl | rfl | rfl
  · exact w_c0
  · exact w_c1
  · exact w_c2
set_option maxRecDepth 65536 in
theorem w_t1 : words1.all (fun c => isCode c || c.before args0 about1) = true := by decide +kernel
theorem w_tables : (allAtoms (Jvm.Cond.code x code maxLocals ret :: tables_1)).before args0 about1 = true := by
  rw [allAtoms_all]
  show words1.all (fun c => c.before args0 about1) = true
  refine all_split ?_ w_codes
  rw [w_t1]
set_option maxRecDepth 65536 in
theorem w_case : (Jvm.Cond.and given_1 narrow_1).before args0 about1 = true := by decide +kernel
theorem w_applies : (headSpec (Jvm.Cond.code x code maxLocals ret :: tables_1) room_1).applies x e0.platform about1 = true :=
  (Spec.applies_iff w_frames).mpr ⟨w_running, w_runnable, w_alone, w_named, w_hears, w_ripe, w_room, w_tables⟩
theorem atStart : AtStart classFile x code maxLocals ret World_1 tables_1 room_1 Calls_1 rest_1 Pre_1 launch0 p0 e0 about1 theMethod args0 below0 :=
  ⟨lists_1, trivial, launch0.admits_env _ _ _, launch0.least_env, fairChoices_fair.cas, fairChoices_fair.clock, w_frames, w_args, w_heap, w_applies, trivial, trivial, w_case⟩
end start1
theorem witness_1 : WitnessClaimed_1 := ⟨start1.p0, start1.e0, start1.about1, start1.theMethod, start1.args0, start1.below0, start1.atStart⟩
end Jvm.Pilot.@@N@@
